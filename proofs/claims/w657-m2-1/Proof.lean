import JvmDerived
import JvmDerived.Pilot.@@N@@Statement
import JvmDerived.Pilot.@@N@@Code
set_option linter.unusedVariables false
set_option linter.unusedSimpArgs false
namespace Jvm.RoadKit
open Sem ClassFile Op Lib Jvm.Stand Jvm.Free Jvm.LawKit
section New
variable {p : Program} {l : Launch} {e : Env} {R : Room} {s : State} {m : MethodId} {args : Array Value} {below : List Frame} {meth : Method} {c : Code} {T : State} {locs : List Loc} {cells slots : Nat}
theorem retI (X : Stand p l e R s m args below meth c T locs cells slots) (hx : p.tables.exec = Jvm.exec) {pc : Nat} {Ls : Array Slot} {z : Int32} {rest : List Value} (hret : meth.sig.returnType = some .int) (hd : decode c.code pc = .ok (.ireturn, 1)) {fs : List Frame}
    (hl : ∀ (f : JFrame) (acts : List Action), f.method = m → f.locked = none → f.entered = [] → (doReturn e (T.setTop f) acts (some (.int z))).1 = T.setFrames fs) : Steps p.tables e below (T.setTop (mkF m pc Ls (.int z :: rest))) (T.setFrames fs) := by
  have hm' : T.vm.method? m = some meth := X.method'
  have hn : narrow .int (.int z) = .int z := rfl
  show Steps p.tables e below (T.setTop { method := m, pc := pc, locals := Ls, stack := _ :: rest, locked := none }) _
  jvm_step X.here [X.here.top, hx, hd, hm', hret, hn]
  first | (intro acts; rw [hl _ acts rfl rfl rfl]) | rw [hl _ _ rfl rfl rfl]
  exact Steps.refl _
end New
end Jvm.RoadKit
namespace Jvm.Pilot.@@N@@
open Jvm Jvm.ClassFile Sem Op Lib Jvm.Free Jvm.Stand Jvm.LawKit Jvm.RoadKit Bundle Jvm.Pilot.@@N@@.Jvm.D
theorem own_w {α : Type _} {l : List α} {a : α} (i : Nat) (h : l[i]? = some a) : a ∈ l := List.mem_of_getElem? h
theorem own_eqint {args : Array Value} {first s : State} {o : Option Outcome} {idx : List Nat} {t : Term} {n : Int32} (h : (Jvm.Cond.eq t (.int n)).value args first o s idx = some true) : t.eval args first o idx s = some (.int n) := by
  obtain ⟨x, y, hx, hy, -, k⟩ := cmp_v (Or.inl h)
  obtain rfl : y = .int n := (Option.some.inj ((Term.int_eval n).symm.trans hy)).symm
  obtain ⟨z, rfl⟩ := k
  simp only [Cond.value, hx, hy] at h
  rw [hx, show z = n by simpa using h]
theorem own_stakeep {Z : State} {h h' : Heap} {C n d : String} {v : Value} (K : Keep h h' []) (F : Sta Z h C n d v) : Sta Z h' C n d v := F.ext ⟨K.1, fun a c q => K.2.1 a c q nin0⟩
theorem own_selpriv {s : State} {args : Array Value} {y : MethodName} {n : Nat} (hi : (Jvm.Cond.instantiable y.cls n).before args s = true) (hp : s.PrivateAt y) (hinst : (Jvm.Cond.instanceMethod y).before args s = true) (hy : y.cls ≠ "java/lang/invoke/MethodHandle" ∧ y.cls ≠ "java/lang/invoke/VarHandle") : (Jvm.Cond.selects y.cls y y).before args s = true := by
  obtain ⟨c, k, h1, h2, h3, h4, -⟩ := Cond.instantiable_spec hi
  exact selects_self_of_private h1 h2 (Bool.or_eq_false_iff.mp h4).1 hp hinst hy
theorem own_lceq {a b : Int64} (h : a = b) : lcmpW a b = 0 := by subst h; simp [lcmpW, Int64.lt_irrefl]
theorem own_lcne {a b : Int64} (h : ¬ a = b) : ¬ lcmpW a b = 0 := by
  unfold lcmpW; split
  · decide
  · first | decide | (rw [if_neg h]; decide)
theorem own_lcgt {a b : Int64} (h : b < a) : (0 : Int32) < lcmpW a b := by unfold lcmpW; rw [if_pos h]; decide
theorem own_lcngt {a b : Int64} (h : ¬ b < a) : ¬ (0 : Int32) < lcmpW a b := by unfold lcmpW; rw [if_neg h]; split <;> decide
theorem own_lclt {a b : Int64} (h : a < b) : lcmpW a b < (0 : Int32) := by
  have h1 : ¬ b < a := fun q => by rw [Int64.lt_iff_toInt_lt] at h q; omega
  have h2 : ¬ a = b := fun q => by subst q; rw [Int64.lt_iff_toInt_lt] at h; omega
  unfold lcmpW; rw [if_neg h1, if_neg h2]; decide
theorem own_lcnlt {a b : Int64} (h : ¬ a < b) : ¬ lcmpW a b < (0 : Int32) := by
  unfold lcmpW; split
  · decide
  · split
    · decide
    · rename_i h1 h2; exact absurd (Int64.toInt_inj.mp (by simp only [gt_iff_lt, Int64.lt_iff_toInt_lt] at h h1; omega)) h2
def own_b (c : Int32) : Int32 := nar .byte (c.toInt8.toInt32)
def own_lo (c : Int32) : Int32 := nar .byte ((c >>> ((0 : Int32) &&& 31)).toInt8.toInt32)
def own_hi (c : Int32) : Int32 := nar .byte ((c >>> ((8 : Int32) &&& 31)).toInt8.toInt32)
def own_gc (a b : Int32) : Int32 := (((a &&& (255 : Int32)) <<< ((0 : Int32) &&& 31)) ||| ((b &&& (255 : Int32)) <<< ((8 : Int32) &&& 31))).toUInt32.toUInt16.toUInt32.toInt32
def own_g1 (a : Int32) : Int32 := (a &&& (255 : Int32)).toUInt32.toUInt16.toUInt32.toInt32
def own_ch (c : Int32) : Prop := 0 ≤ c.toInt ∧ c.toInt < 65536
theorem own_nb (x : Int32) : nar .byte (x.toInt8.toInt32) = x.toInt8.toInt32 := by simp [nar, narrow]
theorem own_b_m (c : Int32) : ((own_b c) &&& (255 : Int32)).toInt = c.toInt % 256 := by
  unfold own_b; rw [own_nb, c_mask _ (255 : Int32) 8 (by decide) (by decide)]
  have := c_i2b c; omega
theorem own_lo_m (c : Int32) : ((own_lo c) &&& (255 : Int32)).toInt = c.toInt % 256 := by
  unfold own_lo; rw [own_nb, c_mask _ (255 : Int32) 8 (by decide) (by decide)]
  have := c_i2b (c >>> ((0 : Int32) &&& 31)); have := c_ishr c (0 : Int32) 0 (by decide); omega
theorem own_hi_m (c : Int32) : ((own_hi c) &&& (255 : Int32)).toInt = (c.toInt / 256) % 256 := by
  unfold own_hi; rw [own_nb, c_mask _ (255 : Int32) 8 (by decide) (by decide)]
  have := c_i2b (c >>> ((8 : Int32) &&& 31)); have := c_ishr c (8 : Int32) 8 (by decide); omega
theorem own_g1_eq {c : Int32} (h : own_ch c) (hl : c.toInt < 256) : own_g1 (own_b c) = c := by
  apply Int32.toInt_inj.mp
  unfold own_g1; have a := c_i2c ((own_b c) &&& (255 : Int32)); have b := own_b_m c; unfold own_ch at h; omega
theorem own_gc_eq {c : Int32} (h : own_ch c) : own_gc (own_lo c) (own_hi c) = c := by
  apply Int32.toInt_inj.mp
  unfold own_gc
  have l := own_lo_m c; have u := own_hi_m c
  generalize ((own_lo c) &&& (255 : Int32)) = x at *
  generalize ((own_hi c) &&& (255 : Int32)) = y at *
  have sx := c_ishl x (0 : Int32) 0 (by decide); have sy := c_ishl y (8 : Int32) 8 (by decide)
  unfold own_ch at h
  have r1 := rng32 (x <<< ((0 : Int32) &&& 31)); have r2 := rng32 (y <<< ((8 : Int32) &&& 31))
  have o := c_or' (x <<< ((0 : Int32) &&& 31)) (y <<< ((8 : Int32) &&& 31)) 8 (by decide) 256 (by decide)
  have ex : (x <<< ((0 : Int32) &&& 31)).toInt = c.toInt % 256 := by omega
  have ey : (y <<< ((8 : Int32) &&& 31)).toInt = 256 * ((c.toInt / 256) % 256) := by omega
  have o2 := o (by omega) (by omega) (by omega)
  have q := c_i2c ((x <<< ((0 : Int32) &&& 31)) ||| (y <<< ((8 : Int32) &&& 31)))
  omega
def own_lat (cs : List Int32) : List Value := cs.map fun c => Value.int (own_b c)
def own_utf : List Int32 → List Value
  | [] => []
  | c :: r => .int (own_lo c) :: .int (own_hi c) :: own_utf r
theorem own_lat_at {cs : List Int32} {i : Nat} (h : i < cs.length) (d : Value) : (own_lat cs).getD i d = .int (own_b (cs.getD i 0)) := by
  simp [own_lat, List.getD_eq_getElem?_getD, h]
theorem own_utf_at : ∀ (cs : List Int32) (i : Nat) (d : Value), i < cs.length → (own_utf cs).getD (2 * i) d = .int (own_lo (cs.getD i 0)) ∧ (own_utf cs).getD (2 * i + 1) d = .int (own_hi (cs.getD i 0))
  | [], i, d, h => absurd h (Nat.not_lt_zero i)
  | c :: r, 0, d, _ => ⟨rfl, rfl⟩
  | c :: r, i + 1, d, h => by
    have q := own_utf_at r i d (Nat.lt_of_succ_lt_succ h)
    exact q
theorem own_utf_len : ∀ cs : List Int32, (own_utf cs).length = 2 * cs.length
  | [] => rfl
  | c :: r => by simp only [own_utf, List.length_cons, own_utf_len r]; omega
-- small numbers
theorem own_xN {i : Nat} (h : i < 16) : (Int32.ofNat i).toNatClampNeg = i := (by decide : ∀ i, i < 16 → (Int32.ofNat i).toNatClampNeg = i) i h
theorem own_x0 {i : Nat} (h : i < 16) : ¬ Int32.ofNat i < 0 := (by decide : ∀ i, i < 16 → ¬ Int32.ofNat i < 0) i h
theorem own_xlt {i n : Nat} (h : i < 16) (hn : n < 16) : Int32.ofNat i < Int32.ofNat n ↔ i < n := (by decide +kernel : ∀ i, i < 16 → ∀ n, n < 16 → (Int32.ofNat i < Int32.ofNat n ↔ i < n)) i h n hn
theorem own_xeq {i n : Nat} (h : i < 16) (hn : n < 16) : Int32.ofNat i = Int32.ofNat n ↔ i = n := (by decide +kernel : ∀ i, i < 16 → ∀ n, n < 16 → (Int32.ofNat i = Int32.ofNat n ↔ i = n)) i h n hn
theorem own_xs {i : Nat} (h : i < 16) : Int32.ofNat i + 1 = Int32.ofNat (i + 1) := (by decide : ∀ i, i < 16 → Int32.ofNat i + 1 = Int32.ofNat (i + 1)) i h
theorem own_xd {i : Nat} (h : i < 16) (h0 : 0 < i) : Int32.ofNat i - 1 = Int32.ofNat (i - 1) := (by decide : ∀ i, i < 16 → 0 < i → Int32.ofNat i - 1 = Int32.ofNat (i - 1)) i h h0
theorem own_xsh {i : Nat} (h : i < 8) : Int32.ofNat i <<< ((1 : Int32) &&& 31) = Int32.ofNat (2 * i) := (by decide : ∀ i, i < 8 → Int32.ofNat i <<< ((1 : Int32) &&& 31) = Int32.ofNat (2 * i)) i h
theorem own_xhr {i : Nat} (h : i < 8) : Int32.ofNat (2 * i) >>> ((1 : Int32) &&& 31) = Int32.ofNat i := (by decide : ∀ i, i < 8 → Int32.ofNat (2 * i) >>> ((1 : Int32) &&& 31) = Int32.ofNat i) i h
theorem own_xsub {i j : Nat} (h : i < 16) (hj : j ≤ i) : Int32.ofNat i - Int32.ofNat j = Int32.ofNat (i - j) := (by decide +kernel : ∀ i, i < 16 → ∀ j, j < 17 → j ≤ i → Int32.ofNat i - Int32.ofNat j = Int32.ofNat (i - j)) i h j (by omega) hj
theorem own_xadd {i j : Nat} (h : i < 16) (hj : j < 16) : Int32.ofNat i + Int32.ofNat j = Int32.ofNat (i + j) := (by decide +kernel : ∀ i, i < 16 → ∀ j, j < 16 → Int32.ofNat i + Int32.ofNat j = Int32.ofNat (i + j)) i h j hj
-- arrays filled from the left
def own_mix (f : Int32 → Value) (d : Value) : List Int32 → Nat → List Value
  | [], _ => []
  | _ :: r, 0 => d :: own_mix f d r 0
  | c :: r, i + 1 => f c :: own_mix f d r i
def own_mix2 (d : Value) : List Int32 → Nat → List Value
  | [], _ => []
  | _ :: r, 0 => d :: d :: own_mix2 d r 0
  | c :: r, i + 1 => .int (own_lo c) :: .int (own_hi c) :: own_mix2 d r i
theorem own_mix0 (f : Int32 → Value) (d : Value) : ∀ cs : List Int32, own_mix f d cs 0 = List.replicate cs.length d
  | [] => rfl
  | c :: r => by simp [own_mix, own_mix0 f d r, List.replicate_succ]
theorem own_mixS (f : Int32 → Value) (d : Value) : ∀ (cs : List Int32) (i : Nat), i < cs.length → (own_mix f d cs i).set i (f (cs.getD i 0)) = own_mix f d cs (i + 1)
  | [], i, h => absurd h (Nat.not_lt_zero i)
  | c :: r, 0, _ => rfl
  | c :: r, i + 1, h => by
    have q := own_mixS f d r i (Nat.lt_of_succ_lt_succ h)
    show f c :: (own_mix f d r i).set i (f (r.getD i 0)) = f c :: own_mix f d r (i + 1)
    rw [q]
theorem own_mixE (f : Int32 → Value) (d : Value) : ∀ cs : List Int32, own_mix f d cs cs.length = cs.map f
  | [] => rfl
  | c :: r => by simp [own_mix, own_mixE f d r]
theorem own_mixL (f : Int32 → Value) (d : Value) : ∀ (cs : List Int32) (i : Nat), (own_mix f d cs i).length = cs.length
  | [], _ => rfl
  | c :: r, 0 => by simp [own_mix, own_mixL f d r 0]
  | c :: r, i + 1 => by simp [own_mix, own_mixL f d r i]
theorem own_mix20 (d : Value) : ∀ cs : List Int32, own_mix2 d cs 0 = List.replicate (2 * cs.length) d
  | [] => rfl
  | c :: r => by
    have e : 2 * (c :: r).length = (2 * r.length + 1) + 1 := by simp only [List.length_cons]; omega
    rw [e, List.replicate_succ, List.replicate_succ, ← own_mix20 d r]; rfl
theorem own_mix2S (d : Value) : ∀ (cs : List Int32) (i : Nat), i < cs.length → ((own_mix2 d cs i).set (2 * i) (.int (own_lo (cs.getD i 0)))).set (2 * i + 1) (.int (own_hi (cs.getD i 0))) = own_mix2 d cs (i + 1)
  | [], i, h => absurd h (Nat.not_lt_zero i)
  | c :: r, 0, _ => rfl
  | c :: r, i + 1, h => by
    have q := own_mix2S d r i (Nat.lt_of_succ_lt_succ h)
    show .int (own_lo c) :: .int (own_hi c) :: ((own_mix2 d r i).set (2 * i) (.int (own_lo (r.getD i 0)))).set (2 * i + 1) (.int (own_hi (r.getD i 0))) = .int (own_lo c) :: .int (own_hi c) :: own_mix2 d r (i + 1)
    rw [q]
theorem own_mix2E (d : Value) : ∀ cs : List Int32, own_mix2 d cs cs.length = own_utf cs
  | [] => rfl
  | c :: r => by simp [own_mix2, own_utf, own_mix2E d r]
theorem own_mix2L (d : Value) : ∀ (cs : List Int32) (i : Nat), (own_mix2 d cs i).length = 2 * cs.length
  | [], _ => rfl
  | c :: r, 0 => by simp only [own_mix2, List.length_cons, own_mix2L d r 0]; omega
  | c :: r, i + 1 => by simp only [own_mix2, List.length_cons, own_mix2L d r i]; omega
-- a stretch of a text
def own_cut (cs : List Int32) (b m : Nat) : List Int32 := (cs.drop b).take m
theorem own_cutL {cs : List Int32} {b m : Nat} (h : b + m ≤ cs.length) : (own_cut cs b m).length = m := by simp [own_cut]; omega
theorem own_cutAt {cs : List Int32} {b m i : Nat} (h : i < m) : (own_cut cs b m).getD i 0 = cs.getD (b + i) 0 := by
  simp [own_cut, List.getD_eq_getElem?_getD, h]
theorem own_latR {cs : List Int32} {b m : Nat} (h : b + m ≤ cs.length) (d : Value) : (List.range m).map (fun i => (own_lat cs).getD (b + i) d) = own_lat (own_cut cs b m) := by
  apply List.ext_getElem
  · simp [own_lat, own_cutL h]
  · intro i h1 h2
    have hi : i < m := by simpa using h1
    have e := own_lat_at (cs := own_cut cs b m) (i := i) (by rw [own_cutL h]; exact hi) d
    rw [List.getD_eq_getElem?_getD, List.getElem?_eq_getElem h2] at e
    simp only [List.getElem_map, List.getElem_range]
    rw [own_lat_at (by omega), ← own_cutAt (cs := cs) (b := b) hi]
    exact e.symm
theorem own_utfR {cs : List Int32} {b m : Nat} (h : b + m ≤ cs.length) (d : Value) : (List.range (2 * m)).map (fun i => (own_utf cs).getD (2 * b + i) d) = own_utf (own_cut cs b m) := by
  apply List.ext_getElem
  · simp [own_utf_len, own_cutL h]
  · intro i h1 h2
    have hi : i < 2 * m := by simpa using h1
    simp only [List.getElem_map, List.getElem_range]
    have hj : i / 2 < m := by omega
    have e := own_utf_at (own_cut cs b m) (i / 2) d (by rw [own_cutL h]; exact hj)
    have f := own_utf_at cs (b + i / 2) d (by omega)
    rw [own_cutAt hj] at e
    have g : (own_utf (own_cut cs b m))[i] = (own_utf (own_cut cs b m)).getD i d := by rw [List.getD_eq_getElem?_getD, List.getElem?_eq_getElem h2]; rfl
    rw [g]
    rcases Nat.mod_two_eq_zero_or_one i with q | q
    · have e1 : i = 2 * (i / 2) := by omega
      have e2 : 2 * b + i = 2 * (b + i / 2) := by omega
      rw [e2, f.1, ← e.1, ← e1]
    · have e1 : i = 2 * (i / 2) + 1 := by omega
      have e2 : 2 * b + i = 2 * (b + i / 2) + 1 := by omega
      rw [e2, f.2, ← e.2, ← e1]
theorem own_cutCh {cs : List Int32} (h : ∀ c ∈ cs, own_ch c) (b m : Nat) : ∀ c ∈ own_cut cs b m, own_ch c := fun c hc => h c (List.mem_of_mem_drop (List.mem_of_mem_take hc))
theorem own_getCh {cs : List Int32} (h : ∀ c ∈ cs, own_ch c) (i : Nat) : own_ch (cs.getD i 0) := by
  by_cases q : i < cs.length
  · rw [List.getD_eq_getElem?_getD, List.getElem?_eq_getElem q]; exact h _ (List.getElem_mem q)
  · rw [List.getD_eq_getElem?_getD, List.getElem?_eq_none (by omega)]; exact ⟨by decide, by decide⟩
-- a String that says cs
def own_S (Z : State) (h : Heap) (sr : Addr) (cs : List Int32) : Prop := ∃ (vb : Addr) (kb : ClassId), Exa Z h sr "java/lang/String" ∧ Fld Z h sr "java/lang/String" "value" "[B" (.ref vb) ∧
  ((Fld Z h sr "java/lang/String" "coder" "B" (.int (0 : Int32)) ∧ Arv Z h vb kb .byte (Int32.ofNat cs.length) (own_lat cs) (.int (0 : Int32)) ∧ ∀ c ∈ cs, c.toInt < 256) ∨
   (Fld Z h sr "java/lang/String" "coder" "B" (.int (1 : Int32)) ∧ Arv Z h vb kb .byte (Int32.ofNat (2 * cs.length)) (own_utf cs) (.int (0 : Int32))))
theorem own_Sext {Z : State} {h h' : Heap} {sr : Addr} {cs : List Int32} (S : own_S Z h sr cs) (E : Ext h h') : own_S Z h' sr cs := by
  obtain ⟨vb, kb, a, b, c⟩ := S
  refine ⟨vb, kb, a.ext E, b.ext E, ?_⟩
  rcases c with ⟨c, d, e⟩ | ⟨c, d⟩
  · exact Or.inl ⟨c.ext E, d.ext E, e⟩
  · exact Or.inr ⟨c.ext E, d.ext E⟩
theorem own_Skeep {Z : State} {h h' : Heap} {sr : Addr} {cs : List Int32} (S : own_S Z h sr cs) (K : Keep h h' []) : own_S Z h' sr cs := by
  obtain ⟨vb, kb, a, b, c⟩ := S
  refine ⟨vb, kb, a.keep K, b.keep K nin0, ?_⟩
  rcases c with ⟨c, d, e⟩ | ⟨c, d⟩
  · exact Or.inl ⟨c.keep K nin0, d.keep K nin0, e⟩
  · exact Or.inr ⟨c.keep K nin0, d.keep K nin0⟩
theorem own_sh0 (x : Int32) : x >>> ((0 : Int32) &&& 31) = x := by
  apply Int32.toInt_inj.mp
  have := c_ishr x (0 : Int32) 0 (by decide); omega
theorem own_nc (x : Int32) : nar .char (x.toUInt32.toUInt16.toUInt32.toInt32) = x.toUInt32.toUInt16.toUInt32.toInt32 := by
  have e : ∀ y : Int32, nar .char y = y.toUInt32.toUInt16.toUInt32.toInt32 := fun y => rfl
  rw [e]; apply Int32.toInt_inj.mp
  have a := c_i2c x; have b := c_i2c (x.toUInt32.toUInt16.toUInt32.toInt32); omega
theorem own_ncc {c : Int32} (h : own_ch c) : nar .char c = c := by
  have e : nar .char c = c.toUInt32.toUInt16.toUInt32.toInt32 := rfl
  rw [e]; apply Int32.toInt_inj.mp
  have a := c_i2c c; unfold own_ch at h; omega
theorem own_getLt {cs : List Int32} {i : Nat} (h : ∀ c ∈ cs, c.toInt < 256) (hi : i < cs.length) : (cs.getD i 0).toInt < 256 := by
  rw [List.getD_eq_getElem?_getD, List.getElem?_eq_getElem hi]; exact h _ (List.getElem_mem hi)
theorem own_xbig {i : Nat} (h : i < 16) : Int32.ofNat i < (1073741823 : Int32) := (by decide : ∀ i, i < 16 → Int32.ofNat i < (1073741823 : Int32)) i h
theorem own_chat {cs : List Int32} {i : Nat} {d : Value} (h : i < cs.length) : (cs.map Value.int).getD i d = .int (cs.getD i 0) := by
  simp [List.getD_eq_getElem?_getD, h]

theorem d19_0 : decode jdk_41_method_11_code 0 = .ok (.iload_n 0, 1) := by decide +kernel
theorem d19_1 : decode jdk_41_method_11_code 1 = .ok (.ifCond .lt 8, 3) := by decide +kernel
theorem d19_4 : decode jdk_41_method_11_code 4 = .ok (.iload_n 0, 1) := by decide +kernel
theorem d19_5 : decode jdk_41_method_11_code 5 = .ok (.iload_n 1, 1) := by decide +kernel
theorem d19_6 : decode jdk_41_method_11_code 6 = .ok (.if_icmp .lt 10, 3) := by decide +kernel
theorem d19_16 : decode jdk_41_method_11_code 16 = .ok (.iload_n 0, 1) := by decide +kernel
theorem d19_17 : decode jdk_41_method_11_code 17 = .ok (.ireturn, 1) := by decide +kernel
theorem pn_19 : plainName "jdk/internal/util/Preconditions" = true := by first | (simp [plainName, overriddenIn]; done) | decide +kernel
theorem ef_rPin (m : MethodId) (p1 : Int32) (p2 : Int32) : entryFrame m #[(.int p1), (.int p2), .null] 3 = mkF m 0 #[.val (.int p1), .val (.int p2), .val .null] [] := by first | (simp [entryFrame, mkF, argsToLocals, Value.category]; done) | rfl
def QrPin (Z : State) (p1 : Int32) (p2 : Int32) (h0 : Heap) (n0 : Nat) (v : Option Value) (h : Heap) (L : List Loc) : Prop := ∃ z : Int32, z = (p1) ∧ v = some (.int z) ∧ Fr n0 L ∧ h = h0
set_option maxRecDepth 65536 in
set_option maxHeartbeats 40000000 in
theorem rPin (l : Launch) (Z : State) (a0 : Array Value) (hw : ∀ d ∈ tables_1, d.before a0 Z = true) (ws : List Jvm.Cond) (p1 : Int32) (p2 : Int32) (h0 : Heap) (n0 : Nat) (Z0 : n0 ≤ h0.size) (hlo : ¬ p1 < (0 : Int32)) (hhi : p1 < p2) :
    MetFree l (⟨"jdk/internal/util/Preconditions", "checkIndex", "(IILjava/util/function/BiFunction;)I"⟩ : MethodName) (head1 (Jvm.Cond.code (⟨"jdk/internal/util/Preconditions", "checkIndex", "(IILjava/util/function/BiFunction;)I"⟩ : MethodName) jdk_41_method_11_code 3 (some .int) :: ws) ({ frames := 0, cells := 0, slots := 0, locals := 0 } : Room)) (fun a U => a = #[(.int p1), (.int p2), .null] ∧ Z.Warmed39 U.vm ∧ U.heap = h0) (fun _ _ _ _ _ => True) (fun _ U o U' => ∃ v L, o = .returned v ∧ QrPin Z p1 p2 h0 n0 v U'.heap L ∧ FrameEnd U o U' L ({ frames := 0, cells := 0, slots := 0, locals := 0 } : Room).cells ({ frames := 0, cells := 0, slots := 0, locals := 0 } : Room).slots) := by
  refine MetFree.of_bodySF (plainFor_of_name pn_19) hisR ?_
  intro p e s m args below meth c s₁ Bd hml0 hP hK
  obtain ⟨rfl, hZ, hh⟩ := hP
  have hx := Bd.exec
  have hby := Bd.bytes
  have hml : c.maxLocals = 3 := hml0
  have hown : s.vm.findClass "jdk/internal/util/Preconditions" = some m.cls := findClass_of_methodNamed Bd.named
  have hnm := (name_of_methodNamed Bd.named Bd.method).1
  have X0 : Stand p l e ({ frames := 0, cells := 0, slots := 0, locals := 0 } : Room) s m #[(.int p1), (.int p2), .null] below meth c s₁ [] 0 0 := Stand.of_body Bd
  have e0 : s₁.heap = h0 := by rw [← hh, Bd.state]; rfl
  have N0 := Fr.nil n0
  have pre0 : ∀ t, Steps p.tables e below (s₁.setTop (mkF m 0 #[.val (.int p1), .val (.int p2), .val .null] [])) t → Steps p.tables e below (s₁.setTop (entryFrame m #[(.int p1), (.int p2), .null] 3)) t := fun t k => castTop (ef_rPin m p1 p2) k
  obtain ⟨fs, hr, hrun, hended, hW, hsame⟩ := X0.leave (v := some (.int p1)) (fun h => by rw [Bd.returns] at h; cases h) (BodyLoose.notSynchronized Bd)
  refine ⟨_, _, pre0 _ ?_, hrun, hended, _, _, rfl, ?_, ⟨_, rfl⟩, hW, hsame.mono (by decide) (by decide)⟩
  · show Steps p.tables e below (s₁.setTop (mkF m 0 #[.val (.int p1), .val (.int p2), .val .null] [])) _
    refine XS.iloadN X0.here hx rfl (hb hby d19_0) rfl ?_
    refine XS.ifNo X0.here hx rfl (hb hby d19_1) rfl ((if0 _ _).trans (flt hlo).1) ?_
    refine XS.iloadN X0.here hx rfl (hb hby d19_4) rfl ?_
    refine XS.iloadN X0.here hx rfl (hb hby d19_5) rfl ?_
    refine XS.icmpYes X0.here hx rfl (pc0 := 6) (pc' := 16) rfl (hb hby d19_6) rfl (tlt hhi).1 (by decide) (by decide) ?_
    refine XS.iloadN X0.here hx rfl (hb hby d19_16) rfl ?_
    show Steps p.tables e below (s₁.setTop (mkF m 17 #[.val (.int p1), .val (.int p2), .val .null] [(.int p1)])) _
    exact retI X0 hx Bd.returns (hb hby d19_17) hr
  · show QrPin Z p1 p2 h0 n0 _ s₁.heap _
    exact ⟨_, rfl, rfl, N0, e0⟩
theorem ef_rPir (m : MethodId) (p1 : Int32) (p2 : Int32) (a3 : Addr) : entryFrame m #[(.int p1), (.int p2), (.ref a3)] 3 = mkF m 0 #[.val (.int p1), .val (.int p2), .val (.ref a3)] [] := by first | (simp [entryFrame, mkF, argsToLocals, Value.category]; done) | rfl
def QrPir (Z : State) (p1 : Int32) (p2 : Int32) (a3 : Addr) (h0 : Heap) (n0 : Nat) (v : Option Value) (h : Heap) (L : List Loc) : Prop := ∃ z : Int32, z = (p1) ∧ v = some (.int z) ∧ Fr n0 L ∧ h = h0
set_option maxRecDepth 65536 in
set_option maxHeartbeats 40000000 in
theorem rPir (l : Launch) (Z : State) (a0 : Array Value) (hw : ∀ d ∈ tables_1, d.before a0 Z = true) (ws : List Jvm.Cond) (p1 : Int32) (p2 : Int32) (a3 : Addr) (h0 : Heap) (n0 : Nat) (Z0 : n0 ≤ h0.size) (hlo : ¬ p1 < (0 : Int32)) (hhi : p1 < p2) :
    MetFree l (⟨"jdk/internal/util/Preconditions", "checkIndex", "(IILjava/util/function/BiFunction;)I"⟩ : MethodName) (head1 (Jvm.Cond.code (⟨"jdk/internal/util/Preconditions", "checkIndex", "(IILjava/util/function/BiFunction;)I"⟩ : MethodName) jdk_41_method_11_code 3 (some .int) :: ws) ({ frames := 0, cells := 0, slots := 0, locals := 0 } : Room)) (fun a U => a = #[(.int p1), (.int p2), (.ref a3)] ∧ Z.Warmed39 U.vm ∧ U.heap = h0) (fun _ _ _ _ _ => True) (fun _ U o U' => ∃ v L, o = .returned v ∧ QrPir Z p1 p2 a3 h0 n0 v U'.heap L ∧ FrameEnd U o U' L ({ frames := 0, cells := 0, slots := 0, locals := 0 } : Room).cells ({ frames := 0, cells := 0, slots := 0, locals := 0 } : Room).slots) := by
  refine MetFree.of_bodySF (plainFor_of_name pn_19) hisR ?_
  intro p e s m args below meth c s₁ Bd hml0 hP hK
  obtain ⟨rfl, hZ, hh⟩ := hP
  have hx := Bd.exec
  have hby := Bd.bytes
  have hml : c.maxLocals = 3 := hml0
  have hown : s.vm.findClass "jdk/internal/util/Preconditions" = some m.cls := findClass_of_methodNamed Bd.named
  have hnm := (name_of_methodNamed Bd.named Bd.method).1
  have X0 : Stand p l e ({ frames := 0, cells := 0, slots := 0, locals := 0 } : Room) s m #[(.int p1), (.int p2), (.ref a3)] below meth c s₁ [] 0 0 := Stand.of_body Bd
  have e0 : s₁.heap = h0 := by rw [← hh, Bd.state]; rfl
  have N0 := Fr.nil n0
  have pre0 : ∀ t, Steps p.tables e below (s₁.setTop (mkF m 0 #[.val (.int p1), .val (.int p2), .val (.ref a3)] [])) t → Steps p.tables e below (s₁.setTop (entryFrame m #[(.int p1), (.int p2), (.ref a3)] 3)) t := fun t k => castTop (ef_rPir m p1 p2 a3) k
  obtain ⟨fs, hr, hrun, hended, hW, hsame⟩ := X0.leave (v := some (.int p1)) (fun h => by rw [Bd.returns] at h; cases h) (BodyLoose.notSynchronized Bd)
  refine ⟨_, _, pre0 _ ?_, hrun, hended, _, _, rfl, ?_, ⟨_, rfl⟩, hW, hsame.mono (by decide) (by decide)⟩
  · show Steps p.tables e below (s₁.setTop (mkF m 0 #[.val (.int p1), .val (.int p2), .val (.ref a3)] [])) _
    refine XS.iloadN X0.here hx rfl (hb hby d19_0) rfl ?_
    refine XS.ifNo X0.here hx rfl (hb hby d19_1) rfl ((if0 _ _).trans (flt hlo).1) ?_
    refine XS.iloadN X0.here hx rfl (hb hby d19_4) rfl ?_
    refine XS.iloadN X0.here hx rfl (hb hby d19_5) rfl ?_
    refine XS.icmpYes X0.here hx rfl (pc0 := 6) (pc' := 16) rfl (hb hby d19_6) rfl (tlt hhi).1 (by decide) (by decide) ?_
    refine XS.iloadN X0.here hx rfl (hb hby d19_16) rfl ?_
    show Steps p.tables e below (s₁.setTop (mkF m 17 #[.val (.int p1), .val (.int p2), .val (.ref a3)] [(.int p1)])) _
    exact retI X0 hx Bd.returns (hb hby d19_17) hr
  · show QrPir Z p1 p2 a3 h0 n0 _ s₁.heap _
    exact ⟨_, rfl, rfl, N0, e0⟩
theorem d23_0 : decode jdk_41_method_12_code 0 = .ok (.iload_n 0, 1) := by decide +kernel
theorem d23_1 : decode jdk_41_method_12_code 1 = .ok (.ifCond .lt 13, 3) := by decide +kernel
theorem d23_4 : decode jdk_41_method_12_code 4 = .ok (.iload_n 0, 1) := by decide +kernel
theorem d23_5 : decode jdk_41_method_12_code 5 = .ok (.iload_n 1, 1) := by decide +kernel
theorem d23_6 : decode jdk_41_method_12_code 6 = .ok (.if_icmp .gt 8, 3) := by decide +kernel
theorem d23_9 : decode jdk_41_method_12_code 9 = .ok (.iload_n 1, 1) := by decide +kernel
theorem d23_10 : decode jdk_41_method_12_code 10 = .ok (.iload_n 2, 1) := by decide +kernel
theorem d23_11 : decode jdk_41_method_12_code 11 = .ok (.if_icmp .le 11, 3) := by decide +kernel
theorem d23_22 : decode jdk_41_method_12_code 22 = .ok (.iload_n 0, 1) := by decide +kernel
theorem d23_23 : decode jdk_41_method_12_code 23 = .ok (.ireturn, 1) := by decide +kernel
theorem pn_23 : plainName "jdk/internal/util/Preconditions" = true := by first | (simp [plainName, overriddenIn]; done) | decide +kernel
theorem ef_rPtn (m : MethodId) (p1 : Int32) (p2 : Int32) (p3 : Int32) : entryFrame m #[(.int p1), (.int p2), (.int p3), .null] 4 = mkF m 0 #[.val (.int p1), .val (.int p2), .val (.int p3), .val .null] [] := by first | (simp [entryFrame, mkF, argsToLocals, Value.category]; done) | rfl
def QrPtn (Z : State) (p1 : Int32) (p2 : Int32) (p3 : Int32) (h0 : Heap) (n0 : Nat) (v : Option Value) (h : Heap) (L : List Loc) : Prop := ∃ z : Int32, z = (p1) ∧ v = some (.int z) ∧ Fr n0 L ∧ h = h0
set_option maxRecDepth 65536 in
set_option maxHeartbeats 40000000 in
theorem rPtn (l : Launch) (Z : State) (a0 : Array Value) (hw : ∀ d ∈ tables_1, d.before a0 Z = true) (ws : List Jvm.Cond) (p1 : Int32) (p2 : Int32) (p3 : Int32) (h0 : Heap) (n0 : Nat) (Z0 : n0 ≤ h0.size) (hlo : ¬ p1 < (0 : Int32)) (hm : ¬ p2 < p1) (hhi : ¬ p3 < p2) :
    MetFree l (⟨"jdk/internal/util/Preconditions", "checkFromToIndex", "(IIILjava/util/function/BiFunction;)I"⟩ : MethodName) (head1 (Jvm.Cond.code (⟨"jdk/internal/util/Preconditions", "checkFromToIndex", "(IIILjava/util/function/BiFunction;)I"⟩ : MethodName) jdk_41_method_12_code 4 (some .int) :: ws) ({ frames := 0, cells := 0, slots := 0, locals := 0 } : Room)) (fun a U => a = #[(.int p1), (.int p2), (.int p3), .null] ∧ Z.Warmed39 U.vm ∧ U.heap = h0) (fun _ _ _ _ _ => True) (fun _ U o U' => ∃ v L, o = .returned v ∧ QrPtn Z p1 p2 p3 h0 n0 v U'.heap L ∧ FrameEnd U o U' L ({ frames := 0, cells := 0, slots := 0, locals := 0 } : Room).cells ({ frames := 0, cells := 0, slots := 0, locals := 0 } : Room).slots) := by
  refine MetFree.of_bodySF (plainFor_of_name pn_23) hisR ?_
  intro p e s m args below meth c s₁ Bd hml0 hP hK
  obtain ⟨rfl, hZ, hh⟩ := hP
  have hx := Bd.exec
  have hby := Bd.bytes
  have hml : c.maxLocals = 4 := hml0
  have hown : s.vm.findClass "jdk/internal/util/Preconditions" = some m.cls := findClass_of_methodNamed Bd.named
  have hnm := (name_of_methodNamed Bd.named Bd.method).1
  have X0 : Stand p l e ({ frames := 0, cells := 0, slots := 0, locals := 0 } : Room) s m #[(.int p1), (.int p2), (.int p3), .null] below meth c s₁ [] 0 0 := Stand.of_body Bd
  have e0 : s₁.heap = h0 := by rw [← hh, Bd.state]; rfl
  have N0 := Fr.nil n0
  have pre0 : ∀ t, Steps p.tables e below (s₁.setTop (mkF m 0 #[.val (.int p1), .val (.int p2), .val (.int p3), .val .null] [])) t → Steps p.tables e below (s₁.setTop (entryFrame m #[(.int p1), (.int p2), (.int p3), .null] 4)) t := fun t k => castTop (ef_rPtn m p1 p2 p3) k
  obtain ⟨fs, hr, hrun, hended, hW, hsame⟩ := X0.leave (v := some (.int p1)) (fun h => by rw [Bd.returns] at h; cases h) (BodyLoose.notSynchronized Bd)
  refine ⟨_, _, pre0 _ ?_, hrun, hended, _, _, rfl, ?_, ⟨_, rfl⟩, hW, hsame.mono (by decide) (by decide)⟩
  · show Steps p.tables e below (s₁.setTop (mkF m 0 #[.val (.int p1), .val (.int p2), .val (.int p3), .val .null] [])) _
    refine XS.iloadN X0.here hx rfl (hb hby d23_0) rfl ?_
    refine XS.ifNo X0.here hx rfl (hb hby d23_1) rfl ((if0 _ _).trans (flt hlo).1) ?_
    refine XS.iloadN X0.here hx rfl (hb hby d23_4) rfl ?_
    refine XS.iloadN X0.here hx rfl (hb hby d23_5) rfl ?_
    refine XS.icmpNo X0.here hx rfl (hb hby d23_6) rfl (flt hm).2.2.1 ?_
    refine XS.iloadN X0.here hx rfl (hb hby d23_9) rfl ?_
    refine XS.iloadN X0.here hx rfl (hb hby d23_10) rfl ?_
    refine XS.icmpYes X0.here hx rfl (pc0 := 11) (pc' := 22) rfl (hb hby d23_11) rfl (flt hhi).2.2.2 (by decide) (by decide) ?_
    refine XS.iloadN X0.here hx rfl (hb hby d23_22) rfl ?_
    show Steps p.tables e below (s₁.setTop (mkF m 23 #[.val (.int p1), .val (.int p2), .val (.int p3), .val .null] [(.int p1)])) _
    exact retI X0 hx Bd.returns (hb hby d23_23) hr
  · show QrPtn Z p1 p2 p3 h0 n0 _ s₁.heap _
    exact ⟨_, rfl, rfl, N0, e0⟩
theorem ef_rPtr (m : MethodId) (p1 : Int32) (p2 : Int32) (p3 : Int32) (a4 : Addr) : entryFrame m #[(.int p1), (.int p2), (.int p3), (.ref a4)] 4 = mkF m 0 #[.val (.int p1), .val (.int p2), .val (.int p3), .val (.ref a4)] [] := by first | (simp [entryFrame, mkF, argsToLocals, Value.category]; done) | rfl
def QrPtr (Z : State) (p1 : Int32) (p2 : Int32) (p3 : Int32) (a4 : Addr) (h0 : Heap) (n0 : Nat) (v : Option Value) (h : Heap) (L : List Loc) : Prop := ∃ z : Int32, z = (p1) ∧ v = some (.int z) ∧ Fr n0 L ∧ h = h0
set_option maxRecDepth 65536 in
set_option maxHeartbeats 40000000 in
theorem rPtr (l : Launch) (Z : State) (a0 : Array Value) (hw : ∀ d ∈ tables_1, d.before a0 Z = true) (ws : List Jvm.Cond) (p1 : Int32) (p2 : Int32) (p3 : Int32) (a4 : Addr) (h0 : Heap) (n0 : Nat) (Z0 : n0 ≤ h0.size) (hlo : ¬ p1 < (0 : Int32)) (hm : ¬ p2 < p1) (hhi : ¬ p3 < p2) :
    MetFree l (⟨"jdk/internal/util/Preconditions", "checkFromToIndex", "(IIILjava/util/function/BiFunction;)I"⟩ : MethodName) (head1 (Jvm.Cond.code (⟨"jdk/internal/util/Preconditions", "checkFromToIndex", "(IIILjava/util/function/BiFunction;)I"⟩ : MethodName) jdk_41_method_12_code 4 (some .int) :: ws) ({ frames := 0, cells := 0, slots := 0, locals := 0 } : Room)) (fun a U => a = #[(.int p1), (.int p2), (.int p3), (.ref a4)] ∧ Z.Warmed39 U.vm ∧ U.heap = h0) (fun _ _ _ _ _ => True) (fun _ U o U' => ∃ v L, o = .returned v ∧ QrPtr Z p1 p2 p3 a4 h0 n0 v U'.heap L ∧ FrameEnd U o U' L ({ frames := 0, cells := 0, slots := 0, locals := 0 } : Room).cells ({ frames := 0, cells := 0, slots := 0, locals := 0 } : Room).slots) := by
  refine MetFree.of_bodySF (plainFor_of_name pn_23) hisR ?_
  intro p e s m args below meth c s₁ Bd hml0 hP hK
  obtain ⟨rfl, hZ, hh⟩ := hP
  have hx := Bd.exec
  have hby := Bd.bytes
  have hml : c.maxLocals = 4 := hml0
  have hown : s.vm.findClass "jdk/internal/util/Preconditions" = some m.cls := findClass_of_methodNamed Bd.named
  have hnm := (name_of_methodNamed Bd.named Bd.method).1
  have X0 : Stand p l e ({ frames := 0, cells := 0, slots := 0, locals := 0 } : Room) s m #[(.int p1), (.int p2), (.int p3), (.ref a4)] below meth c s₁ [] 0 0 := Stand.of_body Bd
  have e0 : s₁.heap = h0 := by rw [← hh, Bd.state]; rfl
  have N0 := Fr.nil n0
  have pre0 : ∀ t, Steps p.tables e below (s₁.setTop (mkF m 0 #[.val (.int p1), .val (.int p2), .val (.int p3), .val (.ref a4)] [])) t → Steps p.tables e below (s₁.setTop (entryFrame m #[(.int p1), (.int p2), (.int p3), (.ref a4)] 4)) t := fun t k => castTop (ef_rPtr m p1 p2 p3 a4) k
  obtain ⟨fs, hr, hrun, hended, hW, hsame⟩ := X0.leave (v := some (.int p1)) (fun h => by rw [Bd.returns] at h; cases h) (BodyLoose.notSynchronized Bd)
  refine ⟨_, _, pre0 _ ?_, hrun, hended, _, _, rfl, ?_, ⟨_, rfl⟩, hW, hsame.mono (by decide) (by decide)⟩
  · show Steps p.tables e below (s₁.setTop (mkF m 0 #[.val (.int p1), .val (.int p2), .val (.int p3), .val (.ref a4)] [])) _
    refine XS.iloadN X0.here hx rfl (hb hby d23_0) rfl ?_
    refine XS.ifNo X0.here hx rfl (hb hby d23_1) rfl ((if0 _ _).trans (flt hlo).1) ?_
    refine XS.iloadN X0.here hx rfl (hb hby d23_4) rfl ?_
    refine XS.iloadN X0.here hx rfl (hb hby d23_5) rfl ?_
    refine XS.icmpNo X0.here hx rfl (hb hby d23_6) rfl (flt hm).2.2.1 ?_
    refine XS.iloadN X0.here hx rfl (hb hby d23_9) rfl ?_
    refine XS.iloadN X0.here hx rfl (hb hby d23_10) rfl ?_
    refine XS.icmpYes X0.here hx rfl (pc0 := 11) (pc' := 22) rfl (hb hby d23_11) rfl (flt hhi).2.2.2 (by decide) (by decide) ?_
    refine XS.iloadN X0.here hx rfl (hb hby d23_22) rfl ?_
    show Steps p.tables e below (s₁.setTop (mkF m 23 #[.val (.int p1), .val (.int p2), .val (.int p3), .val (.ref a4)] [(.int p1)])) _
    exact retI X0 hx Bd.returns (hb hby d23_23) hr
  · show QrPtr Z p1 p2 p3 a4 h0 n0 _ s₁.heap _
    exact ⟨_, rfl, rfl, N0, e0⟩
theorem d42_0 : decode jdk_41_method_13_code 0 = .ok (.iload_n 2, 1) := by decide +kernel
theorem d42_1 : decode jdk_41_method_13_code 1 = .ok (.iload_n 0, 1) := by decide +kernel
theorem d42_2 : decode jdk_41_method_13_code 2 = .ok (.ior, 1) := by decide +kernel
theorem d42_3 : decode jdk_41_method_13_code 3 = .ok (.iload_n 1, 1) := by decide +kernel
theorem d42_4 : decode jdk_41_method_13_code 4 = .ok (.ior, 1) := by decide +kernel
theorem d42_5 : decode jdk_41_method_13_code 5 = .ok (.ifCond .lt 10, 3) := by decide +kernel
theorem d42_8 : decode jdk_41_method_13_code 8 = .ok (.iload_n 1, 1) := by decide +kernel
theorem d42_9 : decode jdk_41_method_13_code 9 = .ok (.iload_n 2, 1) := by decide +kernel
theorem d42_10 : decode jdk_41_method_13_code 10 = .ok (.iload_n 0, 1) := by decide +kernel
theorem d42_11 : decode jdk_41_method_13_code 11 = .ok (.isub, 1) := by decide +kernel
theorem d42_12 : decode jdk_41_method_13_code 12 = .ok (.if_icmp .le 11, 3) := by decide +kernel
theorem d42_23 : decode jdk_41_method_13_code 23 = .ok (.iload_n 0, 1) := by decide +kernel
theorem d42_24 : decode jdk_41_method_13_code 24 = .ok (.ireturn, 1) := by decide +kernel
theorem pn_42 : plainName "jdk/internal/util/Preconditions" = true := by first | (simp [plainName, overriddenIn]; done) | decide +kernel
theorem ef_rPsn (m : MethodId) (p1 : Int32) (p2 : Int32) (p3 : Int32) : entryFrame m #[(.int p1), (.int p2), (.int p3), .null] 4 = mkF m 0 #[.val (.int p1), .val (.int p2), .val (.int p3), .val .null] [] := by first | (simp [entryFrame, mkF, argsToLocals, Value.category]; done) | rfl
def QrPsn (Z : State) (p1 : Int32) (p2 : Int32) (p3 : Int32) (h0 : Heap) (n0 : Nat) (v : Option Value) (h : Heap) (L : List Loc) : Prop := ∃ z : Int32, z = (p1) ∧ v = some (.int z) ∧ Fr n0 L ∧ h = h0
set_option maxRecDepth 65536 in
set_option maxHeartbeats 40000000 in
theorem rPsn (l : Launch) (Z : State) (a0 : Array Value) (hw : ∀ d ∈ tables_1, d.before a0 Z = true) (ws : List Jvm.Cond) (p1 : Int32) (p2 : Int32) (p3 : Int32) (h0 : Heap) (n0 : Nat) (Z0 : n0 ≤ h0.size) (hs : ¬ ((p3 ||| p1) ||| p2) < (0 : Int32)) (hhi : ¬ (p3 - p1) < p2) :
    MetFree l (⟨"jdk/internal/util/Preconditions", "checkFromIndexSize", "(IIILjava/util/function/BiFunction;)I"⟩ : MethodName) (head1 (Jvm.Cond.code (⟨"jdk/internal/util/Preconditions", "checkFromIndexSize", "(IIILjava/util/function/BiFunction;)I"⟩ : MethodName) jdk_41_method_13_code 4 (some .int) :: ws) ({ frames := 0, cells := 0, slots := 0, locals := 0 } : Room)) (fun a U => a = #[(.int p1), (.int p2), (.int p3), .null] ∧ Z.Warmed39 U.vm ∧ U.heap = h0) (fun _ _ _ _ _ => True) (fun _ U o U' => ∃ v L, o = .returned v ∧ QrPsn Z p1 p2 p3 h0 n0 v U'.heap L ∧ FrameEnd U o U' L ({ frames := 0, cells := 0, slots := 0, locals := 0 } : Room).cells ({ frames := 0, cells := 0, slots := 0, locals := 0 } : Room).slots) := by
  refine MetFree.of_bodySF (plainFor_of_name pn_42) hisR ?_
  intro p e s m args below meth c s₁ Bd hml0 hP hK
  obtain ⟨rfl, hZ, hh⟩ := hP
  have hx := Bd.exec
  have hby := Bd.bytes
  have hml : c.maxLocals = 4 := hml0
  have hown : s.vm.findClass "jdk/internal/util/Preconditions" = some m.cls := findClass_of_methodNamed Bd.named
  have hnm := (name_of_methodNamed Bd.named Bd.method).1
  have X0 : Stand p l e ({ frames := 0, cells := 0, slots := 0, locals := 0 } : Room) s m #[(.int p1), (.int p2), (.int p3), .null] below meth c s₁ [] 0 0 := Stand.of_body Bd
  have e0 : s₁.heap = h0 := by rw [← hh, Bd.state]; rfl
  have N0 := Fr.nil n0
  have pre0 : ∀ t, Steps p.tables e below (s₁.setTop (mkF m 0 #[.val (.int p1), .val (.int p2), .val (.int p3), .val .null] [])) t → Steps p.tables e below (s₁.setTop (entryFrame m #[(.int p1), (.int p2), (.int p3), .null] 4)) t := fun t k => castTop (ef_rPsn m p1 p2 p3) k
  obtain ⟨fs, hr, hrun, hended, hW, hsame⟩ := X0.leave (v := some (.int p1)) (fun h => by rw [Bd.returns] at h; cases h) (BodyLoose.notSynchronized Bd)
  refine ⟨_, _, pre0 _ ?_, hrun, hended, _, _, rfl, ?_, ⟨_, rfl⟩, hW, hsame.mono (by decide) (by decide)⟩
  · show Steps p.tables e below (s₁.setTop (mkF m 0 #[.val (.int p1), .val (.int p2), .val (.int p3), .val .null] [])) _
    refine XS.iloadN X0.here hx rfl (hb hby d42_0) rfl ?_
    refine XS.iloadN X0.here hx rfl (hb hby d42_1) rfl ?_
    refine XS.ior X0.here hx rfl (hb hby d42_2) rfl ?_
    refine XS.iloadN X0.here hx rfl (hb hby d42_3) rfl ?_
    refine XS.ior X0.here hx rfl (hb hby d42_4) rfl ?_
    refine XS.ifNo X0.here hx rfl (hb hby d42_5) rfl ((if0 _ _).trans (flt hs).1) ?_
    refine XS.iloadN X0.here hx rfl (hb hby d42_8) rfl ?_
    refine XS.iloadN X0.here hx rfl (hb hby d42_9) rfl ?_
    refine XS.iloadN X0.here hx rfl (hb hby d42_10) rfl ?_
    refine XS.isub X0.here hx rfl (hb hby d42_11) rfl ?_
    refine XS.icmpYes X0.here hx rfl (pc0 := 12) (pc' := 23) rfl (hb hby d42_12) rfl (flt hhi).2.2.2 (by decide) (by decide) ?_
    refine XS.iloadN X0.here hx rfl (hb hby d42_23) rfl ?_
    show Steps p.tables e below (s₁.setTop (mkF m 24 #[.val (.int p1), .val (.int p2), .val (.int p3), .val .null] [(.int p1)])) _
    exact retI X0 hx Bd.returns (hb hby d42_24) hr
  · show QrPsn Z p1 p2 p3 h0 n0 _ s₁.heap _
    exact ⟨_, rfl, rfl, N0, e0⟩
theorem ef_rPsr (m : MethodId) (p1 : Int32) (p2 : Int32) (p3 : Int32) (a4 : Addr) : entryFrame m #[(.int p1), (.int p2), (.int p3), (.ref a4)] 4 = mkF m 0 #[.val (.int p1), .val (.int p2), .val (.int p3), .val (.ref a4)] [] := by first | (simp [entryFrame, mkF, argsToLocals, Value.category]; done) | rfl
def QrPsr (Z : State) (p1 : Int32) (p2 : Int32) (p3 : Int32) (a4 : Addr) (h0 : Heap) (n0 : Nat) (v : Option Value) (h : Heap) (L : List Loc) : Prop := ∃ z : Int32, z = (p1) ∧ v = some (.int z) ∧ Fr n0 L ∧ h = h0
set_option maxRecDepth 65536 in
set_option maxHeartbeats 40000000 in
theorem rPsr (l : Launch) (Z : State) (a0 : Array Value) (hw : ∀ d ∈ tables_1, d.before a0 Z = true) (ws : List Jvm.Cond) (p1 : Int32) (p2 : Int32) (p3 : Int32) (a4 : Addr) (h0 : Heap) (n0 : Nat) (Z0 : n0 ≤ h0.size) (hs : ¬ ((p3 ||| p1) ||| p2) < (0 : Int32)) (hhi : ¬ (p3 - p1) < p2) :
    MetFree l (⟨"jdk/internal/util/Preconditions", "checkFromIndexSize", "(IIILjava/util/function/BiFunction;)I"⟩ : MethodName) (head1 (Jvm.Cond.code (⟨"jdk/internal/util/Preconditions", "checkFromIndexSize", "(IIILjava/util/function/BiFunction;)I"⟩ : MethodName) jdk_41_method_13_code 4 (some .int) :: ws) ({ frames := 0, cells := 0, slots := 0, locals := 0 } : Room)) (fun a U => a = #[(.int p1), (.int p2), (.int p3), (.ref a4)] ∧ Z.Warmed39 U.vm ∧ U.heap = h0) (fun _ _ _ _ _ => True) (fun _ U o U' => ∃ v L, o = .returned v ∧ QrPsr Z p1 p2 p3 a4 h0 n0 v U'.heap L ∧ FrameEnd U o U' L ({ frames := 0, cells := 0, slots := 0, locals := 0 } : Room).cells ({ frames := 0, cells := 0, slots := 0, locals := 0 } : Room).slots) := by
  refine MetFree.of_bodySF (plainFor_of_name pn_42) hisR ?_
  intro p e s m args below meth c s₁ Bd hml0 hP hK
  obtain ⟨rfl, hZ, hh⟩ := hP
  have hx := Bd.exec
  have hby := Bd.bytes
  have hml : c.maxLocals = 4 := hml0
  have hown : s.vm.findClass "jdk/internal/util/Preconditions" = some m.cls := findClass_of_methodNamed Bd.named
  have hnm := (name_of_methodNamed Bd.named Bd.method).1
  have X0 : Stand p l e ({ frames := 0, cells := 0, slots := 0, locals := 0 } : Room) s m #[(.int p1), (.int p2), (.int p3), (.ref a4)] below meth c s₁ [] 0 0 := Stand.of_body Bd
  have e0 : s₁.heap = h0 := by rw [← hh, Bd.state]; rfl
  have N0 := Fr.nil n0
  have pre0 : ∀ t, Steps p.tables e below (s₁.setTop (mkF m 0 #[.val (.int p1), .val (.int p2), .val (.int p3), .val (.ref a4)] [])) t → Steps p.tables e below (s₁.setTop (entryFrame m #[(.int p1), (.int p2), (.int p3), (.ref a4)] 4)) t := fun t k => castTop (ef_rPsr m p1 p2 p3 a4) k
  obtain ⟨fs, hr, hrun, hended, hW, hsame⟩ := X0.leave (v := some (.int p1)) (fun h => by rw [Bd.returns] at h; cases h) (BodyLoose.notSynchronized Bd)
  refine ⟨_, _, pre0 _ ?_, hrun, hended, _, _, rfl, ?_, ⟨_, rfl⟩, hW, hsame.mono (by decide) (by decide)⟩
  · show Steps p.tables e below (s₁.setTop (mkF m 0 #[.val (.int p1), .val (.int p2), .val (.int p3), .val (.ref a4)] [])) _
    refine XS.iloadN X0.here hx rfl (hb hby d42_0) rfl ?_
    refine XS.iloadN X0.here hx rfl (hb hby d42_1) rfl ?_
    refine XS.ior X0.here hx rfl (hb hby d42_2) rfl ?_
    refine XS.iloadN X0.here hx rfl (hb hby d42_3) rfl ?_
    refine XS.ior X0.here hx rfl (hb hby d42_4) rfl ?_
    refine XS.ifNo X0.here hx rfl (hb hby d42_5) rfl ((if0 _ _).trans (flt hs).1) ?_
    refine XS.iloadN X0.here hx rfl (hb hby d42_8) rfl ?_
    refine XS.iloadN X0.here hx rfl (hb hby d42_9) rfl ?_
    refine XS.iloadN X0.here hx rfl (hb hby d42_10) rfl ?_
    refine XS.isub X0.here hx rfl (hb hby d42_11) rfl ?_
    refine XS.icmpYes X0.here hx rfl (pc0 := 12) (pc' := 23) rfl (hb hby d42_12) rfl (flt hhi).2.2.2 (by decide) (by decide) ?_
    refine XS.iloadN X0.here hx rfl (hb hby d42_23) rfl ?_
    show Steps p.tables e below (s₁.setTop (mkF m 24 #[.val (.int p1), .val (.int p2), .val (.int p3), .val (.ref a4)] [(.int p1)])) _
    exact retI X0 hx Bd.returns (hb hby d42_24) hr
  · show QrPsr Z p1 p2 p3 a4 h0 n0 _ s₁.heap _
    exact ⟨_, rfl, rfl, N0, e0⟩
theorem pd_0 : parseMethodDescriptor "(IILjava/util/function/BiFunction;)I" = some ⟨[.int, .int, (.object "java/util/function/BiFunction")], some .int⟩ := by decide +kernel
theorem d18_0 : decode jdk_42_method_155_code 0 = .ok (.iload_n 0, 1) := by decide +kernel
theorem d18_1 : decode jdk_42_method_155_code 1 = .ok (.iload_n 1, 1) := by decide +kernel
theorem d18_2 : decode jdk_42_method_155_code 2 = .ok (.getstatic 1053, 3) := by decide +kernel
theorem d18_5 : decode jdk_42_method_155_code 5 = .ok (.invokestatic 1059, 3) := by decide +kernel
theorem d18_8 : decode jdk_42_method_155_code 8 = .ok (.pop, 1) := by decide +kernel
theorem d18_9 : decode jdk_42_method_155_code 9 = .ok (.return_, 1) := by decide +kernel
theorem pn_18 : plainName "java/lang/String" = true := by first | (simp [plainName, overriddenIn]; done) | decide +kernel
theorem ef_rSi (m : MethodId) (p1 : Int32) (p2 : Int32) : entryFrame m #[(.int p1), (.int p2)] 2 = mkF m 0 #[.val (.int p1), .val (.int p2)] [] := by first | (simp [entryFrame, mkF, argsToLocals, Value.category]; done) | rfl
def QrSi (Z : State) (p1 : Int32) (p2 : Int32) (gv : Value) (h0 : Heap) (n0 : Nat) (v : Option Value) (h : Heap) (L : List Loc) : Prop := v = none ∧ Fr n0 L ∧ h = h0
set_option maxRecDepth 65536 in
set_option maxHeartbeats 40000000 in
theorem rSi (l : Launch) (Z : State) (a0 : Array Value) (hw : ∀ d ∈ tables_1, d.before a0 Z = true) (ws : List Jvm.Cond) (p1 : Int32) (p2 : Int32) (gv : Value) (h0 : Heap) (n0 : Nat) (Z0 : n0 ≤ h0.size) (X00 : Old Z n0 h0) (O_S : Sta Z Z.heap "jdk/internal/util/Preconditions" "SIOOBE_FORMATTER" "Ljava/util/function/BiFunction;" gv) (hgv : gv.isRef = true) (hlo : ¬ p1 < (0 : Int32)) (hhi : p1 < p2) :
    MetFree l (⟨"java/lang/String", "checkIndex", "(II)V"⟩ : MethodName) (head1 (Jvm.Cond.code (⟨"java/lang/String", "checkIndex", "(II)V"⟩ : MethodName) jdk_42_method_155_code 2 none :: ws) ({ frames := 1, cells := 0, slots := 0, locals := 14 } : Room)) (fun a U => a = #[(.int p1), (.int p2)] ∧ Z.Warmed39 U.vm ∧ U.heap = h0) (fun _ _ _ _ _ => True) (fun _ U o U' => ∃ v L, o = .returned v ∧ QrSi Z p1 p2 gv h0 n0 v U'.heap L ∧ FrameEnd U o U' L ({ frames := 1, cells := 0, slots := 0, locals := 14 } : Room).cells ({ frames := 1, cells := 0, slots := 0, locals := 14 } : Room).slots) := by
  refine MetFree.of_bodySF (plainFor_of_name pn_18) hisR ?_
  intro p e s m args below meth c s₁ Bd hml0 hP hK
  obtain ⟨rfl, hZ, hh⟩ := hP
  have hx := Bd.exec
  have hby := Bd.bytes
  have hml : c.maxLocals = 2 := hml0
  have hown : s.vm.findClass "java/lang/String" = some m.cls := findClass_of_methodNamed Bd.named
  have hnm := (name_of_methodNamed Bd.named Bd.method).1
  have X0 : Stand p l e ({ frames := 1, cells := 0, slots := 0, locals := 14 } : Room) s m #[(.int p1), (.int p2)] below meth c s₁ [] 0 0 := Stand.of_body Bd
  have e0 : s₁.heap = h0 := by rw [← hh, Bd.state]; rfl
  have N0 := Fr.nil n0
  have pre0 : ∀ t, Steps p.tables e below (s₁.setTop (mkF m 0 #[.val (.int p1), .val (.int p2)] [])) t → Steps p.tables e below (s₁.setTop (entryFrame m #[(.int p1), (.int p2)] 2)) t := fun t k => castTop (ef_rSi m p1 p2) k
  rcases ref_cases hgv with hg | ⟨G3, hg⟩
  · rw [hg] at O_S
    obtain ⟨T1, X1, e1, st1⟩ := getS2 X0 hx hZ hown (host := "") (Or.inl (hw _ (own_w 88 rfl))) Via.refl e0 (O_S.ext X00.2) (g := (mkF m 2 #[.val (.int p1), .val (.int p2)] [(.int p2), (.int p1)])) rfl (hb hby d18_2)
    obtain ⟨_, _, ⟨T2, Lq2, kq2, nq2⟩, -, X2, ⟨Lc2, hQ2, lq2, yq2, zq2⟩, st2⟩ := Jvm.LawKit.callS X1 hx (y := (⟨"jdk/internal/util/Preconditions", "checkIndex", "(IILjava/util/function/BiFunction;)I"⟩ : MethodName)) hown (mvT hZ (hw _ (own_w 90 rfl))) (mvT hZ (hw _ (own_w 91 rfl))) (mvT hZ (hw _ (own_w 89 rfl))) (mvT hZ (hw _ (own_w 92 rfl))) (by decide) (backOf (W := 0) (rPin l Z a0 hw [] p1 p2  h0 n0 Z0 hlo hhi) hZ (hw _ (own_w 92 rfl)) (hw _ (own_w 89 rfl)) (by decide) (by decide)) (g := (mkF m 5 #[.val (.int p1), .val (.int p2)] [.null, (.int p2), (.int p1)])) rfl (by rw [hml]; rfl) (argsL := [(.int p1), (.int p2), .null]) (rest := []) (lenOf pd_0 rfl) rfl (by show 2 * 0 + _ ≤ _; exact Nat.le_of_eq rfl) (hb hby d18_5) (fun _ _ => ⟨rfl, e1, (by decide : 0 + 0 ≤ _), (by decide : 0 + 0 ≤ _)⟩)
    dsimp only [Pt.U, Pt.locs, Pt.cells, Pt.slots] at X2 lq2 yq2 zq2 st2 hQ2
    subst lq2 yq2 zq2
    obtain ⟨r2, hr2, rfl, N2q, e2⟩ := hQ2
    have N2 := Fr.app N0 N2q
    obtain ⟨fs, hr, hrun, hended, hW, hsame⟩ := X2.leave (v := none) (fun _ => rfl) (BodyLoose.notSynchronized Bd)
    refine ⟨_, _, pre0 _ ?_, hrun, hended, _, _, rfl, ?_, ⟨_, rfl⟩, hW, hsame.mono (by decide) (by decide)⟩
    · show Steps p.tables e below (s₁.setTop (mkF m 0 #[.val (.int p1), .val (.int p2)] [])) _
      refine XS.iloadN X0.here hx rfl (hb hby d18_0) rfl ?_
      refine XS.iloadN X0.here hx rfl (hb hby d18_1) rfl ?_
      refine st1 _ ?_
      refine st2 _ ?_
      refine XS.pop X2.here hx rfl (hb hby d18_8) rfl rfl ?_
      show Steps p.tables e below (T2.setTop (mkF m 9 #[.val (.int p1), .val (.int p2)] [])) _
      exact X2.returnOut hx Bd.returns (hb hby d18_9) hr
    · show QrSi Z p1 p2 gv h0 n0 _ T2.heap _
      exact ⟨rfl, N2, e2⟩
  · rw [hg] at O_S
    obtain ⟨T3, X3, e3, st3⟩ := getS2 X0 hx hZ hown (host := "") (Or.inl (hw _ (own_w 88 rfl))) Via.refl e0 (O_S.ext X00.2) (g := (mkF m 2 #[.val (.int p1), .val (.int p2)] [(.int p2), (.int p1)])) rfl (hb hby d18_2)
    obtain ⟨_, _, ⟨T4, Lq4, kq4, nq4⟩, -, X4, ⟨Lc4, hQ4, lq4, yq4, zq4⟩, st4⟩ := Jvm.LawKit.callS X3 hx (y := (⟨"jdk/internal/util/Preconditions", "checkIndex", "(IILjava/util/function/BiFunction;)I"⟩ : MethodName)) hown (mvT hZ (hw _ (own_w 90 rfl))) (mvT hZ (hw _ (own_w 91 rfl))) (mvT hZ (hw _ (own_w 89 rfl))) (mvT hZ (hw _ (own_w 92 rfl))) (by decide) (backOf (W := 0) (rPir l Z a0 hw [] p1 p2 G3  h0 n0 Z0 hlo hhi) hZ (hw _ (own_w 92 rfl)) (hw _ (own_w 89 rfl)) (by decide) (by decide)) (g := (mkF m 5 #[.val (.int p1), .val (.int p2)] [(.ref G3), (.int p2), (.int p1)])) rfl (by rw [hml]; rfl) (argsL := [(.int p1), (.int p2), (.ref G3)]) (rest := []) (lenOf pd_0 rfl) rfl (by show 2 * 0 + _ ≤ _; exact Nat.le_of_eq rfl) (hb hby d18_5) (fun _ _ => ⟨rfl, e3, (by decide : 0 + 0 ≤ _), (by decide : 0 + 0 ≤ _)⟩)
    dsimp only [Pt.U, Pt.locs, Pt.cells, Pt.slots] at X4 lq4 yq4 zq4 st4 hQ4
    subst lq4 yq4 zq4
    obtain ⟨r4, hr4, rfl, N4q, e4⟩ := hQ4
    have N4 := Fr.app N0 N4q
    obtain ⟨fs, hr, hrun, hended, hW, hsame⟩ := X4.leave (v := none) (fun _ => rfl) (BodyLoose.notSynchronized Bd)
    refine ⟨_, _, pre0 _ ?_, hrun, hended, _, _, rfl, ?_, ⟨_, rfl⟩, hW, hsame.mono (by decide) (by decide)⟩
    · show Steps p.tables e below (s₁.setTop (mkF m 0 #[.val (.int p1), .val (.int p2)] [])) _
      refine XS.iloadN X0.here hx rfl (hb hby d18_0) rfl ?_
      refine XS.iloadN X0.here hx rfl (hb hby d18_1) rfl ?_
      refine st3 _ ?_
      refine st4 _ ?_
      refine XS.pop X4.here hx rfl (hb hby d18_8) rfl rfl ?_
      show Steps p.tables e below (T4.setTop (mkF m 9 #[.val (.int p1), .val (.int p2)] [])) _
      exact X4.returnOut hx Bd.returns (hb hby d18_9) hr
    · show QrSi Z p1 p2 gv h0 n0 _ T4.heap _
      exact ⟨rfl, N4, e4⟩
theorem pd_1 : parseMethodDescriptor "(IIILjava/util/function/BiFunction;)I" = some ⟨[.int, .int, .int, (.object "java/util/function/BiFunction")], some .int⟩ := by decide +kernel
theorem d22_0 : decode jdk_42_method_158_code 0 = .ok (.iload_n 0, 1) := by decide +kernel
theorem d22_1 : decode jdk_42_method_158_code 1 = .ok (.iload_n 1, 1) := by decide +kernel
theorem d22_2 : decode jdk_42_method_158_code 2 = .ok (.iload_n 2, 1) := by decide +kernel
theorem d22_3 : decode jdk_42_method_158_code 3 = .ok (.getstatic 1053, 3) := by decide +kernel
theorem d22_6 : decode jdk_42_method_158_code 6 = .ok (.invokestatic 1062, 3) := by decide +kernel
theorem d22_9 : decode jdk_42_method_158_code 9 = .ok (.pop, 1) := by decide +kernel
theorem d22_10 : decode jdk_42_method_158_code 10 = .ok (.return_, 1) := by decide +kernel
theorem pn_22 : plainName "java/lang/String" = true := by first | (simp [plainName, overriddenIn]; done) | decide +kernel
theorem ef_rSb (m : MethodId) (p1 : Int32) (p2 : Int32) (p3 : Int32) : entryFrame m #[(.int p1), (.int p2), (.int p3)] 3 = mkF m 0 #[.val (.int p1), .val (.int p2), .val (.int p3)] [] := by first | (simp [entryFrame, mkF, argsToLocals, Value.category]; done) | rfl
def QrSb (Z : State) (p1 : Int32) (p2 : Int32) (p3 : Int32) (gv : Value) (h0 : Heap) (n0 : Nat) (v : Option Value) (h : Heap) (L : List Loc) : Prop := v = none ∧ Fr n0 L ∧ h = h0
set_option maxRecDepth 65536 in
set_option maxHeartbeats 40000000 in
theorem rSb (l : Launch) (Z : State) (a0 : Array Value) (hw : ∀ d ∈ tables_1, d.before a0 Z = true) (ws : List Jvm.Cond) (p1 : Int32) (p2 : Int32) (p3 : Int32) (gv : Value) (h0 : Heap) (n0 : Nat) (Z0 : n0 ≤ h0.size) (X00 : Old Z n0 h0) (O_S : Sta Z Z.heap "jdk/internal/util/Preconditions" "SIOOBE_FORMATTER" "Ljava/util/function/BiFunction;" gv) (hgv : gv.isRef = true) (hlo : ¬ p1 < (0 : Int32)) (hm : ¬ p2 < p1) (hhi : ¬ p3 < p2) :
    MetFree l (⟨"java/lang/String", "checkBoundsBeginEnd", "(III)V"⟩ : MethodName) (head1 (Jvm.Cond.code (⟨"java/lang/String", "checkBoundsBeginEnd", "(III)V"⟩ : MethodName) jdk_42_method_158_code 3 none :: ws) ({ frames := 1, cells := 0, slots := 0, locals := 15 } : Room)) (fun a U => a = #[(.int p1), (.int p2), (.int p3)] ∧ Z.Warmed39 U.vm ∧ U.heap = h0) (fun _ _ _ _ _ => True) (fun _ U o U' => ∃ v L, o = .returned v ∧ QrSb Z p1 p2 p3 gv h0 n0 v U'.heap L ∧ FrameEnd U o U' L ({ frames := 1, cells := 0, slots := 0, locals := 15 } : Room).cells ({ frames := 1, cells := 0, slots := 0, locals := 15 } : Room).slots) := by
  refine MetFree.of_bodySF (plainFor_of_name pn_22) hisR ?_
  intro p e s m args below meth c s₁ Bd hml0 hP hK
  obtain ⟨rfl, hZ, hh⟩ := hP
  have hx := Bd.exec
  have hby := Bd.bytes
  have hml : c.maxLocals = 3 := hml0
  have hown : s.vm.findClass "java/lang/String" = some m.cls := findClass_of_methodNamed Bd.named
  have hnm := (name_of_methodNamed Bd.named Bd.method).1
  have X0 : Stand p l e ({ frames := 1, cells := 0, slots := 0, locals := 15 } : Room) s m #[(.int p1), (.int p2), (.int p3)] below meth c s₁ [] 0 0 := Stand.of_body Bd
  have e0 : s₁.heap = h0 := by rw [← hh, Bd.state]; rfl
  have N0 := Fr.nil n0
  have pre0 : ∀ t, Steps p.tables e below (s₁.setTop (mkF m 0 #[.val (.int p1), .val (.int p2), .val (.int p3)] [])) t → Steps p.tables e below (s₁.setTop (entryFrame m #[(.int p1), (.int p2), (.int p3)] 3)) t := fun t k => castTop (ef_rSb m p1 p2 p3) k
  rcases ref_cases hgv with hg | ⟨G3, hg⟩
  · rw [hg] at O_S
    obtain ⟨T1, X1, e1, st1⟩ := getS2 X0 hx hZ hown (host := "") (Or.inl (hw _ (own_w 88 rfl))) Via.refl e0 (O_S.ext X00.2) (g := (mkF m 3 #[.val (.int p1), .val (.int p2), .val (.int p3)] [(.int p3), (.int p2), (.int p1)])) rfl (hb hby d22_3)
    obtain ⟨_, _, ⟨T2, Lq2, kq2, nq2⟩, -, X2, ⟨Lc2, hQ2, lq2, yq2, zq2⟩, st2⟩ := Jvm.LawKit.callS X1 hx (y := (⟨"jdk/internal/util/Preconditions", "checkFromToIndex", "(IIILjava/util/function/BiFunction;)I"⟩ : MethodName)) hown (mvT hZ (hw _ (own_w 107 rfl))) (mvT hZ (hw _ (own_w 108 rfl))) (mvT hZ (hw _ (own_w 89 rfl))) (mvT hZ (hw _ (own_w 109 rfl))) (by decide) (backOf (W := 0) (rPtn l Z a0 hw [] p1 p2 p3  h0 n0 Z0 hlo hm hhi) hZ (hw _ (own_w 109 rfl)) (hw _ (own_w 89 rfl)) (by decide) (by decide)) (g := (mkF m 6 #[.val (.int p1), .val (.int p2), .val (.int p3)] [.null, (.int p3), (.int p2), (.int p1)])) rfl (by rw [hml]; rfl) (argsL := [(.int p1), (.int p2), (.int p3), .null]) (rest := []) (lenOf pd_1 rfl) rfl (by show 2 * 0 + _ ≤ _; exact Nat.le_of_eq rfl) (hb hby d22_6) (fun _ _ => ⟨rfl, e1, (by decide : 0 + 0 ≤ _), (by decide : 0 + 0 ≤ _)⟩)
    dsimp only [Pt.U, Pt.locs, Pt.cells, Pt.slots] at X2 lq2 yq2 zq2 st2 hQ2
    subst lq2 yq2 zq2
    obtain ⟨r2, hr2, rfl, N2q, e2⟩ := hQ2
    have N2 := Fr.app N0 N2q
    obtain ⟨fs, hr, hrun, hended, hW, hsame⟩ := X2.leave (v := none) (fun _ => rfl) (BodyLoose.notSynchronized Bd)
    refine ⟨_, _, pre0 _ ?_, hrun, hended, _, _, rfl, ?_, ⟨_, rfl⟩, hW, hsame.mono (by decide) (by decide)⟩
    · show Steps p.tables e below (s₁.setTop (mkF m 0 #[.val (.int p1), .val (.int p2), .val (.int p3)] [])) _
      refine XS.iloadN X0.here hx rfl (hb hby d22_0) rfl ?_
      refine XS.iloadN X0.here hx rfl (hb hby d22_1) rfl ?_
      refine XS.iloadN X0.here hx rfl (hb hby d22_2) rfl ?_
      refine st1 _ ?_
      refine st2 _ ?_
      refine XS.pop X2.here hx rfl (hb hby d22_9) rfl rfl ?_
      show Steps p.tables e below (T2.setTop (mkF m 10 #[.val (.int p1), .val (.int p2), .val (.int p3)] [])) _
      exact X2.returnOut hx Bd.returns (hb hby d22_10) hr
    · show QrSb Z p1 p2 p3 gv h0 n0 _ T2.heap _
      exact ⟨rfl, N2, e2⟩
  · rw [hg] at O_S
    obtain ⟨T3, X3, e3, st3⟩ := getS2 X0 hx hZ hown (host := "") (Or.inl (hw _ (own_w 88 rfl))) Via.refl e0 (O_S.ext X00.2) (g := (mkF m 3 #[.val (.int p1), .val (.int p2), .val (.int p3)] [(.int p3), (.int p2), (.int p1)])) rfl (hb hby d22_3)
    obtain ⟨_, _, ⟨T4, Lq4, kq4, nq4⟩, -, X4, ⟨Lc4, hQ4, lq4, yq4, zq4⟩, st4⟩ := Jvm.LawKit.callS X3 hx (y := (⟨"jdk/internal/util/Preconditions", "checkFromToIndex", "(IIILjava/util/function/BiFunction;)I"⟩ : MethodName)) hown (mvT hZ (hw _ (own_w 107 rfl))) (mvT hZ (hw _ (own_w 108 rfl))) (mvT hZ (hw _ (own_w 89 rfl))) (mvT hZ (hw _ (own_w 109 rfl))) (by decide) (backOf (W := 0) (rPtr l Z a0 hw [] p1 p2 p3 G3  h0 n0 Z0 hlo hm hhi) hZ (hw _ (own_w 109 rfl)) (hw _ (own_w 89 rfl)) (by decide) (by decide)) (g := (mkF m 6 #[.val (.int p1), .val (.int p2), .val (.int p3)] [(.ref G3), (.int p3), (.int p2), (.int p1)])) rfl (by rw [hml]; rfl) (argsL := [(.int p1), (.int p2), (.int p3), (.ref G3)]) (rest := []) (lenOf pd_1 rfl) rfl (by show 2 * 0 + _ ≤ _; exact Nat.le_of_eq rfl) (hb hby d22_6) (fun _ _ => ⟨rfl, e3, (by decide : 0 + 0 ≤ _), (by decide : 0 + 0 ≤ _)⟩)
    dsimp only [Pt.U, Pt.locs, Pt.cells, Pt.slots] at X4 lq4 yq4 zq4 st4 hQ4
    subst lq4 yq4 zq4
    obtain ⟨r4, hr4, rfl, N4q, e4⟩ := hQ4
    have N4 := Fr.app N0 N4q
    obtain ⟨fs, hr, hrun, hended, hW, hsame⟩ := X4.leave (v := none) (fun _ => rfl) (BodyLoose.notSynchronized Bd)
    refine ⟨_, _, pre0 _ ?_, hrun, hended, _, _, rfl, ?_, ⟨_, rfl⟩, hW, hsame.mono (by decide) (by decide)⟩
    · show Steps p.tables e below (s₁.setTop (mkF m 0 #[.val (.int p1), .val (.int p2), .val (.int p3)] [])) _
      refine XS.iloadN X0.here hx rfl (hb hby d22_0) rfl ?_
      refine XS.iloadN X0.here hx rfl (hb hby d22_1) rfl ?_
      refine XS.iloadN X0.here hx rfl (hb hby d22_2) rfl ?_
      refine st3 _ ?_
      refine st4 _ ?_
      refine XS.pop X4.here hx rfl (hb hby d22_9) rfl rfl ?_
      show Steps p.tables e below (T4.setTop (mkF m 10 #[.val (.int p1), .val (.int p2), .val (.int p3)] [])) _
      exact X4.returnOut hx Bd.returns (hb hby d22_10) hr
    · show QrSb Z p1 p2 p3 gv h0 n0 _ T4.heap _
      exact ⟨rfl, N4, e4⟩
theorem d41_0 : decode jdk_42_method_157_code 0 = .ok (.iload_n 0, 1) := by decide +kernel
theorem d41_1 : decode jdk_42_method_157_code 1 = .ok (.iload_n 1, 1) := by decide +kernel
theorem d41_2 : decode jdk_42_method_157_code 2 = .ok (.iload_n 2, 1) := by decide +kernel
theorem d41_3 : decode jdk_42_method_157_code 3 = .ok (.getstatic 1053, 3) := by decide +kernel
theorem d41_6 : decode jdk_42_method_157_code 6 = .ok (.invokestatic 1065, 3) := by decide +kernel
theorem d41_9 : decode jdk_42_method_157_code 9 = .ok (.ireturn, 1) := by decide +kernel
theorem pn_41 : plainName "java/lang/String" = true := by first | (simp [plainName, overriddenIn]; done) | decide +kernel
theorem ef_rSo (m : MethodId) (p1 : Int32) (p2 : Int32) (p3 : Int32) : entryFrame m #[(.int p1), (.int p2), (.int p3)] 3 = mkF m 0 #[.val (.int p1), .val (.int p2), .val (.int p3)] [] := by first | (simp [entryFrame, mkF, argsToLocals, Value.category]; done) | rfl
def QrSo (Z : State) (p1 : Int32) (p2 : Int32) (p3 : Int32) (gv : Value) (h0 : Heap) (n0 : Nat) (v : Option Value) (h : Heap) (L : List Loc) : Prop := ∃ z : Int32, z = (p1) ∧ v = some (.int z) ∧ Fr n0 L ∧ h = h0
set_option maxRecDepth 65536 in
set_option maxHeartbeats 40000000 in
theorem rSo (l : Launch) (Z : State) (a0 : Array Value) (hw : ∀ d ∈ tables_1, d.before a0 Z = true) (ws : List Jvm.Cond) (p1 : Int32) (p2 : Int32) (p3 : Int32) (gv : Value) (h0 : Heap) (n0 : Nat) (Z0 : n0 ≤ h0.size) (X00 : Old Z n0 h0) (O_S : Sta Z Z.heap "jdk/internal/util/Preconditions" "SIOOBE_FORMATTER" "Ljava/util/function/BiFunction;" gv) (hgv : gv.isRef = true) (hs : ¬ ((p3 ||| p1) ||| p2) < (0 : Int32)) (hhi : ¬ (p3 - p1) < p2) :
    MetFree l (⟨"java/lang/String", "checkBoundsOffCount", "(III)I"⟩ : MethodName) (head1 (Jvm.Cond.code (⟨"java/lang/String", "checkBoundsOffCount", "(III)I"⟩ : MethodName) jdk_42_method_157_code 3 (some .int) :: ws) ({ frames := 1, cells := 0, slots := 0, locals := 15 } : Room)) (fun a U => a = #[(.int p1), (.int p2), (.int p3)] ∧ Z.Warmed39 U.vm ∧ U.heap = h0) (fun _ _ _ _ _ => True) (fun _ U o U' => ∃ v L, o = .returned v ∧ QrSo Z p1 p2 p3 gv h0 n0 v U'.heap L ∧ FrameEnd U o U' L ({ frames := 1, cells := 0, slots := 0, locals := 15 } : Room).cells ({ frames := 1, cells := 0, slots := 0, locals := 15 } : Room).slots) := by
  refine MetFree.of_bodySF (plainFor_of_name pn_41) hisR ?_
  intro p e s m args below meth c s₁ Bd hml0 hP hK
  obtain ⟨rfl, hZ, hh⟩ := hP
  have hx := Bd.exec
  have hby := Bd.bytes
  have hml : c.maxLocals = 3 := hml0
  have hown : s.vm.findClass "java/lang/String" = some m.cls := findClass_of_methodNamed Bd.named
  have hnm := (name_of_methodNamed Bd.named Bd.method).1
  have X0 : Stand p l e ({ frames := 1, cells := 0, slots := 0, locals := 15 } : Room) s m #[(.int p1), (.int p2), (.int p3)] below meth c s₁ [] 0 0 := Stand.of_body Bd
  have e0 : s₁.heap = h0 := by rw [← hh, Bd.state]; rfl
  have N0 := Fr.nil n0
  have pre0 : ∀ t, Steps p.tables e below (s₁.setTop (mkF m 0 #[.val (.int p1), .val (.int p2), .val (.int p3)] [])) t → Steps p.tables e below (s₁.setTop (entryFrame m #[(.int p1), (.int p2), (.int p3)] 3)) t := fun t k => castTop (ef_rSo m p1 p2 p3) k
  rcases ref_cases hgv with hg | ⟨G3, hg⟩
  · rw [hg] at O_S
    obtain ⟨T1, X1, e1, st1⟩ := getS2 X0 hx hZ hown (host := "") (Or.inl (hw _ (own_w 88 rfl))) Via.refl e0 (O_S.ext X00.2) (g := (mkF m 3 #[.val (.int p1), .val (.int p2), .val (.int p3)] [(.int p3), (.int p2), (.int p1)])) rfl (hb hby d41_3)
    obtain ⟨_, _, ⟨T2, Lq2, kq2, nq2⟩, -, X2, ⟨Lc2, hQ2, lq2, yq2, zq2⟩, st2⟩ := Jvm.LawKit.callS X1 hx (y := (⟨"jdk/internal/util/Preconditions", "checkFromIndexSize", "(IIILjava/util/function/BiFunction;)I"⟩ : MethodName)) hown (mvT hZ (hw _ (own_w 179 rfl))) (mvT hZ (hw _ (own_w 180 rfl))) (mvT hZ (hw _ (own_w 89 rfl))) (mvT hZ (hw _ (own_w 181 rfl))) (by decide) (backOf (W := 0) (rPsn l Z a0 hw [] p1 p2 p3  h0 n0 Z0 hs hhi) hZ (hw _ (own_w 181 rfl)) (hw _ (own_w 89 rfl)) (by decide) (by decide)) (g := (mkF m 6 #[.val (.int p1), .val (.int p2), .val (.int p3)] [.null, (.int p3), (.int p2), (.int p1)])) rfl (by rw [hml]; rfl) (argsL := [(.int p1), (.int p2), (.int p3), .null]) (rest := []) (lenOf pd_1 rfl) rfl (by show 2 * 0 + _ ≤ _; exact Nat.le_of_eq rfl) (hb hby d41_6) (fun _ _ => ⟨rfl, e1, (by decide : 0 + 0 ≤ _), (by decide : 0 + 0 ≤ _)⟩)
    dsimp only [Pt.U, Pt.locs, Pt.cells, Pt.slots] at X2 lq2 yq2 zq2 st2 hQ2
    subst lq2 yq2 zq2
    obtain ⟨r2, hr2, rfl, N2q, e2⟩ := hQ2
    have N2 := Fr.app N0 N2q
    obtain ⟨fs, hr, hrun, hended, hW, hsame⟩ := X2.leave (v := some (.int r2)) (fun h => by rw [Bd.returns] at h; cases h) (BodyLoose.notSynchronized Bd)
    refine ⟨_, _, pre0 _ ?_, hrun, hended, _, _, rfl, ?_, ⟨_, rfl⟩, hW, hsame.mono (by decide) (by decide)⟩
    · show Steps p.tables e below (s₁.setTop (mkF m 0 #[.val (.int p1), .val (.int p2), .val (.int p3)] [])) _
      refine XS.iloadN X0.here hx rfl (hb hby d41_0) rfl ?_
      refine XS.iloadN X0.here hx rfl (hb hby d41_1) rfl ?_
      refine XS.iloadN X0.here hx rfl (hb hby d41_2) rfl ?_
      refine st1 _ ?_
      refine st2 _ ?_
      show Steps p.tables e below (T2.setTop (mkF m 9 #[.val (.int p1), .val (.int p2), .val (.int p3)] [(.int r2)])) _
      exact retI X2 hx Bd.returns (hb hby d41_9) hr
    · show QrSo Z p1 p2 p3 gv h0 n0 _ T2.heap _
      exact ⟨_, hr2, rfl, N2, e2⟩
  · rw [hg] at O_S
    obtain ⟨T3, X3, e3, st3⟩ := getS2 X0 hx hZ hown (host := "") (Or.inl (hw _ (own_w 88 rfl))) Via.refl e0 (O_S.ext X00.2) (g := (mkF m 3 #[.val (.int p1), .val (.int p2), .val (.int p3)] [(.int p3), (.int p2), (.int p1)])) rfl (hb hby d41_3)
    obtain ⟨_, _, ⟨T4, Lq4, kq4, nq4⟩, -, X4, ⟨Lc4, hQ4, lq4, yq4, zq4⟩, st4⟩ := Jvm.LawKit.callS X3 hx (y := (⟨"jdk/internal/util/Preconditions", "checkFromIndexSize", "(IIILjava/util/function/BiFunction;)I"⟩ : MethodName)) hown (mvT hZ (hw _ (own_w 179 rfl))) (mvT hZ (hw _ (own_w 180 rfl))) (mvT hZ (hw _ (own_w 89 rfl))) (mvT hZ (hw _ (own_w 181 rfl))) (by decide) (backOf (W := 0) (rPsr l Z a0 hw [] p1 p2 p3 G3  h0 n0 Z0 hs hhi) hZ (hw _ (own_w 181 rfl)) (hw _ (own_w 89 rfl)) (by decide) (by decide)) (g := (mkF m 6 #[.val (.int p1), .val (.int p2), .val (.int p3)] [(.ref G3), (.int p3), (.int p2), (.int p1)])) rfl (by rw [hml]; rfl) (argsL := [(.int p1), (.int p2), (.int p3), (.ref G3)]) (rest := []) (lenOf pd_1 rfl) rfl (by show 2 * 0 + _ ≤ _; exact Nat.le_of_eq rfl) (hb hby d41_6) (fun _ _ => ⟨rfl, e3, (by decide : 0 + 0 ≤ _), (by decide : 0 + 0 ≤ _)⟩)
    dsimp only [Pt.U, Pt.locs, Pt.cells, Pt.slots] at X4 lq4 yq4 zq4 st4 hQ4
    subst lq4 yq4 zq4
    obtain ⟨r4, hr4, rfl, N4q, e4⟩ := hQ4
    have N4 := Fr.app N0 N4q
    obtain ⟨fs, hr, hrun, hended, hW, hsame⟩ := X4.leave (v := some (.int r4)) (fun h => by rw [Bd.returns] at h; cases h) (BodyLoose.notSynchronized Bd)
    refine ⟨_, _, pre0 _ ?_, hrun, hended, _, _, rfl, ?_, ⟨_, rfl⟩, hW, hsame.mono (by decide) (by decide)⟩
    · show Steps p.tables e below (s₁.setTop (mkF m 0 #[.val (.int p1), .val (.int p2), .val (.int p3)] [])) _
      refine XS.iloadN X0.here hx rfl (hb hby d41_0) rfl ?_
      refine XS.iloadN X0.here hx rfl (hb hby d41_1) rfl ?_
      refine XS.iloadN X0.here hx rfl (hb hby d41_2) rfl ?_
      refine st3 _ ?_
      refine st4 _ ?_
      show Steps p.tables e below (T4.setTop (mkF m 9 #[.val (.int p1), .val (.int p2), .val (.int p3)] [(.int r4)])) _
      exact retI X4 hx Bd.returns (hb hby d41_9) hr
    · show QrSo Z p1 p2 p3 gv h0 n0 _ T4.heap _
      exact ⟨_, hr4, rfl, N4, e4⟩
theorem d8_0 : decode jdk_42_method_152_code 0 = .ok (.getstatic 38, 3) := by decide +kernel
theorem d8_3 : decode jdk_42_method_152_code 3 = .ok (.ifCond .eq 10, 3) := by decide +kernel
theorem d8_6 : decode jdk_42_method_152_code 6 = .ok (.aload_n 0, 1) := by decide +kernel
theorem d8_7 : decode jdk_42_method_152_code 7 = .ok (.getfield 15, 3) := by decide +kernel
theorem d8_10 : decode jdk_42_method_152_code 10 = .ok (.goto 4, 3) := by decide +kernel
theorem d8_14 : decode jdk_42_method_152_code 14 = .ok (.ireturn, 1) := by decide +kernel
theorem pn_8 : plainName "java/lang/String" = true := by first | (simp [plainName, overriddenIn]; done) | decide +kernel
theorem ef_rCo0 (m : MethodId) (a1 : Addr) : entryFrame m #[(.ref a1)] 1 = mkF m 0 #[.val (.ref a1)] [] := by first | (simp [entryFrame, mkF, argsToLocals, Value.category]; done) | rfl
def QrCo0 (Z : State) (a1 : Addr) (G1 : Int32) (h0 : Heap) (n0 : Nat) (v : Option Value) (h : Heap) (L : List Loc) : Prop := ∃ z : Int32, z = ((0 : Int32)) ∧ v = some (.int z) ∧ Fr n0 L ∧ h = h0
set_option maxRecDepth 65536 in
set_option maxHeartbeats 40000000 in
theorem rCo0 (l : Launch) (Z : State) (a0 : Array Value) (hw : ∀ d ∈ tables_1, d.before a0 Z = true) (ws : List Jvm.Cond) (a1 : Addr) (G1 : Int32) (h0 : Heap) (n0 : Nat) (Z0 : n0 ≤ h0.size) (X00 : Old Z n0 h0) (O_2 : Sta Z Z.heap "java/lang/String" "COMPACT_STRINGS" "Z" (.int G1)) (P5 : ¬ (G1 = (0 : Int32))) (FC : Fld Z h0 a1 "java/lang/String" "coder" "B" (.int (0 : Int32))) :
    MetFree l (⟨"java/lang/String", "coder", "()B"⟩ : MethodName) (head1 (Jvm.Cond.code (⟨"java/lang/String", "coder", "()B"⟩ : MethodName) jdk_42_method_152_code 1 (some .byte) :: ws) ({ frames := 0, cells := 0, slots := 0, locals := 0 } : Room)) (fun a U => a = #[(.ref a1)] ∧ Z.Warmed39 U.vm ∧ U.heap = h0) (fun _ _ _ _ _ => True) (fun _ U o U' => ∃ v L, o = .returned v ∧ QrCo0 Z a1 G1 h0 n0 v U'.heap L ∧ FrameEnd U o U' L ({ frames := 0, cells := 0, slots := 0, locals := 0 } : Room).cells ({ frames := 0, cells := 0, slots := 0, locals := 0 } : Room).slots) := by
  refine MetFree.of_bodySF (plainFor_of_name pn_8) hisR ?_
  intro p e s m args below meth c s₁ Bd hml0 hP hK
  obtain ⟨rfl, hZ, hh⟩ := hP
  have hx := Bd.exec
  have hby := Bd.bytes
  have hml : c.maxLocals = 1 := hml0
  have hown : s.vm.findClass "java/lang/String" = some m.cls := findClass_of_methodNamed Bd.named
  have hnm := (name_of_methodNamed Bd.named Bd.method).1
  have X0 : Stand p l e ({ frames := 0, cells := 0, slots := 0, locals := 0 } : Room) s m #[(.ref a1)] below meth c s₁ [] 0 0 := Stand.of_body Bd
  have e0 : s₁.heap = h0 := by rw [← hh, Bd.state]; rfl
  have N0 := Fr.nil n0
  have pre0 : ∀ t, Steps p.tables e below (s₁.setTop (mkF m 0 #[.val (.ref a1)] [])) t → Steps p.tables e below (s₁.setTop (entryFrame m #[(.ref a1)] 1)) t := fun t k => castTop (ef_rCo0 m a1) k
  obtain ⟨T1, X1, e1, st1⟩ := getS2 X0 hx hZ hown (host := "") (Or.inl (hw _ (own_w 45 rfl))) Via.refl e0 (O_2.ext X00.2) (g := (mkF m 0 #[.val (.ref a1)] [])) rfl (hb hby d8_0)
  obtain ⟨T2, X2, e2, st2⟩ := getF X1 hx hZ hown (host := "") (Or.inl (hw _ (own_w 30 rfl))) Via.refl e1 FC (g := (mkF m 7 #[.val (.ref a1)] [(.ref a1)])) rfl rfl (hb hby d8_7)
  obtain ⟨fs, hr, hrun, hended, hW, hsame⟩ := X2.leave (v := some (.int (0 : Int32))) (fun h => by rw [Bd.returns] at h; cases h) (BodyLoose.notSynchronized Bd)
  refine ⟨_, _, pre0 _ ?_, hrun, hended, _, _, rfl, ?_, ⟨_, rfl⟩, hW, hsame.mono (by decide) (by decide)⟩
  · show Steps p.tables e below (s₁.setTop (mkF m 0 #[.val (.ref a1)] [])) _
    refine st1 _ ?_
    refine XS.ifNo X1.here hx rfl (hb hby d8_3) rfl ((if0 _ _).trans (feq P5).1) ?_
    refine XS.aloadN X1.here hx rfl (hb hby d8_6) rfl rfl ?_
    refine st2 _ ?_
    refine XS.goto X2.here hx rfl (pc0 := 10) (pc' := 14) rfl (hb hby d8_10) (by decide) (by decide) ?_
    show Steps p.tables e below (T2.setTop (mkF m 14 #[.val (.ref a1)] [(.int (0 : Int32))])) _
    exact retN X2 hx (t := .byte) Bd.returns (by simp) (hb hby d8_14) hr
  · show QrCo0 Z a1 G1 h0 n0 _ T2.heap _
    exact ⟨_, rfl, rfl, N0, e2⟩
theorem d16_0 : decode jdk_42_method_154_code 0 = .ok (.getstatic 38, 3) := by decide +kernel
theorem d16_3 : decode jdk_42_method_154_code 3 = .ok (.ifCond .eq 14, 3) := by decide +kernel
theorem d16_6 : decode jdk_42_method_154_code 6 = .ok (.aload_n 0, 1) := by decide +kernel
theorem d16_7 : decode jdk_42_method_154_code 7 = .ok (.getfield 15, 3) := by decide +kernel
theorem d16_10 : decode jdk_42_method_154_code 10 = .ok (.ifCond .ne 7, 3) := by decide +kernel
theorem d16_13 : decode jdk_42_method_154_code 13 = .ok (.iconst 1, 1) := by decide +kernel
theorem d16_14 : decode jdk_42_method_154_code 14 = .ok (.goto 4, 3) := by decide +kernel
theorem d16_18 : decode jdk_42_method_154_code 18 = .ok (.ireturn, 1) := by decide +kernel
theorem pn_16 : plainName "java/lang/String" = true := by first | (simp [plainName, overriddenIn]; done) | decide +kernel
theorem ef_rIs0 (m : MethodId) (a1 : Addr) : entryFrame m #[(.ref a1)] 1 = mkF m 0 #[.val (.ref a1)] [] := by first | (simp [entryFrame, mkF, argsToLocals, Value.category]; done) | rfl
def QrIs0 (Z : State) (a1 : Addr) (G1 : Int32) (h0 : Heap) (n0 : Nat) (v : Option Value) (h : Heap) (L : List Loc) : Prop := ∃ z : Int32, z = ((1 : Int32)) ∧ v = some (.int z) ∧ Fr n0 L ∧ h = h0
set_option maxRecDepth 65536 in
set_option maxHeartbeats 40000000 in
theorem rIs0 (l : Launch) (Z : State) (a0 : Array Value) (hw : ∀ d ∈ tables_1, d.before a0 Z = true) (ws : List Jvm.Cond) (a1 : Addr) (G1 : Int32) (h0 : Heap) (n0 : Nat) (Z0 : n0 ≤ h0.size) (X00 : Old Z n0 h0) (O_2 : Sta Z Z.heap "java/lang/String" "COMPACT_STRINGS" "Z" (.int G1)) (P5 : ¬ (G1 = (0 : Int32))) (FC : Fld Z h0 a1 "java/lang/String" "coder" "B" (.int (0 : Int32))) :
    MetFree l (⟨"java/lang/String", "isLatin1", "()Z"⟩ : MethodName) (head1 (Jvm.Cond.code (⟨"java/lang/String", "isLatin1", "()Z"⟩ : MethodName) jdk_42_method_154_code 1 (some .boolean) :: ws) ({ frames := 0, cells := 0, slots := 0, locals := 0 } : Room)) (fun a U => a = #[(.ref a1)] ∧ Z.Warmed39 U.vm ∧ U.heap = h0) (fun _ _ _ _ _ => True) (fun _ U o U' => ∃ v L, o = .returned v ∧ QrIs0 Z a1 G1 h0 n0 v U'.heap L ∧ FrameEnd U o U' L ({ frames := 0, cells := 0, slots := 0, locals := 0 } : Room).cells ({ frames := 0, cells := 0, slots := 0, locals := 0 } : Room).slots) := by
  refine MetFree.of_bodySF (plainFor_of_name pn_16) hisR ?_
  intro p e s m args below meth c s₁ Bd hml0 hP hK
  obtain ⟨rfl, hZ, hh⟩ := hP
  have hx := Bd.exec
  have hby := Bd.bytes
  have hml : c.maxLocals = 1 := hml0
  have hown : s.vm.findClass "java/lang/String" = some m.cls := findClass_of_methodNamed Bd.named
  have hnm := (name_of_methodNamed Bd.named Bd.method).1
  have X0 : Stand p l e ({ frames := 0, cells := 0, slots := 0, locals := 0 } : Room) s m #[(.ref a1)] below meth c s₁ [] 0 0 := Stand.of_body Bd
  have e0 : s₁.heap = h0 := by rw [← hh, Bd.state]; rfl
  have N0 := Fr.nil n0
  have pre0 : ∀ t, Steps p.tables e below (s₁.setTop (mkF m 0 #[.val (.ref a1)] [])) t → Steps p.tables e below (s₁.setTop (entryFrame m #[(.ref a1)] 1)) t := fun t k => castTop (ef_rIs0 m a1) k
  obtain ⟨T1, X1, e1, st1⟩ := getS2 X0 hx hZ hown (host := "") (Or.inl (hw _ (own_w 45 rfl))) Via.refl e0 (O_2.ext X00.2) (g := (mkF m 0 #[.val (.ref a1)] [])) rfl (hb hby d16_0)
  obtain ⟨T2, X2, e2, st2⟩ := getF X1 hx hZ hown (host := "") (Or.inl (hw _ (own_w 30 rfl))) Via.refl e1 FC (g := (mkF m 7 #[.val (.ref a1)] [(.ref a1)])) rfl rfl (hb hby d16_7)
  obtain ⟨fs, hr, hrun, hended, hW, hsame⟩ := X2.leave (v := some (.int (1 : Int32))) (fun h => by rw [Bd.returns] at h; cases h) (BodyLoose.notSynchronized Bd)
  refine ⟨_, _, pre0 _ ?_, hrun, hended, _, _, rfl, ?_, ⟨_, rfl⟩, hW, hsame.mono (by decide) (by decide)⟩
  · show Steps p.tables e below (s₁.setTop (mkF m 0 #[.val (.ref a1)] [])) _
    refine st1 _ ?_
    refine XS.ifNo X1.here hx rfl (hb hby d16_3) rfl ((if0 _ _).trans (feq P5).1) ?_
    refine XS.aloadN X1.here hx rfl (hb hby d16_6) rfl rfl ?_
    refine st2 _ ?_
    refine XS.ifNo X2.here hx rfl (hb hby d16_10) rfl ((if0 _ _).trans (teq (by decide)).2) ?_
    refine XS.iconst X2.here hx rfl (hb hby d16_13) ?_
    refine XS.goto X2.here hx rfl (pc0 := 14) (pc' := 18) rfl (hb hby d16_14) (by decide) (by decide) ?_
    show Steps p.tables e below (T2.setTop (mkF m 18 #[.val (.ref a1)] [(.int (1 : Int32))])) _
    exact retN X2 hx (t := .boolean) Bd.returns (by simp) (hb hby d16_18) hr
  · show QrIs0 Z a1 G1 h0 n0 _ T2.heap _
    exact ⟨_, rfl, rfl, N0, e2⟩
theorem ef_rCo1 (m : MethodId) (a1 : Addr) : entryFrame m #[(.ref a1)] 1 = mkF m 0 #[.val (.ref a1)] [] := by first | (simp [entryFrame, mkF, argsToLocals, Value.category]; done) | rfl
def QrCo1 (Z : State) (a1 : Addr) (G1 : Int32) (h0 : Heap) (n0 : Nat) (v : Option Value) (h : Heap) (L : List Loc) : Prop := ∃ z : Int32, z = ((1 : Int32)) ∧ v = some (.int z) ∧ Fr n0 L ∧ h = h0
set_option maxRecDepth 65536 in
set_option maxHeartbeats 40000000 in
theorem rCo1 (l : Launch) (Z : State) (a0 : Array Value) (hw : ∀ d ∈ tables_1, d.before a0 Z = true) (ws : List Jvm.Cond) (a1 : Addr) (G1 : Int32) (h0 : Heap) (n0 : Nat) (Z0 : n0 ≤ h0.size) (X00 : Old Z n0 h0) (O_2 : Sta Z Z.heap "java/lang/String" "COMPACT_STRINGS" "Z" (.int G1)) (P5 : ¬ (G1 = (0 : Int32))) (FC : Fld Z h0 a1 "java/lang/String" "coder" "B" (.int (1 : Int32))) :
    MetFree l (⟨"java/lang/String", "coder", "()B"⟩ : MethodName) (head1 (Jvm.Cond.code (⟨"java/lang/String", "coder", "()B"⟩ : MethodName) jdk_42_method_152_code 1 (some .byte) :: ws) ({ frames := 0, cells := 0, slots := 0, locals := 0 } : Room)) (fun a U => a = #[(.ref a1)] ∧ Z.Warmed39 U.vm ∧ U.heap = h0) (fun _ _ _ _ _ => True) (fun _ U o U' => ∃ v L, o = .returned v ∧ QrCo1 Z a1 G1 h0 n0 v U'.heap L ∧ FrameEnd U o U' L ({ frames := 0, cells := 0, slots := 0, locals := 0 } : Room).cells ({ frames := 0, cells := 0, slots := 0, locals := 0 } : Room).slots) := by
  refine MetFree.of_bodySF (plainFor_of_name pn_8) hisR ?_
  intro p e s m args below meth c s₁ Bd hml0 hP hK
  obtain ⟨rfl, hZ, hh⟩ := hP
  have hx := Bd.exec
  have hby := Bd.bytes
  have hml : c.maxLocals = 1 := hml0
  have hown : s.vm.findClass "java/lang/String" = some m.cls := findClass_of_methodNamed Bd.named
  have hnm := (name_of_methodNamed Bd.named Bd.method).1
  have X0 : Stand p l e ({ frames := 0, cells := 0, slots := 0, locals := 0 } : Room) s m #[(.ref a1)] below meth c s₁ [] 0 0 := Stand.of_body Bd
  have e0 : s₁.heap = h0 := by rw [← hh, Bd.state]; rfl
  have N0 := Fr.nil n0
  have pre0 : ∀ t, Steps p.tables e below (s₁.setTop (mkF m 0 #[.val (.ref a1)] [])) t → Steps p.tables e below (s₁.setTop (entryFrame m #[(.ref a1)] 1)) t := fun t k => castTop (ef_rCo1 m a1) k
  obtain ⟨T1, X1, e1, st1⟩ := getS2 X0 hx hZ hown (host := "") (Or.inl (hw _ (own_w 45 rfl))) Via.refl e0 (O_2.ext X00.2) (g := (mkF m 0 #[.val (.ref a1)] [])) rfl (hb hby d8_0)
  obtain ⟨T2, X2, e2, st2⟩ := getF X1 hx hZ hown (host := "") (Or.inl (hw _ (own_w 30 rfl))) Via.refl e1 FC (g := (mkF m 7 #[.val (.ref a1)] [(.ref a1)])) rfl rfl (hb hby d8_7)
  obtain ⟨fs, hr, hrun, hended, hW, hsame⟩ := X2.leave (v := some (.int (1 : Int32))) (fun h => by rw [Bd.returns] at h; cases h) (BodyLoose.notSynchronized Bd)
  refine ⟨_, _, pre0 _ ?_, hrun, hended, _, _, rfl, ?_, ⟨_, rfl⟩, hW, hsame.mono (by decide) (by decide)⟩
  · show Steps p.tables e below (s₁.setTop (mkF m 0 #[.val (.ref a1)] [])) _
    refine st1 _ ?_
    refine XS.ifNo X1.here hx rfl (hb hby d8_3) rfl ((if0 _ _).trans (feq P5).1) ?_
    refine XS.aloadN X1.here hx rfl (hb hby d8_6) rfl rfl ?_
    refine st2 _ ?_
    refine XS.goto X2.here hx rfl (pc0 := 10) (pc' := 14) rfl (hb hby d8_10) (by decide) (by decide) ?_
    show Steps p.tables e below (T2.setTop (mkF m 14 #[.val (.ref a1)] [(.int (1 : Int32))])) _
    exact retN X2 hx (t := .byte) Bd.returns (by simp) (hb hby d8_14) hr
  · show QrCo1 Z a1 G1 h0 n0 _ T2.heap _
    exact ⟨_, rfl, rfl, N0, e2⟩
theorem d16_17 : decode jdk_42_method_154_code 17 = .ok (.iconst 0, 1) := by decide +kernel
theorem ef_rIs1 (m : MethodId) (a1 : Addr) : entryFrame m #[(.ref a1)] 1 = mkF m 0 #[.val (.ref a1)] [] := by first | (simp [entryFrame, mkF, argsToLocals, Value.category]; done) | rfl
def QrIs1 (Z : State) (a1 : Addr) (G1 : Int32) (h0 : Heap) (n0 : Nat) (v : Option Value) (h : Heap) (L : List Loc) : Prop := ∃ z : Int32, z = ((0 : Int32)) ∧ v = some (.int z) ∧ Fr n0 L ∧ h = h0
set_option maxRecDepth 65536 in
set_option maxHeartbeats 40000000 in
theorem rIs1 (l : Launch) (Z : State) (a0 : Array Value) (hw : ∀ d ∈ tables_1, d.before a0 Z = true) (ws : List Jvm.Cond) (a1 : Addr) (G1 : Int32) (h0 : Heap) (n0 : Nat) (Z0 : n0 ≤ h0.size) (X00 : Old Z n0 h0) (O_2 : Sta Z Z.heap "java/lang/String" "COMPACT_STRINGS" "Z" (.int G1)) (P5 : ¬ (G1 = (0 : Int32))) (FC : Fld Z h0 a1 "java/lang/String" "coder" "B" (.int (1 : Int32))) :
    MetFree l (⟨"java/lang/String", "isLatin1", "()Z"⟩ : MethodName) (head1 (Jvm.Cond.code (⟨"java/lang/String", "isLatin1", "()Z"⟩ : MethodName) jdk_42_method_154_code 1 (some .boolean) :: ws) ({ frames := 0, cells := 0, slots := 0, locals := 0 } : Room)) (fun a U => a = #[(.ref a1)] ∧ Z.Warmed39 U.vm ∧ U.heap = h0) (fun _ _ _ _ _ => True) (fun _ U o U' => ∃ v L, o = .returned v ∧ QrIs1 Z a1 G1 h0 n0 v U'.heap L ∧ FrameEnd U o U' L ({ frames := 0, cells := 0, slots := 0, locals := 0 } : Room).cells ({ frames := 0, cells := 0, slots := 0, locals := 0 } : Room).slots) := by
  refine MetFree.of_bodySF (plainFor_of_name pn_16) hisR ?_
  intro p e s m args below meth c s₁ Bd hml0 hP hK
  obtain ⟨rfl, hZ, hh⟩ := hP
  have hx := Bd.exec
  have hby := Bd.bytes
  have hml : c.maxLocals = 1 := hml0
  have hown : s.vm.findClass "java/lang/String" = some m.cls := findClass_of_methodNamed Bd.named
  have hnm := (name_of_methodNamed Bd.named Bd.method).1
  have X0 : Stand p l e ({ frames := 0, cells := 0, slots := 0, locals := 0 } : Room) s m #[(.ref a1)] below meth c s₁ [] 0 0 := Stand.of_body Bd
  have e0 : s₁.heap = h0 := by rw [← hh, Bd.state]; rfl
  have N0 := Fr.nil n0
  have pre0 : ∀ t, Steps p.tables e below (s₁.setTop (mkF m 0 #[.val (.ref a1)] [])) t → Steps p.tables e below (s₁.setTop (entryFrame m #[(.ref a1)] 1)) t := fun t k => castTop (ef_rIs1 m a1) k
  obtain ⟨T1, X1, e1, st1⟩ := getS2 X0 hx hZ hown (host := "") (Or.inl (hw _ (own_w 45 rfl))) Via.refl e0 (O_2.ext X00.2) (g := (mkF m 0 #[.val (.ref a1)] [])) rfl (hb hby d16_0)
  obtain ⟨T2, X2, e2, st2⟩ := getF X1 hx hZ hown (host := "") (Or.inl (hw _ (own_w 30 rfl))) Via.refl e1 FC (g := (mkF m 7 #[.val (.ref a1)] [(.ref a1)])) rfl rfl (hb hby d16_7)
  obtain ⟨fs, hr, hrun, hended, hW, hsame⟩ := X2.leave (v := some (.int (0 : Int32))) (fun h => by rw [Bd.returns] at h; cases h) (BodyLoose.notSynchronized Bd)
  refine ⟨_, _, pre0 _ ?_, hrun, hended, _, _, rfl, ?_, ⟨_, rfl⟩, hW, hsame.mono (by decide) (by decide)⟩
  · show Steps p.tables e below (s₁.setTop (mkF m 0 #[.val (.ref a1)] [])) _
    refine st1 _ ?_
    refine XS.ifNo X1.here hx rfl (hb hby d16_3) rfl ((if0 _ _).trans (feq P5).1) ?_
    refine XS.aloadN X1.here hx rfl (hb hby d16_6) rfl rfl ?_
    refine st2 _ ?_
    refine XS.ifYes X2.here hx rfl (pc0 := 10) (pc' := 17) rfl (hb hby d16_10) rfl ((if0 _ _).trans (feq (by decide)).2) (by decide) (by decide) ?_
    refine XS.iconst X2.here hx rfl (hb hby d16_17) ?_
    show Steps p.tables e below (T2.setTop (mkF m 18 #[.val (.ref a1)] [(.int (0 : Int32))])) _
    exact retN X2 hx (t := .boolean) Bd.returns (by simp) (hb hby d16_18) hr
  · show QrIs1 Z a1 G1 h0 n0 _ T2.heap _
    exact ⟨_, rfl, rfl, N0, e2⟩
theorem pd_2 : parseMethodDescriptor "()B" = some ⟨[], some .byte⟩ := by decide +kernel
theorem d7_0 : decode jdk_42_method_54_code 0 = .ok (.aload_n 0, 1) := by decide +kernel
theorem d7_1 : decode jdk_42_method_54_code 1 = .ok (.getfield 9, 3) := by decide +kernel
theorem d7_4 : decode jdk_42_method_54_code 4 = .ok (.arraylength, 1) := by decide +kernel
theorem d7_5 : decode jdk_42_method_54_code 5 = .ok (.aload_n 0, 1) := by decide +kernel
theorem d7_6 : decode jdk_42_method_54_code 6 = .ok (.invokevirtual 335, 3) := by decide +kernel
theorem d7_9 : decode jdk_42_method_54_code 9 = .ok (.ishr, 1) := by decide +kernel
theorem d7_10 : decode jdk_42_method_54_code 10 = .ok (.ireturn, 1) := by decide +kernel
theorem pn_7 : plainName "java/lang/String" = true := by first | (simp [plainName, overriddenIn]; done) | decide +kernel
theorem ef_rLe (m : MethodId) (a1 : Addr) : entryFrame m #[(.ref a1)] 1 = mkF m 0 #[.val (.ref a1)] [] := by first | (simp [entryFrame, mkF, argsToLocals, Value.category]; done) | rfl
def QrLe (Z : State) (a1 : Addr) (cs : List Int32) (G1 : Int32) (h0 : Heap) (n0 : Nat) (v : Option Value) (h : Heap) (L : List Loc) : Prop := ∃ z : Int32, z = (Int32.ofNat cs.length) ∧ v = some (.int z) ∧ Fr n0 L ∧ h = h0
set_option maxRecDepth 65536 in
set_option maxHeartbeats 40000000 in
theorem rLe (l : Launch) (Z : State) (a0 : Array Value) (hw : ∀ d ∈ tables_1, d.before a0 Z = true) (ws : List Jvm.Cond) (a1 : Addr) (cs : List Int32) (G1 : Int32) (h0 : Heap) (n0 : Nat) (Z0 : n0 ≤ h0.size) (X00 : Old Z n0 h0) (O_2 : Sta Z Z.heap "java/lang/String" "COMPACT_STRINGS" "Z" (.int G1)) (P5 : ¬ (G1 = (0 : Int32))) (T : own_S Z h0 a1 cs) (hL : cs.length < 8) :
    MetFree l (⟨"java/lang/String", "length", "()I"⟩ : MethodName) (head1 (Jvm.Cond.code (⟨"java/lang/String", "length", "()I"⟩ : MethodName) jdk_42_method_54_code 1 (some .int) :: ws) ({ frames := 1, cells := 0, slots := 0, locals := 13 } : Room)) (fun a U => a = #[(.ref a1)] ∧ Z.Warmed39 U.vm ∧ U.heap = h0) (fun _ _ _ _ _ => True) (fun _ U o U' => ∃ v L, o = .returned v ∧ QrLe Z a1 cs G1 h0 n0 v U'.heap L ∧ FrameEnd U o U' L ({ frames := 1, cells := 0, slots := 0, locals := 13 } : Room).cells ({ frames := 1, cells := 0, slots := 0, locals := 13 } : Room).slots) := by
  refine MetFree.of_bodySF (plainFor_of_name pn_7) hisR ?_
  intro p e s m args below meth c s₁ Bd hml0 hP hK
  obtain ⟨rfl, hZ, hh⟩ := hP
  have hx := Bd.exec
  have hby := Bd.bytes
  have hml : c.maxLocals = 1 := hml0
  have hown : s.vm.findClass "java/lang/String" = some m.cls := findClass_of_methodNamed Bd.named
  have hnm := (name_of_methodNamed Bd.named Bd.method).1
  have X0 : Stand p l e ({ frames := 1, cells := 0, slots := 0, locals := 13 } : Room) s m #[(.ref a1)] below meth c s₁ [] 0 0 := Stand.of_body Bd
  have e0 : s₁.heap = h0 := by rw [← hh, Bd.state]; rfl
  have N0 := Fr.nil n0
  have pre0 : ∀ t, Steps p.tables e below (s₁.setTop (mkF m 0 #[.val (.ref a1)] [])) t → Steps p.tables e below (s₁.setTop (entryFrame m #[(.ref a1)] 1)) t := fun t k => castTop (ef_rLe m a1) k
  obtain ⟨vb, kb, E, FV, hcd⟩ := id T
  rcases hcd with ⟨FC, AV, hl⟩ | ⟨FC, AV⟩
  · skip
    obtain ⟨T1, X1, e1, st1⟩ := getF X0 hx hZ hown (host := "") (Or.inl (hw _ (own_w 29 rfl))) Via.refl e0 FV (g := (mkF m 1 #[.val (.ref a1)] [(.ref a1)])) rfl rfl (hb hby d7_1)
    obtain ⟨cl2, Ar2, qk2, Sz2, Nn2, Hh2, Gg2⟩ := id (AV)
    obtain ⟨cq3, kz3, q3a, q3b, q3c⟩ := isOf hZ e1 E
    obtain ⟨_, _, ⟨T3, Lq3, kq3, nq3⟩, -, X3, ⟨Lc3, hQ3, lq3, yq3, zq3⟩, st3⟩ := X1.virtualBack hx (y := (⟨"java/lang/String", "coder", "()B"⟩ : MethodName)) (z := (⟨"java/lang/String", "coder", "()B"⟩ : MethodName)) hown (mvT hZ (hw _ (own_w 40 rfl))) (mvT hZ (hw _ (own_w 41 rfl))) (notFace_of_selects (args := #[]) (mvT hZ (hw _ (own_w 43 rfl)))) (mvT hZ (hw _ (own_w 43 rfl))) (mvT hZ (hw _ (own_w 42 rfl))) (by decide) (backOf (W := 1) (rCo0 l Z a0 hw [] a1 G1 h0 n0 Z0 X00 O_2 P5 FC) hZ (hw _ (own_w 44 rfl)) (hw _ (own_w 12 rfl)) (by decide) (by decide)) q3a q3c (g := (mkF m 6 #[.val (.ref a1)] [(.ref a1), (.int (Int32.ofNat cs.length))])) rfl (by rw [hml]; rfl) (Steps.refl _) (argsL := []) (rest := [(.int (Int32.ofNat cs.length))]) (lenOf pd_2 rfl) rfl (by show 2 * 0 + _ ≤ _; exact Nat.le_of_eq rfl) (hb hby d7_6) (fun _ _ => ⟨rfl, e1, (by decide : 0 + 0 ≤ _), (by decide : 0 + 0 ≤ _)⟩)
    dsimp only [Pt.U, Pt.locs, Pt.cells, Pt.slots] at X3 lq3 yq3 zq3 st3 hQ3
    subst lq3 yq3 zq3
    obtain ⟨r3, hr3, rfl, N3q, e3⟩ := hQ3
    have N3 := Fr.app N0 N3q
    subst hr3
    obtain ⟨fs, hr, hrun, hended, hW, hsame⟩ := X3.leave (v := some (.int ((Int32.ofNat cs.length) >>> ((0 : Int32) &&& 31)))) (fun h => by rw [Bd.returns] at h; cases h) (BodyLoose.notSynchronized Bd)
    refine ⟨_, _, pre0 _ ?_, hrun, hended, _, _, rfl, ?_, ⟨_, rfl⟩, hW, hsame.mono (by decide) (by decide)⟩
    · show Steps p.tables e below (s₁.setTop (mkF m 0 #[.val (.ref a1)] [])) _
      refine XS.aloadN X0.here hx rfl (hb hby d7_0) rfl rfl ?_
      refine st1 _ ?_
      refine X1.arraylength hx (by rw [e1]; exact Ar2.1) (State.isArrayOf_alike hZ.alike Ar2.2.1) (g := (mkF m 4 #[.val (.ref a1)] [(.ref vb)])) rfl rfl (hb hby d7_4) _ ?_
      rw [len_of Sz2 Nn2]
      show Steps p.tables e below (T1.setTop (mkF m 5 #[.val (.ref a1)] [(.int (Int32.ofNat cs.length))])) _
      refine XS.aloadN X1.here hx rfl (hb hby d7_5) rfl rfl ?_
      refine st3.trans ?_
      refine XS.ishr X3.here hx rfl (hb hby d7_9) rfl ?_
      show Steps p.tables e below (T3.setTop (mkF m 10 #[.val (.ref a1)] [(.int ((Int32.ofNat cs.length) >>> ((0 : Int32) &&& 31)))])) _
      exact retI X3 hx Bd.returns (hb hby d7_10) hr
    · show QrLe Z a1 cs G1 h0 n0 _ T3.heap _
      exact ⟨_, own_sh0 _, rfl, N3, e3⟩
  · skip
    obtain ⟨T4, X4, e4, st4⟩ := getF X0 hx hZ hown (host := "") (Or.inl (hw _ (own_w 29 rfl))) Via.refl e0 FV (g := (mkF m 1 #[.val (.ref a1)] [(.ref a1)])) rfl rfl (hb hby d7_1)
    obtain ⟨cl5, Ar5, qk5, Sz5, Nn5, Hh5, Gg5⟩ := id (AV)
    obtain ⟨cq6, kz6, q6a, q6b, q6c⟩ := isOf hZ e4 E
    obtain ⟨_, _, ⟨T6, Lq6, kq6, nq6⟩, -, X6, ⟨Lc6, hQ6, lq6, yq6, zq6⟩, st6⟩ := X4.virtualBack hx (y := (⟨"java/lang/String", "coder", "()B"⟩ : MethodName)) (z := (⟨"java/lang/String", "coder", "()B"⟩ : MethodName)) hown (mvT hZ (hw _ (own_w 40 rfl))) (mvT hZ (hw _ (own_w 41 rfl))) (notFace_of_selects (args := #[]) (mvT hZ (hw _ (own_w 43 rfl)))) (mvT hZ (hw _ (own_w 43 rfl))) (mvT hZ (hw _ (own_w 42 rfl))) (by decide) (backOf (W := 1) (rCo1 l Z a0 hw [] a1 G1 h0 n0 Z0 X00 O_2 P5 FC) hZ (hw _ (own_w 44 rfl)) (hw _ (own_w 12 rfl)) (by decide) (by decide)) q6a q6c (g := (mkF m 6 #[.val (.ref a1)] [(.ref a1), (.int (Int32.ofNat (2 * cs.length)))])) rfl (by rw [hml]; rfl) (Steps.refl _) (argsL := []) (rest := [(.int (Int32.ofNat (2 * cs.length)))]) (lenOf pd_2 rfl) rfl (by show 2 * 0 + _ ≤ _; exact Nat.le_of_eq rfl) (hb hby d7_6) (fun _ _ => ⟨rfl, e4, (by decide : 0 + 0 ≤ _), (by decide : 0 + 0 ≤ _)⟩)
    dsimp only [Pt.U, Pt.locs, Pt.cells, Pt.slots] at X6 lq6 yq6 zq6 st6 hQ6
    subst lq6 yq6 zq6
    obtain ⟨r6, hr6, rfl, N6q, e6⟩ := hQ6
    have N6 := Fr.app N0 N6q
    subst hr6
    obtain ⟨fs, hr, hrun, hended, hW, hsame⟩ := X6.leave (v := some (.int ((Int32.ofNat (2 * cs.length)) >>> ((1 : Int32) &&& 31)))) (fun h => by rw [Bd.returns] at h; cases h) (BodyLoose.notSynchronized Bd)
    refine ⟨_, _, pre0 _ ?_, hrun, hended, _, _, rfl, ?_, ⟨_, rfl⟩, hW, hsame.mono (by decide) (by decide)⟩
    · show Steps p.tables e below (s₁.setTop (mkF m 0 #[.val (.ref a1)] [])) _
      refine XS.aloadN X0.here hx rfl (hb hby d7_0) rfl rfl ?_
      refine st4 _ ?_
      refine X4.arraylength hx (by rw [e4]; exact Ar5.1) (State.isArrayOf_alike hZ.alike Ar5.2.1) (g := (mkF m 4 #[.val (.ref a1)] [(.ref vb)])) rfl rfl (hb hby d7_4) _ ?_
      rw [len_of Sz5 Nn5]
      show Steps p.tables e below (T4.setTop (mkF m 5 #[.val (.ref a1)] [(.int (Int32.ofNat (2 * cs.length)))])) _
      refine XS.aloadN X4.here hx rfl (hb hby d7_5) rfl rfl ?_
      refine st6.trans ?_
      refine XS.ishr X6.here hx rfl (hb hby d7_9) rfl ?_
      show Steps p.tables e below (T6.setTop (mkF m 10 #[.val (.ref a1)] [(.int ((Int32.ofNat (2 * cs.length)) >>> ((1 : Int32) &&& 31)))])) _
      exact retI X6 hx Bd.returns (hb hby d7_10) hr
    · show QrLe Z a1 cs G1 h0 n0 _ T6.heap _
      exact ⟨_, own_xhr hL, rfl, N6, e6⟩
theorem pd_3 : parseMethodDescriptor "(II)V" = some ⟨[.int, .int], none⟩ := by decide +kernel
theorem d17_0 : decode jdk_43_method_2_code 0 = .ok (.iload_n 1, 1) := by decide +kernel
theorem d17_1 : decode jdk_43_method_2_code 1 = .ok (.aload_n 0, 1) := by decide +kernel
theorem d17_2 : decode jdk_43_method_2_code 2 = .ok (.arraylength, 1) := by decide +kernel
theorem d17_3 : decode jdk_43_method_2_code 3 = .ok (.invokestatic 9, 3) := by decide +kernel
theorem d17_6 : decode jdk_43_method_2_code 6 = .ok (.aload_n 0, 1) := by decide +kernel
theorem d17_7 : decode jdk_43_method_2_code 7 = .ok (.iload_n 1, 1) := by decide +kernel
theorem d17_8 : decode jdk_43_method_2_code 8 = .ok (.baload, 1) := by decide +kernel
theorem d17_9 : decode jdk_43_method_2_code 9 = .ok (.sipush 255, 3) := by decide +kernel
theorem d17_12 : decode jdk_43_method_2_code 12 = .ok (.iand, 1) := by decide +kernel
theorem d17_13 : decode jdk_43_method_2_code 13 = .ok (.i2c, 1) := by decide +kernel
theorem d17_14 : decode jdk_43_method_2_code 14 = .ok (.ireturn, 1) := by decide +kernel
theorem pn_17 : plainName "java/lang/StringLatin1" = true := by first | (simp [plainName, overriddenIn]; done) | decide +kernel
theorem ef_rL1 (m : MethodId) (a1 : Addr) (p2 : Int32) : entryFrame m #[(.ref a1), (.int p2)] 2 = mkF m 0 #[.val (.ref a1), .val (.int p2)] [] := by first | (simp [entryFrame, mkF, argsToLocals, Value.category]; done) | rfl
def QrL1 (Z : State) (a1 : Addr) (p2 : Int32) (k : ClassId) (cs : List Int32) (i : Nat) (gv : Value) (h0 : Heap) (n0 : Nat) (v : Option Value) (h : Heap) (L : List Loc) : Prop := ∃ z : Int32, z = (own_g1 (own_b (cs.getD i 0))) ∧ v = some (.int z) ∧ Fr n0 L ∧ h = h0
set_option maxRecDepth 65536 in
set_option maxHeartbeats 40000000 in
theorem rL1 (l : Launch) (Z : State) (a0 : Array Value) (hw : ∀ d ∈ tables_1, d.before a0 Z = true) (ws : List Jvm.Cond) (a1 : Addr) (p2 : Int32) (k : ClassId) (cs : List Int32) (i : Nat) (gv : Value) (h0 : Heap) (n0 : Nat) (Z0 : n0 ≤ h0.size) (X00 : Old Z n0 h0) (O_S : Sta Z Z.heap "jdk/internal/util/Preconditions" "SIOOBE_FORMATTER" "Ljava/util/function/BiFunction;" gv) (hgv : gv.isRef = true) (AV : Arv Z h0 a1 k .byte (Int32.ofNat cs.length) (own_lat cs) (.int (0 : Int32))) (hp : p2 = Int32.ofNat i) (hi : i < cs.length) (hL : cs.length < 8) :
    MetFree l (⟨"java/lang/StringLatin1", "charAt", "([BI)C"⟩ : MethodName) (head1 (Jvm.Cond.code (⟨"java/lang/StringLatin1", "charAt", "([BI)C"⟩ : MethodName) jdk_43_method_2_code 2 (some .char) :: ws) ({ frames := 2, cells := 0, slots := 0, locals := 27 } : Room)) (fun a U => a = #[(.ref a1), (.int p2)] ∧ Z.Warmed39 U.vm ∧ U.heap = h0) (fun _ _ _ _ _ => True) (fun _ U o U' => ∃ v L, o = .returned v ∧ QrL1 Z a1 p2 k cs i gv h0 n0 v U'.heap L ∧ FrameEnd U o U' L ({ frames := 2, cells := 0, slots := 0, locals := 27 } : Room).cells ({ frames := 2, cells := 0, slots := 0, locals := 27 } : Room).slots) := by
  refine MetFree.of_bodySF (plainFor_of_name pn_17) hisR ?_
  intro p e s m args below meth c s₁ Bd hml0 hP hK
  obtain ⟨rfl, hZ, hh⟩ := hP
  have hx := Bd.exec
  have hby := Bd.bytes
  have hml : c.maxLocals = 2 := hml0
  have hown : s.vm.findClass "java/lang/StringLatin1" = some m.cls := findClass_of_methodNamed Bd.named
  have hnm := (name_of_methodNamed Bd.named Bd.method).1
  have X0 : Stand p l e ({ frames := 2, cells := 0, slots := 0, locals := 27 } : Room) s m #[(.ref a1), (.int p2)] below meth c s₁ [] 0 0 := Stand.of_body Bd
  have e0 : s₁.heap = h0 := by rw [← hh, Bd.state]; rfl
  have N0 := Fr.nil n0
  have pre0 : ∀ t, Steps p.tables e below (s₁.setTop (mkF m 0 #[.val (.ref a1), .val (.int p2)] [])) t → Steps p.tables e below (s₁.setTop (entryFrame m #[(.ref a1), (.int p2)] 2)) t := fun t k => castTop (ef_rL1 m a1 p2) k
  obtain ⟨cl1, Ar1, qk1, Sz1, Nn1, Hh1, Gg1⟩ := id (AV)
  obtain ⟨_, _, ⟨T2, Lq2, kq2, nq2⟩, -, X2, ⟨Lc2, hQ2, lq2, yq2, zq2⟩, st2⟩ := Jvm.LawKit.callS X0 hx (y := (⟨"java/lang/String", "checkIndex", "(II)V"⟩ : MethodName)) hown (mvT hZ (hw _ (own_w 85 rfl))) (mvT hZ (hw _ (own_w 86 rfl))) (mvT hZ (hw _ (own_w 12 rfl))) (mvT hZ (hw _ (own_w 87 rfl))) (by decide) (backOf (W := 0) (rSi l Z a0 hw [] p2 (Int32.ofNat cs.length) gv h0 n0 Z0 X00 O_S hgv (by rw [hp]; exact own_x0 (by omega)) (by rw [hp]; exact (own_xlt (by omega) (by omega)).mpr hi)) hZ (hw _ (own_w 87 rfl)) (hw _ (own_w 12 rfl)) (by decide) (by decide)) (g := (mkF m 3 #[.val (.ref a1), .val (.int p2)] [(.int (Int32.ofNat cs.length)), (.int p2)])) rfl (by rw [hml]; rfl) (argsL := [(.int p2), (.int (Int32.ofNat cs.length))]) (rest := []) (lenOf pd_3 rfl) rfl (by show 2 * 0 + _ ≤ _; exact Nat.le_of_eq rfl) (hb hby d17_3) (fun _ _ => ⟨rfl, e0, (by decide : 0 + 0 ≤ _), (by decide : 0 + 0 ≤ _)⟩)
  dsimp only [Pt.U, Pt.locs, Pt.cells, Pt.slots] at X2 lq2 yq2 zq2 st2 hQ2
  subst lq2 yq2 zq2
  obtain ⟨rfl, N2q, e2⟩ := hQ2
  have N2 := Fr.app N0 N2q
  obtain ⟨cl3, Ar3, qk3, Sz3, Nn3, Hh3, Gg3⟩ := id (AV)
  have hin4 : ¬ (p2 < 0 ∨ cl3.slots.size ≤ (p2).toNatClampNeg) := inb_of Sz3 ⟨by rw [hp]; exact own_x0 (by omega), by rw [hp]; exact (own_xlt (by omega) (by omega)).mpr hi⟩
  have hat4 : cl3.slots[(p2).toNatClampNeg]? = some (.int (own_b (cs.getD i 0))) := Has.at Hh3 hin4 (by rw [hp, own_xN (by omega)]; exact own_lat_at hi _)
  obtain ⟨fs, hr, hrun, hended, hW, hsame⟩ := X2.leave (v := some (.int (nar .char (((own_b (cs.getD i 0)) &&& (255 : Int32)).toUInt32.toUInt16.toUInt32.toInt32)))) (fun h => by rw [Bd.returns] at h; cases h) (BodyLoose.notSynchronized Bd)
  refine ⟨_, _, pre0 _ ?_, hrun, hended, _, _, rfl, ?_, ⟨_, rfl⟩, hW, hsame.mono (by decide) (by decide)⟩
  · show Steps p.tables e below (s₁.setTop (mkF m 0 #[.val (.ref a1), .val (.int p2)] [])) _
    refine XS.iloadN X0.here hx rfl (hb hby d17_0) rfl ?_
    refine XS.aloadN X0.here hx rfl (hb hby d17_1) rfl rfl ?_
    refine X0.arraylength hx (by rw [e0]; exact Ar1.1) (State.isArrayOf_alike hZ.alike Ar1.2.1) (g := (mkF m 2 #[.val (.ref a1), .val (.int p2)] [(.ref a1), (.int p2)])) rfl rfl (hb hby d17_2) _ ?_
    rw [len_of Sz1 Nn1]
    show Steps p.tables e below (s₁.setTop (mkF m 3 #[.val (.ref a1), .val (.int p2)] [(.int (Int32.ofNat cs.length)), (.int p2)])) _
    refine st2 _ ?_
    refine XS.aloadN X2.here hx rfl (hb hby d17_6) rfl rfl ?_
    refine XS.iloadN X2.here hx rfl (hb hby d17_7) rfl ?_
    refine X2.baloadBytes hx (j := p2) (v := (.int (own_b (cs.getD i 0)))) (by rw [e2]; exact Ar3.1) (State.isArrayOf_alike hZ.alike Ar3.2.1) Ar3.2.2 hin4 hat4 (g := (mkF m 8 #[.val (.ref a1), .val (.int p2)] [(.int p2), (.ref a1)])) rfl rfl (hb hby d17_8) _ ?_
    refine XS.sipush X2.here hx rfl (hb hby d17_9) ?_
    refine XS.iand X2.here hx rfl (hb hby d17_12) rfl ?_
    refine XS.i2c X2.here hx rfl (hb hby d17_13) rfl ?_
    show Steps p.tables e below (T2.setTop (mkF m 14 #[.val (.ref a1), .val (.int p2)] [(.int (((own_b (cs.getD i 0)) &&& (255 : Int32)).toUInt32.toUInt16.toUInt32.toInt32))])) _
    exact retN X2 hx (t := .char) Bd.returns (by simp) (hb hby d17_14) hr
  · show QrL1 Z a1 p2 k cs i gv h0 n0 _ T2.heap _
    exact ⟨_, own_nc _, rfl, N2, e2⟩
theorem d36_0 : decode jdk_52_method_6_code 0 = .ok (.aload_n 0, 1) := by decide +kernel
theorem d36_1 : decode jdk_52_method_6_code 1 = .ok (.arraylength, 1) := by decide +kernel
theorem d36_2 : decode jdk_52_method_6_code 2 = .ok (.iconst 1, 1) := by decide +kernel
theorem d36_3 : decode jdk_52_method_6_code 3 = .ok (.ishr, 1) := by decide +kernel
theorem d36_4 : decode jdk_52_method_6_code 4 = .ok (.ireturn, 1) := by decide +kernel
theorem pn_36 : plainName "java/lang/StringUTF16" = true := by first | (simp [plainName, overriddenIn]; done) | decide +kernel
theorem ef_rUl (m : MethodId) (a1 : Addr) : entryFrame m #[(.ref a1)] 1 = mkF m 0 #[.val (.ref a1)] [] := by first | (simp [entryFrame, mkF, argsToLocals, Value.category]; done) | rfl
def QrUl (Z : State) (a1 : Addr) (k : ClassId) (n : Nat) (vs : List Value) (h0 : Heap) (n0 : Nat) (v : Option Value) (h : Heap) (L : List Loc) : Prop := ∃ z : Int32, z = (Int32.ofNat n) ∧ v = some (.int z) ∧ Fr n0 L ∧ h = h0
set_option maxRecDepth 65536 in
set_option maxHeartbeats 40000000 in
theorem rUl (l : Launch) (Z : State) (a0 : Array Value) (hw : ∀ d ∈ tables_1, d.before a0 Z = true) (ws : List Jvm.Cond) (a1 : Addr) (k : ClassId) (n : Nat) (vs : List Value) (h0 : Heap) (n0 : Nat) (Z0 : n0 ≤ h0.size) (AV : Arv Z h0 a1 k .byte (Int32.ofNat (2 * n)) (vs) (.int (0 : Int32))) (hn : n < 8) :
    MetFree l (⟨"java/lang/StringUTF16", "length", "([B)I"⟩ : MethodName) (head1 (Jvm.Cond.code (⟨"java/lang/StringUTF16", "length", "([B)I"⟩ : MethodName) jdk_52_method_6_code 1 (some .int) :: ws) ({ frames := 0, cells := 0, slots := 0, locals := 0 } : Room)) (fun a U => a = #[(.ref a1)] ∧ Z.Warmed39 U.vm ∧ U.heap = h0) (fun _ _ _ _ _ => True) (fun _ U o U' => ∃ v L, o = .returned v ∧ QrUl Z a1 k n vs h0 n0 v U'.heap L ∧ FrameEnd U o U' L ({ frames := 0, cells := 0, slots := 0, locals := 0 } : Room).cells ({ frames := 0, cells := 0, slots := 0, locals := 0 } : Room).slots) := by
  refine MetFree.of_bodySF (plainFor_of_name pn_36) hisR ?_
  intro p e s m args below meth c s₁ Bd hml0 hP hK
  obtain ⟨rfl, hZ, hh⟩ := hP
  have hx := Bd.exec
  have hby := Bd.bytes
  have hml : c.maxLocals = 1 := hml0
  have hown : s.vm.findClass "java/lang/StringUTF16" = some m.cls := findClass_of_methodNamed Bd.named
  have hnm := (name_of_methodNamed Bd.named Bd.method).1
  have X0 : Stand p l e ({ frames := 0, cells := 0, slots := 0, locals := 0 } : Room) s m #[(.ref a1)] below meth c s₁ [] 0 0 := Stand.of_body Bd
  have e0 : s₁.heap = h0 := by rw [← hh, Bd.state]; rfl
  have N0 := Fr.nil n0
  have pre0 : ∀ t, Steps p.tables e below (s₁.setTop (mkF m 0 #[.val (.ref a1)] [])) t → Steps p.tables e below (s₁.setTop (entryFrame m #[(.ref a1)] 1)) t := fun t k => castTop (ef_rUl m a1) k
  obtain ⟨cl1, Ar1, qk1, Sz1, Nn1, Hh1, Gg1⟩ := id (AV)
  obtain ⟨fs, hr, hrun, hended, hW, hsame⟩ := X0.leave (v := some (.int ((Int32.ofNat (2 * n)) >>> ((1 : Int32) &&& 31)))) (fun h => by rw [Bd.returns] at h; cases h) (BodyLoose.notSynchronized Bd)
  refine ⟨_, _, pre0 _ ?_, hrun, hended, _, _, rfl, ?_, ⟨_, rfl⟩, hW, hsame.mono (by decide) (by decide)⟩
  · show Steps p.tables e below (s₁.setTop (mkF m 0 #[.val (.ref a1)] [])) _
    refine XS.aloadN X0.here hx rfl (hb hby d36_0) rfl rfl ?_
    refine X0.arraylength hx (by rw [e0]; exact Ar1.1) (State.isArrayOf_alike hZ.alike Ar1.2.1) (g := (mkF m 1 #[.val (.ref a1)] [(.ref a1)])) rfl rfl (hb hby d36_1) _ ?_
    rw [len_of Sz1 Nn1]
    show Steps p.tables e below (s₁.setTop (mkF m 2 #[.val (.ref a1)] [(.int (Int32.ofNat (2 * n)))])) _
    refine XS.iconst X0.here hx rfl (hb hby d36_2) ?_
    refine XS.ishr X0.here hx rfl (hb hby d36_3) rfl ?_
    show Steps p.tables e below (s₁.setTop (mkF m 4 #[.val (.ref a1)] [(.int ((Int32.ofNat (2 * n)) >>> ((1 : Int32) &&& 31)))])) _
    exact retI X0 hx Bd.returns (hb hby d36_4) hr
  · show QrUl Z a1 k n vs h0 n0 _ s₁.heap _
    exact ⟨_, own_xhr hn, rfl, N0, e0⟩
theorem d33_0 : decode jdk_52_method_5_code 0 = .ok (.getstatic 44, 3) := by decide +kernel
theorem d33_3 : decode jdk_52_method_5_code 3 = .ok (.ifCond .ne 25, 3) := by decide +kernel
theorem d33_28 : decode jdk_52_method_5_code 28 = .ok (.iload_n 1, 1) := by decide +kernel
theorem d33_29 : decode jdk_52_method_5_code 29 = .ok (.iconst 1, 1) := by decide +kernel
theorem d33_30 : decode jdk_52_method_5_code 30 = .ok (.ishl, 1) := by decide +kernel
theorem d33_31 : decode jdk_52_method_5_code 31 = .ok (.istore_n 1, 1) := by decide +kernel
theorem d33_32 : decode jdk_52_method_5_code 32 = .ok (.aload_n 0, 1) := by decide +kernel
theorem d33_33 : decode jdk_52_method_5_code 33 = .ok (.iload_n 1, 1) := by decide +kernel
theorem d33_34 : decode jdk_52_method_5_code 34 = .ok (.iinc 1 1, 3) := by decide +kernel
theorem d33_37 : decode jdk_52_method_5_code 37 = .ok (.baload, 1) := by decide +kernel
theorem d33_38 : decode jdk_52_method_5_code 38 = .ok (.sipush 255, 3) := by decide +kernel
theorem d33_41 : decode jdk_52_method_5_code 41 = .ok (.iand, 1) := by decide +kernel
theorem d33_42 : decode jdk_52_method_5_code 42 = .ok (.getstatic 59, 3) := by decide +kernel
theorem d33_45 : decode jdk_52_method_5_code 45 = .ok (.ishl, 1) := by decide +kernel
theorem d33_46 : decode jdk_52_method_5_code 46 = .ok (.aload_n 0, 1) := by decide +kernel
theorem d33_47 : decode jdk_52_method_5_code 47 = .ok (.iload_n 1, 1) := by decide +kernel
theorem d33_48 : decode jdk_52_method_5_code 48 = .ok (.baload, 1) := by decide +kernel
theorem d33_49 : decode jdk_52_method_5_code 49 = .ok (.sipush 255, 3) := by decide +kernel
theorem d33_52 : decode jdk_52_method_5_code 52 = .ok (.iand, 1) := by decide +kernel
theorem d33_53 : decode jdk_52_method_5_code 53 = .ok (.getstatic 63, 3) := by decide +kernel
theorem d33_56 : decode jdk_52_method_5_code 56 = .ok (.ishl, 1) := by decide +kernel
theorem d33_57 : decode jdk_52_method_5_code 57 = .ok (.ior, 1) := by decide +kernel
theorem d33_58 : decode jdk_52_method_5_code 58 = .ok (.i2c, 1) := by decide +kernel
theorem d33_59 : decode jdk_52_method_5_code 59 = .ok (.ireturn, 1) := by decide +kernel
theorem pn_33 : plainName "java/lang/StringUTF16" = true := by first | (simp [plainName, overriddenIn]; done) | decide +kernel
theorem ef_rGc (m : MethodId) (a1 : Addr) (p2 : Int32) : entryFrame m #[(.ref a1), (.int p2)] 2 = mkF m 0 #[.val (.ref a1), .val (.int p2)] [] := by first | (simp [entryFrame, mkF, argsToLocals, Value.category]; done) | rfl
def QrGc (Z : State) (a1 : Addr) (p2 : Int32) (k : ClassId) (n : Nat) (vs : List Value) (i : Nat) (y0 : Int32) (y1 : Int32) (h0 : Heap) (n0 : Nat) (v : Option Value) (h : Heap) (L : List Loc) : Prop := ∃ z : Int32, z = (own_gc y0 y1) ∧ v = some (.int z) ∧ Fr n0 L ∧ h = h0
set_option maxRecDepth 65536 in
set_option maxHeartbeats 40000000 in
theorem rGc (l : Launch) (Z : State) (a0 : Array Value) (hw : ∀ d ∈ tables_1, d.before a0 Z = true) (ws : List Jvm.Cond) (a1 : Addr) (p2 : Int32) (k : ClassId) (n : Nat) (vs : List Value) (i : Nat) (y0 : Int32) (y1 : Int32) (h0 : Heap) (n0 : Nat) (Z0 : n0 ≤ h0.size) (X00 : Old Z n0 h0) (O_A : Sta Z Z.heap "java/lang/StringUTF16" "$assertionsDisabled" "Z" (.int (1 : Int32))) (O_H : Sta Z Z.heap "java/lang/StringUTF16" "HI_BYTE_SHIFT" "I" (.int (0 : Int32))) (O_W : Sta Z Z.heap "java/lang/StringUTF16" "LO_BYTE_SHIFT" "I" (.int (8 : Int32))) (AV : Arv Z h0 a1 k .byte (Int32.ofNat (2 * n)) (vs) (.int (0 : Int32))) (hp : p2 = Int32.ofNat i) (hi : i < n) (hn : n < 8) (h0v : vs.getD (2 * i) (.int (0 : Int32)) = .int y0) (h1v : vs.getD (2 * i + 1) (.int (0 : Int32)) = .int y1) :
    MetFree l (⟨"java/lang/StringUTF16", "getChar", "([BI)C"⟩ : MethodName) (head1 (Jvm.Cond.code (⟨"java/lang/StringUTF16", "getChar", "([BI)C"⟩ : MethodName) jdk_52_method_5_code 2 (some .char) :: ws) ({ frames := 0, cells := 0, slots := 0, locals := 0 } : Room)) (fun a U => a = #[(.ref a1), (.int p2)] ∧ Z.Warmed39 U.vm ∧ U.heap = h0) (fun _ _ _ _ _ => True) (fun _ U o U' => ∃ v L, o = .returned v ∧ QrGc Z a1 p2 k n vs i y0 y1 h0 n0 v U'.heap L ∧ FrameEnd U o U' L ({ frames := 0, cells := 0, slots := 0, locals := 0 } : Room).cells ({ frames := 0, cells := 0, slots := 0, locals := 0 } : Room).slots) := by
  refine MetFree.of_bodySF (plainFor_of_name pn_33) hisR ?_
  intro p e s m args below meth c s₁ Bd hml0 hP hK
  obtain ⟨rfl, hZ, hh⟩ := hP
  have hx := Bd.exec
  have hby := Bd.bytes
  have hml : c.maxLocals = 2 := hml0
  have hown : s.vm.findClass "java/lang/StringUTF16" = some m.cls := findClass_of_methodNamed Bd.named
  have hnm := (name_of_methodNamed Bd.named Bd.method).1
  have X0 : Stand p l e ({ frames := 0, cells := 0, slots := 0, locals := 0 } : Room) s m #[(.ref a1), (.int p2)] below meth c s₁ [] 0 0 := Stand.of_body Bd
  have e0 : s₁.heap = h0 := by rw [← hh, Bd.state]; rfl
  have N0 := Fr.nil n0
  have pre0 : ∀ t, Steps p.tables e below (s₁.setTop (mkF m 0 #[.val (.ref a1), .val (.int p2)] [])) t → Steps p.tables e below (s₁.setTop (entryFrame m #[(.ref a1), (.int p2)] 2)) t := fun t k => castTop (ef_rGc m a1 p2) k
  obtain ⟨T1, X1, e1, st1⟩ := getS2 X0 hx hZ hown (host := "") (Or.inl (hw _ (own_w 147 rfl))) Via.refl e0 (O_A.ext X00.2) (g := (mkF m 0 #[.val (.ref a1), .val (.int p2)] [])) rfl (hb hby d33_0)
  have hp2 : (p2 <<< ((1 : Int32) &&& 31)) = Int32.ofNat (2 * i) := by rw [hp]; exact own_xsh (by omega)
  obtain ⟨cl2, Ar2, qk2, Sz2, Nn2, Hh2, Gg2⟩ := id (AV)
  have hin3 : ¬ ((Int32.ofNat (2 * i)) < 0 ∨ cl2.slots.size ≤ ((Int32.ofNat (2 * i))).toNatClampNeg) := inb_of Sz2 ⟨own_x0 (by omega), (own_xlt (by omega) (by omega)).mpr (by omega)⟩
  have hat3 : cl2.slots[((Int32.ofNat (2 * i))).toNatClampNeg]? = some (.int y0) := Has.at Hh2 hin3 (by rw [own_xN (by omega)]; exact h0v)
  obtain ⟨T4, X4, e4, st4⟩ := getS2 X1 hx hZ hown (host := "") (Or.inl (hw _ (own_w 148 rfl))) Via.refl e1 (O_H.ext X00.2) (g := (mkF m 42 #[.val (.ref a1), .val (.int ((Int32.ofNat (2 * i)) + (1 : Int32)))] [(.int (y0 &&& (255 : Int32)))])) rfl (hb hby d33_42)
  have hp3 : ((Int32.ofNat (2 * i)) + (1 : Int32)) = Int32.ofNat (2 * i + 1) := own_xs (by omega)
  obtain ⟨cl5, Ar5, qk5, Sz5, Nn5, Hh5, Gg5⟩ := id (AV)
  have hin6 : ¬ ((Int32.ofNat (2 * i + 1)) < 0 ∨ cl5.slots.size ≤ ((Int32.ofNat (2 * i + 1))).toNatClampNeg) := inb_of Sz5 ⟨own_x0 (by omega), (own_xlt (by omega) (by omega)).mpr (by omega)⟩
  have hat6 : cl5.slots[((Int32.ofNat (2 * i + 1))).toNatClampNeg]? = some (.int y1) := Has.at Hh5 hin6 (by rw [own_xN (by omega)]; exact h1v)
  obtain ⟨T7, X7, e7, st7⟩ := getS2 X4 hx hZ hown (host := "") (Or.inl (hw _ (own_w 149 rfl))) Via.refl e4 (O_W.ext X00.2) (g := (mkF m 53 #[.val (.ref a1), .val (.int (Int32.ofNat (2 * i + 1)))] [(.int (y1 &&& (255 : Int32))), (.int ((y0 &&& (255 : Int32)) <<< ((0 : Int32) &&& 31)))])) rfl (hb hby d33_53)
  obtain ⟨fs, hr, hrun, hended, hW, hsame⟩ := X7.leave (v := some (.int (nar .char ((((y0 &&& (255 : Int32)) <<< ((0 : Int32) &&& 31)) ||| ((y1 &&& (255 : Int32)) <<< ((8 : Int32) &&& 31))).toUInt32.toUInt16.toUInt32.toInt32)))) (fun h => by rw [Bd.returns] at h; cases h) (BodyLoose.notSynchronized Bd)
  refine ⟨_, _, pre0 _ ?_, hrun, hended, _, _, rfl, ?_, ⟨_, rfl⟩, hW, hsame.mono (by decide) (by decide)⟩
  · show Steps p.tables e below (s₁.setTop (mkF m 0 #[.val (.ref a1), .val (.int p2)] [])) _
    refine st1 _ ?_
    refine XS.ifYes X1.here hx rfl (pc0 := 3) (pc' := 28) rfl (hb hby d33_3) rfl ((if0 _ _).trans (feq (by decide)).2) (by decide) (by decide) ?_
    refine XS.iloadN X1.here hx rfl (hb hby d33_28) rfl ?_
    refine XS.iconst X1.here hx rfl (hb hby d33_29) ?_
    refine XS.ishl X1.here hx rfl (hb hby d33_30) rfl ?_
    refine XS.istoreN X1.here hx rfl (hb hby d33_31) rfl (l' := #[.val (.ref a1), .val (.int (p2 <<< ((1 : Int32) &&& 31)))]) rfl ?_
    show Steps p.tables e below (T1.setTop (mkF m 32 #[.val (.ref a1), .val (.int (p2 <<< ((1 : Int32) &&& 31)))] [])) _
    rw [hp2]
    show Steps p.tables e below (T1.setTop (mkF m 32 #[.val (.ref a1), .val (.int (Int32.ofNat (2 * i)))] [])) _
    refine XS.aloadN X1.here hx rfl (hb hby d33_32) rfl rfl ?_
    refine XS.iloadN X1.here hx rfl (hb hby d33_33) rfl ?_
    refine XS.iinc X1.here hx rfl (hb hby d33_34) rfl (l' := #[.val (.ref a1), .val (.int ((Int32.ofNat (2 * i)) + (1 : Int32)))]) rfl ?_
    refine X1.baloadBytes hx (j := (Int32.ofNat (2 * i))) (v := (.int y0)) (by rw [e1]; exact Ar2.1) (State.isArrayOf_alike hZ.alike Ar2.2.1) Ar2.2.2 hin3 hat3 (g := (mkF m 37 #[.val (.ref a1), .val (.int ((Int32.ofNat (2 * i)) + (1 : Int32)))] [(.int (Int32.ofNat (2 * i))), (.ref a1)])) rfl rfl (hb hby d33_37) _ ?_
    refine XS.sipush X1.here hx rfl (hb hby d33_38) ?_
    refine XS.iand X1.here hx rfl (hb hby d33_41) rfl ?_
    refine st4 _ ?_
    refine XS.ishl X4.here hx rfl (hb hby d33_45) rfl ?_
    show Steps p.tables e below (T4.setTop (mkF m 46 #[.val (.ref a1), .val (.int ((Int32.ofNat (2 * i)) + (1 : Int32)))] [(.int ((y0 &&& (255 : Int32)) <<< ((0 : Int32) &&& 31)))])) _
    rw [hp3]
    show Steps p.tables e below (T4.setTop (mkF m 46 #[.val (.ref a1), .val (.int (Int32.ofNat (2 * i + 1)))] [(.int ((y0 &&& (255 : Int32)) <<< ((0 : Int32) &&& 31)))])) _
    refine XS.aloadN X4.here hx rfl (hb hby d33_46) rfl rfl ?_
    refine XS.iloadN X4.here hx rfl (hb hby d33_47) rfl ?_
    refine X4.baloadBytes hx (j := (Int32.ofNat (2 * i + 1))) (v := (.int y1)) (by rw [e4]; exact Ar5.1) (State.isArrayOf_alike hZ.alike Ar5.2.1) Ar5.2.2 hin6 hat6 (g := (mkF m 48 #[.val (.ref a1), .val (.int (Int32.ofNat (2 * i + 1)))] [(.int (Int32.ofNat (2 * i + 1))), (.ref a1), (.int ((y0 &&& (255 : Int32)) <<< ((0 : Int32) &&& 31)))])) rfl rfl (hb hby d33_48) _ ?_
    refine XS.sipush X4.here hx rfl (hb hby d33_49) ?_
    refine XS.iand X4.here hx rfl (hb hby d33_52) rfl ?_
    refine st7 _ ?_
    refine XS.ishl X7.here hx rfl (hb hby d33_56) rfl ?_
    refine XS.ior X7.here hx rfl (hb hby d33_57) rfl ?_
    refine XS.i2c X7.here hx rfl (hb hby d33_58) rfl ?_
    show Steps p.tables e below (T7.setTop (mkF m 59 #[.val (.ref a1), .val (.int (Int32.ofNat (2 * i + 1)))] [(.int ((((y0 &&& (255 : Int32)) <<< ((0 : Int32) &&& 31)) ||| ((y1 &&& (255 : Int32)) <<< ((8 : Int32) &&& 31))).toUInt32.toUInt16.toUInt32.toInt32))])) _
    exact retN X7 hx (t := .char) Bd.returns (by simp) (hb hby d33_59) hr
  · show QrGc Z a1 p2 k n vs i y0 y1 h0 n0 _ T7.heap _
    exact ⟨_, own_nc _, rfl, N0, e7⟩
theorem pd_4 : parseMethodDescriptor "([B)I" = some ⟨[(.array .byte)], some .int⟩ := by decide +kernel
theorem d35_0 : decode jdk_52_method_91_code 0 = .ok (.iload_n 0, 1) := by decide +kernel
theorem d35_1 : decode jdk_52_method_91_code 1 = .ok (.aload_n 1, 1) := by decide +kernel
theorem d35_2 : decode jdk_52_method_91_code 2 = .ok (.invokestatic 48, 3) := by decide +kernel
theorem d35_5 : decode jdk_52_method_91_code 5 = .ok (.invokestatic 414, 3) := by decide +kernel
theorem d35_8 : decode jdk_52_method_91_code 8 = .ok (.return_, 1) := by decide +kernel
theorem pn_35 : plainName "java/lang/StringUTF16" = true := by first | (simp [plainName, overriddenIn]; done) | decide +kernel
theorem ef_rUi (m : MethodId) (p1 : Int32) (a2 : Addr) : entryFrame m #[(.int p1), (.ref a2)] 2 = mkF m 0 #[.val (.int p1), .val (.ref a2)] [] := by first | (simp [entryFrame, mkF, argsToLocals, Value.category]; done) | rfl
def QrUi (Z : State) (p1 : Int32) (a2 : Addr) (k : ClassId) (cs : List Int32) (i : Nat) (gv : Value) (h0 : Heap) (n0 : Nat) (v : Option Value) (h : Heap) (L : List Loc) : Prop := v = none ∧ Fr n0 L ∧ h = h0
set_option maxRecDepth 65536 in
set_option maxHeartbeats 40000000 in
theorem rUi (l : Launch) (Z : State) (a0 : Array Value) (hw : ∀ d ∈ tables_1, d.before a0 Z = true) (ws : List Jvm.Cond) (p1 : Int32) (a2 : Addr) (k : ClassId) (cs : List Int32) (i : Nat) (gv : Value) (h0 : Heap) (n0 : Nat) (Z0 : n0 ≤ h0.size) (X00 : Old Z n0 h0) (O_S : Sta Z Z.heap "jdk/internal/util/Preconditions" "SIOOBE_FORMATTER" "Ljava/util/function/BiFunction;" gv) (hgv : gv.isRef = true) (AV : Arv Z h0 a2 k .byte (Int32.ofNat (2 * cs.length)) (own_utf cs) (.int (0 : Int32))) (hp : p1 = Int32.ofNat i) (hi : i < cs.length) (hL : cs.length < 8) :
    MetFree l (⟨"java/lang/StringUTF16", "checkIndex", "(I[B)V"⟩ : MethodName) (head1 (Jvm.Cond.code (⟨"java/lang/StringUTF16", "checkIndex", "(I[B)V"⟩ : MethodName) jdk_52_method_91_code 2 none :: ws) ({ frames := 2, cells := 0, slots := 0, locals := 27 } : Room)) (fun a U => a = #[(.int p1), (.ref a2)] ∧ Z.Warmed39 U.vm ∧ U.heap = h0) (fun _ _ _ _ _ => True) (fun _ U o U' => ∃ v L, o = .returned v ∧ QrUi Z p1 a2 k cs i gv h0 n0 v U'.heap L ∧ FrameEnd U o U' L ({ frames := 2, cells := 0, slots := 0, locals := 27 } : Room).cells ({ frames := 2, cells := 0, slots := 0, locals := 27 } : Room).slots) := by
  refine MetFree.of_bodySF (plainFor_of_name pn_35) hisR ?_
  intro p e s m args below meth c s₁ Bd hml0 hP hK
  obtain ⟨rfl, hZ, hh⟩ := hP
  have hx := Bd.exec
  have hby := Bd.bytes
  have hml : c.maxLocals = 2 := hml0
  have hown : s.vm.findClass "java/lang/StringUTF16" = some m.cls := findClass_of_methodNamed Bd.named
  have hnm := (name_of_methodNamed Bd.named Bd.method).1
  have X0 : Stand p l e ({ frames := 2, cells := 0, slots := 0, locals := 27 } : Room) s m #[(.int p1), (.ref a2)] below meth c s₁ [] 0 0 := Stand.of_body Bd
  have e0 : s₁.heap = h0 := by rw [← hh, Bd.state]; rfl
  have N0 := Fr.nil n0
  have pre0 : ∀ t, Steps p.tables e below (s₁.setTop (mkF m 0 #[.val (.int p1), .val (.ref a2)] [])) t → Steps p.tables e below (s₁.setTop (entryFrame m #[(.int p1), (.ref a2)] 2)) t := fun t k => castTop (ef_rUi m p1 a2) k
  obtain ⟨_, _, ⟨T1, Lq1, kq1, nq1⟩, -, X1, ⟨Lc1, hQ1, lq1, yq1, zq1⟩, st1⟩ := Jvm.LawKit.callS X0 hx (y := (⟨"java/lang/StringUTF16", "length", "([B)I"⟩ : MethodName)) hown (mvT hZ (hw _ (own_w 159 rfl))) (mvT hZ (hw _ (own_w 160 rfl))) (mvT hZ (hw _ (own_w 60 rfl))) (mvT hZ (hw _ (own_w 161 rfl))) (by decide) (backOf (W := 1) (rUl l Z a0 hw [] a2 k (cs.length) (own_utf cs) h0 n0 Z0 AV hL) hZ (hw _ (own_w 161 rfl)) (hw _ (own_w 60 rfl)) (by decide) (by decide)) (g := (mkF m 2 #[.val (.int p1), .val (.ref a2)] [(.ref a2), (.int p1)])) rfl (by rw [hml]; rfl) (argsL := [(.ref a2)]) (rest := [(.int p1)]) (lenOf pd_4 rfl) rfl (by show 2 * 0 + _ ≤ _; exact Nat.le_of_eq rfl) (hb hby d35_2) (fun _ _ => ⟨rfl, e0, (by decide : 0 + 0 ≤ _), (by decide : 0 + 0 ≤ _)⟩)
  dsimp only [Pt.U, Pt.locs, Pt.cells, Pt.slots] at X1 lq1 yq1 zq1 st1 hQ1
  subst lq1 yq1 zq1
  obtain ⟨r1, hr1, rfl, N1q, e1⟩ := hQ1
  have N1 := Fr.app N0 N1q
  obtain ⟨_, _, ⟨T2, Lq2, kq2, nq2⟩, -, X2, ⟨Lc2, hQ2, lq2, yq2, zq2⟩, st2⟩ := Jvm.LawKit.callS X1 hx (y := (⟨"java/lang/String", "checkIndex", "(II)V"⟩ : MethodName)) hown (mvT hZ (hw _ (own_w 162 rfl))) (mvT hZ (hw _ (own_w 86 rfl))) (mvT hZ (hw _ (own_w 12 rfl))) (mvT hZ (hw _ (own_w 87 rfl))) (by decide) (backOf (W := 0) (rSi l Z a0 hw [] p1 r1 gv h0 n0 Z0 X00 O_S hgv (by rw [hp]; exact own_x0 (by omega)) (by rw [hp, hr1]; exact (own_xlt (by omega) (by omega)).mpr hi)) hZ (hw _ (own_w 87 rfl)) (hw _ (own_w 12 rfl)) (by decide) (by decide)) (g := (mkF m 5 #[.val (.int p1), .val (.ref a2)] [(.int r1), (.int p1)])) rfl (by rw [hml]; rfl) (argsL := [(.int p1), (.int r1)]) (rest := []) (lenOf pd_3 rfl) rfl (by show 2 * 0 + _ ≤ _; exact Nat.le_of_eq rfl) (hb hby d35_5) (fun _ _ => ⟨rfl, e1, (by decide : 0 + 0 ≤ _), (by decide : 0 + 0 ≤ _)⟩)
  dsimp only [Pt.U, Pt.locs, Pt.cells, Pt.slots] at X2 lq2 yq2 zq2 st2 hQ2
  subst lq2 yq2 zq2
  obtain ⟨rfl, N2q, e2⟩ := hQ2
  have N2 := Fr.app N1 N2q
  obtain ⟨fs, hr, hrun, hended, hW, hsame⟩ := X2.leave (v := none) (fun _ => rfl) (BodyLoose.notSynchronized Bd)
  refine ⟨_, _, pre0 _ ?_, hrun, hended, _, _, rfl, ?_, ⟨_, rfl⟩, hW, hsame.mono (by decide) (by decide)⟩
  · show Steps p.tables e below (s₁.setTop (mkF m 0 #[.val (.int p1), .val (.ref a2)] [])) _
    refine XS.iloadN X0.here hx rfl (hb hby d35_0) rfl ?_
    refine XS.aloadN X0.here hx rfl (hb hby d35_1) rfl rfl ?_
    refine st1 _ ?_
    refine st2 _ ?_
    show Steps p.tables e below (T2.setTop (mkF m 8 #[.val (.int p1), .val (.ref a2)] [])) _
    exact X2.returnOut hx Bd.returns (hb hby d35_8) hr
  · show QrUi Z p1 a2 k cs i gv h0 n0 _ T2.heap _
    exact ⟨rfl, N2, e2⟩
theorem pd_5 : parseMethodDescriptor "(I[B)V" = some ⟨[.int, (.array .byte)], none⟩ := by decide +kernel
theorem pd_6 : parseMethodDescriptor "([BI)C" = some ⟨[(.array .byte), .int], some .char⟩ := by decide +kernel
theorem d34_0 : decode jdk_52_method_83_code 0 = .ok (.iload_n 1, 1) := by decide +kernel
theorem d34_1 : decode jdk_52_method_83_code 1 = .ok (.aload_n 0, 1) := by decide +kernel
theorem d34_2 : decode jdk_52_method_83_code 2 = .ok (.invokestatic 67, 3) := by decide +kernel
theorem d34_5 : decode jdk_52_method_83_code 5 = .ok (.aload_n 0, 1) := by decide +kernel
theorem d34_6 : decode jdk_52_method_83_code 6 = .ok (.iload_n 1, 1) := by decide +kernel
theorem d34_7 : decode jdk_52_method_83_code 7 = .ok (.invokestatic 71, 3) := by decide +kernel
theorem d34_10 : decode jdk_52_method_83_code 10 = .ok (.ireturn, 1) := by decide +kernel
theorem pn_34 : plainName "java/lang/StringUTF16" = true := by first | (simp [plainName, overriddenIn]; done) | decide +kernel
theorem ef_rUc (m : MethodId) (a1 : Addr) (p2 : Int32) : entryFrame m #[(.ref a1), (.int p2)] 2 = mkF m 0 #[.val (.ref a1), .val (.int p2)] [] := by first | (simp [entryFrame, mkF, argsToLocals, Value.category]; done) | rfl
def QrUc (Z : State) (a1 : Addr) (p2 : Int32) (k : ClassId) (cs : List Int32) (i : Nat) (gv : Value) (h0 : Heap) (n0 : Nat) (v : Option Value) (h : Heap) (L : List Loc) : Prop := ∃ z : Int32, z = (cs.getD i 0) ∧ v = some (.int z) ∧ Fr n0 L ∧ h = h0
set_option maxRecDepth 65536 in
set_option maxHeartbeats 40000000 in
theorem rUc (l : Launch) (Z : State) (a0 : Array Value) (hw : ∀ d ∈ tables_1, d.before a0 Z = true) (ws : List Jvm.Cond) (a1 : Addr) (p2 : Int32) (k : ClassId) (cs : List Int32) (i : Nat) (gv : Value) (h0 : Heap) (n0 : Nat) (Z0 : n0 ≤ h0.size) (X00 : Old Z n0 h0) (O_S : Sta Z Z.heap "jdk/internal/util/Preconditions" "SIOOBE_FORMATTER" "Ljava/util/function/BiFunction;" gv) (hgv : gv.isRef = true) (O_A : Sta Z Z.heap "java/lang/StringUTF16" "$assertionsDisabled" "Z" (.int (1 : Int32))) (O_H : Sta Z Z.heap "java/lang/StringUTF16" "HI_BYTE_SHIFT" "I" (.int (0 : Int32))) (O_W : Sta Z Z.heap "java/lang/StringUTF16" "LO_BYTE_SHIFT" "I" (.int (8 : Int32))) (AV : Arv Z h0 a1 k .byte (Int32.ofNat (2 * cs.length)) (own_utf cs) (.int (0 : Int32))) (hp : p2 = Int32.ofNat i) (hi : i < cs.length) (hL : cs.length < 8) (hcs : ∀ c ∈ cs, own_ch c) :
    MetFree l (⟨"java/lang/StringUTF16", "charAt", "([BI)C"⟩ : MethodName) (head1 (Jvm.Cond.code (⟨"java/lang/StringUTF16", "charAt", "([BI)C"⟩ : MethodName) jdk_52_method_83_code 2 (some .char) :: ws) ({ frames := 3, cells := 0, slots := 0, locals := 40 } : Room)) (fun a U => a = #[(.ref a1), (.int p2)] ∧ Z.Warmed39 U.vm ∧ U.heap = h0) (fun _ _ _ _ _ => True) (fun _ U o U' => ∃ v L, o = .returned v ∧ QrUc Z a1 p2 k cs i gv h0 n0 v U'.heap L ∧ FrameEnd U o U' L ({ frames := 3, cells := 0, slots := 0, locals := 40 } : Room).cells ({ frames := 3, cells := 0, slots := 0, locals := 40 } : Room).slots) := by
  refine MetFree.of_bodySF (plainFor_of_name pn_34) hisR ?_
  intro p e s m args below meth c s₁ Bd hml0 hP hK
  obtain ⟨rfl, hZ, hh⟩ := hP
  have hx := Bd.exec
  have hby := Bd.bytes
  have hml : c.maxLocals = 2 := hml0
  have hown : s.vm.findClass "java/lang/StringUTF16" = some m.cls := findClass_of_methodNamed Bd.named
  have hnm := (name_of_methodNamed Bd.named Bd.method).1
  have X0 : Stand p l e ({ frames := 3, cells := 0, slots := 0, locals := 40 } : Room) s m #[(.ref a1), (.int p2)] below meth c s₁ [] 0 0 := Stand.of_body Bd
  have e0 : s₁.heap = h0 := by rw [← hh, Bd.state]; rfl
  have N0 := Fr.nil n0
  have pre0 : ∀ t, Steps p.tables e below (s₁.setTop (mkF m 0 #[.val (.ref a1), .val (.int p2)] [])) t → Steps p.tables e below (s₁.setTop (entryFrame m #[(.ref a1), (.int p2)] 2)) t := fun t k => castTop (ef_rUc m a1 p2) k
  obtain ⟨_, _, ⟨T1, Lq1, kq1, nq1⟩, -, X1, ⟨Lc1, hQ1, lq1, yq1, zq1⟩, st1⟩ := Jvm.LawKit.callS X0 hx (y := (⟨"java/lang/StringUTF16", "checkIndex", "(I[B)V"⟩ : MethodName)) hown (mvT hZ (hw _ (own_w 156 rfl))) (mvT hZ (hw _ (own_w 157 rfl))) (mvT hZ (hw _ (own_w 60 rfl))) (mvT hZ (hw _ (own_w 158 rfl))) (by decide) (backOf (W := 0) (rUi l Z a0 hw [] p2 a1 k cs i gv h0 n0 Z0 X00 O_S hgv AV hp hi hL) hZ (hw _ (own_w 158 rfl)) (hw _ (own_w 60 rfl)) (by decide) (by decide)) (g := (mkF m 2 #[.val (.ref a1), .val (.int p2)] [(.ref a1), (.int p2)])) rfl (by rw [hml]; rfl) (argsL := [(.int p2), (.ref a1)]) (rest := []) (lenOf pd_5 rfl) rfl (by show 2 * 0 + _ ≤ _; exact Nat.le_of_eq rfl) (hb hby d34_2) (fun _ _ => ⟨rfl, e0, (by decide : 0 + 0 ≤ _), (by decide : 0 + 0 ≤ _)⟩)
  dsimp only [Pt.U, Pt.locs, Pt.cells, Pt.slots] at X1 lq1 yq1 zq1 st1 hQ1
  subst lq1 yq1 zq1
  obtain ⟨rfl, N1q, e1⟩ := hQ1
  have N1 := Fr.app N0 N1q
  obtain ⟨_, _, ⟨T2, Lq2, kq2, nq2⟩, -, X2, ⟨Lc2, hQ2, lq2, yq2, zq2⟩, st2⟩ := Jvm.LawKit.callS X1 hx (y := (⟨"java/lang/StringUTF16", "getChar", "([BI)C"⟩ : MethodName)) hown (mvT hZ (hw _ (own_w 150 rfl))) (mvT hZ (hw _ (own_w 151 rfl))) (mvT hZ (hw _ (own_w 60 rfl))) (mvT hZ (hw _ (own_w 152 rfl))) (by decide) (backOf (W := 0) (rGc l Z a0 hw [] a1 p2 k (cs).length (own_utf (cs)) (i) _ _ h0 n0 Z0 X00 O_A O_H O_W AV hp hi hL (own_utf_at (cs) (i) _ hi).1 (own_utf_at (cs) (i) _ hi).2) hZ (hw _ (own_w 152 rfl)) (hw _ (own_w 60 rfl)) (by decide) (by decide)) (g := (mkF m 7 #[.val (.ref a1), .val (.int p2)] [(.int p2), (.ref a1)])) rfl (by rw [hml]; rfl) (argsL := [(.ref a1), (.int p2)]) (rest := []) (lenOf pd_6 rfl) rfl (by show 2 * 0 + _ ≤ _; exact Nat.le_of_eq rfl) (hb hby d34_7) (fun _ _ => ⟨rfl, e1, (by decide : 0 + 0 ≤ _), (by decide : 0 + 0 ≤ _)⟩)
  dsimp only [Pt.U, Pt.locs, Pt.cells, Pt.slots] at X2 lq2 yq2 zq2 st2 hQ2
  subst lq2 yq2 zq2
  obtain ⟨r2, hr2, rfl, N2q, e2⟩ := hQ2
  have N2 := Fr.app N1 N2q
  obtain ⟨fs, hr, hrun, hended, hW, hsame⟩ := X2.leave (v := some (.int (nar .char r2))) (fun h => by rw [Bd.returns] at h; cases h) (BodyLoose.notSynchronized Bd)
  refine ⟨_, _, pre0 _ ?_, hrun, hended, _, _, rfl, ?_, ⟨_, rfl⟩, hW, hsame.mono (by decide) (by decide)⟩
  · show Steps p.tables e below (s₁.setTop (mkF m 0 #[.val (.ref a1), .val (.int p2)] [])) _
    refine XS.iloadN X0.here hx rfl (hb hby d34_0) rfl ?_
    refine XS.aloadN X0.here hx rfl (hb hby d34_1) rfl rfl ?_
    refine st1 _ ?_
    refine XS.aloadN X1.here hx rfl (hb hby d34_5) rfl rfl ?_
    refine XS.iloadN X1.here hx rfl (hb hby d34_6) rfl ?_
    refine st2 _ ?_
    show Steps p.tables e below (T2.setTop (mkF m 10 #[.val (.ref a1), .val (.int p2)] [(.int r2)])) _
    exact retN X2 hx (t := .char) Bd.returns (by simp) (hb hby d34_10) hr
  · show QrUc Z a1 p2 k cs i gv h0 n0 _ T2.heap _
    exact ⟨_, by rw [hr2, own_gc_eq (own_getCh hcs i), own_ncc (own_getCh hcs i)], rfl, N2, e2⟩
theorem pd_7 : parseMethodDescriptor "()Z" = some ⟨[], some .boolean⟩ := by decide +kernel
theorem d15_0 : decode jdk_42_method_56_code 0 = .ok (.aload_n 0, 1) := by decide +kernel
theorem d15_1 : decode jdk_42_method_56_code 1 = .ok (.invokevirtual 492, 3) := by decide +kernel
theorem d15_4 : decode jdk_42_method_56_code 4 = .ok (.ifCond .eq 12, 3) := by decide +kernel
theorem d15_7 : decode jdk_42_method_56_code 7 = .ok (.aload_n 0, 1) := by decide +kernel
theorem d15_8 : decode jdk_42_method_56_code 8 = .ok (.getfield 9, 3) := by decide +kernel
theorem d15_11 : decode jdk_42_method_56_code 11 = .ok (.iload_n 1, 1) := by decide +kernel
theorem d15_12 : decode jdk_42_method_56_code 12 = .ok (.invokestatic 495, 3) := by decide +kernel
theorem d15_15 : decode jdk_42_method_56_code 15 = .ok (.ireturn, 1) := by decide +kernel
theorem d15_16 : decode jdk_42_method_56_code 16 = .ok (.aload_n 0, 1) := by decide +kernel
theorem d15_17 : decode jdk_42_method_56_code 17 = .ok (.getfield 9, 3) := by decide +kernel
theorem d15_20 : decode jdk_42_method_56_code 20 = .ok (.iload_n 1, 1) := by decide +kernel
theorem d15_21 : decode jdk_42_method_56_code 21 = .ok (.invokestatic 498, 3) := by decide +kernel
theorem d15_24 : decode jdk_42_method_56_code 24 = .ok (.ireturn, 1) := by decide +kernel
theorem pn_15 : plainName "java/lang/String" = true := by first | (simp [plainName, overriddenIn]; done) | decide +kernel
theorem ef_rCh (m : MethodId) (a1 : Addr) (p2 : Int32) : entryFrame m #[(.ref a1), (.int p2)] 2 = mkF m 0 #[.val (.ref a1), .val (.int p2)] [] := by first | (simp [entryFrame, mkF, argsToLocals, Value.category]; done) | rfl
def QrCh (Z : State) (a1 : Addr) (p2 : Int32) (cs : List Int32) (i : Nat) (G1 : Int32) (gv : Value) (h0 : Heap) (n0 : Nat) (v : Option Value) (h : Heap) (L : List Loc) : Prop := ∃ z : Int32, z = (cs.getD i 0) ∧ v = some (.int z) ∧ Fr n0 L ∧ h = h0
set_option maxRecDepth 65536 in
set_option maxHeartbeats 40000000 in
theorem rCh (l : Launch) (Z : State) (a0 : Array Value) (hw : ∀ d ∈ tables_1, d.before a0 Z = true) (ws : List Jvm.Cond) (a1 : Addr) (p2 : Int32) (cs : List Int32) (i : Nat) (G1 : Int32) (gv : Value) (h0 : Heap) (n0 : Nat) (Z0 : n0 ≤ h0.size) (X00 : Old Z n0 h0) (O_S : Sta Z Z.heap "jdk/internal/util/Preconditions" "SIOOBE_FORMATTER" "Ljava/util/function/BiFunction;" gv) (hgv : gv.isRef = true) (O_2 : Sta Z Z.heap "java/lang/String" "COMPACT_STRINGS" "Z" (.int G1)) (P5 : ¬ (G1 = (0 : Int32))) (O_A : Sta Z Z.heap "java/lang/StringUTF16" "$assertionsDisabled" "Z" (.int (1 : Int32))) (O_H : Sta Z Z.heap "java/lang/StringUTF16" "HI_BYTE_SHIFT" "I" (.int (0 : Int32))) (O_W : Sta Z Z.heap "java/lang/StringUTF16" "LO_BYTE_SHIFT" "I" (.int (8 : Int32))) (T : own_S Z h0 a1 cs) (hp : p2 = Int32.ofNat i) (hi : i < cs.length) (hL : cs.length < 8) (hcs : ∀ c ∈ cs, own_ch c) :
    MetFree l (⟨"java/lang/String", "charAt", "(I)C"⟩ : MethodName) (head1 (Jvm.Cond.code (⟨"java/lang/String", "charAt", "(I)C"⟩ : MethodName) jdk_42_method_56_code 2 (some .char) :: ws) ({ frames := 4, cells := 0, slots := 0, locals := 53 } : Room)) (fun a U => a = #[(.ref a1), (.int p2)] ∧ Z.Warmed39 U.vm ∧ U.heap = h0) (fun _ _ _ _ _ => True) (fun _ U o U' => ∃ v L, o = .returned v ∧ QrCh Z a1 p2 cs i G1 gv h0 n0 v U'.heap L ∧ FrameEnd U o U' L ({ frames := 4, cells := 0, slots := 0, locals := 53 } : Room).cells ({ frames := 4, cells := 0, slots := 0, locals := 53 } : Room).slots) := by
  refine MetFree.of_bodySF (plainFor_of_name pn_15) hisR ?_
  intro p e s m args below meth c s₁ Bd hml0 hP hK
  obtain ⟨rfl, hZ, hh⟩ := hP
  have hx := Bd.exec
  have hby := Bd.bytes
  have hml : c.maxLocals = 2 := hml0
  have hown : s.vm.findClass "java/lang/String" = some m.cls := findClass_of_methodNamed Bd.named
  have hnm := (name_of_methodNamed Bd.named Bd.method).1
  have X0 : Stand p l e ({ frames := 4, cells := 0, slots := 0, locals := 53 } : Room) s m #[(.ref a1), (.int p2)] below meth c s₁ [] 0 0 := Stand.of_body Bd
  have e0 : s₁.heap = h0 := by rw [← hh, Bd.state]; rfl
  have N0 := Fr.nil n0
  have pre0 : ∀ t, Steps p.tables e below (s₁.setTop (mkF m 0 #[.val (.ref a1), .val (.int p2)] [])) t → Steps p.tables e below (s₁.setTop (entryFrame m #[(.ref a1), (.int p2)] 2)) t := fun t k => castTop (ef_rCh m a1 p2) k
  obtain ⟨vb, kb, E, FV, hcd⟩ := id T
  rcases hcd with ⟨FC, AV, hl⟩ | ⟨FC, AV⟩
  · skip
    obtain ⟨cq1, kz1, q1a, q1b, q1c⟩ := isOf hZ e0 E
    obtain ⟨_, _, ⟨T1, Lq1, kq1, nq1⟩, -, X1, ⟨Lc1, hQ1, lq1, yq1, zq1⟩, st1⟩ := X0.virtualBack hx (y := (⟨"java/lang/String", "isLatin1", "()Z"⟩ : MethodName)) (z := (⟨"java/lang/String", "isLatin1", "()Z"⟩ : MethodName)) hown (mvT hZ (hw _ (own_w 76 rfl))) (mvT hZ (hw _ (own_w 77 rfl))) (notFace_of_selects (args := #[]) (mvT hZ (hw _ (own_w 79 rfl)))) (mvT hZ (hw _ (own_w 79 rfl))) (mvT hZ (hw _ (own_w 78 rfl))) (by decide) (backOf (W := 0) (rIs0 l Z a0 hw [] a1 G1 h0 n0 Z0 X00 O_2 P5 FC) hZ (hw _ (own_w 80 rfl)) (hw _ (own_w 12 rfl)) (by decide) (by decide)) q1a q1c (g := (mkF m 1 #[.val (.ref a1), .val (.int p2)] [(.ref a1)])) rfl (by rw [hml]; rfl) (Steps.refl _) (argsL := []) (rest := []) (lenOf pd_7 rfl) rfl (by show 2 * 0 + _ ≤ _; exact Nat.le_of_eq rfl) (hb hby d15_1) (fun _ _ => ⟨rfl, e0, (by decide : 0 + 0 ≤ _), (by decide : 0 + 0 ≤ _)⟩)
    dsimp only [Pt.U, Pt.locs, Pt.cells, Pt.slots] at X1 lq1 yq1 zq1 st1 hQ1
    subst lq1 yq1 zq1
    obtain ⟨r1, hr1, rfl, N1q, e1⟩ := hQ1
    have N1 := Fr.app N0 N1q
    subst hr1
    obtain ⟨T2, X2, e2, st2⟩ := getF X1 hx hZ hown (host := "") (Or.inl (hw _ (own_w 29 rfl))) Via.refl e1 FV (g := (mkF m 8 #[.val (.ref a1), .val (.int p2)] [(.ref a1)])) rfl rfl (hb hby d15_8)
    obtain ⟨_, _, ⟨T3, Lq3, kq3, nq3⟩, -, X3, ⟨Lc3, hQ3, lq3, yq3, zq3⟩, st3⟩ := Jvm.LawKit.callS X2 hx (y := (⟨"java/lang/StringLatin1", "charAt", "([BI)C"⟩ : MethodName)) hown (mvT hZ (hw _ (own_w 81 rfl))) (mvT hZ (hw _ (own_w 82 rfl))) (mvT hZ (hw _ (own_w 83 rfl))) (mvT hZ (hw _ (own_w 84 rfl))) (by decide) (backOf (W := 0) (rL1 l Z a0 hw [] vb p2 kb cs i gv h0 n0 Z0 X00 O_S hgv AV hp hi hL) hZ (hw _ (own_w 84 rfl)) (hw _ (own_w 83 rfl)) (by decide) (by decide)) (g := (mkF m 12 #[.val (.ref a1), .val (.int p2)] [(.int p2), (.ref vb)])) rfl (by rw [hml]; rfl) (argsL := [(.ref vb), (.int p2)]) (rest := []) (lenOf pd_6 rfl) rfl (by show 2 * 0 + _ ≤ _; exact Nat.le_of_eq rfl) (hb hby d15_12) (fun _ _ => ⟨rfl, e2, (by decide : 0 + 0 ≤ _), (by decide : 0 + 0 ≤ _)⟩)
    dsimp only [Pt.U, Pt.locs, Pt.cells, Pt.slots] at X3 lq3 yq3 zq3 st3 hQ3
    subst lq3 yq3 zq3
    obtain ⟨r3, hr3, rfl, N3q, e3⟩ := hQ3
    have N3 := Fr.app N1 N3q
    obtain ⟨fs, hr, hrun, hended, hW, hsame⟩ := X3.leave (v := some (.int (nar .char r3))) (fun h => by rw [Bd.returns] at h; cases h) (BodyLoose.notSynchronized Bd)
    refine ⟨_, _, pre0 _ ?_, hrun, hended, _, _, rfl, ?_, ⟨_, rfl⟩, hW, hsame.mono (by decide) (by decide)⟩
    · show Steps p.tables e below (s₁.setTop (mkF m 0 #[.val (.ref a1), .val (.int p2)] [])) _
      refine XS.aloadN X0.here hx rfl (hb hby d15_0) rfl rfl ?_
      refine st1.trans ?_
      refine XS.ifNo X1.here hx rfl (hb hby d15_4) rfl ((if0 _ _).trans (feq (by decide)).1) ?_
      refine XS.aloadN X1.here hx rfl (hb hby d15_7) rfl rfl ?_
      refine st2 _ ?_
      refine XS.iloadN X2.here hx rfl (hb hby d15_11) rfl ?_
      refine st3 _ ?_
      show Steps p.tables e below (T3.setTop (mkF m 15 #[.val (.ref a1), .val (.int p2)] [(.int r3)])) _
      exact retN X3 hx (t := .char) Bd.returns (by simp) (hb hby d15_15) hr
    · show QrCh Z a1 p2 cs i G1 gv h0 n0 _ T3.heap _
      have hc := own_g1_eq (own_getCh hcs i) (own_getLt hl hi)
      exact ⟨_, by rw [hr3, hc, own_ncc (own_getCh hcs i)], rfl, N3, e3⟩
  · skip
    obtain ⟨cq4, kz4, q4a, q4b, q4c⟩ := isOf hZ e0 E
    obtain ⟨_, _, ⟨T4, Lq4, kq4, nq4⟩, -, X4, ⟨Lc4, hQ4, lq4, yq4, zq4⟩, st4⟩ := X0.virtualBack hx (y := (⟨"java/lang/String", "isLatin1", "()Z"⟩ : MethodName)) (z := (⟨"java/lang/String", "isLatin1", "()Z"⟩ : MethodName)) hown (mvT hZ (hw _ (own_w 76 rfl))) (mvT hZ (hw _ (own_w 77 rfl))) (notFace_of_selects (args := #[]) (mvT hZ (hw _ (own_w 79 rfl)))) (mvT hZ (hw _ (own_w 79 rfl))) (mvT hZ (hw _ (own_w 78 rfl))) (by decide) (backOf (W := 0) (rIs1 l Z a0 hw [] a1 G1 h0 n0 Z0 X00 O_2 P5 FC) hZ (hw _ (own_w 80 rfl)) (hw _ (own_w 12 rfl)) (by decide) (by decide)) q4a q4c (g := (mkF m 1 #[.val (.ref a1), .val (.int p2)] [(.ref a1)])) rfl (by rw [hml]; rfl) (Steps.refl _) (argsL := []) (rest := []) (lenOf pd_7 rfl) rfl (by show 2 * 0 + _ ≤ _; exact Nat.le_of_eq rfl) (hb hby d15_1) (fun _ _ => ⟨rfl, e0, (by decide : 0 + 0 ≤ _), (by decide : 0 + 0 ≤ _)⟩)
    dsimp only [Pt.U, Pt.locs, Pt.cells, Pt.slots] at X4 lq4 yq4 zq4 st4 hQ4
    subst lq4 yq4 zq4
    obtain ⟨r4, hr4, rfl, N4q, e4⟩ := hQ4
    have N4 := Fr.app N0 N4q
    subst hr4
    obtain ⟨T5, X5, e5, st5⟩ := getF X4 hx hZ hown (host := "") (Or.inl (hw _ (own_w 29 rfl))) Via.refl e4 FV (g := (mkF m 17 #[.val (.ref a1), .val (.int p2)] [(.ref a1)])) rfl rfl (hb hby d15_17)
    obtain ⟨_, _, ⟨T6, Lq6, kq6, nq6⟩, -, X6, ⟨Lc6, hQ6, lq6, yq6, zq6⟩, st6⟩ := Jvm.LawKit.callS X5 hx (y := (⟨"java/lang/StringUTF16", "charAt", "([BI)C"⟩ : MethodName)) hown (mvT hZ (hw _ (own_w 153 rfl))) (mvT hZ (hw _ (own_w 154 rfl))) (mvT hZ (hw _ (own_w 60 rfl))) (mvT hZ (hw _ (own_w 155 rfl))) (by decide) (backOf (W := 0) (rUc l Z a0 hw [] vb p2 kb cs i gv h0 n0 Z0 X00 O_S hgv O_A O_H O_W AV hp hi hL hcs) hZ (hw _ (own_w 155 rfl)) (hw _ (own_w 60 rfl)) (by decide) (by decide)) (g := (mkF m 21 #[.val (.ref a1), .val (.int p2)] [(.int p2), (.ref vb)])) rfl (by rw [hml]; rfl) (argsL := [(.ref vb), (.int p2)]) (rest := []) (lenOf pd_6 rfl) rfl (by show 2 * 0 + _ ≤ _; exact Nat.le_of_eq rfl) (hb hby d15_21) (fun _ _ => ⟨rfl, e5, (by decide : 0 + 0 ≤ _), (by decide : 0 + 0 ≤ _)⟩)
    dsimp only [Pt.U, Pt.locs, Pt.cells, Pt.slots] at X6 lq6 yq6 zq6 st6 hQ6
    subst lq6 yq6 zq6
    obtain ⟨r6, hr6, rfl, N6q, e6⟩ := hQ6
    have N6 := Fr.app N4 N6q
    obtain ⟨fs, hr, hrun, hended, hW, hsame⟩ := X6.leave (v := some (.int (nar .char r6))) (fun h => by rw [Bd.returns] at h; cases h) (BodyLoose.notSynchronized Bd)
    refine ⟨_, _, pre0 _ ?_, hrun, hended, _, _, rfl, ?_, ⟨_, rfl⟩, hW, hsame.mono (by decide) (by decide)⟩
    · show Steps p.tables e below (s₁.setTop (mkF m 0 #[.val (.ref a1), .val (.int p2)] [])) _
      refine XS.aloadN X0.here hx rfl (hb hby d15_0) rfl rfl ?_
      refine st4.trans ?_
      refine XS.ifYes X4.here hx rfl (pc0 := 4) (pc' := 16) rfl (hb hby d15_4) rfl ((if0 _ _).trans (teq (by decide)).1) (by decide) (by decide) ?_
      refine XS.aloadN X4.here hx rfl (hb hby d15_16) rfl rfl ?_
      refine st5 _ ?_
      refine XS.iloadN X5.here hx rfl (hb hby d15_20) rfl ?_
      refine st6 _ ?_
      show Steps p.tables e below (T6.setTop (mkF m 24 #[.val (.ref a1), .val (.int p2)] [(.int r6)])) _
      exact retN X6 hx (t := .char) Bd.returns (by simp) (hb hby d15_24) hr
    · show QrCh Z a1 p2 cs i G1 gv h0 n0 _ T6.heap _
      exact ⟨_, by rw [hr6, own_ncc (own_getCh hcs i)], rfl, N6, e6⟩
theorem d32_0 : decode jdk_52_method_4_code 0 = .ok (.getstatic 44, 3) := by decide +kernel
theorem d32_3 : decode jdk_52_method_4_code 3 = .ok (.ifCond .ne 25, 3) := by decide +kernel
theorem d32_28 : decode jdk_52_method_4_code 28 = .ok (.iload_n 1, 1) := by decide +kernel
theorem d32_29 : decode jdk_52_method_4_code 29 = .ok (.iconst 1, 1) := by decide +kernel
theorem d32_30 : decode jdk_52_method_4_code 30 = .ok (.ishl, 1) := by decide +kernel
theorem d32_31 : decode jdk_52_method_4_code 31 = .ok (.istore_n 1, 1) := by decide +kernel
theorem d32_32 : decode jdk_52_method_4_code 32 = .ok (.aload_n 0, 1) := by decide +kernel
theorem d32_33 : decode jdk_52_method_4_code 33 = .ok (.iload_n 1, 1) := by decide +kernel
theorem d32_34 : decode jdk_52_method_4_code 34 = .ok (.iinc 1 1, 3) := by decide +kernel
theorem d32_37 : decode jdk_52_method_4_code 37 = .ok (.iload_n 2, 1) := by decide +kernel
theorem d32_38 : decode jdk_52_method_4_code 38 = .ok (.getstatic 59, 3) := by decide +kernel
theorem d32_41 : decode jdk_52_method_4_code 41 = .ok (.ishr, 1) := by decide +kernel
theorem d32_42 : decode jdk_52_method_4_code 42 = .ok (.i2b, 1) := by decide +kernel
theorem d32_43 : decode jdk_52_method_4_code 43 = .ok (.bastore, 1) := by decide +kernel
theorem d32_44 : decode jdk_52_method_4_code 44 = .ok (.aload_n 0, 1) := by decide +kernel
theorem d32_45 : decode jdk_52_method_4_code 45 = .ok (.iload_n 1, 1) := by decide +kernel
theorem d32_46 : decode jdk_52_method_4_code 46 = .ok (.iload_n 2, 1) := by decide +kernel
theorem d32_47 : decode jdk_52_method_4_code 47 = .ok (.getstatic 63, 3) := by decide +kernel
theorem d32_50 : decode jdk_52_method_4_code 50 = .ok (.ishr, 1) := by decide +kernel
theorem d32_51 : decode jdk_52_method_4_code 51 = .ok (.i2b, 1) := by decide +kernel
theorem d32_52 : decode jdk_52_method_4_code 52 = .ok (.bastore, 1) := by decide +kernel
theorem d32_53 : decode jdk_52_method_4_code 53 = .ok (.return_, 1) := by decide +kernel
theorem pn_32 : plainName "java/lang/StringUTF16" = true := by first | (simp [plainName, overriddenIn]; done) | decide +kernel
theorem ef_rPc (m : MethodId) (a1 : Addr) (p2 : Int32) (p3 : Int32) : entryFrame m #[(.ref a1), (.int p2), (.int p3)] 3 = mkF m 0 #[.val (.ref a1), .val (.int p2), .val (.int p3)] [] := by first | (simp [entryFrame, mkF, argsToLocals, Value.category]; done) | rfl
def QrPc (Z : State) (a1 : Addr) (p2 : Int32) (p3 : Int32) (k : ClassId) (n : Nat) (vs : List Value) (i : Nat) (h0 : Heap) (n0 : Nat) (v : Option Value) (h : Heap) (L : List Loc) : Prop := v = none ∧ Fr n0 L ∧ Keep h0 h [a1] ∧ Arv Z h a1 k .byte (Int32.ofNat (2 * n)) ((vs.set (2 * i) (.int (own_lo p3))).set (2 * i + 1) (.int (own_hi p3))) (.int (0 : Int32))
set_option maxRecDepth 65536 in
set_option maxHeartbeats 40000000 in
theorem rPc (l : Launch) (Z : State) (a0 : Array Value) (hw : ∀ d ∈ tables_1, d.before a0 Z = true) (ws : List Jvm.Cond) (a1 : Addr) (p2 : Int32) (p3 : Int32) (k : ClassId) (n : Nat) (vs : List Value) (i : Nat) (h0 : Heap) (n0 : Nat) (Z0 : n0 ≤ h0.size) (X00 : Old Z n0 h0) (O_A : Sta Z Z.heap "java/lang/StringUTF16" "$assertionsDisabled" "Z" (.int (1 : Int32))) (O_H : Sta Z Z.heap "java/lang/StringUTF16" "HI_BYTE_SHIFT" "I" (.int (0 : Int32))) (O_W : Sta Z Z.heap "java/lang/StringUTF16" "LO_BYTE_SHIFT" "I" (.int (8 : Int32))) (AV : Arv Z h0 a1 k .byte (Int32.ofNat (2 * n)) (vs) (.int (0 : Int32))) (hp : p2 = Int32.ofNat i) (hi : i < n) (hn : n < 8) (hv : vs.length = 2 * n) (ga : n0 ≤ a1) :
    MetFree l (⟨"java/lang/StringUTF16", "putChar", "([BII)V"⟩ : MethodName) (head1 (Jvm.Cond.code (⟨"java/lang/StringUTF16", "putChar", "([BII)V"⟩ : MethodName) jdk_52_method_4_code 3 none :: ws) ({ frames := 0, cells := 0, slots := 0, locals := 0 } : Room)) (fun a U => a = #[(.ref a1), (.int p2), (.int p3)] ∧ Z.Warmed39 U.vm ∧ U.heap = h0) (fun _ _ _ _ _ => True) (fun _ U o U' => ∃ v L, o = .returned v ∧ QrPc Z a1 p2 p3 k n vs i h0 n0 v U'.heap L ∧ FrameEnd U o U' L ({ frames := 0, cells := 0, slots := 0, locals := 0 } : Room).cells ({ frames := 0, cells := 0, slots := 0, locals := 0 } : Room).slots) := by
  refine MetFree.of_bodySF (plainFor_of_name pn_32) hisR ?_
  intro p e s m args below meth c s₁ Bd hml0 hP hK
  obtain ⟨rfl, hZ, hh⟩ := hP
  have hx := Bd.exec
  have hby := Bd.bytes
  have hml : c.maxLocals = 3 := hml0
  have hown : s.vm.findClass "java/lang/StringUTF16" = some m.cls := findClass_of_methodNamed Bd.named
  have hnm := (name_of_methodNamed Bd.named Bd.method).1
  have X0 : Stand p l e ({ frames := 0, cells := 0, slots := 0, locals := 0 } : Room) s m #[(.ref a1), (.int p2), (.int p3)] below meth c s₁ [] 0 0 := Stand.of_body Bd
  have e0 : s₁.heap = h0 := by rw [← hh, Bd.state]; rfl
  have N0 := Fr.nil n0
  have pre0 : ∀ t, Steps p.tables e below (s₁.setTop (mkF m 0 #[.val (.ref a1), .val (.int p2), .val (.int p3)] [])) t → Steps p.tables e below (s₁.setTop (entryFrame m #[(.ref a1), (.int p2), (.int p3)] 3)) t := fun t k => castTop (ef_rPc m a1 p2 p3) k
  obtain ⟨T1, X1, e1, st1⟩ := getS2 X0 hx hZ hown (host := "") (Or.inl (hw _ (own_w 147 rfl))) Via.refl e0 (O_A.ext X00.2) (g := (mkF m 0 #[.val (.ref a1), .val (.int p2), .val (.int p3)] [])) rfl (hb hby d32_0)
  have hp2 : (p2 <<< ((1 : Int32) &&& 31)) = Int32.ofNat (2 * i) := by rw [hp]; exact own_xsh (by omega)
  obtain ⟨T2, X2, e2, st2⟩ := getS2 X1 hx hZ hown (host := "") (Or.inl (hw _ (own_w 148 rfl))) Via.refl e1 (O_H.ext X00.2) (g := (mkF m 38 #[.val (.ref a1), .val (.int ((Int32.ofNat (2 * i)) + (1 : Int32))), .val (.int p3)] [(.int p3), (.int (Int32.ofNat (2 * i))), (.ref a1)])) rfl (hb hby d32_38)
  obtain ⟨cl3, Ar3, qk3, Sz3, Nn3, Hh3, Gg3⟩ := id (AV)
  have hin4 : ¬ ((Int32.ofNat (2 * i)) < 0 ∨ cl3.slots.size ≤ ((Int32.ofNat (2 * i))).toNatClampNeg) := inb_of Sz3 ⟨own_x0 (by omega), (own_xlt (by omega) (by omega)).mpr (by omega)⟩
  obtain ⟨T4, h4, X4, e4, W4, st4⟩ := stB X2 hx hZ e2 Ar3 (j := (Int32.ofNat (2 * i))) hin4 (g := (mkF m 43 #[.val (.ref a1), .val (.int ((Int32.ofNat (2 * i)) + (1 : Int32))), .val (.int p3)] [(.int ((p3 >>> ((0 : Int32) &&& 31)).toInt8.toInt32)), (.int (Int32.ofNat (2 * i))), (.ref a1)])) rfl rfl (hb hby d32_43)
  have N4 := Fr.snoc X4 N0 ga
  have Z4 : n0 ≤ h4.size := by rw [W4.size]; exact Z0
  have K4 : Keep h0 h4 [a1] := (Keep.refl h0 [a1]).wr W4 (Or.inl (own_w 0 rfl))
  have V4 : Arv Z h4 a1 k .byte (Int32.ofNat (2 * n)) (vs.set (2 * i) (.int (own_lo p3))) (.int (0 : Int32)) := by
    have q := Arv.set Ar3 qk3 Sz3 Nn3 Hh3 Gg3 (fits_nar_byte _) W4 (2 * i) (own_xN (by omega)) (by rw [hv]; omega)
    rw [show (vs.set (2 * i) (.int (own_lo p3))) = _ from rfl]; exact q
  have hp3 : ((Int32.ofNat (2 * i)) + (1 : Int32)) = Int32.ofNat (2 * i + 1) := own_xs (by omega)
  have f5 := (X00.wr W4 ga)
  obtain ⟨T6, X6, e6, st6⟩ := getS2 X4 hx hZ hown (host := "") (Or.inl (hw _ (own_w 149 rfl))) Via.refl e4 (O_W.ext f5.2) (g := (mkF m 47 #[.val (.ref a1), .val (.int (Int32.ofNat (2 * i + 1))), .val (.int p3)] [(.int p3), (.int (Int32.ofNat (2 * i + 1))), (.ref a1)])) rfl (hb hby d32_47)
  obtain ⟨cl7, Ar7, qk7, Sz7, Nn7, Hh7, Gg7⟩ := id (V4)
  have hin8 : ¬ ((Int32.ofNat (2 * i + 1)) < 0 ∨ cl7.slots.size ≤ ((Int32.ofNat (2 * i + 1))).toNatClampNeg) := inb_of Sz7 ⟨own_x0 (by omega), (own_xlt (by omega) (by omega)).mpr (by omega)⟩
  obtain ⟨T8, h8, X8, e8, W8, st8⟩ := stB X6 hx hZ e6 Ar7 (j := (Int32.ofNat (2 * i + 1))) hin8 (g := (mkF m 52 #[.val (.ref a1), .val (.int (Int32.ofNat (2 * i + 1))), .val (.int p3)] [(.int ((p3 >>> ((8 : Int32) &&& 31)).toInt8.toInt32)), (.int (Int32.ofNat (2 * i + 1))), (.ref a1)])) rfl rfl (hb hby d32_52)
  have N8 := Fr.snoc X8 N4 ga
  have Z8 : n0 ≤ h8.size := by rw [W8.size]; exact Z4
  have K8 : Keep h0 h8 [a1] := K4.wr W8 (Or.inl (own_w 0 rfl))
  have V8 : Arv Z h8 a1 k .byte (Int32.ofNat (2 * n)) ((vs.set (2 * i) (.int (own_lo p3))).set (2 * i + 1) (.int (own_hi p3))) (.int (0 : Int32)) := by
    have q := Arv.set Ar7 qk7 Sz7 Nn7 Hh7 Gg7 (fits_nar_byte _) W8 (2 * i + 1) (own_xN (by omega)) (by rw [List.length_set, hv]; omega)
    rw [show ((vs.set (2 * i) (.int (own_lo p3))).set (2 * i + 1) (.int (own_hi p3))) = _ from rfl]; exact q
  obtain ⟨fs, hr, hrun, hended, hW, hsame⟩ := X8.leave (v := none) (fun _ => rfl) (BodyLoose.notSynchronized Bd)
  refine ⟨_, _, pre0 _ ?_, hrun, hended, _, _, rfl, ?_, ⟨_, rfl⟩, hW, hsame.mono (by decide) (by decide)⟩
  · show Steps p.tables e below (s₁.setTop (mkF m 0 #[.val (.ref a1), .val (.int p2), .val (.int p3)] [])) _
    refine st1 _ ?_
    refine XS.ifYes X1.here hx rfl (pc0 := 3) (pc' := 28) rfl (hb hby d32_3) rfl ((if0 _ _).trans (feq (by decide)).2) (by decide) (by decide) ?_
    refine XS.iloadN X1.here hx rfl (hb hby d32_28) rfl ?_
    refine XS.iconst X1.here hx rfl (hb hby d32_29) ?_
    refine XS.ishl X1.here hx rfl (hb hby d32_30) rfl ?_
    refine XS.istoreN X1.here hx rfl (hb hby d32_31) rfl (l' := #[.val (.ref a1), .val (.int (p2 <<< ((1 : Int32) &&& 31))), .val (.int p3)]) rfl ?_
    show Steps p.tables e below (T1.setTop (mkF m 32 #[.val (.ref a1), .val (.int (p2 <<< ((1 : Int32) &&& 31))), .val (.int p3)] [])) _
    rw [hp2]
    show Steps p.tables e below (T1.setTop (mkF m 32 #[.val (.ref a1), .val (.int (Int32.ofNat (2 * i))), .val (.int p3)] [])) _
    refine XS.aloadN X1.here hx rfl (hb hby d32_32) rfl rfl ?_
    refine XS.iloadN X1.here hx rfl (hb hby d32_33) rfl ?_
    refine XS.iinc X1.here hx rfl (hb hby d32_34) rfl (l' := #[.val (.ref a1), .val (.int ((Int32.ofNat (2 * i)) + (1 : Int32))), .val (.int p3)]) rfl ?_
    refine XS.iloadN X1.here hx rfl (hb hby d32_37) rfl ?_
    refine st2 _ ?_
    refine XS.ishr X2.here hx rfl (hb hby d32_41) rfl ?_
    refine XS.i2b X2.here hx rfl (hb hby d32_42) rfl ?_
    refine st4 _ ?_
    show Steps p.tables e below (T4.setTop (mkF m 44 #[.val (.ref a1), .val (.int ((Int32.ofNat (2 * i)) + (1 : Int32))), .val (.int p3)] [])) _
    rw [hp3]
    show Steps p.tables e below (T4.setTop (mkF m 44 #[.val (.ref a1), .val (.int (Int32.ofNat (2 * i + 1))), .val (.int p3)] [])) _
    refine XS.aloadN X4.here hx rfl (hb hby d32_44) rfl rfl ?_
    refine XS.iloadN X4.here hx rfl (hb hby d32_45) rfl ?_
    refine XS.iloadN X4.here hx rfl (hb hby d32_46) rfl ?_
    refine st6 _ ?_
    refine XS.ishr X6.here hx rfl (hb hby d32_50) rfl ?_
    refine XS.i2b X6.here hx rfl (hb hby d32_51) rfl ?_
    refine st8 _ ?_
    show Steps p.tables e below (T8.setTop (mkF m 53 #[.val (.ref a1), .val (.int (Int32.ofNat (2 * i + 1))), .val (.int p3)] [])) _
    exact X8.returnOut hx Bd.returns (hb hby d32_53) hr
  · show QrPc Z a1 p2 p3 k n vs i h0 n0 _ T8.heap _
    rw [e8]
    exact ⟨rfl, N8, K8, V8⟩
theorem d31_0 : decode jdk_52_method_3_code 0 = .ok (.iload_n 0, 1) := by decide +kernel
theorem d31_1 : decode jdk_52_method_3_code 1 = .ok (.ifCond .ge 11, 3) := by decide +kernel
theorem d31_12 : decode jdk_52_method_3_code 12 = .ok (.iload_n 0, 1) := by decide +kernel
theorem d31_13 : decode jdk_52_method_3_code 13 = .ok (.ldc 20, 2) := by decide +kernel
theorem d31_15 : decode jdk_52_method_3_code 15 = .ok (.if_icmp .lt 40, 3) := by decide +kernel
theorem d31_55 : decode jdk_52_method_3_code 55 = .ok (.iload_n 0, 1) := by decide +kernel
theorem d31_56 : decode jdk_52_method_3_code 56 = .ok (.iconst 1, 1) := by decide +kernel
theorem d31_57 : decode jdk_52_method_3_code 57 = .ok (.ishl, 1) := by decide +kernel
theorem d31_58 : decode jdk_52_method_3_code 58 = .ok (.ireturn, 1) := by decide +kernel
theorem pn_31 : plainName "java/lang/StringUTF16" = true := by first | (simp [plainName, overriddenIn]; done) | decide +kernel
theorem ef_rNl (m : MethodId) (p1 : Int32) : entryFrame m #[(.int p1)] 1 = mkF m 0 #[.val (.int p1)] [] := by first | (simp [entryFrame, mkF, argsToLocals, Value.category]; done) | rfl
def QrNl (Z : State) (p1 : Int32) (n : Nat) (h0 : Heap) (n0 : Nat) (v : Option Value) (h : Heap) (L : List Loc) : Prop := ∃ z : Int32, z = (Int32.ofNat (2 * n)) ∧ v = some (.int z) ∧ Fr n0 L ∧ h = h0
set_option maxRecDepth 65536 in
set_option maxHeartbeats 40000000 in
theorem rNl (l : Launch) (Z : State) (a0 : Array Value) (hw : ∀ d ∈ tables_1, d.before a0 Z = true) (ws : List Jvm.Cond) (p1 : Int32) (n : Nat) (h0 : Heap) (n0 : Nat) (Z0 : n0 ≤ h0.size) (hp : p1 = Int32.ofNat n) (hn : n < 8) :
    MetFree l (⟨"java/lang/StringUTF16", "newBytesLength", "(I)I"⟩ : MethodName) (head1 (Jvm.Cond.code (⟨"java/lang/StringUTF16", "newBytesLength", "(I)I"⟩ : MethodName) jdk_52_method_3_code 1 (some .int) :: ws) ({ frames := 0, cells := 0, slots := 0, locals := 0 } : Room)) (fun a U => a = #[(.int p1)] ∧ Z.Warmed39 U.vm ∧ U.heap = h0) (fun _ _ _ _ _ => True) (fun _ U o U' => ∃ v L, o = .returned v ∧ QrNl Z p1 n h0 n0 v U'.heap L ∧ FrameEnd U o U' L ({ frames := 0, cells := 0, slots := 0, locals := 0 } : Room).cells ({ frames := 0, cells := 0, slots := 0, locals := 0 } : Room).slots) := by
  refine MetFree.of_bodySF (plainFor_of_name pn_31) hisR ?_
  intro p e s m args below meth c s₁ Bd hml0 hP hK
  obtain ⟨rfl, hZ, hh⟩ := hP
  have hx := Bd.exec
  have hby := Bd.bytes
  have hml : c.maxLocals = 1 := hml0
  have hown : s.vm.findClass "java/lang/StringUTF16" = some m.cls := findClass_of_methodNamed Bd.named
  have hnm := (name_of_methodNamed Bd.named Bd.method).1
  have X0 : Stand p l e ({ frames := 0, cells := 0, slots := 0, locals := 0 } : Room) s m #[(.int p1)] below meth c s₁ [] 0 0 := Stand.of_body Bd
  have e0 : s₁.heap = h0 := by rw [← hh, Bd.state]; rfl
  have N0 := Fr.nil n0
  have pre0 : ∀ t, Steps p.tables e below (s₁.setTop (mkF m 0 #[.val (.int p1)] [])) t → Steps p.tables e below (s₁.setTop (entryFrame m #[(.int p1)] 1)) t := fun t k => castTop (ef_rNl m p1) k
  obtain ⟨fs, hr, hrun, hended, hW, hsame⟩ := X0.leave (v := some (.int (p1 <<< ((1 : Int32) &&& 31)))) (fun h => by rw [Bd.returns] at h; cases h) (BodyLoose.notSynchronized Bd)
  refine ⟨_, _, pre0 _ ?_, hrun, hended, _, _, rfl, ?_, ⟨_, rfl⟩, hW, hsame.mono (by decide) (by decide)⟩
  · show Steps p.tables e below (s₁.setTop (mkF m 0 #[.val (.int p1)] [])) _
    refine XS.iloadN X0.here hx rfl (hb hby d31_0) rfl ?_
    refine XS.ifYes X0.here hx rfl (pc0 := 1) (pc' := 12) rfl (hb hby d31_1) rfl ((if0 _ _).trans (flt (by rw [hp]; exact own_x0 (by omega))).2.1) (by decide) (by decide) ?_
    refine XS.iloadN X0.here hx rfl (hb hby d31_12) rfl ?_
    refine X0.ldcInt hx hown (mvT hZ (hw _ (own_w 143 rfl))) (g := (mkF m 13 #[.val (.int p1)] [(.int p1)])) rfl (hb hby d31_13) _ ?_
    refine XS.icmpYes X0.here hx rfl (pc0 := 15) (pc' := 55) rfl (hb hby d31_15) rfl (tlt (by rw [hp]; exact own_xbig (by omega))).1 (by decide) (by decide) ?_
    refine XS.iloadN X0.here hx rfl (hb hby d31_55) rfl ?_
    refine XS.iconst X0.here hx rfl (hb hby d31_56) ?_
    refine XS.ishl X0.here hx rfl (hb hby d31_57) rfl ?_
    show Steps p.tables e below (s₁.setTop (mkF m 58 #[.val (.int p1)] [(.int (p1 <<< ((1 : Int32) &&& 31)))])) _
    exact retI X0 hx Bd.returns (hb hby d31_58) hr
  · show QrNl Z p1 n h0 n0 _ s₁.heap _
    exact ⟨_, by rw [hp]; exact own_xsh hn, rfl, N0, e0⟩
theorem pd_8 : parseMethodDescriptor "(I)I" = some ⟨[.int], some .int⟩ := by decide +kernel
theorem d30_0 : decode jdk_52_method_2_code 0 = .ok (.iload_n 0, 1) := by decide +kernel
theorem d30_1 : decode jdk_52_method_2_code 1 = .ok (.invokestatic 11, 3) := by decide +kernel
theorem d30_4 : decode jdk_52_method_2_code 4 = .ok (.newarray .byte, 2) := by decide +kernel
theorem d30_6 : decode jdk_52_method_2_code 6 = .ok (.areturn, 1) := by decide +kernel
theorem pn_30 : plainName "java/lang/StringUTF16" = true := by first | (simp [plainName, overriddenIn]; done) | decide +kernel
theorem ef_rNf (m : MethodId) (p1 : Int32) : entryFrame m #[(.int p1)] 1 = mkF m 0 #[.val (.int p1)] [] := by first | (simp [entryFrame, mkF, argsToLocals, Value.category]; done) | rfl
def QrNf (Z : State) (p1 : Int32) (n : Nat) (h0 : Heap) (n0 : Nat) (v : Option Value) (h : Heap) (L : List Loc) : Prop := ∃ (o : Addr) (ok : ClassId), v = some (.ref o) ∧ Fr n0 L ∧ Keep h0 h [] ∧ n0 ≤ o ∧ h0.size ≤ o ∧ Arv Z h o ok .byte (Int32.ofNat (2 * n)) (List.replicate (2 * n) (.int (0 : Int32))) (.int (0 : Int32))
set_option maxRecDepth 65536 in
set_option maxHeartbeats 40000000 in
theorem rNf (l : Launch) (Z : State) (a0 : Array Value) (hw : ∀ d ∈ tables_1, d.before a0 Z = true) (ws : List Jvm.Cond) (p1 : Int32) (n : Nat) (h0 : Heap) (n0 : Nat) (Z0 : n0 ≤ h0.size) (hp : p1 = Int32.ofNat n) (hn : n < 8) :
    MetFree l (⟨"java/lang/StringUTF16", "newBytesFor", "(I)[B"⟩ : MethodName) (head1 (Jvm.Cond.code (⟨"java/lang/StringUTF16", "newBytesFor", "(I)[B"⟩ : MethodName) jdk_52_method_2_code 1 (some (.array .byte)) :: ws) ({ frames := 1, cells := 1, slots := 16, locals := 12 } : Room)) (fun a U => a = #[(.int p1)] ∧ Z.Warmed39 U.vm ∧ U.heap = h0) (fun _ _ _ _ _ => True) (fun _ U o U' => ∃ v L, o = .returned v ∧ QrNf Z p1 n h0 n0 v U'.heap L ∧ FrameEnd U o U' L ({ frames := 1, cells := 1, slots := 16, locals := 12 } : Room).cells ({ frames := 1, cells := 1, slots := 16, locals := 12 } : Room).slots) := by
  refine MetFree.of_bodySF (plainFor_of_name pn_30) hisR ?_
  intro p e s m args below meth c s₁ Bd hml0 hP hK
  obtain ⟨rfl, hZ, hh⟩ := hP
  have hx := Bd.exec
  have hby := Bd.bytes
  have hml : c.maxLocals = 1 := hml0
  have hown : s.vm.findClass "java/lang/StringUTF16" = some m.cls := findClass_of_methodNamed Bd.named
  have hnm := (name_of_methodNamed Bd.named Bd.method).1
  have X0 : Stand p l e ({ frames := 1, cells := 1, slots := 16, locals := 12 } : Room) s m #[(.int p1)] below meth c s₁ [] 0 0 := Stand.of_body Bd
  have e0 : s₁.heap = h0 := by rw [← hh, Bd.state]; rfl
  have N0 := Fr.nil n0
  have pre0 : ∀ t, Steps p.tables e below (s₁.setTop (mkF m 0 #[.val (.int p1)] [])) t → Steps p.tables e below (s₁.setTop (entryFrame m #[(.int p1)] 1)) t := fun t k => castTop (ef_rNf m p1) k
  obtain ⟨_, _, ⟨T1, Lq1, kq1, nq1⟩, -, X1, ⟨Lc1, hQ1, lq1, yq1, zq1⟩, st1⟩ := Jvm.LawKit.callS X0 hx (y := (⟨"java/lang/StringUTF16", "newBytesLength", "(I)I"⟩ : MethodName)) hown (mvT hZ (hw _ (own_w 140 rfl))) (mvT hZ (hw _ (own_w 141 rfl))) (mvT hZ (hw _ (own_w 60 rfl))) (mvT hZ (hw _ (own_w 142 rfl))) (by decide) (backOf (W := 0) (rNl l Z a0 hw [] p1 (n) h0 n0 Z0 hp hn) hZ (hw _ (own_w 142 rfl)) (hw _ (own_w 60 rfl)) (by decide) (by decide)) (g := (mkF m 1 #[.val (.int p1)] [(.int p1)])) rfl (by rw [hml]; rfl) (argsL := [(.int p1)]) (rest := []) (lenOf pd_8 rfl) rfl (by show 2 * 0 + _ ≤ _; exact Nat.le_of_eq rfl) (hb hby d30_1) (fun _ _ => ⟨rfl, e0, (by decide : 0 + 0 ≤ _), (by decide : 0 + 0 ≤ _)⟩)
  dsimp only [Pt.U, Pt.locs, Pt.cells, Pt.slots] at X1 lq1 yq1 zq1 st1 hQ1
  subst lq1 yq1 zq1
  obtain ⟨r1, hr1, rfl, N1q, e1⟩ := hQ1
  have N1 := Fr.app N0 N1q
  obtain ⟨T2, h2, ck2, X2, e2, E2, A2, st2⟩ := newP X1 hx hZ (hw _ (own_w 24 rfl)) e1 (g := (mkF m 4 #[.val (.int p1)] [(.int (Int32.ofNat (2 * n)))])) rfl (hb hby d30_4) rfl (own_x0 (by omega)) (cap := 16) (by rw [own_xN (by omega)]; omega) (by decide) (by decide) (by decide)
  obtain ⟨b2o, g2⟩ : ∃ z, z = h0.size := ⟨_, rfl⟩
  have b2 : n0 ≤ b2o := Nat.le_trans Z0 (Nat.le_of_eq g2.symm)
  have bk2 : h0.size ≤ b2o := Nat.le_trans (Keep.refl h0 []).1 (Nat.le_of_eq g2.symm)
  rw [← g2] at A2 st2
  have Z2 : n0 ≤ h2.size := Nat.le_trans Z0 E2.1
  have K2 : Keep h0 h2 [] := (Keep.refl h0 []).ext E2
  have V2 : Arv Z h2 b2o ck2 .byte (Int32.ofNat (2 * n)) (List.replicate (2 * n) (.int (0 : Int32))) (.int (0 : Int32)) := (Arv.new A2 (own_x0 (by omega))).pad (pad_rep [] (.int (0 : Int32)) (2 * n))
  obtain ⟨fs, hr, hrun, hended, hW, hsame⟩ := X2.leave (v := some (.ref b2o)) (fun h => by rw [Bd.returns] at h; cases h) (BodyLoose.notSynchronized Bd)
  refine ⟨_, _, pre0 _ ?_, hrun, hended, _, _, rfl, ?_, ⟨_, rfl⟩, hW, hsame.mono (by decide) (by decide)⟩
  · show Steps p.tables e below (s₁.setTop (mkF m 0 #[.val (.int p1)] [])) _
    refine XS.iloadN X0.here hx rfl (hb hby d30_0) rfl ?_
    refine st1 _ ?_
    show Steps p.tables e below (T1.setTop (mkF m 4 #[.val (.int p1)] [(.int r1)])) _
    rw [hr1]
    show Steps p.tables e below (T1.setTop (mkF m 4 #[.val (.int p1)] [(.int (Int32.ofNat (2 * n)))])) _
    refine st2 _ ?_
    show Steps p.tables e below (T2.setTop (mkF m 6 #[.val (.int p1)] [(.ref b2o)])) _
    exact X2.areturnOut hx rfl Bd.returns rfl (hb hby d30_6) hr
  · show QrNf Z p1 n h0 n0 _ T2.heap _
    rw [e2]
    exact ⟨b2o, _, rfl, N1, K2, b2, bk2, V2⟩
theorem pd_9 : parseMethodDescriptor "([BII)V" = some ⟨[(.array .byte), .int, .int], none⟩ := by decide +kernel
theorem d29_8 : decode jdk_52_method_14_code 8 = .ok (.iload 4, 2) := by decide +kernel
theorem d29_10 : decode jdk_52_method_14_code 10 = .ok (.iload_n 2, 1) := by decide +kernel
theorem d29_11 : decode jdk_52_method_14_code 11 = .ok (.if_icmp .ge 21, 3) := by decide +kernel
theorem d29_14 : decode jdk_52_method_14_code 14 = .ok (.aload_n 3, 1) := by decide +kernel
theorem d29_15 : decode jdk_52_method_14_code 15 = .ok (.iload 4, 2) := by decide +kernel
theorem d29_17 : decode jdk_52_method_14_code 17 = .ok (.aload_n 0, 1) := by decide +kernel
theorem d29_18 : decode jdk_52_method_14_code 18 = .ok (.iload_n 1, 1) := by decide +kernel
theorem d29_19 : decode jdk_52_method_14_code 19 = .ok (.caload, 1) := by decide +kernel
theorem d29_20 : decode jdk_52_method_14_code 20 = .ok (.invokestatic 111, 3) := by decide +kernel
theorem d29_23 : decode jdk_52_method_14_code 23 = .ok (.iinc 1 1, 3) := by decide +kernel
theorem d29_26 : decode jdk_52_method_14_code 26 = .ok (.iinc 4 1, 3) := by decide +kernel
theorem d29_29 : decode jdk_52_method_14_code 29 = .ok (.goto (-21), 3) := by decide +kernel
set_option maxRecDepth 65536 in
set_option maxHeartbeats 40000000 in
theorem own_tb {p : Program} {l : Launch} {e : Env} {R : Room} {s : State} {m : MethodId} {args : Array Value} {below : List Frame} {meth : Method} {c : Code} {cells slots : Nat} {Z : State} {a0 : Array Value} {n0 : Nat} {cs : List Int32} {a1 dd : Addr} {ka kd : ClassId} (hRf : 4 ≤ R.frames) (hRl : 100 ≤ R.locals) (hRc : cells ≤ R.cells) (hRs : slots ≤ R.slots) (hx : p.tables.exec = Jvm.exec) (hZ : Z.Warmed39 s.vm) (hw : ∀ d ∈ tables_1, d.before a0 Z = true) (hby : c.code = jdk_52_method_14_code) (hml : c.maxLocals = 5) (hown : s.vm.findClass "java/lang/StringUTF16" = some m.cls) (hL : cs.length < 8) (O_A : Sta Z Z.heap "java/lang/StringUTF16" "$assertionsDisabled" "Z" (.int (1 : Int32))) (O_H : Sta Z Z.heap "java/lang/StringUTF16" "HI_BYTE_SHIFT" "I" (.int (0 : Int32))) (O_W : Sta Z Z.heap "java/lang/StringUTF16" "LO_BYTE_SHIFT" "I" (.int (8 : Int32))) (nad : a1 ≠ dd) (gd : n0 ≤ dd) (f : Nat) :
    ∀ (i : Nat), i + f = cs.length → ∀ (T0 : State) (h : Heap) (L0 : List Loc), Stand p l e R s m args below meth c T0 L0 cells slots → T0.heap = h → Fr n0 L0 → n0 ≤ h.size → Old Z n0 h → Arv Z h a1 ka .char (Int32.ofNat cs.length) (cs.map Value.int) (.int (0 : Int32)) → Arv Z h dd kd .byte (Int32.ofNat (2 * cs.length)) (own_mix2 (.int (0 : Int32)) cs i) (.int (0 : Int32)) →
    ∃ (T' : State) (h' : Heap) (L' : List Loc), Stand p l e R s m args below meth c T' L' cells slots ∧ T'.heap = h' ∧ Fr n0 L' ∧ n0 ≤ h'.size ∧ Keep h h' [dd] ∧ Arv Z h' dd kd .byte (Int32.ofNat (2 * cs.length)) (own_utf cs) (.int (0 : Int32)) ∧ ∀ target, Steps p.tables e below (T'.setTop (mkF m 32 #[.val (.ref a1), .val (.int (Int32.ofNat cs.length)), .val (.int (Int32.ofNat cs.length)), .val (.ref dd), .val (.int (Int32.ofNat cs.length))] [])) target → Steps p.tables e below (T0.setTop (mkF m 8 #[.val (.ref a1), .val (.int (Int32.ofNat i)), .val (.int (Int32.ofNat cs.length)), .val (.ref dd), .val (.int (Int32.ofNat i))] [])) target := by
  induction f with
  | zero =>
    intro i hin T0 h L0 X0 e0 N0 Z0 X00 AC AD
    have hie : cs.length = i := by omega
    refine ⟨T0, _, _, X0, e0, N0, Z0, Keep.refl _ _, by have q := AD; rw [← hie] at q; rw [← own_mix2E (.int (0 : Int32)) cs]; exact q, fun target kt => ?_⟩
    have kq : Steps p.tables e below (T0.setTop (mkF m 32 #[.val (.ref a1), .val (.int (Int32.ofNat i)), .val (.int (Int32.ofNat cs.length)), .val (.ref dd), .val (.int (Int32.ofNat i))] [])) target := by rw [← hie]; exact kt
    show Steps p.tables e below (T0.setTop (mkF m 8 #[.val (.ref a1), .val (.int (Int32.ofNat i)), .val (.int (Int32.ofNat cs.length)), .val (.ref dd), .val (.int (Int32.ofNat i))] [])) _
    refine XS.iload X0.here hx rfl (hb hby d29_8) rfl ?_
    refine XS.iloadN X0.here hx rfl (hb hby d29_10) rfl ?_
    refine XS.icmpYes X0.here hx rfl (pc0 := 11) (pc' := 32) rfl (hb hby d29_11) rfl (flt (by rw [hie]; exact fun w => absurd ((own_xlt (by omega) (by omega)).mp w) (Nat.lt_irrefl _))).2.1 (by decide) (by decide) ?_
    exact kq
  | succ f ih =>
    intro i hin T0 h L0 X0 e0 N0 Z0 X00 AC AD
    have hi : i < cs.length := by omega
    obtain ⟨cl1, Ar1, qk1, Sz1, Nn1, Hh1, Gg1⟩ := id (AC)
    have hin2 : ¬ ((Int32.ofNat i) < 0 ∨ cl1.slots.size ≤ ((Int32.ofNat i)).toNatClampNeg) := inb_of Sz1 ⟨own_x0 (by omega), (own_xlt (by omega) (by omega)).mpr hi⟩
    have hat2 : cl1.slots[((Int32.ofNat i)).toNatClampNeg]? = some (.int (cs.getD i 0)) := Has.at Hh1 hin2 (by rw [own_xN (by omega)]; exact own_chat hi)
    obtain ⟨_, _, ⟨T3, Lq3, kq3, nq3⟩, -, X3, ⟨Lc3, hQ3, lq3, yq3, zq3⟩, st3⟩ := Jvm.LawKit.callS X0 hx (y := (⟨"java/lang/StringUTF16", "putChar", "([BII)V"⟩ : MethodName)) hown (mvT hZ (hw _ (own_w 144 rfl))) (mvT hZ (hw _ (own_w 145 rfl))) (mvT hZ (hw _ (own_w 60 rfl))) (mvT hZ (hw _ (own_w 146 rfl))) (by decide) (backOf (W := 0) (rPc l Z a0 hw [] dd (Int32.ofNat i) (cs.getD i 0) kd cs.length (own_mix2 (.int (0 : Int32)) cs i) i h n0 Z0 X00 O_A O_H O_W AD rfl hi hL (own_mix2L _ cs i) gd) hZ (hw _ (own_w 146 rfl)) (hw _ (own_w 60 rfl)) (Nat.le_trans (by decide) hRf) (Nat.le_trans (by decide) hRl)) (g := (mkF m 20 #[.val (.ref a1), .val (.int (Int32.ofNat i)), .val (.int (Int32.ofNat cs.length)), .val (.ref dd), .val (.int (Int32.ofNat i))] [(.int (cs.getD i 0)), (.int (Int32.ofNat i)), (.ref dd)])) rfl (by rw [hml]; rfl) (argsL := [(.ref dd), (.int (Int32.ofNat i)), (.int (cs.getD i 0))]) (rest := []) (lenOf pd_9 rfl) rfl (by show 2 * 0 + _ ≤ _; exact Nat.le_of_eq rfl) (hb hby d29_20) (fun _ _ => ⟨rfl, e0, hRc, hRs⟩)
    dsimp only [Pt.U, Pt.locs, Pt.cells, Pt.slots] at X3 lq3 yq3 zq3 st3 hQ3
    subst lq3 yq3 zq3
    obtain ⟨rfl, N3q, KC3, V3⟩ := hQ3
    have N3 := Fr.app N0 N3q
    have Z3 : n0 ≤ T3.heap.size := Nat.le_trans Z0 KC3.1
    rw [own_mix2S _ cs i hi] at V3
    have f4 := (X00.keep KC3 (allS gd all0))
    have f5 := (AC.keep KC3 (ninS nad nin0))
    obtain ⟨T', h', L', X', e', N', Z', K', A', st'⟩ := ih (i + 1) (by omega) T3 _ _ X3 rfl N3 Z3 f4 f5 V3
    refine ⟨T', h', L', X', e', N', Z', KC3.trans K' (allS (Or.inl (own_w 0 rfl)) all0), A', fun target kt => ?_⟩
    have kq := st' target kt
    rw [← own_xs (show i < 16 by omega)] at kq
    show Steps p.tables e below (T0.setTop (mkF m 8 #[.val (.ref a1), .val (.int (Int32.ofNat i)), .val (.int (Int32.ofNat cs.length)), .val (.ref dd), .val (.int (Int32.ofNat i))] [])) _
    refine XS.iload X0.here hx rfl (hb hby d29_8) rfl ?_
    refine XS.iloadN X0.here hx rfl (hb hby d29_10) rfl ?_
    refine XS.icmpNo X0.here hx rfl (hb hby d29_11) rfl (tlt ((own_xlt (by omega) (by omega)).mpr hi)).2.1 ?_
    refine XS.aloadN X0.here hx rfl (hb hby d29_14) rfl rfl ?_
    refine XS.iload X0.here hx rfl (hb hby d29_15) rfl ?_
    refine XS.aloadN X0.here hx rfl (hb hby d29_17) rfl rfl ?_
    refine XS.iloadN X0.here hx rfl (hb hby d29_18) rfl ?_
    refine X0.caload hx (j := (Int32.ofNat i)) (v := (.int (cs.getD i 0))) (by rw [e0]; exact Ar1.1) (State.isArrayOf_alike hZ.alike Ar1.2.1) Ar1.2.2 hin2 hat2 (g := (mkF m 19 #[.val (.ref a1), .val (.int (Int32.ofNat i)), .val (.int (Int32.ofNat cs.length)), .val (.ref dd), .val (.int (Int32.ofNat i))] [(.int (Int32.ofNat i)), (.ref a1), (.int (Int32.ofNat i)), (.ref dd)])) rfl rfl (hb hby d29_19) _ ?_
    refine st3 _ ?_
    refine XS.iinc X3.here hx rfl (hb hby d29_23) rfl (l' := #[.val (.ref a1), .val (.int ((Int32.ofNat i) + (1 : Int32))), .val (.int (Int32.ofNat cs.length)), .val (.ref dd), .val (.int (Int32.ofNat i))]) rfl ?_
    refine XS.iinc X3.here hx rfl (hb hby d29_26) rfl (l' := #[.val (.ref a1), .val (.int ((Int32.ofNat i) + (1 : Int32))), .val (.int (Int32.ofNat cs.length)), .val (.ref dd), .val (.int ((Int32.ofNat i) + (1 : Int32)))]) rfl ?_
    refine XS.goto X3.here hx rfl (pc0 := 29) (pc' := 8) rfl (hb hby d29_29) (by decide) (by decide) ?_
    exact kq
theorem pd_10 : parseMethodDescriptor "(I)[B" = some ⟨[.int], some (.array .byte)⟩ := by decide +kernel
theorem d29_0 : decode jdk_52_method_14_code 0 = .ok (.iload_n 2, 1) := by decide +kernel
theorem d29_1 : decode jdk_52_method_14_code 1 = .ok (.invokestatic 107, 3) := by decide +kernel
theorem d29_4 : decode jdk_52_method_14_code 4 = .ok (.astore_n 3, 1) := by decide +kernel
theorem d29_5 : decode jdk_52_method_14_code 5 = .ok (.iconst 0, 1) := by decide +kernel
theorem d29_6 : decode jdk_52_method_14_code 6 = .ok (.istore 4, 2) := by decide +kernel
theorem d29_32 : decode jdk_52_method_14_code 32 = .ok (.aload_n 3, 1) := by decide +kernel
theorem d29_33 : decode jdk_52_method_14_code 33 = .ok (.areturn, 1) := by decide +kernel
theorem pn_29 : plainName "java/lang/StringUTF16" = true := by first | (simp [plainName, overriddenIn]; done) | decide +kernel
theorem ef_rTb (m : MethodId) (a1 : Addr) (p3 : Int32) : entryFrame m #[(.ref a1), (.int (0 : Int32)), (.int p3)] 5 = mkF m 0 #[.val (.ref a1), .val (.int (0 : Int32)), .val (.int p3), .unset, .unset] [] := by first | (simp [entryFrame, mkF, argsToLocals, Value.category]; done) | rfl
def QrTb (Z : State) (a1 : Addr) (p3 : Int32) (cs : List Int32) (ka : ClassId) (h0 : Heap) (n0 : Nat) (v : Option Value) (h : Heap) (L : List Loc) : Prop := ∃ (o : Addr) (ok : ClassId), v = some (.ref o) ∧ Fr n0 L ∧ Keep h0 h [] ∧ n0 ≤ o ∧ h0.size ≤ o ∧ Arv Z h o ok .byte (Int32.ofNat (2 * cs.length)) (own_utf cs) (.int (0 : Int32))
set_option maxRecDepth 65536 in
set_option maxHeartbeats 40000000 in
theorem rTb (l : Launch) (Z : State) (a0 : Array Value) (hw : ∀ d ∈ tables_1, d.before a0 Z = true) (ws : List Jvm.Cond) (a1 : Addr) (p3 : Int32) (cs : List Int32) (ka : ClassId) (h0 : Heap) (n0 : Nat) (Z0 : n0 ≤ h0.size) (X00 : Old Z n0 h0) (O_A : Sta Z Z.heap "java/lang/StringUTF16" "$assertionsDisabled" "Z" (.int (1 : Int32))) (O_H : Sta Z Z.heap "java/lang/StringUTF16" "HI_BYTE_SHIFT" "I" (.int (0 : Int32))) (O_W : Sta Z Z.heap "java/lang/StringUTF16" "LO_BYTE_SHIFT" "I" (.int (8 : Int32))) (AC : Arv Z h0 a1 ka .char (Int32.ofNat cs.length) (cs.map Value.int) (.int (0 : Int32))) (hp : p3 = Int32.ofNat cs.length) (hL : cs.length < 8) :
    MetFree l (⟨"java/lang/StringUTF16", "toBytes", "([CII)[B"⟩ : MethodName) (head1 (Jvm.Cond.code (⟨"java/lang/StringUTF16", "toBytes", "([CII)[B"⟩ : MethodName) jdk_52_method_14_code 5 (some (.array .byte)) :: ws) ({ frames := 4, cells := 1, slots := 16, locals := 100 } : Room)) (fun a U => a = #[(.ref a1), (.int (0 : Int32)), (.int p3)] ∧ Z.Warmed39 U.vm ∧ U.heap = h0) (fun _ _ _ _ _ => True) (fun _ U o U' => ∃ v L, o = .returned v ∧ QrTb Z a1 p3 cs ka h0 n0 v U'.heap L ∧ FrameEnd U o U' L ({ frames := 4, cells := 1, slots := 16, locals := 100 } : Room).cells ({ frames := 4, cells := 1, slots := 16, locals := 100 } : Room).slots) := by
  refine MetFree.of_bodySF (plainFor_of_name pn_29) hisR ?_
  intro p e s m args below meth c s₁ Bd hml0 hP hK
  obtain ⟨rfl, hZ, hh⟩ := hP
  have hx := Bd.exec
  have hby := Bd.bytes
  have hml : c.maxLocals = 5 := hml0
  have hown : s.vm.findClass "java/lang/StringUTF16" = some m.cls := findClass_of_methodNamed Bd.named
  have hnm := (name_of_methodNamed Bd.named Bd.method).1
  have X0 : Stand p l e ({ frames := 4, cells := 1, slots := 16, locals := 100 } : Room) s m #[(.ref a1), (.int (0 : Int32)), (.int p3)] below meth c s₁ [] 0 0 := Stand.of_body Bd
  have e0 : s₁.heap = h0 := by rw [← hh, Bd.state]; rfl
  have N0 := Fr.nil n0
  have pre0 : ∀ t, Steps p.tables e below (s₁.setTop (mkF m 0 #[.val (.ref a1), .val (.int (0 : Int32)), .val (.int p3), .unset, .unset] [])) t → Steps p.tables e below (s₁.setTop (entryFrame m #[(.ref a1), (.int (0 : Int32)), (.int p3)] 5)) t := fun t k => castTop (ef_rTb m a1 p3) k
  obtain ⟨_, _, ⟨T1, Lq1, kq1, nq1⟩, -, X1, ⟨Lc1, hQ1, lq1, yq1, zq1⟩, st1⟩ := Jvm.LawKit.callS X0 hx (y := (⟨"java/lang/StringUTF16", "newBytesFor", "(I)[B"⟩ : MethodName)) hown (mvT hZ (hw _ (own_w 137 rfl))) (mvT hZ (hw _ (own_w 138 rfl))) (mvT hZ (hw _ (own_w 60 rfl))) (mvT hZ (hw _ (own_w 139 rfl))) (by decide) (backOf (W := 0) (rNf l Z a0 hw [] p3 cs.length h0 n0 Z0 hp hL) hZ (hw _ (own_w 139 rfl)) (hw _ (own_w 60 rfl)) (by decide) (by decide)) (g := (mkF m 1 #[.val (.ref a1), .val (.int (0 : Int32)), .val (.int p3), .unset, .unset] [(.int p3)])) rfl (by rw [hml]; rfl) (argsL := [(.int p3)]) (rest := []) (lenOf pd_10 rfl) rfl (by show 2 * 0 + _ ≤ _; exact Nat.le_of_eq rfl) (hb hby d29_1) (fun _ _ => ⟨rfl, e0, (by decide : 0 + 1 ≤ _), (by decide : 0 + 16 ≤ _)⟩)
  dsimp only [Pt.U, Pt.locs, Pt.cells, Pt.slots] at X1 lq1 yq1 zq1 st1 hQ1
  subst lq1 yq1 zq1
  obtain ⟨o1, ok1, rfl, N1q, KC1, go1, gk1, V1⟩ := hQ1
  have N1 := Fr.app N0 N1q
  have Z1 : n0 ≤ T1.heap.size := Nat.le_trans Z0 KC1.1
  have ne2 : a1 ≠ o1 := Nat.ne_of_lt (Nat.lt_of_lt_of_le AC.lt gk1)
  have K1 : Keep h0 T1.heap [] := (Keep.refl h0 []).trans KC1 all0
  have VM3 := V1
  rw [← own_mix20 (.int (0 : Int32)) cs] at VM3
  have f4 := (X00.keep KC1 all0)
  have f5 := (AC.keep KC1 nin0)
  obtain ⟨T3, h3, L3, X3, e3, N3, Z3, KT3, V3, st3⟩ := own_tb (by decide) (by decide) (by decide) (by decide) hx hZ hw hby hml hown hL O_A O_H O_W ne2 go1 cs.length 0 (by omega) _ _ _ X1 rfl N1 Z1 f4 f5 VM3
  have K3 : Keep h0 h3 [] := K1.trans KT3 (allS (Or.inr (Nat.le_trans (Keep.refl h0 []).1 gk1)) all0)
  obtain ⟨fs, hr, hrun, hended, hW, hsame⟩ := X3.leave (v := some (.ref o1)) (fun h => by rw [Bd.returns] at h; cases h) (BodyLoose.notSynchronized Bd)
  refine ⟨_, _, pre0 _ ?_, hrun, hended, _, _, rfl, ?_, ⟨_, rfl⟩, hW, hsame.mono (by decide) (by decide)⟩
  · show Steps p.tables e below (s₁.setTop (mkF m 0 #[.val (.ref a1), .val (.int (0 : Int32)), .val (.int p3), .unset, .unset] [])) _
    refine XS.iloadN X0.here hx rfl (hb hby d29_0) rfl ?_
    refine st1 _ ?_
    refine XS.astoreN X1.here hx rfl (hb hby d29_4) rfl rfl (l' := #[.val (.ref a1), .val (.int (0 : Int32)), .val (.int p3), .val (.ref o1), .unset]) rfl ?_
    refine XS.iconst X1.here hx rfl (hb hby d29_5) ?_
    refine XS.istore X1.here hx rfl (hb hby d29_6) rfl (l' := #[.val (.ref a1), .val (.int (0 : Int32)), .val (.int p3), .val (.ref o1), .val (.int (0 : Int32))]) rfl ?_
    show Steps p.tables e below (T1.setTop (mkF m 8 #[.val (.ref a1), .val (.int (0 : Int32)), .val (.int p3), .val (.ref o1), .val (.int (0 : Int32))] [])) _
    rw [hp]
    refine st3 _ ?_
    refine XS.aloadN X3.here hx rfl (hb hby d29_32) rfl rfl ?_
    show Steps p.tables e below (T3.setTop (mkF m 33 #[.val (.ref a1), .val (.int (Int32.ofNat cs.length)), .val (.int (Int32.ofNat cs.length)), .val (.ref o1), .val (.int (Int32.ofNat cs.length))] [(.ref o1)])) _
    exact X3.areturnOut hx rfl Bd.returns rfl (hb hby d29_33) hr
  · show QrTb Z a1 p3 cs ka h0 n0 _ T3.heap _
    rw [e3]
    exact ⟨o1, _, rfl, N3, K3, go1, (Nat.le_trans (Keep.refl h0 []).1 gk1), V3⟩
theorem own_255 (c : Int32) : (255 : Int32) < c ↔ ¬ c.toInt < 256 := by
  rw [Int32.lt_iff_toInt_lt, show (255 : Int32).toInt = 255 from rfl]; omega
theorem own_small {c : Int32} (h : ¬ (255 : Int32) < c) : c.toInt < 256 := Classical.not_not.mp fun q => h ((own_255 c).mpr q)
theorem own_smS {cs : List Int32} {i : Nat} (h : ∀ k, k < i → (cs.getD k 0).toInt < 256) (q : ¬ (255 : Int32) < cs.getD i 0) : ∀ k, k < i + 1 → (cs.getD k 0).toInt < 256 := fun k hk => by
  by_cases e : k = i
  · subst e; exact own_small q
  · exact h k (by omega)
theorem own_allGet {cs : List Int32} (h : ∀ k, k < cs.length → (cs.getD k 0).toInt < 256) : ∀ c ∈ cs, c.toInt < 256 := by
  intro c hc
  obtain ⟨k, hk, e⟩ := List.mem_iff_getElem.mp hc
  have q := h k hk
  rw [List.getD_eq_getElem?_getD, List.getElem?_eq_getElem hk] at q
  rw [← e]; exact q
def own_mf (c : Int32) : Value := .int (own_b c)
theorem own_mixLat (d : Value) (cs : List Int32) : own_mix own_mf d cs cs.length = own_lat cs := own_mixE own_mf d cs
theorem own_cf0 {n : Nat} (h : n < 8) : nar .byte (((Int32.ofNat n - Int32.ofNat n).toUInt32 >>> ((31 : Int32) &&& 31).toUInt32).toInt32.toInt8.toInt32) = 0 := (by decide +kernel : ∀ n, n < 8 → nar .byte (((Int32.ofNat n - Int32.ofNat n).toUInt32 >>> ((31 : Int32) &&& 31).toUInt32).toInt32.toInt8.toInt32) = 0) n h
theorem own_cf1 {n : Nat} (h : n < 8) (h0 : 0 < n) : nar .byte (((Int32.ofNat n - Int32.ofNat (2 * n)).toUInt32 >>> ((31 : Int32) &&& 31).toUInt32).toInt32.toInt8.toInt32) = 1 := (by decide +kernel : ∀ n, n < 8 → 0 < n → nar .byte (((Int32.ofNat n - Int32.ofNat (2 * n)).toUInt32 >>> ((31 : Int32) &&& 31).toUInt32).toInt32.toInt8.toInt32) = 1) n h h0
theorem own_nb0 : nar .byte (0 : Int32) = 0 := by decide +kernel
theorem own_nb1 : nar .byte (1 : Int32) = 1 := by decide +kernel
theorem own_xne {n : Nat} (h : n < 16) (h0 : 0 < n) : ¬ Int32.ofNat n = (0 : Int32) := fun e => absurd ((own_xeq h (by omega : 0 < 16)).mp e) (by omega)
theorem own_off {n b m : Nat} (hn : n < 8) (h : b + m ≤ n) : ¬ ((Int32.ofNat n ||| Int32.ofNat b) ||| Int32.ofNat m) < (0 : Int32) ∧ ¬ (Int32.ofNat n - Int32.ofNat b) < Int32.ofNat m :=
  (by decide +kernel : ∀ n, n < 8 → ∀ b, b < 8 → ∀ m, m < 8 → b + m ≤ n → ¬ ((Int32.ofNat n ||| Int32.ofNat b) ||| Int32.ofNat m) < (0 : Int32) ∧ ¬ (Int32.ofNat n - Int32.ofNat b) < Int32.ofNat m) n hn b (by omega) m (by omega) h
theorem own_xle {a b : Nat} (hb : b < 16) (h : a ≤ b) : ¬ Int32.ofNat b < Int32.ofNat a := fun q => absurd ((own_xlt hb (by omega)).mp q) (by omega)
theorem own_xsubw {f w : Nat} (h : f + w < 16) : Int32.ofNat (f + w) - Int32.ofNat f = Int32.ofNat w := by rw [own_xsub h (by omega)]; congr 1; omega
theorem own_xmin {a b : Nat} (hb : b < 16) (h : a ≤ b) : (if Int32.ofNat a < Int32.ofNat b then Int32.ofNat a else Int32.ofNat b) = Int32.ofNat a := by
  by_cases e : a = b
  · subst e; simp
  · rw [if_pos ((own_xlt (by omega) hb).mpr (by omega))]
theorem own_cpL {m : Nat} (hm : m < 16) (d : Value) (us : List Value) : (List.replicate m d).take (0 : Int32).toNatClampNeg ++ us ++ (List.replicate m d).drop ((0 : Int32).toNatClampNeg + (Int32.ofNat m).toNatClampNeg) = us := by
  rw [own_xN hm, show (0 : Int32).toNatClampNeg = 0 from by decide]; simp
-- a stretch of a text, by its first place
def own_sub (cs : List Int32) (b : Nat) (ct : List Int32) : Prop := b + ct.length ≤ cs.length ∧ own_cut cs b ct.length = ct
theorem own_subGet {cs ct : List Int32} {b i : Nat} (h : own_sub cs b ct) (hi : i < ct.length) : ct.getD i 0 = cs.getD (b + i) 0 := by
  have q := own_cutAt (cs := cs) (b := b) hi
  rw [h.2] at q; exact q
theorem own_subLat {cs ct : List Int32} {b : Nat} (h : own_sub cs b ct) (d : Value) : (List.range ct.length).map (fun i => (own_lat cs).getD (b + i) d) = own_lat ct := by
  have q := own_latR h.1 d
  rw [h.2] at q; exact q
theorem own_subUtf {cs ct : List Int32} {b : Nat} (h : own_sub cs b ct) (d : Value) : (List.range (2 * ct.length)).map (fun i => (own_utf cs).getD (2 * b + i) d) = own_utf ct := by
  have q := own_utfR h.1 d
  rw [h.2] at q; exact q
theorem own_subCh {cs ct : List Int32} {b : Nat} (h : own_sub cs b ct) (hc : ∀ c ∈ cs, own_ch c) : ∀ c ∈ ct, own_ch c := by
  have q := own_cutCh hc b ct.length
  rw [h.2] at q; exact q
theorem own_subLt {cs ct : List Int32} {b : Nat} (h : own_sub cs b ct) (hc : ∀ c ∈ cs, c.toInt < 256) : ∀ c ∈ ct, c.toInt < 256 := by
  intro c q
  rw [← h.2] at q
  exact hc c (List.mem_of_mem_drop (List.mem_of_mem_take q))
theorem own_subAll {cs ct : List Int32} {b : Nat} (h : own_sub cs b ct) (h0 : b = 0) (hn : b + ct.length = cs.length) : ct = cs := by
  have q := h.2
  subst h0
  have e : ct.length = cs.length := by omega
  rw [e] at q; simpa [own_cut] using q.symm
theorem own_gchar (x : Int32) : own_ch (nar .char x) := by
  have e : nar .char x = x.toUInt32.toUInt16.toUInt32.toInt32 := rfl
  rw [e]; have a := c_i2c x; unfold own_ch; omega
theorem own_Sexa {Z : State} {h : Heap} {sr : Addr} {cs : List Int32} (S : own_S Z h sr cs) : Exa Z h sr "java/lang/String" := by
  obtain ⟨_, _, a, _, _⟩ := S
  exact a
theorem own_nil : ∀ c ∈ ([] : List Int32), own_ch c := fun c hc => by cases hc
theorem own_cons {a : Int32} {l : List Int32} (h : own_ch a) (t : ∀ c ∈ l, own_ch c) : ∀ c ∈ a :: l, own_ch c := fun c hc => by
  rcases List.mem_cons.mp hc with rfl | q
  · exact h
  · exact t c q

theorem d12_3 : decode jdk_52_method_21_code 3 = .ok (.iload 5, 2) := by decide +kernel
theorem d12_5 : decode jdk_52_method_21_code 5 = .ok (.iload 4, 2) := by decide +kernel
theorem d12_7 : decode jdk_52_method_21_code 7 = .ok (.if_icmp .ge 37, 3) := by decide +kernel
theorem d12_10 : decode jdk_52_method_21_code 10 = .ok (.aload_n 0, 1) := by decide +kernel
theorem d12_11 : decode jdk_52_method_21_code 11 = .ok (.iload_n 1, 1) := by decide +kernel
theorem d12_12 : decode jdk_52_method_21_code 12 = .ok (.caload, 1) := by decide +kernel
theorem d12_13 : decode jdk_52_method_21_code 13 = .ok (.istore 6, 2) := by decide +kernel
theorem d12_15 : decode jdk_52_method_21_code 15 = .ok (.iload 6, 2) := by decide +kernel
theorem d12_17 : decode jdk_52_method_21_code 17 = .ok (.sipush 255, 3) := by decide +kernel
theorem d12_20 : decode jdk_52_method_21_code 20 = .ok (.if_icmp .le 6, 3) := by decide +kernel
theorem d12_26 : decode jdk_52_method_21_code 26 = .ok (.aload_n 2, 1) := by decide +kernel
theorem d12_27 : decode jdk_52_method_21_code 27 = .ok (.iload_n 3, 1) := by decide +kernel
theorem d12_28 : decode jdk_52_method_21_code 28 = .ok (.iload 6, 2) := by decide +kernel
theorem d12_30 : decode jdk_52_method_21_code 30 = .ok (.i2b, 1) := by decide +kernel
theorem d12_31 : decode jdk_52_method_21_code 31 = .ok (.bastore, 1) := by decide +kernel
theorem d12_32 : decode jdk_52_method_21_code 32 = .ok (.iinc 1 1, 3) := by decide +kernel
theorem d12_35 : decode jdk_52_method_21_code 35 = .ok (.iinc 3 1, 3) := by decide +kernel
theorem d12_38 : decode jdk_52_method_21_code 38 = .ok (.iinc 5 1, 3) := by decide +kernel
theorem d12_41 : decode jdk_52_method_21_code 41 = .ok (.goto (-38), 3) := by decide +kernel
set_option maxRecDepth 65536 in
set_option maxHeartbeats 40000000 in
theorem own_cl {p : Program} {l : Launch} {e : Env} {R : Room} {s : State} {m : MethodId} {args : Array Value} {below : List Frame} {meth : Method} {c : Code} {cells slots : Nat} {Z : State} {a0 : Array Value} {n0 : Nat} {cs : List Int32} {a1 dd : Addr} {ka kd : ClassId}  (hRf : 0 ≤ R.frames) (hRl : 0 ≤ R.locals) (hRc : cells ≤ R.cells) (hRs : slots ≤ R.slots) (hx : p.tables.exec = Jvm.exec) (hZ : Z.Warmed39 s.vm) (hw : ∀ d ∈ tables_1, d.before a0 Z = true) (hby : c.code = jdk_52_method_21_code) (hml : c.maxLocals = 7) (hown : s.vm.findClass "java/lang/StringUTF16" = some m.cls) (hL : cs.length < 8)  (nad : a1 ≠ dd) (gd : n0 ≤ dd) (f : Nat) :
    ∀ (i : Nat), i + f = cs.length → (∀ k, k < i → (cs.getD k 0).toInt < 256) → ∀ (x6 : Slot), (x6 = .unset ∨ ∃ z : Int32, x6 = .val (.int z)) → ∀ (T0 : State) (h0 : Heap) (L0 : List Loc), Stand p l e R s m args below meth c T0 L0 cells slots → T0.heap = h0 → Fr n0 L0 → n0 ≤ h0.size → Arv Z h0 a1 ka .char (Int32.ofNat cs.length) (cs.map Value.int) (.int (0 : Int32)) → Arv Z h0 dd kd .byte (Int32.ofNat cs.length) (own_mix own_mf (.int (0 : Int32)) cs i) (.int (0 : Int32)) →
    ∃ (T' : State) (h' : Heap) (L' : List Loc) (j pc : Nat) (y6 : Slot), Stand p l e R s m args below meth c T' L' cells slots ∧ T'.heap = h' ∧ Fr n0 L' ∧ n0 ≤ h'.size ∧ Keep h0 h' [dd] ∧ Arv Z h' dd kd .byte (Int32.ofNat cs.length) (own_mix own_mf (.int (0 : Int32)) cs j) (.int (0 : Int32)) ∧ ((j = cs.length ∧ pc = 44 ∧ ∀ c ∈ cs, c.toInt < 256) ∨ (j < cs.length ∧ pc = 23 ∧ ¬ (cs.getD j 0).toInt < 256)) ∧ ∀ target, Steps p.tables e below (T'.setTop (mkF m pc #[.val (.ref a1), .val (.int (Int32.ofNat j)), .val (.ref dd), .val (.int (Int32.ofNat j)), .val (.int (Int32.ofNat cs.length)), .val (.int (Int32.ofNat j)), y6] [])) target → Steps p.tables e below (T0.setTop (mkF m 3 #[.val (.ref a1), .val (.int (Int32.ofNat i)), .val (.ref dd), .val (.int (Int32.ofNat i)), .val (.int (Int32.ofNat cs.length)), .val (.int (Int32.ofNat i)), x6] [])) target := by
  induction f with
  | zero =>
    intro i hin hsm x6 hx6 T0 h0 L0 X0 e0 N0 Z0 AC AD
    have hie : cs.length = i := by omega
    refine ⟨T0, _, _, i, 44, (x6), X0, e0, N0, Z0, Keep.refl _ _, AD, Or.inl ⟨hie.symm, rfl, own_allGet (by rw [hie]; exact hsm)⟩, fun target kt => ?_⟩
    refine XS.iload X0.here hx rfl (hb hby d12_3) rfl ?_
    refine XS.iload X0.here hx rfl (hb hby d12_5) rfl ?_
    refine XS.icmpYes X0.here hx rfl (pc0 := 7) (pc' := 44) rfl (hb hby d12_7) rfl (flt (by rw [hie]; exact fun w => absurd ((own_xlt (by omega) (by omega)).mp w) (Nat.lt_irrefl _))).2.1 (by decide) (by decide) ?_
    exact kt
  | succ f ih =>
    intro i hin hsm x6 hx6 T0 h0 L0 X0 e0 N0 Z0 AC AD
    have hi : i < cs.length := by omega
    rcases hx6 with rfl | ⟨z6, rfl⟩
    · skip
      obtain ⟨cl1, Ar1, qk1, Sz1, Nn1, Hh1, Gg1⟩ := id (AC)
      have hin2 : ¬ ((Int32.ofNat i) < 0 ∨ cl1.slots.size ≤ ((Int32.ofNat i)).toNatClampNeg) := inb_of Sz1 ⟨own_x0 (by omega), (own_xlt (by omega) (by omega)).mpr hi⟩
      have hat2 : cl1.slots[((Int32.ofNat i)).toNatClampNeg]? = some (.int (cs.getD i 0)) := Has.at Hh1 hin2 (by rw [own_xN (by omega)]; exact own_chat hi)
      by_cases hc20 : (255 : Int32) < (cs.getD i 0)
      · refine ⟨T0, _, _, i, 23, (.val (.int (cs.getD i 0))), X0, e0, N0, Z0, Keep.refl _ _, AD, Or.inr ⟨hi, rfl, (own_255 _).mp hc20⟩, fun target kt => ?_⟩
        show Steps p.tables e below (T0.setTop (mkF m 3 #[.val (.ref a1), .val (.int (Int32.ofNat i)), .val (.ref dd), .val (.int (Int32.ofNat i)), .val (.int (Int32.ofNat cs.length)), .val (.int (Int32.ofNat i)), .unset] [])) _
        refine XS.iload X0.here hx rfl (hb hby d12_3) rfl ?_
        refine XS.iload X0.here hx rfl (hb hby d12_5) rfl ?_
        refine XS.icmpNo X0.here hx rfl (hb hby d12_7) rfl (tlt ((own_xlt (by omega) (by omega)).mpr hi)).2.1 ?_
        refine XS.aloadN X0.here hx rfl (hb hby d12_10) rfl rfl ?_
        refine XS.iloadN X0.here hx rfl (hb hby d12_11) rfl ?_
        refine X0.caload hx (j := (Int32.ofNat i)) (v := (.int (cs.getD i 0))) (by rw [e0]; exact Ar1.1) (State.isArrayOf_alike hZ.alike Ar1.2.1) Ar1.2.2 hin2 hat2 (g := (mkF m 12 #[.val (.ref a1), .val (.int (Int32.ofNat i)), .val (.ref dd), .val (.int (Int32.ofNat i)), .val (.int (Int32.ofNat cs.length)), .val (.int (Int32.ofNat i)), .unset] [(.int (Int32.ofNat i)), (.ref a1)])) rfl rfl (hb hby d12_12) _ ?_
        refine XS.istore X0.here hx rfl (hb hby d12_13) rfl (l' := #[.val (.ref a1), .val (.int (Int32.ofNat i)), .val (.ref dd), .val (.int (Int32.ofNat i)), .val (.int (Int32.ofNat cs.length)), .val (.int (Int32.ofNat i)), .val (.int (cs.getD i 0))]) rfl ?_
        refine XS.iload X0.here hx rfl (hb hby d12_15) rfl ?_
        refine XS.sipush X0.here hx rfl (hb hby d12_17) ?_
        refine XS.icmpNo X0.here hx rfl (hb hby d12_20) rfl (tlt hc20).2.2.2 ?_
        exact kt
      · obtain ⟨cl3, Ar3, qk3, Sz3, Nn3, Hh3, Gg3⟩ := id (AD)
        have hin4 : ¬ ((Int32.ofNat i) < 0 ∨ cl3.slots.size ≤ ((Int32.ofNat i)).toNatClampNeg) := inb_of Sz3 ⟨own_x0 (by omega), (own_xlt (by omega) (by omega)).mpr hi⟩
        obtain ⟨T4, h4, X4, e4, W4, st4⟩ := stB X0 hx hZ e0 Ar3 (j := (Int32.ofNat i)) hin4 (g := (mkF m 31 #[.val (.ref a1), .val (.int (Int32.ofNat i)), .val (.ref dd), .val (.int (Int32.ofNat i)), .val (.int (Int32.ofNat cs.length)), .val (.int (Int32.ofNat i)), .val (.int (cs.getD i 0))] [(.int ((cs.getD i 0).toInt8.toInt32)), (.int (Int32.ofNat i)), (.ref dd)])) rfl rfl (hb hby d12_31)
        have N4 := Fr.snoc X4 N0 gd
        have Z4 : n0 ≤ h4.size := by rw [W4.size]; exact Z0
        have K4 : Keep h0 h4 [dd] := (Keep.refl h0 [dd]).wr W4 (Or.inl (own_w 0 rfl))
        have V4 : Arv Z h4 dd kd .byte (Int32.ofNat cs.length) (own_mix own_mf (.int (0 : Int32)) cs (i + 1)) (.int (0 : Int32)) := by
          have q := Arv.set Ar3 qk3 Sz3 Nn3 Hh3 Gg3 (fits_nar_byte _) W4 (i) (own_xN (by omega)) (by rw [own_mixL]; exact hi)
          rw [← own_mixS own_mf (.int (0 : Int32)) cs i hi]; exact q
        have f5 := (AC.other W4 nad)
        obtain ⟨T', h', L', j', pc', y', X', e', N', Z', K', A', hj', st'⟩ := ih (i + 1) (by omega) (own_smS hsm hc20) (.val (.int (cs.getD i 0))) (Or.inr ⟨_, rfl⟩) T4 _ _ X4 e4 N4 Z4  f5 V4
        refine ⟨T', h', L', j', pc', y', X', e', N', Z', K4.trans K' (allS (Or.inl (own_w 0 rfl)) all0), A', hj', fun target kt => ?_⟩
        have kq := st' target kt
        rw [← own_xs (show i < 16 by omega)] at kq
        show Steps p.tables e below (T0.setTop (mkF m 3 #[.val (.ref a1), .val (.int (Int32.ofNat i)), .val (.ref dd), .val (.int (Int32.ofNat i)), .val (.int (Int32.ofNat cs.length)), .val (.int (Int32.ofNat i)), .unset] [])) _
        refine XS.iload X0.here hx rfl (hb hby d12_3) rfl ?_
        refine XS.iload X0.here hx rfl (hb hby d12_5) rfl ?_
        refine XS.icmpNo X0.here hx rfl (hb hby d12_7) rfl (tlt ((own_xlt (by omega) (by omega)).mpr hi)).2.1 ?_
        refine XS.aloadN X0.here hx rfl (hb hby d12_10) rfl rfl ?_
        refine XS.iloadN X0.here hx rfl (hb hby d12_11) rfl ?_
        refine X0.caload hx (j := (Int32.ofNat i)) (v := (.int (cs.getD i 0))) (by rw [e0]; exact Ar1.1) (State.isArrayOf_alike hZ.alike Ar1.2.1) Ar1.2.2 hin2 hat2 (g := (mkF m 12 #[.val (.ref a1), .val (.int (Int32.ofNat i)), .val (.ref dd), .val (.int (Int32.ofNat i)), .val (.int (Int32.ofNat cs.length)), .val (.int (Int32.ofNat i)), .unset] [(.int (Int32.ofNat i)), (.ref a1)])) rfl rfl (hb hby d12_12) _ ?_
        refine XS.istore X0.here hx rfl (hb hby d12_13) rfl (l' := #[.val (.ref a1), .val (.int (Int32.ofNat i)), .val (.ref dd), .val (.int (Int32.ofNat i)), .val (.int (Int32.ofNat cs.length)), .val (.int (Int32.ofNat i)), .val (.int (cs.getD i 0))]) rfl ?_
        refine XS.iload X0.here hx rfl (hb hby d12_15) rfl ?_
        refine XS.sipush X0.here hx rfl (hb hby d12_17) ?_
        refine XS.icmpYes X0.here hx rfl (pc0 := 20) (pc' := 26) rfl (hb hby d12_20) rfl (flt hc20).2.2.2 (by decide) (by decide) ?_
        refine XS.aloadN X0.here hx rfl (hb hby d12_26) rfl rfl ?_
        refine XS.iloadN X0.here hx rfl (hb hby d12_27) rfl ?_
        refine XS.iload X0.here hx rfl (hb hby d12_28) rfl ?_
        refine XS.i2b X0.here hx rfl (hb hby d12_30) rfl ?_
        refine st4 _ ?_
        refine XS.iinc X4.here hx rfl (hb hby d12_32) rfl (l' := #[.val (.ref a1), .val (.int ((Int32.ofNat i) + (1 : Int32))), .val (.ref dd), .val (.int (Int32.ofNat i)), .val (.int (Int32.ofNat cs.length)), .val (.int (Int32.ofNat i)), .val (.int (cs.getD i 0))]) rfl ?_
        refine XS.iinc X4.here hx rfl (hb hby d12_35) rfl (l' := #[.val (.ref a1), .val (.int ((Int32.ofNat i) + (1 : Int32))), .val (.ref dd), .val (.int ((Int32.ofNat i) + (1 : Int32))), .val (.int (Int32.ofNat cs.length)), .val (.int (Int32.ofNat i)), .val (.int (cs.getD i 0))]) rfl ?_
        refine XS.iinc X4.here hx rfl (hb hby d12_38) rfl (l' := #[.val (.ref a1), .val (.int ((Int32.ofNat i) + (1 : Int32))), .val (.ref dd), .val (.int ((Int32.ofNat i) + (1 : Int32))), .val (.int (Int32.ofNat cs.length)), .val (.int ((Int32.ofNat i) + (1 : Int32))), .val (.int (cs.getD i 0))]) rfl ?_
        refine XS.goto X4.here hx rfl (pc0 := 41) (pc' := 3) rfl (hb hby d12_41) (by decide) (by decide) ?_
        exact kq
    · skip
      obtain ⟨cl1, Ar1, qk1, Sz1, Nn1, Hh1, Gg1⟩ := id (AC)
      have hin2 : ¬ ((Int32.ofNat i) < 0 ∨ cl1.slots.size ≤ ((Int32.ofNat i)).toNatClampNeg) := inb_of Sz1 ⟨own_x0 (by omega), (own_xlt (by omega) (by omega)).mpr hi⟩
      have hat2 : cl1.slots[((Int32.ofNat i)).toNatClampNeg]? = some (.int (cs.getD i 0)) := Has.at Hh1 hin2 (by rw [own_xN (by omega)]; exact own_chat hi)
      by_cases hc20 : (255 : Int32) < (cs.getD i 0)
      · refine ⟨T0, _, _, i, 23, (.val (.int (cs.getD i 0))), X0, e0, N0, Z0, Keep.refl _ _, AD, Or.inr ⟨hi, rfl, (own_255 _).mp hc20⟩, fun target kt => ?_⟩
        show Steps p.tables e below (T0.setTop (mkF m 3 #[.val (.ref a1), .val (.int (Int32.ofNat i)), .val (.ref dd), .val (.int (Int32.ofNat i)), .val (.int (Int32.ofNat cs.length)), .val (.int (Int32.ofNat i)), .val (.int z6)] [])) _
        refine XS.iload X0.here hx rfl (hb hby d12_3) rfl ?_
        refine XS.iload X0.here hx rfl (hb hby d12_5) rfl ?_
        refine XS.icmpNo X0.here hx rfl (hb hby d12_7) rfl (tlt ((own_xlt (by omega) (by omega)).mpr hi)).2.1 ?_
        refine XS.aloadN X0.here hx rfl (hb hby d12_10) rfl rfl ?_
        refine XS.iloadN X0.here hx rfl (hb hby d12_11) rfl ?_
        refine X0.caload hx (j := (Int32.ofNat i)) (v := (.int (cs.getD i 0))) (by rw [e0]; exact Ar1.1) (State.isArrayOf_alike hZ.alike Ar1.2.1) Ar1.2.2 hin2 hat2 (g := (mkF m 12 #[.val (.ref a1), .val (.int (Int32.ofNat i)), .val (.ref dd), .val (.int (Int32.ofNat i)), .val (.int (Int32.ofNat cs.length)), .val (.int (Int32.ofNat i)), .val (.int z6)] [(.int (Int32.ofNat i)), (.ref a1)])) rfl rfl (hb hby d12_12) _ ?_
        refine XS.istore X0.here hx rfl (hb hby d12_13) rfl (l' := #[.val (.ref a1), .val (.int (Int32.ofNat i)), .val (.ref dd), .val (.int (Int32.ofNat i)), .val (.int (Int32.ofNat cs.length)), .val (.int (Int32.ofNat i)), .val (.int (cs.getD i 0))]) rfl ?_
        refine XS.iload X0.here hx rfl (hb hby d12_15) rfl ?_
        refine XS.sipush X0.here hx rfl (hb hby d12_17) ?_
        refine XS.icmpNo X0.here hx rfl (hb hby d12_20) rfl (tlt hc20).2.2.2 ?_
        exact kt
      · obtain ⟨cl3, Ar3, qk3, Sz3, Nn3, Hh3, Gg3⟩ := id (AD)
        have hin4 : ¬ ((Int32.ofNat i) < 0 ∨ cl3.slots.size ≤ ((Int32.ofNat i)).toNatClampNeg) := inb_of Sz3 ⟨own_x0 (by omega), (own_xlt (by omega) (by omega)).mpr hi⟩
        obtain ⟨T4, h4, X4, e4, W4, st4⟩ := stB X0 hx hZ e0 Ar3 (j := (Int32.ofNat i)) hin4 (g := (mkF m 31 #[.val (.ref a1), .val (.int (Int32.ofNat i)), .val (.ref dd), .val (.int (Int32.ofNat i)), .val (.int (Int32.ofNat cs.length)), .val (.int (Int32.ofNat i)), .val (.int (cs.getD i 0))] [(.int ((cs.getD i 0).toInt8.toInt32)), (.int (Int32.ofNat i)), (.ref dd)])) rfl rfl (hb hby d12_31)
        have N4 := Fr.snoc X4 N0 gd
        have Z4 : n0 ≤ h4.size := by rw [W4.size]; exact Z0
        have K4 : Keep h0 h4 [dd] := (Keep.refl h0 [dd]).wr W4 (Or.inl (own_w 0 rfl))
        have V4 : Arv Z h4 dd kd .byte (Int32.ofNat cs.length) (own_mix own_mf (.int (0 : Int32)) cs (i + 1)) (.int (0 : Int32)) := by
          have q := Arv.set Ar3 qk3 Sz3 Nn3 Hh3 Gg3 (fits_nar_byte _) W4 (i) (own_xN (by omega)) (by rw [own_mixL]; exact hi)
          rw [← own_mixS own_mf (.int (0 : Int32)) cs i hi]; exact q
        have f5 := (AC.other W4 nad)
        obtain ⟨T', h', L', j', pc', y', X', e', N', Z', K', A', hj', st'⟩ := ih (i + 1) (by omega) (own_smS hsm hc20) (.val (.int (cs.getD i 0))) (Or.inr ⟨_, rfl⟩) T4 _ _ X4 e4 N4 Z4  f5 V4
        refine ⟨T', h', L', j', pc', y', X', e', N', Z', K4.trans K' (allS (Or.inl (own_w 0 rfl)) all0), A', hj', fun target kt => ?_⟩
        have kq := st' target kt
        rw [← own_xs (show i < 16 by omega)] at kq
        show Steps p.tables e below (T0.setTop (mkF m 3 #[.val (.ref a1), .val (.int (Int32.ofNat i)), .val (.ref dd), .val (.int (Int32.ofNat i)), .val (.int (Int32.ofNat cs.length)), .val (.int (Int32.ofNat i)), .val (.int z6)] [])) _
        refine XS.iload X0.here hx rfl (hb hby d12_3) rfl ?_
        refine XS.iload X0.here hx rfl (hb hby d12_5) rfl ?_
        refine XS.icmpNo X0.here hx rfl (hb hby d12_7) rfl (tlt ((own_xlt (by omega) (by omega)).mpr hi)).2.1 ?_
        refine XS.aloadN X0.here hx rfl (hb hby d12_10) rfl rfl ?_
        refine XS.iloadN X0.here hx rfl (hb hby d12_11) rfl ?_
        refine X0.caload hx (j := (Int32.ofNat i)) (v := (.int (cs.getD i 0))) (by rw [e0]; exact Ar1.1) (State.isArrayOf_alike hZ.alike Ar1.2.1) Ar1.2.2 hin2 hat2 (g := (mkF m 12 #[.val (.ref a1), .val (.int (Int32.ofNat i)), .val (.ref dd), .val (.int (Int32.ofNat i)), .val (.int (Int32.ofNat cs.length)), .val (.int (Int32.ofNat i)), .val (.int z6)] [(.int (Int32.ofNat i)), (.ref a1)])) rfl rfl (hb hby d12_12) _ ?_
        refine XS.istore X0.here hx rfl (hb hby d12_13) rfl (l' := #[.val (.ref a1), .val (.int (Int32.ofNat i)), .val (.ref dd), .val (.int (Int32.ofNat i)), .val (.int (Int32.ofNat cs.length)), .val (.int (Int32.ofNat i)), .val (.int (cs.getD i 0))]) rfl ?_
        refine XS.iload X0.here hx rfl (hb hby d12_15) rfl ?_
        refine XS.sipush X0.here hx rfl (hb hby d12_17) ?_
        refine XS.icmpYes X0.here hx rfl (pc0 := 20) (pc' := 26) rfl (hb hby d12_20) rfl (flt hc20).2.2.2 (by decide) (by decide) ?_
        refine XS.aloadN X0.here hx rfl (hb hby d12_26) rfl rfl ?_
        refine XS.iloadN X0.here hx rfl (hb hby d12_27) rfl ?_
        refine XS.iload X0.here hx rfl (hb hby d12_28) rfl ?_
        refine XS.i2b X0.here hx rfl (hb hby d12_30) rfl ?_
        refine st4 _ ?_
        refine XS.iinc X4.here hx rfl (hb hby d12_32) rfl (l' := #[.val (.ref a1), .val (.int ((Int32.ofNat i) + (1 : Int32))), .val (.ref dd), .val (.int (Int32.ofNat i)), .val (.int (Int32.ofNat cs.length)), .val (.int (Int32.ofNat i)), .val (.int (cs.getD i 0))]) rfl ?_
        refine XS.iinc X4.here hx rfl (hb hby d12_35) rfl (l' := #[.val (.ref a1), .val (.int ((Int32.ofNat i) + (1 : Int32))), .val (.ref dd), .val (.int ((Int32.ofNat i) + (1 : Int32))), .val (.int (Int32.ofNat cs.length)), .val (.int (Int32.ofNat i)), .val (.int (cs.getD i 0))]) rfl ?_
        refine XS.iinc X4.here hx rfl (hb hby d12_38) rfl (l' := #[.val (.ref a1), .val (.int ((Int32.ofNat i) + (1 : Int32))), .val (.ref dd), .val (.int ((Int32.ofNat i) + (1 : Int32))), .val (.int (Int32.ofNat cs.length)), .val (.int ((Int32.ofNat i) + (1 : Int32))), .val (.int (cs.getD i 0))]) rfl ?_
        refine XS.goto X4.here hx rfl (pc0 := 41) (pc' := 3) rfl (hb hby d12_41) (by decide) (by decide) ?_
        exact kq
theorem d12_0 : decode jdk_52_method_21_code 0 = .ok (.iconst 0, 1) := by decide +kernel
theorem d12_1 : decode jdk_52_method_21_code 1 = .ok (.istore 5, 2) := by decide +kernel
theorem d12_23 : decode jdk_52_method_21_code 23 = .ok (.iload 5, 2) := by decide +kernel
theorem d12_25 : decode jdk_52_method_21_code 25 = .ok (.ireturn, 1) := by decide +kernel
theorem d12_44 : decode jdk_52_method_21_code 44 = .ok (.iload 4, 2) := by decide +kernel
theorem d12_46 : decode jdk_52_method_21_code 46 = .ok (.ireturn, 1) := by decide +kernel
theorem pn_12 : plainName "java/lang/StringUTF16" = true := by first | (simp [plainName, overriddenIn]; done) | decide +kernel
theorem ef_rC1 (m : MethodId) (a1 : Addr) (a3 : Addr) (p5 : Int32) : entryFrame m #[(.ref a1), (.int (0 : Int32)), (.ref a3), (.int (0 : Int32)), (.int p5)] 7 = mkF m 0 #[.val (.ref a1), .val (.int (0 : Int32)), .val (.ref a3), .val (.int (0 : Int32)), .val (.int p5), .unset, .unset] [] := by first | (simp [entryFrame, mkF, argsToLocals, Value.category]; done) | rfl
def QrC1 (Z : State) (a1 : Addr) (a3 : Addr) (p5 : Int32) (cs : List Int32) (ka : ClassId) (kd : ClassId) (h0 : Heap) (n0 : Nat) (v : Option Value) (h : Heap) (L : List Loc) : Prop := ∃ j : Nat, v = some (.int (Int32.ofNat j)) ∧ Fr n0 L ∧ Keep h0 h [a3] ∧ Arv Z h a3 kd .byte (Int32.ofNat cs.length) (own_mix own_mf (.int (0 : Int32)) cs j) (.int (0 : Int32)) ∧ ((j = cs.length ∧ ∀ c ∈ cs, c.toInt < 256) ∨ (j < cs.length ∧ ¬ (cs.getD j 0).toInt < 256))
set_option maxRecDepth 65536 in
set_option maxHeartbeats 40000000 in
theorem rC1 (l : Launch) (Z : State) (a0 : Array Value) (hw : ∀ d ∈ tables_1, d.before a0 Z = true) (ws : List Jvm.Cond) (a1 : Addr) (a3 : Addr) (p5 : Int32) (cs : List Int32) (ka : ClassId) (kd : ClassId) (h0 : Heap) (n0 : Nat) (Z0 : n0 ≤ h0.size) (AC : Arv Z h0 a1 ka .char (Int32.ofNat cs.length) (cs.map Value.int) (.int (0 : Int32))) (AD : Arv Z h0 a3 kd .byte (Int32.ofNat cs.length) (List.replicate cs.length (.int (0 : Int32))) (.int (0 : Int32))) (hp : p5 = Int32.ofNat cs.length) (hL : cs.length < 8) (nad : a1 ≠ a3) (gd : n0 ≤ a3) :
    MetFree l (⟨"java/lang/StringUTF16", "compress", "([CI[BII)I"⟩ : MethodName) (head1 (Jvm.Cond.code (⟨"java/lang/StringUTF16", "compress", "([CI[BII)I"⟩ : MethodName) jdk_52_method_21_code 7 (some .int) :: ws) ({ frames := 0, cells := 0, slots := 0, locals := 0 } : Room)) (fun a U => a = #[(.ref a1), (.int (0 : Int32)), (.ref a3), (.int (0 : Int32)), (.int p5)] ∧ Z.Warmed39 U.vm ∧ U.heap = h0) (fun _ _ _ _ _ => True) (fun _ U o U' => ∃ v L, o = .returned v ∧ QrC1 Z a1 a3 p5 cs ka kd h0 n0 v U'.heap L ∧ FrameEnd U o U' L ({ frames := 0, cells := 0, slots := 0, locals := 0 } : Room).cells ({ frames := 0, cells := 0, slots := 0, locals := 0 } : Room).slots) := by
  refine MetFree.of_bodySF (plainFor_of_name pn_12) hisR ?_
  intro p e s m args below meth c s₁ Bd hml0 hP hK
  obtain ⟨rfl, hZ, hh⟩ := hP
  have hx := Bd.exec
  have hby := Bd.bytes
  have hml : c.maxLocals = 7 := hml0
  have hown : s.vm.findClass "java/lang/StringUTF16" = some m.cls := findClass_of_methodNamed Bd.named
  have hnm := (name_of_methodNamed Bd.named Bd.method).1
  have X0 : Stand p l e ({ frames := 0, cells := 0, slots := 0, locals := 0 } : Room) s m #[(.ref a1), (.int (0 : Int32)), (.ref a3), (.int (0 : Int32)), (.int p5)] below meth c s₁ [] 0 0 := Stand.of_body Bd
  have e0 : s₁.heap = h0 := by rw [← hh, Bd.state]; rfl
  have N0 := Fr.nil n0
  have pre0 : ∀ t, Steps p.tables e below (s₁.setTop (mkF m 0 #[.val (.ref a1), .val (.int (0 : Int32)), .val (.ref a3), .val (.int (0 : Int32)), .val (.int p5), .unset, .unset] [])) t → Steps p.tables e below (s₁.setTop (entryFrame m #[(.ref a1), (.int (0 : Int32)), (.ref a3), (.int (0 : Int32)), (.int p5)] 7)) t := fun t k => castTop (ef_rC1 m a1 a3 p5) k
  have VM1 := AD
  rw [← own_mix0 own_mf (.int (0 : Int32)) cs] at VM1
  obtain ⟨T1, h1, L1, j1, pc1, y1, X1, e1, N1, Z1, KT1, V1, hj1, st1⟩ := own_cl (by decide) (by decide) (by decide) (by decide) hx hZ hw hby hml hown hL  nad gd cs.length 0 (by omega) (fun k hk => absurd hk (Nat.not_lt_zero k)) .unset (Or.inl rfl) _ _ _ X0 e0 N0 Z0  AC VM1
  have K1 : Keep h0 h1 [a3] := (Keep.refl h0 [a3]).trans KT1 (allS (Or.inl (own_w 0 rfl)) all0)
  rcases hj1 with ⟨rfl, rfl, hal1⟩ | ⟨hlt1, rfl, hbg1⟩
  · skip
    obtain ⟨fs, hr, hrun, hended, hW, hsame⟩ := X1.leave (v := some (.int (Int32.ofNat cs.length))) (fun h => by rw [Bd.returns] at h; cases h) (BodyLoose.notSynchronized Bd)
    refine ⟨_, _, pre0 _ ?_, hrun, hended, _, _, rfl, ?_, ⟨_, rfl⟩, hW, hsame.mono (by decide) (by decide)⟩
    · show Steps p.tables e below (s₁.setTop (mkF m 0 #[.val (.ref a1), .val (.int (0 : Int32)), .val (.ref a3), .val (.int (0 : Int32)), .val (.int p5), .unset, .unset] [])) _
      refine XS.iconst X0.here hx rfl (hb hby d12_0) ?_
      refine XS.istore X0.here hx rfl (hb hby d12_1) rfl (l' := #[.val (.ref a1), .val (.int (0 : Int32)), .val (.ref a3), .val (.int (0 : Int32)), .val (.int p5), .val (.int (0 : Int32)), .unset]) rfl ?_
      show Steps p.tables e below (s₁.setTop (mkF m 3 #[.val (.ref a1), .val (.int (0 : Int32)), .val (.ref a3), .val (.int (0 : Int32)), .val (.int p5), .val (.int (0 : Int32)), .unset] [])) _
      rw [hp]
      refine st1 _ ?_
      refine XS.iload X1.here hx rfl (hb hby d12_44) rfl ?_
      show Steps p.tables e below (T1.setTop (mkF m 46 #[.val (.ref a1), .val (.int (Int32.ofNat cs.length)), .val (.ref a3), .val (.int (Int32.ofNat cs.length)), .val (.int (Int32.ofNat cs.length)), .val (.int (Int32.ofNat cs.length)), y1] [(.int (Int32.ofNat cs.length))])) _
      exact retI X1 hx Bd.returns (hb hby d12_46) hr
    · show QrC1 Z a1 a3 p5 cs ka kd h0 n0 _ T1.heap _
      rw [e1]
      exact ⟨_, rfl, N1, K1, V1, Or.inl ⟨rfl, hal1⟩⟩
  · skip
    obtain ⟨fs, hr, hrun, hended, hW, hsame⟩ := X1.leave (v := some (.int (Int32.ofNat j1))) (fun h => by rw [Bd.returns] at h; cases h) (BodyLoose.notSynchronized Bd)
    refine ⟨_, _, pre0 _ ?_, hrun, hended, _, _, rfl, ?_, ⟨_, rfl⟩, hW, hsame.mono (by decide) (by decide)⟩
    · show Steps p.tables e below (s₁.setTop (mkF m 0 #[.val (.ref a1), .val (.int (0 : Int32)), .val (.ref a3), .val (.int (0 : Int32)), .val (.int p5), .unset, .unset] [])) _
      refine XS.iconst X0.here hx rfl (hb hby d12_0) ?_
      refine XS.istore X0.here hx rfl (hb hby d12_1) rfl (l' := #[.val (.ref a1), .val (.int (0 : Int32)), .val (.ref a3), .val (.int (0 : Int32)), .val (.int p5), .val (.int (0 : Int32)), .unset]) rfl ?_
      show Steps p.tables e below (s₁.setTop (mkF m 3 #[.val (.ref a1), .val (.int (0 : Int32)), .val (.ref a3), .val (.int (0 : Int32)), .val (.int p5), .val (.int (0 : Int32)), .unset] [])) _
      rw [hp]
      refine st1 _ ?_
      refine XS.iload X1.here hx rfl (hb hby d12_23) rfl ?_
      show Steps p.tables e below (T1.setTop (mkF m 25 #[.val (.ref a1), .val (.int (Int32.ofNat j1)), .val (.ref a3), .val (.int (Int32.ofNat j1)), .val (.int (Int32.ofNat cs.length)), .val (.int (Int32.ofNat j1)), y1] [(.int (Int32.ofNat j1))])) _
      exact retI X1 hx Bd.returns (hb hby d12_25) hr
    · show QrC1 Z a1 a3 p5 cs ka kd h0 n0 _ T1.heap _
      rw [e1]
      exact ⟨_, rfl, N1, K1, V1, Or.inr ⟨hlt1, hbg1⟩⟩
theorem pd_11 : parseMethodDescriptor "([CI[BII)I" = some ⟨[(.array .char), .int, (.array .byte), .int, .int], some .int⟩ := by decide +kernel
theorem pd_12 : parseMethodDescriptor "([CII)[B" = some ⟨[(.array .char), .int, .int], some (.array .byte)⟩ := by decide +kernel
theorem d11_0 : decode jdk_52_method_16_code 0 = .ok (.iload_n 2, 1) := by decide +kernel
theorem d11_1 : decode jdk_52_method_16_code 1 = .ok (.newarray .byte, 2) := by decide +kernel
theorem d11_3 : decode jdk_52_method_16_code 3 = .ok (.astore_n 3, 1) := by decide +kernel
theorem d11_4 : decode jdk_52_method_16_code 4 = .ok (.aload_n 0, 1) := by decide +kernel
theorem d11_5 : decode jdk_52_method_16_code 5 = .ok (.iload_n 1, 1) := by decide +kernel
theorem d11_6 : decode jdk_52_method_16_code 6 = .ok (.aload_n 3, 1) := by decide +kernel
theorem d11_7 : decode jdk_52_method_16_code 7 = .ok (.iconst 0, 1) := by decide +kernel
theorem d11_8 : decode jdk_52_method_16_code 8 = .ok (.iload_n 2, 1) := by decide +kernel
theorem d11_9 : decode jdk_52_method_16_code 9 = .ok (.invokestatic 115, 3) := by decide +kernel
theorem d11_12 : decode jdk_52_method_16_code 12 = .ok (.istore 4, 2) := by decide +kernel
theorem d11_14 : decode jdk_52_method_16_code 14 = .ok (.iload 4, 2) := by decide +kernel
theorem d11_16 : decode jdk_52_method_16_code 16 = .ok (.iload_n 2, 1) := by decide +kernel
theorem d11_17 : decode jdk_52_method_16_code 17 = .ok (.if_icmp .eq 40, 3) := by decide +kernel
theorem d11_20 : decode jdk_52_method_16_code 20 = .ok (.aload_n 0, 1) := by decide +kernel
theorem d11_21 : decode jdk_52_method_16_code 21 = .ok (.iload_n 1, 1) := by decide +kernel
theorem d11_22 : decode jdk_52_method_16_code 22 = .ok (.iload_n 2, 1) := by decide +kernel
theorem d11_23 : decode jdk_52_method_16_code 23 = .ok (.invokestatic 119, 3) := by decide +kernel
theorem d11_26 : decode jdk_52_method_16_code 26 = .ok (.astore 5, 2) := by decide +kernel
theorem d11_28 : decode jdk_52_method_16_code 28 = .ok (.aload 5, 2) := by decide +kernel
theorem d11_30 : decode jdk_52_method_16_code 30 = .ok (.iload 4, 2) := by decide +kernel
theorem d11_32 : decode jdk_52_method_16_code 32 = .ok (.invokestatic 71, 3) := by decide +kernel
theorem d11_35 : decode jdk_52_method_16_code 35 = .ok (.sipush 255, 3) := by decide +kernel
theorem d11_38 : decode jdk_52_method_16_code 38 = .ok (.if_icmp .gt 16, 3) := by decide +kernel
theorem d11_54 : decode jdk_52_method_16_code 54 = .ok (.aload 5, 2) := by decide +kernel
theorem d11_56 : decode jdk_52_method_16_code 56 = .ok (.areturn, 1) := by decide +kernel
theorem d11_57 : decode jdk_52_method_16_code 57 = .ok (.aload_n 3, 1) := by decide +kernel
theorem d11_58 : decode jdk_52_method_16_code 58 = .ok (.areturn, 1) := by decide +kernel
theorem pn_11 : plainName "java/lang/StringUTF16" = true := by first | (simp [plainName, overriddenIn]; done) | decide +kernel
theorem ef_rC2 (m : MethodId) (a1 : Addr) (p3 : Int32) : entryFrame m #[(.ref a1), (.int (0 : Int32)), (.int p3)] 6 = mkF m 0 #[.val (.ref a1), .val (.int (0 : Int32)), .val (.int p3), .unset, .unset, .unset] [] := by first | (simp [entryFrame, mkF, argsToLocals, Value.category]; done) | rfl
def QrC2 (Z : State) (a1 : Addr) (p3 : Int32) (cs : List Int32) (ka : ClassId) (h0 : Heap) (n0 : Nat) (v : Option Value) (h : Heap) (L : List Loc) : Prop := ∃ (o : Addr) (ok : ClassId), v = some (.ref o) ∧ Fr n0 L ∧ Keep h0 h [] ∧ n0 ≤ o ∧ h0.size ≤ o ∧ ((Arv Z h o ok .byte (Int32.ofNat cs.length) (own_lat cs) (.int (0 : Int32)) ∧ ∀ c ∈ cs, c.toInt < 256) ∨ Arv Z h o ok .byte (Int32.ofNat (2 * cs.length)) (own_utf cs) (.int (0 : Int32)))
set_option maxRecDepth 65536 in
set_option maxHeartbeats 40000000 in
theorem rC2 (l : Launch) (Z : State) (a0 : Array Value) (hw : ∀ d ∈ tables_1, d.before a0 Z = true) (ws : List Jvm.Cond) (a1 : Addr) (p3 : Int32) (cs : List Int32) (ka : ClassId) (h0 : Heap) (n0 : Nat) (Z0 : n0 ≤ h0.size) (X00 : Old Z n0 h0) (O_A : Sta Z Z.heap "java/lang/StringUTF16" "$assertionsDisabled" "Z" (.int (1 : Int32))) (O_H : Sta Z Z.heap "java/lang/StringUTF16" "HI_BYTE_SHIFT" "I" (.int (0 : Int32))) (O_W : Sta Z Z.heap "java/lang/StringUTF16" "LO_BYTE_SHIFT" "I" (.int (8 : Int32))) (AC : Arv Z h0 a1 ka .char (Int32.ofNat cs.length) (cs.map Value.int) (.int (0 : Int32))) (hp : p3 = Int32.ofNat cs.length) (hL : cs.length < 8) (hcs : ∀ c ∈ cs, own_ch c) :
    MetFree l (⟨"java/lang/StringUTF16", "compress", "([CII)[B"⟩ : MethodName) (head1 (Jvm.Cond.code (⟨"java/lang/StringUTF16", "compress", "([CII)[B"⟩ : MethodName) jdk_52_method_16_code 6 (some (.array .byte)) :: ws) ({ frames := 5, cells := 2, slots := 24, locals := 116 } : Room)) (fun a U => a = #[(.ref a1), (.int (0 : Int32)), (.int p3)] ∧ Z.Warmed39 U.vm ∧ U.heap = h0) (fun _ _ _ _ _ => True) (fun _ U o U' => ∃ v L, o = .returned v ∧ QrC2 Z a1 p3 cs ka h0 n0 v U'.heap L ∧ FrameEnd U o U' L ({ frames := 5, cells := 2, slots := 24, locals := 116 } : Room).cells ({ frames := 5, cells := 2, slots := 24, locals := 116 } : Room).slots) := by
  refine MetFree.of_bodySF (plainFor_of_name pn_11) hisR ?_
  intro p e s m args below meth c s₁ Bd hml0 hP hK
  obtain ⟨rfl, hZ, hh⟩ := hP
  have hx := Bd.exec
  have hby := Bd.bytes
  have hml : c.maxLocals = 6 := hml0
  have hown : s.vm.findClass "java/lang/StringUTF16" = some m.cls := findClass_of_methodNamed Bd.named
  have hnm := (name_of_methodNamed Bd.named Bd.method).1
  have X0 : Stand p l e ({ frames := 5, cells := 2, slots := 24, locals := 116 } : Room) s m #[(.ref a1), (.int (0 : Int32)), (.int p3)] below meth c s₁ [] 0 0 := Stand.of_body Bd
  have e0 : s₁.heap = h0 := by rw [← hh, Bd.state]; rfl
  have N0 := Fr.nil n0
  have pre0 : ∀ t, Steps p.tables e below (s₁.setTop (mkF m 0 #[.val (.ref a1), .val (.int (0 : Int32)), .val (.int p3), .unset, .unset, .unset] [])) t → Steps p.tables e below (s₁.setTop (entryFrame m #[(.ref a1), (.int (0 : Int32)), (.int p3)] 6)) t := fun t k => castTop (ef_rC2 m a1 p3) k
  obtain ⟨T1, h1, ck1, X1, e1, E1, A1, st1⟩ := newP X0 hx hZ (hw _ (own_w 24 rfl)) e0 (g := (mkF m 1 #[.val (.ref a1), .val (.int (0 : Int32)), .val (.int (Int32.ofNat cs.length)), .unset, .unset, .unset] [(.int (Int32.ofNat cs.length))])) rfl (hb hby d11_1) rfl (own_x0 (by omega)) (cap := 8) (by rw [own_xN (by omega)]; omega) (by decide) (by decide) (by decide)
  obtain ⟨b1o, g1⟩ : ∃ z, z = h0.size := ⟨_, rfl⟩
  have b1 : n0 ≤ b1o := Nat.le_trans Z0 (Nat.le_of_eq g1.symm)
  have bk1 : h0.size ≤ b1o := Nat.le_trans (Keep.refl h0 []).1 (Nat.le_of_eq g1.symm)
  have ne2 : a1 ≠ b1o := Nat.ne_of_lt (Nat.lt_of_lt_of_le AC.lt (Nat.le_of_eq g1.symm))
  rw [← g1] at A1 st1
  have Z1 : n0 ≤ h1.size := Nat.le_trans Z0 E1.1
  have K1 : Keep h0 h1 [] := (Keep.refl h0 []).ext E1
  have V1 : Arv Z h1 b1o ck1 .byte (Int32.ofNat cs.length) (List.replicate (cs.length) (.int (0 : Int32))) (.int (0 : Int32)) := (Arv.new A1 (own_x0 (by omega))).pad (pad_rep [] (.int (0 : Int32)) (cs.length))
  have f4 := (AC.ext E1)
  obtain ⟨_, _, ⟨T3, Lq3, kq3, nq3⟩, -, X3, ⟨Lc3, hQ3, lq3, yq3, zq3⟩, st3⟩ := Jvm.LawKit.callS X1 hx (y := (⟨"java/lang/StringUTF16", "compress", "([CI[BII)I"⟩ : MethodName)) hown (mvT hZ (hw _ (own_w 62 rfl))) (mvT hZ (hw _ (own_w 63 rfl))) (mvT hZ (hw _ (own_w 60 rfl))) (mvT hZ (hw _ (own_w 64 rfl))) (by decide) (backOf (W := 0) (rC1 l Z a0 hw [] a1 b1o (Int32.ofNat cs.length) cs ka ck1 h1 n0 Z1 f4 V1 rfl hL ne2 b1) hZ (hw _ (own_w 64 rfl)) (hw _ (own_w 60 rfl)) (by decide) (by decide)) (g := (mkF m 9 #[.val (.ref a1), .val (.int (0 : Int32)), .val (.int (Int32.ofNat cs.length)), .val (.ref b1o), .unset, .unset] [(.int (Int32.ofNat cs.length)), (.int (0 : Int32)), (.ref b1o), (.int (0 : Int32)), (.ref a1)])) rfl (by rw [hml]; rfl) (argsL := [(.ref a1), (.int (0 : Int32)), (.ref b1o), (.int (0 : Int32)), (.int (Int32.ofNat cs.length))]) (rest := []) (lenOf pd_11 rfl) rfl (by show 2 * 0 + _ ≤ _; exact Nat.le_of_eq rfl) (hb hby d11_9) (fun _ _ => ⟨rfl, e1, (by decide : 1 + 0 ≤ _), (by decide : 8 + 0 ≤ _)⟩)
  dsimp only [Pt.U, Pt.locs, Pt.cells, Pt.slots] at X3 lq3 yq3 zq3 st3 hQ3
  subst lq3 yq3 zq3
  obtain ⟨j3, rfl, N3q, KC3, V3, hj3⟩ := hQ3
  have N3 := Fr.app N0 N3q
  have Z3 : n0 ≤ T3.heap.size := Nat.le_trans Z1 KC3.1
  have K3 : Keep h0 T3.heap [] := K1.trans KC3 (allS (Or.inr bk1) all0)
  rcases hj3 with ⟨rfl, hal⟩ | ⟨hlt, hbg⟩
  · skip
    obtain ⟨fs, hr, hrun, hended, hW, hsame⟩ := X3.leave (v := some (.ref b1o)) (fun h => by rw [Bd.returns] at h; cases h) (BodyLoose.notSynchronized Bd)
    refine ⟨_, _, pre0 _ ?_, hrun, hended, _, _, rfl, ?_, ⟨_, rfl⟩, hW, hsame.mono (by decide) (by decide)⟩
    · show Steps p.tables e below (s₁.setTop (mkF m 0 #[.val (.ref a1), .val (.int (0 : Int32)), .val (.int p3), .unset, .unset, .unset] [])) _
      refine XS.iloadN X0.here hx rfl (hb hby d11_0) rfl ?_
      show Steps p.tables e below (s₁.setTop (mkF m 1 #[.val (.ref a1), .val (.int (0 : Int32)), .val (.int p3), .unset, .unset, .unset] [(.int p3)])) _
      rw [hp]
      show Steps p.tables e below (s₁.setTop (mkF m 1 #[.val (.ref a1), .val (.int (0 : Int32)), .val (.int (Int32.ofNat cs.length)), .unset, .unset, .unset] [(.int (Int32.ofNat cs.length))])) _
      refine st1 _ ?_
      refine XS.astoreN X1.here hx rfl (hb hby d11_3) rfl rfl (l' := #[.val (.ref a1), .val (.int (0 : Int32)), .val (.int (Int32.ofNat cs.length)), .val (.ref b1o), .unset, .unset]) rfl ?_
      refine XS.aloadN X1.here hx rfl (hb hby d11_4) rfl rfl ?_
      refine XS.iloadN X1.here hx rfl (hb hby d11_5) rfl ?_
      refine XS.aloadN X1.here hx rfl (hb hby d11_6) rfl rfl ?_
      refine XS.iconst X1.here hx rfl (hb hby d11_7) ?_
      refine XS.iloadN X1.here hx rfl (hb hby d11_8) rfl ?_
      refine st3 _ ?_
      refine XS.istore X3.here hx rfl (hb hby d11_12) rfl (l' := #[.val (.ref a1), .val (.int (0 : Int32)), .val (.int (Int32.ofNat cs.length)), .val (.ref b1o), .val (.int (Int32.ofNat cs.length)), .unset]) rfl ?_
      refine XS.iload X3.here hx rfl (hb hby d11_14) rfl ?_
      refine XS.iloadN X3.here hx rfl (hb hby d11_16) rfl ?_
      refine XS.icmpYes X3.here hx rfl (pc0 := 17) (pc' := 57) rfl (hb hby d11_17) rfl (teq rfl).1 (by decide) (by decide) ?_
      refine XS.aloadN X3.here hx rfl (hb hby d11_57) rfl rfl ?_
      show Steps p.tables e below (T3.setTop (mkF m 58 #[.val (.ref a1), .val (.int (0 : Int32)), .val (.int (Int32.ofNat cs.length)), .val (.ref b1o), .val (.int (Int32.ofNat cs.length)), .unset] [(.ref b1o)])) _
      exact X3.areturnOut hx rfl Bd.returns rfl (hb hby d11_58) hr
    · show QrC2 Z a1 p3 cs ka h0 n0 _ T3.heap _
      have qa := V3
      rw [own_mixLat] at qa
      exact ⟨b1o, _, rfl, N3, K3, b1, bk1, Or.inl ⟨qa, hal⟩⟩
  · skip
    have f6 := (f4.keep KC3 (ninS ne2 nin0))
    have f7 := ((X00.ext E1).keep KC3 (allS b1 all0))
    obtain ⟨_, _, ⟨T5, Lq5, kq5, nq5⟩, -, X5, ⟨Lc5, hQ5, lq5, yq5, zq5⟩, st5⟩ := Jvm.LawKit.callS X3 hx (y := (⟨"java/lang/StringUTF16", "toBytes", "([CII)[B"⟩ : MethodName)) hown (mvT hZ (hw _ (own_w 134 rfl))) (mvT hZ (hw _ (own_w 135 rfl))) (mvT hZ (hw _ (own_w 60 rfl))) (mvT hZ (hw _ (own_w 136 rfl))) (by decide) (backOf (W := 0) (rTb l Z a0 hw [] a1 (Int32.ofNat cs.length) cs ka T3.heap n0 Z3 f7 O_A O_H O_W f6 rfl hL) hZ (hw _ (own_w 136 rfl)) (hw _ (own_w 60 rfl)) (by decide) (by decide)) (g := (mkF m 23 #[.val (.ref a1), .val (.int (0 : Int32)), .val (.int (Int32.ofNat cs.length)), .val (.ref b1o), .val (.int (Int32.ofNat j3)), .unset] [(.int (Int32.ofNat cs.length)), (.int (0 : Int32)), (.ref a1)])) rfl (by rw [hml]; rfl) (argsL := [(.ref a1), (.int (0 : Int32)), (.int (Int32.ofNat cs.length))]) (rest := []) (lenOf pd_12 rfl) rfl (by show 2 * 0 + _ ≤ _; exact Nat.le_of_eq rfl) (hb hby d11_23) (fun _ _ => ⟨rfl, rfl, (by decide : 1 + 1 ≤ _), (by decide : 8 + 16 ≤ _)⟩)
    dsimp only [Pt.U, Pt.locs, Pt.cells, Pt.slots] at X5 lq5 yq5 zq5 st5 hQ5
    subst lq5 yq5 zq5
    obtain ⟨o5, ok5, rfl, N5q, KC5, go5, gk5, V5⟩ := hQ5
    have N5 := Fr.app N3 N5q
    have Z5 : n0 ≤ T5.heap.size := Nat.le_trans Z3 KC5.1
    have ne8 : a1 ≠ o5 := Nat.ne_of_lt (Nat.lt_of_lt_of_le f6.lt gk5)
    have ne9 : b1o ≠ o5 := Nat.ne_of_lt (Nat.lt_of_lt_of_le V3.lt gk5)
    have K5 : Keep h0 T5.heap [] := K3.trans KC5 all0
    have f11 := (f7.keep KC5 all0)
    obtain ⟨_, _, ⟨T10, Lq10, kq10, nq10⟩, -, X10, ⟨Lc10, hQ10, lq10, yq10, zq10⟩, st10⟩ := Jvm.LawKit.callS X5 hx (y := (⟨"java/lang/StringUTF16", "getChar", "([BI)C"⟩ : MethodName)) hown (mvT hZ (hw _ (own_w 150 rfl))) (mvT hZ (hw _ (own_w 151 rfl))) (mvT hZ (hw _ (own_w 60 rfl))) (mvT hZ (hw _ (own_w 152 rfl))) (by decide) (backOf (W := 0) (rGc l Z a0 hw [] o5 (Int32.ofNat j3) ok5 (cs).length (own_utf (cs)) (j3) _ _ T5.heap n0 Z5 f11 O_A O_H O_W V5 rfl hlt hL (own_utf_at (cs) (j3) _ hlt).1 (own_utf_at (cs) (j3) _ hlt).2) hZ (hw _ (own_w 152 rfl)) (hw _ (own_w 60 rfl)) (by decide) (by decide)) (g := (mkF m 32 #[.val (.ref a1), .val (.int (0 : Int32)), .val (.int (Int32.ofNat cs.length)), .val (.ref b1o), .val (.int (Int32.ofNat j3)), .val (.ref o5)] [(.int (Int32.ofNat j3)), (.ref o5)])) rfl (by rw [hml]; rfl) (argsL := [(.ref o5), (.int (Int32.ofNat j3))]) (rest := []) (lenOf pd_6 rfl) rfl (by show 2 * 0 + _ ≤ _; exact Nat.le_of_eq rfl) (hb hby d11_32) (fun _ _ => ⟨rfl, rfl, (by decide : 2 + 0 ≤ _), (by decide : 24 + 0 ≤ _)⟩)
    dsimp only [Pt.U, Pt.locs, Pt.cells, Pt.slots] at X10 lq10 yq10 zq10 st10 hQ10
    subst lq10 yq10 zq10
    obtain ⟨r10, hr10, rfl, N10q, e10⟩ := hQ10
    have N10 := Fr.app N5 N10q
    obtain ⟨fs, hr, hrun, hended, hW, hsame⟩ := X10.leave (v := some (.ref o5)) (fun h => by rw [Bd.returns] at h; cases h) (BodyLoose.notSynchronized Bd)
    refine ⟨_, _, pre0 _ ?_, hrun, hended, _, _, rfl, ?_, ⟨_, rfl⟩, hW, hsame.mono (by decide) (by decide)⟩
    · show Steps p.tables e below (s₁.setTop (mkF m 0 #[.val (.ref a1), .val (.int (0 : Int32)), .val (.int p3), .unset, .unset, .unset] [])) _
      refine XS.iloadN X0.here hx rfl (hb hby d11_0) rfl ?_
      show Steps p.tables e below (s₁.setTop (mkF m 1 #[.val (.ref a1), .val (.int (0 : Int32)), .val (.int p3), .unset, .unset, .unset] [(.int p3)])) _
      rw [hp]
      show Steps p.tables e below (s₁.setTop (mkF m 1 #[.val (.ref a1), .val (.int (0 : Int32)), .val (.int (Int32.ofNat cs.length)), .unset, .unset, .unset] [(.int (Int32.ofNat cs.length))])) _
      refine st1 _ ?_
      refine XS.astoreN X1.here hx rfl (hb hby d11_3) rfl rfl (l' := #[.val (.ref a1), .val (.int (0 : Int32)), .val (.int (Int32.ofNat cs.length)), .val (.ref b1o), .unset, .unset]) rfl ?_
      refine XS.aloadN X1.here hx rfl (hb hby d11_4) rfl rfl ?_
      refine XS.iloadN X1.here hx rfl (hb hby d11_5) rfl ?_
      refine XS.aloadN X1.here hx rfl (hb hby d11_6) rfl rfl ?_
      refine XS.iconst X1.here hx rfl (hb hby d11_7) ?_
      refine XS.iloadN X1.here hx rfl (hb hby d11_8) rfl ?_
      refine st3 _ ?_
      refine XS.istore X3.here hx rfl (hb hby d11_12) rfl (l' := #[.val (.ref a1), .val (.int (0 : Int32)), .val (.int (Int32.ofNat cs.length)), .val (.ref b1o), .val (.int (Int32.ofNat j3)), .unset]) rfl ?_
      refine XS.iload X3.here hx rfl (hb hby d11_14) rfl ?_
      refine XS.iloadN X3.here hx rfl (hb hby d11_16) rfl ?_
      refine XS.icmpNo X3.here hx rfl (hb hby d11_17) rfl (feq (fun w => absurd ((own_xeq (by omega) (by omega)).mp w) (Nat.ne_of_lt hlt))).1 ?_
      refine XS.aloadN X3.here hx rfl (hb hby d11_20) rfl rfl ?_
      refine XS.iloadN X3.here hx rfl (hb hby d11_21) rfl ?_
      refine XS.iloadN X3.here hx rfl (hb hby d11_22) rfl ?_
      refine st5 _ ?_
      refine XS.astore X5.here hx rfl (hb hby d11_26) rfl rfl (l' := #[.val (.ref a1), .val (.int (0 : Int32)), .val (.int (Int32.ofNat cs.length)), .val (.ref b1o), .val (.int (Int32.ofNat j3)), .val (.ref o5)]) rfl ?_
      refine XS.aload X5.here hx rfl (hb hby d11_28) rfl rfl ?_
      refine XS.iload X5.here hx rfl (hb hby d11_30) rfl ?_
      refine st10 _ ?_
      refine XS.sipush X10.here hx rfl (hb hby d11_35) ?_
      refine XS.icmpYes X10.here hx rfl (pc0 := 38) (pc' := 54) rfl (hb hby d11_38) rfl (tlt (by rw [hr10, own_gc_eq (own_getCh hcs _)]; exact (own_255 _).mpr hbg)).2.2.1 (by decide) (by decide) ?_
      refine XS.aload X10.here hx rfl (hb hby d11_54) rfl rfl ?_
      show Steps p.tables e below (T10.setTop (mkF m 56 #[.val (.ref a1), .val (.int (0 : Int32)), .val (.int (Int32.ofNat cs.length)), .val (.ref b1o), .val (.int (Int32.ofNat j3)), .val (.ref o5)] [(.ref o5)])) _
      exact X10.areturnOut hx rfl Bd.returns rfl (hb hby d11_56) hr
    · show QrC2 Z a1 p3 cs ka h0 n0 _ T10.heap _
      rw [e10]
      exact ⟨o5, _, rfl, N10, K5, go5, (Nat.le_trans K3.1 gk5), Or.inr V5⟩
theorem d13_0 : decode jdk_52_method_15_code 0 = .ok (.iload_n 1, 1) := by decide +kernel
theorem d13_1 : decode jdk_52_method_15_code 1 = .ok (.aload_n 0, 1) := by decide +kernel
theorem d13_2 : decode jdk_52_method_15_code 2 = .ok (.arraylength, 1) := by decide +kernel
theorem d13_3 : decode jdk_52_method_15_code 3 = .ok (.isub, 1) := by decide +kernel
theorem d13_4 : decode jdk_52_method_15_code 4 = .ok (.bipush 31, 2) := by decide +kernel
theorem d13_6 : decode jdk_52_method_15_code 6 = .ok (.iushr, 1) := by decide +kernel
theorem d13_7 : decode jdk_52_method_15_code 7 = .ok (.i2b, 1) := by decide +kernel
theorem d13_8 : decode jdk_52_method_15_code 8 = .ok (.ireturn, 1) := by decide +kernel
theorem pn_13 : plainName "java/lang/StringUTF16" = true := by first | (simp [plainName, overriddenIn]; done) | decide +kernel
theorem ef_rK0 (m : MethodId) (a1 : Addr) (p2 : Int32) : entryFrame m #[(.ref a1), (.int p2)] 2 = mkF m 0 #[.val (.ref a1), .val (.int p2)] [] := by first | (simp [entryFrame, mkF, argsToLocals, Value.category]; done) | rfl
def QrK0 (Z : State) (a1 : Addr) (p2 : Int32) (k : ClassId) (n : Nat) (vs : List Value) (h0 : Heap) (n0 : Nat) (v : Option Value) (h : Heap) (L : List Loc) : Prop := ∃ z : Int32, z = ((0 : Int32)) ∧ v = some (.int z) ∧ Fr n0 L ∧ h = h0
set_option maxRecDepth 65536 in
set_option maxHeartbeats 40000000 in
theorem rK0 (l : Launch) (Z : State) (a0 : Array Value) (hw : ∀ d ∈ tables_1, d.before a0 Z = true) (ws : List Jvm.Cond) (a1 : Addr) (p2 : Int32) (k : ClassId) (n : Nat) (vs : List Value) (h0 : Heap) (n0 : Nat) (Z0 : n0 ≤ h0.size) (AV : Arv Z h0 a1 k .byte (Int32.ofNat n) (vs) (.int (0 : Int32))) (hp : p2 = Int32.ofNat n) (hn : n < 8) (hn0 : 0 < n) :
    MetFree l (⟨"java/lang/StringUTF16", "coderFromArrayLen", "([BI)B"⟩ : MethodName) (head1 (Jvm.Cond.code (⟨"java/lang/StringUTF16", "coderFromArrayLen", "([BI)B"⟩ : MethodName) jdk_52_method_15_code 2 (some .byte) :: ws) ({ frames := 0, cells := 0, slots := 0, locals := 0 } : Room)) (fun a U => a = #[(.ref a1), (.int p2)] ∧ Z.Warmed39 U.vm ∧ U.heap = h0) (fun _ _ _ _ _ => True) (fun _ U o U' => ∃ v L, o = .returned v ∧ QrK0 Z a1 p2 k n vs h0 n0 v U'.heap L ∧ FrameEnd U o U' L ({ frames := 0, cells := 0, slots := 0, locals := 0 } : Room).cells ({ frames := 0, cells := 0, slots := 0, locals := 0 } : Room).slots) := by
  refine MetFree.of_bodySF (plainFor_of_name pn_13) hisR ?_
  intro p e s m args below meth c s₁ Bd hml0 hP hK
  obtain ⟨rfl, hZ, hh⟩ := hP
  have hx := Bd.exec
  have hby := Bd.bytes
  have hml : c.maxLocals = 2 := hml0
  have hown : s.vm.findClass "java/lang/StringUTF16" = some m.cls := findClass_of_methodNamed Bd.named
  have hnm := (name_of_methodNamed Bd.named Bd.method).1
  have X0 : Stand p l e ({ frames := 0, cells := 0, slots := 0, locals := 0 } : Room) s m #[(.ref a1), (.int p2)] below meth c s₁ [] 0 0 := Stand.of_body Bd
  have e0 : s₁.heap = h0 := by rw [← hh, Bd.state]; rfl
  have N0 := Fr.nil n0
  have pre0 : ∀ t, Steps p.tables e below (s₁.setTop (mkF m 0 #[.val (.ref a1), .val (.int p2)] [])) t → Steps p.tables e below (s₁.setTop (entryFrame m #[(.ref a1), (.int p2)] 2)) t := fun t k => castTop (ef_rK0 m a1 p2) k
  obtain ⟨cl1, Ar1, qk1, Sz1, Nn1, Hh1, Gg1⟩ := id (AV)
  obtain ⟨fs, hr, hrun, hended, hW, hsame⟩ := X0.leave (v := some (.int (nar .byte ((((p2 - (Int32.ofNat n)).toUInt32 >>> ((31 : Int32) &&& 31).toUInt32).toInt32).toInt8.toInt32)))) (fun h => by rw [Bd.returns] at h; cases h) (BodyLoose.notSynchronized Bd)
  refine ⟨_, _, pre0 _ ?_, hrun, hended, _, _, rfl, ?_, ⟨_, rfl⟩, hW, hsame.mono (by decide) (by decide)⟩
  · show Steps p.tables e below (s₁.setTop (mkF m 0 #[.val (.ref a1), .val (.int p2)] [])) _
    refine XS.iloadN X0.here hx rfl (hb hby d13_0) rfl ?_
    refine XS.aloadN X0.here hx rfl (hb hby d13_1) rfl rfl ?_
    refine X0.arraylength hx (by rw [e0]; exact Ar1.1) (State.isArrayOf_alike hZ.alike Ar1.2.1) (g := (mkF m 2 #[.val (.ref a1), .val (.int p2)] [(.ref a1), (.int p2)])) rfl rfl (hb hby d13_2) _ ?_
    rw [len_of Sz1 Nn1]
    show Steps p.tables e below (s₁.setTop (mkF m 3 #[.val (.ref a1), .val (.int p2)] [(.int (Int32.ofNat n)), (.int p2)])) _
    refine XS.isub X0.here hx rfl (hb hby d13_3) rfl ?_
    refine XS.bipush X0.here hx rfl (hb hby d13_4) ?_
    refine XS.iushr X0.here hx rfl (hb hby d13_6) rfl ?_
    refine XS.i2b X0.here hx rfl (hb hby d13_7) rfl ?_
    show Steps p.tables e below (s₁.setTop (mkF m 8 #[.val (.ref a1), .val (.int p2)] [(.int ((((p2 - (Int32.ofNat n)).toUInt32 >>> ((31 : Int32) &&& 31).toUInt32).toInt32).toInt8.toInt32))])) _
    exact retN X0 hx (t := .byte) Bd.returns (by simp) (hb hby d13_8) hr
  · show QrK0 Z a1 p2 k n vs h0 n0 _ s₁.heap _
    exact ⟨_, by rw [hp]; exact own_cf0 hn, rfl, N0, e0⟩
theorem ef_rK1 (m : MethodId) (a1 : Addr) (p2 : Int32) : entryFrame m #[(.ref a1), (.int p2)] 2 = mkF m 0 #[.val (.ref a1), .val (.int p2)] [] := by first | (simp [entryFrame, mkF, argsToLocals, Value.category]; done) | rfl
def QrK1 (Z : State) (a1 : Addr) (p2 : Int32) (k : ClassId) (n : Nat) (vs : List Value) (h0 : Heap) (n0 : Nat) (v : Option Value) (h : Heap) (L : List Loc) : Prop := ∃ z : Int32, z = ((1 : Int32)) ∧ v = some (.int z) ∧ Fr n0 L ∧ h = h0
set_option maxRecDepth 65536 in
set_option maxHeartbeats 40000000 in
theorem rK1 (l : Launch) (Z : State) (a0 : Array Value) (hw : ∀ d ∈ tables_1, d.before a0 Z = true) (ws : List Jvm.Cond) (a1 : Addr) (p2 : Int32) (k : ClassId) (n : Nat) (vs : List Value) (h0 : Heap) (n0 : Nat) (Z0 : n0 ≤ h0.size) (AV : Arv Z h0 a1 k .byte (Int32.ofNat (2 * n)) (vs) (.int (0 : Int32))) (hp : p2 = Int32.ofNat n) (hn : n < 8) (hn0 : 0 < n) :
    MetFree l (⟨"java/lang/StringUTF16", "coderFromArrayLen", "([BI)B"⟩ : MethodName) (head1 (Jvm.Cond.code (⟨"java/lang/StringUTF16", "coderFromArrayLen", "([BI)B"⟩ : MethodName) jdk_52_method_15_code 2 (some .byte) :: ws) ({ frames := 0, cells := 0, slots := 0, locals := 0 } : Room)) (fun a U => a = #[(.ref a1), (.int p2)] ∧ Z.Warmed39 U.vm ∧ U.heap = h0) (fun _ _ _ _ _ => True) (fun _ U o U' => ∃ v L, o = .returned v ∧ QrK1 Z a1 p2 k n vs h0 n0 v U'.heap L ∧ FrameEnd U o U' L ({ frames := 0, cells := 0, slots := 0, locals := 0 } : Room).cells ({ frames := 0, cells := 0, slots := 0, locals := 0 } : Room).slots) := by
  refine MetFree.of_bodySF (plainFor_of_name pn_13) hisR ?_
  intro p e s m args below meth c s₁ Bd hml0 hP hK
  obtain ⟨rfl, hZ, hh⟩ := hP
  have hx := Bd.exec
  have hby := Bd.bytes
  have hml : c.maxLocals = 2 := hml0
  have hown : s.vm.findClass "java/lang/StringUTF16" = some m.cls := findClass_of_methodNamed Bd.named
  have hnm := (name_of_methodNamed Bd.named Bd.method).1
  have X0 : Stand p l e ({ frames := 0, cells := 0, slots := 0, locals := 0 } : Room) s m #[(.ref a1), (.int p2)] below meth c s₁ [] 0 0 := Stand.of_body Bd
  have e0 : s₁.heap = h0 := by rw [← hh, Bd.state]; rfl
  have N0 := Fr.nil n0
  have pre0 : ∀ t, Steps p.tables e below (s₁.setTop (mkF m 0 #[.val (.ref a1), .val (.int p2)] [])) t → Steps p.tables e below (s₁.setTop (entryFrame m #[(.ref a1), (.int p2)] 2)) t := fun t k => castTop (ef_rK1 m a1 p2) k
  obtain ⟨cl1, Ar1, qk1, Sz1, Nn1, Hh1, Gg1⟩ := id (AV)
  obtain ⟨fs, hr, hrun, hended, hW, hsame⟩ := X0.leave (v := some (.int (nar .byte ((((p2 - (Int32.ofNat (2 * n))).toUInt32 >>> ((31 : Int32) &&& 31).toUInt32).toInt32).toInt8.toInt32)))) (fun h => by rw [Bd.returns] at h; cases h) (BodyLoose.notSynchronized Bd)
  refine ⟨_, _, pre0 _ ?_, hrun, hended, _, _, rfl, ?_, ⟨_, rfl⟩, hW, hsame.mono (by decide) (by decide)⟩
  · show Steps p.tables e below (s₁.setTop (mkF m 0 #[.val (.ref a1), .val (.int p2)] [])) _
    refine XS.iloadN X0.here hx rfl (hb hby d13_0) rfl ?_
    refine XS.aloadN X0.here hx rfl (hb hby d13_1) rfl rfl ?_
    refine X0.arraylength hx (by rw [e0]; exact Ar1.1) (State.isArrayOf_alike hZ.alike Ar1.2.1) (g := (mkF m 2 #[.val (.ref a1), .val (.int p2)] [(.ref a1), (.int p2)])) rfl rfl (hb hby d13_2) _ ?_
    rw [len_of Sz1 Nn1]
    show Steps p.tables e below (s₁.setTop (mkF m 3 #[.val (.ref a1), .val (.int p2)] [(.int (Int32.ofNat (2 * n))), (.int p2)])) _
    refine XS.isub X0.here hx rfl (hb hby d13_3) rfl ?_
    refine XS.bipush X0.here hx rfl (hb hby d13_4) ?_
    refine XS.iushr X0.here hx rfl (hb hby d13_6) rfl ?_
    refine XS.i2b X0.here hx rfl (hb hby d13_7) rfl ?_
    show Steps p.tables e below (s₁.setTop (mkF m 8 #[.val (.ref a1), .val (.int p2)] [(.int ((((p2 - (Int32.ofNat (2 * n))).toUInt32 >>> ((31 : Int32) &&& 31).toUInt32).toInt32).toInt8.toInt32))])) _
    exact retN X0 hx (t := .byte) Bd.returns (by simp) (hb hby d13_8) hr
  · show QrK1 Z a1 p2 k n vs h0 n0 _ s₁.heap _
    exact ⟨_, by rw [hp]; exact own_cf1 hn hn0, rfl, N0, e0⟩
theorem pd_13 : parseMethodDescriptor "([BI)B" = some ⟨[(.array .byte), .int], some .byte⟩ := by decide +kernel
theorem d4_0 : decode jdk_42_method_149_code 0 = .ok (.aload_n 0, 1) := by decide +kernel
theorem d4_1 : decode jdk_42_method_149_code 1 = .ok (.invokespecial 1, 3) := by decide +kernel
theorem d4_4 : decode jdk_42_method_149_code 4 = .ok (.iload_n 3, 1) := by decide +kernel
theorem d4_5 : decode jdk_42_method_149_code 5 = .ok (.ifCond .ne 22, 3) := by decide +kernel
theorem d4_27 : decode jdk_42_method_149_code 27 = .ok (.getstatic 38, 3) := by decide +kernel
theorem d4_30 : decode jdk_42_method_149_code 30 = .ok (.ifCond .eq 28, 3) := by decide +kernel
theorem d4_33 : decode jdk_42_method_149_code 33 = .ok (.aload_n 1, 1) := by decide +kernel
theorem d4_34 : decode jdk_42_method_149_code 34 = .ok (.iload_n 2, 1) := by decide +kernel
theorem d4_35 : decode jdk_42_method_149_code 35 = .ok (.iload_n 3, 1) := by decide +kernel
theorem d4_36 : decode jdk_42_method_149_code 36 = .ok (.invokestatic 177, 3) := by decide +kernel
theorem d4_39 : decode jdk_42_method_149_code 39 = .ok (.astore 5, 2) := by decide +kernel
theorem d4_41 : decode jdk_42_method_149_code 41 = .ok (.aload_n 0, 1) := by decide +kernel
theorem d4_42 : decode jdk_42_method_149_code 42 = .ok (.aload 5, 2) := by decide +kernel
theorem d4_44 : decode jdk_42_method_149_code 44 = .ok (.iload_n 3, 1) := by decide +kernel
theorem d4_45 : decode jdk_42_method_149_code 45 = .ok (.invokestatic 47, 3) := by decide +kernel
theorem d4_48 : decode jdk_42_method_149_code 48 = .ok (.putfield 15, 3) := by decide +kernel
theorem d4_51 : decode jdk_42_method_149_code 51 = .ok (.aload_n 0, 1) := by decide +kernel
theorem d4_52 : decode jdk_42_method_149_code 52 = .ok (.aload 5, 2) := by decide +kernel
theorem d4_54 : decode jdk_42_method_149_code 54 = .ok (.putfield 9, 3) := by decide +kernel
theorem d4_57 : decode jdk_42_method_149_code 57 = .ok (.return_, 1) := by decide +kernel
theorem pn_4 : plainName "java/lang/String" = true := by first | (simp [plainName, overriddenIn]; done) | decide +kernel
theorem ef_rI4 (m : MethodId) (a1 : Addr) (a2 : Addr) (p4 : Int32) : entryFrame m #[(.ref a1), (.ref a2), (.int (0 : Int32)), (.int p4), .null] 6 = mkF m 0 #[.val (.ref a1), .val (.ref a2), .val (.int (0 : Int32)), .val (.int p4), .val .null, .unset] [] := by first | (simp [entryFrame, mkF, argsToLocals, Value.category]; done) | rfl
def QrI4 (Z : State) (a1 : Addr) (a2 : Addr) (p4 : Int32) (cs : List Int32) (ka : ClassId) (G1 : Int32) (h0 : Heap) (n0 : Nat) (v : Option Value) (h : Heap) (L : List Loc) : Prop := v = none ∧ Fr n0 L ∧ Keep h0 h [a1] ∧ own_S Z h a1 cs
set_option maxRecDepth 65536 in
set_option maxHeartbeats 40000000 in
theorem rI4 (l : Launch) (Z : State) (a0 : Array Value) (hw : ∀ d ∈ tables_1, d.before a0 Z = true) (ws : List Jvm.Cond) (a1 : Addr) (a2 : Addr) (p4 : Int32) (cs : List Int32) (ka : ClassId) (G1 : Int32) (h0 : Heap) (n0 : Nat) (Z0 : n0 ≤ h0.size) (E : Exa Z h0 a1 "java/lang/String") (FV : Fld Z h0 a1 "java/lang/String" "value" "[B" .null) (FC : Fld Z h0 a1 "java/lang/String" "coder" "B" (.int (0 : Int32))) (ga : n0 ≤ a1) (X00 : Old Z n0 h0) (O_2 : Sta Z Z.heap "java/lang/String" "COMPACT_STRINGS" "Z" (.int G1)) (P5 : ¬ (G1 = (0 : Int32))) (O_A : Sta Z Z.heap "java/lang/StringUTF16" "$assertionsDisabled" "Z" (.int (1 : Int32))) (O_H : Sta Z Z.heap "java/lang/StringUTF16" "HI_BYTE_SHIFT" "I" (.int (0 : Int32))) (O_W : Sta Z Z.heap "java/lang/StringUTF16" "LO_BYTE_SHIFT" "I" (.int (8 : Int32))) (AC : Arv Z h0 a2 ka .char (Int32.ofNat cs.length) (cs.map Value.int) (.int (0 : Int32))) (hL : cs.length < 8) (hps : 0 < cs.length) (hcs : ∀ c ∈ cs, own_ch c) (n12 : a1 ≠ a2) (hp : p4 = Int32.ofNat cs.length) :
    MetFree l (⟨"java/lang/String", "<init>", "([CIILjava/lang/Void;)V"⟩ : MethodName) (head1 (Jvm.Cond.code (⟨"java/lang/String", "<init>", "([CIILjava/lang/Void;)V"⟩ : MethodName) jdk_42_method_149_code 6 none :: ws) ({ frames := 6, cells := 2, slots := 24, locals := 133 } : Room)) (fun a U => a = #[(.ref a1), (.ref a2), (.int (0 : Int32)), (.int p4), .null] ∧ Z.Warmed39 U.vm ∧ U.heap = h0) (fun _ _ _ _ _ => True) (fun _ U o U' => ∃ v L, o = .returned v ∧ QrI4 Z a1 a2 p4 cs ka G1 h0 n0 v U'.heap L ∧ FrameEnd U o U' L ({ frames := 6, cells := 2, slots := 24, locals := 133 } : Room).cells ({ frames := 6, cells := 2, slots := 24, locals := 133 } : Room).slots) := by
  refine MetFree.of_bodySF (plainFor_of_name pn_4) hisR ?_
  intro p e s m args below meth c s₁ Bd hml0 hP hK
  obtain ⟨rfl, hZ, hh⟩ := hP
  have hx := Bd.exec
  have hby := Bd.bytes
  have hml : c.maxLocals = 6 := hml0
  have hown : s.vm.findClass "java/lang/String" = some m.cls := findClass_of_methodNamed Bd.named
  have hnm := (name_of_methodNamed Bd.named Bd.method).1
  have X0 : Stand p l e ({ frames := 6, cells := 2, slots := 24, locals := 133 } : Room) s m #[(.ref a1), (.ref a2), (.int (0 : Int32)), (.int p4), .null] below meth c s₁ [] 0 0 := Stand.of_body Bd
  have e0 : s₁.heap = h0 := by rw [← hh, Bd.state]; rfl
  have N0 := Fr.nil n0
  have pre0 : ∀ t, Steps p.tables e below (s₁.setTop (mkF m 0 #[.val (.ref a1), .val (.ref a2), .val (.int (0 : Int32)), .val (.int p4), .val .null, .unset] [])) t → Steps p.tables e below (s₁.setTop (entryFrame m #[(.ref a1), (.ref a2), (.int (0 : Int32)), (.int p4), .null] 6)) t := fun t k => castTop (ef_rI4 m a1 a2 p4) k
  obtain ⟨T1, X1, e1, st1⟩ := initO X0 hx hZ hown (hw _ (own_w 20 rfl)) (hw _ (own_w 21 rfl)) (hw _ (own_w 22 rfl)) e0 (g := (mkF m 1 #[.val (.ref a1), .val (.ref a2), .val (.int (0 : Int32)), .val (.int p4), .val .null, .unset] [(.ref a1)])) rfl (by rw [hml]; rfl) rfl (hb hby d4_1) (by decide) (W := 0) (by show 2 * 0 + _ ≤ _; exact Nat.le_of_eq rfl) (by decide)
  obtain ⟨T2, X2, e2, st2⟩ := getS2 X1 hx hZ hown (host := "") (Or.inl (hw _ (own_w 45 rfl))) Via.refl e1 (O_2.ext X00.2) (g := (mkF m 27 #[.val (.ref a1), .val (.ref a2), .val (.int (0 : Int32)), .val (.int p4), .val .null, .unset] [])) rfl (hb hby d4_27)
  obtain ⟨_, _, ⟨T3, Lq3, kq3, nq3⟩, -, X3, ⟨Lc3, hQ3, lq3, yq3, zq3⟩, st3⟩ := Jvm.LawKit.callS X2 hx (y := (⟨"java/lang/StringUTF16", "compress", "([CII)[B"⟩ : MethodName)) hown (mvT hZ (hw _ (own_w 58 rfl))) (mvT hZ (hw _ (own_w 59 rfl))) (mvT hZ (hw _ (own_w 60 rfl))) (mvT hZ (hw _ (own_w 61 rfl))) (by decide) (backOf (W := 0) (rC2 l Z a0 hw [] a2 p4 cs ka h0 n0 Z0 X00 O_A O_H O_W AC hp hL hcs) hZ (hw _ (own_w 61 rfl)) (hw _ (own_w 60 rfl)) (by decide) (by decide)) (g := (mkF m 36 #[.val (.ref a1), .val (.ref a2), .val (.int (0 : Int32)), .val (.int p4), .val .null, .unset] [(.int p4), (.int (0 : Int32)), (.ref a2)])) rfl (by rw [hml]; rfl) (argsL := [(.ref a2), (.int (0 : Int32)), (.int p4)]) (rest := []) (lenOf pd_12 rfl) rfl (by show 2 * 0 + _ ≤ _; exact Nat.le_of_eq rfl) (hb hby d4_36) (fun _ _ => ⟨rfl, e2, (by decide : 0 + 2 ≤ _), (by decide : 0 + 24 ≤ _)⟩)
  dsimp only [Pt.U, Pt.locs, Pt.cells, Pt.slots] at X3 lq3 yq3 zq3 st3 hQ3
  subst lq3 yq3 zq3
  obtain ⟨o3, ok3, rfl, N3q, KC3, go3, gk3, hB3⟩ := hQ3
  have N3 := Fr.app N0 N3q
  have Z3 : n0 ≤ T3.heap.size := Nat.le_trans Z0 KC3.1
  have ne4 : a1 ≠ o3 := Nat.ne_of_lt (Nat.lt_of_lt_of_le FC.lt gk3)
  have ne5 : a2 ≠ o3 := Nat.ne_of_lt (Nat.lt_of_lt_of_le AC.lt gk3)
  have K3 : Keep h0 T3.heap [a1] := (Keep.refl h0 [a1]).trans KC3 all0
  rcases hB3 with ⟨VB, hal⟩ | VB
  · skip
    obtain ⟨_, _, ⟨T6, Lq6, kq6, nq6⟩, -, X6, ⟨Lc6, hQ6, lq6, yq6, zq6⟩, st6⟩ := Jvm.LawKit.callS X3 hx (y := (⟨"java/lang/StringUTF16", "coderFromArrayLen", "([BI)B"⟩ : MethodName)) hown (mvT hZ (hw _ (own_w 65 rfl))) (mvT hZ (hw _ (own_w 66 rfl))) (mvT hZ (hw _ (own_w 60 rfl))) (mvT hZ (hw _ (own_w 67 rfl))) (by decide) (backOf (W := 1) (rK0 l Z a0 hw [] o3 p4 ok3 cs.length (own_lat cs) T3.heap n0 Z3 VB hp hL hps) hZ (hw _ (own_w 67 rfl)) (hw _ (own_w 60 rfl)) (by decide) (by decide)) (g := (mkF m 45 #[.val (.ref a1), .val (.ref a2), .val (.int (0 : Int32)), .val (.int p4), .val .null, .val (.ref o3)] [(.int p4), (.ref o3), (.ref a1)])) rfl (by rw [hml]; rfl) (argsL := [(.ref o3), (.int p4)]) (rest := [(.ref a1)]) (lenOf pd_13 rfl) rfl (by show 2 * 0 + _ ≤ _; exact Nat.le_of_eq rfl) (hb hby d4_45) (fun _ _ => ⟨rfl, rfl, (by decide : 2 + 0 ≤ _), (by decide : 24 + 0 ≤ _)⟩)
    dsimp only [Pt.U, Pt.locs, Pt.cells, Pt.slots] at X6 lq6 yq6 zq6 st6 hQ6
    subst lq6 yq6 zq6
    obtain ⟨r6, hr6, rfl, N6q, e6⟩ := hQ6
    have N6 := Fr.app N3 N6q
    subst hr6
    have f7 := (E.keep KC3)
    have f8 := (FC.keep KC3 nin0)
    obtain ⟨T9, h9, X9, e9, W9, st9⟩ := putFN X6 hx hZ hown (hw _ (own_w 30 rfl)) Via.refl e6 f8 f7 (Or.inr ⟨(hw _ (own_w 26 rfl)), rfl, hnm⟩) (hw _ (own_w 11 rfl)) (ty := .byte) (v' := (.int (nar .byte (0 : Int32)))) (by decide) rfl (fits_nar_byte _) (g := (mkF m 48 #[.val (.ref a1), .val (.ref a2), .val (.int (0 : Int32)), .val (.int p4), .val .null, .val (.ref o3)] [(.int (0 : Int32)), (.ref a1)])) rfl rfl (hb hby d4_48)
    have N9 := Fr.snoc X9 N6 ga
    have Z9 : n0 ≤ h9.size := by rw [W9.size]; exact Z3
    have K9 : Keep h0 h9 [a1] := K3.wr W9 (Or.inl (own_w 0 rfl))
    have Fw9 := f8.same W9
    have f10 := (f7.wr W9)
    have f11 := ((FV.keep KC3 nin0).other W9 (Or.inr (slot_ne (Or.inr (hw _ (own_w 25 rfl))) (Or.inr (hw _ (own_w 26 rfl))) (by decide) (t := (.array .byte)) (t' := .byte) (by decide) (by decide))))
    obtain ⟨T12, h12, X12, e12, W12, st12⟩ := putF X9 hx hZ hown (host := "") (Or.inl (hw _ (own_w 29 rfl))) Via.refl e9 f11 f10 (Or.inr ⟨(hw _ (own_w 25 rfl)), rfl, hnm⟩) (hw _ (own_w 11 rfl)) (ty := (.array .byte)) (by decide) rfl rfl (g := (mkF m 54 #[.val (.ref a1), .val (.ref a2), .val (.int (0 : Int32)), .val (.int p4), .val .null, .val (.ref o3)] [(.ref o3), (.ref a1)])) rfl rfl (hb hby d4_54)
    have N12 := Fr.snoc X12 N9 ga
    have Z12 : n0 ≤ h12.size := by rw [W12.size]; exact Z9
    have K12 : Keep h0 h12 [a1] := K9.wr W12 (Or.inl (own_w 0 rfl))
    have Fw12 := f11.same W12
    obtain ⟨fs, hr, hrun, hended, hW, hsame⟩ := X12.leave (v := none) (fun _ => rfl) (BodyLoose.notSynchronized Bd)
    refine ⟨_, _, pre0 _ ?_, hrun, hended, _, _, rfl, ?_, ⟨_, rfl⟩, hW, hsame.mono (by decide) (by decide)⟩
    · show Steps p.tables e below (s₁.setTop (mkF m 0 #[.val (.ref a1), .val (.ref a2), .val (.int (0 : Int32)), .val (.int p4), .val .null, .unset] [])) _
      refine XS.aloadN X0.here hx rfl (hb hby d4_0) rfl rfl ?_
      refine st1 _ ?_
      refine XS.iloadN X1.here hx rfl (hb hby d4_4) rfl ?_
      refine XS.ifYes X1.here hx rfl (pc0 := 5) (pc' := 27) rfl (hb hby d4_5) rfl ((if0 _ _).trans (feq (by rw [hp]; exact own_xne (by omega) hps)).2) (by decide) (by decide) ?_
      refine st2 _ ?_
      refine XS.ifNo X2.here hx rfl (hb hby d4_30) rfl ((if0 _ _).trans (feq P5).1) ?_
      refine XS.aloadN X2.here hx rfl (hb hby d4_33) rfl rfl ?_
      refine XS.iloadN X2.here hx rfl (hb hby d4_34) rfl ?_
      refine XS.iloadN X2.here hx rfl (hb hby d4_35) rfl ?_
      refine st3 _ ?_
      refine XS.astore X3.here hx rfl (hb hby d4_39) rfl rfl (l' := #[.val (.ref a1), .val (.ref a2), .val (.int (0 : Int32)), .val (.int p4), .val .null, .val (.ref o3)]) rfl ?_
      refine XS.aloadN X3.here hx rfl (hb hby d4_41) rfl rfl ?_
      refine XS.aload X3.here hx rfl (hb hby d4_42) rfl rfl ?_
      refine XS.iloadN X3.here hx rfl (hb hby d4_44) rfl ?_
      refine st6 _ ?_
      refine st9 _ ?_
      refine XS.aloadN X9.here hx rfl (hb hby d4_51) rfl rfl ?_
      refine XS.aload X9.here hx rfl (hb hby d4_52) rfl rfl ?_
      refine st12 _ ?_
      show Steps p.tables e below (T12.setTop (mkF m 57 #[.val (.ref a1), .val (.ref a2), .val (.int (0 : Int32)), .val (.int p4), .val .null, .val (.ref o3)] [])) _
      exact X12.returnOut hx Bd.returns (hb hby d4_57) hr
    · show QrI4 Z a1 a2 p4 cs ka G1 h0 n0 _ T12.heap _
      have f13 := (Fw9.other W12 (Or.inr (slot_ne (Or.inr (hw _ (own_w 26 rfl))) (Or.inr (hw _ (own_w 25 rfl))) (by decide) (t := .byte) (t' := (.array .byte)) (by decide) (by decide))))
      have f14 := (f10.wr W12)
      have f15 := ((VB.other W9 (Ne.symm ne4)).other W12 (Ne.symm ne4))
      have fc := f13
      rw [own_nb0] at fc
      have os : own_S Z h12 a1 cs := ⟨o3, _, f14, Fw12, Or.inl ⟨fc, f15, hal⟩⟩
      rw [e12]
      exact ⟨rfl, N12, K12, os⟩
  · skip
    obtain ⟨_, _, ⟨T16, Lq16, kq16, nq16⟩, -, X16, ⟨Lc16, hQ16, lq16, yq16, zq16⟩, st16⟩ := Jvm.LawKit.callS X3 hx (y := (⟨"java/lang/StringUTF16", "coderFromArrayLen", "([BI)B"⟩ : MethodName)) hown (mvT hZ (hw _ (own_w 65 rfl))) (mvT hZ (hw _ (own_w 66 rfl))) (mvT hZ (hw _ (own_w 60 rfl))) (mvT hZ (hw _ (own_w 67 rfl))) (by decide) (backOf (W := 1) (rK1 l Z a0 hw [] o3 p4 ok3 cs.length (own_utf cs) T3.heap n0 Z3 VB hp hL hps) hZ (hw _ (own_w 67 rfl)) (hw _ (own_w 60 rfl)) (by decide) (by decide)) (g := (mkF m 45 #[.val (.ref a1), .val (.ref a2), .val (.int (0 : Int32)), .val (.int p4), .val .null, .val (.ref o3)] [(.int p4), (.ref o3), (.ref a1)])) rfl (by rw [hml]; rfl) (argsL := [(.ref o3), (.int p4)]) (rest := [(.ref a1)]) (lenOf pd_13 rfl) rfl (by show 2 * 0 + _ ≤ _; exact Nat.le_of_eq rfl) (hb hby d4_45) (fun _ _ => ⟨rfl, rfl, (by decide : 2 + 0 ≤ _), (by decide : 24 + 0 ≤ _)⟩)
    dsimp only [Pt.U, Pt.locs, Pt.cells, Pt.slots] at X16 lq16 yq16 zq16 st16 hQ16
    subst lq16 yq16 zq16
    obtain ⟨r16, hr16, rfl, N16q, e16⟩ := hQ16
    have N16 := Fr.app N3 N16q
    subst hr16
    have f17 := (E.keep KC3)
    have f18 := (FC.keep KC3 nin0)
    obtain ⟨T19, h19, X19, e19, W19, st19⟩ := putFN X16 hx hZ hown (hw _ (own_w 30 rfl)) Via.refl e16 f18 f17 (Or.inr ⟨(hw _ (own_w 26 rfl)), rfl, hnm⟩) (hw _ (own_w 11 rfl)) (ty := .byte) (v' := (.int (nar .byte (1 : Int32)))) (by decide) rfl (fits_nar_byte _) (g := (mkF m 48 #[.val (.ref a1), .val (.ref a2), .val (.int (0 : Int32)), .val (.int p4), .val .null, .val (.ref o3)] [(.int (1 : Int32)), (.ref a1)])) rfl rfl (hb hby d4_48)
    have N19 := Fr.snoc X19 N16 ga
    have Z19 : n0 ≤ h19.size := by rw [W19.size]; exact Z3
    have K19 : Keep h0 h19 [a1] := K3.wr W19 (Or.inl (own_w 0 rfl))
    have Fw19 := f18.same W19
    have f20 := (f17.wr W19)
    have f21 := ((FV.keep KC3 nin0).other W19 (Or.inr (slot_ne (Or.inr (hw _ (own_w 25 rfl))) (Or.inr (hw _ (own_w 26 rfl))) (by decide) (t := (.array .byte)) (t' := .byte) (by decide) (by decide))))
    obtain ⟨T22, h22, X22, e22, W22, st22⟩ := putF X19 hx hZ hown (host := "") (Or.inl (hw _ (own_w 29 rfl))) Via.refl e19 f21 f20 (Or.inr ⟨(hw _ (own_w 25 rfl)), rfl, hnm⟩) (hw _ (own_w 11 rfl)) (ty := (.array .byte)) (by decide) rfl rfl (g := (mkF m 54 #[.val (.ref a1), .val (.ref a2), .val (.int (0 : Int32)), .val (.int p4), .val .null, .val (.ref o3)] [(.ref o3), (.ref a1)])) rfl rfl (hb hby d4_54)
    have N22 := Fr.snoc X22 N19 ga
    have Z22 : n0 ≤ h22.size := by rw [W22.size]; exact Z19
    have K22 : Keep h0 h22 [a1] := K19.wr W22 (Or.inl (own_w 0 rfl))
    have Fw22 := f21.same W22
    obtain ⟨fs, hr, hrun, hended, hW, hsame⟩ := X22.leave (v := none) (fun _ => rfl) (BodyLoose.notSynchronized Bd)
    refine ⟨_, _, pre0 _ ?_, hrun, hended, _, _, rfl, ?_, ⟨_, rfl⟩, hW, hsame.mono (by decide) (by decide)⟩
    · show Steps p.tables e below (s₁.setTop (mkF m 0 #[.val (.ref a1), .val (.ref a2), .val (.int (0 : Int32)), .val (.int p4), .val .null, .unset] [])) _
      refine XS.aloadN X0.here hx rfl (hb hby d4_0) rfl rfl ?_
      refine st1 _ ?_
      refine XS.iloadN X1.here hx rfl (hb hby d4_4) rfl ?_
      refine XS.ifYes X1.here hx rfl (pc0 := 5) (pc' := 27) rfl (hb hby d4_5) rfl ((if0 _ _).trans (feq (by rw [hp]; exact own_xne (by omega) hps)).2) (by decide) (by decide) ?_
      refine st2 _ ?_
      refine XS.ifNo X2.here hx rfl (hb hby d4_30) rfl ((if0 _ _).trans (feq P5).1) ?_
      refine XS.aloadN X2.here hx rfl (hb hby d4_33) rfl rfl ?_
      refine XS.iloadN X2.here hx rfl (hb hby d4_34) rfl ?_
      refine XS.iloadN X2.here hx rfl (hb hby d4_35) rfl ?_
      refine st3 _ ?_
      refine XS.astore X3.here hx rfl (hb hby d4_39) rfl rfl (l' := #[.val (.ref a1), .val (.ref a2), .val (.int (0 : Int32)), .val (.int p4), .val .null, .val (.ref o3)]) rfl ?_
      refine XS.aloadN X3.here hx rfl (hb hby d4_41) rfl rfl ?_
      refine XS.aload X3.here hx rfl (hb hby d4_42) rfl rfl ?_
      refine XS.iloadN X3.here hx rfl (hb hby d4_44) rfl ?_
      refine st16 _ ?_
      refine st19 _ ?_
      refine XS.aloadN X19.here hx rfl (hb hby d4_51) rfl rfl ?_
      refine XS.aload X19.here hx rfl (hb hby d4_52) rfl rfl ?_
      refine st22 _ ?_
      show Steps p.tables e below (T22.setTop (mkF m 57 #[.val (.ref a1), .val (.ref a2), .val (.int (0 : Int32)), .val (.int p4), .val .null, .val (.ref o3)] [])) _
      exact X22.returnOut hx Bd.returns (hb hby d4_57) hr
    · show QrI4 Z a1 a2 p4 cs ka G1 h0 n0 _ T22.heap _
      have f23 := (Fw19.other W22 (Or.inr (slot_ne (Or.inr (hw _ (own_w 26 rfl))) (Or.inr (hw _ (own_w 25 rfl))) (by decide) (t := .byte) (t' := (.array .byte)) (by decide) (by decide))))
      have f24 := (f20.wr W22)
      have f25 := ((VB.other W19 (Ne.symm ne4)).other W22 (Ne.symm ne4))
      have fc := f23
      rw [own_nb1] at fc
      have os : own_S Z h22 a1 cs := ⟨o3, _, f24, Fw22, Or.inr ⟨fc, f25⟩⟩
      rw [e22]
      exact ⟨rfl, N22, K22, os⟩
theorem pd_14 : parseMethodDescriptor "([CIILjava/lang/Void;)V" = some ⟨[(.array .char), .int, .int, (.object "java/lang/Void")], none⟩ := by decide +kernel
theorem d3_0 : decode jdk_42_method_3_code 0 = .ok (.aload_n 0, 1) := by decide +kernel
theorem d3_1 : decode jdk_42_method_3_code 1 = .ok (.aload_n 1, 1) := by decide +kernel
theorem d3_2 : decode jdk_42_method_3_code 2 = .ok (.iconst 0, 1) := by decide +kernel
theorem d3_3 : decode jdk_42_method_3_code 3 = .ok (.aload_n 1, 1) := by decide +kernel
theorem d3_4 : decode jdk_42_method_3_code 4 = .ok (.arraylength, 1) := by decide +kernel
theorem d3_5 : decode jdk_42_method_3_code 5 = .ok (.aconst_null, 1) := by decide +kernel
theorem d3_6 : decode jdk_42_method_3_code 6 = .ok (.invokespecial 27, 3) := by decide +kernel
theorem d3_9 : decode jdk_42_method_3_code 9 = .ok (.return_, 1) := by decide +kernel
theorem pn_3 : plainName "java/lang/String" = true := by first | (simp [plainName, overriddenIn]; done) | decide +kernel
theorem ef_rI1 (m : MethodId) (a1 : Addr) (a2 : Addr) : entryFrame m #[(.ref a1), (.ref a2)] 2 = mkF m 0 #[.val (.ref a1), .val (.ref a2)] [] := by first | (simp [entryFrame, mkF, argsToLocals, Value.category]; done) | rfl
def QrI1 (Z : State) (a1 : Addr) (a2 : Addr) (cs : List Int32) (ka : ClassId) (G1 : Int32) (h0 : Heap) (n0 : Nat) (v : Option Value) (h : Heap) (L : List Loc) : Prop := v = none ∧ Fr n0 L ∧ Keep h0 h [a1] ∧ own_S Z h a1 cs
set_option maxRecDepth 65536 in
set_option maxHeartbeats 40000000 in
theorem rI1 (l : Launch) (Z : State) (a0 : Array Value) (hw : ∀ d ∈ tables_1, d.before a0 Z = true) (ws : List Jvm.Cond) (a1 : Addr) (a2 : Addr) (cs : List Int32) (ka : ClassId) (G1 : Int32) (h0 : Heap) (n0 : Nat) (Z0 : n0 ≤ h0.size) (E : Exa Z h0 a1 "java/lang/String") (FV : Fld Z h0 a1 "java/lang/String" "value" "[B" .null) (FC : Fld Z h0 a1 "java/lang/String" "coder" "B" (.int (0 : Int32))) (ga : n0 ≤ a1) (X00 : Old Z n0 h0) (O_2 : Sta Z Z.heap "java/lang/String" "COMPACT_STRINGS" "Z" (.int G1)) (P5 : ¬ (G1 = (0 : Int32))) (O_A : Sta Z Z.heap "java/lang/StringUTF16" "$assertionsDisabled" "Z" (.int (1 : Int32))) (O_H : Sta Z Z.heap "java/lang/StringUTF16" "HI_BYTE_SHIFT" "I" (.int (0 : Int32))) (O_W : Sta Z Z.heap "java/lang/StringUTF16" "LO_BYTE_SHIFT" "I" (.int (8 : Int32))) (AC : Arv Z h0 a2 ka .char (Int32.ofNat cs.length) (cs.map Value.int) (.int (0 : Int32))) (hL : cs.length < 8) (hps : 0 < cs.length) (hcs : ∀ c ∈ cs, own_ch c) (n12 : a1 ≠ a2) :
    MetFree l (⟨"java/lang/String", "<init>", "([C)V"⟩ : MethodName) (head1 (Jvm.Cond.code (⟨"java/lang/String", "<init>", "([C)V"⟩ : MethodName) jdk_42_method_3_code 2 none :: ws) ({ frames := 7, cells := 2, slots := 24, locals := 150 } : Room)) (fun a U => a = #[(.ref a1), (.ref a2)] ∧ Z.Warmed39 U.vm ∧ U.heap = h0) (fun _ _ _ _ _ => True) (fun _ U o U' => ∃ v L, o = .returned v ∧ QrI1 Z a1 a2 cs ka G1 h0 n0 v U'.heap L ∧ FrameEnd U o U' L ({ frames := 7, cells := 2, slots := 24, locals := 150 } : Room).cells ({ frames := 7, cells := 2, slots := 24, locals := 150 } : Room).slots) := by
  refine MetFree.of_bodySF (plainFor_of_name pn_3) hisR ?_
  intro p e s m args below meth c s₁ Bd hml0 hP hK
  obtain ⟨rfl, hZ, hh⟩ := hP
  have hx := Bd.exec
  have hby := Bd.bytes
  have hml : c.maxLocals = 2 := hml0
  have hown : s.vm.findClass "java/lang/String" = some m.cls := findClass_of_methodNamed Bd.named
  have hnm := (name_of_methodNamed Bd.named Bd.method).1
  have X0 : Stand p l e ({ frames := 7, cells := 2, slots := 24, locals := 150 } : Room) s m #[(.ref a1), (.ref a2)] below meth c s₁ [] 0 0 := Stand.of_body Bd
  have e0 : s₁.heap = h0 := by rw [← hh, Bd.state]; rfl
  have N0 := Fr.nil n0
  have pre0 : ∀ t, Steps p.tables e below (s₁.setTop (mkF m 0 #[.val (.ref a1), .val (.ref a2)] [])) t → Steps p.tables e below (s₁.setTop (entryFrame m #[(.ref a1), (.ref a2)] 2)) t := fun t k => castTop (ef_rI1 m a1 a2) k
  obtain ⟨cl1, Ar1, qk1, Sz1, Nn1, Hh1, Gg1⟩ := id (AC)
  obtain ⟨_, _, ⟨T2, Lq2, kq2, nq2⟩, -, X2, ⟨Lc2, hQ2, lq2, yq2, zq2⟩, st2⟩ := X0.specialBack hx (y := (⟨"java/lang/String", "<init>", "([CIILjava/lang/Void;)V"⟩ : MethodName)) rfl hown (mvT hZ (hw _ (own_w 16 rfl))) (mvT hZ (hw _ (own_w 17 rfl))) (mvT hZ (hw _ (own_w 19 rfl))) (by decide) (backOf (W := 0) (rI4 l Z a0 hw [] a1 a2 (Int32.ofNat cs.length) cs ka G1 h0 n0 Z0 E FV FC ga X00 O_2 P5 O_A O_H O_W AC hL hps hcs n12 rfl) hZ (hw _ (own_w 19 rfl)) (hw _ (own_w 12 rfl)) (by decide) (by decide)) (g := (mkF m 6 #[.val (.ref a1), .val (.ref a2)] [.null, (.int (Int32.ofNat cs.length)), (.int (0 : Int32)), (.ref a2), (.ref a1)])) rfl (by rw [hml]; rfl) (Steps.refl _) (a := a1) (argsL := [(.ref a2), (.int (0 : Int32)), (.int (Int32.ofNat cs.length)), .null]) (rest := []) (lenOf pd_14 rfl) rfl (by show 2 * 0 + _ ≤ _; exact Nat.le_of_eq rfl) (hb hby d3_6) (fun _ _ => ⟨rfl, e0, (by decide : 0 + 2 ≤ _), (by decide : 0 + 24 ≤ _)⟩)
  dsimp only [Pt.U, Pt.locs, Pt.cells, Pt.slots] at X2 lq2 yq2 zq2 st2 hQ2
  subst lq2 yq2 zq2
  obtain ⟨rfl, N2q, KC2, TS2⟩ := hQ2
  have N2 := Fr.app N0 N2q
  have Z2 : n0 ≤ T2.heap.size := Nat.le_trans Z0 KC2.1
  have K2 : Keep h0 T2.heap [a1] := (Keep.refl h0 [a1]).trans KC2 (allS (Or.inl (own_w 0 rfl)) all0)
  obtain ⟨fs, hr, hrun, hended, hW, hsame⟩ := X2.leave (v := none) (fun _ => rfl) (BodyLoose.notSynchronized Bd)
  refine ⟨_, _, pre0 _ ?_, hrun, hended, _, _, rfl, ?_, ⟨_, rfl⟩, hW, hsame.mono (by decide) (by decide)⟩
  · show Steps p.tables e below (s₁.setTop (mkF m 0 #[.val (.ref a1), .val (.ref a2)] [])) _
    refine XS.aloadN X0.here hx rfl (hb hby d3_0) rfl rfl ?_
    refine XS.aloadN X0.here hx rfl (hb hby d3_1) rfl rfl ?_
    refine XS.iconst X0.here hx rfl (hb hby d3_2) ?_
    refine XS.aloadN X0.here hx rfl (hb hby d3_3) rfl rfl ?_
    refine X0.arraylength hx (by rw [e0]; exact Ar1.1) (State.isArrayOf_alike hZ.alike Ar1.2.1) (g := (mkF m 4 #[.val (.ref a1), .val (.ref a2)] [(.ref a2), (.int (0 : Int32)), (.ref a2), (.ref a1)])) rfl rfl (hb hby d3_4) _ ?_
    rw [len_of Sz1 Nn1]
    show Steps p.tables e below (s₁.setTop (mkF m 5 #[.val (.ref a1), .val (.ref a2)] [(.int (Int32.ofNat cs.length)), (.int (0 : Int32)), (.ref a2), (.ref a1)])) _
    refine XS.aconstNull X0.here hx rfl (hb hby d3_5) ?_
    refine st2.trans ?_
    show Steps p.tables e below (T2.setTop (mkF m 9 #[.val (.ref a1), .val (.ref a2)] [])) _
    exact X2.returnOut hx Bd.returns (hb hby d3_9) hr
  · show QrI1 Z a1 a2 cs ka G1 h0 n0 _ T2.heap _
    exact ⟨rfl, N2, K2, TS2⟩
theorem d45_0 : decode jdk_65_method_131_code 0 = .ok (.iload_n 1, 1) := by decide +kernel
theorem d45_1 : decode jdk_65_method_131_code 1 = .ok (.iload_n 0, 1) := by decide +kernel
theorem d45_2 : decode jdk_65_method_131_code 2 = .ok (.if_icmp .ge 35, 3) := by decide +kernel
theorem d45_37 : decode jdk_65_method_131_code 37 = .ok (.return_, 1) := by decide +kernel
theorem pn_45 : plainName "java/util/Arrays" = true := by first | (simp [plainName, overriddenIn]; done) | decide +kernel
theorem ef_rCL (m : MethodId) (p1 : Int32) (p2 : Int32) : entryFrame m #[(.int p1), (.int p2)] 2 = mkF m 0 #[.val (.int p1), .val (.int p2)] [] := by first | (simp [entryFrame, mkF, argsToLocals, Value.category]; done) | rfl
def QrCL (Z : State) (p1 : Int32) (p2 : Int32) (h0 : Heap) (n0 : Nat) (v : Option Value) (h : Heap) (L : List Loc) : Prop := v = none ∧ Fr n0 L ∧ h = h0
set_option maxRecDepth 65536 in
set_option maxHeartbeats 40000000 in
theorem rCL (l : Launch) (Z : State) (a0 : Array Value) (hw : ∀ d ∈ tables_1, d.before a0 Z = true) (ws : List Jvm.Cond) (p1 : Int32) (p2 : Int32) (h0 : Heap) (n0 : Nat) (Z0 : n0 ≤ h0.size) (hm : ¬ p2 < p1) :
    MetFree l (⟨"java/util/Arrays", "checkLength", "(II)V"⟩ : MethodName) (head1 (Jvm.Cond.code (⟨"java/util/Arrays", "checkLength", "(II)V"⟩ : MethodName) jdk_65_method_131_code 2 none :: ws) ({ frames := 0, cells := 0, slots := 0, locals := 0 } : Room)) (fun a U => a = #[(.int p1), (.int p2)] ∧ Z.Warmed39 U.vm ∧ U.heap = h0) (fun _ _ _ _ _ => True) (fun _ U o U' => ∃ v L, o = .returned v ∧ QrCL Z p1 p2 h0 n0 v U'.heap L ∧ FrameEnd U o U' L ({ frames := 0, cells := 0, slots := 0, locals := 0 } : Room).cells ({ frames := 0, cells := 0, slots := 0, locals := 0 } : Room).slots) := by
  refine MetFree.of_bodySF (plainFor_of_name pn_45) hisR ?_
  intro p e s m args below meth c s₁ Bd hml0 hP hK
  obtain ⟨rfl, hZ, hh⟩ := hP
  have hx := Bd.exec
  have hby := Bd.bytes
  have hml : c.maxLocals = 2 := hml0
  have hown : s.vm.findClass "java/util/Arrays" = some m.cls := findClass_of_methodNamed Bd.named
  have hnm := (name_of_methodNamed Bd.named Bd.method).1
  have X0 : Stand p l e ({ frames := 0, cells := 0, slots := 0, locals := 0 } : Room) s m #[(.int p1), (.int p2)] below meth c s₁ [] 0 0 := Stand.of_body Bd
  have e0 : s₁.heap = h0 := by rw [← hh, Bd.state]; rfl
  have N0 := Fr.nil n0
  have pre0 : ∀ t, Steps p.tables e below (s₁.setTop (mkF m 0 #[.val (.int p1), .val (.int p2)] [])) t → Steps p.tables e below (s₁.setTop (entryFrame m #[(.int p1), (.int p2)] 2)) t := fun t k => castTop (ef_rCL m p1 p2) k
  obtain ⟨fs, hr, hrun, hended, hW, hsame⟩ := X0.leave (v := none) (fun _ => rfl) (BodyLoose.notSynchronized Bd)
  refine ⟨_, _, pre0 _ ?_, hrun, hended, _, _, rfl, ?_, ⟨_, rfl⟩, hW, hsame.mono (by decide) (by decide)⟩
  · show Steps p.tables e below (s₁.setTop (mkF m 0 #[.val (.int p1), .val (.int p2)] [])) _
    refine XS.iloadN X0.here hx rfl (hb hby d45_0) rfl ?_
    refine XS.iloadN X0.here hx rfl (hb hby d45_1) rfl ?_
    refine XS.icmpYes X0.here hx rfl (pc0 := 2) (pc' := 37) rfl (hb hby d45_2) rfl (flt hm).2.1 (by decide) (by decide) ?_
    show Steps p.tables e below (s₁.setTop (mkF m 37 #[.val (.int p1), .val (.int p2)] [])) _
    exact X0.returnOut hx Bd.returns (hb hby d45_37) hr
  · show QrCL Z p1 p2 h0 n0 _ s₁.heap _
    exact ⟨rfl, N0, e0⟩
theorem d46_0 : decode jdk_29_method_69_code 0 = .ok (.iload_n 0, 1) := by decide +kernel
theorem d46_1 : decode jdk_29_method_69_code 1 = .ok (.iload_n 1, 1) := by decide +kernel
theorem d46_2 : decode jdk_29_method_69_code 2 = .ok (.if_icmp .gt 7, 3) := by decide +kernel
theorem d46_5 : decode jdk_29_method_69_code 5 = .ok (.iload_n 0, 1) := by decide +kernel
theorem d46_6 : decode jdk_29_method_69_code 6 = .ok (.goto 4, 3) := by decide +kernel
theorem d46_9 : decode jdk_29_method_69_code 9 = .ok (.iload_n 1, 1) := by decide +kernel
theorem d46_10 : decode jdk_29_method_69_code 10 = .ok (.ireturn, 1) := by decide +kernel
theorem ef_rMn (m : MethodId) (p1 : Int32) (p2 : Int32) : entryFrame m #[(.int p1), (.int p2)] 2 = mkF m 0 #[.val (.int p1), .val (.int p2)] [] := by first | (simp [entryFrame, mkF, argsToLocals, Value.category]; done) | rfl
def QrMn (Z : State) (p1 : Int32) (p2 : Int32) (h0 : Heap) (n0 : Nat) (v : Option Value) (h : Heap) (L : List Loc) : Prop := ∃ z : Int32, z = (if p2 < p1 then p2 else p1) ∧ v = some (.int z) ∧ Fr n0 L ∧ h = h0
set_option maxRecDepth 65536 in
set_option maxHeartbeats 40000000 in
theorem rMn (l : Launch) (Z : State) (a0 : Array Value) (hw : ∀ d ∈ tables_1, d.before a0 Z = true) (ws : List Jvm.Cond) (p1 : Int32) (p2 : Int32) (h0 : Heap) (n0 : Nat) (Z0 : n0 ≤ h0.size) :
    MetFree l (⟨"java/lang/Math", "min", "(II)I"⟩ : MethodName) (head1 (Jvm.Cond.code (⟨"java/lang/Math", "min", "(II)I"⟩ : MethodName) jdk_29_method_69_code 2 (some .int) :: ws) ({ frames := 0, cells := 0, slots := 0, locals := 0 } : Room)) (fun a U => a = #[(.int p1), (.int p2)] ∧ Z.Warmed39 U.vm ∧ U.heap = h0) (fun _ _ _ _ _ => True) (fun _ U o U' => ∃ v L, o = .returned v ∧ QrMn Z p1 p2 h0 n0 v U'.heap L ∧ FrameEnd U o U' L ({ frames := 0, cells := 0, slots := 0, locals := 0 } : Room).cells ({ frames := 0, cells := 0, slots := 0, locals := 0 } : Room).slots) := by
  refine MetFree.of_bodySF (Jvm.Free.JP.mathPlain rfl (by decide +kernel)) hisR ?_
  intro p e s m args below meth c s₁ Bd hml0 hP hK
  obtain ⟨rfl, hZ, hh⟩ := hP
  have hx := Bd.exec
  have hby := Bd.bytes
  have hml : c.maxLocals = 2 := hml0
  have hown : s.vm.findClass "java/lang/Math" = some m.cls := findClass_of_methodNamed Bd.named
  have hnm := (name_of_methodNamed Bd.named Bd.method).1
  have X0 : Stand p l e ({ frames := 0, cells := 0, slots := 0, locals := 0 } : Room) s m #[(.int p1), (.int p2)] below meth c s₁ [] 0 0 := Stand.of_body Bd
  have e0 : s₁.heap = h0 := by rw [← hh, Bd.state]; rfl
  have N0 := Fr.nil n0
  have pre0 : ∀ t, Steps p.tables e below (s₁.setTop (mkF m 0 #[.val (.int p1), .val (.int p2)] [])) t → Steps p.tables e below (s₁.setTop (entryFrame m #[(.int p1), (.int p2)] 2)) t := fun t k => castTop (ef_rMn m p1 p2) k
  by_cases hc2 : p2 < p1
  · obtain ⟨fs, hr, hrun, hended, hW, hsame⟩ := X0.leave (v := some (.int p2)) (fun h => by rw [Bd.returns] at h; cases h) (BodyLoose.notSynchronized Bd)
    refine ⟨_, _, pre0 _ ?_, hrun, hended, _, _, rfl, ?_, ⟨_, rfl⟩, hW, hsame.mono (by decide) (by decide)⟩
    · show Steps p.tables e below (s₁.setTop (mkF m 0 #[.val (.int p1), .val (.int p2)] [])) _
      refine XS.iloadN X0.here hx rfl (hb hby d46_0) rfl ?_
      refine XS.iloadN X0.here hx rfl (hb hby d46_1) rfl ?_
      refine XS.icmpYes X0.here hx rfl (pc0 := 2) (pc' := 9) rfl (hb hby d46_2) rfl (tlt hc2).2.2.1 (by decide) (by decide) ?_
      refine XS.iloadN X0.here hx rfl (hb hby d46_9) rfl ?_
      show Steps p.tables e below (s₁.setTop (mkF m 10 #[.val (.int p1), .val (.int p2)] [(.int p2)])) _
      exact retI X0 hx Bd.returns (hb hby d46_10) hr
    · show QrMn Z p1 p2 h0 n0 _ s₁.heap _
      exact ⟨_, by simp [*], rfl, N0, e0⟩
  · obtain ⟨fs, hr, hrun, hended, hW, hsame⟩ := X0.leave (v := some (.int p1)) (fun h => by rw [Bd.returns] at h; cases h) (BodyLoose.notSynchronized Bd)
    refine ⟨_, _, pre0 _ ?_, hrun, hended, _, _, rfl, ?_, ⟨_, rfl⟩, hW, hsame.mono (by decide) (by decide)⟩
    · show Steps p.tables e below (s₁.setTop (mkF m 0 #[.val (.int p1), .val (.int p2)] [])) _
      refine XS.iloadN X0.here hx rfl (hb hby d46_0) rfl ?_
      refine XS.iloadN X0.here hx rfl (hb hby d46_1) rfl ?_
      refine XS.icmpNo X0.here hx rfl (hb hby d46_2) rfl (flt hc2).2.2.1 ?_
      refine XS.iloadN X0.here hx rfl (hb hby d46_5) rfl ?_
      refine XS.goto X0.here hx rfl (pc0 := 6) (pc' := 10) rfl (hb hby d46_6) (by decide) (by decide) ?_
      show Steps p.tables e below (s₁.setTop (mkF m 10 #[.val (.int p1), .val (.int p2)] [(.int p1)])) _
      exact retI X0 hx Bd.returns (hb hby d46_10) hr
    · show QrMn Z p1 p2 h0 n0 _ s₁.heap _
      exact ⟨_, by simp [*], rfl, N0, e0⟩
theorem pd_15 : parseMethodDescriptor "(II)I" = some ⟨[.int, .int], some .int⟩ := by decide +kernel
theorem d44_0 : decode jdk_65_method_133_code 0 = .ok (.iload_n 1, 1) := by decide +kernel
theorem d44_1 : decode jdk_65_method_133_code 1 = .ok (.iload_n 2, 1) := by decide +kernel
theorem d44_2 : decode jdk_65_method_133_code 2 = .ok (.invokestatic 343, 3) := by decide +kernel
theorem d44_5 : decode jdk_65_method_133_code 5 = .ok (.iload_n 2, 1) := by decide +kernel
theorem d44_6 : decode jdk_65_method_133_code 6 = .ok (.iload_n 1, 1) := by decide +kernel
theorem d44_7 : decode jdk_65_method_133_code 7 = .ok (.isub, 1) := by decide +kernel
theorem d44_8 : decode jdk_65_method_133_code 8 = .ok (.istore_n 3, 1) := by decide +kernel
theorem d44_9 : decode jdk_65_method_133_code 9 = .ok (.iload_n 3, 1) := by decide +kernel
theorem d44_10 : decode jdk_65_method_133_code 10 = .ok (.newarray .byte, 2) := by decide +kernel
theorem d44_12 : decode jdk_65_method_133_code 12 = .ok (.astore 4, 2) := by decide +kernel
theorem d44_14 : decode jdk_65_method_133_code 14 = .ok (.aload_n 0, 1) := by decide +kernel
theorem d44_15 : decode jdk_65_method_133_code 15 = .ok (.iload_n 1, 1) := by decide +kernel
theorem d44_16 : decode jdk_65_method_133_code 16 = .ok (.aload 4, 2) := by decide +kernel
theorem d44_18 : decode jdk_65_method_133_code 18 = .ok (.iconst 0, 1) := by decide +kernel
theorem d44_19 : decode jdk_65_method_133_code 19 = .ok (.aload_n 0, 1) := by decide +kernel
theorem d44_20 : decode jdk_65_method_133_code 20 = .ok (.arraylength, 1) := by decide +kernel
theorem d44_21 : decode jdk_65_method_133_code 21 = .ok (.iload_n 1, 1) := by decide +kernel
theorem d44_22 : decode jdk_65_method_133_code 22 = .ok (.isub, 1) := by decide +kernel
theorem d44_23 : decode jdk_65_method_133_code 23 = .ok (.iload_n 3, 1) := by decide +kernel
theorem d44_24 : decode jdk_65_method_133_code 24 = .ok (.invokestatic 304, 3) := by decide +kernel
theorem d44_27 : decode jdk_65_method_133_code 27 = .ok (.invokestatic 150, 3) := by decide +kernel
theorem d44_30 : decode jdk_65_method_133_code 30 = .ok (.aload 4, 2) := by decide +kernel
theorem d44_32 : decode jdk_65_method_133_code 32 = .ok (.areturn, 1) := by decide +kernel
theorem pn_44 : plainName "java/util/Arrays" = true := by first | (simp [plainName, overriddenIn]; done) | decide +kernel
theorem ef_rRb (m : MethodId) (a1 : Addr) (p2 : Int32) (p3 : Int32) : entryFrame m #[(.ref a1), (.int p2), (.int p3)] 5 = mkF m 0 #[.val (.ref a1), .val (.int p2), .val (.int p3), .unset, .unset] [] := by first | (simp [entryFrame, mkF, argsToLocals, Value.category]; done) | rfl
def QrRb (Z : State) (a1 : Addr) (p2 : Int32) (p3 : Int32) (k : ClassId) (nn : Nat) (f : Nat) (w : Nat) (vs : List Value) (h0 : Heap) (n0 : Nat) (v : Option Value) (h : Heap) (L : List Loc) : Prop := ∃ (o : Addr) (ok : ClassId), v = some (.ref o) ∧ Fr n0 L ∧ Keep h0 h [] ∧ n0 ≤ o ∧ h0.size ≤ o ∧ Arv Z h o ok .byte (Int32.ofNat w) ((List.range w).map fun i => vs.getD (f + i) (.int (0 : Int32))) (.int (0 : Int32))
set_option maxRecDepth 65536 in
set_option maxHeartbeats 40000000 in
theorem rRb (l : Launch) (Z : State) (a0 : Array Value) (hw : ∀ d ∈ tables_1, d.before a0 Z = true) (ws : List Jvm.Cond) (a1 : Addr) (p2 : Int32) (p3 : Int32) (k : ClassId) (nn : Nat) (f : Nat) (w : Nat) (vs : List Value) (h0 : Heap) (n0 : Nat) (Z0 : n0 ≤ h0.size) (AV : Arv Z h0 a1 k .byte (Int32.ofNat nn) (vs) (.int (0 : Int32))) (hp2 : p2 = Int32.ofNat f) (hp3 : p3 = Int32.ofNat (f + w)) (hfw : f + w ≤ nn) (hN : nn < 16) :
    MetFree l (⟨"java/util/Arrays", "copyOfRangeByte", "([BII)[B"⟩ : MethodName) (head1 (Jvm.Cond.code (⟨"java/util/Arrays", "copyOfRangeByte", "([BII)[B"⟩ : MethodName) jdk_65_method_133_code 5 (some (.array .byte)) :: ws) ({ frames := 1, cells := 1, slots := 16, locals := 18 } : Room)) (fun a U => a = #[(.ref a1), (.int p2), (.int p3)] ∧ Z.Warmed39 U.vm ∧ U.heap = h0) (fun _ _ _ _ _ => True) (fun _ U o U' => ∃ v L, o = .returned v ∧ QrRb Z a1 p2 p3 k nn f w vs h0 n0 v U'.heap L ∧ FrameEnd U o U' L ({ frames := 1, cells := 1, slots := 16, locals := 18 } : Room).cells ({ frames := 1, cells := 1, slots := 16, locals := 18 } : Room).slots) := by
  refine MetFree.of_bodySF (plainFor_of_name pn_44) hisR ?_
  intro p e s m args below meth c s₁ Bd hml0 hP hK
  obtain ⟨rfl, hZ, hh⟩ := hP
  have hx := Bd.exec
  have hby := Bd.bytes
  have hml : c.maxLocals = 5 := hml0
  have hown : s.vm.findClass "java/util/Arrays" = some m.cls := findClass_of_methodNamed Bd.named
  have hnm := (name_of_methodNamed Bd.named Bd.method).1
  have X0 : Stand p l e ({ frames := 1, cells := 1, slots := 16, locals := 18 } : Room) s m #[(.ref a1), (.int p2), (.int p3)] below meth c s₁ [] 0 0 := Stand.of_body Bd
  have e0 : s₁.heap = h0 := by rw [← hh, Bd.state]; rfl
  have N0 := Fr.nil n0
  have pre0 : ∀ t, Steps p.tables e below (s₁.setTop (mkF m 0 #[.val (.ref a1), .val (.int p2), .val (.int p3), .unset, .unset] [])) t → Steps p.tables e below (s₁.setTop (entryFrame m #[(.ref a1), (.int p2), (.int p3)] 5)) t := fun t k => castTop (ef_rRb m a1 p2 p3) k
  obtain ⟨_, _, ⟨T1, Lq1, kq1, nq1⟩, -, X1, ⟨Lc1, hQ1, lq1, yq1, zq1⟩, st1⟩ := Jvm.LawKit.callS X0 hx (y := (⟨"java/util/Arrays", "checkLength", "(II)V"⟩ : MethodName)) hown (mvT hZ (hw _ (own_w 189 rfl))) (mvT hZ (hw _ (own_w 190 rfl))) (mvT hZ (hw _ (own_w 184 rfl))) (mvT hZ (hw _ (own_w 191 rfl))) (by decide) (backOf (W := 0) (rCL l Z a0 hw [] (Int32.ofNat f) (Int32.ofNat (f + w))  h0 n0 Z0 (own_xle (by omega) (by omega))) hZ (hw _ (own_w 191 rfl)) (hw _ (own_w 184 rfl)) (by decide) (by decide)) (g := (mkF m 2 #[.val (.ref a1), .val (.int (Int32.ofNat f)), .val (.int (Int32.ofNat (f + w))), .unset, .unset] [(.int (Int32.ofNat (f + w))), (.int (Int32.ofNat f))])) rfl (by rw [hml]; rfl) (argsL := [(.int (Int32.ofNat f)), (.int (Int32.ofNat (f + w)))]) (rest := []) (lenOf pd_3 rfl) rfl (by show 2 * 0 + _ ≤ _; exact Nat.le_of_eq rfl) (hb hby d44_2) (fun _ _ => ⟨rfl, e0, (by decide : 0 + 0 ≤ _), (by decide : 0 + 0 ≤ _)⟩)
  dsimp only [Pt.U, Pt.locs, Pt.cells, Pt.slots] at X1 lq1 yq1 zq1 st1 hQ1
  subst lq1 yq1 zq1
  obtain ⟨rfl, N1q, e1⟩ := hQ1
  have N1 := Fr.app N0 N1q
  obtain ⟨T2, h2, ck2, X2, e2, E2, A2, st2⟩ := newP X1 hx hZ (hw _ (own_w 24 rfl)) e1 (g := (mkF m 10 #[.val (.ref a1), .val (.int (Int32.ofNat f)), .val (.int (Int32.ofNat (f + w))), .val (.int (Int32.ofNat w)), .unset] [(.int (Int32.ofNat w))])) rfl (hb hby d44_10) rfl (own_x0 (by omega)) (cap := 16) (by rw [own_xN (by omega)]; omega) (by decide) (by decide) (by decide)
  obtain ⟨b2o, g2⟩ : ∃ z, z = h0.size := ⟨_, rfl⟩
  have b2 : n0 ≤ b2o := Nat.le_trans Z0 (Nat.le_of_eq g2.symm)
  have bk2 : h0.size ≤ b2o := Nat.le_trans (Keep.refl h0 []).1 (Nat.le_of_eq g2.symm)
  have ne3 : a1 ≠ b2o := Nat.ne_of_lt (Nat.lt_of_lt_of_le AV.lt (Nat.le_of_eq g2.symm))
  rw [← g2] at A2 st2
  have Z2 : n0 ≤ h2.size := Nat.le_trans Z0 E2.1
  have K2 : Keep h0 h2 [] := (Keep.refl h0 []).ext E2
  have V2 : Arv Z h2 b2o ck2 .byte (Int32.ofNat w) (List.replicate (w) (.int (0 : Int32))) (.int (0 : Int32)) := (Arv.new A2 (own_x0 (by omega))).pad (pad_rep [] (.int (0 : Int32)) (w))
  have f4 := (AV.ext E2)
  obtain ⟨cl5, Ar5, qk5, Sz5, Nn5, Hh5, Gg5⟩ := id (f4)
  obtain ⟨_, _, ⟨T6, Lq6, kq6, nq6⟩, -, X6, ⟨Lc6, hQ6, lq6, yq6, zq6⟩, st6⟩ := Jvm.LawKit.callS X2 hx (y := (⟨"java/lang/Math", "min", "(II)I"⟩ : MethodName)) hown (mvT hZ (hw _ (own_w 192 rfl))) (mvT hZ (hw _ (own_w 193 rfl))) (mvT hZ (hw _ (own_w 194 rfl))) (mvT hZ (hw _ (own_w 195 rfl))) (by decide) (backOf (W := 4) (rMn l Z a0 hw [] (Int32.ofNat (nn - f)) (Int32.ofNat w)  h2 n0 Z2 ) hZ (hw _ (own_w 195 rfl)) (hw _ (own_w 194 rfl)) (by decide) (by decide)) (g := (mkF m 24 #[.val (.ref a1), .val (.int (Int32.ofNat f)), .val (.int (Int32.ofNat (f + w))), .val (.int (Int32.ofNat w)), .val (.ref b2o)] [(.int (Int32.ofNat w)), (.int (Int32.ofNat (nn - f))), (.int (0 : Int32)), (.ref b2o), (.int (Int32.ofNat f)), (.ref a1)])) rfl (by rw [hml]; rfl) (argsL := [(.int (Int32.ofNat (nn - f))), (.int (Int32.ofNat w))]) (rest := [(.int (0 : Int32)), (.ref b2o), (.int (Int32.ofNat f)), (.ref a1)]) (lenOf pd_15 rfl) rfl (by show 2 * 0 + _ ≤ _; exact Nat.le_of_eq rfl) (hb hby d44_24) (fun _ _ => ⟨rfl, e2, (by decide : 1 + 0 ≤ _), (by decide : 16 + 0 ≤ _)⟩)
  dsimp only [Pt.U, Pt.locs, Pt.cells, Pt.slots] at X6 lq6 yq6 zq6 st6 hQ6
  subst lq6 yq6 zq6
  obtain ⟨r6, hr6, rfl, N6q, e6⟩ := hQ6
  have N6 := Fr.app N1 N6q
  obtain ⟨T7, h7, L7, X7, e7, N7, KC7, V7, st7⟩ := cpA X6 hx hZ hown (hw _ (own_w 196 rfl)) (hw _ (own_w 199 rfl)) (hw _ (own_w 197 rfl)) (hw _ (own_w 198 rfl)) e6 (sp := (Int32.ofNat f)) (dp := (0 : Int32)) (nn := (Int32.ofNat w)) (us := (List.range w).map fun i => vs.getD (f + i) (.int (0 : Int32))) f4 V2 (Or.inl ⟨rfl, rfl⟩) (own_x0 (by omega)) (by decide) (own_x0 (by omega)) (by rw [own_xN (by omega), own_xN (by omega), own_xN (by omega)]; omega) (by rw [own_xN (by omega), show (0 : Int32).toNatClampNeg = 0 from by decide]; omega) (by rw [own_xN (by omega : f < 16), own_xN (by omega : w < 16)]) (by rw [own_xN (by omega), show (0 : Int32).toNatClampNeg = 0 from by decide, List.length_replicate]; omega) N6 b2 (g := (mkF m 27 #[.val (.ref a1), .val (.int (Int32.ofNat f)), .val (.int (Int32.ofNat (f + w))), .val (.int (Int32.ofNat w)), .val (.ref b2o)] [(.int (Int32.ofNat w)), (.int (0 : Int32)), (.ref b2o), (.int (Int32.ofNat f)), (.ref a1)])) rfl (by rw [hml]; rfl) rfl (hb hby d44_27) (by decide) (W := 0) (by show 2 * 0 + _ ≤ _; exact Nat.le_of_eq rfl) (by decide)
  rw [own_cpL (by omega)] at V7
  have Z7 : n0 ≤ h7.size := Nat.le_trans Z2 KC7.1
  have K7 : Keep h0 h7 [] := K2.trans KC7 (allS (Or.inr bk2) all0)
  obtain ⟨fs, hr, hrun, hended, hW, hsame⟩ := X7.leave (v := some (.ref b2o)) (fun h => by rw [Bd.returns] at h; cases h) (BodyLoose.notSynchronized Bd)
  refine ⟨_, _, pre0 _ ?_, hrun, hended, _, _, rfl, ?_, ⟨_, rfl⟩, hW, hsame.mono (by decide) (by decide)⟩
  · show Steps p.tables e below (s₁.setTop (mkF m 0 #[.val (.ref a1), .val (.int p2), .val (.int p3), .unset, .unset] [])) _
    rw [hp2]
    show Steps p.tables e below (s₁.setTop (mkF m 0 #[.val (.ref a1), .val (.int (Int32.ofNat f)), .val (.int p3), .unset, .unset] [])) _
    rw [hp3]
    show Steps p.tables e below (s₁.setTop (mkF m 0 #[.val (.ref a1), .val (.int (Int32.ofNat f)), .val (.int (Int32.ofNat (f + w))), .unset, .unset] [])) _
    refine XS.iloadN X0.here hx rfl (hb hby d44_0) rfl ?_
    refine XS.iloadN X0.here hx rfl (hb hby d44_1) rfl ?_
    refine st1 _ ?_
    refine XS.iloadN X1.here hx rfl (hb hby d44_5) rfl ?_
    refine XS.iloadN X1.here hx rfl (hb hby d44_6) rfl ?_
    refine XS.isub X1.here hx rfl (hb hby d44_7) rfl ?_
    show Steps p.tables e below (T1.setTop (mkF m 8 #[.val (.ref a1), .val (.int (Int32.ofNat f)), .val (.int (Int32.ofNat (f + w))), .unset, .unset] [(.int ((Int32.ofNat (f + w)) - (Int32.ofNat f)))])) _
    rw [(own_xsubw (show f + w < 16 by omega))]
    show Steps p.tables e below (T1.setTop (mkF m 8 #[.val (.ref a1), .val (.int (Int32.ofNat f)), .val (.int (Int32.ofNat (f + w))), .unset, .unset] [(.int (Int32.ofNat w))])) _
    refine XS.istoreN X1.here hx rfl (hb hby d44_8) rfl (l' := #[.val (.ref a1), .val (.int (Int32.ofNat f)), .val (.int (Int32.ofNat (f + w))), .val (.int (Int32.ofNat w)), .unset]) rfl ?_
    refine XS.iloadN X1.here hx rfl (hb hby d44_9) rfl ?_
    refine st2 _ ?_
    refine XS.astore X2.here hx rfl (hb hby d44_12) rfl rfl (l' := #[.val (.ref a1), .val (.int (Int32.ofNat f)), .val (.int (Int32.ofNat (f + w))), .val (.int (Int32.ofNat w)), .val (.ref b2o)]) rfl ?_
    refine XS.aloadN X2.here hx rfl (hb hby d44_14) rfl rfl ?_
    refine XS.iloadN X2.here hx rfl (hb hby d44_15) rfl ?_
    refine XS.aload X2.here hx rfl (hb hby d44_16) rfl rfl ?_
    refine XS.iconst X2.here hx rfl (hb hby d44_18) ?_
    refine XS.aloadN X2.here hx rfl (hb hby d44_19) rfl rfl ?_
    refine X2.arraylength hx (by rw [e2]; exact Ar5.1) (State.isArrayOf_alike hZ.alike Ar5.2.1) (g := (mkF m 20 #[.val (.ref a1), .val (.int (Int32.ofNat f)), .val (.int (Int32.ofNat (f + w))), .val (.int (Int32.ofNat w)), .val (.ref b2o)] [(.ref a1), (.int (0 : Int32)), (.ref b2o), (.int (Int32.ofNat f)), (.ref a1)])) rfl rfl (hb hby d44_20) _ ?_
    rw [len_of Sz5 Nn5]
    show Steps p.tables e below (T2.setTop (mkF m 21 #[.val (.ref a1), .val (.int (Int32.ofNat f)), .val (.int (Int32.ofNat (f + w))), .val (.int (Int32.ofNat w)), .val (.ref b2o)] [(.int (Int32.ofNat nn)), (.int (0 : Int32)), (.ref b2o), (.int (Int32.ofNat f)), (.ref a1)])) _
    refine XS.iloadN X2.here hx rfl (hb hby d44_21) rfl ?_
    refine XS.isub X2.here hx rfl (hb hby d44_22) rfl ?_
    show Steps p.tables e below (T2.setTop (mkF m 23 #[.val (.ref a1), .val (.int (Int32.ofNat f)), .val (.int (Int32.ofNat (f + w))), .val (.int (Int32.ofNat w)), .val (.ref b2o)] [(.int ((Int32.ofNat nn) - (Int32.ofNat f))), (.int (0 : Int32)), (.ref b2o), (.int (Int32.ofNat f)), (.ref a1)])) _
    rw [(own_xsub hN (by omega))]
    show Steps p.tables e below (T2.setTop (mkF m 23 #[.val (.ref a1), .val (.int (Int32.ofNat f)), .val (.int (Int32.ofNat (f + w))), .val (.int (Int32.ofNat w)), .val (.ref b2o)] [(.int (Int32.ofNat (nn - f))), (.int (0 : Int32)), (.ref b2o), (.int (Int32.ofNat f)), (.ref a1)])) _
    refine XS.iloadN X2.here hx rfl (hb hby d44_23) rfl ?_
    refine st6 _ ?_
    show Steps p.tables e below (T6.setTop (mkF m 27 #[.val (.ref a1), .val (.int (Int32.ofNat f)), .val (.int (Int32.ofNat (f + w))), .val (.int (Int32.ofNat w)), .val (.ref b2o)] [(.int r6), (.int (0 : Int32)), (.ref b2o), (.int (Int32.ofNat f)), (.ref a1)])) _
    rw [(hr6.trans (own_xmin (by omega) (by omega)))]
    show Steps p.tables e below (T6.setTop (mkF m 27 #[.val (.ref a1), .val (.int (Int32.ofNat f)), .val (.int (Int32.ofNat (f + w))), .val (.int (Int32.ofNat w)), .val (.ref b2o)] [(.int (Int32.ofNat w)), (.int (0 : Int32)), (.ref b2o), (.int (Int32.ofNat f)), (.ref a1)])) _
    refine st7 _ ?_
    refine XS.aload X7.here hx rfl (hb hby d44_30) rfl rfl ?_
    show Steps p.tables e below (T7.setTop (mkF m 32 #[.val (.ref a1), .val (.int (Int32.ofNat f)), .val (.int (Int32.ofNat (f + w))), .val (.int (Int32.ofNat w)), .val (.ref b2o)] [(.ref b2o)])) _
    exact X7.areturnOut hx rfl Bd.returns rfl (hb hby d44_32) hr
  · show QrRb Z a1 p2 p3 k nn f w vs h0 n0 _ T7.heap _
    rw [e7]
    exact ⟨b2o, _, rfl, N7, K7, b2, bk2, V7⟩
theorem pd_16 : parseMethodDescriptor "([BII)[B" = some ⟨[(.array .byte), .int, .int], some (.array .byte)⟩ := by decide +kernel
theorem d43_0 : decode jdk_65_method_132_code 0 = .ok (.iload_n 1, 1) := by decide +kernel
theorem d43_1 : decode jdk_65_method_132_code 1 = .ok (.ifCond .ne 9, 3) := by decide +kernel
theorem d43_4 : decode jdk_65_method_132_code 4 = .ok (.iload_n 2, 1) := by decide +kernel
theorem d43_5 : decode jdk_65_method_132_code 5 = .ok (.aload_n 0, 1) := by decide +kernel
theorem d43_6 : decode jdk_65_method_132_code 6 = .ok (.arraylength, 1) := by decide +kernel
theorem d43_7 : decode jdk_65_method_132_code 7 = .ok (.if_icmp .eq 10, 3) := by decide +kernel
theorem d43_10 : decode jdk_65_method_132_code 10 = .ok (.aload_n 0, 1) := by decide +kernel
theorem d43_11 : decode jdk_65_method_132_code 11 = .ok (.iload_n 1, 1) := by decide +kernel
theorem d43_12 : decode jdk_65_method_132_code 12 = .ok (.iload_n 2, 1) := by decide +kernel
theorem d43_13 : decode jdk_65_method_132_code 13 = .ok (.invokestatic 339, 3) := by decide +kernel
theorem d43_16 : decode jdk_65_method_132_code 16 = .ok (.areturn, 1) := by decide +kernel
theorem pn_43 : plainName "java/util/Arrays" = true := by first | (simp [plainName, overriddenIn]; done) | decide +kernel
theorem ef_rCr (m : MethodId) (a1 : Addr) (p2 : Int32) (p3 : Int32) : entryFrame m #[(.ref a1), (.int p2), (.int p3)] 3 = mkF m 0 #[.val (.ref a1), .val (.int p2), .val (.int p3)] [] := by first | (simp [entryFrame, mkF, argsToLocals, Value.category]; done) | rfl
def QrCr (Z : State) (a1 : Addr) (p2 : Int32) (p3 : Int32) (k : ClassId) (nn : Nat) (f : Nat) (w : Nat) (vs : List Value) (h0 : Heap) (n0 : Nat) (v : Option Value) (h : Heap) (L : List Loc) : Prop := ∃ (o : Addr) (ok : ClassId), v = some (.ref o) ∧ Fr n0 L ∧ Keep h0 h [] ∧ n0 ≤ o ∧ h0.size ≤ o ∧ Arv Z h o ok .byte (Int32.ofNat w) ((List.range w).map fun i => vs.getD (f + i) (.int (0 : Int32))) (.int (0 : Int32))
set_option maxRecDepth 65536 in
set_option maxHeartbeats 40000000 in
theorem rCr (l : Launch) (Z : State) (a0 : Array Value) (hw : ∀ d ∈ tables_1, d.before a0 Z = true) (ws : List Jvm.Cond) (a1 : Addr) (p2 : Int32) (p3 : Int32) (k : ClassId) (nn : Nat) (f : Nat) (w : Nat) (vs : List Value) (h0 : Heap) (n0 : Nat) (Z0 : n0 ≤ h0.size) (AV : Arv Z h0 a1 k .byte (Int32.ofNat nn) (vs) (.int (0 : Int32))) (hp2 : p2 = Int32.ofNat f) (hp3 : p3 = Int32.ofNat (f + w)) (hfw : f + w ≤ nn) (hN : nn < 16) (hne : ¬ (p2 = (0 : Int32) ∧ p3 = Int32.ofNat nn)) :
    MetFree l (⟨"java/util/Arrays", "copyOfRange", "([BII)[B"⟩ : MethodName) (head1 (Jvm.Cond.code (⟨"java/util/Arrays", "copyOfRange", "([BII)[B"⟩ : MethodName) jdk_65_method_132_code 3 (some (.array .byte)) :: ws) ({ frames := 2, cells := 1, slots := 16, locals := 34 } : Room)) (fun a U => a = #[(.ref a1), (.int p2), (.int p3)] ∧ Z.Warmed39 U.vm ∧ U.heap = h0) (fun _ _ _ _ _ => True) (fun _ U o U' => ∃ v L, o = .returned v ∧ QrCr Z a1 p2 p3 k nn f w vs h0 n0 v U'.heap L ∧ FrameEnd U o U' L ({ frames := 2, cells := 1, slots := 16, locals := 34 } : Room).cells ({ frames := 2, cells := 1, slots := 16, locals := 34 } : Room).slots) := by
  refine MetFree.of_bodySF (plainFor_of_name pn_43) hisR ?_
  intro p e s m args below meth c s₁ Bd hml0 hP hK
  obtain ⟨rfl, hZ, hh⟩ := hP
  have hx := Bd.exec
  have hby := Bd.bytes
  have hml : c.maxLocals = 3 := hml0
  have hown : s.vm.findClass "java/util/Arrays" = some m.cls := findClass_of_methodNamed Bd.named
  have hnm := (name_of_methodNamed Bd.named Bd.method).1
  have X0 : Stand p l e ({ frames := 2, cells := 1, slots := 16, locals := 34 } : Room) s m #[(.ref a1), (.int p2), (.int p3)] below meth c s₁ [] 0 0 := Stand.of_body Bd
  have e0 : s₁.heap = h0 := by rw [← hh, Bd.state]; rfl
  have N0 := Fr.nil n0
  have pre0 : ∀ t, Steps p.tables e below (s₁.setTop (mkF m 0 #[.val (.ref a1), .val (.int p2), .val (.int p3)] [])) t → Steps p.tables e below (s₁.setTop (entryFrame m #[(.ref a1), (.int p2), (.int p3)] 3)) t := fun t k => castTop (ef_rCr m a1 p2 p3) k
  by_cases hc1 : p2 = (0 : Int32)
  · obtain ⟨cl1, Ar1, qk1, Sz1, Nn1, Hh1, Gg1⟩ := id (AV)
    obtain ⟨_, _, ⟨T2, Lq2, kq2, nq2⟩, -, X2, ⟨Lc2, hQ2, lq2, yq2, zq2⟩, st2⟩ := Jvm.LawKit.callS X0 hx (y := (⟨"java/util/Arrays", "copyOfRangeByte", "([BII)[B"⟩ : MethodName)) hown (mvT hZ (hw _ (own_w 186 rfl))) (mvT hZ (hw _ (own_w 187 rfl))) (mvT hZ (hw _ (own_w 184 rfl))) (mvT hZ (hw _ (own_w 188 rfl))) (by decide) (backOf (W := 0) (rRb l Z a0 hw [] a1 p2 p3 k (nn) (f) (w) (vs) h0 n0 Z0 AV hp2 hp3 hfw hN) hZ (hw _ (own_w 188 rfl)) (hw _ (own_w 184 rfl)) (by decide) (by decide)) (g := (mkF m 13 #[.val (.ref a1), .val (.int p2), .val (.int p3)] [(.int p3), (.int p2), (.ref a1)])) rfl (by rw [hml]; rfl) (argsL := [(.ref a1), (.int p2), (.int p3)]) (rest := []) (lenOf pd_16 rfl) rfl (by show 2 * 0 + _ ≤ _; exact Nat.le_of_eq rfl) (hb hby d43_13) (fun _ _ => ⟨rfl, e0, (by decide : 0 + 1 ≤ _), (by decide : 0 + 16 ≤ _)⟩)
    dsimp only [Pt.U, Pt.locs, Pt.cells, Pt.slots] at X2 lq2 yq2 zq2 st2 hQ2
    subst lq2 yq2 zq2
    obtain ⟨o2, ok2, rfl, N2q, KC2, go2, gk2, V2⟩ := hQ2
    have N2 := Fr.app N0 N2q
    have Z2 : n0 ≤ T2.heap.size := Nat.le_trans Z0 KC2.1
    have ne3 : a1 ≠ o2 := Nat.ne_of_lt (Nat.lt_of_lt_of_le AV.lt gk2)
    have K2 : Keep h0 T2.heap [] := (Keep.refl h0 []).trans KC2 all0
    obtain ⟨fs, hr, hrun, hended, hW, hsame⟩ := X2.leave (v := some (.ref o2)) (fun h => by rw [Bd.returns] at h; cases h) (BodyLoose.notSynchronized Bd)
    refine ⟨_, _, pre0 _ ?_, hrun, hended, _, _, rfl, ?_, ⟨_, rfl⟩, hW, hsame.mono (by decide) (by decide)⟩
    · show Steps p.tables e below (s₁.setTop (mkF m 0 #[.val (.ref a1), .val (.int p2), .val (.int p3)] [])) _
      refine XS.iloadN X0.here hx rfl (hb hby d43_0) rfl ?_
      refine XS.ifNo X0.here hx rfl (hb hby d43_1) rfl ((if0 _ _).trans (teq hc1).2) ?_
      refine XS.iloadN X0.here hx rfl (hb hby d43_4) rfl ?_
      refine XS.aloadN X0.here hx rfl (hb hby d43_5) rfl rfl ?_
      refine X0.arraylength hx (by rw [e0]; exact Ar1.1) (State.isArrayOf_alike hZ.alike Ar1.2.1) (g := (mkF m 6 #[.val (.ref a1), .val (.int p2), .val (.int p3)] [(.ref a1), (.int p3)])) rfl rfl (hb hby d43_6) _ ?_
      rw [len_of Sz1 Nn1]
      show Steps p.tables e below (s₁.setTop (mkF m 7 #[.val (.ref a1), .val (.int p2), .val (.int p3)] [(.int (Int32.ofNat nn)), (.int p3)])) _
      refine XS.icmpNo X0.here hx rfl (hb hby d43_7) rfl (feq (fun q => hne ⟨hc1, q⟩)).1 ?_
      refine XS.aloadN X0.here hx rfl (hb hby d43_10) rfl rfl ?_
      refine XS.iloadN X0.here hx rfl (hb hby d43_11) rfl ?_
      refine XS.iloadN X0.here hx rfl (hb hby d43_12) rfl ?_
      refine st2 _ ?_
      show Steps p.tables e below (T2.setTop (mkF m 16 #[.val (.ref a1), .val (.int p2), .val (.int p3)] [(.ref o2)])) _
      exact X2.areturnOut hx rfl Bd.returns rfl (hb hby d43_16) hr
    · show QrCr Z a1 p2 p3 k nn f w vs h0 n0 _ T2.heap _
      exact ⟨o2, _, rfl, N2, K2, go2, (Nat.le_trans (Keep.refl h0 []).1 gk2), V2⟩
  · obtain ⟨_, _, ⟨T4, Lq4, kq4, nq4⟩, -, X4, ⟨Lc4, hQ4, lq4, yq4, zq4⟩, st4⟩ := Jvm.LawKit.callS X0 hx (y := (⟨"java/util/Arrays", "copyOfRangeByte", "([BII)[B"⟩ : MethodName)) hown (mvT hZ (hw _ (own_w 186 rfl))) (mvT hZ (hw _ (own_w 187 rfl))) (mvT hZ (hw _ (own_w 184 rfl))) (mvT hZ (hw _ (own_w 188 rfl))) (by decide) (backOf (W := 0) (rRb l Z a0 hw [] a1 p2 p3 k (nn) (f) (w) (vs) h0 n0 Z0 AV hp2 hp3 hfw hN) hZ (hw _ (own_w 188 rfl)) (hw _ (own_w 184 rfl)) (by decide) (by decide)) (g := (mkF m 13 #[.val (.ref a1), .val (.int p2), .val (.int p3)] [(.int p3), (.int p2), (.ref a1)])) rfl (by rw [hml]; rfl) (argsL := [(.ref a1), (.int p2), (.int p3)]) (rest := []) (lenOf pd_16 rfl) rfl (by show 2 * 0 + _ ≤ _; exact Nat.le_of_eq rfl) (hb hby d43_13) (fun _ _ => ⟨rfl, e0, (by decide : 0 + 1 ≤ _), (by decide : 0 + 16 ≤ _)⟩)
    dsimp only [Pt.U, Pt.locs, Pt.cells, Pt.slots] at X4 lq4 yq4 zq4 st4 hQ4
    subst lq4 yq4 zq4
    obtain ⟨o4, ok4, rfl, N4q, KC4, go4, gk4, V4⟩ := hQ4
    have N4 := Fr.app N0 N4q
    have Z4 : n0 ≤ T4.heap.size := Nat.le_trans Z0 KC4.1
    have ne5 : a1 ≠ o4 := Nat.ne_of_lt (Nat.lt_of_lt_of_le AV.lt gk4)
    have K4 : Keep h0 T4.heap [] := (Keep.refl h0 []).trans KC4 all0
    obtain ⟨fs, hr, hrun, hended, hW, hsame⟩ := X4.leave (v := some (.ref o4)) (fun h => by rw [Bd.returns] at h; cases h) (BodyLoose.notSynchronized Bd)
    refine ⟨_, _, pre0 _ ?_, hrun, hended, _, _, rfl, ?_, ⟨_, rfl⟩, hW, hsame.mono (by decide) (by decide)⟩
    · show Steps p.tables e below (s₁.setTop (mkF m 0 #[.val (.ref a1), .val (.int p2), .val (.int p3)] [])) _
      refine XS.iloadN X0.here hx rfl (hb hby d43_0) rfl ?_
      refine XS.ifYes X0.here hx rfl (pc0 := 1) (pc' := 10) rfl (hb hby d43_1) rfl ((if0 _ _).trans (feq hc1).2) (by decide) (by decide) ?_
      refine XS.aloadN X0.here hx rfl (hb hby d43_10) rfl rfl ?_
      refine XS.iloadN X0.here hx rfl (hb hby d43_11) rfl ?_
      refine XS.iloadN X0.here hx rfl (hb hby d43_12) rfl ?_
      refine st4 _ ?_
      show Steps p.tables e below (T4.setTop (mkF m 16 #[.val (.ref a1), .val (.int p2), .val (.int p3)] [(.ref o4)])) _
      exact X4.areturnOut hx rfl Bd.returns rfl (hb hby d43_16) hr
    · show QrCr Z a1 p2 p3 k nn f w vs h0 n0 _ T4.heap _
      exact ⟨o4, _, rfl, N4, K4, go4, (Nat.le_trans (Keep.refl h0 []).1 gk4), V4⟩
theorem d47_0 : decode jdk_42_method_151_code 0 = .ok (.aload_n 0, 1) := by decide +kernel
theorem d47_1 : decode jdk_42_method_151_code 1 = .ok (.invokespecial 1, 3) := by decide +kernel
theorem d47_4 : decode jdk_42_method_151_code 4 = .ok (.aload_n 0, 1) := by decide +kernel
theorem d47_5 : decode jdk_42_method_151_code 5 = .ok (.aload_n 1, 1) := by decide +kernel
theorem d47_6 : decode jdk_42_method_151_code 6 = .ok (.putfield 9, 3) := by decide +kernel
theorem d47_9 : decode jdk_42_method_151_code 9 = .ok (.aload_n 0, 1) := by decide +kernel
theorem d47_10 : decode jdk_42_method_151_code 10 = .ok (.iload_n 2, 1) := by decide +kernel
theorem d47_11 : decode jdk_42_method_151_code 11 = .ok (.putfield 15, 3) := by decide +kernel
theorem d47_14 : decode jdk_42_method_151_code 14 = .ok (.return_, 1) := by decide +kernel
theorem pn_47 : plainName "java/lang/String" = true := by first | (simp [plainName, overriddenIn]; done) | decide +kernel
theorem ef_rT0 (m : MethodId) (a1 : Addr) (a2 : Addr) : entryFrame m #[(.ref a1), (.ref a2), (.int (0 : Int32))] 3 = mkF m 0 #[.val (.ref a1), .val (.ref a2), .val (.int (0 : Int32))] [] := by first | (simp [entryFrame, mkF, argsToLocals, Value.category]; done) | rfl
def QrT0 (Z : State) (a1 : Addr) (a2 : Addr) (h0 : Heap) (n0 : Nat) (v : Option Value) (h : Heap) (L : List Loc) : Prop := v = none ∧ Fr n0 L ∧ Keep h0 h [a1] ∧ Exa Z h a1 "java/lang/String" ∧ Fld Z h a1 "java/lang/String" "value" "[B" (.ref a2) ∧ Fld Z h a1 "java/lang/String" "coder" "B" (.int (0 : Int32))
set_option maxRecDepth 65536 in
set_option maxHeartbeats 40000000 in
theorem rT0 (l : Launch) (Z : State) (a0 : Array Value) (hw : ∀ d ∈ tables_1, d.before a0 Z = true) (ws : List Jvm.Cond) (a1 : Addr) (a2 : Addr) (h0 : Heap) (n0 : Nat) (Z0 : n0 ≤ h0.size) (E : Exa Z h0 a1 "java/lang/String") (FV : Fld Z h0 a1 "java/lang/String" "value" "[B" .null) (FC : Fld Z h0 a1 "java/lang/String" "coder" "B" (.int (0 : Int32))) (ga : n0 ≤ a1) :
    MetFree l (⟨"java/lang/String", "<init>", "([BB)V"⟩ : MethodName) (head1 (Jvm.Cond.code (⟨"java/lang/String", "<init>", "([BB)V"⟩ : MethodName) jdk_42_method_151_code 3 none :: ws) ({ frames := 1, cells := 0, slots := 0, locals := 12 } : Room)) (fun a U => a = #[(.ref a1), (.ref a2), (.int (0 : Int32))] ∧ Z.Warmed39 U.vm ∧ U.heap = h0) (fun _ _ _ _ _ => True) (fun _ U o U' => ∃ v L, o = .returned v ∧ QrT0 Z a1 a2 h0 n0 v U'.heap L ∧ FrameEnd U o U' L ({ frames := 1, cells := 0, slots := 0, locals := 12 } : Room).cells ({ frames := 1, cells := 0, slots := 0, locals := 12 } : Room).slots) := by
  refine MetFree.of_bodySF (plainFor_of_name pn_47) hisR ?_
  intro p e s m args below meth c s₁ Bd hml0 hP hK
  obtain ⟨rfl, hZ, hh⟩ := hP
  have hx := Bd.exec
  have hby := Bd.bytes
  have hml : c.maxLocals = 3 := hml0
  have hown : s.vm.findClass "java/lang/String" = some m.cls := findClass_of_methodNamed Bd.named
  have hnm := (name_of_methodNamed Bd.named Bd.method).1
  have X0 : Stand p l e ({ frames := 1, cells := 0, slots := 0, locals := 12 } : Room) s m #[(.ref a1), (.ref a2), (.int (0 : Int32))] below meth c s₁ [] 0 0 := Stand.of_body Bd
  have e0 : s₁.heap = h0 := by rw [← hh, Bd.state]; rfl
  have N0 := Fr.nil n0
  have pre0 : ∀ t, Steps p.tables e below (s₁.setTop (mkF m 0 #[.val (.ref a1), .val (.ref a2), .val (.int (0 : Int32))] [])) t → Steps p.tables e below (s₁.setTop (entryFrame m #[(.ref a1), (.ref a2), (.int (0 : Int32))] 3)) t := fun t k => castTop (ef_rT0 m a1 a2) k
  obtain ⟨T1, X1, e1, st1⟩ := initO X0 hx hZ hown (hw _ (own_w 20 rfl)) (hw _ (own_w 21 rfl)) (hw _ (own_w 22 rfl)) e0 (g := (mkF m 1 #[.val (.ref a1), .val (.ref a2), .val (.int (0 : Int32))] [(.ref a1)])) rfl (by rw [hml]; rfl) rfl (hb hby d47_1) (by decide) (W := 0) (by show 2 * 0 + _ ≤ _; exact Nat.le_of_eq rfl) (by decide)
  obtain ⟨T2, h2, X2, e2, W2, st2⟩ := putF X1 hx hZ hown (host := "") (Or.inl (hw _ (own_w 29 rfl))) Via.refl e1 FV E (Or.inr ⟨(hw _ (own_w 25 rfl)), rfl, hnm⟩) (hw _ (own_w 11 rfl)) (ty := (.array .byte)) (by decide) rfl rfl (g := (mkF m 6 #[.val (.ref a1), .val (.ref a2), .val (.int (0 : Int32))] [(.ref a2), (.ref a1)])) rfl rfl (hb hby d47_6)
  have N2 := Fr.snoc X2 N0 ga
  have Z2 : n0 ≤ h2.size := by rw [W2.size]; exact Z0
  have K2 : Keep h0 h2 [a1] := (Keep.refl h0 [a1]).wr W2 (Or.inl (own_w 0 rfl))
  have Fw2 := FV.same W2
  have f3 := (E.wr W2)
  have f4 := (FC.other W2 (Or.inr (slot_ne (Or.inr (hw _ (own_w 26 rfl))) (Or.inr (hw _ (own_w 25 rfl))) (by decide) (t := .byte) (t' := (.array .byte)) (by decide) (by decide))))
  obtain ⟨T5, h5, X5, e5, W5, st5⟩ := putFN X2 hx hZ hown (hw _ (own_w 30 rfl)) Via.refl e2 f4 f3 (Or.inr ⟨(hw _ (own_w 26 rfl)), rfl, hnm⟩) (hw _ (own_w 11 rfl)) (ty := .byte) (v' := (.int (nar .byte (0 : Int32)))) (by decide) rfl (fits_nar_byte _) (g := (mkF m 11 #[.val (.ref a1), .val (.ref a2), .val (.int (0 : Int32))] [(.int (0 : Int32)), (.ref a1)])) rfl rfl (hb hby d47_11)
  have N5 := Fr.snoc X5 N2 ga
  have Z5 : n0 ≤ h5.size := by rw [W5.size]; exact Z2
  have K5 : Keep h0 h5 [a1] := K2.wr W5 (Or.inl (own_w 0 rfl))
  have Fw5 := f4.same W5
  obtain ⟨fs, hr, hrun, hended, hW, hsame⟩ := X5.leave (v := none) (fun _ => rfl) (BodyLoose.notSynchronized Bd)
  refine ⟨_, _, pre0 _ ?_, hrun, hended, _, _, rfl, ?_, ⟨_, rfl⟩, hW, hsame.mono (by decide) (by decide)⟩
  · show Steps p.tables e below (s₁.setTop (mkF m 0 #[.val (.ref a1), .val (.ref a2), .val (.int (0 : Int32))] [])) _
    refine XS.aloadN X0.here hx rfl (hb hby d47_0) rfl rfl ?_
    refine st1 _ ?_
    refine XS.aloadN X1.here hx rfl (hb hby d47_4) rfl rfl ?_
    refine XS.aloadN X1.here hx rfl (hb hby d47_5) rfl rfl ?_
    refine st2 _ ?_
    refine XS.aloadN X2.here hx rfl (hb hby d47_9) rfl rfl ?_
    refine XS.iloadN X2.here hx rfl (hb hby d47_10) rfl ?_
    refine st5 _ ?_
    show Steps p.tables e below (T5.setTop (mkF m 14 #[.val (.ref a1), .val (.ref a2), .val (.int (0 : Int32))] [])) _
    exact X5.returnOut hx Bd.returns (hb hby d47_14) hr
  · show QrT0 Z a1 a2 h0 n0 _ T5.heap _
    have f6 := (f3.wr W5)
    have f7 := (Fw2.other W5 (Or.inr (slot_ne (Or.inr (hw _ (own_w 25 rfl))) (Or.inr (hw _ (own_w 26 rfl))) (by decide) (t := (.array .byte)) (t' := .byte) (by decide) (by decide))))
    have fc := Fw5
    rw [own_nb0] at fc
    rw [e5]
    exact ⟨rfl, N5, K5, f6, f7, fc⟩
theorem ef_rT1 (m : MethodId) (a1 : Addr) (a2 : Addr) : entryFrame m #[(.ref a1), (.ref a2), (.int (1 : Int32))] 3 = mkF m 0 #[.val (.ref a1), .val (.ref a2), .val (.int (1 : Int32))] [] := by first | (simp [entryFrame, mkF, argsToLocals, Value.category]; done) | rfl
def QrT1 (Z : State) (a1 : Addr) (a2 : Addr) (h0 : Heap) (n0 : Nat) (v : Option Value) (h : Heap) (L : List Loc) : Prop := v = none ∧ Fr n0 L ∧ Keep h0 h [a1] ∧ Exa Z h a1 "java/lang/String" ∧ Fld Z h a1 "java/lang/String" "value" "[B" (.ref a2) ∧ Fld Z h a1 "java/lang/String" "coder" "B" (.int (1 : Int32))
set_option maxRecDepth 65536 in
set_option maxHeartbeats 40000000 in
theorem rT1 (l : Launch) (Z : State) (a0 : Array Value) (hw : ∀ d ∈ tables_1, d.before a0 Z = true) (ws : List Jvm.Cond) (a1 : Addr) (a2 : Addr) (h0 : Heap) (n0 : Nat) (Z0 : n0 ≤ h0.size) (E : Exa Z h0 a1 "java/lang/String") (FV : Fld Z h0 a1 "java/lang/String" "value" "[B" .null) (FC : Fld Z h0 a1 "java/lang/String" "coder" "B" (.int (0 : Int32))) (ga : n0 ≤ a1) :
    MetFree l (⟨"java/lang/String", "<init>", "([BB)V"⟩ : MethodName) (head1 (Jvm.Cond.code (⟨"java/lang/String", "<init>", "([BB)V"⟩ : MethodName) jdk_42_method_151_code 3 none :: ws) ({ frames := 1, cells := 0, slots := 0, locals := 12 } : Room)) (fun a U => a = #[(.ref a1), (.ref a2), (.int (1 : Int32))] ∧ Z.Warmed39 U.vm ∧ U.heap = h0) (fun _ _ _ _ _ => True) (fun _ U o U' => ∃ v L, o = .returned v ∧ QrT1 Z a1 a2 h0 n0 v U'.heap L ∧ FrameEnd U o U' L ({ frames := 1, cells := 0, slots := 0, locals := 12 } : Room).cells ({ frames := 1, cells := 0, slots := 0, locals := 12 } : Room).slots) := by
  refine MetFree.of_bodySF (plainFor_of_name pn_47) hisR ?_
  intro p e s m args below meth c s₁ Bd hml0 hP hK
  obtain ⟨rfl, hZ, hh⟩ := hP
  have hx := Bd.exec
  have hby := Bd.bytes
  have hml : c.maxLocals = 3 := hml0
  have hown : s.vm.findClass "java/lang/String" = some m.cls := findClass_of_methodNamed Bd.named
  have hnm := (name_of_methodNamed Bd.named Bd.method).1
  have X0 : Stand p l e ({ frames := 1, cells := 0, slots := 0, locals := 12 } : Room) s m #[(.ref a1), (.ref a2), (.int (1 : Int32))] below meth c s₁ [] 0 0 := Stand.of_body Bd
  have e0 : s₁.heap = h0 := by rw [← hh, Bd.state]; rfl
  have N0 := Fr.nil n0
  have pre0 : ∀ t, Steps p.tables e below (s₁.setTop (mkF m 0 #[.val (.ref a1), .val (.ref a2), .val (.int (1 : Int32))] [])) t → Steps p.tables e below (s₁.setTop (entryFrame m #[(.ref a1), (.ref a2), (.int (1 : Int32))] 3)) t := fun t k => castTop (ef_rT1 m a1 a2) k
  obtain ⟨T1, X1, e1, st1⟩ := initO X0 hx hZ hown (hw _ (own_w 20 rfl)) (hw _ (own_w 21 rfl)) (hw _ (own_w 22 rfl)) e0 (g := (mkF m 1 #[.val (.ref a1), .val (.ref a2), .val (.int (1 : Int32))] [(.ref a1)])) rfl (by rw [hml]; rfl) rfl (hb hby d47_1) (by decide) (W := 0) (by show 2 * 0 + _ ≤ _; exact Nat.le_of_eq rfl) (by decide)
  obtain ⟨T2, h2, X2, e2, W2, st2⟩ := putF X1 hx hZ hown (host := "") (Or.inl (hw _ (own_w 29 rfl))) Via.refl e1 FV E (Or.inr ⟨(hw _ (own_w 25 rfl)), rfl, hnm⟩) (hw _ (own_w 11 rfl)) (ty := (.array .byte)) (by decide) rfl rfl (g := (mkF m 6 #[.val (.ref a1), .val (.ref a2), .val (.int (1 : Int32))] [(.ref a2), (.ref a1)])) rfl rfl (hb hby d47_6)
  have N2 := Fr.snoc X2 N0 ga
  have Z2 : n0 ≤ h2.size := by rw [W2.size]; exact Z0
  have K2 : Keep h0 h2 [a1] := (Keep.refl h0 [a1]).wr W2 (Or.inl (own_w 0 rfl))
  have Fw2 := FV.same W2
  have f3 := (E.wr W2)
  have f4 := (FC.other W2 (Or.inr (slot_ne (Or.inr (hw _ (own_w 26 rfl))) (Or.inr (hw _ (own_w 25 rfl))) (by decide) (t := .byte) (t' := (.array .byte)) (by decide) (by decide))))
  obtain ⟨T5, h5, X5, e5, W5, st5⟩ := putFN X2 hx hZ hown (hw _ (own_w 30 rfl)) Via.refl e2 f4 f3 (Or.inr ⟨(hw _ (own_w 26 rfl)), rfl, hnm⟩) (hw _ (own_w 11 rfl)) (ty := .byte) (v' := (.int (nar .byte (1 : Int32)))) (by decide) rfl (fits_nar_byte _) (g := (mkF m 11 #[.val (.ref a1), .val (.ref a2), .val (.int (1 : Int32))] [(.int (1 : Int32)), (.ref a1)])) rfl rfl (hb hby d47_11)
  have N5 := Fr.snoc X5 N2 ga
  have Z5 : n0 ≤ h5.size := by rw [W5.size]; exact Z2
  have K5 : Keep h0 h5 [a1] := K2.wr W5 (Or.inl (own_w 0 rfl))
  have Fw5 := f4.same W5
  obtain ⟨fs, hr, hrun, hended, hW, hsame⟩ := X5.leave (v := none) (fun _ => rfl) (BodyLoose.notSynchronized Bd)
  refine ⟨_, _, pre0 _ ?_, hrun, hended, _, _, rfl, ?_, ⟨_, rfl⟩, hW, hsame.mono (by decide) (by decide)⟩
  · show Steps p.tables e below (s₁.setTop (mkF m 0 #[.val (.ref a1), .val (.ref a2), .val (.int (1 : Int32))] [])) _
    refine XS.aloadN X0.here hx rfl (hb hby d47_0) rfl rfl ?_
    refine st1 _ ?_
    refine XS.aloadN X1.here hx rfl (hb hby d47_4) rfl rfl ?_
    refine XS.aloadN X1.here hx rfl (hb hby d47_5) rfl rfl ?_
    refine st2 _ ?_
    refine XS.aloadN X2.here hx rfl (hb hby d47_9) rfl rfl ?_
    refine XS.iloadN X2.here hx rfl (hb hby d47_10) rfl ?_
    refine st5 _ ?_
    show Steps p.tables e below (T5.setTop (mkF m 14 #[.val (.ref a1), .val (.ref a2), .val (.int (1 : Int32))] [])) _
    exact X5.returnOut hx Bd.returns (hb hby d47_14) hr
  · show QrT1 Z a1 a2 h0 n0 _ T5.heap _
    have f6 := (f3.wr W5)
    have f7 := (Fw2.other W5 (Or.inr (slot_ne (Or.inr (hw _ (own_w 25 rfl))) (Or.inr (hw _ (own_w 26 rfl))) (by decide) (t := (.array .byte)) (t' := .byte) (by decide) (by decide))))
    have fc := Fw5
    rw [own_nb1] at fc
    rw [e5]
    exact ⟨rfl, N5, K5, f6, f7, fc⟩
theorem pd_17 : parseMethodDescriptor "([BB)V" = some ⟨[(.array .byte), .byte], none⟩ := by decide +kernel
theorem d48_0 : decode jdk_43_method_47_code 0 = .ok (.iload_n 2, 1) := by decide +kernel
theorem d48_1 : decode jdk_43_method_47_code 1 = .ok (.ifCond .ne 6, 3) := by decide +kernel
theorem d48_7 : decode jdk_43_method_47_code 7 = .ok (.new 1, 3) := by decide +kernel
theorem d48_10 : decode jdk_43_method_47_code 10 = .ok (.dup, 1) := by decide +kernel
theorem d48_11 : decode jdk_43_method_47_code 11 = .ok (.aload_n 0, 1) := by decide +kernel
theorem d48_12 : decode jdk_43_method_47_code 12 = .ok (.iload_n 1, 1) := by decide +kernel
theorem d48_13 : decode jdk_43_method_47_code 13 = .ok (.iload_n 1, 1) := by decide +kernel
theorem d48_14 : decode jdk_43_method_47_code 14 = .ok (.iload_n 2, 1) := by decide +kernel
theorem d48_15 : decode jdk_43_method_47_code 15 = .ok (.iadd, 1) := by decide +kernel
theorem d48_16 : decode jdk_43_method_47_code 16 = .ok (.invokestatic 232, 3) := by decide +kernel
theorem d48_19 : decode jdk_43_method_47_code 19 = .ok (.iconst 0, 1) := by decide +kernel
theorem d48_20 : decode jdk_43_method_47_code 20 = .ok (.invokespecial 112, 3) := by decide +kernel
theorem d48_23 : decode jdk_43_method_47_code 23 = .ok (.areturn, 1) := by decide +kernel
theorem pn_48 : plainName "java/lang/StringLatin1" = true := by first | (simp [plainName, overriddenIn]; done) | decide +kernel
theorem ef_rLn (m : MethodId) (a1 : Addr) (p2 : Int32) (p3 : Int32) : entryFrame m #[(.ref a1), (.int p2), (.int p3)] 3 = mkF m 0 #[.val (.ref a1), .val (.int p2), .val (.int p3)] [] := by first | (simp [entryFrame, mkF, argsToLocals, Value.category]; done) | rfl
def QrLn (Z : State) (a1 : Addr) (p2 : Int32) (p3 : Int32) (k : ClassId) (cs : List Int32) (ct : List Int32) (b : Nat) (h0 : Heap) (n0 : Nat) (v : Option Value) (h : Heap) (L : List Loc) : Prop := ∃ o : Addr, v = some (.ref o) ∧ Fr n0 L ∧ Keep h0 h [] ∧ own_S Z h o ct
set_option maxRecDepth 65536 in
set_option maxHeartbeats 40000000 in
theorem rLn (l : Launch) (Z : State) (a0 : Array Value) (hw : ∀ d ∈ tables_1, d.before a0 Z = true) (ws : List Jvm.Cond) (a1 : Addr) (p2 : Int32) (p3 : Int32) (k : ClassId) (cs : List Int32) (ct : List Int32) (b : Nat) (h0 : Heap) (n0 : Nat) (Z0 : n0 ≤ h0.size) (AV : Arv Z h0 a1 k .byte (Int32.ofNat cs.length) (own_lat cs) (.int (0 : Int32))) (hp2 : p2 = Int32.ofNat b) (hp3 : p3 = Int32.ofNat ct.length) (hs : own_sub cs b ct) (hps : 0 < ct.length) (hne : ¬ (b = 0 ∧ b + ct.length = cs.length)) (hL : cs.length < 8) (hl : ∀ c ∈ cs, c.toInt < 256) :
    MetFree l (⟨"java/lang/StringLatin1", "newString", "([BII)Ljava/lang/String;"⟩ : MethodName) (head1 (Jvm.Cond.code (⟨"java/lang/StringLatin1", "newString", "([BII)Ljava/lang/String;"⟩ : MethodName) jdk_43_method_47_code 3 (some (.object "java/lang/String")) :: ws) ({ frames := 3, cells := 2, slots := 20, locals := 50 } : Room)) (fun a U => a = #[(.ref a1), (.int p2), (.int p3)] ∧ Z.Warmed39 U.vm ∧ U.heap = h0) (fun _ _ _ _ _ => True) (fun _ U o U' => ∃ v L, o = .returned v ∧ QrLn Z a1 p2 p3 k cs ct b h0 n0 v U'.heap L ∧ FrameEnd U o U' L ({ frames := 3, cells := 2, slots := 20, locals := 50 } : Room).cells ({ frames := 3, cells := 2, slots := 20, locals := 50 } : Room).slots) := by
  refine MetFree.of_bodySF (plainFor_of_name pn_48) hisR ?_
  intro p e s m args below meth c s₁ Bd hml0 hP hK
  obtain ⟨rfl, hZ, hh⟩ := hP
  have hx := Bd.exec
  have hby := Bd.bytes
  have hml : c.maxLocals = 3 := hml0
  have hown : s.vm.findClass "java/lang/StringLatin1" = some m.cls := findClass_of_methodNamed Bd.named
  have hnm := (name_of_methodNamed Bd.named Bd.method).1
  have X0 : Stand p l e ({ frames := 3, cells := 2, slots := 20, locals := 50 } : Room) s m #[(.ref a1), (.int p2), (.int p3)] below meth c s₁ [] 0 0 := Stand.of_body Bd
  have e0 : s₁.heap = h0 := by rw [← hh, Bd.state]; rfl
  have N0 := Fr.nil n0
  have pre0 : ∀ t, Steps p.tables e below (s₁.setTop (mkF m 0 #[.val (.ref a1), .val (.int p2), .val (.int p3)] [])) t → Steps p.tables e below (s₁.setTop (entryFrame m #[(.ref a1), (.int p2), (.int p3)] 3)) t := fun t k => castTop (ef_rLn m a1 p2 p3) k
  obtain ⟨T1, h1, X1, e1, E1, A1, D1, -, st1⟩ := newO X0 hx hZ hown (hw _ (own_w 208 rfl)) (hw _ (own_w 11 rfl)) (hw _ (own_w 12 rfl)) e0 (g := (mkF m 7 #[.val (.ref a1), .val (.int (Int32.ofNat b)), .val (.int (Int32.ofNat ct.length))] [])) rfl (hb hby d48_7) (by decide) (by decide)
  obtain ⟨b1o, g1⟩ : ∃ z, z = h0.size := ⟨_, rfl⟩
  have b1 : n0 ≤ b1o := Nat.le_trans Z0 (Nat.le_of_eq g1.symm)
  have bk1 : h0.size ≤ b1o := Nat.le_trans (Keep.refl h0 []).1 (Nat.le_of_eq g1.symm)
  have ne2 : a1 ≠ b1o := Nat.ne_of_lt (Nat.lt_of_lt_of_le AV.lt (Nat.le_of_eq g1.symm))
  rw [← g1] at A1 D1 st1
  have Z1 : n0 ≤ h1.size := Nat.le_trans Z0 E1.1
  have K1 : Keep h0 h1 [] := (Keep.refl h0 []).ext E1
  have F1_25 : Fld Z h1 b1o "java/lang/String" "value" "[B" .null := D1 (Or.inr (hw _ (own_w 25 rfl))) (ty := (.array .byte)) (by decide)
  have F1_26 : Fld Z h1 b1o "java/lang/String" "coder" "B" (.int (0 : Int32)) := D1 (Or.inr (hw _ (own_w 26 rfl))) (ty := .byte) (by decide)
  have f4 := (AV.ext E1)
  obtain ⟨_, _, ⟨T3, Lq3, kq3, nq3⟩, -, X3, ⟨Lc3, hQ3, lq3, yq3, zq3⟩, st3⟩ := Jvm.LawKit.callS X1 hx (y := (⟨"java/util/Arrays", "copyOfRange", "([BII)[B"⟩ : MethodName)) hown (mvT hZ (hw _ (own_w 209 rfl))) (mvT hZ (hw _ (own_w 183 rfl))) (mvT hZ (hw _ (own_w 184 rfl))) (mvT hZ (hw _ (own_w 185 rfl))) (by decide) (backOf (W := 2) (rCr l Z a0 hw [] a1 (Int32.ofNat b) (Int32.ofNat (b + ct.length)) k (cs.length) (b) (ct.length) (own_lat cs) h1 n0 Z1 f4 rfl rfl hs.1 (by omega) (fun q => hne ⟨(own_xeq (by have := hs.1; omega) (by omega : 0 < 16)).mp q.1, (own_xeq (by have := hs.1; omega) (by omega)).mp q.2⟩)) hZ (hw _ (own_w 185 rfl)) (hw _ (own_w 184 rfl)) (by decide) (by decide)) (g := (mkF m 16 #[.val (.ref a1), .val (.int (Int32.ofNat b)), .val (.int (Int32.ofNat ct.length))] [(.int (Int32.ofNat (b + ct.length))), (.int (Int32.ofNat b)), (.ref a1), (.ref b1o), (.ref b1o)])) rfl (by rw [hml]; rfl) (argsL := [(.ref a1), (.int (Int32.ofNat b)), (.int (Int32.ofNat (b + ct.length)))]) (rest := [(.ref b1o), (.ref b1o)]) (lenOf pd_16 rfl) rfl (by show 2 * 0 + _ ≤ _; exact Nat.le_of_eq rfl) (hb hby d48_16) (fun _ _ => ⟨rfl, e1, (by decide : 1 + 1 ≤ _), (by decide : 4 + 16 ≤ _)⟩)
  dsimp only [Pt.U, Pt.locs, Pt.cells, Pt.slots] at X3 lq3 yq3 zq3 st3 hQ3
  subst lq3 yq3 zq3
  obtain ⟨o3, ok3, rfl, N3q, KC3, go3, gk3, V3⟩ := hQ3
  have N3 := Fr.app N0 N3q
  have Z3 : n0 ≤ T3.heap.size := Nat.le_trans Z1 KC3.1
  have ne5 : a1 ≠ o3 := Nat.ne_of_lt (Nat.lt_of_lt_of_le f4.lt gk3)
  have ne6 : b1o ≠ o3 := Nat.ne_of_lt (Nat.lt_of_lt_of_le F1_26.lt gk3)
  have K3 : Keep h0 T3.heap [] := K1.trans KC3 all0
  have f8 := (A1.keep KC3)
  have f9 := (F1_25.keep KC3 nin0)
  have f10 := (F1_26.keep KC3 nin0)
  obtain ⟨_, _, ⟨T7, Lq7, kq7, nq7⟩, -, X7, ⟨Lc7, hQ7, lq7, yq7, zq7⟩, st7⟩ := X3.specialBack hx (y := (⟨"java/lang/String", "<init>", "([BB)V"⟩ : MethodName)) rfl hown (mvT hZ (hw _ (own_w 210 rfl))) (mvT hZ (hw _ (own_w 203 rfl))) (mvT hZ (hw _ (own_w 204 rfl))) (by decide) (backOf (W := 1) (rT0 l Z a0 hw [] b1o o3  T3.heap n0 Z3 f8 f9 f10 b1) hZ (hw _ (own_w 204 rfl)) (hw _ (own_w 12 rfl)) (by decide) (by decide)) (g := (mkF m 20 #[.val (.ref a1), .val (.int (Int32.ofNat b)), .val (.int (Int32.ofNat ct.length))] [(.int (0 : Int32)), (.ref o3), (.ref b1o), (.ref b1o)])) rfl (by rw [hml]; rfl) (Steps.refl _) (a := b1o) (argsL := [(.ref o3), (.int (0 : Int32))]) (rest := [(.ref b1o)]) (lenOf pd_17 rfl) rfl (by show 2 * 0 + _ ≤ _; exact Nat.le_of_eq rfl) (hb hby d48_20) (fun _ _ => ⟨rfl, rfl, (by decide : 2 + 0 ≤ _), (by decide : 20 + 0 ≤ _)⟩)
  dsimp only [Pt.U, Pt.locs, Pt.cells, Pt.slots] at X7 lq7 yq7 zq7 st7 hQ7
  subst lq7 yq7 zq7
  obtain ⟨rfl, N7q, KC7, u7⟩ := hQ7
  have N7 := Fr.app N3 N7q
  have Z7 : n0 ≤ T7.heap.size := Nat.le_trans Z3 KC7.1
  have K7 : Keep h0 T7.heap [] := K3.trans KC7 (allS (Or.inr bk1) all0)
  obtain ⟨uE7, uV7, uC7⟩ := u7
  obtain ⟨fs, hr, hrun, hended, hW, hsame⟩ := X7.leave (v := some (.ref b1o)) (fun h => by rw [Bd.returns] at h; cases h) (BodyLoose.notSynchronized Bd)
  refine ⟨_, _, pre0 _ ?_, hrun, hended, _, _, rfl, ?_, ⟨_, rfl⟩, hW, hsame.mono (by decide) (by decide)⟩
  · show Steps p.tables e below (s₁.setTop (mkF m 0 #[.val (.ref a1), .val (.int p2), .val (.int p3)] [])) _
    rw [hp2]
    show Steps p.tables e below (s₁.setTop (mkF m 0 #[.val (.ref a1), .val (.int (Int32.ofNat b)), .val (.int p3)] [])) _
    rw [hp3]
    show Steps p.tables e below (s₁.setTop (mkF m 0 #[.val (.ref a1), .val (.int (Int32.ofNat b)), .val (.int (Int32.ofNat ct.length))] [])) _
    refine XS.iloadN X0.here hx rfl (hb hby d48_0) rfl ?_
    refine XS.ifYes X0.here hx rfl (pc0 := 1) (pc' := 7) rfl (hb hby d48_1) rfl ((if0 _ _).trans (feq (own_xne (by have := hs.1; omega) hps)).2) (by decide) (by decide) ?_
    refine st1 _ ?_
    refine XS.dup X1.here hx rfl (hb hby d48_10) rfl rfl ?_
    refine XS.aloadN X1.here hx rfl (hb hby d48_11) rfl rfl ?_
    refine XS.iloadN X1.here hx rfl (hb hby d48_12) rfl ?_
    refine XS.iloadN X1.here hx rfl (hb hby d48_13) rfl ?_
    refine XS.iloadN X1.here hx rfl (hb hby d48_14) rfl ?_
    refine XS.iadd X1.here hx rfl (hb hby d48_15) rfl ?_
    show Steps p.tables e below (T1.setTop (mkF m 16 #[.val (.ref a1), .val (.int (Int32.ofNat b)), .val (.int (Int32.ofNat ct.length))] [(.int ((Int32.ofNat b) + (Int32.ofNat ct.length))), (.int (Int32.ofNat b)), (.ref a1), (.ref b1o), (.ref b1o)])) _
    rw [(own_xadd (i := b) (j := ct.length) (by have := hs.1; omega) (by have := hs.1; omega))]
    show Steps p.tables e below (T1.setTop (mkF m 16 #[.val (.ref a1), .val (.int (Int32.ofNat b)), .val (.int (Int32.ofNat ct.length))] [(.int (Int32.ofNat (b + ct.length))), (.int (Int32.ofNat b)), (.ref a1), (.ref b1o), (.ref b1o)])) _
    refine st3 _ ?_
    refine XS.iconst X3.here hx rfl (hb hby d48_19) ?_
    refine st7.trans ?_
    show Steps p.tables e below (T7.setTop (mkF m 23 #[.val (.ref a1), .val (.int (Int32.ofNat b)), .val (.int (Int32.ofNat ct.length))] [(.ref b1o)])) _
    exact X7.areturnOut hx rfl Bd.returns rfl (hb hby d48_23) hr
  · show QrLn Z a1 p2 p3 k cs ct b h0 n0 _ T7.heap _
    have f11 := (V3.keep KC7 (ninS (Ne.symm ne6) nin0))
    have qa := f11
    rw [own_subLat hs] at qa
    exact ⟨b1o, rfl, N7, K7, o3, _, uE7, uV7, Or.inl ⟨uC7, qa, (own_subLt hs hl)⟩⟩
theorem pd_18 : parseMethodDescriptor "(III)I" = some ⟨[.int, .int, .int], some .int⟩ := by decide +kernel
theorem d40_0 : decode jdk_52_method_94_code 0 = .ok (.iload_n 0, 1) := by decide +kernel
theorem d40_1 : decode jdk_52_method_94_code 1 = .ok (.iload_n 1, 1) := by decide +kernel
theorem d40_2 : decode jdk_52_method_94_code 2 = .ok (.aload_n 2, 1) := by decide +kernel
theorem d40_3 : decode jdk_52_method_94_code 3 = .ok (.invokestatic 48, 3) := by decide +kernel
theorem d40_6 : decode jdk_52_method_94_code 6 = .ok (.invokestatic 419, 3) := by decide +kernel
theorem d40_9 : decode jdk_52_method_94_code 9 = .ok (.pop, 1) := by decide +kernel
theorem d40_10 : decode jdk_52_method_94_code 10 = .ok (.return_, 1) := by decide +kernel
theorem pn_40 : plainName "java/lang/StringUTF16" = true := by first | (simp [plainName, overriddenIn]; done) | decide +kernel
theorem ef_rUo (m : MethodId) (p1 : Int32) (p2 : Int32) (a3 : Addr) : entryFrame m #[(.int p1), (.int p2), (.ref a3)] 3 = mkF m 0 #[.val (.int p1), .val (.int p2), .val (.ref a3)] [] := by first | (simp [entryFrame, mkF, argsToLocals, Value.category]; done) | rfl
def QrUo (Z : State) (p1 : Int32) (p2 : Int32) (a3 : Addr) (k : ClassId) (cs : List Int32) (b : Nat) (w : Nat) (gv : Value) (h0 : Heap) (n0 : Nat) (v : Option Value) (h : Heap) (L : List Loc) : Prop := v = none ∧ Fr n0 L ∧ h = h0
set_option maxRecDepth 65536 in
set_option maxHeartbeats 40000000 in
theorem rUo (l : Launch) (Z : State) (a0 : Array Value) (hw : ∀ d ∈ tables_1, d.before a0 Z = true) (ws : List Jvm.Cond) (p1 : Int32) (p2 : Int32) (a3 : Addr) (k : ClassId) (cs : List Int32) (b : Nat) (w : Nat) (gv : Value) (h0 : Heap) (n0 : Nat) (Z0 : n0 ≤ h0.size) (X00 : Old Z n0 h0) (O_S : Sta Z Z.heap "jdk/internal/util/Preconditions" "SIOOBE_FORMATTER" "Ljava/util/function/BiFunction;" gv) (hgv : gv.isRef = true) (AV : Arv Z h0 a3 k .byte (Int32.ofNat (2 * cs.length)) (own_utf cs) (.int (0 : Int32))) (hp1 : p1 = Int32.ofNat b) (hp2 : p2 = Int32.ofNat w) (hbw : b + w ≤ cs.length) (hL : cs.length < 8) :
    MetFree l (⟨"java/lang/StringUTF16", "checkBoundsOffCount", "(II[B)V"⟩ : MethodName) (head1 (Jvm.Cond.code (⟨"java/lang/StringUTF16", "checkBoundsOffCount", "(II[B)V"⟩ : MethodName) jdk_52_method_94_code 3 none :: ws) ({ frames := 2, cells := 0, slots := 0, locals := 29 } : Room)) (fun a U => a = #[(.int p1), (.int p2), (.ref a3)] ∧ Z.Warmed39 U.vm ∧ U.heap = h0) (fun _ _ _ _ _ => True) (fun _ U o U' => ∃ v L, o = .returned v ∧ QrUo Z p1 p2 a3 k cs b w gv h0 n0 v U'.heap L ∧ FrameEnd U o U' L ({ frames := 2, cells := 0, slots := 0, locals := 29 } : Room).cells ({ frames := 2, cells := 0, slots := 0, locals := 29 } : Room).slots) := by
  refine MetFree.of_bodySF (plainFor_of_name pn_40) hisR ?_
  intro p e s m args below meth c s₁ Bd hml0 hP hK
  obtain ⟨rfl, hZ, hh⟩ := hP
  have hx := Bd.exec
  have hby := Bd.bytes
  have hml : c.maxLocals = 3 := hml0
  have hown : s.vm.findClass "java/lang/StringUTF16" = some m.cls := findClass_of_methodNamed Bd.named
  have hnm := (name_of_methodNamed Bd.named Bd.method).1
  have X0 : Stand p l e ({ frames := 2, cells := 0, slots := 0, locals := 29 } : Room) s m #[(.int p1), (.int p2), (.ref a3)] below meth c s₁ [] 0 0 := Stand.of_body Bd
  have e0 : s₁.heap = h0 := by rw [← hh, Bd.state]; rfl
  have N0 := Fr.nil n0
  have pre0 : ∀ t, Steps p.tables e below (s₁.setTop (mkF m 0 #[.val (.int p1), .val (.int p2), .val (.ref a3)] [])) t → Steps p.tables e below (s₁.setTop (entryFrame m #[(.int p1), (.int p2), (.ref a3)] 3)) t := fun t k => castTop (ef_rUo m p1 p2 a3) k
  obtain ⟨_, _, ⟨T1, Lq1, kq1, nq1⟩, -, X1, ⟨Lc1, hQ1, lq1, yq1, zq1⟩, st1⟩ := Jvm.LawKit.callS X0 hx (y := (⟨"java/lang/StringUTF16", "length", "([B)I"⟩ : MethodName)) hown (mvT hZ (hw _ (own_w 159 rfl))) (mvT hZ (hw _ (own_w 160 rfl))) (mvT hZ (hw _ (own_w 60 rfl))) (mvT hZ (hw _ (own_w 161 rfl))) (by decide) (backOf (W := 2) (rUl l Z a0 hw [] a3 k (cs.length) (own_utf cs) h0 n0 Z0 AV hL) hZ (hw _ (own_w 161 rfl)) (hw _ (own_w 60 rfl)) (by decide) (by decide)) (g := (mkF m 3 #[.val (.int p1), .val (.int p2), .val (.ref a3)] [(.ref a3), (.int p2), (.int p1)])) rfl (by rw [hml]; rfl) (argsL := [(.ref a3)]) (rest := [(.int p2), (.int p1)]) (lenOf pd_4 rfl) rfl (by show 2 * 0 + _ ≤ _; exact Nat.le_of_eq rfl) (hb hby d40_3) (fun _ _ => ⟨rfl, e0, (by decide : 0 + 0 ≤ _), (by decide : 0 + 0 ≤ _)⟩)
  dsimp only [Pt.U, Pt.locs, Pt.cells, Pt.slots] at X1 lq1 yq1 zq1 st1 hQ1
  subst lq1 yq1 zq1
  obtain ⟨r1, hr1, rfl, N1q, e1⟩ := hQ1
  have N1 := Fr.app N0 N1q
  obtain ⟨_, _, ⟨T2, Lq2, kq2, nq2⟩, -, X2, ⟨Lc2, hQ2, lq2, yq2, zq2⟩, st2⟩ := Jvm.LawKit.callS X1 hx (y := (⟨"java/lang/String", "checkBoundsOffCount", "(III)I"⟩ : MethodName)) hown (mvT hZ (hw _ (own_w 176 rfl))) (mvT hZ (hw _ (own_w 177 rfl))) (mvT hZ (hw _ (own_w 12 rfl))) (mvT hZ (hw _ (own_w 178 rfl))) (by decide) (backOf (W := 0) (rSo l Z a0 hw [] p1 p2 r1 gv h0 n0 Z0 X00 O_S hgv (by rw [hp1, hp2, hr1]; exact (own_off hL hbw).1) (by rw [hp1, hp2, hr1]; exact (own_off hL hbw).2)) hZ (hw _ (own_w 178 rfl)) (hw _ (own_w 12 rfl)) (by decide) (by decide)) (g := (mkF m 6 #[.val (.int p1), .val (.int p2), .val (.ref a3)] [(.int r1), (.int p2), (.int p1)])) rfl (by rw [hml]; rfl) (argsL := [(.int p1), (.int p2), (.int r1)]) (rest := []) (lenOf pd_18 rfl) rfl (by show 2 * 0 + _ ≤ _; exact Nat.le_of_eq rfl) (hb hby d40_6) (fun _ _ => ⟨rfl, e1, (by decide : 0 + 0 ≤ _), (by decide : 0 + 0 ≤ _)⟩)
  dsimp only [Pt.U, Pt.locs, Pt.cells, Pt.slots] at X2 lq2 yq2 zq2 st2 hQ2
  subst lq2 yq2 zq2
  obtain ⟨r2, hr2, rfl, N2q, e2⟩ := hQ2
  have N2 := Fr.app N1 N2q
  obtain ⟨fs, hr, hrun, hended, hW, hsame⟩ := X2.leave (v := none) (fun _ => rfl) (BodyLoose.notSynchronized Bd)
  refine ⟨_, _, pre0 _ ?_, hrun, hended, _, _, rfl, ?_, ⟨_, rfl⟩, hW, hsame.mono (by decide) (by decide)⟩
  · show Steps p.tables e below (s₁.setTop (mkF m 0 #[.val (.int p1), .val (.int p2), .val (.ref a3)] [])) _
    refine XS.iloadN X0.here hx rfl (hb hby d40_0) rfl ?_
    refine XS.iloadN X0.here hx rfl (hb hby d40_1) rfl ?_
    refine XS.aloadN X0.here hx rfl (hb hby d40_2) rfl rfl ?_
    refine st1 _ ?_
    refine st2 _ ?_
    refine XS.pop X2.here hx rfl (hb hby d40_9) rfl rfl ?_
    show Steps p.tables e below (T2.setTop (mkF m 10 #[.val (.int p1), .val (.int p2), .val (.ref a3)] [])) _
    exact X2.returnOut hx Bd.returns (hb hby d40_10) hr
  · show QrUo Z p1 p2 a3 k cs b w gv h0 n0 _ T2.heap _
    exact ⟨rfl, N2, e2⟩
theorem d39_10 : decode jdk_52_method_22_code 10 = .ok (.iload 5, 2) := by decide +kernel
theorem d39_12 : decode jdk_52_method_22_code 12 = .ok (.iload 4, 2) := by decide +kernel
theorem d39_14 : decode jdk_52_method_22_code 14 = .ok (.if_icmp .ge 39, 3) := by decide +kernel
theorem d39_17 : decode jdk_52_method_22_code 17 = .ok (.aload_n 0, 1) := by decide +kernel
theorem d39_18 : decode jdk_52_method_22_code 18 = .ok (.iload_n 1, 1) := by decide +kernel
theorem d39_19 : decode jdk_52_method_22_code 19 = .ok (.invokestatic 71, 3) := by decide +kernel
theorem d39_22 : decode jdk_52_method_22_code 22 = .ok (.istore 6, 2) := by decide +kernel
theorem d39_24 : decode jdk_52_method_22_code 24 = .ok (.iload 6, 2) := by decide +kernel
theorem d39_26 : decode jdk_52_method_22_code 26 = .ok (.sipush 255, 3) := by decide +kernel
theorem d39_29 : decode jdk_52_method_22_code 29 = .ok (.if_icmp .le 6, 3) := by decide +kernel
theorem d39_35 : decode jdk_52_method_22_code 35 = .ok (.aload_n 2, 1) := by decide +kernel
theorem d39_36 : decode jdk_52_method_22_code 36 = .ok (.iload_n 3, 1) := by decide +kernel
theorem d39_37 : decode jdk_52_method_22_code 37 = .ok (.iload 6, 2) := by decide +kernel
theorem d39_39 : decode jdk_52_method_22_code 39 = .ok (.i2b, 1) := by decide +kernel
theorem d39_40 : decode jdk_52_method_22_code 40 = .ok (.bastore, 1) := by decide +kernel
theorem d39_41 : decode jdk_52_method_22_code 41 = .ok (.iinc 1 1, 3) := by decide +kernel
theorem d39_44 : decode jdk_52_method_22_code 44 = .ok (.iinc 3 1, 3) := by decide +kernel
theorem d39_47 : decode jdk_52_method_22_code 47 = .ok (.iinc 5 1, 3) := by decide +kernel
theorem d39_50 : decode jdk_52_method_22_code 50 = .ok (.goto (-40), 3) := by decide +kernel
set_option maxRecDepth 65536 in
set_option maxHeartbeats 40000000 in
theorem own_cm {p : Program} {l : Launch} {e : Env} {R : Room} {s : State} {m : MethodId} {args : Array Value} {below : List Frame} {meth : Method} {c : Code} {cells slots : Nat} {Z : State} {a0 : Array Value} {n0 : Nat} {cs : List Int32} {a1 dd : Addr} {ka kd : ClassId} {ct : List Int32} {b : Nat} (hRf : 1 ≤ R.frames) (hRl : 13 ≤ R.locals) (hRc : cells ≤ R.cells) (hRs : slots ≤ R.slots) (hx : p.tables.exec = Jvm.exec) (hZ : Z.Warmed39 s.vm) (hw : ∀ d ∈ tables_1, d.before a0 Z = true) (hby : c.code = jdk_52_method_22_code) (hml : c.maxLocals = 7) (hown : s.vm.findClass "java/lang/StringUTF16" = some m.cls) (hL : cs.length < 8) (O_A : Sta Z Z.heap "java/lang/StringUTF16" "$assertionsDisabled" "Z" (.int (1 : Int32))) (O_H : Sta Z Z.heap "java/lang/StringUTF16" "HI_BYTE_SHIFT" "I" (.int (0 : Int32))) (O_W : Sta Z Z.heap "java/lang/StringUTF16" "LO_BYTE_SHIFT" "I" (.int (8 : Int32))) (hs : own_sub cs b ct) (hLt : ct.length < 8) (hcs : ∀ c ∈ cs, own_ch c)  (nad : a1 ≠ dd) (gd : n0 ≤ dd) (f : Nat) :
    ∀ (i : Nat), i + f = ct.length → (∀ k, k < i → (ct.getD k 0).toInt < 256) → ∀ (x6 : Slot), (x6 = .unset ∨ ∃ z : Int32, x6 = .val (.int z)) → ∀ (T0 : State) (h0 : Heap) (L0 : List Loc), Stand p l e R s m args below meth c T0 L0 cells slots → T0.heap = h0 → Fr n0 L0 → n0 ≤ h0.size → Old Z n0 h0 → Arv Z h0 a1 ka .byte (Int32.ofNat (2 * cs.length)) (own_utf cs) (.int (0 : Int32)) → Arv Z h0 dd kd .byte (Int32.ofNat ct.length) (own_mix own_mf (.int (0 : Int32)) ct i) (.int (0 : Int32)) →
    ∃ (T' : State) (h' : Heap) (L' : List Loc) (j pc : Nat) (y6 : Slot), Stand p l e R s m args below meth c T' L' cells slots ∧ T'.heap = h' ∧ Fr n0 L' ∧ n0 ≤ h'.size ∧ Keep h0 h' [dd] ∧ Arv Z h' dd kd .byte (Int32.ofNat ct.length) (own_mix own_mf (.int (0 : Int32)) ct j) (.int (0 : Int32)) ∧ ((j = ct.length ∧ pc = 53 ∧ ∀ c ∈ ct, c.toInt < 256) ∨ (j < ct.length ∧ pc = 32 ∧ ¬ (ct.getD j 0).toInt < 256)) ∧ ∀ target, Steps p.tables e below (T'.setTop (mkF m pc #[.val (.ref a1), .val (.int (Int32.ofNat (b + j))), .val (.ref dd), .val (.int (Int32.ofNat j)), .val (.int (Int32.ofNat ct.length)), .val (.int (Int32.ofNat j)), y6] [])) target → Steps p.tables e below (T0.setTop (mkF m 10 #[.val (.ref a1), .val (.int (Int32.ofNat (b + i))), .val (.ref dd), .val (.int (Int32.ofNat i)), .val (.int (Int32.ofNat ct.length)), .val (.int (Int32.ofNat i)), x6] [])) target := by
  induction f with
  | zero =>
    intro i hin hsm x6 hx6 T0 h0 L0 X0 e0 N0 Z0 X00 AC AD
    have hs1 := hs.1
    have hie : ct.length = i := by omega
    refine ⟨T0, _, _, i, 53, (x6), X0, e0, N0, Z0, Keep.refl _ _, AD, Or.inl ⟨hie.symm, rfl, own_allGet (by rw [hie]; exact hsm)⟩, fun target kt => ?_⟩
    refine XS.iload X0.here hx rfl (hb hby d39_10) rfl ?_
    refine XS.iload X0.here hx rfl (hb hby d39_12) rfl ?_
    refine XS.icmpYes X0.here hx rfl (pc0 := 14) (pc' := 53) rfl (hb hby d39_14) rfl (flt (by rw [hie]; exact fun w => absurd ((own_xlt (by omega) (by omega)).mp w) (Nat.lt_irrefl _))).2.1 (by decide) (by decide) ?_
    exact kt
  | succ f ih =>
    intro i hin hsm x6 hx6 T0 h0 L0 X0 e0 N0 Z0 X00 AC AD
    have hs1 := hs.1
    have hi : i < ct.length := by omega
    rcases hx6 with rfl | ⟨z6, rfl⟩
    · skip
      obtain ⟨_, _, ⟨T1, Lq1, kq1, nq1⟩, -, X1, ⟨Lc1, hQ1, lq1, yq1, zq1⟩, st1⟩ := Jvm.LawKit.callS X0 hx (y := (⟨"java/lang/StringUTF16", "getChar", "([BI)C"⟩ : MethodName)) hown (mvT hZ (hw _ (own_w 150 rfl))) (mvT hZ (hw _ (own_w 151 rfl))) (mvT hZ (hw _ (own_w 60 rfl))) (mvT hZ (hw _ (own_w 152 rfl))) (by decide) (backOf (W := 0) (rGc l Z a0 hw [] a1 (Int32.ofNat (b + i)) ka (cs).length (own_utf (cs)) (b + i) _ _ h0 n0 Z0 X00 O_A O_H O_W AC rfl (by have := hs.1; omega) hL (own_utf_at (cs) (b + i) _ (by have := hs.1; omega)).1 (own_utf_at (cs) (b + i) _ (by have := hs.1; omega)).2) hZ (hw _ (own_w 152 rfl)) (hw _ (own_w 60 rfl)) (Nat.le_trans (by decide) hRf) (Nat.le_trans (by decide) hRl)) (g := (mkF m 19 #[.val (.ref a1), .val (.int (Int32.ofNat (b + i))), .val (.ref dd), .val (.int (Int32.ofNat i)), .val (.int (Int32.ofNat ct.length)), .val (.int (Int32.ofNat i)), .unset] [(.int (Int32.ofNat (b + i))), (.ref a1)])) rfl (by rw [hml]; rfl) (argsL := [(.ref a1), (.int (Int32.ofNat (b + i)))]) (rest := []) (lenOf pd_6 rfl) rfl (by show 2 * 0 + _ ≤ _; exact Nat.le_of_eq rfl) (hb hby d39_19) (fun _ _ => ⟨rfl, e0, hRc, hRs⟩)
      dsimp only [Pt.U, Pt.locs, Pt.cells, Pt.slots] at X1 lq1 yq1 zq1 st1 hQ1
      subst lq1 yq1 zq1
      obtain ⟨r1, hr1, rfl, N1q, e1⟩ := hQ1
      have N1 := Fr.app N0 N1q
      by_cases hc29 : (255 : Int32) < (ct.getD i 0)
      · refine ⟨T1, _, _, i, 32, (.val (.int (ct.getD i 0))), X1, e1, N1, Z0, Keep.refl _ _, AD, Or.inr ⟨hi, rfl, (own_255 _).mp hc29⟩, fun target kt => ?_⟩
        show Steps p.tables e below (T0.setTop (mkF m 10 #[.val (.ref a1), .val (.int (Int32.ofNat (b + i))), .val (.ref dd), .val (.int (Int32.ofNat i)), .val (.int (Int32.ofNat ct.length)), .val (.int (Int32.ofNat i)), .unset] [])) _
        refine XS.iload X0.here hx rfl (hb hby d39_10) rfl ?_
        refine XS.iload X0.here hx rfl (hb hby d39_12) rfl ?_
        refine XS.icmpNo X0.here hx rfl (hb hby d39_14) rfl (tlt ((own_xlt (by omega) (by omega)).mpr hi)).2.1 ?_
        refine XS.aloadN X0.here hx rfl (hb hby d39_17) rfl rfl ?_
        refine XS.iloadN X0.here hx rfl (hb hby d39_18) rfl ?_
        refine st1 _ ?_
        show Steps p.tables e below (T1.setTop (mkF m 22 #[.val (.ref a1), .val (.int (Int32.ofNat (b + i))), .val (.ref dd), .val (.int (Int32.ofNat i)), .val (.int (Int32.ofNat ct.length)), .val (.int (Int32.ofNat i)), .unset] [(.int r1)])) _
        rw [(hr1.trans ((own_gc_eq (own_getCh hcs _)).trans (own_subGet hs hi).symm))]
        show Steps p.tables e below (T1.setTop (mkF m 22 #[.val (.ref a1), .val (.int (Int32.ofNat (b + i))), .val (.ref dd), .val (.int (Int32.ofNat i)), .val (.int (Int32.ofNat ct.length)), .val (.int (Int32.ofNat i)), .unset] [(.int (ct.getD i 0))])) _
        refine XS.istore X1.here hx rfl (hb hby d39_22) rfl (l' := #[.val (.ref a1), .val (.int (Int32.ofNat (b + i))), .val (.ref dd), .val (.int (Int32.ofNat i)), .val (.int (Int32.ofNat ct.length)), .val (.int (Int32.ofNat i)), .val (.int (ct.getD i 0))]) rfl ?_
        refine XS.iload X1.here hx rfl (hb hby d39_24) rfl ?_
        refine XS.sipush X1.here hx rfl (hb hby d39_26) ?_
        refine XS.icmpNo X1.here hx rfl (hb hby d39_29) rfl (tlt hc29).2.2.2 ?_
        exact kt
      · obtain ⟨cl2, Ar2, qk2, Sz2, Nn2, Hh2, Gg2⟩ := id (AD)
        have hin3 : ¬ ((Int32.ofNat i) < 0 ∨ cl2.slots.size ≤ ((Int32.ofNat i)).toNatClampNeg) := inb_of Sz2 ⟨own_x0 (by omega), (own_xlt (by omega) (by omega)).mpr hi⟩
        obtain ⟨T3, h3, X3, e3, W3, st3⟩ := stB X1 hx hZ e1 Ar2 (j := (Int32.ofNat i)) hin3 (g := (mkF m 40 #[.val (.ref a1), .val (.int (Int32.ofNat (b + i))), .val (.ref dd), .val (.int (Int32.ofNat i)), .val (.int (Int32.ofNat ct.length)), .val (.int (Int32.ofNat i)), .val (.int (ct.getD i 0))] [(.int ((ct.getD i 0).toInt8.toInt32)), (.int (Int32.ofNat i)), (.ref dd)])) rfl rfl (hb hby d39_40)
        have N3 := Fr.snoc X3 N1 gd
        have Z3 : n0 ≤ h3.size := by rw [W3.size]; exact Z0
        have K3 : Keep h0 h3 [dd] := (Keep.refl h0 [dd]).wr W3 (Or.inl (own_w 0 rfl))
        have V3 : Arv Z h3 dd kd .byte (Int32.ofNat ct.length) (own_mix own_mf (.int (0 : Int32)) ct (i + 1)) (.int (0 : Int32)) := by
          have q := Arv.set Ar2 qk2 Sz2 Nn2 Hh2 Gg2 (fits_nar_byte _) W3 (i) (own_xN (by omega)) (by rw [own_mixL]; exact hi)
          rw [← own_mixS own_mf (.int (0 : Int32)) ct i hi]; exact q
        have f4 := (X00.wr W3 gd)
        have f5 := (AC.other W3 nad)
        obtain ⟨T', h', L', j', pc', y', X', e', N', Z', K', A', hj', st'⟩ := ih (i + 1) (by omega) (own_smS hsm hc29) (.val (.int (ct.getD i 0))) (Or.inr ⟨_, rfl⟩) T3 _ _ X3 e3 N3 Z3 f4 f5 V3
        refine ⟨T', h', L', j', pc', y', X', e', N', Z', K3.trans K' (allS (Or.inl (own_w 0 rfl)) all0), A', hj', fun target kt => ?_⟩
        have kq := st' target kt
        rw [show Int32.ofNat (b + (i + 1)) = Int32.ofNat (b + i) + 1 from (own_xs (i := (b + i)) (by omega)).symm] at kq
        rw [← own_xs (show i < 16 by omega)] at kq
        show Steps p.tables e below (T0.setTop (mkF m 10 #[.val (.ref a1), .val (.int (Int32.ofNat (b + i))), .val (.ref dd), .val (.int (Int32.ofNat i)), .val (.int (Int32.ofNat ct.length)), .val (.int (Int32.ofNat i)), .unset] [])) _
        refine XS.iload X0.here hx rfl (hb hby d39_10) rfl ?_
        refine XS.iload X0.here hx rfl (hb hby d39_12) rfl ?_
        refine XS.icmpNo X0.here hx rfl (hb hby d39_14) rfl (tlt ((own_xlt (by omega) (by omega)).mpr hi)).2.1 ?_
        refine XS.aloadN X0.here hx rfl (hb hby d39_17) rfl rfl ?_
        refine XS.iloadN X0.here hx rfl (hb hby d39_18) rfl ?_
        refine st1 _ ?_
        show Steps p.tables e below (T1.setTop (mkF m 22 #[.val (.ref a1), .val (.int (Int32.ofNat (b + i))), .val (.ref dd), .val (.int (Int32.ofNat i)), .val (.int (Int32.ofNat ct.length)), .val (.int (Int32.ofNat i)), .unset] [(.int r1)])) _
        rw [(hr1.trans ((own_gc_eq (own_getCh hcs _)).trans (own_subGet hs hi).symm))]
        show Steps p.tables e below (T1.setTop (mkF m 22 #[.val (.ref a1), .val (.int (Int32.ofNat (b + i))), .val (.ref dd), .val (.int (Int32.ofNat i)), .val (.int (Int32.ofNat ct.length)), .val (.int (Int32.ofNat i)), .unset] [(.int (ct.getD i 0))])) _
        refine XS.istore X1.here hx rfl (hb hby d39_22) rfl (l' := #[.val (.ref a1), .val (.int (Int32.ofNat (b + i))), .val (.ref dd), .val (.int (Int32.ofNat i)), .val (.int (Int32.ofNat ct.length)), .val (.int (Int32.ofNat i)), .val (.int (ct.getD i 0))]) rfl ?_
        refine XS.iload X1.here hx rfl (hb hby d39_24) rfl ?_
        refine XS.sipush X1.here hx rfl (hb hby d39_26) ?_
        refine XS.icmpYes X1.here hx rfl (pc0 := 29) (pc' := 35) rfl (hb hby d39_29) rfl (flt hc29).2.2.2 (by decide) (by decide) ?_
        refine XS.aloadN X1.here hx rfl (hb hby d39_35) rfl rfl ?_
        refine XS.iloadN X1.here hx rfl (hb hby d39_36) rfl ?_
        refine XS.iload X1.here hx rfl (hb hby d39_37) rfl ?_
        refine XS.i2b X1.here hx rfl (hb hby d39_39) rfl ?_
        refine st3 _ ?_
        refine XS.iinc X3.here hx rfl (hb hby d39_41) rfl (l' := #[.val (.ref a1), .val (.int ((Int32.ofNat (b + i)) + (1 : Int32))), .val (.ref dd), .val (.int (Int32.ofNat i)), .val (.int (Int32.ofNat ct.length)), .val (.int (Int32.ofNat i)), .val (.int (ct.getD i 0))]) rfl ?_
        refine XS.iinc X3.here hx rfl (hb hby d39_44) rfl (l' := #[.val (.ref a1), .val (.int ((Int32.ofNat (b + i)) + (1 : Int32))), .val (.ref dd), .val (.int ((Int32.ofNat i) + (1 : Int32))), .val (.int (Int32.ofNat ct.length)), .val (.int (Int32.ofNat i)), .val (.int (ct.getD i 0))]) rfl ?_
        refine XS.iinc X3.here hx rfl (hb hby d39_47) rfl (l' := #[.val (.ref a1), .val (.int ((Int32.ofNat (b + i)) + (1 : Int32))), .val (.ref dd), .val (.int ((Int32.ofNat i) + (1 : Int32))), .val (.int (Int32.ofNat ct.length)), .val (.int ((Int32.ofNat i) + (1 : Int32))), .val (.int (ct.getD i 0))]) rfl ?_
        refine XS.goto X3.here hx rfl (pc0 := 50) (pc' := 10) rfl (hb hby d39_50) (by decide) (by decide) ?_
        exact kq
    · skip
      obtain ⟨_, _, ⟨T1, Lq1, kq1, nq1⟩, -, X1, ⟨Lc1, hQ1, lq1, yq1, zq1⟩, st1⟩ := Jvm.LawKit.callS X0 hx (y := (⟨"java/lang/StringUTF16", "getChar", "([BI)C"⟩ : MethodName)) hown (mvT hZ (hw _ (own_w 150 rfl))) (mvT hZ (hw _ (own_w 151 rfl))) (mvT hZ (hw _ (own_w 60 rfl))) (mvT hZ (hw _ (own_w 152 rfl))) (by decide) (backOf (W := 0) (rGc l Z a0 hw [] a1 (Int32.ofNat (b + i)) ka (cs).length (own_utf (cs)) (b + i) _ _ h0 n0 Z0 X00 O_A O_H O_W AC rfl (by have := hs.1; omega) hL (own_utf_at (cs) (b + i) _ (by have := hs.1; omega)).1 (own_utf_at (cs) (b + i) _ (by have := hs.1; omega)).2) hZ (hw _ (own_w 152 rfl)) (hw _ (own_w 60 rfl)) (Nat.le_trans (by decide) hRf) (Nat.le_trans (by decide) hRl)) (g := (mkF m 19 #[.val (.ref a1), .val (.int (Int32.ofNat (b + i))), .val (.ref dd), .val (.int (Int32.ofNat i)), .val (.int (Int32.ofNat ct.length)), .val (.int (Int32.ofNat i)), .val (.int z6)] [(.int (Int32.ofNat (b + i))), (.ref a1)])) rfl (by rw [hml]; rfl) (argsL := [(.ref a1), (.int (Int32.ofNat (b + i)))]) (rest := []) (lenOf pd_6 rfl) rfl (by show 2 * 0 + _ ≤ _; exact Nat.le_of_eq rfl) (hb hby d39_19) (fun _ _ => ⟨rfl, e0, hRc, hRs⟩)
      dsimp only [Pt.U, Pt.locs, Pt.cells, Pt.slots] at X1 lq1 yq1 zq1 st1 hQ1
      subst lq1 yq1 zq1
      obtain ⟨r1, hr1, rfl, N1q, e1⟩ := hQ1
      have N1 := Fr.app N0 N1q
      by_cases hc29 : (255 : Int32) < (ct.getD i 0)
      · refine ⟨T1, _, _, i, 32, (.val (.int (ct.getD i 0))), X1, e1, N1, Z0, Keep.refl _ _, AD, Or.inr ⟨hi, rfl, (own_255 _).mp hc29⟩, fun target kt => ?_⟩
        show Steps p.tables e below (T0.setTop (mkF m 10 #[.val (.ref a1), .val (.int (Int32.ofNat (b + i))), .val (.ref dd), .val (.int (Int32.ofNat i)), .val (.int (Int32.ofNat ct.length)), .val (.int (Int32.ofNat i)), .val (.int z6)] [])) _
        refine XS.iload X0.here hx rfl (hb hby d39_10) rfl ?_
        refine XS.iload X0.here hx rfl (hb hby d39_12) rfl ?_
        refine XS.icmpNo X0.here hx rfl (hb hby d39_14) rfl (tlt ((own_xlt (by omega) (by omega)).mpr hi)).2.1 ?_
        refine XS.aloadN X0.here hx rfl (hb hby d39_17) rfl rfl ?_
        refine XS.iloadN X0.here hx rfl (hb hby d39_18) rfl ?_
        refine st1 _ ?_
        show Steps p.tables e below (T1.setTop (mkF m 22 #[.val (.ref a1), .val (.int (Int32.ofNat (b + i))), .val (.ref dd), .val (.int (Int32.ofNat i)), .val (.int (Int32.ofNat ct.length)), .val (.int (Int32.ofNat i)), .val (.int z6)] [(.int r1)])) _
        rw [(hr1.trans ((own_gc_eq (own_getCh hcs _)).trans (own_subGet hs hi).symm))]
        show Steps p.tables e below (T1.setTop (mkF m 22 #[.val (.ref a1), .val (.int (Int32.ofNat (b + i))), .val (.ref dd), .val (.int (Int32.ofNat i)), .val (.int (Int32.ofNat ct.length)), .val (.int (Int32.ofNat i)), .val (.int z6)] [(.int (ct.getD i 0))])) _
        refine XS.istore X1.here hx rfl (hb hby d39_22) rfl (l' := #[.val (.ref a1), .val (.int (Int32.ofNat (b + i))), .val (.ref dd), .val (.int (Int32.ofNat i)), .val (.int (Int32.ofNat ct.length)), .val (.int (Int32.ofNat i)), .val (.int (ct.getD i 0))]) rfl ?_
        refine XS.iload X1.here hx rfl (hb hby d39_24) rfl ?_
        refine XS.sipush X1.here hx rfl (hb hby d39_26) ?_
        refine XS.icmpNo X1.here hx rfl (hb hby d39_29) rfl (tlt hc29).2.2.2 ?_
        exact kt
      · obtain ⟨cl2, Ar2, qk2, Sz2, Nn2, Hh2, Gg2⟩ := id (AD)
        have hin3 : ¬ ((Int32.ofNat i) < 0 ∨ cl2.slots.size ≤ ((Int32.ofNat i)).toNatClampNeg) := inb_of Sz2 ⟨own_x0 (by omega), (own_xlt (by omega) (by omega)).mpr hi⟩
        obtain ⟨T3, h3, X3, e3, W3, st3⟩ := stB X1 hx hZ e1 Ar2 (j := (Int32.ofNat i)) hin3 (g := (mkF m 40 #[.val (.ref a1), .val (.int (Int32.ofNat (b + i))), .val (.ref dd), .val (.int (Int32.ofNat i)), .val (.int (Int32.ofNat ct.length)), .val (.int (Int32.ofNat i)), .val (.int (ct.getD i 0))] [(.int ((ct.getD i 0).toInt8.toInt32)), (.int (Int32.ofNat i)), (.ref dd)])) rfl rfl (hb hby d39_40)
        have N3 := Fr.snoc X3 N1 gd
        have Z3 : n0 ≤ h3.size := by rw [W3.size]; exact Z0
        have K3 : Keep h0 h3 [dd] := (Keep.refl h0 [dd]).wr W3 (Or.inl (own_w 0 rfl))
        have V3 : Arv Z h3 dd kd .byte (Int32.ofNat ct.length) (own_mix own_mf (.int (0 : Int32)) ct (i + 1)) (.int (0 : Int32)) := by
          have q := Arv.set Ar2 qk2 Sz2 Nn2 Hh2 Gg2 (fits_nar_byte _) W3 (i) (own_xN (by omega)) (by rw [own_mixL]; exact hi)
          rw [← own_mixS own_mf (.int (0 : Int32)) ct i hi]; exact q
        have f4 := (X00.wr W3 gd)
        have f5 := (AC.other W3 nad)
        obtain ⟨T', h', L', j', pc', y', X', e', N', Z', K', A', hj', st'⟩ := ih (i + 1) (by omega) (own_smS hsm hc29) (.val (.int (ct.getD i 0))) (Or.inr ⟨_, rfl⟩) T3 _ _ X3 e3 N3 Z3 f4 f5 V3
        refine ⟨T', h', L', j', pc', y', X', e', N', Z', K3.trans K' (allS (Or.inl (own_w 0 rfl)) all0), A', hj', fun target kt => ?_⟩
        have kq := st' target kt
        rw [show Int32.ofNat (b + (i + 1)) = Int32.ofNat (b + i) + 1 from (own_xs (i := (b + i)) (by omega)).symm] at kq
        rw [← own_xs (show i < 16 by omega)] at kq
        show Steps p.tables e below (T0.setTop (mkF m 10 #[.val (.ref a1), .val (.int (Int32.ofNat (b + i))), .val (.ref dd), .val (.int (Int32.ofNat i)), .val (.int (Int32.ofNat ct.length)), .val (.int (Int32.ofNat i)), .val (.int z6)] [])) _
        refine XS.iload X0.here hx rfl (hb hby d39_10) rfl ?_
        refine XS.iload X0.here hx rfl (hb hby d39_12) rfl ?_
        refine XS.icmpNo X0.here hx rfl (hb hby d39_14) rfl (tlt ((own_xlt (by omega) (by omega)).mpr hi)).2.1 ?_
        refine XS.aloadN X0.here hx rfl (hb hby d39_17) rfl rfl ?_
        refine XS.iloadN X0.here hx rfl (hb hby d39_18) rfl ?_
        refine st1 _ ?_
        show Steps p.tables e below (T1.setTop (mkF m 22 #[.val (.ref a1), .val (.int (Int32.ofNat (b + i))), .val (.ref dd), .val (.int (Int32.ofNat i)), .val (.int (Int32.ofNat ct.length)), .val (.int (Int32.ofNat i)), .val (.int z6)] [(.int r1)])) _
        rw [(hr1.trans ((own_gc_eq (own_getCh hcs _)).trans (own_subGet hs hi).symm))]
        show Steps p.tables e below (T1.setTop (mkF m 22 #[.val (.ref a1), .val (.int (Int32.ofNat (b + i))), .val (.ref dd), .val (.int (Int32.ofNat i)), .val (.int (Int32.ofNat ct.length)), .val (.int (Int32.ofNat i)), .val (.int z6)] [(.int (ct.getD i 0))])) _
        refine XS.istore X1.here hx rfl (hb hby d39_22) rfl (l' := #[.val (.ref a1), .val (.int (Int32.ofNat (b + i))), .val (.ref dd), .val (.int (Int32.ofNat i)), .val (.int (Int32.ofNat ct.length)), .val (.int (Int32.ofNat i)), .val (.int (ct.getD i 0))]) rfl ?_
        refine XS.iload X1.here hx rfl (hb hby d39_24) rfl ?_
        refine XS.sipush X1.here hx rfl (hb hby d39_26) ?_
        refine XS.icmpYes X1.here hx rfl (pc0 := 29) (pc' := 35) rfl (hb hby d39_29) rfl (flt hc29).2.2.2 (by decide) (by decide) ?_
        refine XS.aloadN X1.here hx rfl (hb hby d39_35) rfl rfl ?_
        refine XS.iloadN X1.here hx rfl (hb hby d39_36) rfl ?_
        refine XS.iload X1.here hx rfl (hb hby d39_37) rfl ?_
        refine XS.i2b X1.here hx rfl (hb hby d39_39) rfl ?_
        refine st3 _ ?_
        refine XS.iinc X3.here hx rfl (hb hby d39_41) rfl (l' := #[.val (.ref a1), .val (.int ((Int32.ofNat (b + i)) + (1 : Int32))), .val (.ref dd), .val (.int (Int32.ofNat i)), .val (.int (Int32.ofNat ct.length)), .val (.int (Int32.ofNat i)), .val (.int (ct.getD i 0))]) rfl ?_
        refine XS.iinc X3.here hx rfl (hb hby d39_44) rfl (l' := #[.val (.ref a1), .val (.int ((Int32.ofNat (b + i)) + (1 : Int32))), .val (.ref dd), .val (.int ((Int32.ofNat i) + (1 : Int32))), .val (.int (Int32.ofNat ct.length)), .val (.int (Int32.ofNat i)), .val (.int (ct.getD i 0))]) rfl ?_
        refine XS.iinc X3.here hx rfl (hb hby d39_47) rfl (l' := #[.val (.ref a1), .val (.int ((Int32.ofNat (b + i)) + (1 : Int32))), .val (.ref dd), .val (.int ((Int32.ofNat i) + (1 : Int32))), .val (.int (Int32.ofNat ct.length)), .val (.int ((Int32.ofNat i) + (1 : Int32))), .val (.int (ct.getD i 0))]) rfl ?_
        refine XS.goto X3.here hx rfl (pc0 := 50) (pc' := 10) rfl (hb hby d39_50) (by decide) (by decide) ?_
        exact kq
theorem pd_19 : parseMethodDescriptor "(II[B)V" = some ⟨[.int, .int, (.array .byte)], none⟩ := by decide +kernel
theorem d39_0 : decode jdk_52_method_22_code 0 = .ok (.iload_n 1, 1) := by decide +kernel
theorem d39_1 : decode jdk_52_method_22_code 1 = .ok (.iload 4, 2) := by decide +kernel
theorem d39_3 : decode jdk_52_method_22_code 3 = .ok (.aload_n 0, 1) := by decide +kernel
theorem d39_4 : decode jdk_52_method_22_code 4 = .ok (.invokestatic 173, 3) := by decide +kernel
theorem d39_7 : decode jdk_52_method_22_code 7 = .ok (.iconst 0, 1) := by decide +kernel
theorem d39_8 : decode jdk_52_method_22_code 8 = .ok (.istore 5, 2) := by decide +kernel
theorem d39_32 : decode jdk_52_method_22_code 32 = .ok (.iload 5, 2) := by decide +kernel
theorem d39_34 : decode jdk_52_method_22_code 34 = .ok (.ireturn, 1) := by decide +kernel
theorem d39_53 : decode jdk_52_method_22_code 53 = .ok (.iload 4, 2) := by decide +kernel
theorem d39_55 : decode jdk_52_method_22_code 55 = .ok (.ireturn, 1) := by decide +kernel
theorem pn_39 : plainName "java/lang/StringUTF16" = true := by first | (simp [plainName, overriddenIn]; done) | decide +kernel
theorem ef_rC3 (m : MethodId) (a1 : Addr) (p2 : Int32) (a3 : Addr) (p5 : Int32) : entryFrame m #[(.ref a1), (.int p2), (.ref a3), (.int (0 : Int32)), (.int p5)] 7 = mkF m 0 #[.val (.ref a1), .val (.int p2), .val (.ref a3), .val (.int (0 : Int32)), .val (.int p5), .unset, .unset] [] := by first | (simp [entryFrame, mkF, argsToLocals, Value.category]; done) | rfl
def QrC3 (Z : State) (a1 : Addr) (p2 : Int32) (a3 : Addr) (p5 : Int32) (cs : List Int32) (ct : List Int32) (b : Nat) (ka : ClassId) (kd : ClassId) (gv : Value) (h0 : Heap) (n0 : Nat) (v : Option Value) (h : Heap) (L : List Loc) : Prop := ∃ j : Nat, v = some (.int (Int32.ofNat j)) ∧ Fr n0 L ∧ Keep h0 h [a3] ∧ Arv Z h a3 kd .byte (Int32.ofNat ct.length) (own_mix own_mf (.int (0 : Int32)) ct j) (.int (0 : Int32)) ∧ ((j = ct.length ∧ ∀ c ∈ ct, c.toInt < 256) ∨ (j < ct.length ∧ ¬ (ct.getD j 0).toInt < 256))
set_option maxRecDepth 65536 in
set_option maxHeartbeats 40000000 in
theorem rC3 (l : Launch) (Z : State) (a0 : Array Value) (hw : ∀ d ∈ tables_1, d.before a0 Z = true) (ws : List Jvm.Cond) (a1 : Addr) (p2 : Int32) (a3 : Addr) (p5 : Int32) (cs : List Int32) (ct : List Int32) (b : Nat) (ka : ClassId) (kd : ClassId) (gv : Value) (h0 : Heap) (n0 : Nat) (Z0 : n0 ≤ h0.size) (X00 : Old Z n0 h0) (O_S : Sta Z Z.heap "jdk/internal/util/Preconditions" "SIOOBE_FORMATTER" "Ljava/util/function/BiFunction;" gv) (hgv : gv.isRef = true) (O_A : Sta Z Z.heap "java/lang/StringUTF16" "$assertionsDisabled" "Z" (.int (1 : Int32))) (O_H : Sta Z Z.heap "java/lang/StringUTF16" "HI_BYTE_SHIFT" "I" (.int (0 : Int32))) (O_W : Sta Z Z.heap "java/lang/StringUTF16" "LO_BYTE_SHIFT" "I" (.int (8 : Int32))) (AC : Arv Z h0 a1 ka .byte (Int32.ofNat (2 * cs.length)) (own_utf cs) (.int (0 : Int32))) (AD : Arv Z h0 a3 kd .byte (Int32.ofNat ct.length) (List.replicate ct.length (.int (0 : Int32))) (.int (0 : Int32))) (hp2 : p2 = Int32.ofNat b) (hp5 : p5 = Int32.ofNat ct.length) (hs : own_sub cs b ct) (hL : cs.length < 8) (hLt : ct.length < 8) (hcs : ∀ c ∈ cs, own_ch c) (nad : a1 ≠ a3) (gd : n0 ≤ a3) :
    MetFree l (⟨"java/lang/StringUTF16", "compress", "([BI[BII)I"⟩ : MethodName) (head1 (Jvm.Cond.code (⟨"java/lang/StringUTF16", "compress", "([BI[BII)I"⟩ : MethodName) jdk_52_method_22_code 7 (some .int) :: ws) ({ frames := 3, cells := 0, slots := 0, locals := 43 } : Room)) (fun a U => a = #[(.ref a1), (.int p2), (.ref a3), (.int (0 : Int32)), (.int p5)] ∧ Z.Warmed39 U.vm ∧ U.heap = h0) (fun _ _ _ _ _ => True) (fun _ U o U' => ∃ v L, o = .returned v ∧ QrC3 Z a1 p2 a3 p5 cs ct b ka kd gv h0 n0 v U'.heap L ∧ FrameEnd U o U' L ({ frames := 3, cells := 0, slots := 0, locals := 43 } : Room).cells ({ frames := 3, cells := 0, slots := 0, locals := 43 } : Room).slots) := by
  refine MetFree.of_bodySF (plainFor_of_name pn_39) hisR ?_
  intro p e s m args below meth c s₁ Bd hml0 hP hK
  obtain ⟨rfl, hZ, hh⟩ := hP
  have hx := Bd.exec
  have hby := Bd.bytes
  have hml : c.maxLocals = 7 := hml0
  have hown : s.vm.findClass "java/lang/StringUTF16" = some m.cls := findClass_of_methodNamed Bd.named
  have hnm := (name_of_methodNamed Bd.named Bd.method).1
  have X0 : Stand p l e ({ frames := 3, cells := 0, slots := 0, locals := 43 } : Room) s m #[(.ref a1), (.int p2), (.ref a3), (.int (0 : Int32)), (.int p5)] below meth c s₁ [] 0 0 := Stand.of_body Bd
  have e0 : s₁.heap = h0 := by rw [← hh, Bd.state]; rfl
  have N0 := Fr.nil n0
  have pre0 : ∀ t, Steps p.tables e below (s₁.setTop (mkF m 0 #[.val (.ref a1), .val (.int p2), .val (.ref a3), .val (.int (0 : Int32)), .val (.int p5), .unset, .unset] [])) t → Steps p.tables e below (s₁.setTop (entryFrame m #[(.ref a1), (.int p2), (.ref a3), (.int (0 : Int32)), (.int p5)] 7)) t := fun t k => castTop (ef_rC3 m a1 p2 a3 p5) k
  obtain ⟨_, _, ⟨T1, Lq1, kq1, nq1⟩, -, X1, ⟨Lc1, hQ1, lq1, yq1, zq1⟩, st1⟩ := Jvm.LawKit.callS X0 hx (y := (⟨"java/lang/StringUTF16", "checkBoundsOffCount", "(II[B)V"⟩ : MethodName)) hown (mvT hZ (hw _ (own_w 173 rfl))) (mvT hZ (hw _ (own_w 174 rfl))) (mvT hZ (hw _ (own_w 60 rfl))) (mvT hZ (hw _ (own_w 175 rfl))) (by decide) (backOf (W := 0) (rUo l Z a0 hw [] p2 p5 a1 ka cs b ct.length gv h0 n0 Z0 X00 O_S hgv AC hp2 hp5 hs.1 hL) hZ (hw _ (own_w 175 rfl)) (hw _ (own_w 60 rfl)) (by decide) (by decide)) (g := (mkF m 4 #[.val (.ref a1), .val (.int p2), .val (.ref a3), .val (.int (0 : Int32)), .val (.int p5), .unset, .unset] [(.ref a1), (.int p5), (.int p2)])) rfl (by rw [hml]; rfl) (argsL := [(.int p2), (.int p5), (.ref a1)]) (rest := []) (lenOf pd_19 rfl) rfl (by show 2 * 0 + _ ≤ _; exact Nat.le_of_eq rfl) (hb hby d39_4) (fun _ _ => ⟨rfl, e0, (by decide : 0 + 0 ≤ _), (by decide : 0 + 0 ≤ _)⟩)
  dsimp only [Pt.U, Pt.locs, Pt.cells, Pt.slots] at X1 lq1 yq1 zq1 st1 hQ1
  subst lq1 yq1 zq1
  obtain ⟨rfl, N1q, e1⟩ := hQ1
  have N1 := Fr.app N0 N1q
  have VM2 := AD
  rw [← own_mix0 own_mf (.int (0 : Int32)) ct] at VM2
  obtain ⟨T2, h2, L2, j2, pc2, y2, X2, e2, N2, Z2, KT2, V2, hj2, st2⟩ := own_cm (by decide) (by decide) (by decide) (by decide) hx hZ hw hby hml hown hL O_A O_H O_W hs hLt hcs nad gd ct.length 0 (by omega) (fun k hk => absurd hk (Nat.not_lt_zero k)) .unset (Or.inl rfl) _ _ _ X1 e1 N1 Z0 X00 AC VM2
  have K2 : Keep h0 h2 [a3] := (Keep.refl h0 [a3]).trans KT2 (allS (Or.inl (own_w 0 rfl)) all0)
  rcases hj2 with ⟨rfl, rfl, hal2⟩ | ⟨hlt2, rfl, hbg2⟩
  · skip
    obtain ⟨fs, hr, hrun, hended, hW, hsame⟩ := X2.leave (v := some (.int (Int32.ofNat ct.length))) (fun h => by rw [Bd.returns] at h; cases h) (BodyLoose.notSynchronized Bd)
    refine ⟨_, _, pre0 _ ?_, hrun, hended, _, _, rfl, ?_, ⟨_, rfl⟩, hW, hsame.mono (by decide) (by decide)⟩
    · show Steps p.tables e below (s₁.setTop (mkF m 0 #[.val (.ref a1), .val (.int p2), .val (.ref a3), .val (.int (0 : Int32)), .val (.int p5), .unset, .unset] [])) _
      refine XS.iloadN X0.here hx rfl (hb hby d39_0) rfl ?_
      refine XS.iload X0.here hx rfl (hb hby d39_1) rfl ?_
      refine XS.aloadN X0.here hx rfl (hb hby d39_3) rfl rfl ?_
      refine st1 _ ?_
      refine XS.iconst X1.here hx rfl (hb hby d39_7) ?_
      refine XS.istore X1.here hx rfl (hb hby d39_8) rfl (l' := #[.val (.ref a1), .val (.int p2), .val (.ref a3), .val (.int (0 : Int32)), .val (.int p5), .val (.int (0 : Int32)), .unset]) rfl ?_
      show Steps p.tables e below (T1.setTop (mkF m 10 #[.val (.ref a1), .val (.int p2), .val (.ref a3), .val (.int (0 : Int32)), .val (.int p5), .val (.int (0 : Int32)), .unset] [])) _
      rw [hp2, hp5]
      refine st2 _ ?_
      refine XS.iload X2.here hx rfl (hb hby d39_53) rfl ?_
      show Steps p.tables e below (T2.setTop (mkF m 55 #[.val (.ref a1), .val (.int (Int32.ofNat (b + ct.length))), .val (.ref a3), .val (.int (Int32.ofNat ct.length)), .val (.int (Int32.ofNat ct.length)), .val (.int (Int32.ofNat ct.length)), y2] [(.int (Int32.ofNat ct.length))])) _
      exact retI X2 hx Bd.returns (hb hby d39_55) hr
    · show QrC3 Z a1 p2 a3 p5 cs ct b ka kd gv h0 n0 _ T2.heap _
      rw [e2]
      exact ⟨_, rfl, N2, K2, V2, Or.inl ⟨rfl, hal2⟩⟩
  · skip
    obtain ⟨fs, hr, hrun, hended, hW, hsame⟩ := X2.leave (v := some (.int (Int32.ofNat j2))) (fun h => by rw [Bd.returns] at h; cases h) (BodyLoose.notSynchronized Bd)
    refine ⟨_, _, pre0 _ ?_, hrun, hended, _, _, rfl, ?_, ⟨_, rfl⟩, hW, hsame.mono (by decide) (by decide)⟩
    · show Steps p.tables e below (s₁.setTop (mkF m 0 #[.val (.ref a1), .val (.int p2), .val (.ref a3), .val (.int (0 : Int32)), .val (.int p5), .unset, .unset] [])) _
      refine XS.iloadN X0.here hx rfl (hb hby d39_0) rfl ?_
      refine XS.iload X0.here hx rfl (hb hby d39_1) rfl ?_
      refine XS.aloadN X0.here hx rfl (hb hby d39_3) rfl rfl ?_
      refine st1 _ ?_
      refine XS.iconst X1.here hx rfl (hb hby d39_7) ?_
      refine XS.istore X1.here hx rfl (hb hby d39_8) rfl (l' := #[.val (.ref a1), .val (.int p2), .val (.ref a3), .val (.int (0 : Int32)), .val (.int p5), .val (.int (0 : Int32)), .unset]) rfl ?_
      show Steps p.tables e below (T1.setTop (mkF m 10 #[.val (.ref a1), .val (.int p2), .val (.ref a3), .val (.int (0 : Int32)), .val (.int p5), .val (.int (0 : Int32)), .unset] [])) _
      rw [hp2, hp5]
      refine st2 _ ?_
      refine XS.iload X2.here hx rfl (hb hby d39_32) rfl ?_
      show Steps p.tables e below (T2.setTop (mkF m 34 #[.val (.ref a1), .val (.int (Int32.ofNat (b + j2))), .val (.ref a3), .val (.int (Int32.ofNat j2)), .val (.int (Int32.ofNat ct.length)), .val (.int (Int32.ofNat j2)), y2] [(.int (Int32.ofNat j2))])) _
      exact retI X2 hx Bd.returns (hb hby d39_34) hr
    · show QrC3 Z a1 p2 a3 p5 cs ct b ka kd gv h0 n0 _ T2.heap _
      rw [e2]
      exact ⟨_, rfl, N2, K2, V2, Or.inr ⟨hlt2, hbg2⟩⟩
theorem pd_20 : parseMethodDescriptor "([BI[BII)I" = some ⟨[(.array .byte), .int, (.array .byte), .int, .int], some .int⟩ := by decide +kernel
theorem d38_0 : decode jdk_52_method_17_code 0 = .ok (.iload_n 2, 1) := by decide +kernel
theorem d38_1 : decode jdk_52_method_17_code 1 = .ok (.newarray .byte, 2) := by decide +kernel
theorem d38_3 : decode jdk_52_method_17_code 3 = .ok (.astore_n 3, 1) := by decide +kernel
theorem d38_4 : decode jdk_52_method_17_code 4 = .ok (.aload_n 0, 1) := by decide +kernel
theorem d38_5 : decode jdk_52_method_17_code 5 = .ok (.iload_n 1, 1) := by decide +kernel
theorem d38_6 : decode jdk_52_method_17_code 6 = .ok (.aload_n 3, 1) := by decide +kernel
theorem d38_7 : decode jdk_52_method_17_code 7 = .ok (.iconst 0, 1) := by decide +kernel
theorem d38_8 : decode jdk_52_method_17_code 8 = .ok (.iload_n 2, 1) := by decide +kernel
theorem d38_9 : decode jdk_52_method_17_code 9 = .ok (.invokestatic 123, 3) := by decide +kernel
theorem d38_12 : decode jdk_52_method_17_code 12 = .ok (.istore 4, 2) := by decide +kernel
theorem d38_14 : decode jdk_52_method_17_code 14 = .ok (.iload 4, 2) := by decide +kernel
theorem d38_16 : decode jdk_52_method_17_code 16 = .ok (.iload_n 2, 1) := by decide +kernel
theorem d38_17 : decode jdk_52_method_17_code 17 = .ok (.if_icmp .eq 47, 3) := by decide +kernel
theorem d38_20 : decode jdk_52_method_17_code 20 = .ok (.aload_n 0, 1) := by decide +kernel
theorem d38_21 : decode jdk_52_method_17_code 21 = .ok (.iload_n 1, 1) := by decide +kernel
theorem d38_22 : decode jdk_52_method_17_code 22 = .ok (.iconst 1, 1) := by decide +kernel
theorem d38_23 : decode jdk_52_method_17_code 23 = .ok (.ishl, 1) := by decide +kernel
theorem d38_24 : decode jdk_52_method_17_code 24 = .ok (.iload_n 1, 1) := by decide +kernel
theorem d38_25 : decode jdk_52_method_17_code 25 = .ok (.iload_n 2, 1) := by decide +kernel
theorem d38_26 : decode jdk_52_method_17_code 26 = .ok (.iadd, 1) := by decide +kernel
theorem d38_27 : decode jdk_52_method_17_code 27 = .ok (.invokestatic 11, 3) := by decide +kernel
theorem d38_30 : decode jdk_52_method_17_code 30 = .ok (.invokestatic 126, 3) := by decide +kernel
theorem d38_33 : decode jdk_52_method_17_code 33 = .ok (.astore 5, 2) := by decide +kernel
theorem d38_35 : decode jdk_52_method_17_code 35 = .ok (.aload 5, 2) := by decide +kernel
theorem d38_37 : decode jdk_52_method_17_code 37 = .ok (.iload 4, 2) := by decide +kernel
theorem d38_39 : decode jdk_52_method_17_code 39 = .ok (.invokestatic 71, 3) := by decide +kernel
theorem d38_42 : decode jdk_52_method_17_code 42 = .ok (.sipush 255, 3) := by decide +kernel
theorem d38_45 : decode jdk_52_method_17_code 45 = .ok (.if_icmp .gt 16, 3) := by decide +kernel
theorem d38_61 : decode jdk_52_method_17_code 61 = .ok (.aload 5, 2) := by decide +kernel
theorem d38_63 : decode jdk_52_method_17_code 63 = .ok (.areturn, 1) := by decide +kernel
theorem d38_64 : decode jdk_52_method_17_code 64 = .ok (.aload_n 3, 1) := by decide +kernel
theorem d38_65 : decode jdk_52_method_17_code 65 = .ok (.areturn, 1) := by decide +kernel
theorem pn_38 : plainName "java/lang/StringUTF16" = true := by first | (simp [plainName, overriddenIn]; done) | decide +kernel
theorem ef_rC4 (m : MethodId) (a1 : Addr) (p2 : Int32) (p3 : Int32) : entryFrame m #[(.ref a1), (.int p2), (.int p3)] 6 = mkF m 0 #[.val (.ref a1), .val (.int p2), .val (.int p3), .unset, .unset, .unset] [] := by first | (simp [entryFrame, mkF, argsToLocals, Value.category]; done) | rfl
def QrC4 (Z : State) (a1 : Addr) (p2 : Int32) (p3 : Int32) (cs : List Int32) (ct : List Int32) (b : Nat) (ka : ClassId) (gv : Value) (h0 : Heap) (n0 : Nat) (v : Option Value) (h : Heap) (L : List Loc) : Prop := ∃ (o : Addr) (ok : ClassId), v = some (.ref o) ∧ Fr n0 L ∧ Keep h0 h [] ∧ n0 ≤ o ∧ h0.size ≤ o ∧ ((Arv Z h o ok .byte (Int32.ofNat ct.length) (own_lat ct) (.int (0 : Int32)) ∧ ∀ c ∈ ct, c.toInt < 256) ∨ Arv Z h o ok .byte (Int32.ofNat (2 * ct.length)) (own_utf ct) (.int (0 : Int32)))
set_option maxRecDepth 65536 in
set_option maxHeartbeats 40000000 in
theorem rC4 (l : Launch) (Z : State) (a0 : Array Value) (hw : ∀ d ∈ tables_1, d.before a0 Z = true) (ws : List Jvm.Cond) (a1 : Addr) (p2 : Int32) (p3 : Int32) (cs : List Int32) (ct : List Int32) (b : Nat) (ka : ClassId) (gv : Value) (h0 : Heap) (n0 : Nat) (Z0 : n0 ≤ h0.size) (X00 : Old Z n0 h0) (O_S : Sta Z Z.heap "jdk/internal/util/Preconditions" "SIOOBE_FORMATTER" "Ljava/util/function/BiFunction;" gv) (hgv : gv.isRef = true) (O_A : Sta Z Z.heap "java/lang/StringUTF16" "$assertionsDisabled" "Z" (.int (1 : Int32))) (O_H : Sta Z Z.heap "java/lang/StringUTF16" "HI_BYTE_SHIFT" "I" (.int (0 : Int32))) (O_W : Sta Z Z.heap "java/lang/StringUTF16" "LO_BYTE_SHIFT" "I" (.int (8 : Int32))) (AC : Arv Z h0 a1 ka .byte (Int32.ofNat (2 * cs.length)) (own_utf cs) (.int (0 : Int32))) (hp2 : p2 = Int32.ofNat b) (hp3 : p3 = Int32.ofNat ct.length) (hs : own_sub cs b ct) (hps : 0 < ct.length) (hne : ¬ (b = 0 ∧ b + ct.length = cs.length)) (hL : cs.length < 8) (hLt : ct.length < 8) (hcs : ∀ c ∈ cs, own_ch c) :
    MetFree l (⟨"java/lang/StringUTF16", "compress", "([BII)[B"⟩ : MethodName) (head1 (Jvm.Cond.code (⟨"java/lang/StringUTF16", "compress", "([BII)[B"⟩ : MethodName) jdk_52_method_17_code 6 (some (.array .byte)) :: ws) ({ frames := 4, cells := 2, slots := 24, locals := 61 } : Room)) (fun a U => a = #[(.ref a1), (.int p2), (.int p3)] ∧ Z.Warmed39 U.vm ∧ U.heap = h0) (fun _ _ _ _ _ => True) (fun _ U o U' => ∃ v L, o = .returned v ∧ QrC4 Z a1 p2 p3 cs ct b ka gv h0 n0 v U'.heap L ∧ FrameEnd U o U' L ({ frames := 4, cells := 2, slots := 24, locals := 61 } : Room).cells ({ frames := 4, cells := 2, slots := 24, locals := 61 } : Room).slots) := by
  refine MetFree.of_bodySF (plainFor_of_name pn_38) hisR ?_
  intro p e s m args below meth c s₁ Bd hml0 hP hK
  obtain ⟨rfl, hZ, hh⟩ := hP
  have hx := Bd.exec
  have hby := Bd.bytes
  have hml : c.maxLocals = 6 := hml0
  have hown : s.vm.findClass "java/lang/StringUTF16" = some m.cls := findClass_of_methodNamed Bd.named
  have hnm := (name_of_methodNamed Bd.named Bd.method).1
  have X0 : Stand p l e ({ frames := 4, cells := 2, slots := 24, locals := 61 } : Room) s m #[(.ref a1), (.int p2), (.int p3)] below meth c s₁ [] 0 0 := Stand.of_body Bd
  have e0 : s₁.heap = h0 := by rw [← hh, Bd.state]; rfl
  have N0 := Fr.nil n0
  have pre0 : ∀ t, Steps p.tables e below (s₁.setTop (mkF m 0 #[.val (.ref a1), .val (.int p2), .val (.int p3), .unset, .unset, .unset] [])) t → Steps p.tables e below (s₁.setTop (entryFrame m #[(.ref a1), (.int p2), (.int p3)] 6)) t := fun t k => castTop (ef_rC4 m a1 p2 p3) k
  obtain ⟨T1, h1, ck1, X1, e1, E1, A1, st1⟩ := newP X0 hx hZ (hw _ (own_w 24 rfl)) e0 (g := (mkF m 1 #[.val (.ref a1), .val (.int (Int32.ofNat b)), .val (.int (Int32.ofNat ct.length)), .unset, .unset, .unset] [(.int (Int32.ofNat ct.length))])) rfl (hb hby d38_1) rfl (own_x0 (by omega)) (cap := 8) (by rw [own_xN (by omega)]; omega) (by decide) (by decide) (by decide)
  obtain ⟨b1o, g1⟩ : ∃ z, z = h0.size := ⟨_, rfl⟩
  have b1 : n0 ≤ b1o := Nat.le_trans Z0 (Nat.le_of_eq g1.symm)
  have bk1 : h0.size ≤ b1o := Nat.le_trans (Keep.refl h0 []).1 (Nat.le_of_eq g1.symm)
  have ne2 : a1 ≠ b1o := Nat.ne_of_lt (Nat.lt_of_lt_of_le AC.lt (Nat.le_of_eq g1.symm))
  rw [← g1] at A1 st1
  have Z1 : n0 ≤ h1.size := Nat.le_trans Z0 E1.1
  have K1 : Keep h0 h1 [] := (Keep.refl h0 []).ext E1
  have V1 : Arv Z h1 b1o ck1 .byte (Int32.ofNat ct.length) (List.replicate (ct.length) (.int (0 : Int32))) (.int (0 : Int32)) := (Arv.new A1 (own_x0 (by omega))).pad (pad_rep [] (.int (0 : Int32)) (ct.length))
  have f4 := (X00.ext E1)
  have f5 := (AC.ext E1)
  obtain ⟨_, _, ⟨T3, Lq3, kq3, nq3⟩, -, X3, ⟨Lc3, hQ3, lq3, yq3, zq3⟩, st3⟩ := Jvm.LawKit.callS X1 hx (y := (⟨"java/lang/StringUTF16", "compress", "([BI[BII)I"⟩ : MethodName)) hown (mvT hZ (hw _ (own_w 170 rfl))) (mvT hZ (hw _ (own_w 171 rfl))) (mvT hZ (hw _ (own_w 60 rfl))) (mvT hZ (hw _ (own_w 172 rfl))) (by decide) (backOf (W := 0) (rC3 l Z a0 hw [] a1 (Int32.ofNat b) b1o (Int32.ofNat ct.length) cs ct b ka ck1 gv h1 n0 Z1 f4 O_S hgv O_A O_H O_W f5 V1 rfl rfl hs hL hLt hcs ne2 b1) hZ (hw _ (own_w 172 rfl)) (hw _ (own_w 60 rfl)) (by decide) (by decide)) (g := (mkF m 9 #[.val (.ref a1), .val (.int (Int32.ofNat b)), .val (.int (Int32.ofNat ct.length)), .val (.ref b1o), .unset, .unset] [(.int (Int32.ofNat ct.length)), (.int (0 : Int32)), (.ref b1o), (.int (Int32.ofNat b)), (.ref a1)])) rfl (by rw [hml]; rfl) (argsL := [(.ref a1), (.int (Int32.ofNat b)), (.ref b1o), (.int (0 : Int32)), (.int (Int32.ofNat ct.length))]) (rest := []) (lenOf pd_20 rfl) rfl (by show 2 * 0 + _ ≤ _; exact Nat.le_of_eq rfl) (hb hby d38_9) (fun _ _ => ⟨rfl, e1, (by decide : 1 + 0 ≤ _), (by decide : 8 + 0 ≤ _)⟩)
  dsimp only [Pt.U, Pt.locs, Pt.cells, Pt.slots] at X3 lq3 yq3 zq3 st3 hQ3
  subst lq3 yq3 zq3
  obtain ⟨j3, rfl, N3q, KC3, V3, hj3⟩ := hQ3
  have N3 := Fr.app N0 N3q
  have Z3 : n0 ≤ T3.heap.size := Nat.le_trans Z1 KC3.1
  have K3 : Keep h0 T3.heap [] := K1.trans KC3 (allS (Or.inr bk1) all0)
  rcases hj3 with ⟨rfl, hal⟩ | ⟨hlt, hbg⟩
  · skip
    obtain ⟨fs, hr, hrun, hended, hW, hsame⟩ := X3.leave (v := some (.ref b1o)) (fun h => by rw [Bd.returns] at h; cases h) (BodyLoose.notSynchronized Bd)
    refine ⟨_, _, pre0 _ ?_, hrun, hended, _, _, rfl, ?_, ⟨_, rfl⟩, hW, hsame.mono (by decide) (by decide)⟩
    · show Steps p.tables e below (s₁.setTop (mkF m 0 #[.val (.ref a1), .val (.int p2), .val (.int p3), .unset, .unset, .unset] [])) _
      rw [hp2]
      show Steps p.tables e below (s₁.setTop (mkF m 0 #[.val (.ref a1), .val (.int (Int32.ofNat b)), .val (.int p3), .unset, .unset, .unset] [])) _
      rw [hp3]
      show Steps p.tables e below (s₁.setTop (mkF m 0 #[.val (.ref a1), .val (.int (Int32.ofNat b)), .val (.int (Int32.ofNat ct.length)), .unset, .unset, .unset] [])) _
      refine XS.iloadN X0.here hx rfl (hb hby d38_0) rfl ?_
      refine st1 _ ?_
      refine XS.astoreN X1.here hx rfl (hb hby d38_3) rfl rfl (l' := #[.val (.ref a1), .val (.int (Int32.ofNat b)), .val (.int (Int32.ofNat ct.length)), .val (.ref b1o), .unset, .unset]) rfl ?_
      refine XS.aloadN X1.here hx rfl (hb hby d38_4) rfl rfl ?_
      refine XS.iloadN X1.here hx rfl (hb hby d38_5) rfl ?_
      refine XS.aloadN X1.here hx rfl (hb hby d38_6) rfl rfl ?_
      refine XS.iconst X1.here hx rfl (hb hby d38_7) ?_
      refine XS.iloadN X1.here hx rfl (hb hby d38_8) rfl ?_
      refine st3 _ ?_
      refine XS.istore X3.here hx rfl (hb hby d38_12) rfl (l' := #[.val (.ref a1), .val (.int (Int32.ofNat b)), .val (.int (Int32.ofNat ct.length)), .val (.ref b1o), .val (.int (Int32.ofNat ct.length)), .unset]) rfl ?_
      refine XS.iload X3.here hx rfl (hb hby d38_14) rfl ?_
      refine XS.iloadN X3.here hx rfl (hb hby d38_16) rfl ?_
      refine XS.icmpYes X3.here hx rfl (pc0 := 17) (pc' := 64) rfl (hb hby d38_17) rfl (teq rfl).1 (by decide) (by decide) ?_
      refine XS.aloadN X3.here hx rfl (hb hby d38_64) rfl rfl ?_
      show Steps p.tables e below (T3.setTop (mkF m 65 #[.val (.ref a1), .val (.int (Int32.ofNat b)), .val (.int (Int32.ofNat ct.length)), .val (.ref b1o), .val (.int (Int32.ofNat ct.length)), .unset] [(.ref b1o)])) _
      exact X3.areturnOut hx rfl Bd.returns rfl (hb hby d38_65) hr
    · show QrC4 Z a1 p2 p3 cs ct b ka gv h0 n0 _ T3.heap _
      have qa := V3
      rw [own_mixLat] at qa
      exact ⟨b1o, _, rfl, N3, K3, b1, bk1, Or.inl ⟨qa, hal⟩⟩
  · skip
    obtain ⟨_, _, ⟨T6, Lq6, kq6, nq6⟩, -, X6, ⟨Lc6, hQ6, lq6, yq6, zq6⟩, st6⟩ := Jvm.LawKit.callS X3 hx (y := (⟨"java/lang/StringUTF16", "newBytesLength", "(I)I"⟩ : MethodName)) hown (mvT hZ (hw _ (own_w 140 rfl))) (mvT hZ (hw _ (own_w 141 rfl))) (mvT hZ (hw _ (own_w 60 rfl))) (mvT hZ (hw _ (own_w 142 rfl))) (by decide) (backOf (W := 2) (rNl l Z a0 hw [] (Int32.ofNat (b + ct.length)) (b + ct.length) T3.heap n0 Z3 rfl (by have := hs.1; omega)) hZ (hw _ (own_w 142 rfl)) (hw _ (own_w 60 rfl)) (by decide) (by decide)) (g := (mkF m 27 #[.val (.ref a1), .val (.int (Int32.ofNat b)), .val (.int (Int32.ofNat ct.length)), .val (.ref b1o), .val (.int (Int32.ofNat j3)), .unset] [(.int (Int32.ofNat (b + ct.length))), (.int (Int32.ofNat (2 * b))), (.ref a1)])) rfl (by rw [hml]; rfl) (argsL := [(.int (Int32.ofNat (b + ct.length)))]) (rest := [(.int (Int32.ofNat (2 * b))), (.ref a1)]) (lenOf pd_8 rfl) rfl (by show 2 * 0 + _ ≤ _; exact Nat.le_of_eq rfl) (hb hby d38_27) (fun _ _ => ⟨rfl, rfl, (by decide : 1 + 0 ≤ _), (by decide : 8 + 0 ≤ _)⟩)
    dsimp only [Pt.U, Pt.locs, Pt.cells, Pt.slots] at X6 lq6 yq6 zq6 st6 hQ6
    subst lq6 yq6 zq6
    obtain ⟨r6, hr6, rfl, N6q, e6⟩ := hQ6
    have N6 := Fr.app N3 N6q
    have f8 := (f5.keep KC3 (ninS ne2 nin0))
    obtain ⟨_, _, ⟨T7, Lq7, kq7, nq7⟩, -, X7, ⟨Lc7, hQ7, lq7, yq7, zq7⟩, st7⟩ := Jvm.LawKit.callS X6 hx (y := (⟨"java/util/Arrays", "copyOfRange", "([BII)[B"⟩ : MethodName)) hown (mvT hZ (hw _ (own_w 182 rfl))) (mvT hZ (hw _ (own_w 183 rfl))) (mvT hZ (hw _ (own_w 184 rfl))) (mvT hZ (hw _ (own_w 185 rfl))) (by decide) (backOf (W := 0) (rCr l Z a0 hw [] a1 (Int32.ofNat (2 * b)) (Int32.ofNat (2 * b + 2 * ct.length)) ka (2 * cs.length) (2 * b) (2 * ct.length) (own_utf cs) T3.heap n0 Z3 f8 rfl rfl (by have := hs.1; omega) (by omega) (fun q => hne ⟨by have := (own_xeq (by have := hs.1; omega) (by omega : 0 < 16)).mp q.1; omega, by have := (own_xeq (by have := hs.1; omega) (by omega)).mp q.2; omega⟩)) hZ (hw _ (own_w 185 rfl)) (hw _ (own_w 184 rfl)) (by decide) (by decide)) (g := (mkF m 30 #[.val (.ref a1), .val (.int (Int32.ofNat b)), .val (.int (Int32.ofNat ct.length)), .val (.ref b1o), .val (.int (Int32.ofNat j3)), .unset] [(.int (Int32.ofNat (2 * b + 2 * ct.length))), (.int (Int32.ofNat (2 * b))), (.ref a1)])) rfl (by rw [hml]; rfl) (argsL := [(.ref a1), (.int (Int32.ofNat (2 * b))), (.int (Int32.ofNat (2 * b + 2 * ct.length)))]) (rest := []) (lenOf pd_16 rfl) rfl (by show 2 * 0 + _ ≤ _; exact Nat.le_of_eq rfl) (hb hby d38_30) (fun _ _ => ⟨rfl, e6, (by decide : 1 + 1 ≤ _), (by decide : 8 + 16 ≤ _)⟩)
    dsimp only [Pt.U, Pt.locs, Pt.cells, Pt.slots] at X7 lq7 yq7 zq7 st7 hQ7
    subst lq7 yq7 zq7
    obtain ⟨o7, ok7, rfl, N7q, KC7, go7, gk7, V7⟩ := hQ7
    have N7 := Fr.app N6 N7q
    have Z7 : n0 ≤ T7.heap.size := Nat.le_trans Z3 KC7.1
    have ne9 : a1 ≠ o7 := Nat.ne_of_lt (Nat.lt_of_lt_of_le f8.lt gk7)
    have ne10 : b1o ≠ o7 := Nat.ne_of_lt (Nat.lt_of_lt_of_le V3.lt gk7)
    have K7 : Keep h0 T7.heap [] := K3.trans KC7 all0
    have VU11 := V7
    rw [own_subUtf hs] at VU11
    have f13 := ((f4.keep KC3 (allS b1 all0)).keep KC7 all0)
    obtain ⟨_, _, ⟨T12, Lq12, kq12, nq12⟩, -, X12, ⟨Lc12, hQ12, lq12, yq12, zq12⟩, st12⟩ := Jvm.LawKit.callS X7 hx (y := (⟨"java/lang/StringUTF16", "getChar", "([BI)C"⟩ : MethodName)) hown (mvT hZ (hw _ (own_w 150 rfl))) (mvT hZ (hw _ (own_w 151 rfl))) (mvT hZ (hw _ (own_w 60 rfl))) (mvT hZ (hw _ (own_w 152 rfl))) (by decide) (backOf (W := 0) (rGc l Z a0 hw [] o7 (Int32.ofNat j3) ok7 (ct).length (own_utf (ct)) (j3) _ _ T7.heap n0 Z7 f13 O_A O_H O_W VU11 rfl hlt hLt (own_utf_at (ct) (j3) _ hlt).1 (own_utf_at (ct) (j3) _ hlt).2) hZ (hw _ (own_w 152 rfl)) (hw _ (own_w 60 rfl)) (by decide) (by decide)) (g := (mkF m 39 #[.val (.ref a1), .val (.int (Int32.ofNat b)), .val (.int (Int32.ofNat ct.length)), .val (.ref b1o), .val (.int (Int32.ofNat j3)), .val (.ref o7)] [(.int (Int32.ofNat j3)), (.ref o7)])) rfl (by rw [hml]; rfl) (argsL := [(.ref o7), (.int (Int32.ofNat j3))]) (rest := []) (lenOf pd_6 rfl) rfl (by show 2 * 0 + _ ≤ _; exact Nat.le_of_eq rfl) (hb hby d38_39) (fun _ _ => ⟨rfl, rfl, (by decide : 2 + 0 ≤ _), (by decide : 24 + 0 ≤ _)⟩)
    dsimp only [Pt.U, Pt.locs, Pt.cells, Pt.slots] at X12 lq12 yq12 zq12 st12 hQ12
    subst lq12 yq12 zq12
    obtain ⟨r12, hr12, rfl, N12q, e12⟩ := hQ12
    have N12 := Fr.app N7 N12q
    obtain ⟨fs, hr, hrun, hended, hW, hsame⟩ := X12.leave (v := some (.ref o7)) (fun h => by rw [Bd.returns] at h; cases h) (BodyLoose.notSynchronized Bd)
    refine ⟨_, _, pre0 _ ?_, hrun, hended, _, _, rfl, ?_, ⟨_, rfl⟩, hW, hsame.mono (by decide) (by decide)⟩
    · show Steps p.tables e below (s₁.setTop (mkF m 0 #[.val (.ref a1), .val (.int p2), .val (.int p3), .unset, .unset, .unset] [])) _
      rw [hp2]
      show Steps p.tables e below (s₁.setTop (mkF m 0 #[.val (.ref a1), .val (.int (Int32.ofNat b)), .val (.int p3), .unset, .unset, .unset] [])) _
      rw [hp3]
      show Steps p.tables e below (s₁.setTop (mkF m 0 #[.val (.ref a1), .val (.int (Int32.ofNat b)), .val (.int (Int32.ofNat ct.length)), .unset, .unset, .unset] [])) _
      refine XS.iloadN X0.here hx rfl (hb hby d38_0) rfl ?_
      refine st1 _ ?_
      refine XS.astoreN X1.here hx rfl (hb hby d38_3) rfl rfl (l' := #[.val (.ref a1), .val (.int (Int32.ofNat b)), .val (.int (Int32.ofNat ct.length)), .val (.ref b1o), .unset, .unset]) rfl ?_
      refine XS.aloadN X1.here hx rfl (hb hby d38_4) rfl rfl ?_
      refine XS.iloadN X1.here hx rfl (hb hby d38_5) rfl ?_
      refine XS.aloadN X1.here hx rfl (hb hby d38_6) rfl rfl ?_
      refine XS.iconst X1.here hx rfl (hb hby d38_7) ?_
      refine XS.iloadN X1.here hx rfl (hb hby d38_8) rfl ?_
      refine st3 _ ?_
      refine XS.istore X3.here hx rfl (hb hby d38_12) rfl (l' := #[.val (.ref a1), .val (.int (Int32.ofNat b)), .val (.int (Int32.ofNat ct.length)), .val (.ref b1o), .val (.int (Int32.ofNat j3)), .unset]) rfl ?_
      refine XS.iload X3.here hx rfl (hb hby d38_14) rfl ?_
      refine XS.iloadN X3.here hx rfl (hb hby d38_16) rfl ?_
      refine XS.icmpNo X3.here hx rfl (hb hby d38_17) rfl (feq (fun w => absurd ((own_xeq (by omega) (by omega)).mp w) (Nat.ne_of_lt hlt))).1 ?_
      refine XS.aloadN X3.here hx rfl (hb hby d38_20) rfl rfl ?_
      refine XS.iloadN X3.here hx rfl (hb hby d38_21) rfl ?_
      refine XS.iconst X3.here hx rfl (hb hby d38_22) ?_
      refine XS.ishl X3.here hx rfl (hb hby d38_23) rfl ?_
      show Steps p.tables e below (T3.setTop (mkF m 24 #[.val (.ref a1), .val (.int (Int32.ofNat b)), .val (.int (Int32.ofNat ct.length)), .val (.ref b1o), .val (.int (Int32.ofNat j3)), .unset] [(.int ((Int32.ofNat b) <<< ((1 : Int32) &&& 31))), (.ref a1)])) _
      rw [(own_xsh (i := b) (by have := hs.1; omega))]
      show Steps p.tables e below (T3.setTop (mkF m 24 #[.val (.ref a1), .val (.int (Int32.ofNat b)), .val (.int (Int32.ofNat ct.length)), .val (.ref b1o), .val (.int (Int32.ofNat j3)), .unset] [(.int (Int32.ofNat (2 * b))), (.ref a1)])) _
      refine XS.iloadN X3.here hx rfl (hb hby d38_24) rfl ?_
      refine XS.iloadN X3.here hx rfl (hb hby d38_25) rfl ?_
      refine XS.iadd X3.here hx rfl (hb hby d38_26) rfl ?_
      show Steps p.tables e below (T3.setTop (mkF m 27 #[.val (.ref a1), .val (.int (Int32.ofNat b)), .val (.int (Int32.ofNat ct.length)), .val (.ref b1o), .val (.int (Int32.ofNat j3)), .unset] [(.int ((Int32.ofNat b) + (Int32.ofNat ct.length))), (.int (Int32.ofNat (2 * b))), (.ref a1)])) _
      rw [(own_xadd (i := b) (j := ct.length) (by have := hs.1; omega) (by have := hs.1; omega))]
      show Steps p.tables e below (T3.setTop (mkF m 27 #[.val (.ref a1), .val (.int (Int32.ofNat b)), .val (.int (Int32.ofNat ct.length)), .val (.ref b1o), .val (.int (Int32.ofNat j3)), .unset] [(.int (Int32.ofNat (b + ct.length))), (.int (Int32.ofNat (2 * b))), (.ref a1)])) _
      refine st6 _ ?_
      show Steps p.tables e below (T6.setTop (mkF m 30 #[.val (.ref a1), .val (.int (Int32.ofNat b)), .val (.int (Int32.ofNat ct.length)), .val (.ref b1o), .val (.int (Int32.ofNat j3)), .unset] [(.int r6), (.int (Int32.ofNat (2 * b))), (.ref a1)])) _
      rw [(hr6.trans (congrArg Int32.ofNat (Nat.mul_add 2 b ct.length)))]
      show Steps p.tables e below (T6.setTop (mkF m 30 #[.val (.ref a1), .val (.int (Int32.ofNat b)), .val (.int (Int32.ofNat ct.length)), .val (.ref b1o), .val (.int (Int32.ofNat j3)), .unset] [(.int (Int32.ofNat (2 * b + 2 * ct.length))), (.int (Int32.ofNat (2 * b))), (.ref a1)])) _
      refine st7 _ ?_
      refine XS.astore X7.here hx rfl (hb hby d38_33) rfl rfl (l' := #[.val (.ref a1), .val (.int (Int32.ofNat b)), .val (.int (Int32.ofNat ct.length)), .val (.ref b1o), .val (.int (Int32.ofNat j3)), .val (.ref o7)]) rfl ?_
      refine XS.aload X7.here hx rfl (hb hby d38_35) rfl rfl ?_
      refine XS.iload X7.here hx rfl (hb hby d38_37) rfl ?_
      refine st12 _ ?_
      refine XS.sipush X12.here hx rfl (hb hby d38_42) ?_
      refine XS.icmpYes X12.here hx rfl (pc0 := 45) (pc' := 61) rfl (hb hby d38_45) rfl (tlt (by rw [hr12, own_gc_eq (own_getCh (own_subCh hs hcs) _)]; exact (own_255 _).mpr hbg)).2.2.1 (by decide) (by decide) ?_
      refine XS.aload X12.here hx rfl (hb hby d38_61) rfl rfl ?_
      show Steps p.tables e below (T12.setTop (mkF m 63 #[.val (.ref a1), .val (.int (Int32.ofNat b)), .val (.int (Int32.ofNat ct.length)), .val (.ref b1o), .val (.int (Int32.ofNat j3)), .val (.ref o7)] [(.ref o7)])) _
      exact X12.areturnOut hx rfl Bd.returns rfl (hb hby d38_63) hr
    · show QrC4 Z a1 p2 p3 cs ct b ka gv h0 n0 _ T12.heap _
      rw [e12]
      exact ⟨o7, _, rfl, N12, K7, go7, (Nat.le_trans K3.1 gk7), Or.inr VU11⟩
theorem d37_0 : decode jdk_52_method_69_code 0 = .ok (.iload_n 2, 1) := by decide +kernel
theorem d37_1 : decode jdk_52_method_69_code 1 = .ok (.ifCond .ne 7, 3) := by decide +kernel
theorem d37_8 : decode jdk_52_method_69_code 8 = .ok (.getstatic 251, 3) := by decide +kernel
theorem d37_11 : decode jdk_52_method_69_code 11 = .ok (.ifCond .eq 28, 3) := by decide +kernel
theorem d37_14 : decode jdk_52_method_69_code 14 = .ok (.aload_n 0, 1) := by decide +kernel
theorem d37_15 : decode jdk_52_method_69_code 15 = .ok (.iload_n 1, 1) := by decide +kernel
theorem d37_16 : decode jdk_52_method_69_code 16 = .ok (.iload_n 2, 1) := by decide +kernel
theorem d37_17 : decode jdk_52_method_69_code 17 = .ok (.invokestatic 257, 3) := by decide +kernel
theorem d37_20 : decode jdk_52_method_69_code 20 = .ok (.astore_n 3, 1) := by decide +kernel
theorem d37_21 : decode jdk_52_method_69_code 21 = .ok (.aload_n 3, 1) := by decide +kernel
theorem d37_22 : decode jdk_52_method_69_code 22 = .ok (.iload_n 2, 1) := by decide +kernel
theorem d37_23 : decode jdk_52_method_69_code 23 = .ok (.invokestatic 259, 3) := by decide +kernel
theorem d37_26 : decode jdk_52_method_69_code 26 = .ok (.istore 4, 2) := by decide +kernel
theorem d37_28 : decode jdk_52_method_69_code 28 = .ok (.new 3, 3) := by decide +kernel
theorem d37_31 : decode jdk_52_method_69_code 31 = .ok (.dup, 1) := by decide +kernel
theorem d37_32 : decode jdk_52_method_69_code 32 = .ok (.aload_n 3, 1) := by decide +kernel
theorem d37_33 : decode jdk_52_method_69_code 33 = .ok (.iload 4, 2) := by decide +kernel
theorem d37_35 : decode jdk_52_method_69_code 35 = .ok (.invokespecial 263, 3) := by decide +kernel
theorem d37_38 : decode jdk_52_method_69_code 38 = .ok (.areturn, 1) := by decide +kernel
theorem pn_37 : plainName "java/lang/StringUTF16" = true := by first | (simp [plainName, overriddenIn]; done) | decide +kernel
theorem ef_rUn (m : MethodId) (a1 : Addr) (p2 : Int32) (p3 : Int32) : entryFrame m #[(.ref a1), (.int p2), (.int p3)] 5 = mkF m 0 #[.val (.ref a1), .val (.int p2), .val (.int p3), .unset, .unset] [] := by first | (simp [entryFrame, mkF, argsToLocals, Value.category]; done) | rfl
def QrUn (Z : State) (a1 : Addr) (p2 : Int32) (p3 : Int32) (cs : List Int32) (ct : List Int32) (b : Nat) (ka : ClassId) (G1 : Int32) (gv : Value) (h0 : Heap) (n0 : Nat) (v : Option Value) (h : Heap) (L : List Loc) : Prop := ∃ o : Addr, v = some (.ref o) ∧ Fr n0 L ∧ Keep h0 h [] ∧ own_S Z h o ct
set_option maxRecDepth 65536 in
set_option maxHeartbeats 40000000 in
theorem rUn (l : Launch) (Z : State) (a0 : Array Value) (hw : ∀ d ∈ tables_1, d.before a0 Z = true) (ws : List Jvm.Cond) (a1 : Addr) (p2 : Int32) (p3 : Int32) (cs : List Int32) (ct : List Int32) (b : Nat) (ka : ClassId) (G1 : Int32) (gv : Value) (h0 : Heap) (n0 : Nat) (Z0 : n0 ≤ h0.size) (X00 : Old Z n0 h0) (O_S : Sta Z Z.heap "jdk/internal/util/Preconditions" "SIOOBE_FORMATTER" "Ljava/util/function/BiFunction;" gv) (hgv : gv.isRef = true) (O_2 : Sta Z Z.heap "java/lang/String" "COMPACT_STRINGS" "Z" (.int G1)) (P5 : ¬ (G1 = (0 : Int32))) (O_A : Sta Z Z.heap "java/lang/StringUTF16" "$assertionsDisabled" "Z" (.int (1 : Int32))) (O_H : Sta Z Z.heap "java/lang/StringUTF16" "HI_BYTE_SHIFT" "I" (.int (0 : Int32))) (O_W : Sta Z Z.heap "java/lang/StringUTF16" "LO_BYTE_SHIFT" "I" (.int (8 : Int32))) (AC : Arv Z h0 a1 ka .byte (Int32.ofNat (2 * cs.length)) (own_utf cs) (.int (0 : Int32))) (hp2 : p2 = Int32.ofNat b) (hp3 : p3 = Int32.ofNat ct.length) (hs : own_sub cs b ct) (hps : 0 < ct.length) (hne : ¬ (b = 0 ∧ b + ct.length = cs.length)) (hL : cs.length < 8) (hLt : ct.length < 8) (hcs : ∀ c ∈ cs, own_ch c) :
    MetFree l (⟨"java/lang/StringUTF16", "newString", "([BII)Ljava/lang/String;"⟩ : MethodName) (head1 (Jvm.Cond.code (⟨"java/lang/StringUTF16", "newString", "([BII)Ljava/lang/String;"⟩ : MethodName) jdk_52_method_69_code 5 (some (.object "java/lang/String")) :: ws) ({ frames := 5, cells := 3, slots := 28, locals := 78 } : Room)) (fun a U => a = #[(.ref a1), (.int p2), (.int p3)] ∧ Z.Warmed39 U.vm ∧ U.heap = h0) (fun _ _ _ _ _ => True) (fun _ U o U' => ∃ v L, o = .returned v ∧ QrUn Z a1 p2 p3 cs ct b ka G1 gv h0 n0 v U'.heap L ∧ FrameEnd U o U' L ({ frames := 5, cells := 3, slots := 28, locals := 78 } : Room).cells ({ frames := 5, cells := 3, slots := 28, locals := 78 } : Room).slots) := by
  refine MetFree.of_bodySF (plainFor_of_name pn_37) hisR ?_
  intro p e s m args below meth c s₁ Bd hml0 hP hK
  obtain ⟨rfl, hZ, hh⟩ := hP
  have hx := Bd.exec
  have hby := Bd.bytes
  have hml : c.maxLocals = 5 := hml0
  have hown : s.vm.findClass "java/lang/StringUTF16" = some m.cls := findClass_of_methodNamed Bd.named
  have hnm := (name_of_methodNamed Bd.named Bd.method).1
  have X0 : Stand p l e ({ frames := 5, cells := 3, slots := 28, locals := 78 } : Room) s m #[(.ref a1), (.int p2), (.int p3)] below meth c s₁ [] 0 0 := Stand.of_body Bd
  have e0 : s₁.heap = h0 := by rw [← hh, Bd.state]; rfl
  have N0 := Fr.nil n0
  have pre0 : ∀ t, Steps p.tables e below (s₁.setTop (mkF m 0 #[.val (.ref a1), .val (.int p2), .val (.int p3), .unset, .unset] [])) t → Steps p.tables e below (s₁.setTop (entryFrame m #[(.ref a1), (.int p2), (.int p3)] 5)) t := fun t k => castTop (ef_rUn m a1 p2 p3) k
  obtain ⟨T1, X1, e1, st1⟩ := getS2 X0 hx hZ hown (host := "") (Or.inl (hw _ (own_w 166 rfl))) Via.refl e0 (O_2.ext X00.2) (g := (mkF m 8 #[.val (.ref a1), .val (.int (Int32.ofNat b)), .val (.int (Int32.ofNat ct.length)), .unset, .unset] [])) rfl (hb hby d37_8)
  obtain ⟨_, _, ⟨T2, Lq2, kq2, nq2⟩, -, X2, ⟨Lc2, hQ2, lq2, yq2, zq2⟩, st2⟩ := Jvm.LawKit.callS X1 hx (y := (⟨"java/lang/StringUTF16", "compress", "([BII)[B"⟩ : MethodName)) hown (mvT hZ (hw _ (own_w 167 rfl))) (mvT hZ (hw _ (own_w 168 rfl))) (mvT hZ (hw _ (own_w 60 rfl))) (mvT hZ (hw _ (own_w 169 rfl))) (by decide) (backOf (W := 0) (rC4 l Z a0 hw [] a1 (Int32.ofNat b) (Int32.ofNat ct.length) cs ct b ka gv h0 n0 Z0 X00 O_S hgv O_A O_H O_W AC rfl rfl hs hps hne hL hLt hcs) hZ (hw _ (own_w 169 rfl)) (hw _ (own_w 60 rfl)) (by decide) (by decide)) (g := (mkF m 17 #[.val (.ref a1), .val (.int (Int32.ofNat b)), .val (.int (Int32.ofNat ct.length)), .unset, .unset] [(.int (Int32.ofNat ct.length)), (.int (Int32.ofNat b)), (.ref a1)])) rfl (by rw [hml]; rfl) (argsL := [(.ref a1), (.int (Int32.ofNat b)), (.int (Int32.ofNat ct.length))]) (rest := []) (lenOf pd_16 rfl) rfl (by show 2 * 0 + _ ≤ _; exact Nat.le_of_eq rfl) (hb hby d37_17) (fun _ _ => ⟨rfl, e1, (by decide : 0 + 2 ≤ _), (by decide : 0 + 24 ≤ _)⟩)
  dsimp only [Pt.U, Pt.locs, Pt.cells, Pt.slots] at X2 lq2 yq2 zq2 st2 hQ2
  subst lq2 yq2 zq2
  obtain ⟨o2, ok2, rfl, N2q, KC2, go2, gk2, hB2⟩ := hQ2
  have N2 := Fr.app N0 N2q
  have Z2 : n0 ≤ T2.heap.size := Nat.le_trans Z0 KC2.1
  have ne3 : a1 ≠ o2 := Nat.ne_of_lt (Nat.lt_of_lt_of_le AC.lt gk2)
  have K2 : Keep h0 T2.heap [] := (Keep.refl h0 []).trans KC2 all0
  rcases hB2 with ⟨VB, hal⟩ | VB
  · skip
    obtain ⟨_, _, ⟨T4, Lq4, kq4, nq4⟩, -, X4, ⟨Lc4, hQ4, lq4, yq4, zq4⟩, st4⟩ := Jvm.LawKit.callS X2 hx (y := (⟨"java/lang/StringUTF16", "coderFromArrayLen", "([BI)B"⟩ : MethodName)) hown (mvT hZ (hw _ (own_w 200 rfl))) (mvT hZ (hw _ (own_w 66 rfl))) (mvT hZ (hw _ (own_w 60 rfl))) (mvT hZ (hw _ (own_w 67 rfl))) (by decide) (backOf (W := 0) (rK0 l Z a0 hw [] o2 (Int32.ofNat ct.length) ok2 ct.length (own_lat ct) T2.heap n0 Z2 VB rfl hLt hps) hZ (hw _ (own_w 67 rfl)) (hw _ (own_w 60 rfl)) (by decide) (by decide)) (g := (mkF m 23 #[.val (.ref a1), .val (.int (Int32.ofNat b)), .val (.int (Int32.ofNat ct.length)), .val (.ref o2), .unset] [(.int (Int32.ofNat ct.length)), (.ref o2)])) rfl (by rw [hml]; rfl) (argsL := [(.ref o2), (.int (Int32.ofNat ct.length))]) (rest := []) (lenOf pd_13 rfl) rfl (by show 2 * 0 + _ ≤ _; exact Nat.le_of_eq rfl) (hb hby d37_23) (fun _ _ => ⟨rfl, rfl, (by decide : 2 + 0 ≤ _), (by decide : 24 + 0 ≤ _)⟩)
    dsimp only [Pt.U, Pt.locs, Pt.cells, Pt.slots] at X4 lq4 yq4 zq4 st4 hQ4
    subst lq4 yq4 zq4
    obtain ⟨r4, hr4, rfl, N4q, e4⟩ := hQ4
    have N4 := Fr.app N2 N4q
    subst hr4
    obtain ⟨T5, h5, X5, e5, E5, A5, D5, -, st5⟩ := newO X4 hx hZ hown (hw _ (own_w 201 rfl)) (hw _ (own_w 11 rfl)) (hw _ (own_w 12 rfl)) e4 (g := (mkF m 28 #[.val (.ref a1), .val (.int (Int32.ofNat b)), .val (.int (Int32.ofNat ct.length)), .val (.ref o2), .val (.int (0 : Int32))] [])) rfl (hb hby d37_28) (by decide) (by decide)
    obtain ⟨b5o, g5⟩ : ∃ z, z = T2.heap.size := ⟨_, rfl⟩
    have b5 : n0 ≤ b5o := Nat.le_trans Z2 (Nat.le_of_eq g5.symm)
    have bk5 : h0.size ≤ b5o := Nat.le_trans K2.1 (Nat.le_of_eq g5.symm)
    have f6 := (AC.keep KC2 nin0)
    have ne7 : a1 ≠ b5o := Nat.ne_of_lt (Nat.lt_of_lt_of_le f6.lt (Nat.le_of_eq g5.symm))
    have ne8 : o2 ≠ b5o := Nat.ne_of_lt (Nat.lt_of_lt_of_le VB.lt (Nat.le_of_eq g5.symm))
    rw [← g5] at A5 D5 st5
    have Z5 : n0 ≤ h5.size := Nat.le_trans Z2 E5.1
    have K5 : Keep h0 h5 [] := K2.ext E5
    have F5_25 : Fld Z h5 b5o "java/lang/String" "value" "[B" .null := D5 (Or.inr (hw _ (own_w 25 rfl))) (ty := (.array .byte)) (by decide)
    have F5_26 : Fld Z h5 b5o "java/lang/String" "coder" "B" (.int (0 : Int32)) := D5 (Or.inr (hw _ (own_w 26 rfl))) (ty := .byte) (by decide)
    obtain ⟨_, _, ⟨T9, Lq9, kq9, nq9⟩, -, X9, ⟨Lc9, hQ9, lq9, yq9, zq9⟩, st9⟩ := X5.specialBack hx (y := (⟨"java/lang/String", "<init>", "([BB)V"⟩ : MethodName)) rfl hown (mvT hZ (hw _ (own_w 202 rfl))) (mvT hZ (hw _ (own_w 203 rfl))) (mvT hZ (hw _ (own_w 204 rfl))) (by decide) (backOf (W := 1) (rT0 l Z a0 hw [] b5o o2  h5 n0 Z5 A5 F5_25 F5_26 b5) hZ (hw _ (own_w 204 rfl)) (hw _ (own_w 12 rfl)) (by decide) (by decide)) (g := (mkF m 35 #[.val (.ref a1), .val (.int (Int32.ofNat b)), .val (.int (Int32.ofNat ct.length)), .val (.ref o2), .val (.int (0 : Int32))] [(.int (0 : Int32)), (.ref o2), (.ref b5o), (.ref b5o)])) rfl (by rw [hml]; rfl) (Steps.refl _) (a := b5o) (argsL := [(.ref o2), (.int (0 : Int32))]) (rest := [(.ref b5o)]) (lenOf pd_17 rfl) rfl (by show 2 * 0 + _ ≤ _; exact Nat.le_of_eq rfl) (hb hby d37_35) (fun _ _ => ⟨rfl, e5, (by decide : 3 + 0 ≤ _), (by decide : 28 + 0 ≤ _)⟩)
    dsimp only [Pt.U, Pt.locs, Pt.cells, Pt.slots] at X9 lq9 yq9 zq9 st9 hQ9
    subst lq9 yq9 zq9
    obtain ⟨rfl, N9q, KC9, u9⟩ := hQ9
    have N9 := Fr.app N4 N9q
    have Z9 : n0 ≤ T9.heap.size := Nat.le_trans Z5 KC9.1
    have K9 : Keep h0 T9.heap [] := K5.trans KC9 (allS (Or.inr bk5) all0)
    obtain ⟨uE9, uV9, uC9⟩ := u9
    obtain ⟨fs, hr, hrun, hended, hW, hsame⟩ := X9.leave (v := some (.ref b5o)) (fun h => by rw [Bd.returns] at h; cases h) (BodyLoose.notSynchronized Bd)
    refine ⟨_, _, pre0 _ ?_, hrun, hended, _, _, rfl, ?_, ⟨_, rfl⟩, hW, hsame.mono (by decide) (by decide)⟩
    · show Steps p.tables e below (s₁.setTop (mkF m 0 #[.val (.ref a1), .val (.int p2), .val (.int p3), .unset, .unset] [])) _
      rw [hp2]
      show Steps p.tables e below (s₁.setTop (mkF m 0 #[.val (.ref a1), .val (.int (Int32.ofNat b)), .val (.int p3), .unset, .unset] [])) _
      rw [hp3]
      show Steps p.tables e below (s₁.setTop (mkF m 0 #[.val (.ref a1), .val (.int (Int32.ofNat b)), .val (.int (Int32.ofNat ct.length)), .unset, .unset] [])) _
      refine XS.iloadN X0.here hx rfl (hb hby d37_0) rfl ?_
      refine XS.ifYes X0.here hx rfl (pc0 := 1) (pc' := 8) rfl (hb hby d37_1) rfl ((if0 _ _).trans (feq (own_xne (by omega) hps)).2) (by decide) (by decide) ?_
      refine st1 _ ?_
      refine XS.ifNo X1.here hx rfl (hb hby d37_11) rfl ((if0 _ _).trans (feq P5).1) ?_
      refine XS.aloadN X1.here hx rfl (hb hby d37_14) rfl rfl ?_
      refine XS.iloadN X1.here hx rfl (hb hby d37_15) rfl ?_
      refine XS.iloadN X1.here hx rfl (hb hby d37_16) rfl ?_
      refine st2 _ ?_
      refine XS.astoreN X2.here hx rfl (hb hby d37_20) rfl rfl (l' := #[.val (.ref a1), .val (.int (Int32.ofNat b)), .val (.int (Int32.ofNat ct.length)), .val (.ref o2), .unset]) rfl ?_
      refine XS.aloadN X2.here hx rfl (hb hby d37_21) rfl rfl ?_
      refine XS.iloadN X2.here hx rfl (hb hby d37_22) rfl ?_
      refine st4 _ ?_
      refine XS.istore X4.here hx rfl (hb hby d37_26) rfl (l' := #[.val (.ref a1), .val (.int (Int32.ofNat b)), .val (.int (Int32.ofNat ct.length)), .val (.ref o2), .val (.int (0 : Int32))]) rfl ?_
      refine st5 _ ?_
      refine XS.dup X5.here hx rfl (hb hby d37_31) rfl rfl ?_
      refine XS.aloadN X5.here hx rfl (hb hby d37_32) rfl rfl ?_
      refine XS.iload X5.here hx rfl (hb hby d37_33) rfl ?_
      refine st9.trans ?_
      show Steps p.tables e below (T9.setTop (mkF m 38 #[.val (.ref a1), .val (.int (Int32.ofNat b)), .val (.int (Int32.ofNat ct.length)), .val (.ref o2), .val (.int (0 : Int32))] [(.ref b5o)])) _
      exact X9.areturnOut hx rfl Bd.returns rfl (hb hby d37_38) hr
    · show QrUn Z a1 p2 p3 cs ct b ka G1 gv h0 n0 _ T9.heap _
      have f10 := ((VB.ext E5).keep KC9 (ninS ne8 nin0))
      have qa := f10
      exact ⟨b5o, rfl, N9, K9, o2, _, uE9, uV9, Or.inl ⟨uC9, qa, hal⟩⟩
  · skip
    obtain ⟨_, _, ⟨T11, Lq11, kq11, nq11⟩, -, X11, ⟨Lc11, hQ11, lq11, yq11, zq11⟩, st11⟩ := Jvm.LawKit.callS X2 hx (y := (⟨"java/lang/StringUTF16", "coderFromArrayLen", "([BI)B"⟩ : MethodName)) hown (mvT hZ (hw _ (own_w 200 rfl))) (mvT hZ (hw _ (own_w 66 rfl))) (mvT hZ (hw _ (own_w 60 rfl))) (mvT hZ (hw _ (own_w 67 rfl))) (by decide) (backOf (W := 0) (rK1 l Z a0 hw [] o2 (Int32.ofNat ct.length) ok2 ct.length (own_utf ct) T2.heap n0 Z2 VB rfl hLt hps) hZ (hw _ (own_w 67 rfl)) (hw _ (own_w 60 rfl)) (by decide) (by decide)) (g := (mkF m 23 #[.val (.ref a1), .val (.int (Int32.ofNat b)), .val (.int (Int32.ofNat ct.length)), .val (.ref o2), .unset] [(.int (Int32.ofNat ct.length)), (.ref o2)])) rfl (by rw [hml]; rfl) (argsL := [(.ref o2), (.int (Int32.ofNat ct.length))]) (rest := []) (lenOf pd_13 rfl) rfl (by show 2 * 0 + _ ≤ _; exact Nat.le_of_eq rfl) (hb hby d37_23) (fun _ _ => ⟨rfl, rfl, (by decide : 2 + 0 ≤ _), (by decide : 24 + 0 ≤ _)⟩)
    dsimp only [Pt.U, Pt.locs, Pt.cells, Pt.slots] at X11 lq11 yq11 zq11 st11 hQ11
    subst lq11 yq11 zq11
    obtain ⟨r11, hr11, rfl, N11q, e11⟩ := hQ11
    have N11 := Fr.app N2 N11q
    subst hr11
    obtain ⟨T12, h12, X12, e12, E12, A12, D12, -, st12⟩ := newO X11 hx hZ hown (hw _ (own_w 201 rfl)) (hw _ (own_w 11 rfl)) (hw _ (own_w 12 rfl)) e11 (g := (mkF m 28 #[.val (.ref a1), .val (.int (Int32.ofNat b)), .val (.int (Int32.ofNat ct.length)), .val (.ref o2), .val (.int (1 : Int32))] [])) rfl (hb hby d37_28) (by decide) (by decide)
    obtain ⟨b12o, g12⟩ : ∃ z, z = T2.heap.size := ⟨_, rfl⟩
    have b12 : n0 ≤ b12o := Nat.le_trans Z2 (Nat.le_of_eq g12.symm)
    have bk12 : h0.size ≤ b12o := Nat.le_trans K2.1 (Nat.le_of_eq g12.symm)
    have f13 := (AC.keep KC2 nin0)
    have ne14 : a1 ≠ b12o := Nat.ne_of_lt (Nat.lt_of_lt_of_le f13.lt (Nat.le_of_eq g12.symm))
    have ne15 : o2 ≠ b12o := Nat.ne_of_lt (Nat.lt_of_lt_of_le VB.lt (Nat.le_of_eq g12.symm))
    rw [← g12] at A12 D12 st12
    have Z12 : n0 ≤ h12.size := Nat.le_trans Z2 E12.1
    have K12 : Keep h0 h12 [] := K2.ext E12
    have F12_25 : Fld Z h12 b12o "java/lang/String" "value" "[B" .null := D12 (Or.inr (hw _ (own_w 25 rfl))) (ty := (.array .byte)) (by decide)
    have F12_26 : Fld Z h12 b12o "java/lang/String" "coder" "B" (.int (0 : Int32)) := D12 (Or.inr (hw _ (own_w 26 rfl))) (ty := .byte) (by decide)
    obtain ⟨_, _, ⟨T16, Lq16, kq16, nq16⟩, -, X16, ⟨Lc16, hQ16, lq16, yq16, zq16⟩, st16⟩ := X12.specialBack hx (y := (⟨"java/lang/String", "<init>", "([BB)V"⟩ : MethodName)) rfl hown (mvT hZ (hw _ (own_w 202 rfl))) (mvT hZ (hw _ (own_w 203 rfl))) (mvT hZ (hw _ (own_w 204 rfl))) (by decide) (backOf (W := 1) (rT1 l Z a0 hw [] b12o o2  h12 n0 Z12 A12 F12_25 F12_26 b12) hZ (hw _ (own_w 204 rfl)) (hw _ (own_w 12 rfl)) (by decide) (by decide)) (g := (mkF m 35 #[.val (.ref a1), .val (.int (Int32.ofNat b)), .val (.int (Int32.ofNat ct.length)), .val (.ref o2), .val (.int (1 : Int32))] [(.int (1 : Int32)), (.ref o2), (.ref b12o), (.ref b12o)])) rfl (by rw [hml]; rfl) (Steps.refl _) (a := b12o) (argsL := [(.ref o2), (.int (1 : Int32))]) (rest := [(.ref b12o)]) (lenOf pd_17 rfl) rfl (by show 2 * 0 + _ ≤ _; exact Nat.le_of_eq rfl) (hb hby d37_35) (fun _ _ => ⟨rfl, e12, (by decide : 3 + 0 ≤ _), (by decide : 28 + 0 ≤ _)⟩)
    dsimp only [Pt.U, Pt.locs, Pt.cells, Pt.slots] at X16 lq16 yq16 zq16 st16 hQ16
    subst lq16 yq16 zq16
    obtain ⟨rfl, N16q, KC16, u16⟩ := hQ16
    have N16 := Fr.app N11 N16q
    have Z16 : n0 ≤ T16.heap.size := Nat.le_trans Z12 KC16.1
    have K16 : Keep h0 T16.heap [] := K12.trans KC16 (allS (Or.inr bk12) all0)
    obtain ⟨uE16, uV16, uC16⟩ := u16
    obtain ⟨fs, hr, hrun, hended, hW, hsame⟩ := X16.leave (v := some (.ref b12o)) (fun h => by rw [Bd.returns] at h; cases h) (BodyLoose.notSynchronized Bd)
    refine ⟨_, _, pre0 _ ?_, hrun, hended, _, _, rfl, ?_, ⟨_, rfl⟩, hW, hsame.mono (by decide) (by decide)⟩
    · show Steps p.tables e below (s₁.setTop (mkF m 0 #[.val (.ref a1), .val (.int p2), .val (.int p3), .unset, .unset] [])) _
      rw [hp2]
      show Steps p.tables e below (s₁.setTop (mkF m 0 #[.val (.ref a1), .val (.int (Int32.ofNat b)), .val (.int p3), .unset, .unset] [])) _
      rw [hp3]
      show Steps p.tables e below (s₁.setTop (mkF m 0 #[.val (.ref a1), .val (.int (Int32.ofNat b)), .val (.int (Int32.ofNat ct.length)), .unset, .unset] [])) _
      refine XS.iloadN X0.here hx rfl (hb hby d37_0) rfl ?_
      refine XS.ifYes X0.here hx rfl (pc0 := 1) (pc' := 8) rfl (hb hby d37_1) rfl ((if0 _ _).trans (feq (own_xne (by omega) hps)).2) (by decide) (by decide) ?_
      refine st1 _ ?_
      refine XS.ifNo X1.here hx rfl (hb hby d37_11) rfl ((if0 _ _).trans (feq P5).1) ?_
      refine XS.aloadN X1.here hx rfl (hb hby d37_14) rfl rfl ?_
      refine XS.iloadN X1.here hx rfl (hb hby d37_15) rfl ?_
      refine XS.iloadN X1.here hx rfl (hb hby d37_16) rfl ?_
      refine st2 _ ?_
      refine XS.astoreN X2.here hx rfl (hb hby d37_20) rfl rfl (l' := #[.val (.ref a1), .val (.int (Int32.ofNat b)), .val (.int (Int32.ofNat ct.length)), .val (.ref o2), .unset]) rfl ?_
      refine XS.aloadN X2.here hx rfl (hb hby d37_21) rfl rfl ?_
      refine XS.iloadN X2.here hx rfl (hb hby d37_22) rfl ?_
      refine st11 _ ?_
      refine XS.istore X11.here hx rfl (hb hby d37_26) rfl (l' := #[.val (.ref a1), .val (.int (Int32.ofNat b)), .val (.int (Int32.ofNat ct.length)), .val (.ref o2), .val (.int (1 : Int32))]) rfl ?_
      refine st12 _ ?_
      refine XS.dup X12.here hx rfl (hb hby d37_31) rfl rfl ?_
      refine XS.aloadN X12.here hx rfl (hb hby d37_32) rfl rfl ?_
      refine XS.iload X12.here hx rfl (hb hby d37_33) rfl ?_
      refine st16.trans ?_
      show Steps p.tables e below (T16.setTop (mkF m 38 #[.val (.ref a1), .val (.int (Int32.ofNat b)), .val (.int (Int32.ofNat ct.length)), .val (.ref o2), .val (.int (1 : Int32))] [(.ref b12o)])) _
      exact X16.areturnOut hx rfl Bd.returns rfl (hb hby d37_38) hr
    · show QrUn Z a1 p2 p3 cs ct b ka G1 gv h0 n0 _ T16.heap _
      have f17 := ((VB.ext E12).keep KC16 (ninS ne15 nin0))
      have qa := f17
      exact ⟨b12o, rfl, N16, K16, o2, _, uE16, uV16, Or.inr ⟨uC16, qa⟩⟩
theorem pd_21 : parseMethodDescriptor "()I" = some ⟨[], some .int⟩ := by decide +kernel
theorem pd_22 : parseMethodDescriptor "(III)V" = some ⟨[.int, .int, .int], none⟩ := by decide +kernel
theorem pd_23 : parseMethodDescriptor "([BII)Ljava/lang/String;" = some ⟨[(.array .byte), .int, .int], some (.object "java/lang/String")⟩ := by decide +kernel
theorem d21_0 : decode jdk_42_method_92_code 0 = .ok (.aload_n 0, 1) := by decide +kernel
theorem d21_1 : decode jdk_42_method_92_code 1 = .ok (.invokevirtual 505, 3) := by decide +kernel
theorem d21_4 : decode jdk_42_method_92_code 4 = .ok (.istore_n 3, 1) := by decide +kernel
theorem d21_5 : decode jdk_42_method_92_code 5 = .ok (.iload_n 1, 1) := by decide +kernel
theorem d21_6 : decode jdk_42_method_92_code 6 = .ok (.iload_n 2, 1) := by decide +kernel
theorem d21_7 : decode jdk_42_method_92_code 7 = .ok (.iload_n 3, 1) := by decide +kernel
theorem d21_8 : decode jdk_42_method_92_code 8 = .ok (.invokestatic 521, 3) := by decide +kernel
theorem d21_11 : decode jdk_42_method_92_code 11 = .ok (.iload_n 1, 1) := by decide +kernel
theorem d21_12 : decode jdk_42_method_92_code 12 = .ok (.ifCond .ne 10, 3) := by decide +kernel
theorem d21_15 : decode jdk_42_method_92_code 15 = .ok (.iload_n 2, 1) := by decide +kernel
theorem d21_16 : decode jdk_42_method_92_code 16 = .ok (.iload_n 3, 1) := by decide +kernel
theorem d21_17 : decode jdk_42_method_92_code 17 = .ok (.if_icmp .ne 5, 3) := by decide +kernel
theorem d21_20 : decode jdk_42_method_92_code 20 = .ok (.aload_n 0, 1) := by decide +kernel
theorem d21_21 : decode jdk_42_method_92_code 21 = .ok (.areturn, 1) := by decide +kernel
theorem d21_22 : decode jdk_42_method_92_code 22 = .ok (.iload_n 2, 1) := by decide +kernel
theorem d21_23 : decode jdk_42_method_92_code 23 = .ok (.iload_n 1, 1) := by decide +kernel
theorem d21_24 : decode jdk_42_method_92_code 24 = .ok (.isub, 1) := by decide +kernel
theorem d21_25 : decode jdk_42_method_92_code 25 = .ok (.istore 4, 2) := by decide +kernel
theorem d21_27 : decode jdk_42_method_92_code 27 = .ok (.aload_n 0, 1) := by decide +kernel
theorem d21_28 : decode jdk_42_method_92_code 28 = .ok (.invokevirtual 492, 3) := by decide +kernel
theorem d21_31 : decode jdk_42_method_92_code 31 = .ok (.ifCond .eq 16, 3) := by decide +kernel
theorem d21_34 : decode jdk_42_method_92_code 34 = .ok (.aload_n 0, 1) := by decide +kernel
theorem d21_35 : decode jdk_42_method_92_code 35 = .ok (.getfield 9, 3) := by decide +kernel
theorem d21_38 : decode jdk_42_method_92_code 38 = .ok (.iload_n 1, 1) := by decide +kernel
theorem d21_39 : decode jdk_42_method_92_code 39 = .ok (.iload 4, 2) := by decide +kernel
theorem d21_41 : decode jdk_42_method_92_code 41 = .ok (.invokestatic 685, 3) := by decide +kernel
theorem d21_44 : decode jdk_42_method_92_code 44 = .ok (.goto 13, 3) := by decide +kernel
theorem d21_47 : decode jdk_42_method_92_code 47 = .ok (.aload_n 0, 1) := by decide +kernel
theorem d21_48 : decode jdk_42_method_92_code 48 = .ok (.getfield 9, 3) := by decide +kernel
theorem d21_51 : decode jdk_42_method_92_code 51 = .ok (.iload_n 1, 1) := by decide +kernel
theorem d21_52 : decode jdk_42_method_92_code 52 = .ok (.iload 4, 2) := by decide +kernel
theorem d21_54 : decode jdk_42_method_92_code 54 = .ok (.invokestatic 689, 3) := by decide +kernel
theorem d21_57 : decode jdk_42_method_92_code 57 = .ok (.areturn, 1) := by decide +kernel
theorem pn_21 : plainName "java/lang/String" = true := by first | (simp [plainName, overriddenIn]; done) | decide +kernel
theorem ef_rS2 (m : MethodId) (a1 : Addr) (p2 : Int32) (p3 : Int32) : entryFrame m #[(.ref a1), (.int p2), (.int p3)] 5 = mkF m 0 #[.val (.ref a1), .val (.int p2), .val (.int p3), .unset, .unset] [] := by first | (simp [entryFrame, mkF, argsToLocals, Value.category]; done) | rfl
def QrS2 (Z : State) (a1 : Addr) (p2 : Int32) (p3 : Int32) (cs : List Int32) (ct : List Int32) (b : Nat) (G1 : Int32) (gv : Value) (h0 : Heap) (n0 : Nat) (v : Option Value) (h : Heap) (L : List Loc) : Prop := ∃ o : Addr, v = some (.ref o) ∧ Fr n0 L ∧ Keep h0 h [] ∧ own_S Z h o ct
set_option maxRecDepth 65536 in
set_option maxHeartbeats 40000000 in
theorem rS2 (l : Launch) (Z : State) (a0 : Array Value) (hw : ∀ d ∈ tables_1, d.before a0 Z = true) (ws : List Jvm.Cond) (a1 : Addr) (p2 : Int32) (p3 : Int32) (cs : List Int32) (ct : List Int32) (b : Nat) (G1 : Int32) (gv : Value) (h0 : Heap) (n0 : Nat) (Z0 : n0 ≤ h0.size) (X00 : Old Z n0 h0) (O_S : Sta Z Z.heap "jdk/internal/util/Preconditions" "SIOOBE_FORMATTER" "Ljava/util/function/BiFunction;" gv) (hgv : gv.isRef = true) (O_2 : Sta Z Z.heap "java/lang/String" "COMPACT_STRINGS" "Z" (.int G1)) (P5 : ¬ (G1 = (0 : Int32))) (O_A : Sta Z Z.heap "java/lang/StringUTF16" "$assertionsDisabled" "Z" (.int (1 : Int32))) (O_H : Sta Z Z.heap "java/lang/StringUTF16" "HI_BYTE_SHIFT" "I" (.int (0 : Int32))) (O_W : Sta Z Z.heap "java/lang/StringUTF16" "LO_BYTE_SHIFT" "I" (.int (8 : Int32))) (T : own_S Z h0 a1 cs) (hs : own_sub cs b ct) (hps : 0 < ct.length) (hL : cs.length < 8) (hcs : ∀ c ∈ cs, own_ch c) (hp2 : p2 = Int32.ofNat b) (hp3 : p3 = Int32.ofNat (b + ct.length)) :
    MetFree l (⟨"java/lang/String", "substring", "(II)Ljava/lang/String;"⟩ : MethodName) (head1 (Jvm.Cond.code (⟨"java/lang/String", "substring", "(II)Ljava/lang/String;"⟩ : MethodName) jdk_42_method_92_code 5 (some (.object "java/lang/String")) :: ws) ({ frames := 6, cells := 3, slots := 28, locals := 94 } : Room)) (fun a U => a = #[(.ref a1), (.int p2), (.int p3)] ∧ Z.Warmed39 U.vm ∧ U.heap = h0) (fun _ _ _ _ _ => True) (fun _ U o U' => ∃ v L, o = .returned v ∧ QrS2 Z a1 p2 p3 cs ct b G1 gv h0 n0 v U'.heap L ∧ FrameEnd U o U' L ({ frames := 6, cells := 3, slots := 28, locals := 94 } : Room).cells ({ frames := 6, cells := 3, slots := 28, locals := 94 } : Room).slots) := by
  refine MetFree.of_bodySF (plainFor_of_name pn_21) hisR ?_
  intro p e s m args below meth c s₁ Bd hml0 hP hK
  obtain ⟨rfl, hZ, hh⟩ := hP
  have hx := Bd.exec
  have hby := Bd.bytes
  have hml : c.maxLocals = 5 := hml0
  have hown : s.vm.findClass "java/lang/String" = some m.cls := findClass_of_methodNamed Bd.named
  have hnm := (name_of_methodNamed Bd.named Bd.method).1
  have X0 : Stand p l e ({ frames := 6, cells := 3, slots := 28, locals := 94 } : Room) s m #[(.ref a1), (.int p2), (.int p3)] below meth c s₁ [] 0 0 := Stand.of_body Bd
  have e0 : s₁.heap = h0 := by rw [← hh, Bd.state]; rfl
  have N0 := Fr.nil n0
  have pre0 : ∀ t, Steps p.tables e below (s₁.setTop (mkF m 0 #[.val (.ref a1), .val (.int p2), .val (.int p3), .unset, .unset] [])) t → Steps p.tables e below (s₁.setTop (entryFrame m #[(.ref a1), (.int p2), (.int p3)] 5)) t := fun t k => castTop (ef_rS2 m a1 p2 p3) k
  have hLt : ct.length < 8 := by have := hs.1; omega
  obtain ⟨cq1, kz1, q1a, q1b, q1c⟩ := isOf hZ e0 (own_Sexa T)
  obtain ⟨_, _, ⟨T1, Lq1, kq1, nq1⟩, -, X1, ⟨Lc1, hQ1, lq1, yq1, zq1⟩, st1⟩ := X0.virtualBack hx (y := (⟨"java/lang/String", "length", "()I"⟩ : MethodName)) (z := (⟨"java/lang/String", "length", "()I"⟩ : MethodName)) hown (mvT hZ (hw _ (own_w 98 rfl))) (mvT hZ (hw _ (own_w 36 rfl))) (notFace_of_selects (args := #[]) (mvT hZ (hw _ (own_w 38 rfl)))) (mvT hZ (hw _ (own_w 38 rfl))) (mvT hZ (hw _ (own_w 37 rfl))) (by decide) (backOf (W := 0) (rLe l Z a0 hw [] a1 cs G1 h0 n0 Z0 X00 O_2 P5 T hL) hZ (hw _ (own_w 39 rfl)) (hw _ (own_w 12 rfl)) (by decide) (by decide)) q1a q1c (g := (mkF m 1 #[.val (.ref a1), .val (.int (Int32.ofNat b)), .val (.int (Int32.ofNat (b + ct.length))), .unset, .unset] [(.ref a1)])) rfl (by rw [hml]; rfl) (Steps.refl _) (argsL := []) (rest := []) (lenOf pd_21 rfl) rfl (by show 2 * 0 + _ ≤ _; exact Nat.le_of_eq rfl) (hb hby d21_1) (fun _ _ => ⟨rfl, e0, (by decide : 0 + 0 ≤ _), (by decide : 0 + 0 ≤ _)⟩)
  dsimp only [Pt.U, Pt.locs, Pt.cells, Pt.slots] at X1 lq1 yq1 zq1 st1 hQ1
  subst lq1 yq1 zq1
  obtain ⟨r1, hr1, rfl, N1q, e1⟩ := hQ1
  have N1 := Fr.app N0 N1q
  obtain ⟨_, _, ⟨T2, Lq2, kq2, nq2⟩, -, X2, ⟨Lc2, hQ2, lq2, yq2, zq2⟩, st2⟩ := Jvm.LawKit.callS X1 hx (y := (⟨"java/lang/String", "checkBoundsBeginEnd", "(III)V"⟩ : MethodName)) hown (mvT hZ (hw _ (own_w 104 rfl))) (mvT hZ (hw _ (own_w 105 rfl))) (mvT hZ (hw _ (own_w 12 rfl))) (mvT hZ (hw _ (own_w 106 rfl))) (by decide) (backOf (W := 0) (rSb l Z a0 hw [] (Int32.ofNat b) (Int32.ofNat (b + ct.length)) (Int32.ofNat cs.length) gv h0 n0 Z0 X00 O_S hgv (own_x0 (by have := hs.1; omega)) (own_xle (by have := hs.1; omega) (by omega)) (own_xle (by omega) hs.1)) hZ (hw _ (own_w 106 rfl)) (hw _ (own_w 12 rfl)) (by decide) (by decide)) (g := (mkF m 8 #[.val (.ref a1), .val (.int (Int32.ofNat b)), .val (.int (Int32.ofNat (b + ct.length))), .val (.int (Int32.ofNat cs.length)), .unset] [(.int (Int32.ofNat cs.length)), (.int (Int32.ofNat (b + ct.length))), (.int (Int32.ofNat b))])) rfl (by rw [hml]; rfl) (argsL := [(.int (Int32.ofNat b)), (.int (Int32.ofNat (b + ct.length))), (.int (Int32.ofNat cs.length))]) (rest := []) (lenOf pd_22 rfl) rfl (by show 2 * 0 + _ ≤ _; exact Nat.le_of_eq rfl) (hb hby d21_8) (fun _ _ => ⟨rfl, e1, (by decide : 0 + 0 ≤ _), (by decide : 0 + 0 ≤ _)⟩)
  dsimp only [Pt.U, Pt.locs, Pt.cells, Pt.slots] at X2 lq2 yq2 zq2 st2 hQ2
  subst lq2 yq2 zq2
  obtain ⟨rfl, N2q, e2⟩ := hQ2
  have N2 := Fr.app N1 N2q
  by_cases hc12 : (Int32.ofNat b) = (0 : Int32)
  · by_cases hc17 : (Int32.ofNat (b + ct.length)) = (Int32.ofNat cs.length)
    · obtain ⟨fs, hr, hrun, hended, hW, hsame⟩ := X2.leave (v := some (.ref a1)) (fun h => by rw [Bd.returns] at h; cases h) (BodyLoose.notSynchronized Bd)
      refine ⟨_, _, pre0 _ ?_, hrun, hended, _, _, rfl, ?_, ⟨_, rfl⟩, hW, hsame.mono (by decide) (by decide)⟩
      · show Steps p.tables e below (s₁.setTop (mkF m 0 #[.val (.ref a1), .val (.int p2), .val (.int p3), .unset, .unset] [])) _
        rw [hp2]
        show Steps p.tables e below (s₁.setTop (mkF m 0 #[.val (.ref a1), .val (.int (Int32.ofNat b)), .val (.int p3), .unset, .unset] [])) _
        rw [hp3]
        show Steps p.tables e below (s₁.setTop (mkF m 0 #[.val (.ref a1), .val (.int (Int32.ofNat b)), .val (.int (Int32.ofNat (b + ct.length))), .unset, .unset] [])) _
        refine XS.aloadN X0.here hx rfl (hb hby d21_0) rfl rfl ?_
        refine st1.trans ?_
        show Steps p.tables e below (T1.setTop (mkF m 4 #[.val (.ref a1), .val (.int (Int32.ofNat b)), .val (.int (Int32.ofNat (b + ct.length))), .unset, .unset] [(.int r1)])) _
        rw [hr1]
        show Steps p.tables e below (T1.setTop (mkF m 4 #[.val (.ref a1), .val (.int (Int32.ofNat b)), .val (.int (Int32.ofNat (b + ct.length))), .unset, .unset] [(.int (Int32.ofNat cs.length))])) _
        refine XS.istoreN X1.here hx rfl (hb hby d21_4) rfl (l' := #[.val (.ref a1), .val (.int (Int32.ofNat b)), .val (.int (Int32.ofNat (b + ct.length))), .val (.int (Int32.ofNat cs.length)), .unset]) rfl ?_
        refine XS.iloadN X1.here hx rfl (hb hby d21_5) rfl ?_
        refine XS.iloadN X1.here hx rfl (hb hby d21_6) rfl ?_
        refine XS.iloadN X1.here hx rfl (hb hby d21_7) rfl ?_
        refine st2 _ ?_
        refine XS.iloadN X2.here hx rfl (hb hby d21_11) rfl ?_
        refine XS.ifNo X2.here hx rfl (hb hby d21_12) rfl ((if0 _ _).trans (teq hc12).2) ?_
        refine XS.iloadN X2.here hx rfl (hb hby d21_15) rfl ?_
        refine XS.iloadN X2.here hx rfl (hb hby d21_16) rfl ?_
        refine XS.icmpNo X2.here hx rfl (hb hby d21_17) rfl (teq hc17).2 ?_
        refine XS.aloadN X2.here hx rfl (hb hby d21_20) rfl rfl ?_
        show Steps p.tables e below (T2.setTop (mkF m 21 #[.val (.ref a1), .val (.int (Int32.ofNat b)), .val (.int (Int32.ofNat (b + ct.length))), .val (.int (Int32.ofNat cs.length)), .unset] [(.ref a1)])) _
        exact X2.areturnOut hx rfl Bd.returns rfl (hb hby d21_21) hr
      · show QrS2 Z a1 p2 p3 cs ct b G1 gv h0 n0 _ T2.heap _
        have eb : b = 0 := (own_xeq (by have := hs.1; omega) (by omega : 0 < 16)).mp hc12
        have en : b + ct.length = cs.length := (own_xeq (by have := hs.1; omega) (by omega)).mp hc17
        have ec := own_subAll hs eb en
        have qt := T
        rw [e2]
        exact ⟨a1, rfl, N2, (Keep.refl h0 []), by rw [ec]; exact qt⟩
    · have hne : ¬ (b = 0 ∧ b + ct.length = cs.length) := fun q => hc17 (by rw [q.2])
      obtain ⟨vb, kb, E, FV, hcd⟩ := id T
      rcases hcd with ⟨FC, AV, hl⟩ | ⟨FC, AV⟩
      · skip
        obtain ⟨cq3, kz3, q3a, q3b, q3c⟩ := isOf hZ e2 E
        obtain ⟨_, _, ⟨T3, Lq3, kq3, nq3⟩, -, X3, ⟨Lc3, hQ3, lq3, yq3, zq3⟩, st3⟩ := X2.virtualBack hx (y := (⟨"java/lang/String", "isLatin1", "()Z"⟩ : MethodName)) (z := (⟨"java/lang/String", "isLatin1", "()Z"⟩ : MethodName)) hown (mvT hZ (hw _ (own_w 76 rfl))) (mvT hZ (hw _ (own_w 77 rfl))) (notFace_of_selects (args := #[]) (mvT hZ (hw _ (own_w 79 rfl)))) (mvT hZ (hw _ (own_w 79 rfl))) (mvT hZ (hw _ (own_w 78 rfl))) (by decide) (backOf (W := 0) (rIs0 l Z a0 hw [] a1 G1 h0 n0 Z0 X00 O_2 P5 FC) hZ (hw _ (own_w 80 rfl)) (hw _ (own_w 12 rfl)) (by decide) (by decide)) q3a q3c (g := (mkF m 28 #[.val (.ref a1), .val (.int (Int32.ofNat b)), .val (.int (Int32.ofNat (b + ct.length))), .val (.int (Int32.ofNat cs.length)), .val (.int (Int32.ofNat ct.length))] [(.ref a1)])) rfl (by rw [hml]; rfl) (Steps.refl _) (argsL := []) (rest := []) (lenOf pd_7 rfl) rfl (by show 2 * 0 + _ ≤ _; exact Nat.le_of_eq rfl) (hb hby d21_28) (fun _ _ => ⟨rfl, e2, (by decide : 0 + 0 ≤ _), (by decide : 0 + 0 ≤ _)⟩)
        dsimp only [Pt.U, Pt.locs, Pt.cells, Pt.slots] at X3 lq3 yq3 zq3 st3 hQ3
        subst lq3 yq3 zq3
        obtain ⟨r3, hr3, rfl, N3q, e3⟩ := hQ3
        have N3 := Fr.app N2 N3q
        subst hr3
        obtain ⟨T4, X4, e4, st4⟩ := getF X3 hx hZ hown (host := "") (Or.inl (hw _ (own_w 29 rfl))) Via.refl e3 FV (g := (mkF m 35 #[.val (.ref a1), .val (.int (Int32.ofNat b)), .val (.int (Int32.ofNat (b + ct.length))), .val (.int (Int32.ofNat cs.length)), .val (.int (Int32.ofNat ct.length))] [(.ref a1)])) rfl rfl (hb hby d21_35)
        obtain ⟨_, _, ⟨T5, Lq5, kq5, nq5⟩, -, X5, ⟨Lc5, hQ5, lq5, yq5, zq5⟩, st5⟩ := Jvm.LawKit.callS X4 hx (y := (⟨"java/lang/StringLatin1", "newString", "([BII)Ljava/lang/String;"⟩ : MethodName)) hown (mvT hZ (hw _ (own_w 205 rfl))) (mvT hZ (hw _ (own_w 206 rfl))) (mvT hZ (hw _ (own_w 83 rfl))) (mvT hZ (hw _ (own_w 207 rfl))) (by decide) (backOf (W := 0) (rLn l Z a0 hw [] vb (Int32.ofNat b) (Int32.ofNat ct.length) kb cs ct b h0 n0 Z0 AV rfl rfl hs hps hne hL hl) hZ (hw _ (own_w 207 rfl)) (hw _ (own_w 83 rfl)) (by decide) (by decide)) (g := (mkF m 41 #[.val (.ref a1), .val (.int (Int32.ofNat b)), .val (.int (Int32.ofNat (b + ct.length))), .val (.int (Int32.ofNat cs.length)), .val (.int (Int32.ofNat ct.length))] [(.int (Int32.ofNat ct.length)), (.int (Int32.ofNat b)), (.ref vb)])) rfl (by rw [hml]; rfl) (argsL := [(.ref vb), (.int (Int32.ofNat b)), (.int (Int32.ofNat ct.length))]) (rest := []) (lenOf pd_23 rfl) rfl (by show 2 * 0 + _ ≤ _; exact Nat.le_of_eq rfl) (hb hby d21_41) (fun _ _ => ⟨rfl, e4, (by decide : 0 + 2 ≤ _), (by decide : 0 + 20 ≤ _)⟩)
        dsimp only [Pt.U, Pt.locs, Pt.cells, Pt.slots] at X5 lq5 yq5 zq5 st5 hQ5
        subst lq5 yq5 zq5
        obtain ⟨o5, rfl, N5q, KC5, TS5⟩ := hQ5
        have N5 := Fr.app N3 N5q
        have Z5 : n0 ≤ T5.heap.size := Nat.le_trans Z0 KC5.1
        have K5 : Keep h0 T5.heap [] := (Keep.refl h0 []).trans KC5 all0
        obtain ⟨fs, hr, hrun, hended, hW, hsame⟩ := X5.leave (v := some (.ref o5)) (fun h => by rw [Bd.returns] at h; cases h) (BodyLoose.notSynchronized Bd)
        refine ⟨_, _, pre0 _ ?_, hrun, hended, _, _, rfl, ?_, ⟨_, rfl⟩, hW, hsame.mono (by decide) (by decide)⟩
        · show Steps p.tables e below (s₁.setTop (mkF m 0 #[.val (.ref a1), .val (.int p2), .val (.int p3), .unset, .unset] [])) _
          rw [hp2]
          show Steps p.tables e below (s₁.setTop (mkF m 0 #[.val (.ref a1), .val (.int (Int32.ofNat b)), .val (.int p3), .unset, .unset] [])) _
          rw [hp3]
          show Steps p.tables e below (s₁.setTop (mkF m 0 #[.val (.ref a1), .val (.int (Int32.ofNat b)), .val (.int (Int32.ofNat (b + ct.length))), .unset, .unset] [])) _
          refine XS.aloadN X0.here hx rfl (hb hby d21_0) rfl rfl ?_
          refine st1.trans ?_
          show Steps p.tables e below (T1.setTop (mkF m 4 #[.val (.ref a1), .val (.int (Int32.ofNat b)), .val (.int (Int32.ofNat (b + ct.length))), .unset, .unset] [(.int r1)])) _
          rw [hr1]
          show Steps p.tables e below (T1.setTop (mkF m 4 #[.val (.ref a1), .val (.int (Int32.ofNat b)), .val (.int (Int32.ofNat (b + ct.length))), .unset, .unset] [(.int (Int32.ofNat cs.length))])) _
          refine XS.istoreN X1.here hx rfl (hb hby d21_4) rfl (l' := #[.val (.ref a1), .val (.int (Int32.ofNat b)), .val (.int (Int32.ofNat (b + ct.length))), .val (.int (Int32.ofNat cs.length)), .unset]) rfl ?_
          refine XS.iloadN X1.here hx rfl (hb hby d21_5) rfl ?_
          refine XS.iloadN X1.here hx rfl (hb hby d21_6) rfl ?_
          refine XS.iloadN X1.here hx rfl (hb hby d21_7) rfl ?_
          refine st2 _ ?_
          refine XS.iloadN X2.here hx rfl (hb hby d21_11) rfl ?_
          refine XS.ifNo X2.here hx rfl (hb hby d21_12) rfl ((if0 _ _).trans (teq hc12).2) ?_
          refine XS.iloadN X2.here hx rfl (hb hby d21_15) rfl ?_
          refine XS.iloadN X2.here hx rfl (hb hby d21_16) rfl ?_
          refine XS.icmpYes X2.here hx rfl (pc0 := 17) (pc' := 22) rfl (hb hby d21_17) rfl (feq hc17).2 (by decide) (by decide) ?_
          refine XS.iloadN X2.here hx rfl (hb hby d21_22) rfl ?_
          refine XS.iloadN X2.here hx rfl (hb hby d21_23) rfl ?_
          refine XS.isub X2.here hx rfl (hb hby d21_24) rfl ?_
          show Steps p.tables e below (T2.setTop (mkF m 25 #[.val (.ref a1), .val (.int (Int32.ofNat b)), .val (.int (Int32.ofNat (b + ct.length))), .val (.int (Int32.ofNat cs.length)), .unset] [(.int ((Int32.ofNat (b + ct.length)) - (Int32.ofNat b)))])) _
          rw [(own_xsubw (show b + ct.length < 16 by have := hs.1; omega))]
          show Steps p.tables e below (T2.setTop (mkF m 25 #[.val (.ref a1), .val (.int (Int32.ofNat b)), .val (.int (Int32.ofNat (b + ct.length))), .val (.int (Int32.ofNat cs.length)), .unset] [(.int (Int32.ofNat ct.length))])) _
          refine XS.istore X2.here hx rfl (hb hby d21_25) rfl (l' := #[.val (.ref a1), .val (.int (Int32.ofNat b)), .val (.int (Int32.ofNat (b + ct.length))), .val (.int (Int32.ofNat cs.length)), .val (.int (Int32.ofNat ct.length))]) rfl ?_
          refine XS.aloadN X2.here hx rfl (hb hby d21_27) rfl rfl ?_
          refine st3.trans ?_
          refine XS.ifNo X3.here hx rfl (hb hby d21_31) rfl ((if0 _ _).trans (feq (by decide)).1) ?_
          refine XS.aloadN X3.here hx rfl (hb hby d21_34) rfl rfl ?_
          refine st4 _ ?_
          refine XS.iloadN X4.here hx rfl (hb hby d21_38) rfl ?_
          refine XS.iload X4.here hx rfl (hb hby d21_39) rfl ?_
          refine st5 _ ?_
          refine XS.goto X5.here hx rfl (pc0 := 44) (pc' := 57) rfl (hb hby d21_44) (by decide) (by decide) ?_
          show Steps p.tables e below (T5.setTop (mkF m 57 #[.val (.ref a1), .val (.int (Int32.ofNat b)), .val (.int (Int32.ofNat (b + ct.length))), .val (.int (Int32.ofNat cs.length)), .val (.int (Int32.ofNat ct.length))] [(.ref o5)])) _
          exact X5.areturnOut hx rfl Bd.returns rfl (hb hby d21_57) hr
        · show QrS2 Z a1 p2 p3 cs ct b G1 gv h0 n0 _ T5.heap _
          exact ⟨o5, rfl, N5, K5, TS5⟩
      · skip
        obtain ⟨cq6, kz6, q6a, q6b, q6c⟩ := isOf hZ e2 E
        obtain ⟨_, _, ⟨T6, Lq6, kq6, nq6⟩, -, X6, ⟨Lc6, hQ6, lq6, yq6, zq6⟩, st6⟩ := X2.virtualBack hx (y := (⟨"java/lang/String", "isLatin1", "()Z"⟩ : MethodName)) (z := (⟨"java/lang/String", "isLatin1", "()Z"⟩ : MethodName)) hown (mvT hZ (hw _ (own_w 76 rfl))) (mvT hZ (hw _ (own_w 77 rfl))) (notFace_of_selects (args := #[]) (mvT hZ (hw _ (own_w 79 rfl)))) (mvT hZ (hw _ (own_w 79 rfl))) (mvT hZ (hw _ (own_w 78 rfl))) (by decide) (backOf (W := 0) (rIs1 l Z a0 hw [] a1 G1 h0 n0 Z0 X00 O_2 P5 FC) hZ (hw _ (own_w 80 rfl)) (hw _ (own_w 12 rfl)) (by decide) (by decide)) q6a q6c (g := (mkF m 28 #[.val (.ref a1), .val (.int (Int32.ofNat b)), .val (.int (Int32.ofNat (b + ct.length))), .val (.int (Int32.ofNat cs.length)), .val (.int (Int32.ofNat ct.length))] [(.ref a1)])) rfl (by rw [hml]; rfl) (Steps.refl _) (argsL := []) (rest := []) (lenOf pd_7 rfl) rfl (by show 2 * 0 + _ ≤ _; exact Nat.le_of_eq rfl) (hb hby d21_28) (fun _ _ => ⟨rfl, e2, (by decide : 0 + 0 ≤ _), (by decide : 0 + 0 ≤ _)⟩)
        dsimp only [Pt.U, Pt.locs, Pt.cells, Pt.slots] at X6 lq6 yq6 zq6 st6 hQ6
        subst lq6 yq6 zq6
        obtain ⟨r6, hr6, rfl, N6q, e6⟩ := hQ6
        have N6 := Fr.app N2 N6q
        subst hr6
        obtain ⟨T7, X7, e7, st7⟩ := getF X6 hx hZ hown (host := "") (Or.inl (hw _ (own_w 29 rfl))) Via.refl e6 FV (g := (mkF m 48 #[.val (.ref a1), .val (.int (Int32.ofNat b)), .val (.int (Int32.ofNat (b + ct.length))), .val (.int (Int32.ofNat cs.length)), .val (.int (Int32.ofNat ct.length))] [(.ref a1)])) rfl rfl (hb hby d21_48)
        obtain ⟨_, _, ⟨T8, Lq8, kq8, nq8⟩, -, X8, ⟨Lc8, hQ8, lq8, yq8, zq8⟩, st8⟩ := Jvm.LawKit.callS X7 hx (y := (⟨"java/lang/StringUTF16", "newString", "([BII)Ljava/lang/String;"⟩ : MethodName)) hown (mvT hZ (hw _ (own_w 163 rfl))) (mvT hZ (hw _ (own_w 164 rfl))) (mvT hZ (hw _ (own_w 60 rfl))) (mvT hZ (hw _ (own_w 165 rfl))) (by decide) (backOf (W := 0) (rUn l Z a0 hw [] vb (Int32.ofNat b) (Int32.ofNat ct.length) cs ct b kb G1 gv h0 n0 Z0 X00 O_S hgv O_2 P5 O_A O_H O_W AV rfl rfl hs hps hne hL hLt hcs) hZ (hw _ (own_w 165 rfl)) (hw _ (own_w 60 rfl)) (by decide) (by decide)) (g := (mkF m 54 #[.val (.ref a1), .val (.int (Int32.ofNat b)), .val (.int (Int32.ofNat (b + ct.length))), .val (.int (Int32.ofNat cs.length)), .val (.int (Int32.ofNat ct.length))] [(.int (Int32.ofNat ct.length)), (.int (Int32.ofNat b)), (.ref vb)])) rfl (by rw [hml]; rfl) (argsL := [(.ref vb), (.int (Int32.ofNat b)), (.int (Int32.ofNat ct.length))]) (rest := []) (lenOf pd_23 rfl) rfl (by show 2 * 0 + _ ≤ _; exact Nat.le_of_eq rfl) (hb hby d21_54) (fun _ _ => ⟨rfl, e7, (by decide : 0 + 3 ≤ _), (by decide : 0 + 28 ≤ _)⟩)
        dsimp only [Pt.U, Pt.locs, Pt.cells, Pt.slots] at X8 lq8 yq8 zq8 st8 hQ8
        subst lq8 yq8 zq8
        obtain ⟨o8, rfl, N8q, KC8, TS8⟩ := hQ8
        have N8 := Fr.app N6 N8q
        have Z8 : n0 ≤ T8.heap.size := Nat.le_trans Z0 KC8.1
        have K8 : Keep h0 T8.heap [] := (Keep.refl h0 []).trans KC8 all0
        obtain ⟨fs, hr, hrun, hended, hW, hsame⟩ := X8.leave (v := some (.ref o8)) (fun h => by rw [Bd.returns] at h; cases h) (BodyLoose.notSynchronized Bd)
        refine ⟨_, _, pre0 _ ?_, hrun, hended, _, _, rfl, ?_, ⟨_, rfl⟩, hW, hsame.mono (by decide) (by decide)⟩
        · show Steps p.tables e below (s₁.setTop (mkF m 0 #[.val (.ref a1), .val (.int p2), .val (.int p3), .unset, .unset] [])) _
          rw [hp2]
          show Steps p.tables e below (s₁.setTop (mkF m 0 #[.val (.ref a1), .val (.int (Int32.ofNat b)), .val (.int p3), .unset, .unset] [])) _
          rw [hp3]
          show Steps p.tables e below (s₁.setTop (mkF m 0 #[.val (.ref a1), .val (.int (Int32.ofNat b)), .val (.int (Int32.ofNat (b + ct.length))), .unset, .unset] [])) _
          refine XS.aloadN X0.here hx rfl (hb hby d21_0) rfl rfl ?_
          refine st1.trans ?_
          show Steps p.tables e below (T1.setTop (mkF m 4 #[.val (.ref a1), .val (.int (Int32.ofNat b)), .val (.int (Int32.ofNat (b + ct.length))), .unset, .unset] [(.int r1)])) _
          rw [hr1]
          show Steps p.tables e below (T1.setTop (mkF m 4 #[.val (.ref a1), .val (.int (Int32.ofNat b)), .val (.int (Int32.ofNat (b + ct.length))), .unset, .unset] [(.int (Int32.ofNat cs.length))])) _
          refine XS.istoreN X1.here hx rfl (hb hby d21_4) rfl (l' := #[.val (.ref a1), .val (.int (Int32.ofNat b)), .val (.int (Int32.ofNat (b + ct.length))), .val (.int (Int32.ofNat cs.length)), .unset]) rfl ?_
          refine XS.iloadN X1.here hx rfl (hb hby d21_5) rfl ?_
          refine XS.iloadN X1.here hx rfl (hb hby d21_6) rfl ?_
          refine XS.iloadN X1.here hx rfl (hb hby d21_7) rfl ?_
          refine st2 _ ?_
          refine XS.iloadN X2.here hx rfl (hb hby d21_11) rfl ?_
          refine XS.ifNo X2.here hx rfl (hb hby d21_12) rfl ((if0 _ _).trans (teq hc12).2) ?_
          refine XS.iloadN X2.here hx rfl (hb hby d21_15) rfl ?_
          refine XS.iloadN X2.here hx rfl (hb hby d21_16) rfl ?_
          refine XS.icmpYes X2.here hx rfl (pc0 := 17) (pc' := 22) rfl (hb hby d21_17) rfl (feq hc17).2 (by decide) (by decide) ?_
          refine XS.iloadN X2.here hx rfl (hb hby d21_22) rfl ?_
          refine XS.iloadN X2.here hx rfl (hb hby d21_23) rfl ?_
          refine XS.isub X2.here hx rfl (hb hby d21_24) rfl ?_
          show Steps p.tables e below (T2.setTop (mkF m 25 #[.val (.ref a1), .val (.int (Int32.ofNat b)), .val (.int (Int32.ofNat (b + ct.length))), .val (.int (Int32.ofNat cs.length)), .unset] [(.int ((Int32.ofNat (b + ct.length)) - (Int32.ofNat b)))])) _
          rw [(own_xsubw (show b + ct.length < 16 by have := hs.1; omega))]
          show Steps p.tables e below (T2.setTop (mkF m 25 #[.val (.ref a1), .val (.int (Int32.ofNat b)), .val (.int (Int32.ofNat (b + ct.length))), .val (.int (Int32.ofNat cs.length)), .unset] [(.int (Int32.ofNat ct.length))])) _
          refine XS.istore X2.here hx rfl (hb hby d21_25) rfl (l' := #[.val (.ref a1), .val (.int (Int32.ofNat b)), .val (.int (Int32.ofNat (b + ct.length))), .val (.int (Int32.ofNat cs.length)), .val (.int (Int32.ofNat ct.length))]) rfl ?_
          refine XS.aloadN X2.here hx rfl (hb hby d21_27) rfl rfl ?_
          refine st6.trans ?_
          refine XS.ifYes X6.here hx rfl (pc0 := 31) (pc' := 47) rfl (hb hby d21_31) rfl ((if0 _ _).trans (teq (by decide)).1) (by decide) (by decide) ?_
          refine XS.aloadN X6.here hx rfl (hb hby d21_47) rfl rfl ?_
          refine st7 _ ?_
          refine XS.iloadN X7.here hx rfl (hb hby d21_51) rfl ?_
          refine XS.iload X7.here hx rfl (hb hby d21_52) rfl ?_
          refine st8 _ ?_
          show Steps p.tables e below (T8.setTop (mkF m 57 #[.val (.ref a1), .val (.int (Int32.ofNat b)), .val (.int (Int32.ofNat (b + ct.length))), .val (.int (Int32.ofNat cs.length)), .val (.int (Int32.ofNat ct.length))] [(.ref o8)])) _
          exact X8.areturnOut hx rfl Bd.returns rfl (hb hby d21_57) hr
        · show QrS2 Z a1 p2 p3 cs ct b G1 gv h0 n0 _ T8.heap _
          exact ⟨o8, rfl, N8, K8, TS8⟩
  · have hne : ¬ (b = 0 ∧ b + ct.length = cs.length) := fun q => hc12 (by rw [q.1]; rfl)
    obtain ⟨vb, kb, E, FV, hcd⟩ := id T
    rcases hcd with ⟨FC, AV, hl⟩ | ⟨FC, AV⟩
    · skip
      obtain ⟨cq9, kz9, q9a, q9b, q9c⟩ := isOf hZ e2 E
      obtain ⟨_, _, ⟨T9, Lq9, kq9, nq9⟩, -, X9, ⟨Lc9, hQ9, lq9, yq9, zq9⟩, st9⟩ := X2.virtualBack hx (y := (⟨"java/lang/String", "isLatin1", "()Z"⟩ : MethodName)) (z := (⟨"java/lang/String", "isLatin1", "()Z"⟩ : MethodName)) hown (mvT hZ (hw _ (own_w 76 rfl))) (mvT hZ (hw _ (own_w 77 rfl))) (notFace_of_selects (args := #[]) (mvT hZ (hw _ (own_w 79 rfl)))) (mvT hZ (hw _ (own_w 79 rfl))) (mvT hZ (hw _ (own_w 78 rfl))) (by decide) (backOf (W := 0) (rIs0 l Z a0 hw [] a1 G1 h0 n0 Z0 X00 O_2 P5 FC) hZ (hw _ (own_w 80 rfl)) (hw _ (own_w 12 rfl)) (by decide) (by decide)) q9a q9c (g := (mkF m 28 #[.val (.ref a1), .val (.int (Int32.ofNat b)), .val (.int (Int32.ofNat (b + ct.length))), .val (.int (Int32.ofNat cs.length)), .val (.int (Int32.ofNat ct.length))] [(.ref a1)])) rfl (by rw [hml]; rfl) (Steps.refl _) (argsL := []) (rest := []) (lenOf pd_7 rfl) rfl (by show 2 * 0 + _ ≤ _; exact Nat.le_of_eq rfl) (hb hby d21_28) (fun _ _ => ⟨rfl, e2, (by decide : 0 + 0 ≤ _), (by decide : 0 + 0 ≤ _)⟩)
      dsimp only [Pt.U, Pt.locs, Pt.cells, Pt.slots] at X9 lq9 yq9 zq9 st9 hQ9
      subst lq9 yq9 zq9
      obtain ⟨r9, hr9, rfl, N9q, e9⟩ := hQ9
      have N9 := Fr.app N2 N9q
      subst hr9
      obtain ⟨T10, X10, e10, st10⟩ := getF X9 hx hZ hown (host := "") (Or.inl (hw _ (own_w 29 rfl))) Via.refl e9 FV (g := (mkF m 35 #[.val (.ref a1), .val (.int (Int32.ofNat b)), .val (.int (Int32.ofNat (b + ct.length))), .val (.int (Int32.ofNat cs.length)), .val (.int (Int32.ofNat ct.length))] [(.ref a1)])) rfl rfl (hb hby d21_35)
      obtain ⟨_, _, ⟨T11, Lq11, kq11, nq11⟩, -, X11, ⟨Lc11, hQ11, lq11, yq11, zq11⟩, st11⟩ := Jvm.LawKit.callS X10 hx (y := (⟨"java/lang/StringLatin1", "newString", "([BII)Ljava/lang/String;"⟩ : MethodName)) hown (mvT hZ (hw _ (own_w 205 rfl))) (mvT hZ (hw _ (own_w 206 rfl))) (mvT hZ (hw _ (own_w 83 rfl))) (mvT hZ (hw _ (own_w 207 rfl))) (by decide) (backOf (W := 0) (rLn l Z a0 hw [] vb (Int32.ofNat b) (Int32.ofNat ct.length) kb cs ct b h0 n0 Z0 AV rfl rfl hs hps hne hL hl) hZ (hw _ (own_w 207 rfl)) (hw _ (own_w 83 rfl)) (by decide) (by decide)) (g := (mkF m 41 #[.val (.ref a1), .val (.int (Int32.ofNat b)), .val (.int (Int32.ofNat (b + ct.length))), .val (.int (Int32.ofNat cs.length)), .val (.int (Int32.ofNat ct.length))] [(.int (Int32.ofNat ct.length)), (.int (Int32.ofNat b)), (.ref vb)])) rfl (by rw [hml]; rfl) (argsL := [(.ref vb), (.int (Int32.ofNat b)), (.int (Int32.ofNat ct.length))]) (rest := []) (lenOf pd_23 rfl) rfl (by show 2 * 0 + _ ≤ _; exact Nat.le_of_eq rfl) (hb hby d21_41) (fun _ _ => ⟨rfl, e10, (by decide : 0 + 2 ≤ _), (by decide : 0 + 20 ≤ _)⟩)
      dsimp only [Pt.U, Pt.locs, Pt.cells, Pt.slots] at X11 lq11 yq11 zq11 st11 hQ11
      subst lq11 yq11 zq11
      obtain ⟨o11, rfl, N11q, KC11, TS11⟩ := hQ11
      have N11 := Fr.app N9 N11q
      have Z11 : n0 ≤ T11.heap.size := Nat.le_trans Z0 KC11.1
      have K11 : Keep h0 T11.heap [] := (Keep.refl h0 []).trans KC11 all0
      obtain ⟨fs, hr, hrun, hended, hW, hsame⟩ := X11.leave (v := some (.ref o11)) (fun h => by rw [Bd.returns] at h; cases h) (BodyLoose.notSynchronized Bd)
      refine ⟨_, _, pre0 _ ?_, hrun, hended, _, _, rfl, ?_, ⟨_, rfl⟩, hW, hsame.mono (by decide) (by decide)⟩
      · show Steps p.tables e below (s₁.setTop (mkF m 0 #[.val (.ref a1), .val (.int p2), .val (.int p3), .unset, .unset] [])) _
        rw [hp2]
        show Steps p.tables e below (s₁.setTop (mkF m 0 #[.val (.ref a1), .val (.int (Int32.ofNat b)), .val (.int p3), .unset, .unset] [])) _
        rw [hp3]
        show Steps p.tables e below (s₁.setTop (mkF m 0 #[.val (.ref a1), .val (.int (Int32.ofNat b)), .val (.int (Int32.ofNat (b + ct.length))), .unset, .unset] [])) _
        refine XS.aloadN X0.here hx rfl (hb hby d21_0) rfl rfl ?_
        refine st1.trans ?_
        show Steps p.tables e below (T1.setTop (mkF m 4 #[.val (.ref a1), .val (.int (Int32.ofNat b)), .val (.int (Int32.ofNat (b + ct.length))), .unset, .unset] [(.int r1)])) _
        rw [hr1]
        show Steps p.tables e below (T1.setTop (mkF m 4 #[.val (.ref a1), .val (.int (Int32.ofNat b)), .val (.int (Int32.ofNat (b + ct.length))), .unset, .unset] [(.int (Int32.ofNat cs.length))])) _
        refine XS.istoreN X1.here hx rfl (hb hby d21_4) rfl (l' := #[.val (.ref a1), .val (.int (Int32.ofNat b)), .val (.int (Int32.ofNat (b + ct.length))), .val (.int (Int32.ofNat cs.length)), .unset]) rfl ?_
        refine XS.iloadN X1.here hx rfl (hb hby d21_5) rfl ?_
        refine XS.iloadN X1.here hx rfl (hb hby d21_6) rfl ?_
        refine XS.iloadN X1.here hx rfl (hb hby d21_7) rfl ?_
        refine st2 _ ?_
        refine XS.iloadN X2.here hx rfl (hb hby d21_11) rfl ?_
        refine XS.ifYes X2.here hx rfl (pc0 := 12) (pc' := 22) rfl (hb hby d21_12) rfl ((if0 _ _).trans (feq hc12).2) (by decide) (by decide) ?_
        refine XS.iloadN X2.here hx rfl (hb hby d21_22) rfl ?_
        refine XS.iloadN X2.here hx rfl (hb hby d21_23) rfl ?_
        refine XS.isub X2.here hx rfl (hb hby d21_24) rfl ?_
        show Steps p.tables e below (T2.setTop (mkF m 25 #[.val (.ref a1), .val (.int (Int32.ofNat b)), .val (.int (Int32.ofNat (b + ct.length))), .val (.int (Int32.ofNat cs.length)), .unset] [(.int ((Int32.ofNat (b + ct.length)) - (Int32.ofNat b)))])) _
        rw [(own_xsubw (show b + ct.length < 16 by have := hs.1; omega))]
        show Steps p.tables e below (T2.setTop (mkF m 25 #[.val (.ref a1), .val (.int (Int32.ofNat b)), .val (.int (Int32.ofNat (b + ct.length))), .val (.int (Int32.ofNat cs.length)), .unset] [(.int (Int32.ofNat ct.length))])) _
        refine XS.istore X2.here hx rfl (hb hby d21_25) rfl (l' := #[.val (.ref a1), .val (.int (Int32.ofNat b)), .val (.int (Int32.ofNat (b + ct.length))), .val (.int (Int32.ofNat cs.length)), .val (.int (Int32.ofNat ct.length))]) rfl ?_
        refine XS.aloadN X2.here hx rfl (hb hby d21_27) rfl rfl ?_
        refine st9.trans ?_
        refine XS.ifNo X9.here hx rfl (hb hby d21_31) rfl ((if0 _ _).trans (feq (by decide)).1) ?_
        refine XS.aloadN X9.here hx rfl (hb hby d21_34) rfl rfl ?_
        refine st10 _ ?_
        refine XS.iloadN X10.here hx rfl (hb hby d21_38) rfl ?_
        refine XS.iload X10.here hx rfl (hb hby d21_39) rfl ?_
        refine st11 _ ?_
        refine XS.goto X11.here hx rfl (pc0 := 44) (pc' := 57) rfl (hb hby d21_44) (by decide) (by decide) ?_
        show Steps p.tables e below (T11.setTop (mkF m 57 #[.val (.ref a1), .val (.int (Int32.ofNat b)), .val (.int (Int32.ofNat (b + ct.length))), .val (.int (Int32.ofNat cs.length)), .val (.int (Int32.ofNat ct.length))] [(.ref o11)])) _
        exact X11.areturnOut hx rfl Bd.returns rfl (hb hby d21_57) hr
      · show QrS2 Z a1 p2 p3 cs ct b G1 gv h0 n0 _ T11.heap _
        exact ⟨o11, rfl, N11, K11, TS11⟩
    · skip
      obtain ⟨cq12, kz12, q12a, q12b, q12c⟩ := isOf hZ e2 E
      obtain ⟨_, _, ⟨T12, Lq12, kq12, nq12⟩, -, X12, ⟨Lc12, hQ12, lq12, yq12, zq12⟩, st12⟩ := X2.virtualBack hx (y := (⟨"java/lang/String", "isLatin1", "()Z"⟩ : MethodName)) (z := (⟨"java/lang/String", "isLatin1", "()Z"⟩ : MethodName)) hown (mvT hZ (hw _ (own_w 76 rfl))) (mvT hZ (hw _ (own_w 77 rfl))) (notFace_of_selects (args := #[]) (mvT hZ (hw _ (own_w 79 rfl)))) (mvT hZ (hw _ (own_w 79 rfl))) (mvT hZ (hw _ (own_w 78 rfl))) (by decide) (backOf (W := 0) (rIs1 l Z a0 hw [] a1 G1 h0 n0 Z0 X00 O_2 P5 FC) hZ (hw _ (own_w 80 rfl)) (hw _ (own_w 12 rfl)) (by decide) (by decide)) q12a q12c (g := (mkF m 28 #[.val (.ref a1), .val (.int (Int32.ofNat b)), .val (.int (Int32.ofNat (b + ct.length))), .val (.int (Int32.ofNat cs.length)), .val (.int (Int32.ofNat ct.length))] [(.ref a1)])) rfl (by rw [hml]; rfl) (Steps.refl _) (argsL := []) (rest := []) (lenOf pd_7 rfl) rfl (by show 2 * 0 + _ ≤ _; exact Nat.le_of_eq rfl) (hb hby d21_28) (fun _ _ => ⟨rfl, e2, (by decide : 0 + 0 ≤ _), (by decide : 0 + 0 ≤ _)⟩)
      dsimp only [Pt.U, Pt.locs, Pt.cells, Pt.slots] at X12 lq12 yq12 zq12 st12 hQ12
      subst lq12 yq12 zq12
      obtain ⟨r12, hr12, rfl, N12q, e12⟩ := hQ12
      have N12 := Fr.app N2 N12q
      subst hr12
      obtain ⟨T13, X13, e13, st13⟩ := getF X12 hx hZ hown (host := "") (Or.inl (hw _ (own_w 29 rfl))) Via.refl e12 FV (g := (mkF m 48 #[.val (.ref a1), .val (.int (Int32.ofNat b)), .val (.int (Int32.ofNat (b + ct.length))), .val (.int (Int32.ofNat cs.length)), .val (.int (Int32.ofNat ct.length))] [(.ref a1)])) rfl rfl (hb hby d21_48)
      obtain ⟨_, _, ⟨T14, Lq14, kq14, nq14⟩, -, X14, ⟨Lc14, hQ14, lq14, yq14, zq14⟩, st14⟩ := Jvm.LawKit.callS X13 hx (y := (⟨"java/lang/StringUTF16", "newString", "([BII)Ljava/lang/String;"⟩ : MethodName)) hown (mvT hZ (hw _ (own_w 163 rfl))) (mvT hZ (hw _ (own_w 164 rfl))) (mvT hZ (hw _ (own_w 60 rfl))) (mvT hZ (hw _ (own_w 165 rfl))) (by decide) (backOf (W := 0) (rUn l Z a0 hw [] vb (Int32.ofNat b) (Int32.ofNat ct.length) cs ct b kb G1 gv h0 n0 Z0 X00 O_S hgv O_2 P5 O_A O_H O_W AV rfl rfl hs hps hne hL hLt hcs) hZ (hw _ (own_w 165 rfl)) (hw _ (own_w 60 rfl)) (by decide) (by decide)) (g := (mkF m 54 #[.val (.ref a1), .val (.int (Int32.ofNat b)), .val (.int (Int32.ofNat (b + ct.length))), .val (.int (Int32.ofNat cs.length)), .val (.int (Int32.ofNat ct.length))] [(.int (Int32.ofNat ct.length)), (.int (Int32.ofNat b)), (.ref vb)])) rfl (by rw [hml]; rfl) (argsL := [(.ref vb), (.int (Int32.ofNat b)), (.int (Int32.ofNat ct.length))]) (rest := []) (lenOf pd_23 rfl) rfl (by show 2 * 0 + _ ≤ _; exact Nat.le_of_eq rfl) (hb hby d21_54) (fun _ _ => ⟨rfl, e13, (by decide : 0 + 3 ≤ _), (by decide : 0 + 28 ≤ _)⟩)
      dsimp only [Pt.U, Pt.locs, Pt.cells, Pt.slots] at X14 lq14 yq14 zq14 st14 hQ14
      subst lq14 yq14 zq14
      obtain ⟨o14, rfl, N14q, KC14, TS14⟩ := hQ14
      have N14 := Fr.app N12 N14q
      have Z14 : n0 ≤ T14.heap.size := Nat.le_trans Z0 KC14.1
      have K14 : Keep h0 T14.heap [] := (Keep.refl h0 []).trans KC14 all0
      obtain ⟨fs, hr, hrun, hended, hW, hsame⟩ := X14.leave (v := some (.ref o14)) (fun h => by rw [Bd.returns] at h; cases h) (BodyLoose.notSynchronized Bd)
      refine ⟨_, _, pre0 _ ?_, hrun, hended, _, _, rfl, ?_, ⟨_, rfl⟩, hW, hsame.mono (by decide) (by decide)⟩
      · show Steps p.tables e below (s₁.setTop (mkF m 0 #[.val (.ref a1), .val (.int p2), .val (.int p3), .unset, .unset] [])) _
        rw [hp2]
        show Steps p.tables e below (s₁.setTop (mkF m 0 #[.val (.ref a1), .val (.int (Int32.ofNat b)), .val (.int p3), .unset, .unset] [])) _
        rw [hp3]
        show Steps p.tables e below (s₁.setTop (mkF m 0 #[.val (.ref a1), .val (.int (Int32.ofNat b)), .val (.int (Int32.ofNat (b + ct.length))), .unset, .unset] [])) _
        refine XS.aloadN X0.here hx rfl (hb hby d21_0) rfl rfl ?_
        refine st1.trans ?_
        show Steps p.tables e below (T1.setTop (mkF m 4 #[.val (.ref a1), .val (.int (Int32.ofNat b)), .val (.int (Int32.ofNat (b + ct.length))), .unset, .unset] [(.int r1)])) _
        rw [hr1]
        show Steps p.tables e below (T1.setTop (mkF m 4 #[.val (.ref a1), .val (.int (Int32.ofNat b)), .val (.int (Int32.ofNat (b + ct.length))), .unset, .unset] [(.int (Int32.ofNat cs.length))])) _
        refine XS.istoreN X1.here hx rfl (hb hby d21_4) rfl (l' := #[.val (.ref a1), .val (.int (Int32.ofNat b)), .val (.int (Int32.ofNat (b + ct.length))), .val (.int (Int32.ofNat cs.length)), .unset]) rfl ?_
        refine XS.iloadN X1.here hx rfl (hb hby d21_5) rfl ?_
        refine XS.iloadN X1.here hx rfl (hb hby d21_6) rfl ?_
        refine XS.iloadN X1.here hx rfl (hb hby d21_7) rfl ?_
        refine st2 _ ?_
        refine XS.iloadN X2.here hx rfl (hb hby d21_11) rfl ?_
        refine XS.ifYes X2.here hx rfl (pc0 := 12) (pc' := 22) rfl (hb hby d21_12) rfl ((if0 _ _).trans (feq hc12).2) (by decide) (by decide) ?_
        refine XS.iloadN X2.here hx rfl (hb hby d21_22) rfl ?_
        refine XS.iloadN X2.here hx rfl (hb hby d21_23) rfl ?_
        refine XS.isub X2.here hx rfl (hb hby d21_24) rfl ?_
        show Steps p.tables e below (T2.setTop (mkF m 25 #[.val (.ref a1), .val (.int (Int32.ofNat b)), .val (.int (Int32.ofNat (b + ct.length))), .val (.int (Int32.ofNat cs.length)), .unset] [(.int ((Int32.ofNat (b + ct.length)) - (Int32.ofNat b)))])) _
        rw [(own_xsubw (show b + ct.length < 16 by have := hs.1; omega))]
        show Steps p.tables e below (T2.setTop (mkF m 25 #[.val (.ref a1), .val (.int (Int32.ofNat b)), .val (.int (Int32.ofNat (b + ct.length))), .val (.int (Int32.ofNat cs.length)), .unset] [(.int (Int32.ofNat ct.length))])) _
        refine XS.istore X2.here hx rfl (hb hby d21_25) rfl (l' := #[.val (.ref a1), .val (.int (Int32.ofNat b)), .val (.int (Int32.ofNat (b + ct.length))), .val (.int (Int32.ofNat cs.length)), .val (.int (Int32.ofNat ct.length))]) rfl ?_
        refine XS.aloadN X2.here hx rfl (hb hby d21_27) rfl rfl ?_
        refine st12.trans ?_
        refine XS.ifYes X12.here hx rfl (pc0 := 31) (pc' := 47) rfl (hb hby d21_31) rfl ((if0 _ _).trans (teq (by decide)).1) (by decide) (by decide) ?_
        refine XS.aloadN X12.here hx rfl (hb hby d21_47) rfl rfl ?_
        refine st13 _ ?_
        refine XS.iloadN X13.here hx rfl (hb hby d21_51) rfl ?_
        refine XS.iload X13.here hx rfl (hb hby d21_52) rfl ?_
        refine st14 _ ?_
        show Steps p.tables e below (T14.setTop (mkF m 57 #[.val (.ref a1), .val (.int (Int32.ofNat b)), .val (.int (Int32.ofNat (b + ct.length))), .val (.int (Int32.ofNat cs.length)), .val (.int (Int32.ofNat ct.length))] [(.ref o14)])) _
        exact X14.areturnOut hx rfl Bd.returns rfl (hb hby d21_57) hr
      · show QrS2 Z a1 p2 p3 cs ct b G1 gv h0 n0 _ T14.heap _
        exact ⟨o14, rfl, N14, K14, TS14⟩
theorem pd_24 : parseMethodDescriptor "(II)Ljava/lang/String;" = some ⟨[.int, .int], some (.object "java/lang/String")⟩ := by decide +kernel
theorem d20_0 : decode jdk_42_method_91_code 0 = .ok (.aload_n 0, 1) := by decide +kernel
theorem d20_1 : decode jdk_42_method_91_code 1 = .ok (.iload_n 1, 1) := by decide +kernel
theorem d20_2 : decode jdk_42_method_91_code 2 = .ok (.aload_n 0, 1) := by decide +kernel
theorem d20_3 : decode jdk_42_method_91_code 3 = .ok (.invokevirtual 505, 3) := by decide +kernel
theorem d20_6 : decode jdk_42_method_91_code 6 = .ok (.invokevirtual 681, 3) := by decide +kernel
theorem d20_9 : decode jdk_42_method_91_code 9 = .ok (.areturn, 1) := by decide +kernel
theorem pn_20 : plainName "java/lang/String" = true := by first | (simp [plainName, overriddenIn]; done) | decide +kernel
theorem ef_rS1 (m : MethodId) (a1 : Addr) (p2 : Int32) : entryFrame m #[(.ref a1), (.int p2)] 2 = mkF m 0 #[.val (.ref a1), .val (.int p2)] [] := by first | (simp [entryFrame, mkF, argsToLocals, Value.category]; done) | rfl
def QrS1 (Z : State) (a1 : Addr) (p2 : Int32) (cs : List Int32) (ct : List Int32) (b : Nat) (G1 : Int32) (gv : Value) (h0 : Heap) (n0 : Nat) (v : Option Value) (h : Heap) (L : List Loc) : Prop := ∃ o : Addr, v = some (.ref o) ∧ Fr n0 L ∧ Keep h0 h [] ∧ own_S Z h o ct
set_option maxRecDepth 65536 in
set_option maxHeartbeats 40000000 in
theorem rS1 (l : Launch) (Z : State) (a0 : Array Value) (hw : ∀ d ∈ tables_1, d.before a0 Z = true) (ws : List Jvm.Cond) (a1 : Addr) (p2 : Int32) (cs : List Int32) (ct : List Int32) (b : Nat) (G1 : Int32) (gv : Value) (h0 : Heap) (n0 : Nat) (Z0 : n0 ≤ h0.size) (X00 : Old Z n0 h0) (O_S : Sta Z Z.heap "jdk/internal/util/Preconditions" "SIOOBE_FORMATTER" "Ljava/util/function/BiFunction;" gv) (hgv : gv.isRef = true) (O_2 : Sta Z Z.heap "java/lang/String" "COMPACT_STRINGS" "Z" (.int G1)) (P5 : ¬ (G1 = (0 : Int32))) (O_A : Sta Z Z.heap "java/lang/StringUTF16" "$assertionsDisabled" "Z" (.int (1 : Int32))) (O_H : Sta Z Z.heap "java/lang/StringUTF16" "HI_BYTE_SHIFT" "I" (.int (0 : Int32))) (O_W : Sta Z Z.heap "java/lang/StringUTF16" "LO_BYTE_SHIFT" "I" (.int (8 : Int32))) (T : own_S Z h0 a1 cs) (hs : own_sub cs b ct) (hps : 0 < ct.length) (hL : cs.length < 8) (hcs : ∀ c ∈ cs, own_ch c) (hp2 : p2 = Int32.ofNat b) (he : b + ct.length = cs.length) :
    MetFree l (⟨"java/lang/String", "substring", "(I)Ljava/lang/String;"⟩ : MethodName) (head1 (Jvm.Cond.code (⟨"java/lang/String", "substring", "(I)Ljava/lang/String;"⟩ : MethodName) jdk_42_method_91_code 2 (some (.object "java/lang/String")) :: ws) ({ frames := 7, cells := 3, slots := 28, locals := 110 } : Room)) (fun a U => a = #[(.ref a1), (.int p2)] ∧ Z.Warmed39 U.vm ∧ U.heap = h0) (fun _ _ _ _ _ => True) (fun _ U o U' => ∃ v L, o = .returned v ∧ QrS1 Z a1 p2 cs ct b G1 gv h0 n0 v U'.heap L ∧ FrameEnd U o U' L ({ frames := 7, cells := 3, slots := 28, locals := 110 } : Room).cells ({ frames := 7, cells := 3, slots := 28, locals := 110 } : Room).slots) := by
  refine MetFree.of_bodySF (plainFor_of_name pn_20) hisR ?_
  intro p e s m args below meth c s₁ Bd hml0 hP hK
  obtain ⟨rfl, hZ, hh⟩ := hP
  have hx := Bd.exec
  have hby := Bd.bytes
  have hml : c.maxLocals = 2 := hml0
  have hown : s.vm.findClass "java/lang/String" = some m.cls := findClass_of_methodNamed Bd.named
  have hnm := (name_of_methodNamed Bd.named Bd.method).1
  have X0 : Stand p l e ({ frames := 7, cells := 3, slots := 28, locals := 110 } : Room) s m #[(.ref a1), (.int p2)] below meth c s₁ [] 0 0 := Stand.of_body Bd
  have e0 : s₁.heap = h0 := by rw [← hh, Bd.state]; rfl
  have N0 := Fr.nil n0
  have pre0 : ∀ t, Steps p.tables e below (s₁.setTop (mkF m 0 #[.val (.ref a1), .val (.int p2)] [])) t → Steps p.tables e below (s₁.setTop (entryFrame m #[(.ref a1), (.int p2)] 2)) t := fun t k => castTop (ef_rS1 m a1 p2) k
  obtain ⟨cq1, kz1, q1a, q1b, q1c⟩ := isOf hZ e0 (own_Sexa T)
  obtain ⟨_, _, ⟨T1, Lq1, kq1, nq1⟩, -, X1, ⟨Lc1, hQ1, lq1, yq1, zq1⟩, st1⟩ := X0.virtualBack hx (y := (⟨"java/lang/String", "length", "()I"⟩ : MethodName)) (z := (⟨"java/lang/String", "length", "()I"⟩ : MethodName)) hown (mvT hZ (hw _ (own_w 98 rfl))) (mvT hZ (hw _ (own_w 36 rfl))) (notFace_of_selects (args := #[]) (mvT hZ (hw _ (own_w 38 rfl)))) (mvT hZ (hw _ (own_w 38 rfl))) (mvT hZ (hw _ (own_w 37 rfl))) (by decide) (backOf (W := 2) (rLe l Z a0 hw [] a1 cs G1 h0 n0 Z0 X00 O_2 P5 T hL) hZ (hw _ (own_w 39 rfl)) (hw _ (own_w 12 rfl)) (by decide) (by decide)) q1a q1c (g := (mkF m 3 #[.val (.ref a1), .val (.int p2)] [(.ref a1), (.int p2), (.ref a1)])) rfl (by rw [hml]; rfl) (Steps.refl _) (argsL := []) (rest := [(.int p2), (.ref a1)]) (lenOf pd_21 rfl) rfl (by show 2 * 0 + _ ≤ _; exact Nat.le_of_eq rfl) (hb hby d20_3) (fun _ _ => ⟨rfl, e0, (by decide : 0 + 0 ≤ _), (by decide : 0 + 0 ≤ _)⟩)
  dsimp only [Pt.U, Pt.locs, Pt.cells, Pt.slots] at X1 lq1 yq1 zq1 st1 hQ1
  subst lq1 yq1 zq1
  obtain ⟨r1, hr1, rfl, N1q, e1⟩ := hQ1
  have N1 := Fr.app N0 N1q
  obtain ⟨cq2, kz2, q2a, q2b, q2c⟩ := isOf hZ e1 (own_Sexa T)
  obtain ⟨_, _, ⟨T2, Lq2, kq2, nq2⟩, -, X2, ⟨Lc2, hQ2, lq2, yq2, zq2⟩, st2⟩ := X1.virtualBack hx (y := (⟨"java/lang/String", "substring", "(II)Ljava/lang/String;"⟩ : MethodName)) (z := (⟨"java/lang/String", "substring", "(II)Ljava/lang/String;"⟩ : MethodName)) hown (mvT hZ (hw _ (own_w 99 rfl))) (mvT hZ (hw _ (own_w 100 rfl))) (notFace_of_selects (args := #[]) (mvT hZ (hw _ (own_w 102 rfl)))) (mvT hZ (hw _ (own_w 102 rfl))) (mvT hZ (hw _ (own_w 101 rfl))) (by decide) (backOf (W := 0) (rS2 l Z a0 hw [] a1 p2 (Int32.ofNat (b + ct.length)) (cs) (ct) (b) G1 gv h0 n0 Z0 X00 O_S hgv O_2 P5 O_A O_H O_W T hs hps hL hcs hp2 rfl) hZ (hw _ (own_w 103 rfl)) (hw _ (own_w 12 rfl)) (by decide) (by decide)) q2a q2c (g := (mkF m 6 #[.val (.ref a1), .val (.int p2)] [(.int (Int32.ofNat (b + ct.length))), (.int p2), (.ref a1)])) rfl (by rw [hml]; rfl) (Steps.refl _) (argsL := [(.int p2), (.int (Int32.ofNat (b + ct.length)))]) (rest := []) (lenOf pd_24 rfl) rfl (by show 2 * 0 + _ ≤ _; exact Nat.le_of_eq rfl) (hb hby d20_6) (fun _ _ => ⟨rfl, e1, (by decide : 0 + 3 ≤ _), (by decide : 0 + 28 ≤ _)⟩)
  dsimp only [Pt.U, Pt.locs, Pt.cells, Pt.slots] at X2 lq2 yq2 zq2 st2 hQ2
  subst lq2 yq2 zq2
  obtain ⟨o2, rfl, N2q, KC2, TS2⟩ := hQ2
  have N2 := Fr.app N1 N2q
  have Z2 : n0 ≤ T2.heap.size := Nat.le_trans Z0 KC2.1
  have K2 : Keep h0 T2.heap [] := (Keep.refl h0 []).trans KC2 all0
  obtain ⟨fs, hr, hrun, hended, hW, hsame⟩ := X2.leave (v := some (.ref o2)) (fun h => by rw [Bd.returns] at h; cases h) (BodyLoose.notSynchronized Bd)
  refine ⟨_, _, pre0 _ ?_, hrun, hended, _, _, rfl, ?_, ⟨_, rfl⟩, hW, hsame.mono (by decide) (by decide)⟩
  · show Steps p.tables e below (s₁.setTop (mkF m 0 #[.val (.ref a1), .val (.int p2)] [])) _
    refine XS.aloadN X0.here hx rfl (hb hby d20_0) rfl rfl ?_
    refine XS.iloadN X0.here hx rfl (hb hby d20_1) rfl ?_
    refine XS.aloadN X0.here hx rfl (hb hby d20_2) rfl rfl ?_
    refine st1.trans ?_
    show Steps p.tables e below (T1.setTop (mkF m 6 #[.val (.ref a1), .val (.int p2)] [(.int r1), (.int p2), (.ref a1)])) _
    rw [(hr1.trans (congrArg Int32.ofNat he.symm))]
    show Steps p.tables e below (T1.setTop (mkF m 6 #[.val (.ref a1), .val (.int p2)] [(.int (Int32.ofNat (b + ct.length))), (.int p2), (.ref a1)])) _
    refine st2.trans ?_
    show Steps p.tables e below (T2.setTop (mkF m 9 #[.val (.ref a1), .val (.int p2)] [(.ref o2)])) _
    exact X2.areturnOut hx rfl Bd.returns rfl (hb hby d20_9) hr
  · show QrS1 Z a1 p2 cs ct b G1 gv h0 n0 _ T2.heap _
    exact ⟨o2, rfl, N2, K2, TS2⟩
theorem d25_0 : decode jdk_31_method_10_code 0 = .ok (.aload_n 0, 1) := by decide +kernel
theorem d25_1 : decode jdk_31_method_10_code 1 = .ok (.ifnonnull 11, 3) := by decide +kernel
theorem d25_12 : decode jdk_31_method_10_code 12 = .ok (.aload_n 0, 1) := by decide +kernel
theorem d25_13 : decode jdk_31_method_10_code 13 = .ok (.areturn, 1) := by decide +kernel
theorem pn_25 : plainName "java/util/Objects" = true := by first | (simp [plainName, overriddenIn]; done) | decide +kernel
theorem ef_rRN (m : MethodId) (a1 : Addr) : entryFrame m #[(.ref a1)] 1 = mkF m 0 #[.val (.ref a1)] [] := by first | (simp [entryFrame, mkF, argsToLocals, Value.category]; done) | rfl
def QrRN (Z : State) (a1 : Addr) (h0 : Heap) (n0 : Nat) (v : Option Value) (h : Heap) (L : List Loc) : Prop := v = some (.ref a1) ∧ Fr n0 L ∧ h = h0
set_option maxRecDepth 65536 in
set_option maxHeartbeats 40000000 in
theorem rRN (l : Launch) (Z : State) (a0 : Array Value) (hw : ∀ d ∈ tables_1, d.before a0 Z = true) (ws : List Jvm.Cond) (a1 : Addr) (h0 : Heap) (n0 : Nat) (Z0 : n0 ≤ h0.size) :
    MetFree l (⟨"java/util/Objects", "requireNonNull", "(Ljava/lang/Object;)Ljava/lang/Object;"⟩ : MethodName) (head1 (Jvm.Cond.code (⟨"java/util/Objects", "requireNonNull", "(Ljava/lang/Object;)Ljava/lang/Object;"⟩ : MethodName) jdk_31_method_10_code 1 (some (.object "java/lang/Object")) :: ws) ({ frames := 0, cells := 0, slots := 0, locals := 0 } : Room)) (fun a U => a = #[(.ref a1)] ∧ Z.Warmed39 U.vm ∧ U.heap = h0) (fun _ _ _ _ _ => True) (fun _ U o U' => ∃ v L, o = .returned v ∧ QrRN Z a1 h0 n0 v U'.heap L ∧ FrameEnd U o U' L ({ frames := 0, cells := 0, slots := 0, locals := 0 } : Room).cells ({ frames := 0, cells := 0, slots := 0, locals := 0 } : Room).slots) := by
  refine MetFree.of_bodySF (plainFor_of_name pn_25) hisR ?_
  intro p e s m args below meth c s₁ Bd hml0 hP hK
  obtain ⟨rfl, hZ, hh⟩ := hP
  have hx := Bd.exec
  have hby := Bd.bytes
  have hml : c.maxLocals = 1 := hml0
  have hown : s.vm.findClass "java/util/Objects" = some m.cls := findClass_of_methodNamed Bd.named
  have hnm := (name_of_methodNamed Bd.named Bd.method).1
  have X0 : Stand p l e ({ frames := 0, cells := 0, slots := 0, locals := 0 } : Room) s m #[(.ref a1)] below meth c s₁ [] 0 0 := Stand.of_body Bd
  have e0 : s₁.heap = h0 := by rw [← hh, Bd.state]; rfl
  have N0 := Fr.nil n0
  have pre0 : ∀ t, Steps p.tables e below (s₁.setTop (mkF m 0 #[.val (.ref a1)] [])) t → Steps p.tables e below (s₁.setTop (entryFrame m #[(.ref a1)] 1)) t := fun t k => castTop (ef_rRN m a1) k
  obtain ⟨fs, hr, hrun, hended, hW, hsame⟩ := X0.leave (v := some (.ref a1)) (fun h => by rw [Bd.returns] at h; cases h) (BodyLoose.notSynchronized Bd)
  refine ⟨_, _, pre0 _ ?_, hrun, hended, _, _, rfl, ?_, ⟨_, rfl⟩, hW, hsame.mono (by decide) (by decide)⟩
  · show Steps p.tables e below (s₁.setTop (mkF m 0 #[.val (.ref a1)] [])) _
    refine XS.aloadN X0.here hx rfl (hb hby d25_0) rfl rfl ?_
    refine XS.ifnonnullYes X0.here hx rfl (pc0 := 1) (pc' := 12) rfl (hb hby d25_1) rfl (by decide) (by decide) ?_
    refine XS.aloadN X0.here hx rfl (hb hby d25_12) rfl rfl ?_
    show Steps p.tables e below (s₁.setTop (mkF m 13 #[.val (.ref a1)] [(.ref a1)])) _
    exact X0.areturnOut hx rfl Bd.returns rfl (hb hby d25_13) hr
  · show QrRN Z a1 h0 n0 _ s₁.heap _
    exact ⟨rfl, N0, e0⟩
theorem d26_0 : decode jdk_32_method_2_code 0 = .ok (.aload_n 0, 1) := by decide +kernel
theorem d26_1 : decode jdk_32_method_2_code 1 = .ok (.invokespecial 7, 3) := by decide +kernel
theorem d26_4 : decode jdk_32_method_2_code 4 = .ok (.aload_n 0, 1) := by decide +kernel
theorem d26_5 : decode jdk_32_method_2_code 5 = .ok (.aload_n 1, 1) := by decide +kernel
theorem d26_6 : decode jdk_32_method_2_code 6 = .ok (.putfield 13, 3) := by decide +kernel
theorem d26_9 : decode jdk_32_method_2_code 9 = .ok (.return_, 1) := by decide +kernel
theorem pn_26 : plainName "java/util/Optional" = true := by first | (simp [plainName, overriddenIn]; done) | decide +kernel
theorem ef_rOi (m : MethodId) (a1 : Addr) (a2 : Addr) : entryFrame m #[(.ref a1), (.ref a2)] 2 = mkF m 0 #[.val (.ref a1), .val (.ref a2)] [] := by first | (simp [entryFrame, mkF, argsToLocals, Value.category]; done) | rfl
def QrOi (Z : State) (a1 : Addr) (a2 : Addr) (h0 : Heap) (n0 : Nat) (v : Option Value) (h : Heap) (L : List Loc) : Prop := v = none ∧ Fr n0 L ∧ Keep h0 h [a1] ∧ Exa Z h a1 "java/util/Optional" ∧ Fld Z h a1 "java/util/Optional" "value" "Ljava/lang/Object;" (.ref a2)
set_option maxRecDepth 65536 in
set_option maxHeartbeats 40000000 in
theorem rOi (l : Launch) (Z : State) (a0 : Array Value) (hw : ∀ d ∈ tables_1, d.before a0 Z = true) (ws : List Jvm.Cond) (a1 : Addr) (a2 : Addr) (h0 : Heap) (n0 : Nat) (Z0 : n0 ≤ h0.size) (E : Exa Z h0 a1 "java/util/Optional") (FV : Fld Z h0 a1 "java/util/Optional" "value" "Ljava/lang/Object;" .null) (ga : n0 ≤ a1) :
    MetFree l (⟨"java/util/Optional", "<init>", "(Ljava/lang/Object;)V"⟩ : MethodName) (head1 (Jvm.Cond.code (⟨"java/util/Optional", "<init>", "(Ljava/lang/Object;)V"⟩ : MethodName) jdk_32_method_2_code 2 none :: ws) ({ frames := 1, cells := 0, slots := 0, locals := 12 } : Room)) (fun a U => a = #[(.ref a1), (.ref a2)] ∧ Z.Warmed39 U.vm ∧ U.heap = h0) (fun _ _ _ _ _ => True) (fun _ U o U' => ∃ v L, o = .returned v ∧ QrOi Z a1 a2 h0 n0 v U'.heap L ∧ FrameEnd U o U' L ({ frames := 1, cells := 0, slots := 0, locals := 12 } : Room).cells ({ frames := 1, cells := 0, slots := 0, locals := 12 } : Room).slots) := by
  refine MetFree.of_bodySF (plainFor_of_name pn_26) hisR ?_
  intro p e s m args below meth c s₁ Bd hml0 hP hK
  obtain ⟨rfl, hZ, hh⟩ := hP
  have hx := Bd.exec
  have hby := Bd.bytes
  have hml : c.maxLocals = 2 := hml0
  have hown : s.vm.findClass "java/util/Optional" = some m.cls := findClass_of_methodNamed Bd.named
  have hnm := (name_of_methodNamed Bd.named Bd.method).1
  have X0 : Stand p l e ({ frames := 1, cells := 0, slots := 0, locals := 12 } : Room) s m #[(.ref a1), (.ref a2)] below meth c s₁ [] 0 0 := Stand.of_body Bd
  have e0 : s₁.heap = h0 := by rw [← hh, Bd.state]; rfl
  have N0 := Fr.nil n0
  have pre0 : ∀ t, Steps p.tables e below (s₁.setTop (mkF m 0 #[.val (.ref a1), .val (.ref a2)] [])) t → Steps p.tables e below (s₁.setTop (entryFrame m #[(.ref a1), (.ref a2)] 2)) t := fun t k => castTop (ef_rOi m a1 a2) k
  obtain ⟨T1, X1, e1, st1⟩ := initO X0 hx hZ hown (hw _ (own_w 123 rfl)) (hw _ (own_w 21 rfl)) (hw _ (own_w 22 rfl)) e0 (g := (mkF m 1 #[.val (.ref a1), .val (.ref a2)] [(.ref a1)])) rfl (by rw [hml]; rfl) rfl (hb hby d26_1) (by decide) (W := 0) (by show 2 * 0 + _ ≤ _; exact Nat.le_of_eq rfl) (by decide)
  obtain ⟨T2, h2, X2, e2, W2, st2⟩ := putF X1 hx hZ hown (host := "") (Or.inl (hw _ (own_w 56 rfl))) Via.refl e1 FV E (Or.inr ⟨(hw _ (own_w 57 rfl)), rfl, hnm⟩) (hw _ (own_w 114 rfl)) (ty := (.object "java/lang/Object")) (by decide) rfl rfl (g := (mkF m 6 #[.val (.ref a1), .val (.ref a2)] [(.ref a2), (.ref a1)])) rfl rfl (hb hby d26_6)
  have N2 := Fr.snoc X2 N0 ga
  have Z2 : n0 ≤ h2.size := by rw [W2.size]; exact Z0
  have K2 : Keep h0 h2 [a1] := (Keep.refl h0 [a1]).wr W2 (Or.inl (own_w 0 rfl))
  have Fw2 := FV.same W2
  obtain ⟨fs, hr, hrun, hended, hW, hsame⟩ := X2.leave (v := none) (fun _ => rfl) (BodyLoose.notSynchronized Bd)
  refine ⟨_, _, pre0 _ ?_, hrun, hended, _, _, rfl, ?_, ⟨_, rfl⟩, hW, hsame.mono (by decide) (by decide)⟩
  · show Steps p.tables e below (s₁.setTop (mkF m 0 #[.val (.ref a1), .val (.ref a2)] [])) _
    refine XS.aloadN X0.here hx rfl (hb hby d26_0) rfl rfl ?_
    refine st1 _ ?_
    refine XS.aloadN X1.here hx rfl (hb hby d26_4) rfl rfl ?_
    refine XS.aloadN X1.here hx rfl (hb hby d26_5) rfl rfl ?_
    refine st2 _ ?_
    show Steps p.tables e below (T2.setTop (mkF m 9 #[.val (.ref a1), .val (.ref a2)] [])) _
    exact X2.returnOut hx Bd.returns (hb hby d26_9) hr
  · show QrOi Z a1 a2 h0 n0 _ T2.heap _
    have f3 := (E.wr W2)
    rw [e2]
    exact ⟨rfl, N2, K2, f3, Fw2⟩
theorem pd_25 : parseMethodDescriptor "(Ljava/lang/Object;)Ljava/lang/Object;" = some ⟨[(.object "java/lang/Object")], some (.object "java/lang/Object")⟩ := by decide +kernel
theorem pd_26 : parseMethodDescriptor "(Ljava/lang/Object;)V" = some ⟨[(.object "java/lang/Object")], none⟩ := by decide +kernel
theorem d24_0 : decode jdk_32_method_3_code 0 = .ok (.new 2, 3) := by decide +kernel
theorem d24_3 : decode jdk_32_method_3_code 3 = .ok (.dup, 1) := by decide +kernel
theorem d24_4 : decode jdk_32_method_3_code 4 = .ok (.aload_n 0, 1) := by decide +kernel
theorem d24_5 : decode jdk_32_method_3_code 5 = .ok (.invokestatic 17, 3) := by decide +kernel
theorem d24_8 : decode jdk_32_method_3_code 8 = .ok (.invokespecial 23, 3) := by decide +kernel
theorem d24_11 : decode jdk_32_method_3_code 11 = .ok (.areturn, 1) := by decide +kernel
theorem pn_24 : plainName "java/util/Optional" = true := by first | (simp [plainName, overriddenIn]; done) | decide +kernel
theorem ef_rOo (m : MethodId) (a1 : Addr) : entryFrame m #[(.ref a1)] 1 = mkF m 0 #[.val (.ref a1)] [] := by first | (simp [entryFrame, mkF, argsToLocals, Value.category]; done) | rfl
def QrOo (Z : State) (a1 : Addr) (h0 : Heap) (n0 : Nat) (v : Option Value) (h : Heap) (L : List Loc) : Prop := ∃ o : Addr, v = some (.ref o) ∧ Fr n0 L ∧ Keep h0 h [] ∧ Exa Z h o "java/util/Optional" ∧ Fld Z h o "java/util/Optional" "value" "Ljava/lang/Object;" (.ref a1)
set_option maxRecDepth 65536 in
set_option maxHeartbeats 40000000 in
theorem rOo (l : Launch) (Z : State) (a0 : Array Value) (hw : ∀ d ∈ tables_1, d.before a0 Z = true) (ws : List Jvm.Cond) (a1 : Addr) (h0 : Heap) (n0 : Nat) (Z0 : n0 ≤ h0.size) :
    MetFree l (⟨"java/util/Optional", "of", "(Ljava/lang/Object;)Ljava/util/Optional;"⟩ : MethodName) (head1 (Jvm.Cond.code (⟨"java/util/Optional", "of", "(Ljava/lang/Object;)Ljava/util/Optional;"⟩ : MethodName) jdk_32_method_3_code 1 (some (.object "java/util/Optional")) :: ws) ({ frames := 2, cells := 1, slots := 1, locals := 26 } : Room)) (fun a U => a = #[(.ref a1)] ∧ Z.Warmed39 U.vm ∧ U.heap = h0) (fun _ _ _ _ _ => True) (fun _ U o U' => ∃ v L, o = .returned v ∧ QrOo Z a1 h0 n0 v U'.heap L ∧ FrameEnd U o U' L ({ frames := 2, cells := 1, slots := 1, locals := 26 } : Room).cells ({ frames := 2, cells := 1, slots := 1, locals := 26 } : Room).slots) := by
  refine MetFree.of_bodySF (plainFor_of_name pn_24) hisR ?_
  intro p e s m args below meth c s₁ Bd hml0 hP hK
  obtain ⟨rfl, hZ, hh⟩ := hP
  have hx := Bd.exec
  have hby := Bd.bytes
  have hml : c.maxLocals = 1 := hml0
  have hown : s.vm.findClass "java/util/Optional" = some m.cls := findClass_of_methodNamed Bd.named
  have hnm := (name_of_methodNamed Bd.named Bd.method).1
  have X0 : Stand p l e ({ frames := 2, cells := 1, slots := 1, locals := 26 } : Room) s m #[(.ref a1)] below meth c s₁ [] 0 0 := Stand.of_body Bd
  have e0 : s₁.heap = h0 := by rw [← hh, Bd.state]; rfl
  have N0 := Fr.nil n0
  have pre0 : ∀ t, Steps p.tables e below (s₁.setTop (mkF m 0 #[.val (.ref a1)] [])) t → Steps p.tables e below (s₁.setTop (entryFrame m #[(.ref a1)] 1)) t := fun t k => castTop (ef_rOo m a1) k
  obtain ⟨T1, h1, X1, e1, E1, A1, D1, -, st1⟩ := newO X0 hx hZ hown (hw _ (own_w 113 rfl)) (hw _ (own_w 114 rfl)) (hw _ (own_w 48 rfl)) e0 (g := (mkF m 0 #[.val (.ref a1)] [])) rfl (hb hby d24_0) (by decide) (by decide)
  obtain ⟨b1o, g1⟩ : ∃ z, z = h0.size := ⟨_, rfl⟩
  have b1 : n0 ≤ b1o := Nat.le_trans Z0 (Nat.le_of_eq g1.symm)
  have bk1 : h0.size ≤ b1o := Nat.le_trans (Keep.refl h0 []).1 (Nat.le_of_eq g1.symm)
  rw [← g1] at A1 D1 st1
  have Z1 : n0 ≤ h1.size := Nat.le_trans Z0 E1.1
  have K1 : Keep h0 h1 [] := (Keep.refl h0 []).ext E1
  have F1_57 : Fld Z h1 b1o "java/util/Optional" "value" "Ljava/lang/Object;" .null := D1 (Or.inr (hw _ (own_w 57 rfl))) (ty := (.object "java/lang/Object")) (by decide)
  obtain ⟨_, _, ⟨T2, Lq2, kq2, nq2⟩, -, X2, ⟨Lc2, hQ2, lq2, yq2, zq2⟩, st2⟩ := Jvm.LawKit.callS X1 hx (y := (⟨"java/util/Objects", "requireNonNull", "(Ljava/lang/Object;)Ljava/lang/Object;"⟩ : MethodName)) hown (mvT hZ (hw _ (own_w 115 rfl))) (mvT hZ (hw _ (own_w 116 rfl))) (mvT hZ (hw _ (own_w 117 rfl))) (mvT hZ (hw _ (own_w 118 rfl))) (by decide) (backOf (W := 2) (rRN l Z a0 hw [] a1  h1 n0 Z1 ) hZ (hw _ (own_w 118 rfl)) (hw _ (own_w 117 rfl)) (by decide) (by decide)) (g := (mkF m 5 #[.val (.ref a1)] [(.ref a1), (.ref b1o), (.ref b1o)])) rfl (by rw [hml]; rfl) (argsL := [(.ref a1)]) (rest := [(.ref b1o), (.ref b1o)]) (lenOf pd_25 rfl) rfl (by show 2 * 0 + _ ≤ _; exact Nat.le_of_eq rfl) (hb hby d24_5) (fun _ _ => ⟨rfl, e1, (by decide : 1 + 0 ≤ _), (by decide : 1 + 0 ≤ _)⟩)
  dsimp only [Pt.U, Pt.locs, Pt.cells, Pt.slots] at X2 lq2 yq2 zq2 st2 hQ2
  subst lq2 yq2 zq2
  obtain ⟨rfl, N2q, e2⟩ := hQ2
  have N2 := Fr.app N0 N2q
  obtain ⟨_, _, ⟨T3, Lq3, kq3, nq3⟩, -, X3, ⟨Lc3, hQ3, lq3, yq3, zq3⟩, st3⟩ := X2.specialBack hx (y := (⟨"java/util/Optional", "<init>", "(Ljava/lang/Object;)V"⟩ : MethodName)) rfl hown (mvT hZ (hw _ (own_w 119 rfl))) (mvT hZ (hw _ (own_w 120 rfl))) (mvT hZ (hw _ (own_w 122 rfl))) (by decide) (backOf (W := 1) (rOi l Z a0 hw [] b1o a1  h1 n0 Z1 A1 F1_57 b1) hZ (hw _ (own_w 122 rfl)) (hw _ (own_w 48 rfl)) (by decide) (by decide)) (g := (mkF m 8 #[.val (.ref a1)] [(.ref a1), (.ref b1o), (.ref b1o)])) rfl (by rw [hml]; rfl) (Steps.refl _) (a := b1o) (argsL := [(.ref a1)]) (rest := [(.ref b1o)]) (lenOf pd_26 rfl) rfl (by show 2 * 0 + _ ≤ _; exact Nat.le_of_eq rfl) (hb hby d24_8) (fun _ _ => ⟨rfl, e2, (by decide : 1 + 0 ≤ _), (by decide : 1 + 0 ≤ _)⟩)
  dsimp only [Pt.U, Pt.locs, Pt.cells, Pt.slots] at X3 lq3 yq3 zq3 st3 hQ3
  subst lq3 yq3 zq3
  obtain ⟨rfl, N3q, KC3, u3⟩ := hQ3
  have N3 := Fr.app N2 N3q
  have Z3 : n0 ≤ T3.heap.size := Nat.le_trans Z1 KC3.1
  have K3 : Keep h0 T3.heap [] := K1.trans KC3 (allS (Or.inr bk1) all0)
  obtain ⟨uE3, uV3⟩ := u3
  obtain ⟨fs, hr, hrun, hended, hW, hsame⟩ := X3.leave (v := some (.ref b1o)) (fun h => by rw [Bd.returns] at h; cases h) (BodyLoose.notSynchronized Bd)
  refine ⟨_, _, pre0 _ ?_, hrun, hended, _, _, rfl, ?_, ⟨_, rfl⟩, hW, hsame.mono (by decide) (by decide)⟩
  · show Steps p.tables e below (s₁.setTop (mkF m 0 #[.val (.ref a1)] [])) _
    refine st1 _ ?_
    refine XS.dup X1.here hx rfl (hb hby d24_3) rfl rfl ?_
    refine XS.aloadN X1.here hx rfl (hb hby d24_4) rfl rfl ?_
    refine st2 _ ?_
    refine st3.trans ?_
    show Steps p.tables e below (T3.setTop (mkF m 11 #[.val (.ref a1)] [(.ref b1o)])) _
    exact X3.areturnOut hx rfl Bd.returns rfl (hb hby d24_11) hr
  · show QrOo Z a1 h0 n0 _ T3.heap _
    exact ⟨b1o, rfl, N3, K3, uE3, uV3⟩
theorem d9_0 : decode jdk_32_method_1_code 0 = .ok (.getstatic 1, 3) := by decide +kernel
theorem d9_3 : decode jdk_32_method_1_code 3 = .ok (.astore_n 0, 1) := by decide +kernel
theorem d9_4 : decode jdk_32_method_1_code 4 = .ok (.aload_n 0, 1) := by decide +kernel
theorem d9_5 : decode jdk_32_method_1_code 5 = .ok (.areturn, 1) := by decide +kernel
theorem pn_9 : plainName "java/util/Optional" = true := by first | (simp [plainName, overriddenIn]; done) | decide +kernel
theorem ef_rOe (m : MethodId)  : entryFrame m #[] 1 = mkF m 0 #[.unset] [] := by first | (simp [entryFrame, mkF, argsToLocals, Value.category]; done) | rfl
def QrOe (Z : State) (eo : Addr) (h0 : Heap) (n0 : Nat) (v : Option Value) (h : Heap) (L : List Loc) : Prop := v = some (.ref eo) ∧ Fr n0 L ∧ h = h0
set_option maxRecDepth 65536 in
set_option maxHeartbeats 40000000 in
theorem rOe (l : Launch) (Z : State) (a0 : Array Value) (hw : ∀ d ∈ tables_1, d.before a0 Z = true) (ws : List Jvm.Cond) (eo : Addr) (h0 : Heap) (n0 : Nat) (Z0 : n0 ≤ h0.size) (X00 : Old Z n0 h0) (O_E : Sta Z Z.heap "java/util/Optional" "EMPTY" "Ljava/util/Optional;" (.ref eo)) :
    MetFree l (⟨"java/util/Optional", "empty", "()Ljava/util/Optional;"⟩ : MethodName) (head1 (Jvm.Cond.code (⟨"java/util/Optional", "empty", "()Ljava/util/Optional;"⟩ : MethodName) jdk_32_method_1_code 1 (some (.object "java/util/Optional")) :: ws) ({ frames := 0, cells := 0, slots := 0, locals := 0 } : Room)) (fun a U => a = #[] ∧ Z.Warmed39 U.vm ∧ U.heap = h0) (fun _ _ _ _ _ => True) (fun _ U o U' => ∃ v L, o = .returned v ∧ QrOe Z eo h0 n0 v U'.heap L ∧ FrameEnd U o U' L ({ frames := 0, cells := 0, slots := 0, locals := 0 } : Room).cells ({ frames := 0, cells := 0, slots := 0, locals := 0 } : Room).slots) := by
  refine MetFree.of_bodySF (plainFor_of_name pn_9) hisR ?_
  intro p e s m args below meth c s₁ Bd hml0 hP hK
  obtain ⟨rfl, hZ, hh⟩ := hP
  have hx := Bd.exec
  have hby := Bd.bytes
  have hml : c.maxLocals = 1 := hml0
  have hown : s.vm.findClass "java/util/Optional" = some m.cls := findClass_of_methodNamed Bd.named
  have hnm := (name_of_methodNamed Bd.named Bd.method).1
  have X0 : Stand p l e ({ frames := 0, cells := 0, slots := 0, locals := 0 } : Room) s m #[] below meth c s₁ [] 0 0 := Stand.of_body Bd
  have e0 : s₁.heap = h0 := by rw [← hh, Bd.state]; rfl
  have N0 := Fr.nil n0
  have pre0 : ∀ t, Steps p.tables e below (s₁.setTop (mkF m 0 #[.unset] [])) t → Steps p.tables e below (s₁.setTop (entryFrame m #[] 1)) t := fun t k => castTop (ef_rOe m ) k
  obtain ⟨T1, X1, e1, st1⟩ := getS2 X0 hx hZ hown (host := "") (Or.inl (hw _ (own_w 50 rfl))) Via.refl e0 (O_E.ext X00.2) (g := (mkF m 0 #[.unset] [])) rfl (hb hby d9_0)
  obtain ⟨fs, hr, hrun, hended, hW, hsame⟩ := X1.leave (v := some (.ref eo)) (fun h => by rw [Bd.returns] at h; cases h) (BodyLoose.notSynchronized Bd)
  refine ⟨_, _, pre0 _ ?_, hrun, hended, _, _, rfl, ?_, ⟨_, rfl⟩, hW, hsame.mono (by decide) (by decide)⟩
  · show Steps p.tables e below (s₁.setTop (mkF m 0 #[.unset] [])) _
    refine st1 _ ?_
    refine XS.astoreN X1.here hx rfl (hb hby d9_3) rfl rfl (l' := #[.val (.ref eo)]) rfl ?_
    refine XS.aloadN X1.here hx rfl (hb hby d9_4) rfl rfl ?_
    show Steps p.tables e below (T1.setTop (mkF m 5 #[.val (.ref eo)] [(.ref eo)])) _
    exact X1.areturnOut hx rfl Bd.returns rfl (hb hby d9_5) hr
  · show QrOe Z eo h0 n0 _ T1.heap _
    exact ⟨rfl, N0, e1⟩
theorem d10_0 : decode jdk_32_method_6_code 0 = .ok (.aload_n 0, 1) := by decide +kernel
theorem d10_1 : decode jdk_32_method_6_code 1 = .ok (.getfield 13, 3) := by decide +kernel
theorem d10_4 : decode jdk_32_method_6_code 4 = .ok (.ifnull 7, 3) := by decide +kernel
theorem d10_11 : decode jdk_32_method_6_code 11 = .ok (.iconst 0, 1) := by decide +kernel
theorem d10_12 : decode jdk_32_method_6_code 12 = .ok (.ireturn, 1) := by decide +kernel
theorem pn_10 : plainName "java/util/Optional" = true := by first | (simp [plainName, overriddenIn]; done) | decide +kernel
theorem ef_rOp0 (m : MethodId) (a1 : Addr) : entryFrame m #[(.ref a1)] 1 = mkF m 0 #[.val (.ref a1)] [] := by first | (simp [entryFrame, mkF, argsToLocals, Value.category]; done) | rfl
def QrOp0 (Z : State) (a1 : Addr) (h0 : Heap) (n0 : Nat) (v : Option Value) (h : Heap) (L : List Loc) : Prop := ∃ z : Int32, z = ((0 : Int32)) ∧ v = some (.int z) ∧ Fr n0 L ∧ h = h0
set_option maxRecDepth 65536 in
set_option maxHeartbeats 40000000 in
theorem rOp0 (l : Launch) (Z : State) (a0 : Array Value) (hw : ∀ d ∈ tables_1, d.before a0 Z = true) (ws : List Jvm.Cond) (a1 : Addr) (h0 : Heap) (n0 : Nat) (Z0 : n0 ≤ h0.size) (FV : Fld Z h0 a1 "java/util/Optional" "value" "Ljava/lang/Object;" .null) :
    MetFree l (⟨"java/util/Optional", "isPresent", "()Z"⟩ : MethodName) (head1 (Jvm.Cond.code (⟨"java/util/Optional", "isPresent", "()Z"⟩ : MethodName) jdk_32_method_6_code 1 (some .boolean) :: ws) ({ frames := 0, cells := 0, slots := 0, locals := 0 } : Room)) (fun a U => a = #[(.ref a1)] ∧ Z.Warmed39 U.vm ∧ U.heap = h0) (fun _ _ _ _ _ => True) (fun _ U o U' => ∃ v L, o = .returned v ∧ QrOp0 Z a1 h0 n0 v U'.heap L ∧ FrameEnd U o U' L ({ frames := 0, cells := 0, slots := 0, locals := 0 } : Room).cells ({ frames := 0, cells := 0, slots := 0, locals := 0 } : Room).slots) := by
  refine MetFree.of_bodySF (plainFor_of_name pn_10) hisR ?_
  intro p e s m args below meth c s₁ Bd hml0 hP hK
  obtain ⟨rfl, hZ, hh⟩ := hP
  have hx := Bd.exec
  have hby := Bd.bytes
  have hml : c.maxLocals = 1 := hml0
  have hown : s.vm.findClass "java/util/Optional" = some m.cls := findClass_of_methodNamed Bd.named
  have hnm := (name_of_methodNamed Bd.named Bd.method).1
  have X0 : Stand p l e ({ frames := 0, cells := 0, slots := 0, locals := 0 } : Room) s m #[(.ref a1)] below meth c s₁ [] 0 0 := Stand.of_body Bd
  have e0 : s₁.heap = h0 := by rw [← hh, Bd.state]; rfl
  have N0 := Fr.nil n0
  have pre0 : ∀ t, Steps p.tables e below (s₁.setTop (mkF m 0 #[.val (.ref a1)] [])) t → Steps p.tables e below (s₁.setTop (entryFrame m #[(.ref a1)] 1)) t := fun t k => castTop (ef_rOp0 m a1) k
  obtain ⟨T1, X1, e1, st1⟩ := getF X0 hx hZ hown (host := "") (Or.inl (hw _ (own_w 56 rfl))) Via.refl e0 FV (g := (mkF m 1 #[.val (.ref a1)] [(.ref a1)])) rfl rfl (hb hby d10_1)
  obtain ⟨fs, hr, hrun, hended, hW, hsame⟩ := X1.leave (v := some (.int (0 : Int32))) (fun h => by rw [Bd.returns] at h; cases h) (BodyLoose.notSynchronized Bd)
  refine ⟨_, _, pre0 _ ?_, hrun, hended, _, _, rfl, ?_, ⟨_, rfl⟩, hW, hsame.mono (by decide) (by decide)⟩
  · show Steps p.tables e below (s₁.setTop (mkF m 0 #[.val (.ref a1)] [])) _
    refine XS.aloadN X0.here hx rfl (hb hby d10_0) rfl rfl ?_
    refine st1 _ ?_
    refine XS.ifnullYes X1.here hx rfl (pc0 := 4) (pc' := 11) rfl (hb hby d10_4) rfl (by decide) (by decide) ?_
    refine XS.iconst X1.here hx rfl (hb hby d10_11) ?_
    show Steps p.tables e below (T1.setTop (mkF m 12 #[.val (.ref a1)] [(.int (0 : Int32))])) _
    exact retN X1 hx (t := .boolean) Bd.returns (by simp) (hb hby d10_12) hr
  · show QrOp0 Z a1 h0 n0 _ T1.heap _
    exact ⟨_, rfl, rfl, N0, e1⟩
theorem d10_7 : decode jdk_32_method_6_code 7 = .ok (.iconst 1, 1) := by decide +kernel
theorem d10_8 : decode jdk_32_method_6_code 8 = .ok (.goto 4, 3) := by decide +kernel
theorem ef_rOp1 (m : MethodId) (a1 : Addr) : entryFrame m #[(.ref a1)] 1 = mkF m 0 #[.val (.ref a1)] [] := by first | (simp [entryFrame, mkF, argsToLocals, Value.category]; done) | rfl
def QrOp1 (Z : State) (a1 : Addr) (x : Addr) (h0 : Heap) (n0 : Nat) (v : Option Value) (h : Heap) (L : List Loc) : Prop := ∃ z : Int32, z = ((1 : Int32)) ∧ v = some (.int z) ∧ Fr n0 L ∧ h = h0
set_option maxRecDepth 65536 in
set_option maxHeartbeats 40000000 in
theorem rOp1 (l : Launch) (Z : State) (a0 : Array Value) (hw : ∀ d ∈ tables_1, d.before a0 Z = true) (ws : List Jvm.Cond) (a1 : Addr) (x : Addr) (h0 : Heap) (n0 : Nat) (Z0 : n0 ≤ h0.size) (FV : Fld Z h0 a1 "java/util/Optional" "value" "Ljava/lang/Object;" (.ref x)) :
    MetFree l (⟨"java/util/Optional", "isPresent", "()Z"⟩ : MethodName) (head1 (Jvm.Cond.code (⟨"java/util/Optional", "isPresent", "()Z"⟩ : MethodName) jdk_32_method_6_code 1 (some .boolean) :: ws) ({ frames := 0, cells := 0, slots := 0, locals := 0 } : Room)) (fun a U => a = #[(.ref a1)] ∧ Z.Warmed39 U.vm ∧ U.heap = h0) (fun _ _ _ _ _ => True) (fun _ U o U' => ∃ v L, o = .returned v ∧ QrOp1 Z a1 x h0 n0 v U'.heap L ∧ FrameEnd U o U' L ({ frames := 0, cells := 0, slots := 0, locals := 0 } : Room).cells ({ frames := 0, cells := 0, slots := 0, locals := 0 } : Room).slots) := by
  refine MetFree.of_bodySF (plainFor_of_name pn_10) hisR ?_
  intro p e s m args below meth c s₁ Bd hml0 hP hK
  obtain ⟨rfl, hZ, hh⟩ := hP
  have hx := Bd.exec
  have hby := Bd.bytes
  have hml : c.maxLocals = 1 := hml0
  have hown : s.vm.findClass "java/util/Optional" = some m.cls := findClass_of_methodNamed Bd.named
  have hnm := (name_of_methodNamed Bd.named Bd.method).1
  have X0 : Stand p l e ({ frames := 0, cells := 0, slots := 0, locals := 0 } : Room) s m #[(.ref a1)] below meth c s₁ [] 0 0 := Stand.of_body Bd
  have e0 : s₁.heap = h0 := by rw [← hh, Bd.state]; rfl
  have N0 := Fr.nil n0
  have pre0 : ∀ t, Steps p.tables e below (s₁.setTop (mkF m 0 #[.val (.ref a1)] [])) t → Steps p.tables e below (s₁.setTop (entryFrame m #[(.ref a1)] 1)) t := fun t k => castTop (ef_rOp1 m a1) k
  obtain ⟨T1, X1, e1, st1⟩ := getF X0 hx hZ hown (host := "") (Or.inl (hw _ (own_w 56 rfl))) Via.refl e0 FV (g := (mkF m 1 #[.val (.ref a1)] [(.ref a1)])) rfl rfl (hb hby d10_1)
  obtain ⟨fs, hr, hrun, hended, hW, hsame⟩ := X1.leave (v := some (.int (1 : Int32))) (fun h => by rw [Bd.returns] at h; cases h) (BodyLoose.notSynchronized Bd)
  refine ⟨_, _, pre0 _ ?_, hrun, hended, _, _, rfl, ?_, ⟨_, rfl⟩, hW, hsame.mono (by decide) (by decide)⟩
  · show Steps p.tables e below (s₁.setTop (mkF m 0 #[.val (.ref a1)] [])) _
    refine XS.aloadN X0.here hx rfl (hb hby d10_0) rfl rfl ?_
    refine st1 _ ?_
    refine XS.ifnullNo X1.here hx rfl (hb hby d10_4) rfl ?_
    refine XS.iconst X1.here hx rfl (hb hby d10_7) ?_
    refine XS.goto X1.here hx rfl (pc0 := 8) (pc' := 12) rfl (hb hby d10_8) (by decide) (by decide) ?_
    show Steps p.tables e below (T1.setTop (mkF m 12 #[.val (.ref a1)] [(.int (1 : Int32))])) _
    exact retN X1 hx (t := .boolean) Bd.returns (by simp) (hb hby d10_12) hr
  · show QrOp1 Z a1 x h0 n0 _ T1.heap _
    exact ⟨_, rfl, rfl, N0, e1⟩
theorem d27_0 : decode jdk_32_method_5_code 0 = .ok (.aload_n 0, 1) := by decide +kernel
theorem d27_1 : decode jdk_32_method_5_code 1 = .ok (.getfield 13, 3) := by decide +kernel
theorem d27_4 : decode jdk_32_method_5_code 4 = .ok (.ifnonnull 13, 3) := by decide +kernel
theorem d27_17 : decode jdk_32_method_5_code 17 = .ok (.aload_n 0, 1) := by decide +kernel
theorem d27_18 : decode jdk_32_method_5_code 18 = .ok (.getfield 13, 3) := by decide +kernel
theorem d27_21 : decode jdk_32_method_5_code 21 = .ok (.areturn, 1) := by decide +kernel
theorem pn_27 : plainName "java/util/Optional" = true := by first | (simp [plainName, overriddenIn]; done) | decide +kernel
theorem ef_rOg (m : MethodId) (a1 : Addr) : entryFrame m #[(.ref a1)] 1 = mkF m 0 #[.val (.ref a1)] [] := by first | (simp [entryFrame, mkF, argsToLocals, Value.category]; done) | rfl
def QrOg (Z : State) (a1 : Addr) (x : Addr) (h0 : Heap) (n0 : Nat) (v : Option Value) (h : Heap) (L : List Loc) : Prop := v = some (.ref x) ∧ Fr n0 L ∧ h = h0
set_option maxRecDepth 65536 in
set_option maxHeartbeats 40000000 in
theorem rOg (l : Launch) (Z : State) (a0 : Array Value) (hw : ∀ d ∈ tables_1, d.before a0 Z = true) (ws : List Jvm.Cond) (a1 : Addr) (x : Addr) (h0 : Heap) (n0 : Nat) (Z0 : n0 ≤ h0.size) (FV : Fld Z h0 a1 "java/util/Optional" "value" "Ljava/lang/Object;" (.ref x)) :
    MetFree l (⟨"java/util/Optional", "get", "()Ljava/lang/Object;"⟩ : MethodName) (head1 (Jvm.Cond.code (⟨"java/util/Optional", "get", "()Ljava/lang/Object;"⟩ : MethodName) jdk_32_method_5_code 1 (some (.object "java/lang/Object")) :: ws) ({ frames := 0, cells := 0, slots := 0, locals := 0 } : Room)) (fun a U => a = #[(.ref a1)] ∧ Z.Warmed39 U.vm ∧ U.heap = h0) (fun _ _ _ _ _ => True) (fun _ U o U' => ∃ v L, o = .returned v ∧ QrOg Z a1 x h0 n0 v U'.heap L ∧ FrameEnd U o U' L ({ frames := 0, cells := 0, slots := 0, locals := 0 } : Room).cells ({ frames := 0, cells := 0, slots := 0, locals := 0 } : Room).slots) := by
  refine MetFree.of_bodySF (plainFor_of_name pn_27) hisR ?_
  intro p e s m args below meth c s₁ Bd hml0 hP hK
  obtain ⟨rfl, hZ, hh⟩ := hP
  have hx := Bd.exec
  have hby := Bd.bytes
  have hml : c.maxLocals = 1 := hml0
  have hown : s.vm.findClass "java/util/Optional" = some m.cls := findClass_of_methodNamed Bd.named
  have hnm := (name_of_methodNamed Bd.named Bd.method).1
  have X0 : Stand p l e ({ frames := 0, cells := 0, slots := 0, locals := 0 } : Room) s m #[(.ref a1)] below meth c s₁ [] 0 0 := Stand.of_body Bd
  have e0 : s₁.heap = h0 := by rw [← hh, Bd.state]; rfl
  have N0 := Fr.nil n0
  have pre0 : ∀ t, Steps p.tables e below (s₁.setTop (mkF m 0 #[.val (.ref a1)] [])) t → Steps p.tables e below (s₁.setTop (entryFrame m #[(.ref a1)] 1)) t := fun t k => castTop (ef_rOg m a1) k
  obtain ⟨T1, X1, e1, st1⟩ := getF X0 hx hZ hown (host := "") (Or.inl (hw _ (own_w 56 rfl))) Via.refl e0 FV (g := (mkF m 1 #[.val (.ref a1)] [(.ref a1)])) rfl rfl (hb hby d27_1)
  obtain ⟨T2, X2, e2, st2⟩ := getF X1 hx hZ hown (host := "") (Or.inl (hw _ (own_w 56 rfl))) Via.refl e1 FV (g := (mkF m 18 #[.val (.ref a1)] [(.ref a1)])) rfl rfl (hb hby d27_18)
  obtain ⟨fs, hr, hrun, hended, hW, hsame⟩ := X2.leave (v := some (.ref x)) (fun h => by rw [Bd.returns] at h; cases h) (BodyLoose.notSynchronized Bd)
  refine ⟨_, _, pre0 _ ?_, hrun, hended, _, _, rfl, ?_, ⟨_, rfl⟩, hW, hsame.mono (by decide) (by decide)⟩
  · show Steps p.tables e below (s₁.setTop (mkF m 0 #[.val (.ref a1)] [])) _
    refine XS.aloadN X0.here hx rfl (hb hby d27_0) rfl rfl ?_
    refine st1 _ ?_
    refine XS.ifnonnullYes X1.here hx rfl (pc0 := 4) (pc' := 17) rfl (hb hby d27_4) rfl (by decide) (by decide) ?_
    refine XS.aloadN X1.here hx rfl (hb hby d27_17) rfl rfl ?_
    refine st2 _ ?_
    show Steps p.tables e below (T2.setTop (mkF m 21 #[.val (.ref a1)] [(.ref x)])) _
    exact X2.areturnOut hx rfl Bd.returns rfl (hb hby d27_21) hr
  · show QrOg Z a1 x h0 n0 _ T2.heap _
    exact ⟨rfl, N0, e2⟩
theorem own_backS {p : Program} {l : Launch} {e : Env} {R : Room} {s : State} {args : Array Value} {below : List Frame} {Z : State} {a0 : Array Value} {h : Heap} {y : MethodName} {bytes : ByteArray} {maxL : Nat} {ret : Option FieldType} {rm : Room} {len W : Nat} {as' : Array Value} {Q : Option Value → Heap → List Loc → Prop}
    (hM : MetFree l y (head1 [Cond.code y bytes maxL ret] rm) (fun a U => a = as' ∧ Z.Warmed39 U.vm ∧ U.heap = h ∧ U.vm.interned = Z.vm.interned) (fun _ _ _ _ _ => True) (fun _ U o U' => ∃ v L, o = .returned v ∧ Q v U'.heap L ∧ ReturnedEndW U o U' L rm.cells rm.slots))
    (hZ : Z.Warmed39 s.vm) (hI : s.vm.interned = Z.vm.interned) (wc : (Cond.code y bytes maxL ret).before a0 Z = true) (wz : (Cond.initialized y.cls).before a0 Z = true) (hf : rm.frames + 1 ≤ R.frames) (hl : W + (maxL + 11) + rm.locals ≤ R.locals) :
    BackS l R p e below s args y len W (fun A a => a = as' ∧ A.U.heap = h ∧ A.cells + rm.cells ≤ R.cells ∧ A.slots + rm.slots ≤ R.slots)
      (fun A _ v B => ∃ L, Q v B.U.heap L ∧ B.locs = A.locs ++ L ∧ B.cells = A.cells + rm.cells ∧ B.slots = A.slots + rm.slots) :=
  BackS.of_freeW (bytes := bytes) (maxL := maxL) (ret := ret) (E := fun _ _ o t L k n => k = rm.cells ∧ n = rm.slots ∧ ∃ v, o = .returned v ∧ Q v t.heap L) hM hf hl
    (fun m meth c A a Y hp => have hU : Z.Warmed39 A.U.vm := wtrans hZ Y.warmed
      ⟨by show (Cond.and _ .tt).before a A.U = true; rw [Cond.before_and, mv hU wc]; rfl, mv hU wc, mv hU wz, hp.2.2.1, hp.2.2.2⟩)
    (fun m meth c A a g mk Y hp => ⟨hp.1, wtrans hZ Y.warmed, hp.2.1, (State.WarmedH.interned_eq Y.warmed).trans hI⟩) (fun _ _ _ _ _ _ _ _ _ => trivial)
    (fun _ _ _ _ ⟨v, L, hps, h2, h3⟩ => ⟨L, _, _, h3, rfl, rfl, v, hps, h2⟩)
    (fun m meth c A a g mk v t L k n Y hp _ _ ⟨e1, e2, v', e3, e4⟩ => by cases e3; subst e1 e2; exact ⟨L, e4, rfl, rfl, rfl⟩)
theorem d4_8 : decode jdk_42_method_149_code 8 = .ok (.aload_n 0, 1) := by decide +kernel
theorem d4_9 : decode jdk_42_method_149_code 9 = .ok (.ldc 7, 2) := by decide +kernel
theorem d4_11 : decode jdk_42_method_149_code 11 = .ok (.getfield 9, 3) := by decide +kernel
theorem d4_14 : decode jdk_42_method_149_code 14 = .ok (.putfield 9, 3) := by decide +kernel
theorem d4_17 : decode jdk_42_method_149_code 17 = .ok (.aload_n 0, 1) := by decide +kernel
theorem d4_18 : decode jdk_42_method_149_code 18 = .ok (.ldc 7, 2) := by decide +kernel
theorem d4_20 : decode jdk_42_method_149_code 20 = .ok (.getfield 15, 3) := by decide +kernel
theorem d4_23 : decode jdk_42_method_149_code 23 = .ok (.putfield 15, 3) := by decide +kernel
theorem d4_26 : decode jdk_42_method_149_code 26 = .ok (.return_, 1) := by decide +kernel
theorem ef_rW4 (m : MethodId) (a1 : Addr) (a2 : Addr) : entryFrame m #[(.ref a1), (.ref a2), (.int (0 : Int32)), (.int (0 : Int32)), .null] 6 = mkF m 0 #[.val (.ref a1), .val (.ref a2), .val (.int (0 : Int32)), .val (.int (0 : Int32)), .val .null, .unset] [] := by first | (simp [entryFrame, mkF, argsToLocals, Value.category]; done) | rfl
def QrW4 (Z : State) (a1 : Addr) (a2 : Addr) (h0 : Heap) (n0 : Nat) (v : Option Value) (h : Heap) (L : List Loc) : Prop := v = none ∧ Fr n0 L ∧ Keep h0 h [a1] ∧ own_S Z h a1 []
set_option maxRecDepth 65536 in
set_option maxHeartbeats 40000000 in
theorem rW4 (l : Launch) (Z : State) (a0 : Array Value) (hw : ∀ d ∈ tables_1, d.before a0 Z = true) (ws : List Jvm.Cond) (a1 : Addr) (a2 : Addr) (h0 : Heap) (n0 : Nat) (Z0 : n0 ≤ h0.size) (E : Exa Z h0 a1 "java/lang/String") (FV : Fld Z h0 a1 "java/lang/String" "value" "[B" .null) (FC : Fld Z h0 a1 "java/lang/String" "coder" "B" (.int (0 : Int32))) (ga : n0 ≤ a1) (X00 : Old Z n0 h0) (hheld : Jvm.Lit.constHeld Z "java/lang/String" 7) (hcw : Jvm.Lit.compactW.before a0 Z = true) :
    MetFree l (⟨"java/lang/String", "<init>", "([CIILjava/lang/Void;)V"⟩ : MethodName) (head1 (Jvm.Cond.code (⟨"java/lang/String", "<init>", "([CIILjava/lang/Void;)V"⟩ : MethodName) jdk_42_method_149_code 6 none :: ws) ({ frames := 1, cells := 2, slots := 4, locals := 12 } : Room)) (fun a U => a = #[(.ref a1), (.ref a2), (.int (0 : Int32)), (.int (0 : Int32)), .null] ∧ Z.Warmed39 U.vm ∧ U.heap = h0 ∧ U.vm.interned = Z.vm.interned) (fun _ _ _ _ _ => True) (fun _ U o U' => ∃ v L, o = .returned v ∧ QrW4 Z a1 a2 h0 n0 v U'.heap L ∧ ReturnedEndW U o U' L ({ frames := 1, cells := 2, slots := 4, locals := 12 } : Room).cells ({ frames := 1, cells := 2, slots := 4, locals := 12 } : Room).slots) := by
  refine MetFree.of_bodySF (plainFor_of_name pn_4) hisR ?_
  intro p e s m args below meth c s₁ Bd hml0 hP hK
  obtain ⟨rfl, hZ, hh, hUZ⟩ := hP
  have hx := Bd.exec
  have hby := Bd.bytes
  have hml : c.maxLocals = 6 := hml0
  have hown : s.vm.findClass "java/lang/String" = some m.cls := findClass_of_methodNamed Bd.named
  have hnm := (name_of_methodNamed Bd.named Bd.method).1
  have X0 : Stand p l e ({ frames := 1, cells := 2, slots := 4, locals := 12 } : Room) s m #[(.ref a1), (.ref a2), (.int (0 : Int32)), (.int (0 : Int32)), .null] below meth c s₁ [] 0 0 := Stand.of_body Bd
  have e0 : s₁.heap = h0 := by rw [← hh, Bd.state]; rfl
  have N0 := Fr.nil n0
  have pre0 : ∀ t, Steps p.tables e below (s₁.setTop (mkF m 0 #[.val (.ref a1), .val (.ref a2), .val (.int (0 : Int32)), .val (.int (0 : Int32)), .val .null, .unset] [])) t → Steps p.tables e below (s₁.setTop (entryFrame m #[(.ref a1), (.ref a2), (.int (0 : Int32)), (.int (0 : Int32)), .null] 6)) t := fun t k => castTop (ef_rW4 m a1 a2) k
  have hS0 : s.Since s.vm s.heap.size := (State.WarmedH.refl s).since _
  obtain ⟨T1, X1, e1, st1⟩ := initO X0 hx hZ hown (hw _ (own_w 20 rfl)) (hw _ (own_w 21 rfl)) (hw _ (own_w 22 rfl)) e0 (g := (mkF m 1 #[.val (.ref a1), .val (.ref a2), .val (.int (0 : Int32)), .val (.int (0 : Int32)), .val .null, .unset] [(.ref a1)])) rfl (by rw [hml]; rfl) rfl (hb hby d4_1) (by decide) (W := 0) (by show 2 * 0 + _ ≤ _; exact Nat.le_of_eq rfl) (by decide)
  have I0 : IB Z s.vm [] := ⟨#[], by simp [hUZ], fun q hq => by simp at hq⟩
  have hkp : ∀ (b : Addr) (cl : Cell), Z.heap[b]? = some cl → s.heap[b]? = some cl := by rw [hh]; exact X00.2.2
  have wS : ∀ a ∈ Bundle.stringAtoms, a.before a0 Z = true := fun d hd => hw d ((by decide +kernel : ∀ d ∈ Bundle.stringAtoms, d ∈ tables_1) d hd)
  obtain ⟨sa2, T2, h2, k12, sb2, sk2, X2, e2, E2, hS2, hk2, hZ2, ho2, SE2, SC2, SV2, SA2, -, -, I2, Li2, st2⟩ := ldcSVL (s := s) (vm0 := s.vm) (Z := Z) (h := h0) X1 hx hZ hown (hw _ (own_w 23 rfl)) wS e1 hS0 (Nat.le_of_eq (congrArg Array.size hh)) (Fr.nil _) hkp I0 (by decide) hheld hcw (vs := []) (z := (0 : Int32)) ⟨by decide +kernel, by decide +kernel⟩ (by decide) (by decide) (g := (mkF m 9 #[.val (.ref a1), .val (.ref a2), .val (.int (0 : Int32)), .val (.int (0 : Int32)), .val .null, .unset] [(.ref a1)])) rfl (hb hby d4_9) (n := 0) (by decide +kernel) (by decide) (by decide) (by decide)
  have Z2 : n0 ≤ h2.size := Nat.le_trans Z0 E2.1
  have K2 : Keep h0 h2 [a1] := (Keep.refl h0 [a1]).ext E2
  have f3 := (FV.ext E2)
  have f4 := (E.ext E2)
  have nes2 : sa2 ≠ a1 := Fld.ne SV2 f3 (fun q => by cases q)
  have neb2 : a1 ≠ sb2 := Exa.neArv f4 SA2 (hw _ (own_w 11 rfl))
  obtain ⟨T5, X5, e5, st5⟩ := getF X2 hx hZ2 ho2 (host := "") (Or.inl (hw _ (own_w 29 rfl))) Via.refl e2 SV2 (g := (mkF m 11 #[.val (.ref a1), .val (.ref a2), .val (.int (0 : Int32)), .val (.int (0 : Int32)), .val .null, .unset] [(.ref sa2), (.ref a1)])) rfl rfl (hb hby d4_11)
  obtain ⟨T6, h6, X6, e6, W6, st6⟩ := putF X5 hx hZ2 ho2 (host := "") (Or.inl (hw _ (own_w 29 rfl))) Via.refl e5 f3 f4 (Or.inr ⟨(hw _ (own_w 25 rfl)), rfl, hnm⟩) (hw _ (own_w 11 rfl)) (ty := (.array .byte)) (by decide) rfl rfl (g := (mkF m 14 #[.val (.ref a1), .val (.ref a2), .val (.int (0 : Int32)), .val (.int (0 : Int32)), .val .null, .unset] [(.ref sb2), (.ref a1)])) rfl rfl (hb hby d4_14)
  have N6 := Fr.snoc X6 N0 ga
  have Z6 : n0 ≤ h6.size := by rw [W6.size]; exact Z2
  have K6 : Keep h0 h6 [a1] := K2.wr W6 (Or.inl (own_w 0 rfl))
  have Fw6 := f3.same W6
  have f7 := (SC2.other W6 (Or.inl nes2))
  obtain ⟨T8, X8, e8, st8⟩ := getF X6 hx hZ2 ho2 (host := "") (Or.inl (hw _ (own_w 30 rfl))) Via.refl e6 f7 (g := (mkF m 20 #[.val (.ref a1), .val (.ref a2), .val (.int (0 : Int32)), .val (.int (0 : Int32)), .val .null, .unset] [(.ref sa2), (.ref a1)])) rfl rfl (hb hby d4_20)
  have f9 := (f4.wr W6)
  have f10 := ((FC.ext E2).other W6 (Or.inr (slot_ne (Or.inr (hw _ (own_w 26 rfl))) (Or.inr (hw _ (own_w 25 rfl))) (by decide) (t := .byte) (t' := (.array .byte)) (by decide) (by decide))))
  obtain ⟨T11, h11, X11, e11, W11, st11⟩ := putFN X8 hx hZ2 ho2 (hw _ (own_w 30 rfl)) Via.refl e8 f10 f9 (Or.inr ⟨(hw _ (own_w 26 rfl)), rfl, hnm⟩) (hw _ (own_w 11 rfl)) (ty := .byte) (v' := (.int (nar .byte (0 : Int32)))) (by decide) rfl (fits_nar_byte _) (g := (mkF m 23 #[.val (.ref a1), .val (.ref a2), .val (.int (0 : Int32)), .val (.int (0 : Int32)), .val .null, .unset] [(.int (0 : Int32)), (.ref a1)])) rfl rfl (hb hby d4_23)
  have N11 := Fr.snoc X11 N6 ga
  have Z11 : n0 ≤ h11.size := by rw [W11.size]; exact Z6
  have K11 : Keep h0 h11 [a1] := K6.wr W11 (Or.inl (own_w 0 rfl))
  have Fw11 := f10.same W11
  obtain ⟨fs, hr, hrun, hended, hwd⟩ := Jvm.Stand.leaveW (s := s) (vm₁ := T2.vm) X11 hS2 (Nat.le_trans (Nat.le_trans (Nat.le_trans hk2 (Nat.le_of_eq W6.size.symm)) (Nat.le_of_eq W11.size.symm)) (Nat.le_of_eq (congrArg Array.size e11).symm)) (v := none) (fun _ => rfl)
  refine ⟨_, _, pre0 _ ?_, hrun, hended, _, _, rfl, ?_, hwd.1, hwd.2.1, hwd.2.2.1, hwd.2.2.2.mono (by decide) (by decide)⟩
  · show Steps p.tables e below (s₁.setTop (mkF m 0 #[.val (.ref a1), .val (.ref a2), .val (.int (0 : Int32)), .val (.int (0 : Int32)), .val .null, .unset] [])) _
    refine XS.aloadN X0.here hx rfl (hb hby d4_0) rfl rfl ?_
    refine st1 _ ?_
    refine XS.iloadN X1.here hx rfl (hb hby d4_4) rfl ?_
    refine XS.ifNo X1.here hx rfl (hb hby d4_5) rfl ((if0 _ _).trans (teq (by decide)).2) ?_
    refine XS.aloadN X1.here hx rfl (hb hby d4_8) rfl rfl ?_
    refine st2 _ ?_
    refine st5 _ ?_
    refine st6 _ ?_
    refine XS.aloadN X6.here hx rfl (hb hby d4_17) rfl rfl ?_
    refine ldcAgain X6 hx hZ2 ho2 (hw _ (own_w 23 rfl)) Li2 (g := (mkF m 18 #[.val (.ref a1), .val (.ref a2), .val (.int (0 : Int32)), .val (.int (0 : Int32)), .val .null, .unset] [(.ref a1)])) rfl (hb hby d4_18) _ ?_
    refine st8 _ ?_
    refine st11 _ ?_
    show Steps p.tables e below (T11.setTop (mkF m 26 #[.val (.ref a1), .val (.ref a2), .val (.int (0 : Int32)), .val (.int (0 : Int32)), .val .null, .unset] [])) _
    exact X11.returnOut hx Bd.returns (hb hby d4_26) hr
  · show QrW4 Z a1 a2 h0 n0 _ T11.heap _
    have f12 := (f9.wr W11)
    have f13 := (Fw6.other W11 (Or.inr (slot_ne (Or.inr (hw _ (own_w 25 rfl))) (Or.inr (hw _ (own_w 26 rfl))) (by decide) (t := (.array .byte)) (t' := .byte) (by decide) (by decide))))
    have f14 := ((SA2.other W6 (Ne.symm neb2)).other W11 (Ne.symm neb2))
    have fc := Fw11
    rw [own_nb0] at fc
    have os : own_S Z h11 a1 [] := ⟨sb2, _, f12, f13, Or.inl ⟨fc, f14, fun c hc => by cases hc⟩⟩
    rw [e11]
    exact ⟨rfl, N11, K11, os⟩
theorem ef_rW1 (m : MethodId) (a1 : Addr) (a2 : Addr) : entryFrame m #[(.ref a1), (.ref a2)] 2 = mkF m 0 #[.val (.ref a1), .val (.ref a2)] [] := by first | (simp [entryFrame, mkF, argsToLocals, Value.category]; done) | rfl
def QrW1 (Z : State) (a1 : Addr) (a2 : Addr) (ka : ClassId) (h0 : Heap) (n0 : Nat) (v : Option Value) (h : Heap) (L : List Loc) : Prop := v = none ∧ Fr n0 L ∧ Keep h0 h [a1] ∧ own_S Z h a1 []
set_option maxRecDepth 65536 in
set_option maxHeartbeats 40000000 in
theorem rW1 (l : Launch) (Z : State) (a0 : Array Value) (hw : ∀ d ∈ tables_1, d.before a0 Z = true) (ws : List Jvm.Cond) (a1 : Addr) (a2 : Addr) (ka : ClassId) (h0 : Heap) (n0 : Nat) (Z0 : n0 ≤ h0.size) (E : Exa Z h0 a1 "java/lang/String") (FV : Fld Z h0 a1 "java/lang/String" "value" "[B" .null) (FC : Fld Z h0 a1 "java/lang/String" "coder" "B" (.int (0 : Int32))) (ga : n0 ≤ a1) (X00 : Old Z n0 h0) (hheld : Jvm.Lit.constHeld Z "java/lang/String" 7) (hcw : Jvm.Lit.compactW.before a0 Z = true) (AC : Arv Z h0 a2 ka .char (0 : Int32) [] (.int (0 : Int32))) :
    MetFree l (⟨"java/lang/String", "<init>", "([C)V"⟩ : MethodName) (head1 (Jvm.Cond.code (⟨"java/lang/String", "<init>", "([C)V"⟩ : MethodName) jdk_42_method_3_code 2 none :: ws) ({ frames := 2, cells := 2, slots := 4, locals := 29 } : Room)) (fun a U => a = #[(.ref a1), (.ref a2)] ∧ Z.Warmed39 U.vm ∧ U.heap = h0 ∧ U.vm.interned = Z.vm.interned) (fun _ _ _ _ _ => True) (fun _ U o U' => ∃ v L, o = .returned v ∧ QrW1 Z a1 a2 ka h0 n0 v U'.heap L ∧ ReturnedEndW U o U' L ({ frames := 2, cells := 2, slots := 4, locals := 29 } : Room).cells ({ frames := 2, cells := 2, slots := 4, locals := 29 } : Room).slots) := by
  refine MetFree.of_bodySF (plainFor_of_name pn_3) hisR ?_
  intro p e s m args below meth c s₁ Bd hml0 hP hK
  obtain ⟨rfl, hZ, hh, hUZ⟩ := hP
  have hx := Bd.exec
  have hby := Bd.bytes
  have hml : c.maxLocals = 2 := hml0
  have hown : s.vm.findClass "java/lang/String" = some m.cls := findClass_of_methodNamed Bd.named
  have hnm := (name_of_methodNamed Bd.named Bd.method).1
  have X0 : Stand p l e ({ frames := 2, cells := 2, slots := 4, locals := 29 } : Room) s m #[(.ref a1), (.ref a2)] below meth c s₁ [] 0 0 := Stand.of_body Bd
  have e0 : s₁.heap = h0 := by rw [← hh, Bd.state]; rfl
  have N0 := Fr.nil n0
  have pre0 : ∀ t, Steps p.tables e below (s₁.setTop (mkF m 0 #[.val (.ref a1), .val (.ref a2)] [])) t → Steps p.tables e below (s₁.setTop (entryFrame m #[(.ref a1), (.ref a2)] 2)) t := fun t k => castTop (ef_rW1 m a1 a2) k
  have hS0 : s.Since s.vm s.heap.size := (State.WarmedH.refl s).since _
  obtain ⟨cl1, Ar1, qk1, Sz1, Nn1, Hh1, Gg1⟩ := id (AC)
  obtain ⟨_, _, ⟨T2, Lq2, kq2, nq2⟩, -, X2, hS2, hgr2, ⟨Lc2, hQ2, lq2, yq2, zq2⟩, st2⟩ := X0.specialBackS hx (y := (⟨"java/lang/String", "<init>", "([CIILjava/lang/Void;)V"⟩ : MethodName)) rfl hown (mvT hZ (hw _ (own_w 16 rfl))) (mvT hZ (hw _ (own_w 17 rfl))) (mvT hZ (hw _ (own_w 19 rfl))) (by decide) (own_backS (W := 0) (rW4 l Z a0 hw [] a1 a2  h0 n0 Z0 E FV FC ga X00 hheld hcw) hZ hUZ (hw _ (own_w 19 rfl)) (hw _ (own_w 12 rfl)) (by decide) (by decide)) (g := (mkF m 6 #[.val (.ref a1), .val (.ref a2)] [.null, (.int (0 : Int32)), (.int (0 : Int32)), (.ref a2), (.ref a1)])) rfl (by rw [hml]; rfl) (Steps.refl _) (a := a1) (argsL := [(.ref a2), (.int (0 : Int32)), (.int (0 : Int32)), .null]) (rest := []) (lenOf pd_14 rfl) rfl (by show 2 * 0 + _ ≤ _; exact Nat.le_of_eq rfl) (hb hby d3_6) (fun _ _ => ⟨rfl, e0, (by decide : 0 + 2 ≤ _), (by decide : 0 + 4 ≤ _)⟩)
  dsimp only [Pt.U, Pt.locs, Pt.cells, Pt.slots] at X2 lq2 yq2 zq2 st2 hQ2 hS2
  subst lq2 yq2 zq2
  have hZ2 : Z.Warmed39 (s.setVm T2.vm).vm := State.Warmed39.trans (t := s) hZ hS2.1
  have ho2 : (s.setVm T2.vm).vm.findClass "java/lang/String" = some m.cls := by rw [show (s.setVm T2.vm).vm = T2.vm from rfl, hS2.1.alike.findClass]; exact hown
  obtain ⟨rfl, N2q, KC2, TS2⟩ := hQ2
  have N2 := Fr.app N0 N2q
  have Z2 : n0 ≤ T2.heap.size := Nat.le_trans Z0 KC2.1
  have K2 : Keep h0 T2.heap [a1] := (Keep.refl h0 [a1]).trans KC2 (allS (Or.inl (own_w 0 rfl)) all0)
  obtain ⟨fs, hr, hrun, hended, hwd⟩ := Jvm.Stand.leaveW (s := s) (vm₁ := T2.vm) X2 hS2 (Nat.le_trans (Nat.le_refl _) (Nat.le_of_eq (congrArg Array.size rfl).symm)) (v := none) (fun _ => rfl)
  refine ⟨_, _, pre0 _ ?_, hrun, hended, _, _, rfl, ?_, hwd.1, hwd.2.1, hwd.2.2.1, hwd.2.2.2.mono (by decide) (by decide)⟩
  · show Steps p.tables e below (s₁.setTop (mkF m 0 #[.val (.ref a1), .val (.ref a2)] [])) _
    refine XS.aloadN X0.here hx rfl (hb hby d3_0) rfl rfl ?_
    refine XS.aloadN X0.here hx rfl (hb hby d3_1) rfl rfl ?_
    refine XS.iconst X0.here hx rfl (hb hby d3_2) ?_
    refine XS.aloadN X0.here hx rfl (hb hby d3_3) rfl rfl ?_
    refine X0.arraylength hx (by rw [e0]; exact Ar1.1) (State.isArrayOf_alike hZ.alike Ar1.2.1) (g := (mkF m 4 #[.val (.ref a1), .val (.ref a2)] [(.ref a2), (.int (0 : Int32)), (.ref a2), (.ref a1)])) rfl rfl (hb hby d3_4) _ ?_
    rw [len_of Sz1 Nn1]
    show Steps p.tables e below (s₁.setTop (mkF m 5 #[.val (.ref a1), .val (.ref a2)] [(.int (0 : Int32)), (.int (0 : Int32)), (.ref a2), (.ref a1)])) _
    refine XS.aconstNull X0.here hx rfl (hb hby d3_5) ?_
    refine st2.trans ?_
    show Steps p.tables e below (T2.setTop (mkF m 9 #[.val (.ref a1), .val (.ref a2)] [])) _
    exact X2.returnOut hx Bd.returns (hb hby d3_9) hr
  · show QrW1 Z a1 a2 ka h0 n0 _ T2.heap _
    exact ⟨rfl, N2, K2, TS2⟩
theorem own_bef0 {P : Nat → Prop} : ∀ k, k < 0 → P k := fun k hk => absurd hk (Nat.not_lt_zero k)
theorem own_befS {P : Nat → Prop} {j : Nat} (h : ∀ k, k < j → P k) (q : P j) : ∀ k, k < j + 1 → P k := fun k hk => by
  by_cases e : k = j
  · subst e; exact q
  · exact h k (by omega)
theorem own_stop {cs : List Int32} {j : Nat} (h : j = cs.length ∨ (j < cs.length ∧ cs.getD j 0 = 35)) : j = cs.length ∨ (j < cs.length ∧ ¬ (cs.getD j 0 = 32 ∨ cs.getD j 0 = 9)) := by
  rcases h with h | ⟨a, b⟩
  · exact Or.inl h
  · exact Or.inr ⟨a, fun q => by rcases q with q | q <;> rw [b] at q <;> exact absurd q (by decide)⟩
theorem own_n5 (x : Int32) : ((x &&& (2147483647 : Int32)) % (5 : Int32)) = (0 : Int32) ∨ ((x &&& (2147483647 : Int32)) % (5 : Int32)) = (1 : Int32) ∨ ((x &&& (2147483647 : Int32)) % (5 : Int32)) = (2 : Int32) ∨ ((x &&& (2147483647 : Int32)) % (5 : Int32)) = (3 : Int32) ∨ ((x &&& (2147483647 : Int32)) % (5 : Int32)) = (4 : Int32) := by
  have h := c_and x 2147483647 (by decide)
  have r := (c_irem (x &&& (2147483647 : Int32)) (5 : Int32) 5 rfl).1 h.1
  simp only [← Int32.toInt_inj, r, show (0 : Int32).toInt = 0 from rfl, show (1 : Int32).toInt = 1 from rfl, show (2 : Int32).toInt = 2 from rfl, show (3 : Int32).toInt = 3 from rfl, show (4 : Int32).toInt = 4 from rfl]
  omega

theorem d1_0 : decode method_2_code 0 = .ok (.iload_n 0, 1) := by decide +kernel
theorem d1_1 : decode method_2_code 1 = .ok (.iconst 3, 1) := by decide +kernel
theorem d1_2 : decode method_2_code 2 = .ok (.iand, 1) := by decide +kernel
theorem d1_3 : decode method_2_code 3 = .ok (.istore_n 1, 1) := by decide +kernel
theorem d1_4 : decode method_2_code 4 = .ok (.iload_n 1, 1) := by decide +kernel
theorem d1_5 : decode method_2_code 5 = .ok (.ifCond .ne 6, 3) := by decide +kernel
theorem d1_8 : decode method_2_code 8 = .ok (.bipush 32, 2) := by decide +kernel
theorem d1_10 : decode method_2_code 10 = .ok (.ireturn, 1) := by decide +kernel
theorem d1_11 : decode method_2_code 11 = .ok (.iload_n 1, 1) := by decide +kernel
theorem d1_12 : decode method_2_code 12 = .ok (.iconst 1, 1) := by decide +kernel
theorem d1_13 : decode method_2_code 13 = .ok (.if_icmp .ne 6, 3) := by decide +kernel
theorem d1_16 : decode method_2_code 16 = .ok (.bipush 9, 2) := by decide +kernel
theorem d1_18 : decode method_2_code 18 = .ok (.ireturn, 1) := by decide +kernel
theorem d1_19 : decode method_2_code 19 = .ok (.iload_n 1, 1) := by decide +kernel
theorem d1_20 : decode method_2_code 20 = .ok (.iconst 2, 1) := by decide +kernel
theorem d1_21 : decode method_2_code 21 = .ok (.if_icmp .ne 6, 3) := by decide +kernel
theorem d1_24 : decode method_2_code 24 = .ok (.bipush 35, 2) := by decide +kernel
theorem d1_26 : decode method_2_code 26 = .ok (.ireturn, 1) := by decide +kernel
theorem d1_27 : decode method_2_code 27 = .ok (.iload_n 0, 1) := by decide +kernel
theorem d1_28 : decode method_2_code 28 = .ok (.iconst 2, 1) := by decide +kernel
theorem d1_29 : decode method_2_code 29 = .ok (.iushr, 1) := by decide +kernel
theorem d1_30 : decode method_2_code 30 = .ok (.ldc 7, 2) := by decide +kernel
theorem d1_32 : decode method_2_code 32 = .ok (.iand, 1) := by decide +kernel
theorem d1_33 : decode method_2_code 33 = .ok (.i2c, 1) := by decide +kernel
theorem d1_34 : decode method_2_code 34 = .ok (.ireturn, 1) := by decide +kernel
theorem pn_1 : plainName "com/example/wrasse/wrasse/io/LineFilesContentPinLaw" = true := by first | (simp [plainName, overriddenIn]; done) | decide +kernel
theorem ef_rPk (m : MethodId) (p1 : Int32) : entryFrame m #[(.int p1)] 2 = mkF m 0 #[.val (.int p1), .unset] [] := by first | (simp [entryFrame, mkF, argsToLocals, Value.category]; done) | rfl
def QrPk (Z : State) (p1 : Int32) (h0 : Heap) (n0 : Nat) (v : Option Value) (h : Heap) (L : List Loc) : Prop := ∃ z : Int32, own_ch z ∧ v = some (.int z) ∧ Fr n0 L ∧ h = h0
set_option maxRecDepth 65536 in
set_option maxHeartbeats 40000000 in
theorem rPk (l : Launch) (Z : State) (a0 : Array Value) (hw : ∀ d ∈ tables_1, d.before a0 Z = true) (ws : List Jvm.Cond) (p1 : Int32) (h0 : Heap) (n0 : Nat) (Z0 : n0 ≤ h0.size) :
    MetFree l (⟨"com/example/wrasse/wrasse/io/LineFilesContentPinLaw", "pick", "(I)C"⟩ : MethodName) (head1 (Jvm.Cond.code (⟨"com/example/wrasse/wrasse/io/LineFilesContentPinLaw", "pick", "(I)C"⟩ : MethodName) method_2_code 2 (some .char) :: ws) ({ frames := 0, cells := 0, slots := 0, locals := 0 } : Room)) (fun a U => a = #[(.int p1)] ∧ Z.Warmed39 U.vm ∧ U.heap = h0) (fun _ _ _ _ _ => True) (fun _ U o U' => ∃ v L, o = .returned v ∧ QrPk Z p1 h0 n0 v U'.heap L ∧ FrameEnd U o U' L ({ frames := 0, cells := 0, slots := 0, locals := 0 } : Room).cells ({ frames := 0, cells := 0, slots := 0, locals := 0 } : Room).slots) := by
  refine MetFree.of_bodySF (plainFor_of_name pn_1) hisR ?_
  intro p e s m args below meth c s₁ Bd hml0 hP hK
  obtain ⟨rfl, hZ, hh⟩ := hP
  have hx := Bd.exec
  have hby := Bd.bytes
  have hml : c.maxLocals = 2 := hml0
  have hown : s.vm.findClass "com/example/wrasse/wrasse/io/LineFilesContentPinLaw" = some m.cls := findClass_of_methodNamed Bd.named
  have hnm := (name_of_methodNamed Bd.named Bd.method).1
  have X0 : Stand p l e ({ frames := 0, cells := 0, slots := 0, locals := 0 } : Room) s m #[(.int p1)] below meth c s₁ [] 0 0 := Stand.of_body Bd
  have e0 : s₁.heap = h0 := by rw [← hh, Bd.state]; rfl
  have N0 := Fr.nil n0
  have pre0 : ∀ t, Steps p.tables e below (s₁.setTop (mkF m 0 #[.val (.int p1), .unset] [])) t → Steps p.tables e below (s₁.setTop (entryFrame m #[(.int p1)] 2)) t := fun t k => castTop (ef_rPk m p1) k
  by_cases hc5 : (p1 &&& (3 : Int32)) = (0 : Int32)
  · obtain ⟨fs, hr, hrun, hended, hW, hsame⟩ := X0.leave (v := some (.int (32 : Int32))) (fun h => by rw [Bd.returns] at h; cases h) (BodyLoose.notSynchronized Bd)
    refine ⟨_, _, pre0 _ ?_, hrun, hended, _, _, rfl, ?_, ⟨_, rfl⟩, hW, hsame.mono (by decide) (by decide)⟩
    · show Steps p.tables e below (s₁.setTop (mkF m 0 #[.val (.int p1), .unset] [])) _
      refine XS.iloadN X0.here hx rfl (hb hby d1_0) rfl ?_
      refine XS.iconst X0.here hx rfl (hb hby d1_1) ?_
      refine XS.iand X0.here hx rfl (hb hby d1_2) rfl ?_
      refine XS.istoreN X0.here hx rfl (hb hby d1_3) rfl (l' := #[.val (.int p1), .val (.int (p1 &&& (3 : Int32)))]) rfl ?_
      refine XS.iloadN X0.here hx rfl (hb hby d1_4) rfl ?_
      refine XS.ifNo X0.here hx rfl (hb hby d1_5) rfl ((if0 _ _).trans (teq hc5).2) ?_
      refine XS.bipush X0.here hx rfl (hb hby d1_8) ?_
      show Steps p.tables e below (s₁.setTop (mkF m 10 #[.val (.int p1), .val (.int (p1 &&& (3 : Int32)))] [(.int (32 : Int32))])) _
      exact retN X0 hx (t := .char) Bd.returns (by simp) (hb hby d1_10) hr
    · show QrPk Z p1 h0 n0 _ s₁.heap _
      exact ⟨_, ⟨by decide, by decide⟩, rfl, N0, e0⟩
  · by_cases hc13 : (p1 &&& (3 : Int32)) = (1 : Int32)
    · obtain ⟨fs, hr, hrun, hended, hW, hsame⟩ := X0.leave (v := some (.int (9 : Int32))) (fun h => by rw [Bd.returns] at h; cases h) (BodyLoose.notSynchronized Bd)
      refine ⟨_, _, pre0 _ ?_, hrun, hended, _, _, rfl, ?_, ⟨_, rfl⟩, hW, hsame.mono (by decide) (by decide)⟩
      · show Steps p.tables e below (s₁.setTop (mkF m 0 #[.val (.int p1), .unset] [])) _
        refine XS.iloadN X0.here hx rfl (hb hby d1_0) rfl ?_
        refine XS.iconst X0.here hx rfl (hb hby d1_1) ?_
        refine XS.iand X0.here hx rfl (hb hby d1_2) rfl ?_
        refine XS.istoreN X0.here hx rfl (hb hby d1_3) rfl (l' := #[.val (.int p1), .val (.int (p1 &&& (3 : Int32)))]) rfl ?_
        refine XS.iloadN X0.here hx rfl (hb hby d1_4) rfl ?_
        refine XS.ifYes X0.here hx rfl (pc0 := 5) (pc' := 11) rfl (hb hby d1_5) rfl ((if0 _ _).trans (feq hc5).2) (by decide) (by decide) ?_
        refine XS.iloadN X0.here hx rfl (hb hby d1_11) rfl ?_
        refine XS.iconst X0.here hx rfl (hb hby d1_12) ?_
        refine XS.icmpNo X0.here hx rfl (hb hby d1_13) rfl (teq hc13).2 ?_
        refine XS.bipush X0.here hx rfl (hb hby d1_16) ?_
        show Steps p.tables e below (s₁.setTop (mkF m 18 #[.val (.int p1), .val (.int (p1 &&& (3 : Int32)))] [(.int (9 : Int32))])) _
        exact retN X0 hx (t := .char) Bd.returns (by simp) (hb hby d1_18) hr
      · show QrPk Z p1 h0 n0 _ s₁.heap _
        exact ⟨_, ⟨by decide, by decide⟩, rfl, N0, e0⟩
    · by_cases hc21 : (p1 &&& (3 : Int32)) = (2 : Int32)
      · obtain ⟨fs, hr, hrun, hended, hW, hsame⟩ := X0.leave (v := some (.int (35 : Int32))) (fun h => by rw [Bd.returns] at h; cases h) (BodyLoose.notSynchronized Bd)
        refine ⟨_, _, pre0 _ ?_, hrun, hended, _, _, rfl, ?_, ⟨_, rfl⟩, hW, hsame.mono (by decide) (by decide)⟩
        · show Steps p.tables e below (s₁.setTop (mkF m 0 #[.val (.int p1), .unset] [])) _
          refine XS.iloadN X0.here hx rfl (hb hby d1_0) rfl ?_
          refine XS.iconst X0.here hx rfl (hb hby d1_1) ?_
          refine XS.iand X0.here hx rfl (hb hby d1_2) rfl ?_
          refine XS.istoreN X0.here hx rfl (hb hby d1_3) rfl (l' := #[.val (.int p1), .val (.int (p1 &&& (3 : Int32)))]) rfl ?_
          refine XS.iloadN X0.here hx rfl (hb hby d1_4) rfl ?_
          refine XS.ifYes X0.here hx rfl (pc0 := 5) (pc' := 11) rfl (hb hby d1_5) rfl ((if0 _ _).trans (feq hc5).2) (by decide) (by decide) ?_
          refine XS.iloadN X0.here hx rfl (hb hby d1_11) rfl ?_
          refine XS.iconst X0.here hx rfl (hb hby d1_12) ?_
          refine XS.icmpYes X0.here hx rfl (pc0 := 13) (pc' := 19) rfl (hb hby d1_13) rfl (feq hc13).2 (by decide) (by decide) ?_
          refine XS.iloadN X0.here hx rfl (hb hby d1_19) rfl ?_
          refine XS.iconst X0.here hx rfl (hb hby d1_20) ?_
          refine XS.icmpNo X0.here hx rfl (hb hby d1_21) rfl (teq hc21).2 ?_
          refine XS.bipush X0.here hx rfl (hb hby d1_24) ?_
          show Steps p.tables e below (s₁.setTop (mkF m 26 #[.val (.int p1), .val (.int (p1 &&& (3 : Int32)))] [(.int (35 : Int32))])) _
          exact retN X0 hx (t := .char) Bd.returns (by simp) (hb hby d1_26) hr
        · show QrPk Z p1 h0 n0 _ s₁.heap _
          exact ⟨_, ⟨by decide, by decide⟩, rfl, N0, e0⟩
      · obtain ⟨fs, hr, hrun, hended, hW, hsame⟩ := X0.leave (v := some (.int (nar .char ((((p1.toUInt32 >>> ((2 : Int32) &&& 31).toUInt32).toInt32) &&& (65535 : Int32)).toUInt32.toUInt16.toUInt32.toInt32)))) (fun h => by rw [Bd.returns] at h; cases h) (BodyLoose.notSynchronized Bd)
        refine ⟨_, _, pre0 _ ?_, hrun, hended, _, _, rfl, ?_, ⟨_, rfl⟩, hW, hsame.mono (by decide) (by decide)⟩
        · show Steps p.tables e below (s₁.setTop (mkF m 0 #[.val (.int p1), .unset] [])) _
          refine XS.iloadN X0.here hx rfl (hb hby d1_0) rfl ?_
          refine XS.iconst X0.here hx rfl (hb hby d1_1) ?_
          refine XS.iand X0.here hx rfl (hb hby d1_2) rfl ?_
          refine XS.istoreN X0.here hx rfl (hb hby d1_3) rfl (l' := #[.val (.int p1), .val (.int (p1 &&& (3 : Int32)))]) rfl ?_
          refine XS.iloadN X0.here hx rfl (hb hby d1_4) rfl ?_
          refine XS.ifYes X0.here hx rfl (pc0 := 5) (pc' := 11) rfl (hb hby d1_5) rfl ((if0 _ _).trans (feq hc5).2) (by decide) (by decide) ?_
          refine XS.iloadN X0.here hx rfl (hb hby d1_11) rfl ?_
          refine XS.iconst X0.here hx rfl (hb hby d1_12) ?_
          refine XS.icmpYes X0.here hx rfl (pc0 := 13) (pc' := 19) rfl (hb hby d1_13) rfl (feq hc13).2 (by decide) (by decide) ?_
          refine XS.iloadN X0.here hx rfl (hb hby d1_19) rfl ?_
          refine XS.iconst X0.here hx rfl (hb hby d1_20) ?_
          refine XS.icmpYes X0.here hx rfl (pc0 := 21) (pc' := 27) rfl (hb hby d1_21) rfl (feq hc21).2 (by decide) (by decide) ?_
          refine XS.iloadN X0.here hx rfl (hb hby d1_27) rfl ?_
          refine XS.iconst X0.here hx rfl (hb hby d1_28) ?_
          refine XS.iushr X0.here hx rfl (hb hby d1_29) rfl ?_
          refine X0.ldcInt hx hown (mvT hZ (hw _ (own_w 6 rfl))) (g := (mkF m 30 #[.val (.int p1), .val (.int (p1 &&& (3 : Int32)))] [(.int ((p1.toUInt32 >>> ((2 : Int32) &&& 31).toUInt32).toInt32))])) rfl (hb hby d1_30) _ ?_
          refine XS.iand X0.here hx rfl (hb hby d1_32) rfl ?_
          refine XS.i2c X0.here hx rfl (hb hby d1_33) rfl ?_
          show Steps p.tables e below (s₁.setTop (mkF m 34 #[.val (.int p1), .val (.int (p1 &&& (3 : Int32)))] [(.int ((((p1.toUInt32 >>> ((2 : Int32) &&& 31).toUInt32).toInt32) &&& (65535 : Int32)).toUInt32.toUInt16.toUInt32.toInt32))])) _
          exact retN X0 hx (t := .char) Bd.returns (by simp) (hb hby d1_34) hr
        · show QrPk Z p1 h0 n0 _ s₁.heap _
          exact ⟨_, own_gchar _, rfl, N0, e0⟩
theorem d14_0 : decode method_3_code 0 = .ok (.iload_n 0, 1) := by decide +kernel
theorem d14_1 : decode method_3_code 1 = .ok (.bipush 32, 2) := by decide +kernel
theorem d14_3 : decode method_3_code 3 = .ok (.if_icmp .eq 9, 3) := by decide +kernel
theorem d14_6 : decode method_3_code 6 = .ok (.iload_n 0, 1) := by decide +kernel
theorem d14_7 : decode method_3_code 7 = .ok (.bipush 9, 2) := by decide +kernel
theorem d14_9 : decode method_3_code 9 = .ok (.if_icmp .ne 7, 3) := by decide +kernel
theorem d14_12 : decode method_3_code 12 = .ok (.iconst 1, 1) := by decide +kernel
theorem d14_13 : decode method_3_code 13 = .ok (.goto 4, 3) := by decide +kernel
theorem d14_16 : decode method_3_code 16 = .ok (.iconst 0, 1) := by decide +kernel
theorem d14_17 : decode method_3_code 17 = .ok (.ireturn, 1) := by decide +kernel
theorem pn_14 : plainName "com/example/wrasse/wrasse/io/LineFilesContentPinLaw" = true := by first | (simp [plainName, overriddenIn]; done) | decide +kernel
theorem ef_rBl (m : MethodId) (p1 : Int32) : entryFrame m #[(.int p1)] 1 = mkF m 0 #[.val (.int p1)] [] := by first | (simp [entryFrame, mkF, argsToLocals, Value.category]; done) | rfl
def QrBl (Z : State) (p1 : Int32) (h0 : Heap) (n0 : Nat) (v : Option Value) (h : Heap) (L : List Loc) : Prop := ∃ z : Int32, z = (if p1 = (32 : Int32) ∨ p1 = (9 : Int32) then (1 : Int32) else (0 : Int32)) ∧ v = some (.int z) ∧ Fr n0 L ∧ h = h0
set_option maxRecDepth 65536 in
set_option maxHeartbeats 40000000 in
theorem rBl (l : Launch) (Z : State) (a0 : Array Value) (hw : ∀ d ∈ tables_1, d.before a0 Z = true) (ws : List Jvm.Cond) (p1 : Int32) (h0 : Heap) (n0 : Nat) (Z0 : n0 ≤ h0.size) :
    MetFree l (⟨"com/example/wrasse/wrasse/io/LineFilesContentPinLaw", "blank", "(C)Z"⟩ : MethodName) (head1 (Jvm.Cond.code (⟨"com/example/wrasse/wrasse/io/LineFilesContentPinLaw", "blank", "(C)Z"⟩ : MethodName) method_3_code 1 (some .boolean) :: ws) ({ frames := 0, cells := 0, slots := 0, locals := 0 } : Room)) (fun a U => a = #[(.int p1)] ∧ Z.Warmed39 U.vm ∧ U.heap = h0) (fun _ _ _ _ _ => True) (fun _ U o U' => ∃ v L, o = .returned v ∧ QrBl Z p1 h0 n0 v U'.heap L ∧ FrameEnd U o U' L ({ frames := 0, cells := 0, slots := 0, locals := 0 } : Room).cells ({ frames := 0, cells := 0, slots := 0, locals := 0 } : Room).slots) := by
  refine MetFree.of_bodySF (plainFor_of_name pn_14) hisR ?_
  intro p e s m args below meth c s₁ Bd hml0 hP hK
  obtain ⟨rfl, hZ, hh⟩ := hP
  have hx := Bd.exec
  have hby := Bd.bytes
  have hml : c.maxLocals = 1 := hml0
  have hown : s.vm.findClass "com/example/wrasse/wrasse/io/LineFilesContentPinLaw" = some m.cls := findClass_of_methodNamed Bd.named
  have hnm := (name_of_methodNamed Bd.named Bd.method).1
  have X0 : Stand p l e ({ frames := 0, cells := 0, slots := 0, locals := 0 } : Room) s m #[(.int p1)] below meth c s₁ [] 0 0 := Stand.of_body Bd
  have e0 : s₁.heap = h0 := by rw [← hh, Bd.state]; rfl
  have N0 := Fr.nil n0
  have pre0 : ∀ t, Steps p.tables e below (s₁.setTop (mkF m 0 #[.val (.int p1)] [])) t → Steps p.tables e below (s₁.setTop (entryFrame m #[(.int p1)] 1)) t := fun t k => castTop (ef_rBl m p1) k
  by_cases hc3 : p1 = (32 : Int32)
  · obtain ⟨fs, hr, hrun, hended, hW, hsame⟩ := X0.leave (v := some (.int (1 : Int32))) (fun h => by rw [Bd.returns] at h; cases h) (BodyLoose.notSynchronized Bd)
    refine ⟨_, _, pre0 _ ?_, hrun, hended, _, _, rfl, ?_, ⟨_, rfl⟩, hW, hsame.mono (by decide) (by decide)⟩
    · show Steps p.tables e below (s₁.setTop (mkF m 0 #[.val (.int p1)] [])) _
      refine XS.iloadN X0.here hx rfl (hb hby d14_0) rfl ?_
      refine XS.bipush X0.here hx rfl (hb hby d14_1) ?_
      refine XS.icmpYes X0.here hx rfl (pc0 := 3) (pc' := 12) rfl (hb hby d14_3) rfl (teq hc3).1 (by decide) (by decide) ?_
      refine XS.iconst X0.here hx rfl (hb hby d14_12) ?_
      refine XS.goto X0.here hx rfl (pc0 := 13) (pc' := 17) rfl (hb hby d14_13) (by decide) (by decide) ?_
      show Steps p.tables e below (s₁.setTop (mkF m 17 #[.val (.int p1)] [(.int (1 : Int32))])) _
      exact retN X0 hx (t := .boolean) Bd.returns (by simp) (hb hby d14_17) hr
    · show QrBl Z p1 h0 n0 _ s₁.heap _
      exact ⟨_, by simp [*], rfl, N0, e0⟩
  · by_cases hc9 : p1 = (9 : Int32)
    · obtain ⟨fs, hr, hrun, hended, hW, hsame⟩ := X0.leave (v := some (.int (1 : Int32))) (fun h => by rw [Bd.returns] at h; cases h) (BodyLoose.notSynchronized Bd)
      refine ⟨_, _, pre0 _ ?_, hrun, hended, _, _, rfl, ?_, ⟨_, rfl⟩, hW, hsame.mono (by decide) (by decide)⟩
      · show Steps p.tables e below (s₁.setTop (mkF m 0 #[.val (.int p1)] [])) _
        refine XS.iloadN X0.here hx rfl (hb hby d14_0) rfl ?_
        refine XS.bipush X0.here hx rfl (hb hby d14_1) ?_
        refine XS.icmpNo X0.here hx rfl (hb hby d14_3) rfl (feq hc3).1 ?_
        refine XS.iloadN X0.here hx rfl (hb hby d14_6) rfl ?_
        refine XS.bipush X0.here hx rfl (hb hby d14_7) ?_
        refine XS.icmpNo X0.here hx rfl (hb hby d14_9) rfl (teq hc9).2 ?_
        refine XS.iconst X0.here hx rfl (hb hby d14_12) ?_
        refine XS.goto X0.here hx rfl (pc0 := 13) (pc' := 17) rfl (hb hby d14_13) (by decide) (by decide) ?_
        show Steps p.tables e below (s₁.setTop (mkF m 17 #[.val (.int p1)] [(.int (1 : Int32))])) _
        exact retN X0 hx (t := .boolean) Bd.returns (by simp) (hb hby d14_17) hr
      · show QrBl Z p1 h0 n0 _ s₁.heap _
        exact ⟨_, by simp [*], rfl, N0, e0⟩
    · obtain ⟨fs, hr, hrun, hended, hW, hsame⟩ := X0.leave (v := some (.int (0 : Int32))) (fun h => by rw [Bd.returns] at h; cases h) (BodyLoose.notSynchronized Bd)
      refine ⟨_, _, pre0 _ ?_, hrun, hended, _, _, rfl, ?_, ⟨_, rfl⟩, hW, hsame.mono (by decide) (by decide)⟩
      · show Steps p.tables e below (s₁.setTop (mkF m 0 #[.val (.int p1)] [])) _
        refine XS.iloadN X0.here hx rfl (hb hby d14_0) rfl ?_
        refine XS.bipush X0.here hx rfl (hb hby d14_1) ?_
        refine XS.icmpNo X0.here hx rfl (hb hby d14_3) rfl (feq hc3).1 ?_
        refine XS.iloadN X0.here hx rfl (hb hby d14_6) rfl ?_
        refine XS.bipush X0.here hx rfl (hb hby d14_7) ?_
        refine XS.icmpYes X0.here hx rfl (pc0 := 9) (pc' := 16) rfl (hb hby d14_9) rfl (feq hc9).2 (by decide) (by decide) ?_
        refine XS.iconst X0.here hx rfl (hb hby d14_16) ?_
        show Steps p.tables e below (s₁.setTop (mkF m 17 #[.val (.int p1)] [(.int (0 : Int32))])) _
        exact retN X0 hx (t := .boolean) Bd.returns (by simp) (hb hby d14_17) hr
      · show QrBl Z p1 h0 n0 _ s₁.heap _
        exact ⟨_, by simp [*], rfl, N0, e0⟩
theorem pd_27 : parseMethodDescriptor "([C)V" = some ⟨[(.array .char)], none⟩ := by decide +kernel
theorem d2_0 : decode method_4_code 0 = .ok (.iload_n 0, 1) := by decide +kernel
theorem d2_1 : decode method_4_code 1 = .ok (.ifCond .ne 14, 3) := by decide +kernel
theorem d2_4 : decode method_4_code 4 = .ok (.new 8, 3) := by decide +kernel
theorem d2_7 : decode method_4_code 7 = .ok (.dup, 1) := by decide +kernel
theorem d2_8 : decode method_4_code 8 = .ok (.iconst 0, 1) := by decide +kernel
theorem d2_9 : decode method_4_code 9 = .ok (.newarray .char, 2) := by decide +kernel
theorem d2_11 : decode method_4_code 11 = .ok (.invokespecial 10, 3) := by decide +kernel
theorem d2_14 : decode method_4_code 14 = .ok (.areturn, 1) := by decide +kernel
theorem pn_2 : plainName "com/example/wrasse/wrasse/io/LineFilesContentPinLaw" = true := by first | (simp [plainName, overriddenIn]; done) | decide +kernel
theorem ef_rMk0 (m : MethodId) (a2 : Addr) : entryFrame m #[(.int (0 : Int32)), (.ref a2)] 3 = mkF m 0 #[.val (.int (0 : Int32)), .val (.ref a2), .unset] [] := by first | (simp [entryFrame, mkF, argsToLocals, Value.category]; done) | rfl
def QrMk0 (Z : State) (a2 : Addr) (h0 : Heap) (n0 : Nat) (v : Option Value) (h : Heap) (L : List Loc) : Prop := ∃ o : Addr, v = some (.ref o) ∧ Fr n0 L ∧ Keep h0 h [] ∧ own_S Z h o []
set_option maxRecDepth 65536 in
set_option maxHeartbeats 40000000 in
theorem rMk0 (l : Launch) (Z : State) (a0 : Array Value) (hw : ∀ d ∈ tables_1, d.before a0 Z = true) (ws : List Jvm.Cond) (a2 : Addr) (h0 : Heap) (n0 : Nat) (Z0 : n0 ≤ h0.size) (X00 : Old Z n0 h0) (hheld : Jvm.Lit.constHeld Z "java/lang/String" 7) (hcw : Jvm.Lit.compactW.before a0 Z = true) :
    MetFree l (⟨"com/example/wrasse/wrasse/io/LineFilesContentPinLaw", "make", "(I[C)Ljava/lang/String;"⟩ : MethodName) (head1 (Jvm.Cond.code (⟨"com/example/wrasse/wrasse/io/LineFilesContentPinLaw", "make", "(I[C)Ljava/lang/String;"⟩ : MethodName) method_4_code 3 (some (.object "java/lang/String")) :: ws) ({ frames := 3, cells := 4, slots := 8, locals := 43 } : Room)) (fun a U => a = #[(.int (0 : Int32)), (.ref a2)] ∧ Z.Warmed39 U.vm ∧ U.heap = h0 ∧ U.vm.interned = Z.vm.interned) (fun _ _ _ _ _ => True) (fun _ U o U' => ∃ v L, o = .returned v ∧ QrMk0 Z a2 h0 n0 v U'.heap L ∧ ReturnedEndW U o U' L ({ frames := 3, cells := 4, slots := 8, locals := 43 } : Room).cells ({ frames := 3, cells := 4, slots := 8, locals := 43 } : Room).slots) := by
  refine MetFree.of_bodySF (plainFor_of_name pn_2) hisR ?_
  intro p e s m args below meth c s₁ Bd hml0 hP hK
  obtain ⟨rfl, hZ, hh, hUZ⟩ := hP
  have hx := Bd.exec
  have hby := Bd.bytes
  have hml : c.maxLocals = 3 := hml0
  have hown : s.vm.findClass "com/example/wrasse/wrasse/io/LineFilesContentPinLaw" = some m.cls := findClass_of_methodNamed Bd.named
  have hnm := (name_of_methodNamed Bd.named Bd.method).1
  have X0 : Stand p l e ({ frames := 3, cells := 4, slots := 8, locals := 43 } : Room) s m #[(.int (0 : Int32)), (.ref a2)] below meth c s₁ [] 0 0 := Stand.of_body Bd
  have e0 : s₁.heap = h0 := by rw [← hh, Bd.state]; rfl
  have N0 := Fr.nil n0
  have pre0 : ∀ t, Steps p.tables e below (s₁.setTop (mkF m 0 #[.val (.int (0 : Int32)), .val (.ref a2), .unset] [])) t → Steps p.tables e below (s₁.setTop (entryFrame m #[(.int (0 : Int32)), (.ref a2)] 3)) t := fun t k => castTop (ef_rMk0 m a2) k
  have hS0 : s.Since s.vm s.heap.size := (State.WarmedH.refl s).since _
  obtain ⟨T1, h1, X1, e1, E1, A1, D1, -, st1⟩ := newO X0 hx hZ hown (hw _ (own_w 10 rfl)) (hw _ (own_w 11 rfl)) (hw _ (own_w 12 rfl)) e0 (g := (mkF m 4 #[.val (.int (0 : Int32)), .val (.ref a2), .unset] [])) rfl (hb hby d2_4) (by decide) (by decide)
  obtain ⟨b1o, g1⟩ : ∃ z, z = h0.size := ⟨_, rfl⟩
  have b1 : n0 ≤ b1o := Nat.le_trans Z0 (Nat.le_of_eq g1.symm)
  have bk1 : h0.size ≤ b1o := Nat.le_trans (Keep.refl h0 []).1 (Nat.le_of_eq g1.symm)
  rw [← g1] at A1 D1 st1
  have Z1 : n0 ≤ h1.size := Nat.le_trans Z0 E1.1
  have K1 : Keep h0 h1 [] := (Keep.refl h0 []).ext E1
  have F1_25 : Fld Z h1 b1o "java/lang/String" "value" "[B" .null := D1 (Or.inr (hw _ (own_w 25 rfl))) (ty := (.array .byte)) (by decide)
  have F1_26 : Fld Z h1 b1o "java/lang/String" "coder" "B" (.int (0 : Int32)) := D1 (Or.inr (hw _ (own_w 26 rfl))) (ty := .byte) (by decide)
  obtain ⟨T2, h2, ck2, X2, e2, E2, A2, st2⟩ := newP X1 hx hZ (hw _ (own_w 1 rfl)) e1 (g := (mkF m 9 #[.val (.int (0 : Int32)), .val (.ref a2), .unset] [(.int (0 : Int32)), (.ref b1o), (.ref b1o)])) rfl (hb hby d2_9) rfl (by decide) (cap := 0) (by decide) (by decide) (by decide) (by decide)
  obtain ⟨b2o, g2⟩ : ∃ z, z = h1.size := ⟨_, rfl⟩
  have b2 : n0 ≤ b2o := Nat.le_trans Z1 (Nat.le_of_eq g2.symm)
  have bk2 : h0.size ≤ b2o := Nat.le_trans K1.1 (Nat.le_of_eq g2.symm)
  have ne3 : b1o ≠ b2o := Nat.ne_of_lt (Nat.lt_of_lt_of_le A1.lt (Nat.le_of_eq g2.symm))
  rw [← g2] at A2 st2
  have Z2 : n0 ≤ h2.size := Nat.le_trans Z1 E2.1
  have K2 : Keep h0 h2 [] := K1.ext E2
  have V2 : Arv Z h2 b2o ck2 .char (0 : Int32) [] (.int (0 : Int32)) := (Arv.new A2 (by decide)).pad (pad_rep [] (.int (0 : Int32)) 0)
  have f5 := (A1.ext E2)
  have f6 := (F1_25.ext E2)
  have f7 := (F1_26.ext E2)
  have f8 := ((X00.ext E1).ext E2)
  obtain ⟨_, _, ⟨T4, Lq4, kq4, nq4⟩, -, X4, hS4, hgr4, ⟨Lc4, hQ4, lq4, yq4, zq4⟩, st4⟩ := X2.specialBackS hx (y := (⟨"java/lang/String", "<init>", "([C)V"⟩ : MethodName)) rfl hown (mvT hZ (hw _ (own_w 13 rfl))) (mvT hZ (hw _ (own_w 14 rfl))) (mvT hZ (hw _ (own_w 15 rfl))) (by decide) (own_backS (W := 1) (rW1 l Z a0 hw [] b1o b2o ck2 h2 n0 Z2 f5 f6 f7 b1 f8 hheld hcw V2) hZ hUZ (hw _ (own_w 15 rfl)) (hw _ (own_w 12 rfl)) (by decide) (by decide)) (g := (mkF m 11 #[.val (.int (0 : Int32)), .val (.ref a2), .unset] [(.ref b2o), (.ref b1o), (.ref b1o)])) rfl (by rw [hml]; rfl) (Steps.refl _) (a := b1o) (argsL := [(.ref b2o)]) (rest := [(.ref b1o)]) (lenOf pd_27 rfl) rfl (by show 2 * 0 + _ ≤ _; exact Nat.le_of_eq rfl) (hb hby d2_11) (fun _ _ => ⟨rfl, e2, (by decide : 2 + 2 ≤ _), (by decide : 4 + 4 ≤ _)⟩)
  dsimp only [Pt.U, Pt.locs, Pt.cells, Pt.slots] at X4 lq4 yq4 zq4 st4 hQ4 hS4
  subst lq4 yq4 zq4
  have hZ4 : Z.Warmed39 (s.setVm T4.vm).vm := State.Warmed39.trans (t := s) hZ hS4.1
  have ho4 : (s.setVm T4.vm).vm.findClass "com/example/wrasse/wrasse/io/LineFilesContentPinLaw" = some m.cls := by rw [show (s.setVm T4.vm).vm = T4.vm from rfl, hS4.1.alike.findClass]; exact hown
  obtain ⟨rfl, N4q, KC4, TS4⟩ := hQ4
  have N4 := Fr.app N0 N4q
  have Z4 : n0 ≤ T4.heap.size := Nat.le_trans Z2 KC4.1
  have K4 : Keep h0 T4.heap [] := K2.trans KC4 (allS (Or.inr bk1) all0)
  obtain ⟨fs, hr, hrun, hended, hwd⟩ := Jvm.Stand.leaveW (s := s) (vm₁ := T4.vm) X4 hS4 (Nat.le_trans (Nat.le_refl _) (Nat.le_of_eq (congrArg Array.size rfl).symm)) (v := some (.ref b1o)) (fun h => by rw [Bd.returns] at h; cases h)
  refine ⟨_, _, pre0 _ ?_, hrun, hended, _, _, rfl, ?_, hwd.1, hwd.2.1, hwd.2.2.1, hwd.2.2.2.mono (by decide) (by decide)⟩
  · show Steps p.tables e below (s₁.setTop (mkF m 0 #[.val (.int (0 : Int32)), .val (.ref a2), .unset] [])) _
    refine XS.iloadN X0.here hx rfl (hb hby d2_0) rfl ?_
    refine XS.ifNo X0.here hx rfl (hb hby d2_1) rfl ((if0 _ _).trans (teq (by decide)).2) ?_
    refine st1 _ ?_
    refine XS.dup X1.here hx rfl (hb hby d2_7) rfl rfl ?_
    refine XS.iconst X1.here hx rfl (hb hby d2_8) ?_
    refine st2 _ ?_
    refine st4.trans ?_
    show Steps p.tables e below (T4.setTop (mkF m 14 #[.val (.int (0 : Int32)), .val (.ref a2), .unset] [(.ref b1o)])) _
    exact X4.areturnOut hx rfl Bd.returns rfl (hb hby d2_14) hr
  · show QrMk0 Z a2 h0 n0 _ T4.heap _
    have qt := TS4
    exact ⟨b1o, rfl, N4, K4, qt⟩
theorem d2_15 : decode method_4_code 15 = .ok (.iload_n 0, 1) := by decide +kernel
theorem d2_16 : decode method_4_code 16 = .ok (.iconst 1, 1) := by decide +kernel
theorem d2_17 : decode method_4_code 17 = .ok (.if_icmp .ne 22, 3) := by decide +kernel
theorem d2_20 : decode method_4_code 20 = .ok (.iconst 1, 1) := by decide +kernel
theorem d2_21 : decode method_4_code 21 = .ok (.newarray .char, 2) := by decide +kernel
theorem d2_23 : decode method_4_code 23 = .ok (.astore_n 2, 1) := by decide +kernel
theorem d2_24 : decode method_4_code 24 = .ok (.aload_n 2, 1) := by decide +kernel
theorem d2_25 : decode method_4_code 25 = .ok (.iconst 0, 1) := by decide +kernel
theorem d2_26 : decode method_4_code 26 = .ok (.aload_n 1, 1) := by decide +kernel
theorem d2_27 : decode method_4_code 27 = .ok (.iconst 0, 1) := by decide +kernel
theorem d2_28 : decode method_4_code 28 = .ok (.caload, 1) := by decide +kernel
theorem d2_29 : decode method_4_code 29 = .ok (.castore, 1) := by decide +kernel
theorem d2_30 : decode method_4_code 30 = .ok (.new 8, 3) := by decide +kernel
theorem d2_33 : decode method_4_code 33 = .ok (.dup, 1) := by decide +kernel
theorem d2_34 : decode method_4_code 34 = .ok (.aload_n 2, 1) := by decide +kernel
theorem d2_35 : decode method_4_code 35 = .ok (.invokespecial 10, 3) := by decide +kernel
theorem d2_38 : decode method_4_code 38 = .ok (.areturn, 1) := by decide +kernel
theorem ef_rMk1 (m : MethodId) (a2 : Addr) : entryFrame m #[(.int (1 : Int32)), (.ref a2)] 3 = mkF m 0 #[.val (.int (1 : Int32)), .val (.ref a2), .unset] [] := by first | (simp [entryFrame, mkF, argsToLocals, Value.category]; done) | rfl
def QrMk1 (Z : State) (a2 : Addr) (c0 : Int32) (c1 : Int32) (c2 : Int32) (c3 : Int32) (kc : ClassId) (G1 : Int32) (h0 : Heap) (n0 : Nat) (v : Option Value) (h : Heap) (L : List Loc) : Prop := ∃ o : Addr, v = some (.ref o) ∧ Fr n0 L ∧ Keep h0 h [] ∧ own_S Z h o [c0]
set_option maxRecDepth 65536 in
set_option maxHeartbeats 40000000 in
theorem rMk1 (l : Launch) (Z : State) (a0 : Array Value) (hw : ∀ d ∈ tables_1, d.before a0 Z = true) (ws : List Jvm.Cond) (a2 : Addr) (c0 : Int32) (c1 : Int32) (c2 : Int32) (c3 : Int32) (kc : ClassId) (G1 : Int32) (h0 : Heap) (n0 : Nat) (Z0 : n0 ≤ h0.size) (X00 : Old Z n0 h0) (O_2 : Sta Z Z.heap "java/lang/String" "COMPACT_STRINGS" "Z" (.int G1)) (P5 : ¬ (G1 = (0 : Int32))) (O_A : Sta Z Z.heap "java/lang/StringUTF16" "$assertionsDisabled" "Z" (.int (1 : Int32))) (O_H : Sta Z Z.heap "java/lang/StringUTF16" "HI_BYTE_SHIFT" "I" (.int (0 : Int32))) (O_W : Sta Z Z.heap "java/lang/StringUTF16" "LO_BYTE_SHIFT" "I" (.int (8 : Int32))) (AC : Arv Z h0 a2 kc .char (4 : Int32) [.int c0, .int c1, .int c2, .int c3] (.int (0 : Int32))) (q0 : own_ch c0) (q1 : own_ch c1) (q2 : own_ch c2) (q3 : own_ch c3) :
    MetFree l (⟨"com/example/wrasse/wrasse/io/LineFilesContentPinLaw", "make", "(I[C)Ljava/lang/String;"⟩ : MethodName) (head1 (Jvm.Cond.code (⟨"com/example/wrasse/wrasse/io/LineFilesContentPinLaw", "make", "(I[C)Ljava/lang/String;"⟩ : MethodName) method_4_code 3 (some (.object "java/lang/String")) :: ws) ({ frames := 8, cells := 4, slots := 29, locals := 164 } : Room)) (fun a U => a = #[(.int (1 : Int32)), (.ref a2)] ∧ Z.Warmed39 U.vm ∧ U.heap = h0) (fun _ _ _ _ _ => True) (fun _ U o U' => ∃ v L, o = .returned v ∧ QrMk1 Z a2 c0 c1 c2 c3 kc G1 h0 n0 v U'.heap L ∧ FrameEnd U o U' L ({ frames := 8, cells := 4, slots := 29, locals := 164 } : Room).cells ({ frames := 8, cells := 4, slots := 29, locals := 164 } : Room).slots) := by
  refine MetFree.of_bodySF (plainFor_of_name pn_2) hisR ?_
  intro p e s m args below meth c s₁ Bd hml0 hP hK
  obtain ⟨rfl, hZ, hh⟩ := hP
  have hx := Bd.exec
  have hby := Bd.bytes
  have hml : c.maxLocals = 3 := hml0
  have hown : s.vm.findClass "com/example/wrasse/wrasse/io/LineFilesContentPinLaw" = some m.cls := findClass_of_methodNamed Bd.named
  have hnm := (name_of_methodNamed Bd.named Bd.method).1
  have X0 : Stand p l e ({ frames := 8, cells := 4, slots := 29, locals := 164 } : Room) s m #[(.int (1 : Int32)), (.ref a2)] below meth c s₁ [] 0 0 := Stand.of_body Bd
  have e0 : s₁.heap = h0 := by rw [← hh, Bd.state]; rfl
  have N0 := Fr.nil n0
  have pre0 : ∀ t, Steps p.tables e below (s₁.setTop (mkF m 0 #[.val (.int (1 : Int32)), .val (.ref a2), .unset] [])) t → Steps p.tables e below (s₁.setTop (entryFrame m #[(.int (1 : Int32)), (.ref a2)] 3)) t := fun t k => castTop (ef_rMk1 m a2) k
  obtain ⟨T1, h1, ck1, X1, e1, E1, A1, st1⟩ := newP X0 hx hZ (hw _ (own_w 1 rfl)) e0 (g := (mkF m 21 #[.val (.int (1 : Int32)), .val (.ref a2), .unset] [(.int (1 : Int32))])) rfl (hb hby d2_21) rfl (by decide) (cap := 1) (by decide) (by decide) (by decide) (by decide)
  obtain ⟨b1o, g1⟩ : ∃ z, z = h0.size := ⟨_, rfl⟩
  have b1 : n0 ≤ b1o := Nat.le_trans Z0 (Nat.le_of_eq g1.symm)
  have bk1 : h0.size ≤ b1o := Nat.le_trans (Keep.refl h0 []).1 (Nat.le_of_eq g1.symm)
  have ne2 : a2 ≠ b1o := Nat.ne_of_lt (Nat.lt_of_lt_of_le AC.lt (Nat.le_of_eq g1.symm))
  rw [← g1] at A1 st1
  have Z1 : n0 ≤ h1.size := Nat.le_trans Z0 E1.1
  have K1 : Keep h0 h1 [] := (Keep.refl h0 []).ext E1
  have V1 : Arv Z h1 b1o ck1 .char (1 : Int32) [(.int (0 : Int32))] (.int (0 : Int32)) := (Arv.new A1 (by decide)).pad (pad_rep [] (.int (0 : Int32)) 1)
  have f3 := (AC.ext E1)
  obtain ⟨cl4, Ar4, qk4, Sz4, Nn4, Hh4, Gg4⟩ := id (f3)
  have hin5 : ¬ ((0 : Int32) < 0 ∨ cl4.slots.size ≤ ((0 : Int32)).toNatClampNeg) := inb_of Sz4 ⟨by decide, by decide⟩
  have hat5 : cl4.slots[((0 : Int32)).toNatClampNeg]? = some (.int c0) := Has.at Hh4 hin5 rfl
  obtain ⟨cl6, Ar6, qk6, Sz6, Nn6, Hh6, Gg6⟩ := id (V1)
  have hin7 : ¬ ((0 : Int32) < 0 ∨ cl6.slots.size ≤ ((0 : Int32)).toNatClampNeg) := inb_of Sz6 ⟨by decide, by decide⟩
  obtain ⟨T7, h7, X7, e7, W7, st7⟩ := stC X1 hx hZ e1 Ar6 (j := (0 : Int32)) hin7  (g := (mkF m 29 #[.val (.int (1 : Int32)), .val (.ref a2), .val (.ref b1o)] [(.int c0), (.int (0 : Int32)), (.ref b1o)])) rfl rfl (hb hby d2_29)
  have N7 := Fr.snoc X7 N0 b1
  have Z7 : n0 ≤ h7.size := by rw [W7.size]; exact Z1
  have K7 : Keep h0 h7 [] := K1.wr W7 (Or.inr bk1)
  have V7 : Arv Z h7 b1o ck1 .char (1 : Int32) [(.int (nar .char c0))] (.int (0 : Int32)) := Arv.set Ar6 qk6 Sz6 Nn6 Hh6 Gg6 (fits_nar_char _) W7 0 rfl (Nat.le_of_ble_eq_true rfl)
  obtain ⟨T8, h8, X8, e8, E8, A8, D8, -, st8⟩ := newO X7 hx hZ hown (hw _ (own_w 10 rfl)) (hw _ (own_w 11 rfl)) (hw _ (own_w 12 rfl)) e7 (g := (mkF m 30 #[.val (.int (1 : Int32)), .val (.ref a2), .val (.ref b1o)] [])) rfl (hb hby d2_30) (by decide) (by decide)
  obtain ⟨b8o, g8⟩ : ∃ z, z = h7.size := ⟨_, rfl⟩
  have b8 : n0 ≤ b8o := Nat.le_trans Z7 (Nat.le_of_eq g8.symm)
  have bk8 : h0.size ≤ b8o := Nat.le_trans K7.1 (Nat.le_of_eq g8.symm)
  have f9 := (f3.other W7 ne2)
  have ne10 : a2 ≠ b8o := Nat.ne_of_lt (Nat.lt_of_lt_of_le f9.lt (Nat.le_of_eq g8.symm))
  have ne11 : b1o ≠ b8o := Nat.ne_of_lt (Nat.lt_of_lt_of_le V7.lt (Nat.le_of_eq g8.symm))
  rw [← g8] at A8 D8 st8
  have Z8 : n0 ≤ h8.size := Nat.le_trans Z7 E8.1
  have K8 : Keep h0 h8 [] := K7.ext E8
  have F8_25 : Fld Z h8 b8o "java/lang/String" "value" "[B" .null := D8 (Or.inr (hw _ (own_w 25 rfl))) (ty := (.array .byte)) (by decide)
  have F8_26 : Fld Z h8 b8o "java/lang/String" "coder" "B" (.int (0 : Int32)) := D8 (Or.inr (hw _ (own_w 26 rfl))) (ty := .byte) (by decide)
  have f13 := (((X00.ext E1).wr W7 b1).ext E8)
  have f14 := (V7.ext E8)
  obtain ⟨_, _, ⟨T12, Lq12, kq12, nq12⟩, -, X12, ⟨Lc12, hQ12, lq12, yq12, zq12⟩, st12⟩ := X8.specialBack hx (y := (⟨"java/lang/String", "<init>", "([C)V"⟩ : MethodName)) rfl hown (mvT hZ (hw _ (own_w 13 rfl))) (mvT hZ (hw _ (own_w 14 rfl))) (mvT hZ (hw _ (own_w 15 rfl))) (by decide) (backOf (W := 1) (rI1 l Z a0 hw [] b8o b1o [(nar .char c0)] ck1 G1 h8 n0 Z8 A8 F8_25 F8_26 b8 f13 O_2 P5 O_A O_H O_W f14 (Nat.le_of_ble_eq_true rfl) (Nat.le_of_ble_eq_true rfl) (own_cons (own_gchar c0) own_nil) (Ne.symm ne11)) hZ (hw _ (own_w 15 rfl)) (hw _ (own_w 12 rfl)) (by decide) (by decide)) (g := (mkF m 35 #[.val (.int (1 : Int32)), .val (.ref a2), .val (.ref b1o)] [(.ref b1o), (.ref b8o), (.ref b8o)])) rfl (by rw [hml]; rfl) (Steps.refl _) (a := b8o) (argsL := [(.ref b1o)]) (rest := [(.ref b8o)]) (lenOf pd_27 rfl) rfl (by show 2 * 0 + _ ≤ _; exact Nat.le_of_eq rfl) (hb hby d2_35) (fun _ _ => ⟨rfl, e8, (by decide : 2 + 2 ≤ _), (by decide : 5 + 24 ≤ _)⟩)
  dsimp only [Pt.U, Pt.locs, Pt.cells, Pt.slots] at X12 lq12 yq12 zq12 st12 hQ12
  subst lq12 yq12 zq12
  obtain ⟨rfl, N12q, KC12, TS12⟩ := hQ12
  have N12 := Fr.app N7 N12q
  have Z12 : n0 ≤ T12.heap.size := Nat.le_trans Z8 KC12.1
  have K12 : Keep h0 T12.heap [] := K8.trans KC12 (allS (Or.inr bk8) all0)
  obtain ⟨fs, hr, hrun, hended, hW, hsame⟩ := X12.leave (v := some (.ref b8o)) (fun h => by rw [Bd.returns] at h; cases h) (BodyLoose.notSynchronized Bd)
  refine ⟨_, _, pre0 _ ?_, hrun, hended, _, _, rfl, ?_, ⟨_, rfl⟩, hW, hsame.mono (by decide) (by decide)⟩
  · show Steps p.tables e below (s₁.setTop (mkF m 0 #[.val (.int (1 : Int32)), .val (.ref a2), .unset] [])) _
    refine XS.iloadN X0.here hx rfl (hb hby d2_0) rfl ?_
    refine XS.ifYes X0.here hx rfl (pc0 := 1) (pc' := 15) rfl (hb hby d2_1) rfl ((if0 _ _).trans (feq (by decide)).2) (by decide) (by decide) ?_
    refine XS.iloadN X0.here hx rfl (hb hby d2_15) rfl ?_
    refine XS.iconst X0.here hx rfl (hb hby d2_16) ?_
    refine XS.icmpNo X0.here hx rfl (hb hby d2_17) rfl (teq (by decide)).2 ?_
    refine XS.iconst X0.here hx rfl (hb hby d2_20) ?_
    refine st1 _ ?_
    refine XS.astoreN X1.here hx rfl (hb hby d2_23) rfl rfl (l' := #[.val (.int (1 : Int32)), .val (.ref a2), .val (.ref b1o)]) rfl ?_
    refine XS.aloadN X1.here hx rfl (hb hby d2_24) rfl rfl ?_
    refine XS.iconst X1.here hx rfl (hb hby d2_25) ?_
    refine XS.aloadN X1.here hx rfl (hb hby d2_26) rfl rfl ?_
    refine XS.iconst X1.here hx rfl (hb hby d2_27) ?_
    refine X1.caload hx (j := (0 : Int32)) (v := (.int c0)) (by rw [e1]; exact Ar4.1) (State.isArrayOf_alike hZ.alike Ar4.2.1) Ar4.2.2 hin5 hat5 (g := (mkF m 28 #[.val (.int (1 : Int32)), .val (.ref a2), .val (.ref b1o)] [(.int (0 : Int32)), (.ref a2), (.int (0 : Int32)), (.ref b1o)])) rfl rfl (hb hby d2_28) _ ?_
    refine st7 _ ?_
    refine st8 _ ?_
    refine XS.dup X8.here hx rfl (hb hby d2_33) rfl rfl ?_
    refine XS.aloadN X8.here hx rfl (hb hby d2_34) rfl rfl ?_
    refine st12.trans ?_
    show Steps p.tables e below (T12.setTop (mkF m 38 #[.val (.int (1 : Int32)), .val (.ref a2), .val (.ref b1o)] [(.ref b8o)])) _
    exact X12.areturnOut hx rfl Bd.returns rfl (hb hby d2_38) hr
  · show QrMk1 Z a2 c0 c1 c2 c3 kc G1 h0 n0 _ T12.heap _
    have qt := TS12
    rw [own_ncc q0] at qt
    exact ⟨b8o, rfl, N12, K12, qt⟩
theorem d2_39 : decode method_4_code 39 = .ok (.iload_n 0, 1) := by decide +kernel
theorem d2_40 : decode method_4_code 40 = .ok (.iconst 2, 1) := by decide +kernel
theorem d2_41 : decode method_4_code 41 = .ok (.if_icmp .ne 28, 3) := by decide +kernel
theorem d2_44 : decode method_4_code 44 = .ok (.iconst 2, 1) := by decide +kernel
theorem d2_45 : decode method_4_code 45 = .ok (.newarray .char, 2) := by decide +kernel
theorem d2_47 : decode method_4_code 47 = .ok (.astore_n 2, 1) := by decide +kernel
theorem d2_48 : decode method_4_code 48 = .ok (.aload_n 2, 1) := by decide +kernel
theorem d2_49 : decode method_4_code 49 = .ok (.iconst 0, 1) := by decide +kernel
theorem d2_50 : decode method_4_code 50 = .ok (.aload_n 1, 1) := by decide +kernel
theorem d2_51 : decode method_4_code 51 = .ok (.iconst 0, 1) := by decide +kernel
theorem d2_52 : decode method_4_code 52 = .ok (.caload, 1) := by decide +kernel
theorem d2_53 : decode method_4_code 53 = .ok (.castore, 1) := by decide +kernel
theorem d2_54 : decode method_4_code 54 = .ok (.aload_n 2, 1) := by decide +kernel
theorem d2_55 : decode method_4_code 55 = .ok (.iconst 1, 1) := by decide +kernel
theorem d2_56 : decode method_4_code 56 = .ok (.aload_n 1, 1) := by decide +kernel
theorem d2_57 : decode method_4_code 57 = .ok (.iconst 1, 1) := by decide +kernel
theorem d2_58 : decode method_4_code 58 = .ok (.caload, 1) := by decide +kernel
theorem d2_59 : decode method_4_code 59 = .ok (.castore, 1) := by decide +kernel
theorem d2_60 : decode method_4_code 60 = .ok (.new 8, 3) := by decide +kernel
theorem d2_63 : decode method_4_code 63 = .ok (.dup, 1) := by decide +kernel
theorem d2_64 : decode method_4_code 64 = .ok (.aload_n 2, 1) := by decide +kernel
theorem d2_65 : decode method_4_code 65 = .ok (.invokespecial 10, 3) := by decide +kernel
theorem d2_68 : decode method_4_code 68 = .ok (.areturn, 1) := by decide +kernel
theorem ef_rMk2 (m : MethodId) (a2 : Addr) : entryFrame m #[(.int (2 : Int32)), (.ref a2)] 3 = mkF m 0 #[.val (.int (2 : Int32)), .val (.ref a2), .unset] [] := by first | (simp [entryFrame, mkF, argsToLocals, Value.category]; done) | rfl
def QrMk2 (Z : State) (a2 : Addr) (c0 : Int32) (c1 : Int32) (c2 : Int32) (c3 : Int32) (kc : ClassId) (G1 : Int32) (h0 : Heap) (n0 : Nat) (v : Option Value) (h : Heap) (L : List Loc) : Prop := ∃ o : Addr, v = some (.ref o) ∧ Fr n0 L ∧ Keep h0 h [] ∧ own_S Z h o [c0, c1]
set_option maxRecDepth 65536 in
set_option maxHeartbeats 40000000 in
theorem rMk2 (l : Launch) (Z : State) (a0 : Array Value) (hw : ∀ d ∈ tables_1, d.before a0 Z = true) (ws : List Jvm.Cond) (a2 : Addr) (c0 : Int32) (c1 : Int32) (c2 : Int32) (c3 : Int32) (kc : ClassId) (G1 : Int32) (h0 : Heap) (n0 : Nat) (Z0 : n0 ≤ h0.size) (X00 : Old Z n0 h0) (O_2 : Sta Z Z.heap "java/lang/String" "COMPACT_STRINGS" "Z" (.int G1)) (P5 : ¬ (G1 = (0 : Int32))) (O_A : Sta Z Z.heap "java/lang/StringUTF16" "$assertionsDisabled" "Z" (.int (1 : Int32))) (O_H : Sta Z Z.heap "java/lang/StringUTF16" "HI_BYTE_SHIFT" "I" (.int (0 : Int32))) (O_W : Sta Z Z.heap "java/lang/StringUTF16" "LO_BYTE_SHIFT" "I" (.int (8 : Int32))) (AC : Arv Z h0 a2 kc .char (4 : Int32) [.int c0, .int c1, .int c2, .int c3] (.int (0 : Int32))) (q0 : own_ch c0) (q1 : own_ch c1) (q2 : own_ch c2) (q3 : own_ch c3) :
    MetFree l (⟨"com/example/wrasse/wrasse/io/LineFilesContentPinLaw", "make", "(I[C)Ljava/lang/String;"⟩ : MethodName) (head1 (Jvm.Cond.code (⟨"com/example/wrasse/wrasse/io/LineFilesContentPinLaw", "make", "(I[C)Ljava/lang/String;"⟩ : MethodName) method_4_code 3 (some (.object "java/lang/String")) :: ws) ({ frames := 8, cells := 4, slots := 30, locals := 164 } : Room)) (fun a U => a = #[(.int (2 : Int32)), (.ref a2)] ∧ Z.Warmed39 U.vm ∧ U.heap = h0) (fun _ _ _ _ _ => True) (fun _ U o U' => ∃ v L, o = .returned v ∧ QrMk2 Z a2 c0 c1 c2 c3 kc G1 h0 n0 v U'.heap L ∧ FrameEnd U o U' L ({ frames := 8, cells := 4, slots := 30, locals := 164 } : Room).cells ({ frames := 8, cells := 4, slots := 30, locals := 164 } : Room).slots) := by
  refine MetFree.of_bodySF (plainFor_of_name pn_2) hisR ?_
  intro p e s m args below meth c s₁ Bd hml0 hP hK
  obtain ⟨rfl, hZ, hh⟩ := hP
  have hx := Bd.exec
  have hby := Bd.bytes
  have hml : c.maxLocals = 3 := hml0
  have hown : s.vm.findClass "com/example/wrasse/wrasse/io/LineFilesContentPinLaw" = some m.cls := findClass_of_methodNamed Bd.named
  have hnm := (name_of_methodNamed Bd.named Bd.method).1
  have X0 : Stand p l e ({ frames := 8, cells := 4, slots := 30, locals := 164 } : Room) s m #[(.int (2 : Int32)), (.ref a2)] below meth c s₁ [] 0 0 := Stand.of_body Bd
  have e0 : s₁.heap = h0 := by rw [← hh, Bd.state]; rfl
  have N0 := Fr.nil n0
  have pre0 : ∀ t, Steps p.tables e below (s₁.setTop (mkF m 0 #[.val (.int (2 : Int32)), .val (.ref a2), .unset] [])) t → Steps p.tables e below (s₁.setTop (entryFrame m #[(.int (2 : Int32)), (.ref a2)] 3)) t := fun t k => castTop (ef_rMk2 m a2) k
  obtain ⟨T1, h1, ck1, X1, e1, E1, A1, st1⟩ := newP X0 hx hZ (hw _ (own_w 1 rfl)) e0 (g := (mkF m 45 #[.val (.int (2 : Int32)), .val (.ref a2), .unset] [(.int (2 : Int32))])) rfl (hb hby d2_45) rfl (by decide) (cap := 2) (by decide) (by decide) (by decide) (by decide)
  obtain ⟨b1o, g1⟩ : ∃ z, z = h0.size := ⟨_, rfl⟩
  have b1 : n0 ≤ b1o := Nat.le_trans Z0 (Nat.le_of_eq g1.symm)
  have bk1 : h0.size ≤ b1o := Nat.le_trans (Keep.refl h0 []).1 (Nat.le_of_eq g1.symm)
  have ne2 : a2 ≠ b1o := Nat.ne_of_lt (Nat.lt_of_lt_of_le AC.lt (Nat.le_of_eq g1.symm))
  rw [← g1] at A1 st1
  have Z1 : n0 ≤ h1.size := Nat.le_trans Z0 E1.1
  have K1 : Keep h0 h1 [] := (Keep.refl h0 []).ext E1
  have V1 : Arv Z h1 b1o ck1 .char (2 : Int32) [(.int (0 : Int32)), (.int (0 : Int32))] (.int (0 : Int32)) := (Arv.new A1 (by decide)).pad (pad_rep [] (.int (0 : Int32)) 2)
  have f3 := (AC.ext E1)
  obtain ⟨cl4, Ar4, qk4, Sz4, Nn4, Hh4, Gg4⟩ := id (f3)
  have hin5 : ¬ ((0 : Int32) < 0 ∨ cl4.slots.size ≤ ((0 : Int32)).toNatClampNeg) := inb_of Sz4 ⟨by decide, by decide⟩
  have hat5 : cl4.slots[((0 : Int32)).toNatClampNeg]? = some (.int c0) := Has.at Hh4 hin5 rfl
  obtain ⟨cl6, Ar6, qk6, Sz6, Nn6, Hh6, Gg6⟩ := id (V1)
  have hin7 : ¬ ((0 : Int32) < 0 ∨ cl6.slots.size ≤ ((0 : Int32)).toNatClampNeg) := inb_of Sz6 ⟨by decide, by decide⟩
  obtain ⟨T7, h7, X7, e7, W7, st7⟩ := stC X1 hx hZ e1 Ar6 (j := (0 : Int32)) hin7  (g := (mkF m 53 #[.val (.int (2 : Int32)), .val (.ref a2), .val (.ref b1o)] [(.int c0), (.int (0 : Int32)), (.ref b1o)])) rfl rfl (hb hby d2_53)
  have N7 := Fr.snoc X7 N0 b1
  have Z7 : n0 ≤ h7.size := by rw [W7.size]; exact Z1
  have K7 : Keep h0 h7 [] := K1.wr W7 (Or.inr bk1)
  have V7 : Arv Z h7 b1o ck1 .char (2 : Int32) [(.int (nar .char c0)), (.int (0 : Int32))] (.int (0 : Int32)) := Arv.set Ar6 qk6 Sz6 Nn6 Hh6 Gg6 (fits_nar_char _) W7 0 rfl (Nat.le_of_ble_eq_true rfl)
  have f8 := (f3.other W7 ne2)
  obtain ⟨cl9, Ar9, qk9, Sz9, Nn9, Hh9, Gg9⟩ := id (f8)
  have hin10 : ¬ ((1 : Int32) < 0 ∨ cl9.slots.size ≤ ((1 : Int32)).toNatClampNeg) := inb_of Sz9 ⟨by decide, by decide⟩
  have hat10 : cl9.slots[((1 : Int32)).toNatClampNeg]? = some (.int c1) := Has.at Hh9 hin10 rfl
  obtain ⟨cl11, Ar11, qk11, Sz11, Nn11, Hh11, Gg11⟩ := id (V7)
  have hin12 : ¬ ((1 : Int32) < 0 ∨ cl11.slots.size ≤ ((1 : Int32)).toNatClampNeg) := inb_of Sz11 ⟨by decide, by decide⟩
  obtain ⟨T12, h12, X12, e12, W12, st12⟩ := stC X7 hx hZ e7 Ar11 (j := (1 : Int32)) hin12  (g := (mkF m 59 #[.val (.int (2 : Int32)), .val (.ref a2), .val (.ref b1o)] [(.int c1), (.int (1 : Int32)), (.ref b1o)])) rfl rfl (hb hby d2_59)
  have N12 := Fr.snoc X12 N7 b1
  have Z12 : n0 ≤ h12.size := by rw [W12.size]; exact Z7
  have K12 : Keep h0 h12 [] := K7.wr W12 (Or.inr bk1)
  have V12 : Arv Z h12 b1o ck1 .char (2 : Int32) [(.int (nar .char c0)), (.int (nar .char c1))] (.int (0 : Int32)) := Arv.set Ar11 qk11 Sz11 Nn11 Hh11 Gg11 (fits_nar_char _) W12 1 rfl (Nat.le_of_ble_eq_true rfl)
  obtain ⟨T13, h13, X13, e13, E13, A13, D13, -, st13⟩ := newO X12 hx hZ hown (hw _ (own_w 10 rfl)) (hw _ (own_w 11 rfl)) (hw _ (own_w 12 rfl)) e12 (g := (mkF m 60 #[.val (.int (2 : Int32)), .val (.ref a2), .val (.ref b1o)] [])) rfl (hb hby d2_60) (by decide) (by decide)
  obtain ⟨b13o, g13⟩ : ∃ z, z = h12.size := ⟨_, rfl⟩
  have b13 : n0 ≤ b13o := Nat.le_trans Z12 (Nat.le_of_eq g13.symm)
  have bk13 : h0.size ≤ b13o := Nat.le_trans K12.1 (Nat.le_of_eq g13.symm)
  have f14 := (f8.other W12 ne2)
  have ne15 : a2 ≠ b13o := Nat.ne_of_lt (Nat.lt_of_lt_of_le f14.lt (Nat.le_of_eq g13.symm))
  have ne16 : b1o ≠ b13o := Nat.ne_of_lt (Nat.lt_of_lt_of_le V12.lt (Nat.le_of_eq g13.symm))
  rw [← g13] at A13 D13 st13
  have Z13 : n0 ≤ h13.size := Nat.le_trans Z12 E13.1
  have K13 : Keep h0 h13 [] := K12.ext E13
  have F13_25 : Fld Z h13 b13o "java/lang/String" "value" "[B" .null := D13 (Or.inr (hw _ (own_w 25 rfl))) (ty := (.array .byte)) (by decide)
  have F13_26 : Fld Z h13 b13o "java/lang/String" "coder" "B" (.int (0 : Int32)) := D13 (Or.inr (hw _ (own_w 26 rfl))) (ty := .byte) (by decide)
  have f18 := ((((X00.ext E1).wr W7 b1).wr W12 b1).ext E13)
  have f19 := (V12.ext E13)
  obtain ⟨_, _, ⟨T17, Lq17, kq17, nq17⟩, -, X17, ⟨Lc17, hQ17, lq17, yq17, zq17⟩, st17⟩ := X13.specialBack hx (y := (⟨"java/lang/String", "<init>", "([C)V"⟩ : MethodName)) rfl hown (mvT hZ (hw _ (own_w 13 rfl))) (mvT hZ (hw _ (own_w 14 rfl))) (mvT hZ (hw _ (own_w 15 rfl))) (by decide) (backOf (W := 1) (rI1 l Z a0 hw [] b13o b1o [(nar .char c0), (nar .char c1)] ck1 G1 h13 n0 Z13 A13 F13_25 F13_26 b13 f18 O_2 P5 O_A O_H O_W f19 (Nat.le_of_ble_eq_true rfl) (Nat.le_of_ble_eq_true rfl) (own_cons (own_gchar c0) (own_cons (own_gchar c1) own_nil)) (Ne.symm ne16)) hZ (hw _ (own_w 15 rfl)) (hw _ (own_w 12 rfl)) (by decide) (by decide)) (g := (mkF m 65 #[.val (.int (2 : Int32)), .val (.ref a2), .val (.ref b1o)] [(.ref b1o), (.ref b13o), (.ref b13o)])) rfl (by rw [hml]; rfl) (Steps.refl _) (a := b13o) (argsL := [(.ref b1o)]) (rest := [(.ref b13o)]) (lenOf pd_27 rfl) rfl (by show 2 * 0 + _ ≤ _; exact Nat.le_of_eq rfl) (hb hby d2_65) (fun _ _ => ⟨rfl, e13, (by decide : 2 + 2 ≤ _), (by decide : 6 + 24 ≤ _)⟩)
  dsimp only [Pt.U, Pt.locs, Pt.cells, Pt.slots] at X17 lq17 yq17 zq17 st17 hQ17
  subst lq17 yq17 zq17
  obtain ⟨rfl, N17q, KC17, TS17⟩ := hQ17
  have N17 := Fr.app N12 N17q
  have Z17 : n0 ≤ T17.heap.size := Nat.le_trans Z13 KC17.1
  have K17 : Keep h0 T17.heap [] := K13.trans KC17 (allS (Or.inr bk13) all0)
  obtain ⟨fs, hr, hrun, hended, hW, hsame⟩ := X17.leave (v := some (.ref b13o)) (fun h => by rw [Bd.returns] at h; cases h) (BodyLoose.notSynchronized Bd)
  refine ⟨_, _, pre0 _ ?_, hrun, hended, _, _, rfl, ?_, ⟨_, rfl⟩, hW, hsame.mono (by decide) (by decide)⟩
  · show Steps p.tables e below (s₁.setTop (mkF m 0 #[.val (.int (2 : Int32)), .val (.ref a2), .unset] [])) _
    refine XS.iloadN X0.here hx rfl (hb hby d2_0) rfl ?_
    refine XS.ifYes X0.here hx rfl (pc0 := 1) (pc' := 15) rfl (hb hby d2_1) rfl ((if0 _ _).trans (feq (by decide)).2) (by decide) (by decide) ?_
    refine XS.iloadN X0.here hx rfl (hb hby d2_15) rfl ?_
    refine XS.iconst X0.here hx rfl (hb hby d2_16) ?_
    refine XS.icmpYes X0.here hx rfl (pc0 := 17) (pc' := 39) rfl (hb hby d2_17) rfl (feq (by decide)).2 (by decide) (by decide) ?_
    refine XS.iloadN X0.here hx rfl (hb hby d2_39) rfl ?_
    refine XS.iconst X0.here hx rfl (hb hby d2_40) ?_
    refine XS.icmpNo X0.here hx rfl (hb hby d2_41) rfl (teq (by decide)).2 ?_
    refine XS.iconst X0.here hx rfl (hb hby d2_44) ?_
    refine st1 _ ?_
    refine XS.astoreN X1.here hx rfl (hb hby d2_47) rfl rfl (l' := #[.val (.int (2 : Int32)), .val (.ref a2), .val (.ref b1o)]) rfl ?_
    refine XS.aloadN X1.here hx rfl (hb hby d2_48) rfl rfl ?_
    refine XS.iconst X1.here hx rfl (hb hby d2_49) ?_
    refine XS.aloadN X1.here hx rfl (hb hby d2_50) rfl rfl ?_
    refine XS.iconst X1.here hx rfl (hb hby d2_51) ?_
    refine X1.caload hx (j := (0 : Int32)) (v := (.int c0)) (by rw [e1]; exact Ar4.1) (State.isArrayOf_alike hZ.alike Ar4.2.1) Ar4.2.2 hin5 hat5 (g := (mkF m 52 #[.val (.int (2 : Int32)), .val (.ref a2), .val (.ref b1o)] [(.int (0 : Int32)), (.ref a2), (.int (0 : Int32)), (.ref b1o)])) rfl rfl (hb hby d2_52) _ ?_
    refine st7 _ ?_
    refine XS.aloadN X7.here hx rfl (hb hby d2_54) rfl rfl ?_
    refine XS.iconst X7.here hx rfl (hb hby d2_55) ?_
    refine XS.aloadN X7.here hx rfl (hb hby d2_56) rfl rfl ?_
    refine XS.iconst X7.here hx rfl (hb hby d2_57) ?_
    refine X7.caload hx (j := (1 : Int32)) (v := (.int c1)) (by rw [e7]; exact Ar9.1) (State.isArrayOf_alike hZ.alike Ar9.2.1) Ar9.2.2 hin10 hat10 (g := (mkF m 58 #[.val (.int (2 : Int32)), .val (.ref a2), .val (.ref b1o)] [(.int (1 : Int32)), (.ref a2), (.int (1 : Int32)), (.ref b1o)])) rfl rfl (hb hby d2_58) _ ?_
    refine st12 _ ?_
    refine st13 _ ?_
    refine XS.dup X13.here hx rfl (hb hby d2_63) rfl rfl ?_
    refine XS.aloadN X13.here hx rfl (hb hby d2_64) rfl rfl ?_
    refine st17.trans ?_
    show Steps p.tables e below (T17.setTop (mkF m 68 #[.val (.int (2 : Int32)), .val (.ref a2), .val (.ref b1o)] [(.ref b13o)])) _
    exact X17.areturnOut hx rfl Bd.returns rfl (hb hby d2_68) hr
  · show QrMk2 Z a2 c0 c1 c2 c3 kc G1 h0 n0 _ T17.heap _
    have qt := TS17
    rw [own_ncc q0, own_ncc q1] at qt
    exact ⟨b13o, rfl, N17, K17, qt⟩
theorem d2_69 : decode method_4_code 69 = .ok (.iload_n 0, 1) := by decide +kernel
theorem d2_70 : decode method_4_code 70 = .ok (.iconst 3, 1) := by decide +kernel
theorem d2_71 : decode method_4_code 71 = .ok (.if_icmp .ne 34, 3) := by decide +kernel
theorem d2_74 : decode method_4_code 74 = .ok (.iconst 3, 1) := by decide +kernel
theorem d2_75 : decode method_4_code 75 = .ok (.newarray .char, 2) := by decide +kernel
theorem d2_77 : decode method_4_code 77 = .ok (.astore_n 2, 1) := by decide +kernel
theorem d2_78 : decode method_4_code 78 = .ok (.aload_n 2, 1) := by decide +kernel
theorem d2_79 : decode method_4_code 79 = .ok (.iconst 0, 1) := by decide +kernel
theorem d2_80 : decode method_4_code 80 = .ok (.aload_n 1, 1) := by decide +kernel
theorem d2_81 : decode method_4_code 81 = .ok (.iconst 0, 1) := by decide +kernel
theorem d2_82 : decode method_4_code 82 = .ok (.caload, 1) := by decide +kernel
theorem d2_83 : decode method_4_code 83 = .ok (.castore, 1) := by decide +kernel
theorem d2_84 : decode method_4_code 84 = .ok (.aload_n 2, 1) := by decide +kernel
theorem d2_85 : decode method_4_code 85 = .ok (.iconst 1, 1) := by decide +kernel
theorem d2_86 : decode method_4_code 86 = .ok (.aload_n 1, 1) := by decide +kernel
theorem d2_87 : decode method_4_code 87 = .ok (.iconst 1, 1) := by decide +kernel
theorem d2_88 : decode method_4_code 88 = .ok (.caload, 1) := by decide +kernel
theorem d2_89 : decode method_4_code 89 = .ok (.castore, 1) := by decide +kernel
theorem d2_90 : decode method_4_code 90 = .ok (.aload_n 2, 1) := by decide +kernel
theorem d2_91 : decode method_4_code 91 = .ok (.iconst 2, 1) := by decide +kernel
theorem d2_92 : decode method_4_code 92 = .ok (.aload_n 1, 1) := by decide +kernel
theorem d2_93 : decode method_4_code 93 = .ok (.iconst 2, 1) := by decide +kernel
theorem d2_94 : decode method_4_code 94 = .ok (.caload, 1) := by decide +kernel
theorem d2_95 : decode method_4_code 95 = .ok (.castore, 1) := by decide +kernel
theorem d2_96 : decode method_4_code 96 = .ok (.new 8, 3) := by decide +kernel
theorem d2_99 : decode method_4_code 99 = .ok (.dup, 1) := by decide +kernel
theorem d2_100 : decode method_4_code 100 = .ok (.aload_n 2, 1) := by decide +kernel
theorem d2_101 : decode method_4_code 101 = .ok (.invokespecial 10, 3) := by decide +kernel
theorem d2_104 : decode method_4_code 104 = .ok (.areturn, 1) := by decide +kernel
theorem ef_rMk3 (m : MethodId) (a2 : Addr) : entryFrame m #[(.int (3 : Int32)), (.ref a2)] 3 = mkF m 0 #[.val (.int (3 : Int32)), .val (.ref a2), .unset] [] := by first | (simp [entryFrame, mkF, argsToLocals, Value.category]; done) | rfl
def QrMk3 (Z : State) (a2 : Addr) (c0 : Int32) (c1 : Int32) (c2 : Int32) (c3 : Int32) (kc : ClassId) (G1 : Int32) (h0 : Heap) (n0 : Nat) (v : Option Value) (h : Heap) (L : List Loc) : Prop := ∃ o : Addr, v = some (.ref o) ∧ Fr n0 L ∧ Keep h0 h [] ∧ own_S Z h o [c0, c1, c2]
set_option maxRecDepth 65536 in
set_option maxHeartbeats 40000000 in
theorem rMk3 (l : Launch) (Z : State) (a0 : Array Value) (hw : ∀ d ∈ tables_1, d.before a0 Z = true) (ws : List Jvm.Cond) (a2 : Addr) (c0 : Int32) (c1 : Int32) (c2 : Int32) (c3 : Int32) (kc : ClassId) (G1 : Int32) (h0 : Heap) (n0 : Nat) (Z0 : n0 ≤ h0.size) (X00 : Old Z n0 h0) (O_2 : Sta Z Z.heap "java/lang/String" "COMPACT_STRINGS" "Z" (.int G1)) (P5 : ¬ (G1 = (0 : Int32))) (O_A : Sta Z Z.heap "java/lang/StringUTF16" "$assertionsDisabled" "Z" (.int (1 : Int32))) (O_H : Sta Z Z.heap "java/lang/StringUTF16" "HI_BYTE_SHIFT" "I" (.int (0 : Int32))) (O_W : Sta Z Z.heap "java/lang/StringUTF16" "LO_BYTE_SHIFT" "I" (.int (8 : Int32))) (AC : Arv Z h0 a2 kc .char (4 : Int32) [.int c0, .int c1, .int c2, .int c3] (.int (0 : Int32))) (q0 : own_ch c0) (q1 : own_ch c1) (q2 : own_ch c2) (q3 : own_ch c3) :
    MetFree l (⟨"com/example/wrasse/wrasse/io/LineFilesContentPinLaw", "make", "(I[C)Ljava/lang/String;"⟩ : MethodName) (head1 (Jvm.Cond.code (⟨"com/example/wrasse/wrasse/io/LineFilesContentPinLaw", "make", "(I[C)Ljava/lang/String;"⟩ : MethodName) method_4_code 3 (some (.object "java/lang/String")) :: ws) ({ frames := 8, cells := 4, slots := 31, locals := 164 } : Room)) (fun a U => a = #[(.int (3 : Int32)), (.ref a2)] ∧ Z.Warmed39 U.vm ∧ U.heap = h0) (fun _ _ _ _ _ => True) (fun _ U o U' => ∃ v L, o = .returned v ∧ QrMk3 Z a2 c0 c1 c2 c3 kc G1 h0 n0 v U'.heap L ∧ FrameEnd U o U' L ({ frames := 8, cells := 4, slots := 31, locals := 164 } : Room).cells ({ frames := 8, cells := 4, slots := 31, locals := 164 } : Room).slots) := by
  refine MetFree.of_bodySF (plainFor_of_name pn_2) hisR ?_
  intro p e s m args below meth c s₁ Bd hml0 hP hK
  obtain ⟨rfl, hZ, hh⟩ := hP
  have hx := Bd.exec
  have hby := Bd.bytes
  have hml : c.maxLocals = 3 := hml0
  have hown : s.vm.findClass "com/example/wrasse/wrasse/io/LineFilesContentPinLaw" = some m.cls := findClass_of_methodNamed Bd.named
  have hnm := (name_of_methodNamed Bd.named Bd.method).1
  have X0 : Stand p l e ({ frames := 8, cells := 4, slots := 31, locals := 164 } : Room) s m #[(.int (3 : Int32)), (.ref a2)] below meth c s₁ [] 0 0 := Stand.of_body Bd
  have e0 : s₁.heap = h0 := by rw [← hh, Bd.state]; rfl
  have N0 := Fr.nil n0
  have pre0 : ∀ t, Steps p.tables e below (s₁.setTop (mkF m 0 #[.val (.int (3 : Int32)), .val (.ref a2), .unset] [])) t → Steps p.tables e below (s₁.setTop (entryFrame m #[(.int (3 : Int32)), (.ref a2)] 3)) t := fun t k => castTop (ef_rMk3 m a2) k
  obtain ⟨T1, h1, ck1, X1, e1, E1, A1, st1⟩ := newP X0 hx hZ (hw _ (own_w 1 rfl)) e0 (g := (mkF m 75 #[.val (.int (3 : Int32)), .val (.ref a2), .unset] [(.int (3 : Int32))])) rfl (hb hby d2_75) rfl (by decide) (cap := 3) (by decide) (by decide) (by decide) (by decide)
  obtain ⟨b1o, g1⟩ : ∃ z, z = h0.size := ⟨_, rfl⟩
  have b1 : n0 ≤ b1o := Nat.le_trans Z0 (Nat.le_of_eq g1.symm)
  have bk1 : h0.size ≤ b1o := Nat.le_trans (Keep.refl h0 []).1 (Nat.le_of_eq g1.symm)
  have ne2 : a2 ≠ b1o := Nat.ne_of_lt (Nat.lt_of_lt_of_le AC.lt (Nat.le_of_eq g1.symm))
  rw [← g1] at A1 st1
  have Z1 : n0 ≤ h1.size := Nat.le_trans Z0 E1.1
  have K1 : Keep h0 h1 [] := (Keep.refl h0 []).ext E1
  have V1 : Arv Z h1 b1o ck1 .char (3 : Int32) [(.int (0 : Int32)), (.int (0 : Int32)), (.int (0 : Int32))] (.int (0 : Int32)) := (Arv.new A1 (by decide)).pad (pad_rep [] (.int (0 : Int32)) 3)
  have f3 := (AC.ext E1)
  obtain ⟨cl4, Ar4, qk4, Sz4, Nn4, Hh4, Gg4⟩ := id (f3)
  have hin5 : ¬ ((0 : Int32) < 0 ∨ cl4.slots.size ≤ ((0 : Int32)).toNatClampNeg) := inb_of Sz4 ⟨by decide, by decide⟩
  have hat5 : cl4.slots[((0 : Int32)).toNatClampNeg]? = some (.int c0) := Has.at Hh4 hin5 rfl
  obtain ⟨cl6, Ar6, qk6, Sz6, Nn6, Hh6, Gg6⟩ := id (V1)
  have hin7 : ¬ ((0 : Int32) < 0 ∨ cl6.slots.size ≤ ((0 : Int32)).toNatClampNeg) := inb_of Sz6 ⟨by decide, by decide⟩
  obtain ⟨T7, h7, X7, e7, W7, st7⟩ := stC X1 hx hZ e1 Ar6 (j := (0 : Int32)) hin7  (g := (mkF m 83 #[.val (.int (3 : Int32)), .val (.ref a2), .val (.ref b1o)] [(.int c0), (.int (0 : Int32)), (.ref b1o)])) rfl rfl (hb hby d2_83)
  have N7 := Fr.snoc X7 N0 b1
  have Z7 : n0 ≤ h7.size := by rw [W7.size]; exact Z1
  have K7 : Keep h0 h7 [] := K1.wr W7 (Or.inr bk1)
  have V7 : Arv Z h7 b1o ck1 .char (3 : Int32) [(.int (nar .char c0)), (.int (0 : Int32)), (.int (0 : Int32))] (.int (0 : Int32)) := Arv.set Ar6 qk6 Sz6 Nn6 Hh6 Gg6 (fits_nar_char _) W7 0 rfl (Nat.le_of_ble_eq_true rfl)
  have f8 := (f3.other W7 ne2)
  obtain ⟨cl9, Ar9, qk9, Sz9, Nn9, Hh9, Gg9⟩ := id (f8)
  have hin10 : ¬ ((1 : Int32) < 0 ∨ cl9.slots.size ≤ ((1 : Int32)).toNatClampNeg) := inb_of Sz9 ⟨by decide, by decide⟩
  have hat10 : cl9.slots[((1 : Int32)).toNatClampNeg]? = some (.int c1) := Has.at Hh9 hin10 rfl
  obtain ⟨cl11, Ar11, qk11, Sz11, Nn11, Hh11, Gg11⟩ := id (V7)
  have hin12 : ¬ ((1 : Int32) < 0 ∨ cl11.slots.size ≤ ((1 : Int32)).toNatClampNeg) := inb_of Sz11 ⟨by decide, by decide⟩
  obtain ⟨T12, h12, X12, e12, W12, st12⟩ := stC X7 hx hZ e7 Ar11 (j := (1 : Int32)) hin12  (g := (mkF m 89 #[.val (.int (3 : Int32)), .val (.ref a2), .val (.ref b1o)] [(.int c1), (.int (1 : Int32)), (.ref b1o)])) rfl rfl (hb hby d2_89)
  have N12 := Fr.snoc X12 N7 b1
  have Z12 : n0 ≤ h12.size := by rw [W12.size]; exact Z7
  have K12 : Keep h0 h12 [] := K7.wr W12 (Or.inr bk1)
  have V12 : Arv Z h12 b1o ck1 .char (3 : Int32) [(.int (nar .char c0)), (.int (nar .char c1)), (.int (0 : Int32))] (.int (0 : Int32)) := Arv.set Ar11 qk11 Sz11 Nn11 Hh11 Gg11 (fits_nar_char _) W12 1 rfl (Nat.le_of_ble_eq_true rfl)
  have f13 := (f8.other W12 ne2)
  obtain ⟨cl14, Ar14, qk14, Sz14, Nn14, Hh14, Gg14⟩ := id (f13)
  have hin15 : ¬ ((2 : Int32) < 0 ∨ cl14.slots.size ≤ ((2 : Int32)).toNatClampNeg) := inb_of Sz14 ⟨by decide, by decide⟩
  have hat15 : cl14.slots[((2 : Int32)).toNatClampNeg]? = some (.int c2) := Has.at Hh14 hin15 rfl
  obtain ⟨cl16, Ar16, qk16, Sz16, Nn16, Hh16, Gg16⟩ := id (V12)
  have hin17 : ¬ ((2 : Int32) < 0 ∨ cl16.slots.size ≤ ((2 : Int32)).toNatClampNeg) := inb_of Sz16 ⟨by decide, by decide⟩
  obtain ⟨T17, h17, X17, e17, W17, st17⟩ := stC X12 hx hZ e12 Ar16 (j := (2 : Int32)) hin17  (g := (mkF m 95 #[.val (.int (3 : Int32)), .val (.ref a2), .val (.ref b1o)] [(.int c2), (.int (2 : Int32)), (.ref b1o)])) rfl rfl (hb hby d2_95)
  have N17 := Fr.snoc X17 N12 b1
  have Z17 : n0 ≤ h17.size := by rw [W17.size]; exact Z12
  have K17 : Keep h0 h17 [] := K12.wr W17 (Or.inr bk1)
  have V17 : Arv Z h17 b1o ck1 .char (3 : Int32) [(.int (nar .char c0)), (.int (nar .char c1)), (.int (nar .char c2))] (.int (0 : Int32)) := Arv.set Ar16 qk16 Sz16 Nn16 Hh16 Gg16 (fits_nar_char _) W17 2 rfl (Nat.le_of_ble_eq_true rfl)
  obtain ⟨T18, h18, X18, e18, E18, A18, D18, -, st18⟩ := newO X17 hx hZ hown (hw _ (own_w 10 rfl)) (hw _ (own_w 11 rfl)) (hw _ (own_w 12 rfl)) e17 (g := (mkF m 96 #[.val (.int (3 : Int32)), .val (.ref a2), .val (.ref b1o)] [])) rfl (hb hby d2_96) (by decide) (by decide)
  obtain ⟨b18o, g18⟩ : ∃ z, z = h17.size := ⟨_, rfl⟩
  have b18 : n0 ≤ b18o := Nat.le_trans Z17 (Nat.le_of_eq g18.symm)
  have bk18 : h0.size ≤ b18o := Nat.le_trans K17.1 (Nat.le_of_eq g18.symm)
  have f19 := (f13.other W17 ne2)
  have ne20 : a2 ≠ b18o := Nat.ne_of_lt (Nat.lt_of_lt_of_le f19.lt (Nat.le_of_eq g18.symm))
  have ne21 : b1o ≠ b18o := Nat.ne_of_lt (Nat.lt_of_lt_of_le V17.lt (Nat.le_of_eq g18.symm))
  rw [← g18] at A18 D18 st18
  have Z18 : n0 ≤ h18.size := Nat.le_trans Z17 E18.1
  have K18 : Keep h0 h18 [] := K17.ext E18
  have F18_25 : Fld Z h18 b18o "java/lang/String" "value" "[B" .null := D18 (Or.inr (hw _ (own_w 25 rfl))) (ty := (.array .byte)) (by decide)
  have F18_26 : Fld Z h18 b18o "java/lang/String" "coder" "B" (.int (0 : Int32)) := D18 (Or.inr (hw _ (own_w 26 rfl))) (ty := .byte) (by decide)
  have f23 := (((((X00.ext E1).wr W7 b1).wr W12 b1).wr W17 b1).ext E18)
  have f24 := (V17.ext E18)
  obtain ⟨_, _, ⟨T22, Lq22, kq22, nq22⟩, -, X22, ⟨Lc22, hQ22, lq22, yq22, zq22⟩, st22⟩ := X18.specialBack hx (y := (⟨"java/lang/String", "<init>", "([C)V"⟩ : MethodName)) rfl hown (mvT hZ (hw _ (own_w 13 rfl))) (mvT hZ (hw _ (own_w 14 rfl))) (mvT hZ (hw _ (own_w 15 rfl))) (by decide) (backOf (W := 1) (rI1 l Z a0 hw [] b18o b1o [(nar .char c0), (nar .char c1), (nar .char c2)] ck1 G1 h18 n0 Z18 A18 F18_25 F18_26 b18 f23 O_2 P5 O_A O_H O_W f24 (Nat.le_of_ble_eq_true rfl) (Nat.le_of_ble_eq_true rfl) (own_cons (own_gchar c0) (own_cons (own_gchar c1) (own_cons (own_gchar c2) own_nil))) (Ne.symm ne21)) hZ (hw _ (own_w 15 rfl)) (hw _ (own_w 12 rfl)) (by decide) (by decide)) (g := (mkF m 101 #[.val (.int (3 : Int32)), .val (.ref a2), .val (.ref b1o)] [(.ref b1o), (.ref b18o), (.ref b18o)])) rfl (by rw [hml]; rfl) (Steps.refl _) (a := b18o) (argsL := [(.ref b1o)]) (rest := [(.ref b18o)]) (lenOf pd_27 rfl) rfl (by show 2 * 0 + _ ≤ _; exact Nat.le_of_eq rfl) (hb hby d2_101) (fun _ _ => ⟨rfl, e18, (by decide : 2 + 2 ≤ _), (by decide : 7 + 24 ≤ _)⟩)
  dsimp only [Pt.U, Pt.locs, Pt.cells, Pt.slots] at X22 lq22 yq22 zq22 st22 hQ22
  subst lq22 yq22 zq22
  obtain ⟨rfl, N22q, KC22, TS22⟩ := hQ22
  have N22 := Fr.app N17 N22q
  have Z22 : n0 ≤ T22.heap.size := Nat.le_trans Z18 KC22.1
  have K22 : Keep h0 T22.heap [] := K18.trans KC22 (allS (Or.inr bk18) all0)
  obtain ⟨fs, hr, hrun, hended, hW, hsame⟩ := X22.leave (v := some (.ref b18o)) (fun h => by rw [Bd.returns] at h; cases h) (BodyLoose.notSynchronized Bd)
  refine ⟨_, _, pre0 _ ?_, hrun, hended, _, _, rfl, ?_, ⟨_, rfl⟩, hW, hsame.mono (by decide) (by decide)⟩
  · show Steps p.tables e below (s₁.setTop (mkF m 0 #[.val (.int (3 : Int32)), .val (.ref a2), .unset] [])) _
    refine XS.iloadN X0.here hx rfl (hb hby d2_0) rfl ?_
    refine XS.ifYes X0.here hx rfl (pc0 := 1) (pc' := 15) rfl (hb hby d2_1) rfl ((if0 _ _).trans (feq (by decide)).2) (by decide) (by decide) ?_
    refine XS.iloadN X0.here hx rfl (hb hby d2_15) rfl ?_
    refine XS.iconst X0.here hx rfl (hb hby d2_16) ?_
    refine XS.icmpYes X0.here hx rfl (pc0 := 17) (pc' := 39) rfl (hb hby d2_17) rfl (feq (by decide)).2 (by decide) (by decide) ?_
    refine XS.iloadN X0.here hx rfl (hb hby d2_39) rfl ?_
    refine XS.iconst X0.here hx rfl (hb hby d2_40) ?_
    refine XS.icmpYes X0.here hx rfl (pc0 := 41) (pc' := 69) rfl (hb hby d2_41) rfl (feq (by decide)).2 (by decide) (by decide) ?_
    refine XS.iloadN X0.here hx rfl (hb hby d2_69) rfl ?_
    refine XS.iconst X0.here hx rfl (hb hby d2_70) ?_
    refine XS.icmpNo X0.here hx rfl (hb hby d2_71) rfl (teq (by decide)).2 ?_
    refine XS.iconst X0.here hx rfl (hb hby d2_74) ?_
    refine st1 _ ?_
    refine XS.astoreN X1.here hx rfl (hb hby d2_77) rfl rfl (l' := #[.val (.int (3 : Int32)), .val (.ref a2), .val (.ref b1o)]) rfl ?_
    refine XS.aloadN X1.here hx rfl (hb hby d2_78) rfl rfl ?_
    refine XS.iconst X1.here hx rfl (hb hby d2_79) ?_
    refine XS.aloadN X1.here hx rfl (hb hby d2_80) rfl rfl ?_
    refine XS.iconst X1.here hx rfl (hb hby d2_81) ?_
    refine X1.caload hx (j := (0 : Int32)) (v := (.int c0)) (by rw [e1]; exact Ar4.1) (State.isArrayOf_alike hZ.alike Ar4.2.1) Ar4.2.2 hin5 hat5 (g := (mkF m 82 #[.val (.int (3 : Int32)), .val (.ref a2), .val (.ref b1o)] [(.int (0 : Int32)), (.ref a2), (.int (0 : Int32)), (.ref b1o)])) rfl rfl (hb hby d2_82) _ ?_
    refine st7 _ ?_
    refine XS.aloadN X7.here hx rfl (hb hby d2_84) rfl rfl ?_
    refine XS.iconst X7.here hx rfl (hb hby d2_85) ?_
    refine XS.aloadN X7.here hx rfl (hb hby d2_86) rfl rfl ?_
    refine XS.iconst X7.here hx rfl (hb hby d2_87) ?_
    refine X7.caload hx (j := (1 : Int32)) (v := (.int c1)) (by rw [e7]; exact Ar9.1) (State.isArrayOf_alike hZ.alike Ar9.2.1) Ar9.2.2 hin10 hat10 (g := (mkF m 88 #[.val (.int (3 : Int32)), .val (.ref a2), .val (.ref b1o)] [(.int (1 : Int32)), (.ref a2), (.int (1 : Int32)), (.ref b1o)])) rfl rfl (hb hby d2_88) _ ?_
    refine st12 _ ?_
    refine XS.aloadN X12.here hx rfl (hb hby d2_90) rfl rfl ?_
    refine XS.iconst X12.here hx rfl (hb hby d2_91) ?_
    refine XS.aloadN X12.here hx rfl (hb hby d2_92) rfl rfl ?_
    refine XS.iconst X12.here hx rfl (hb hby d2_93) ?_
    refine X12.caload hx (j := (2 : Int32)) (v := (.int c2)) (by rw [e12]; exact Ar14.1) (State.isArrayOf_alike hZ.alike Ar14.2.1) Ar14.2.2 hin15 hat15 (g := (mkF m 94 #[.val (.int (3 : Int32)), .val (.ref a2), .val (.ref b1o)] [(.int (2 : Int32)), (.ref a2), (.int (2 : Int32)), (.ref b1o)])) rfl rfl (hb hby d2_94) _ ?_
    refine st17 _ ?_
    refine st18 _ ?_
    refine XS.dup X18.here hx rfl (hb hby d2_99) rfl rfl ?_
    refine XS.aloadN X18.here hx rfl (hb hby d2_100) rfl rfl ?_
    refine st22.trans ?_
    show Steps p.tables e below (T22.setTop (mkF m 104 #[.val (.int (3 : Int32)), .val (.ref a2), .val (.ref b1o)] [(.ref b18o)])) _
    exact X22.areturnOut hx rfl Bd.returns rfl (hb hby d2_104) hr
  · show QrMk3 Z a2 c0 c1 c2 c3 kc G1 h0 n0 _ T22.heap _
    have qt := TS22
    rw [own_ncc q0, own_ncc q1, own_ncc q2] at qt
    exact ⟨b18o, rfl, N22, K22, qt⟩
theorem d2_105 : decode method_4_code 105 = .ok (.new 8, 3) := by decide +kernel
theorem d2_108 : decode method_4_code 108 = .ok (.dup, 1) := by decide +kernel
theorem d2_109 : decode method_4_code 109 = .ok (.aload_n 1, 1) := by decide +kernel
theorem d2_110 : decode method_4_code 110 = .ok (.invokespecial 10, 3) := by decide +kernel
theorem d2_113 : decode method_4_code 113 = .ok (.areturn, 1) := by decide +kernel
theorem ef_rMk4 (m : MethodId) (a2 : Addr) : entryFrame m #[(.int (4 : Int32)), (.ref a2)] 3 = mkF m 0 #[.val (.int (4 : Int32)), .val (.ref a2), .unset] [] := by first | (simp [entryFrame, mkF, argsToLocals, Value.category]; done) | rfl
def QrMk4 (Z : State) (a2 : Addr) (c0 : Int32) (c1 : Int32) (c2 : Int32) (c3 : Int32) (kc : ClassId) (G1 : Int32) (h0 : Heap) (n0 : Nat) (v : Option Value) (h : Heap) (L : List Loc) : Prop := ∃ o : Addr, v = some (.ref o) ∧ Fr n0 L ∧ Keep h0 h [] ∧ own_S Z h o [c0, c1, c2, c3]
set_option maxRecDepth 65536 in
set_option maxHeartbeats 40000000 in
theorem rMk4 (l : Launch) (Z : State) (a0 : Array Value) (hw : ∀ d ∈ tables_1, d.before a0 Z = true) (ws : List Jvm.Cond) (a2 : Addr) (c0 : Int32) (c1 : Int32) (c2 : Int32) (c3 : Int32) (kc : ClassId) (G1 : Int32) (h0 : Heap) (n0 : Nat) (Z0 : n0 ≤ h0.size) (X00 : Old Z n0 h0) (O_2 : Sta Z Z.heap "java/lang/String" "COMPACT_STRINGS" "Z" (.int G1)) (P5 : ¬ (G1 = (0 : Int32))) (O_A : Sta Z Z.heap "java/lang/StringUTF16" "$assertionsDisabled" "Z" (.int (1 : Int32))) (O_H : Sta Z Z.heap "java/lang/StringUTF16" "HI_BYTE_SHIFT" "I" (.int (0 : Int32))) (O_W : Sta Z Z.heap "java/lang/StringUTF16" "LO_BYTE_SHIFT" "I" (.int (8 : Int32))) (AC : Arv Z h0 a2 kc .char (4 : Int32) [.int c0, .int c1, .int c2, .int c3] (.int (0 : Int32))) (q0 : own_ch c0) (q1 : own_ch c1) (q2 : own_ch c2) (q3 : own_ch c3) :
    MetFree l (⟨"com/example/wrasse/wrasse/io/LineFilesContentPinLaw", "make", "(I[C)Ljava/lang/String;"⟩ : MethodName) (head1 (Jvm.Cond.code (⟨"com/example/wrasse/wrasse/io/LineFilesContentPinLaw", "make", "(I[C)Ljava/lang/String;"⟩ : MethodName) method_4_code 3 (some (.object "java/lang/String")) :: ws) ({ frames := 8, cells := 3, slots := 28, locals := 164 } : Room)) (fun a U => a = #[(.int (4 : Int32)), (.ref a2)] ∧ Z.Warmed39 U.vm ∧ U.heap = h0) (fun _ _ _ _ _ => True) (fun _ U o U' => ∃ v L, o = .returned v ∧ QrMk4 Z a2 c0 c1 c2 c3 kc G1 h0 n0 v U'.heap L ∧ FrameEnd U o U' L ({ frames := 8, cells := 3, slots := 28, locals := 164 } : Room).cells ({ frames := 8, cells := 3, slots := 28, locals := 164 } : Room).slots) := by
  refine MetFree.of_bodySF (plainFor_of_name pn_2) hisR ?_
  intro p e s m args below meth c s₁ Bd hml0 hP hK
  obtain ⟨rfl, hZ, hh⟩ := hP
  have hx := Bd.exec
  have hby := Bd.bytes
  have hml : c.maxLocals = 3 := hml0
  have hown : s.vm.findClass "com/example/wrasse/wrasse/io/LineFilesContentPinLaw" = some m.cls := findClass_of_methodNamed Bd.named
  have hnm := (name_of_methodNamed Bd.named Bd.method).1
  have X0 : Stand p l e ({ frames := 8, cells := 3, slots := 28, locals := 164 } : Room) s m #[(.int (4 : Int32)), (.ref a2)] below meth c s₁ [] 0 0 := Stand.of_body Bd
  have e0 : s₁.heap = h0 := by rw [← hh, Bd.state]; rfl
  have N0 := Fr.nil n0
  have pre0 : ∀ t, Steps p.tables e below (s₁.setTop (mkF m 0 #[.val (.int (4 : Int32)), .val (.ref a2), .unset] [])) t → Steps p.tables e below (s₁.setTop (entryFrame m #[(.int (4 : Int32)), (.ref a2)] 3)) t := fun t k => castTop (ef_rMk4 m a2) k
  obtain ⟨T1, h1, X1, e1, E1, A1, D1, -, st1⟩ := newO X0 hx hZ hown (hw _ (own_w 10 rfl)) (hw _ (own_w 11 rfl)) (hw _ (own_w 12 rfl)) e0 (g := (mkF m 105 #[.val (.int (4 : Int32)), .val (.ref a2), .unset] [])) rfl (hb hby d2_105) (by decide) (by decide)
  obtain ⟨b1o, g1⟩ : ∃ z, z = h0.size := ⟨_, rfl⟩
  have b1 : n0 ≤ b1o := Nat.le_trans Z0 (Nat.le_of_eq g1.symm)
  have bk1 : h0.size ≤ b1o := Nat.le_trans (Keep.refl h0 []).1 (Nat.le_of_eq g1.symm)
  have ne2 : a2 ≠ b1o := Nat.ne_of_lt (Nat.lt_of_lt_of_le AC.lt (Nat.le_of_eq g1.symm))
  rw [← g1] at A1 D1 st1
  have Z1 : n0 ≤ h1.size := Nat.le_trans Z0 E1.1
  have K1 : Keep h0 h1 [] := (Keep.refl h0 []).ext E1
  have F1_25 : Fld Z h1 b1o "java/lang/String" "value" "[B" .null := D1 (Or.inr (hw _ (own_w 25 rfl))) (ty := (.array .byte)) (by decide)
  have F1_26 : Fld Z h1 b1o "java/lang/String" "coder" "B" (.int (0 : Int32)) := D1 (Or.inr (hw _ (own_w 26 rfl))) (ty := .byte) (by decide)
  have f4 := (X00.ext E1)
  have f5 := (AC.ext E1)
  obtain ⟨_, _, ⟨T3, Lq3, kq3, nq3⟩, -, X3, ⟨Lc3, hQ3, lq3, yq3, zq3⟩, st3⟩ := X1.specialBack hx (y := (⟨"java/lang/String", "<init>", "([C)V"⟩ : MethodName)) rfl hown (mvT hZ (hw _ (own_w 13 rfl))) (mvT hZ (hw _ (own_w 14 rfl))) (mvT hZ (hw _ (own_w 15 rfl))) (by decide) (backOf (W := 1) (rI1 l Z a0 hw [] b1o a2 [c0, c1, c2, c3] kc G1 h1 n0 Z1 A1 F1_25 F1_26 b1 f4 O_2 P5 O_A O_H O_W f5 (Nat.le_of_ble_eq_true rfl) (Nat.le_of_ble_eq_true rfl) (own_cons q0 (own_cons q1 (own_cons q2 (own_cons q3 own_nil)))) (Ne.symm ne2)) hZ (hw _ (own_w 15 rfl)) (hw _ (own_w 12 rfl)) (by decide) (by decide)) (g := (mkF m 110 #[.val (.int (4 : Int32)), .val (.ref a2), .unset] [(.ref a2), (.ref b1o), (.ref b1o)])) rfl (by rw [hml]; rfl) (Steps.refl _) (a := b1o) (argsL := [(.ref a2)]) (rest := [(.ref b1o)]) (lenOf pd_27 rfl) rfl (by show 2 * 0 + _ ≤ _; exact Nat.le_of_eq rfl) (hb hby d2_110) (fun _ _ => ⟨rfl, e1, (by decide : 1 + 2 ≤ _), (by decide : 4 + 24 ≤ _)⟩)
  dsimp only [Pt.U, Pt.locs, Pt.cells, Pt.slots] at X3 lq3 yq3 zq3 st3 hQ3
  subst lq3 yq3 zq3
  obtain ⟨rfl, N3q, KC3, TS3⟩ := hQ3
  have N3 := Fr.app N0 N3q
  have Z3 : n0 ≤ T3.heap.size := Nat.le_trans Z1 KC3.1
  have K3 : Keep h0 T3.heap [] := K1.trans KC3 (allS (Or.inr bk1) all0)
  obtain ⟨fs, hr, hrun, hended, hW, hsame⟩ := X3.leave (v := some (.ref b1o)) (fun h => by rw [Bd.returns] at h; cases h) (BodyLoose.notSynchronized Bd)
  refine ⟨_, _, pre0 _ ?_, hrun, hended, _, _, rfl, ?_, ⟨_, rfl⟩, hW, hsame.mono (by decide) (by decide)⟩
  · show Steps p.tables e below (s₁.setTop (mkF m 0 #[.val (.int (4 : Int32)), .val (.ref a2), .unset] [])) _
    refine XS.iloadN X0.here hx rfl (hb hby d2_0) rfl ?_
    refine XS.ifYes X0.here hx rfl (pc0 := 1) (pc' := 15) rfl (hb hby d2_1) rfl ((if0 _ _).trans (feq (by decide)).2) (by decide) (by decide) ?_
    refine XS.iloadN X0.here hx rfl (hb hby d2_15) rfl ?_
    refine XS.iconst X0.here hx rfl (hb hby d2_16) ?_
    refine XS.icmpYes X0.here hx rfl (pc0 := 17) (pc' := 39) rfl (hb hby d2_17) rfl (feq (by decide)).2 (by decide) (by decide) ?_
    refine XS.iloadN X0.here hx rfl (hb hby d2_39) rfl ?_
    refine XS.iconst X0.here hx rfl (hb hby d2_40) ?_
    refine XS.icmpYes X0.here hx rfl (pc0 := 41) (pc' := 69) rfl (hb hby d2_41) rfl (feq (by decide)).2 (by decide) (by decide) ?_
    refine XS.iloadN X0.here hx rfl (hb hby d2_69) rfl ?_
    refine XS.iconst X0.here hx rfl (hb hby d2_70) ?_
    refine XS.icmpYes X0.here hx rfl (pc0 := 71) (pc' := 105) rfl (hb hby d2_71) rfl (feq (by decide)).2 (by decide) (by decide) ?_
    refine st1 _ ?_
    refine XS.dup X1.here hx rfl (hb hby d2_108) rfl rfl ?_
    refine XS.aloadN X1.here hx rfl (hb hby d2_109) rfl rfl ?_
    refine st3.trans ?_
    show Steps p.tables e below (T3.setTop (mkF m 113 #[.val (.int (4 : Int32)), .val (.ref a2), .unset] [(.ref b1o)])) _
    exact X3.areturnOut hx rfl Bd.returns rfl (hb hby d2_113) hr
  · show QrMk4 Z a2 c0 c1 c2 c3 kc G1 h0 n0 _ T3.heap _
    have qt := TS3
    exact ⟨b1o, rfl, N3, K3, qt⟩
theorem pd_28 : parseMethodDescriptor "(I)C" = some ⟨[.int], some .char⟩ := by decide +kernel
theorem d28_0 : decode method_5_code 0 = .ok (.iload_n 1, 1) := by decide +kernel
theorem d28_1 : decode method_5_code 1 = .ok (.iload_n 2, 1) := by decide +kernel
theorem d28_2 : decode method_5_code 2 = .ok (.if_icmp .ge 17, 3) := by decide +kernel
theorem d28_5 : decode method_5_code 5 = .ok (.aload_n 0, 1) := by decide +kernel
theorem d28_6 : decode method_5_code 6 = .ok (.iload_n 1, 1) := by decide +kernel
theorem d28_7 : decode method_5_code 7 = .ok (.invokevirtual 13, 3) := by decide +kernel
theorem d28_10 : decode method_5_code 10 = .ok (.aload_n 3, 1) := by decide +kernel
theorem d28_11 : decode method_5_code 11 = .ok (.iload 4, 2) := by decide +kernel
theorem d28_13 : decode method_5_code 13 = .ok (.iload_n 1, 1) := by decide +kernel
theorem d28_14 : decode method_5_code 14 = .ok (.iadd, 1) := by decide +kernel
theorem d28_15 : decode method_5_code 15 = .ok (.caload, 1) := by decide +kernel
theorem d28_16 : decode method_5_code 16 = .ok (.if_icmp .ne 7, 3) := by decide +kernel
theorem d28_19 : decode method_5_code 19 = .ok (.iconst 1, 1) := by decide +kernel
theorem d28_20 : decode method_5_code 20 = .ok (.goto 4, 3) := by decide +kernel
theorem d28_24 : decode method_5_code 24 = .ok (.ireturn, 1) := by decide +kernel
theorem pn_28 : plainName "com/example/wrasse/wrasse/io/LineFilesContentPinLaw" = true := by first | (simp [plainName, overriddenIn]; done) | decide +kernel
theorem ef_rAt (m : MethodId) (a1 : Addr) (p2 : Int32) (p3 : Int32) (a4 : Addr) (p5 : Int32) : entryFrame m #[(.ref a1), (.int p2), (.int p3), (.ref a4), (.int p5)] 5 = mkF m 0 #[.val (.ref a1), .val (.int p2), .val (.int p3), .val (.ref a4), .val (.int p5)] [] := by first | (simp [entryFrame, mkF, argsToLocals, Value.category]; done) | rfl
def QrAt (Z : State) (a1 : Addr) (p2 : Int32) (p3 : Int32) (a4 : Addr) (p5 : Int32) (ct : List Int32) (i : Nat) (sq : Nat) (kc : ClassId) (vs : List Value) (G1 : Int32) (gv : Value) (h0 : Heap) (n0 : Nat) (v : Option Value) (h : Heap) (L : List Loc) : Prop := ∃ z : Int32, z = ((1 : Int32)) ∧ v = some (.int z) ∧ Fr n0 L ∧ h = h0
set_option maxRecDepth 65536 in
set_option maxHeartbeats 40000000 in
theorem rAt (l : Launch) (Z : State) (a0 : Array Value) (hw : ∀ d ∈ tables_1, d.before a0 Z = true) (ws : List Jvm.Cond) (a1 : Addr) (p2 : Int32) (p3 : Int32) (a4 : Addr) (p5 : Int32) (ct : List Int32) (i : Nat) (sq : Nat) (kc : ClassId) (vs : List Value) (G1 : Int32) (gv : Value) (h0 : Heap) (n0 : Nat) (Z0 : n0 ≤ h0.size) (X00 : Old Z n0 h0) (O_S : Sta Z Z.heap "jdk/internal/util/Preconditions" "SIOOBE_FORMATTER" "Ljava/util/function/BiFunction;" gv) (hgv : gv.isRef = true) (O_2 : Sta Z Z.heap "java/lang/String" "COMPACT_STRINGS" "Z" (.int G1)) (P5 : ¬ (G1 = (0 : Int32))) (O_A : Sta Z Z.heap "java/lang/StringUTF16" "$assertionsDisabled" "Z" (.int (1 : Int32))) (O_H : Sta Z Z.heap "java/lang/StringUTF16" "HI_BYTE_SHIFT" "I" (.int (0 : Int32))) (O_W : Sta Z Z.heap "java/lang/StringUTF16" "LO_BYTE_SHIFT" "I" (.int (8 : Int32))) (T : own_S Z h0 a1 ct) (hL : ct.length < 8) (hcs : ∀ c ∈ ct, own_ch c) (hp : p2 = Int32.ofNat i) (hi8 : i < 8) (hp3 : p3 = Int32.ofNat ct.length) (AC : Arv Z h0 a4 kc .char (4 : Int32) vs (.int (0 : Int32))) (hp5 : p5 = Int32.ofNat sq) (hq4 : sq + ct.length ≤ 4) (hv : ∀ k, k < ct.length → vs.getD (sq + k) (.int (0 : Int32)) = .int (ct.getD k 0)) :
    MetFree l (⟨"com/example/wrasse/wrasse/io/LineFilesContentPinLaw", "at", "(Ljava/lang/String;II[CI)Z"⟩ : MethodName) (head1 (Jvm.Cond.code (⟨"com/example/wrasse/wrasse/io/LineFilesContentPinLaw", "at", "(Ljava/lang/String;II[CI)Z"⟩ : MethodName) method_5_code 5 (some .boolean) :: ws) ({ frames := 5, cells := 0, slots := 0, locals := 66 } : Room)) (fun a U => a = #[(.ref a1), (.int p2), (.int p3), (.ref a4), (.int p5)] ∧ Z.Warmed39 U.vm ∧ U.heap = h0) (fun _ _ _ _ _ => True) (fun _ U o U' => ∃ v L, o = .returned v ∧ QrAt Z a1 p2 p3 a4 p5 ct i sq kc vs G1 gv h0 n0 v U'.heap L ∧ FrameEnd U o U' L ({ frames := 5, cells := 0, slots := 0, locals := 66 } : Room).cells ({ frames := 5, cells := 0, slots := 0, locals := 66 } : Room).slots) := by
  refine MetFree.of_bodySF (plainFor_of_name pn_28) hisR ?_
  intro p e s m args below meth c s₁ Bd hml0 hP hK
  obtain ⟨rfl, hZ, hh⟩ := hP
  have hx := Bd.exec
  have hby := Bd.bytes
  have hml : c.maxLocals = 5 := hml0
  have hown : s.vm.findClass "com/example/wrasse/wrasse/io/LineFilesContentPinLaw" = some m.cls := findClass_of_methodNamed Bd.named
  have hnm := (name_of_methodNamed Bd.named Bd.method).1
  have X0 : Stand p l e ({ frames := 5, cells := 0, slots := 0, locals := 66 } : Room) s m #[(.ref a1), (.int p2), (.int p3), (.ref a4), (.int p5)] below meth c s₁ [] 0 0 := Stand.of_body Bd
  have e0 : s₁.heap = h0 := by rw [← hh, Bd.state]; rfl
  have N0 := Fr.nil n0
  have pre0 : ∀ t, Steps p.tables e below (s₁.setTop (mkF m 0 #[.val (.ref a1), .val (.int p2), .val (.int p3), .val (.ref a4), .val (.int p5)] [])) t → Steps p.tables e below (s₁.setTop (entryFrame m #[(.ref a1), (.int p2), (.int p3), (.ref a4), (.int p5)] 5)) t := fun t k => castTop (ef_rAt m a1 p2 p3 a4 p5) k
  by_cases hi : i < ct.length
  · skip
    obtain ⟨cq1, kz1, q1a, q1b, q1c⟩ := isOf hZ e0 (own_Sexa T)
    obtain ⟨_, _, ⟨T1, Lq1, kq1, nq1⟩, -, X1, ⟨Lc1, hQ1, lq1, yq1, zq1⟩, st1⟩ := X0.virtualBack hx (y := (⟨"java/lang/String", "charAt", "(I)C"⟩ : MethodName)) (z := (⟨"java/lang/String", "charAt", "(I)C"⟩ : MethodName)) hown (mvT hZ (hw _ (own_w 133 rfl))) (mvT hZ (hw _ (own_w 72 rfl))) (notFace_of_selects (args := #[]) (mvT hZ (hw _ (own_w 74 rfl)))) (mvT hZ (hw _ (own_w 74 rfl))) (mvT hZ (hw _ (own_w 73 rfl))) (by decide) (backOf (W := 0) (rCh l Z a0 hw [] a1 p2 ct (i) G1 gv h0 n0 Z0 X00 O_S hgv O_2 P5 O_A O_H O_W T hp hi hL hcs) hZ (hw _ (own_w 75 rfl)) (hw _ (own_w 12 rfl)) (by decide) (by decide)) q1a q1c (g := (mkF m 7 #[.val (.ref a1), .val (.int p2), .val (.int p3), .val (.ref a4), .val (.int p5)] [(.int p2), (.ref a1)])) rfl (by rw [hml]; rfl) (Steps.refl _) (argsL := [(.int p2)]) (rest := []) (lenOf pd_28 rfl) rfl (by show 2 * 0 + _ ≤ _; exact Nat.le_of_eq rfl) (hb hby d28_7) (fun _ _ => ⟨rfl, e0, (by decide : 0 + 0 ≤ _), (by decide : 0 + 0 ≤ _)⟩)
    dsimp only [Pt.U, Pt.locs, Pt.cells, Pt.slots] at X1 lq1 yq1 zq1 st1 hQ1
    subst lq1 yq1 zq1
    obtain ⟨r1, hr1, rfl, N1q, e1⟩ := hQ1
    have N1 := Fr.app N0 N1q
    obtain ⟨cl2, Ar2, qk2, Sz2, Nn2, Hh2, Gg2⟩ := id (AC)
    have hin3 : ¬ ((Int32.ofNat (sq + i)) < 0 ∨ cl2.slots.size ≤ ((Int32.ofNat (sq + i))).toNatClampNeg) := inb_of Sz2 ⟨own_x0 (by omega), (own_xlt (n := 4) (by omega) (by omega)).mpr (by omega)⟩
    have hat3 : cl2.slots[((Int32.ofNat (sq + i))).toNatClampNeg]? = some (.int (ct.getD i 0)) := Has.at Hh2 hin3 (by rw [own_xN (by omega)]; exact hv i hi)
    obtain ⟨fs, hr, hrun, hended, hW, hsame⟩ := X1.leave (v := some (.int (1 : Int32))) (fun h => by rw [Bd.returns] at h; cases h) (BodyLoose.notSynchronized Bd)
    refine ⟨_, _, pre0 _ ?_, hrun, hended, _, _, rfl, ?_, ⟨_, rfl⟩, hW, hsame.mono (by decide) (by decide)⟩
    · show Steps p.tables e below (s₁.setTop (mkF m 0 #[.val (.ref a1), .val (.int p2), .val (.int p3), .val (.ref a4), .val (.int p5)] [])) _
      refine XS.iloadN X0.here hx rfl (hb hby d28_0) rfl ?_
      refine XS.iloadN X0.here hx rfl (hb hby d28_1) rfl ?_
      refine XS.icmpNo X0.here hx rfl (hb hby d28_2) rfl (tlt (by rw [hp, hp3]; exact (own_xlt (by omega) (by omega)).mpr hi)).2.1 ?_
      refine XS.aloadN X0.here hx rfl (hb hby d28_5) rfl rfl ?_
      refine XS.iloadN X0.here hx rfl (hb hby d28_6) rfl ?_
      refine st1.trans ?_
      refine XS.aloadN X1.here hx rfl (hb hby d28_10) rfl rfl ?_
      refine XS.iload X1.here hx rfl (hb hby d28_11) rfl ?_
      refine XS.iloadN X1.here hx rfl (hb hby d28_13) rfl ?_
      refine XS.iadd X1.here hx rfl (hb hby d28_14) rfl ?_
      show Steps p.tables e below (T1.setTop (mkF m 15 #[.val (.ref a1), .val (.int p2), .val (.int p3), .val (.ref a4), .val (.int p5)] [(.int (p5 + p2)), (.ref a4), (.int r1)])) _
      rw [(show p5 + p2 = Int32.ofNat (sq + i) by rw [hp5, hp]; exact own_xadd (by omega) (by omega))]
      show Steps p.tables e below (T1.setTop (mkF m 15 #[.val (.ref a1), .val (.int p2), .val (.int p3), .val (.ref a4), .val (.int p5)] [(.int (Int32.ofNat (sq + i))), (.ref a4), (.int r1)])) _
      refine X1.caload hx (j := (Int32.ofNat (sq + i))) (v := (.int (ct.getD i 0))) (by rw [e1]; exact Ar2.1) (State.isArrayOf_alike hZ.alike Ar2.2.1) Ar2.2.2 hin3 hat3 (g := (mkF m 15 #[.val (.ref a1), .val (.int p2), .val (.int p3), .val (.ref a4), .val (.int p5)] [(.int (Int32.ofNat (sq + i))), (.ref a4), (.int r1)])) rfl rfl (hb hby d28_15) _ ?_
      refine XS.icmpNo X1.here hx rfl (hb hby d28_16) rfl (teq hr1).2 ?_
      refine XS.iconst X1.here hx rfl (hb hby d28_19) ?_
      refine XS.goto X1.here hx rfl (pc0 := 20) (pc' := 24) rfl (hb hby d28_20) (by decide) (by decide) ?_
      show Steps p.tables e below (T1.setTop (mkF m 24 #[.val (.ref a1), .val (.int p2), .val (.int p3), .val (.ref a4), .val (.int p5)] [(.int (1 : Int32))])) _
      exact retN X1 hx (t := .boolean) Bd.returns (by simp) (hb hby d28_24) hr
    · show QrAt Z a1 p2 p3 a4 p5 ct i sq kc vs G1 gv h0 n0 _ T1.heap _
      exact ⟨_, rfl, rfl, N1, e1⟩
  · skip
    obtain ⟨fs, hr, hrun, hended, hW, hsame⟩ := X0.leave (v := some (.int (1 : Int32))) (fun h => by rw [Bd.returns] at h; cases h) (BodyLoose.notSynchronized Bd)
    refine ⟨_, _, pre0 _ ?_, hrun, hended, _, _, rfl, ?_, ⟨_, rfl⟩, hW, hsame.mono (by decide) (by decide)⟩
    · show Steps p.tables e below (s₁.setTop (mkF m 0 #[.val (.ref a1), .val (.int p2), .val (.int p3), .val (.ref a4), .val (.int p5)] [])) _
      refine XS.iloadN X0.here hx rfl (hb hby d28_0) rfl ?_
      refine XS.iloadN X0.here hx rfl (hb hby d28_1) rfl ?_
      refine XS.icmpYes X0.here hx rfl (pc0 := 2) (pc' := 19) rfl (hb hby d28_2) rfl (flt (by rw [hp, hp3]; exact own_xle (by omega) (by omega))).2.1 (by decide) (by decide) ?_
      refine XS.iconst X0.here hx rfl (hb hby d28_19) ?_
      refine XS.goto X0.here hx rfl (pc0 := 20) (pc' := 24) rfl (hb hby d28_20) (by decide) (by decide) ?_
      show Steps p.tables e below (s₁.setTop (mkF m 24 #[.val (.ref a1), .val (.int p2), .val (.int p3), .val (.ref a4), .val (.int p5)] [(.int (1 : Int32))])) _
      exact retN X0 hx (t := .boolean) Bd.returns (by simp) (hb hby d28_24) hr
    · show QrAt Z a1 p2 p3 a4 p5 ct i sq kc vs G1 gv h0 n0 _ s₁.heap _
      exact ⟨_, rfl, rfl, N0, e0⟩
theorem pd_29 : parseMethodDescriptor "()Ljava/lang/Object;" = some ⟨[], some (.object "java/lang/Object")⟩ := by decide +kernel
theorem pd_30 : parseMethodDescriptor "(Ljava/lang/String;II[CI)Z" = some ⟨[(.object "java/lang/String"), .int, .int, (.array .char), .int], some .boolean⟩ := by decide +kernel
set_option maxRecDepth 65536 in
set_option maxHeartbeats 40000000 in
theorem own_tail {p : Program} {l : Launch} {e : Env} {R : Room} {s : State} {m : MethodId} {args : Array Value} {below : List Frame} {meth : Method} {c : Code} {cells slots : Nat} {Z : State} {a0 : Array Value} {n0 : Nat} {ca ln og x : Addr} {kc : ClassId} {ct : List Int32} {sq : Nat} {vs : List Value} {q1 q2 q3 q4 q5 G1 : Int32} {gv : Value} {h0 : Heap} (hRf : 6 ≤ R.frames) (hRl : 82 ≤ R.locals) (hRc : cells ≤ R.cells) (hRs : slots ≤ R.slots) (hx : p.tables.exec = Jvm.exec) (hZ : Z.Warmed39 s.vm) (hw : ∀ d ∈ tables_1, d.before a0 Z = true) (hby : c.code = code) (hml : c.maxLocals = 13) (hown : s.vm.findClass "com/example/wrasse/wrasse/io/LineFilesContentPinLaw" = some m.cls) (X00 : Old Z n0 h0) (O_S : Sta Z Z.heap "jdk/internal/util/Preconditions" "SIOOBE_FORMATTER" "Ljava/util/function/BiFunction;" gv) (hgv : gv.isRef = true) (O_2 : Sta Z Z.heap "java/lang/String" "COMPACT_STRINGS" "Z" (.int G1)) (P5 : ¬ (G1 = (0 : Int32))) (O_A : Sta Z Z.heap "java/lang/StringUTF16" "$assertionsDisabled" "Z" (.int (1 : Int32))) (O_H : Sta Z Z.heap "java/lang/StringUTF16" "HI_BYTE_SHIFT" "I" (.int (0 : Int32))) (O_W : Sta Z Z.heap "java/lang/StringUTF16" "LO_BYTE_SHIFT" "I" (.int (8 : Int32)))  (Z0 : n0 ≤ h0.size) (T : own_S Z h0 x ct) (hL : ct.length < 8) (hcs : ∀ c ∈ ct, own_ch c) (EO : Exa Z h0 og "java/util/Optional") (FV : Fld Z h0 og "java/util/Optional" "value" "Ljava/lang/Object;" (.ref x)) (AC : Arv Z h0 ca kc .char (4 : Int32) vs (.int (0 : Int32))) (hq4 : sq + ct.length ≤ 4) (hv : ∀ k, k < ct.length → vs.getD (sq + k) (.int (0 : Int32)) = .int (ct.getD k 0))
    (T0 : State) (L0 : List Loc) (X0 : Stand p l e R s m args below meth c T0 L0 cells slots) (e0 : T0.heap = h0) (N0 : Fr n0 L0) :
    ∃ (T' : State) (L' : List Loc), Stand p l e R s m args below meth c T' L' cells slots ∧ T'.heap = h0 ∧ Fr n0 L' ∧ ∀ target, Steps p.tables e below (T'.setTop (mkF m 294 #[.val (.int q1), .val (.int q2), .val (.int q3), .val (.int q4), .val (.int q5), .val (.int (Int32.ofNat (sq + ct.length))), .val (.ref ca), .val (.ref ln), .val (.int (Int32.ofNat sq)), .val (.int (1 : Int32)), .val (.ref og), .val (.ref x), .val (.int (Int32.ofNat ct.length))] [.int (1 : Int32)])) target → Steps p.tables e below (T0.setTop (mkF m 190 #[.val (.int q1), .val (.int q2), .val (.int q3), .val (.int q4), .val (.int q5), .val (.int (Int32.ofNat (sq + ct.length))), .val (.ref ca), .val (.ref ln), .val (.int (Int32.ofNat sq)), .val (.int (1 : Int32)), .val (.ref og), .unset, .unset] [])) target := by
  obtain ⟨cq1, kz1, q1a, q1b, q1c⟩ := isOf hZ e0 EO
  obtain ⟨_, _, ⟨T1, Lq1, kq1, nq1⟩, -, X1, ⟨Lc1, hQ1, lq1, yq1, zq1⟩, st1⟩ := X0.virtualBack hx (y := (⟨"java/util/Optional", "isPresent", "()Z"⟩ : MethodName)) (z := (⟨"java/util/Optional", "isPresent", "()Z"⟩ : MethodName)) hown (mvT hZ (hw _ (own_w 51 rfl))) (mvT hZ (hw _ (own_w 52 rfl))) (notFace_of_selects (args := #[]) (mvT hZ (hw _ (own_w 54 rfl)))) (mvT hZ (hw _ (own_w 54 rfl))) (mvT hZ (hw _ (own_w 53 rfl))) (by decide) (backOf (W := 0) (rOp1 l Z a0 hw [] og x h0 n0 Z0 FV) hZ (hw _ (own_w 55 rfl)) (hw _ (own_w 48 rfl)) (Nat.le_trans (by decide) hRf) (Nat.le_trans (by decide) hRl)) q1a q1c (g := (mkF m 192 #[.val (.int q1), .val (.int q2), .val (.int q3), .val (.int q4), .val (.int q5), .val (.int (Int32.ofNat (sq + ct.length))), .val (.ref ca), .val (.ref ln), .val (.int (Int32.ofNat sq)), .val (.int (1 : Int32)), .val (.ref og), .unset, .unset] [(.ref og)])) rfl (by rw [hml]; rfl) (Steps.refl _) (argsL := []) (rest := []) (lenOf pd_7 rfl) rfl (by show 2 * 0 + _ ≤ _; exact Nat.le_of_eq rfl) (hb hby at_192) (fun _ _ => ⟨rfl, e0, hRc, hRs⟩)
  dsimp only [Pt.U, Pt.locs, Pt.cells, Pt.slots] at X1 lq1 yq1 zq1 st1 hQ1
  subst lq1 yq1 zq1
  obtain ⟨r1, hr1, rfl, N1q, e1⟩ := hQ1
  have N1 := Fr.app N0 N1q
  subst hr1
  obtain ⟨cq2, kz2, q2a, q2b, q2c⟩ := isOf hZ e1 EO
  obtain ⟨_, _, ⟨T2, Lq2, kq2, nq2⟩, -, X2, ⟨Lc2, hQ2, lq2, yq2, zq2⟩, st2⟩ := X1.virtualBack hx (y := (⟨"java/util/Optional", "get", "()Ljava/lang/Object;"⟩ : MethodName)) (z := (⟨"java/util/Optional", "get", "()Ljava/lang/Object;"⟩ : MethodName)) hown (mvT hZ (hw _ (own_w 124 rfl))) (mvT hZ (hw _ (own_w 125 rfl))) (notFace_of_selects (args := #[]) (mvT hZ (hw _ (own_w 127 rfl)))) (mvT hZ (hw _ (own_w 127 rfl))) (mvT hZ (hw _ (own_w 126 rfl))) (by decide) (backOf (W := 0) (rOg l Z a0 hw [] og x h0 n0 Z0 FV) hZ (hw _ (own_w 128 rfl)) (hw _ (own_w 48 rfl)) (Nat.le_trans (by decide) hRf) (Nat.le_trans (by decide) hRl)) q2a q2c (g := (mkF m 202 #[.val (.int q1), .val (.int q2), .val (.int q3), .val (.int q4), .val (.int q5), .val (.int (Int32.ofNat (sq + ct.length))), .val (.ref ca), .val (.ref ln), .val (.int (Int32.ofNat sq)), .val (.int (1 : Int32)), .val (.ref og), .unset, .unset] [(.ref og)])) rfl (by rw [hml]; rfl) (Steps.refl _) (argsL := []) (rest := []) (lenOf pd_29 rfl) rfl (by show 2 * 0 + _ ≤ _; exact Nat.le_of_eq rfl) (hb hby at_202) (fun _ _ => ⟨rfl, e1, hRc, hRs⟩)
  dsimp only [Pt.U, Pt.locs, Pt.cells, Pt.slots] at X2 lq2 yq2 zq2 st2 hQ2
  subst lq2 yq2 zq2
  obtain ⟨rfl, N2q, e2⟩ := hQ2
  have N2 := Fr.app N1 N2q
  obtain ⟨T3, X3, e3, st3⟩ := castY X2 hx hZ hown (hw _ (own_w 10 rfl)) e2 (Ins.self (own_Sexa T)) (g := (mkF m 205 #[.val (.int q1), .val (.int q2), .val (.int q3), .val (.int q4), .val (.int q5), .val (.int (Int32.ofNat (sq + ct.length))), .val (.ref ca), .val (.ref ln), .val (.int (Int32.ofNat sq)), .val (.int (1 : Int32)), .val (.ref og), .unset, .unset] [(.ref x)])) rfl rfl (hb hby at_205)
  obtain ⟨cq4, kz4, q4a, q4b, q4c⟩ := isOf hZ e3 (own_Sexa T)
  obtain ⟨_, _, ⟨T4, Lq4, kq4, nq4⟩, -, X4, ⟨Lc4, hQ4, lq4, yq4, zq4⟩, st4⟩ := X3.virtualBack hx (y := (⟨"java/lang/String", "length", "()I"⟩ : MethodName)) (z := (⟨"java/lang/String", "length", "()I"⟩ : MethodName)) hown (mvT hZ (hw _ (own_w 129 rfl))) (mvT hZ (hw _ (own_w 36 rfl))) (notFace_of_selects (args := #[]) (mvT hZ (hw _ (own_w 38 rfl)))) (mvT hZ (hw _ (own_w 38 rfl))) (mvT hZ (hw _ (own_w 37 rfl))) (by decide) (backOf (W := 0) (rLe l Z a0 hw [] x ct G1 h0 n0 Z0 X00 O_2 P5 T hL) hZ (hw _ (own_w 39 rfl)) (hw _ (own_w 12 rfl)) (Nat.le_trans (by decide) hRf) (Nat.le_trans (by decide) hRl)) q4a q4c (g := (mkF m 219 #[.val (.int q1), .val (.int q2), .val (.int q3), .val (.int q4), .val (.int q5), .val (.int (Int32.ofNat (sq + ct.length))), .val (.ref ca), .val (.ref ln), .val (.int (Int32.ofNat sq)), .val (.int (1 : Int32)), .val (.ref og), .val (.ref x), .val (.int (Int32.ofNat ct.length))] [(.ref x)])) rfl (by rw [hml]; rfl) (Steps.refl _) (argsL := []) (rest := []) (lenOf pd_21 rfl) rfl (by show 2 * 0 + _ ≤ _; exact Nat.le_of_eq rfl) (hb hby at_219) (fun _ _ => ⟨rfl, e3, hRc, hRs⟩)
  dsimp only [Pt.U, Pt.locs, Pt.cells, Pt.slots] at X4 lq4 yq4 zq4 st4 hQ4
  subst lq4 yq4 zq4
  obtain ⟨r4, hr4, rfl, N4q, e4⟩ := hQ4
  have N4 := Fr.app N2 N4q
  obtain ⟨_, _, ⟨T5, Lq5, kq5, nq5⟩, -, X5, ⟨Lc5, hQ5, lq5, yq5, zq5⟩, st5⟩ := Jvm.LawKit.callS X4 hx (y := (⟨"com/example/wrasse/wrasse/io/LineFilesContentPinLaw", "at", "(Ljava/lang/String;II[CI)Z"⟩ : MethodName)) hown (mvT hZ (hw _ (own_w 130 rfl))) (mvT hZ (hw _ (own_w 131 rfl))) (mvT hZ (hw _ (own_w 4 rfl))) (mvT hZ (hw _ (own_w 132 rfl))) (by decide) (backOf (W := 0) (rAt l Z a0 hw [] x (0 : Int32) (Int32.ofNat ct.length) ca (Int32.ofNat sq) ct 0 sq kc vs G1 gv h0 n0 Z0 X00 O_S hgv O_2 P5 O_A O_H O_W T hL hcs rfl (by decide) rfl AC rfl hq4 hv) hZ (hw _ (own_w 132 rfl)) (hw _ (own_w 4 rfl)) (Nat.le_trans (by decide) hRf) (Nat.le_trans (by decide) hRl)) (g := (mkF m 238 #[.val (.int q1), .val (.int q2), .val (.int q3), .val (.int q4), .val (.int q5), .val (.int (Int32.ofNat (sq + ct.length))), .val (.ref ca), .val (.ref ln), .val (.int (Int32.ofNat sq)), .val (.int (1 : Int32)), .val (.ref og), .val (.ref x), .val (.int (Int32.ofNat ct.length))] [(.int (Int32.ofNat sq)), (.ref ca), (.int (Int32.ofNat ct.length)), (.int (0 : Int32)), (.ref x)])) rfl (by rw [hml]; rfl) (argsL := [(.ref x), (.int (0 : Int32)), (.int (Int32.ofNat ct.length)), (.ref ca), (.int (Int32.ofNat sq))]) (rest := []) (lenOf pd_30 rfl) rfl (by show 2 * 0 + _ ≤ _; exact Nat.le_of_eq rfl) (hb hby at_238) (fun _ _ => ⟨rfl, e4, hRc, hRs⟩)
  dsimp only [Pt.U, Pt.locs, Pt.cells, Pt.slots] at X5 lq5 yq5 zq5 st5 hQ5
  subst lq5 yq5 zq5
  obtain ⟨r5, hr5, rfl, N5q, e5⟩ := hQ5
  have N5 := Fr.app N4 N5q
  subst hr5
  obtain ⟨_, _, ⟨T6, Lq6, kq6, nq6⟩, -, X6, ⟨Lc6, hQ6, lq6, yq6, zq6⟩, st6⟩ := Jvm.LawKit.callS X5 hx (y := (⟨"com/example/wrasse/wrasse/io/LineFilesContentPinLaw", "at", "(Ljava/lang/String;II[CI)Z"⟩ : MethodName)) hown (mvT hZ (hw _ (own_w 130 rfl))) (mvT hZ (hw _ (own_w 131 rfl))) (mvT hZ (hw _ (own_w 4 rfl))) (mvT hZ (hw _ (own_w 132 rfl))) (by decide) (backOf (W := 0) (rAt l Z a0 hw [] x (1 : Int32) (Int32.ofNat ct.length) ca (Int32.ofNat sq) ct 1 sq kc vs G1 gv h0 n0 Z0 X00 O_S hgv O_2 P5 O_A O_H O_W T hL hcs rfl (by decide) rfl AC rfl hq4 hv) hZ (hw _ (own_w 132 rfl)) (hw _ (own_w 4 rfl)) (Nat.le_trans (by decide) hRf) (Nat.le_trans (by decide) hRl)) (g := (mkF m 253 #[.val (.int q1), .val (.int q2), .val (.int q3), .val (.int q4), .val (.int q5), .val (.int (Int32.ofNat (sq + ct.length))), .val (.ref ca), .val (.ref ln), .val (.int (Int32.ofNat sq)), .val (.int (1 : Int32)), .val (.ref og), .val (.ref x), .val (.int (Int32.ofNat ct.length))] [(.int (Int32.ofNat sq)), (.ref ca), (.int (Int32.ofNat ct.length)), (.int (1 : Int32)), (.ref x)])) rfl (by rw [hml]; rfl) (argsL := [(.ref x), (.int (1 : Int32)), (.int (Int32.ofNat ct.length)), (.ref ca), (.int (Int32.ofNat sq))]) (rest := []) (lenOf pd_30 rfl) rfl (by show 2 * 0 + _ ≤ _; exact Nat.le_of_eq rfl) (hb hby at_253) (fun _ _ => ⟨rfl, e5, hRc, hRs⟩)
  dsimp only [Pt.U, Pt.locs, Pt.cells, Pt.slots] at X6 lq6 yq6 zq6 st6 hQ6
  subst lq6 yq6 zq6
  obtain ⟨r6, hr6, rfl, N6q, e6⟩ := hQ6
  have N6 := Fr.app N5 N6q
  subst hr6
  obtain ⟨_, _, ⟨T7, Lq7, kq7, nq7⟩, -, X7, ⟨Lc7, hQ7, lq7, yq7, zq7⟩, st7⟩ := Jvm.LawKit.callS X6 hx (y := (⟨"com/example/wrasse/wrasse/io/LineFilesContentPinLaw", "at", "(Ljava/lang/String;II[CI)Z"⟩ : MethodName)) hown (mvT hZ (hw _ (own_w 130 rfl))) (mvT hZ (hw _ (own_w 131 rfl))) (mvT hZ (hw _ (own_w 4 rfl))) (mvT hZ (hw _ (own_w 132 rfl))) (by decide) (backOf (W := 0) (rAt l Z a0 hw [] x (2 : Int32) (Int32.ofNat ct.length) ca (Int32.ofNat sq) ct 2 sq kc vs G1 gv h0 n0 Z0 X00 O_S hgv O_2 P5 O_A O_H O_W T hL hcs rfl (by decide) rfl AC rfl hq4 hv) hZ (hw _ (own_w 132 rfl)) (hw _ (own_w 4 rfl)) (Nat.le_trans (by decide) hRf) (Nat.le_trans (by decide) hRl)) (g := (mkF m 268 #[.val (.int q1), .val (.int q2), .val (.int q3), .val (.int q4), .val (.int q5), .val (.int (Int32.ofNat (sq + ct.length))), .val (.ref ca), .val (.ref ln), .val (.int (Int32.ofNat sq)), .val (.int (1 : Int32)), .val (.ref og), .val (.ref x), .val (.int (Int32.ofNat ct.length))] [(.int (Int32.ofNat sq)), (.ref ca), (.int (Int32.ofNat ct.length)), (.int (2 : Int32)), (.ref x)])) rfl (by rw [hml]; rfl) (argsL := [(.ref x), (.int (2 : Int32)), (.int (Int32.ofNat ct.length)), (.ref ca), (.int (Int32.ofNat sq))]) (rest := []) (lenOf pd_30 rfl) rfl (by show 2 * 0 + _ ≤ _; exact Nat.le_of_eq rfl) (hb hby at_268) (fun _ _ => ⟨rfl, e6, hRc, hRs⟩)
  dsimp only [Pt.U, Pt.locs, Pt.cells, Pt.slots] at X7 lq7 yq7 zq7 st7 hQ7
  subst lq7 yq7 zq7
  obtain ⟨r7, hr7, rfl, N7q, e7⟩ := hQ7
  have N7 := Fr.app N6 N7q
  subst hr7
  obtain ⟨_, _, ⟨T8, Lq8, kq8, nq8⟩, -, X8, ⟨Lc8, hQ8, lq8, yq8, zq8⟩, st8⟩ := Jvm.LawKit.callS X7 hx (y := (⟨"com/example/wrasse/wrasse/io/LineFilesContentPinLaw", "at", "(Ljava/lang/String;II[CI)Z"⟩ : MethodName)) hown (mvT hZ (hw _ (own_w 130 rfl))) (mvT hZ (hw _ (own_w 131 rfl))) (mvT hZ (hw _ (own_w 4 rfl))) (mvT hZ (hw _ (own_w 132 rfl))) (by decide) (backOf (W := 0) (rAt l Z a0 hw [] x (3 : Int32) (Int32.ofNat ct.length) ca (Int32.ofNat sq) ct 3 sq kc vs G1 gv h0 n0 Z0 X00 O_S hgv O_2 P5 O_A O_H O_W T hL hcs rfl (by decide) rfl AC rfl hq4 hv) hZ (hw _ (own_w 132 rfl)) (hw _ (own_w 4 rfl)) (Nat.le_trans (by decide) hRf) (Nat.le_trans (by decide) hRl)) (g := (mkF m 283 #[.val (.int q1), .val (.int q2), .val (.int q3), .val (.int q4), .val (.int q5), .val (.int (Int32.ofNat (sq + ct.length))), .val (.ref ca), .val (.ref ln), .val (.int (Int32.ofNat sq)), .val (.int (1 : Int32)), .val (.ref og), .val (.ref x), .val (.int (Int32.ofNat ct.length))] [(.int (Int32.ofNat sq)), (.ref ca), (.int (Int32.ofNat ct.length)), (.int (3 : Int32)), (.ref x)])) rfl (by rw [hml]; rfl) (argsL := [(.ref x), (.int (3 : Int32)), (.int (Int32.ofNat ct.length)), (.ref ca), (.int (Int32.ofNat sq))]) (rest := []) (lenOf pd_30 rfl) rfl (by show 2 * 0 + _ ≤ _; exact Nat.le_of_eq rfl) (hb hby at_283) (fun _ _ => ⟨rfl, e7, hRc, hRs⟩)
  dsimp only [Pt.U, Pt.locs, Pt.cells, Pt.slots] at X8 lq8 yq8 zq8 st8 hQ8
  subst lq8 yq8 zq8
  obtain ⟨r8, hr8, rfl, N8q, e8⟩ := hQ8
  have N8 := Fr.app N7 N8q
  subst hr8
  refine ⟨T8, _, X8, e8, N8, fun target kt => ?_⟩
  refine XS.aload X0.here hx rfl (hb hby at_190) rfl rfl ?_
  refine st1.trans ?_
  refine XS.ifYes X1.here hx rfl (pc0 := 195) (pc' := 200) rfl (hb hby at_195) rfl ((if0 _ _).trans (feq (by decide)).2) (by decide) (by decide) ?_
  refine XS.aload X1.here hx rfl (hb hby at_200) rfl rfl ?_
  refine st2.trans ?_
  refine st3 _ ?_
  refine XS.astore X3.here hx rfl (hb hby at_208) rfl rfl (l' := #[.val (.int q1), .val (.int q2), .val (.int q3), .val (.int q4), .val (.int q5), .val (.int (Int32.ofNat (sq + ct.length))), .val (.ref ca), .val (.ref ln), .val (.int (Int32.ofNat sq)), .val (.int (1 : Int32)), .val (.ref og), .val (.ref x), .unset]) rfl ?_
  refine XS.iload X3.here hx rfl (hb hby at_210) rfl ?_
  refine XS.iload X3.here hx rfl (hb hby at_212) rfl ?_
  refine XS.isub X3.here hx rfl (hb hby at_214) rfl ?_
  show Steps p.tables e below (T3.setTop (mkF m 215 #[.val (.int q1), .val (.int q2), .val (.int q3), .val (.int q4), .val (.int q5), .val (.int (Int32.ofNat (sq + ct.length))), .val (.ref ca), .val (.ref ln), .val (.int (Int32.ofNat sq)), .val (.int (1 : Int32)), .val (.ref og), .val (.ref x), .unset] [(.int ((Int32.ofNat (sq + ct.length)) - (Int32.ofNat sq)))])) _
  rw [(own_xsubw (show sq + ct.length < 16 by omega))]
  show Steps p.tables e below (T3.setTop (mkF m 215 #[.val (.int q1), .val (.int q2), .val (.int q3), .val (.int q4), .val (.int q5), .val (.int (Int32.ofNat (sq + ct.length))), .val (.ref ca), .val (.ref ln), .val (.int (Int32.ofNat sq)), .val (.int (1 : Int32)), .val (.ref og), .val (.ref x), .unset] [(.int (Int32.ofNat ct.length))])) _
  refine XS.istore X3.here hx rfl (hb hby at_215) rfl (l' := #[.val (.int q1), .val (.int q2), .val (.int q3), .val (.int q4), .val (.int q5), .val (.int (Int32.ofNat (sq + ct.length))), .val (.ref ca), .val (.ref ln), .val (.int (Int32.ofNat sq)), .val (.int (1 : Int32)), .val (.ref og), .val (.ref x), .val (.int (Int32.ofNat ct.length))]) rfl ?_
  refine XS.aload X3.here hx rfl (hb hby at_217) rfl rfl ?_
  refine st4.trans ?_
  refine XS.iload X4.here hx rfl (hb hby at_222) rfl ?_
  refine XS.icmpYes X4.here hx rfl (pc0 := 224) (pc' := 229) rfl (hb hby at_224) rfl (teq hr4).1 (by decide) (by decide) ?_
  refine XS.aload X4.here hx rfl (hb hby at_229) rfl rfl ?_
  refine XS.iconst X4.here hx rfl (hb hby at_231) ?_
  refine XS.iload X4.here hx rfl (hb hby at_232) rfl ?_
  refine XS.aload X4.here hx rfl (hb hby at_234) rfl rfl ?_
  refine XS.iload X4.here hx rfl (hb hby at_236) rfl ?_
  refine st5 _ ?_
  refine XS.ifNo X5.here hx rfl (hb hby at_241) rfl ((if0 _ _).trans (feq (by decide)).1) ?_
  refine XS.aload X5.here hx rfl (hb hby at_244) rfl rfl ?_
  refine XS.iconst X5.here hx rfl (hb hby at_246) ?_
  refine XS.iload X5.here hx rfl (hb hby at_247) rfl ?_
  refine XS.aload X5.here hx rfl (hb hby at_249) rfl rfl ?_
  refine XS.iload X5.here hx rfl (hb hby at_251) rfl ?_
  refine st6 _ ?_
  refine XS.ifNo X6.here hx rfl (hb hby at_256) rfl ((if0 _ _).trans (feq (by decide)).1) ?_
  refine XS.aload X6.here hx rfl (hb hby at_259) rfl rfl ?_
  refine XS.iconst X6.here hx rfl (hb hby at_261) ?_
  refine XS.iload X6.here hx rfl (hb hby at_262) rfl ?_
  refine XS.aload X6.here hx rfl (hb hby at_264) rfl rfl ?_
  refine XS.iload X6.here hx rfl (hb hby at_266) rfl ?_
  refine st7 _ ?_
  refine XS.ifNo X7.here hx rfl (hb hby at_271) rfl ((if0 _ _).trans (feq (by decide)).1) ?_
  refine XS.aload X7.here hx rfl (hb hby at_274) rfl rfl ?_
  refine XS.iconst X7.here hx rfl (hb hby at_276) ?_
  refine XS.iload X7.here hx rfl (hb hby at_277) rfl ?_
  refine XS.aload X7.here hx rfl (hb hby at_279) rfl rfl ?_
  refine XS.iload X7.here hx rfl (hb hby at_281) rfl ?_
  refine st8 _ ?_
  refine XS.ifNo X8.here hx rfl (hb hby at_286) rfl ((if0 _ _).trans (feq (by decide)).1) ?_
  refine XS.iconst X8.here hx rfl (hb hby at_289) ?_
  refine XS.goto X8.here hx rfl (pc0 := 290) (pc' := 294) rfl (hb hby at_290) (by decide) (by decide) ?_
  exact kt
theorem d6_2 : decode prog_10_method_3_code 2 = .ok (.iload_n 1, 1) := by decide +kernel
theorem d6_3 : decode prog_10_method_3_code 3 = .ok (.aload_n 0, 1) := by decide +kernel
theorem d6_4 : decode prog_10_method_3_code 4 = .ok (.invokevirtual 65, 3) := by decide +kernel
theorem d6_7 : decode prog_10_method_3_code 7 = .ok (.if_icmp .ge 29, 3) := by decide +kernel
theorem d6_10 : decode prog_10_method_3_code 10 = .ok (.aload_n 0, 1) := by decide +kernel
theorem d6_11 : decode prog_10_method_3_code 11 = .ok (.iload_n 1, 1) := by decide +kernel
theorem d6_12 : decode prog_10_method_3_code 12 = .ok (.invokevirtual 71, 3) := by decide +kernel
theorem d6_15 : decode prog_10_method_3_code 15 = .ok (.bipush 32, 2) := by decide +kernel
theorem d6_17 : decode prog_10_method_3_code 17 = .ok (.if_icmp .eq 13, 3) := by decide +kernel
theorem d6_20 : decode prog_10_method_3_code 20 = .ok (.aload_n 0, 1) := by decide +kernel
theorem d6_21 : decode prog_10_method_3_code 21 = .ok (.iload_n 1, 1) := by decide +kernel
theorem d6_22 : decode prog_10_method_3_code 22 = .ok (.invokevirtual 71, 3) := by decide +kernel
theorem d6_25 : decode prog_10_method_3_code 25 = .ok (.bipush 9, 2) := by decide +kernel
theorem d6_27 : decode prog_10_method_3_code 27 = .ok (.if_icmp .ne 9, 3) := by decide +kernel
theorem d6_30 : decode prog_10_method_3_code 30 = .ok (.iinc 1 1, 3) := by decide +kernel
theorem d6_33 : decode prog_10_method_3_code 33 = .ok (.goto (-31), 3) := by decide +kernel
set_option maxRecDepth 65536 in
set_option maxHeartbeats 40000000 in
theorem own_ct {p : Program} {l : Launch} {e : Env} {R : Room} {s : State} {m : MethodId} {args : Array Value} {below : List Frame} {meth : Method} {c : Code} {cells slots : Nat} {Z : State} {a0 : Array Value} {n0 : Nat} {cs : List Int32} {a1 : Addr} {j : Nat} {G1 : Int32} {gv : Value} {h0 : Heap} (hRf : 5 ≤ R.frames) (hRl : 66 ≤ R.locals) (hRc : cells ≤ R.cells) (hRs : slots ≤ R.slots) (hx : p.tables.exec = Jvm.exec) (hZ : Z.Warmed39 s.vm) (hw : ∀ d ∈ tables_1, d.before a0 Z = true) (hby : c.code = prog_10_method_3_code) (hml : c.maxLocals = 3) (hown : s.vm.findClass "com/example/wrasse/wrasse/io/LineFiles" = some m.cls) (hL : cs.length < 8) (X00 : Old Z n0 h0) (O_S : Sta Z Z.heap "jdk/internal/util/Preconditions" "SIOOBE_FORMATTER" "Ljava/util/function/BiFunction;" gv) (hgv : gv.isRef = true) (O_2 : Sta Z Z.heap "java/lang/String" "COMPACT_STRINGS" "Z" (.int G1)) (P5 : ¬ (G1 = (0 : Int32))) (O_A : Sta Z Z.heap "java/lang/StringUTF16" "$assertionsDisabled" "Z" (.int (1 : Int32))) (O_H : Sta Z Z.heap "java/lang/StringUTF16" "HI_BYTE_SHIFT" "I" (.int (0 : Int32))) (O_W : Sta Z Z.heap "java/lang/StringUTF16" "LO_BYTE_SHIFT" "I" (.int (8 : Int32)))  (Z0 : n0 ≤ h0.size) (T : own_S Z h0 a1 cs) (hcs : ∀ c ∈ cs, own_ch c) (hbf : ∀ k, k < j → (cs.getD k 0 = (32 : Int32) ∨ cs.getD k 0 = (9 : Int32))) (hst : j = cs.length ∨ (j < cs.length ∧ ¬ (cs.getD j 0 = (32 : Int32) ∨ cs.getD j 0 = (9 : Int32)))) (f : Nat) :
    ∀ (i : Nat), i + f = j → ∀ (T0 : State) (L0 : List Loc), Stand p l e R s m args below meth c T0 L0 cells slots → T0.heap = h0 → Fr n0 L0 →
    ∃ (T' : State) (L' : List Loc), Stand p l e R s m args below meth c T' L' cells slots ∧ T'.heap = h0 ∧ Fr n0 L' ∧ ∀ target, Steps p.tables e below (T'.setTop (mkF m 36 #[.val (.ref a1), .val (.int (Int32.ofNat j)), .unset] [])) target → Steps p.tables e below (T0.setTop (mkF m 2 #[.val (.ref a1), .val (.int (Int32.ofNat i)), .unset] [])) target := by
  have hjl : j ≤ cs.length := by rcases hst with q | q <;> omega
  induction f with
  | zero =>
    intro i hin T0 L0 X0 e0 N0
    have hie : j = i := by omega
    rcases hst with hn | ⟨hi', hnb'⟩
    · have hn2 : i = cs.length := by omega
      obtain ⟨cq1, kz1, q1a, q1b, q1c⟩ := isOf hZ e0 (own_Sexa T)
      obtain ⟨_, _, ⟨T1, Lq1, kq1, nq1⟩, -, X1, ⟨Lc1, hQ1, lq1, yq1, zq1⟩, st1⟩ := X0.virtualBack hx (y := (⟨"java/lang/String", "length", "()I"⟩ : MethodName)) (z := (⟨"java/lang/String", "length", "()I"⟩ : MethodName)) hown (mvT hZ (hw _ (own_w 35 rfl))) (mvT hZ (hw _ (own_w 36 rfl))) (notFace_of_selects (args := #[]) (mvT hZ (hw _ (own_w 38 rfl)))) (mvT hZ (hw _ (own_w 38 rfl))) (mvT hZ (hw _ (own_w 37 rfl))) (by decide) (backOf (W := 1) (rLe l Z a0 hw [] a1 cs G1 h0 n0 Z0 X00 O_2 P5 T hL) hZ (hw _ (own_w 39 rfl)) (hw _ (own_w 12 rfl)) (Nat.le_trans (by decide) hRf) (Nat.le_trans (by decide) hRl)) q1a q1c (g := (mkF m 4 #[.val (.ref a1), .val (.int (Int32.ofNat i)), .unset] [(.ref a1), (.int (Int32.ofNat i))])) rfl (by rw [hml]; rfl) (Steps.refl _) (argsL := []) (rest := [(.int (Int32.ofNat i))]) (lenOf pd_21 rfl) rfl (by show 2 * 0 + _ ≤ _; exact Nat.le_of_eq rfl) (hb hby d6_4) (fun _ _ => ⟨rfl, e0, hRc, hRs⟩)
      dsimp only [Pt.U, Pt.locs, Pt.cells, Pt.slots] at X1 lq1 yq1 zq1 st1 hQ1
      subst lq1 yq1 zq1
      obtain ⟨r1, hr1, rfl, N1q, e1⟩ := hQ1
      have N1 := Fr.app N0 N1q
      refine ⟨T1, _, X1, e1, N1, fun target kt => ?_⟩
      have kq : Steps p.tables e below (T1.setTop (mkF m 36 #[.val (.ref a1), .val (.int (Int32.ofNat i)), .unset] [])) target := by rw [← hie]; exact kt
      show Steps p.tables e below (T0.setTop (mkF m 2 #[.val (.ref a1), .val (.int (Int32.ofNat i)), .unset] [])) _
      refine XS.iloadN X0.here hx rfl (hb hby d6_2) rfl ?_
      refine XS.aloadN X0.here hx rfl (hb hby d6_3) rfl rfl ?_
      refine st1.trans ?_
      refine XS.icmpYes X1.here hx rfl (pc0 := 7) (pc' := 36) rfl (hb hby d6_7) rfl (flt (by rw [hr1]; exact own_xle (by omega) (by omega))).2.1 (by decide) (by decide) ?_
      exact kq
    · have hi : i < cs.length := by omega
      have hnb : ¬ (cs.getD i 0 = (32 : Int32) ∨ cs.getD i 0 = (9 : Int32)) := by rw [← hie]; exact hnb'
      obtain ⟨cq1, kz1, q1a, q1b, q1c⟩ := isOf hZ e0 (own_Sexa T)
      obtain ⟨_, _, ⟨T1, Lq1, kq1, nq1⟩, -, X1, ⟨Lc1, hQ1, lq1, yq1, zq1⟩, st1⟩ := X0.virtualBack hx (y := (⟨"java/lang/String", "length", "()I"⟩ : MethodName)) (z := (⟨"java/lang/String", "length", "()I"⟩ : MethodName)) hown (mvT hZ (hw _ (own_w 35 rfl))) (mvT hZ (hw _ (own_w 36 rfl))) (notFace_of_selects (args := #[]) (mvT hZ (hw _ (own_w 38 rfl)))) (mvT hZ (hw _ (own_w 38 rfl))) (mvT hZ (hw _ (own_w 37 rfl))) (by decide) (backOf (W := 1) (rLe l Z a0 hw [] a1 cs G1 h0 n0 Z0 X00 O_2 P5 T hL) hZ (hw _ (own_w 39 rfl)) (hw _ (own_w 12 rfl)) (Nat.le_trans (by decide) hRf) (Nat.le_trans (by decide) hRl)) q1a q1c (g := (mkF m 4 #[.val (.ref a1), .val (.int (Int32.ofNat i)), .unset] [(.ref a1), (.int (Int32.ofNat i))])) rfl (by rw [hml]; rfl) (Steps.refl _) (argsL := []) (rest := [(.int (Int32.ofNat i))]) (lenOf pd_21 rfl) rfl (by show 2 * 0 + _ ≤ _; exact Nat.le_of_eq rfl) (hb hby d6_4) (fun _ _ => ⟨rfl, e0, hRc, hRs⟩)
      dsimp only [Pt.U, Pt.locs, Pt.cells, Pt.slots] at X1 lq1 yq1 zq1 st1 hQ1
      subst lq1 yq1 zq1
      obtain ⟨r1, hr1, rfl, N1q, e1⟩ := hQ1
      have N1 := Fr.app N0 N1q
      obtain ⟨cq2, kz2, q2a, q2b, q2c⟩ := isOf hZ e1 (own_Sexa T)
      obtain ⟨_, _, ⟨T2, Lq2, kq2, nq2⟩, -, X2, ⟨Lc2, hQ2, lq2, yq2, zq2⟩, st2⟩ := X1.virtualBack hx (y := (⟨"java/lang/String", "charAt", "(I)C"⟩ : MethodName)) (z := (⟨"java/lang/String", "charAt", "(I)C"⟩ : MethodName)) hown (mvT hZ (hw _ (own_w 71 rfl))) (mvT hZ (hw _ (own_w 72 rfl))) (notFace_of_selects (args := #[]) (mvT hZ (hw _ (own_w 74 rfl)))) (mvT hZ (hw _ (own_w 74 rfl))) (mvT hZ (hw _ (own_w 73 rfl))) (by decide) (backOf (W := 0) (rCh l Z a0 hw [] a1 (Int32.ofNat i) cs (i) G1 gv h0 n0 Z0 X00 O_S hgv O_2 P5 O_A O_H O_W T rfl hi hL hcs) hZ (hw _ (own_w 75 rfl)) (hw _ (own_w 12 rfl)) (Nat.le_trans (by decide) hRf) (Nat.le_trans (by decide) hRl)) q2a q2c (g := (mkF m 12 #[.val (.ref a1), .val (.int (Int32.ofNat i)), .unset] [(.int (Int32.ofNat i)), (.ref a1)])) rfl (by rw [hml]; rfl) (Steps.refl _) (argsL := [(.int (Int32.ofNat i))]) (rest := []) (lenOf pd_28 rfl) rfl (by show 2 * 0 + _ ≤ _; exact Nat.le_of_eq rfl) (hb hby d6_12) (fun _ _ => ⟨rfl, e1, hRc, hRs⟩)
      dsimp only [Pt.U, Pt.locs, Pt.cells, Pt.slots] at X2 lq2 yq2 zq2 st2 hQ2
      subst lq2 yq2 zq2
      obtain ⟨r2, hr2, rfl, N2q, e2⟩ := hQ2
      have N2 := Fr.app N1 N2q
      obtain ⟨cq3, kz3, q3a, q3b, q3c⟩ := isOf hZ e2 (own_Sexa T)
      obtain ⟨_, _, ⟨T3, Lq3, kq3, nq3⟩, -, X3, ⟨Lc3, hQ3, lq3, yq3, zq3⟩, st3⟩ := X2.virtualBack hx (y := (⟨"java/lang/String", "charAt", "(I)C"⟩ : MethodName)) (z := (⟨"java/lang/String", "charAt", "(I)C"⟩ : MethodName)) hown (mvT hZ (hw _ (own_w 71 rfl))) (mvT hZ (hw _ (own_w 72 rfl))) (notFace_of_selects (args := #[]) (mvT hZ (hw _ (own_w 74 rfl)))) (mvT hZ (hw _ (own_w 74 rfl))) (mvT hZ (hw _ (own_w 73 rfl))) (by decide) (backOf (W := 0) (rCh l Z a0 hw [] a1 (Int32.ofNat i) cs (i) G1 gv h0 n0 Z0 X00 O_S hgv O_2 P5 O_A O_H O_W T rfl hi hL hcs) hZ (hw _ (own_w 75 rfl)) (hw _ (own_w 12 rfl)) (Nat.le_trans (by decide) hRf) (Nat.le_trans (by decide) hRl)) q3a q3c (g := (mkF m 22 #[.val (.ref a1), .val (.int (Int32.ofNat i)), .unset] [(.int (Int32.ofNat i)), (.ref a1)])) rfl (by rw [hml]; rfl) (Steps.refl _) (argsL := [(.int (Int32.ofNat i))]) (rest := []) (lenOf pd_28 rfl) rfl (by show 2 * 0 + _ ≤ _; exact Nat.le_of_eq rfl) (hb hby d6_22) (fun _ _ => ⟨rfl, e2, hRc, hRs⟩)
      dsimp only [Pt.U, Pt.locs, Pt.cells, Pt.slots] at X3 lq3 yq3 zq3 st3 hQ3
      subst lq3 yq3 zq3
      obtain ⟨r3, hr3, rfl, N3q, e3⟩ := hQ3
      have N3 := Fr.app N2 N3q
      refine ⟨T3, _, X3, e3, N3, fun target kt => ?_⟩
      have kq : Steps p.tables e below (T3.setTop (mkF m 36 #[.val (.ref a1), .val (.int (Int32.ofNat i)), .unset] [])) target := by rw [← hie]; exact kt
      show Steps p.tables e below (T0.setTop (mkF m 2 #[.val (.ref a1), .val (.int (Int32.ofNat i)), .unset] [])) _
      refine XS.iloadN X0.here hx rfl (hb hby d6_2) rfl ?_
      refine XS.aloadN X0.here hx rfl (hb hby d6_3) rfl rfl ?_
      refine st1.trans ?_
      refine XS.icmpNo X1.here hx rfl (hb hby d6_7) rfl (tlt (by rw [hr1]; exact (own_xlt (by omega) (by omega)).mpr hi)).2.1 ?_
      refine XS.aloadN X1.here hx rfl (hb hby d6_10) rfl rfl ?_
      refine XS.iloadN X1.here hx rfl (hb hby d6_11) rfl ?_
      refine st2.trans ?_
      refine XS.bipush X2.here hx rfl (hb hby d6_15) ?_
      refine XS.icmpNo X2.here hx rfl (hb hby d6_17) rfl (feq (by rw [hr2]; exact fun q => hnb (Or.inl q))).1 ?_
      refine XS.aloadN X2.here hx rfl (hb hby d6_20) rfl rfl ?_
      refine XS.iloadN X2.here hx rfl (hb hby d6_21) rfl ?_
      refine st3.trans ?_
      refine XS.bipush X3.here hx rfl (hb hby d6_25) ?_
      refine XS.icmpYes X3.here hx rfl (pc0 := 27) (pc' := 36) rfl (hb hby d6_27) rfl (feq (by rw [hr3]; exact fun q => hnb (Or.inr q))).2 (by decide) (by decide) ?_
      exact kq
  | succ f ih =>
    intro i hin T0 L0 X0 e0 N0
    have hi : i < cs.length := by omega
    rcases hbf i (by omega) with h32 | h9
    · skip
      obtain ⟨cq1, kz1, q1a, q1b, q1c⟩ := isOf hZ e0 (own_Sexa T)
      obtain ⟨_, _, ⟨T1, Lq1, kq1, nq1⟩, -, X1, ⟨Lc1, hQ1, lq1, yq1, zq1⟩, st1⟩ := X0.virtualBack hx (y := (⟨"java/lang/String", "length", "()I"⟩ : MethodName)) (z := (⟨"java/lang/String", "length", "()I"⟩ : MethodName)) hown (mvT hZ (hw _ (own_w 35 rfl))) (mvT hZ (hw _ (own_w 36 rfl))) (notFace_of_selects (args := #[]) (mvT hZ (hw _ (own_w 38 rfl)))) (mvT hZ (hw _ (own_w 38 rfl))) (mvT hZ (hw _ (own_w 37 rfl))) (by decide) (backOf (W := 1) (rLe l Z a0 hw [] a1 cs G1 h0 n0 Z0 X00 O_2 P5 T hL) hZ (hw _ (own_w 39 rfl)) (hw _ (own_w 12 rfl)) (Nat.le_trans (by decide) hRf) (Nat.le_trans (by decide) hRl)) q1a q1c (g := (mkF m 4 #[.val (.ref a1), .val (.int (Int32.ofNat i)), .unset] [(.ref a1), (.int (Int32.ofNat i))])) rfl (by rw [hml]; rfl) (Steps.refl _) (argsL := []) (rest := [(.int (Int32.ofNat i))]) (lenOf pd_21 rfl) rfl (by show 2 * 0 + _ ≤ _; exact Nat.le_of_eq rfl) (hb hby d6_4) (fun _ _ => ⟨rfl, e0, hRc, hRs⟩)
      dsimp only [Pt.U, Pt.locs, Pt.cells, Pt.slots] at X1 lq1 yq1 zq1 st1 hQ1
      subst lq1 yq1 zq1
      obtain ⟨r1, hr1, rfl, N1q, e1⟩ := hQ1
      have N1 := Fr.app N0 N1q
      obtain ⟨cq2, kz2, q2a, q2b, q2c⟩ := isOf hZ e1 (own_Sexa T)
      obtain ⟨_, _, ⟨T2, Lq2, kq2, nq2⟩, -, X2, ⟨Lc2, hQ2, lq2, yq2, zq2⟩, st2⟩ := X1.virtualBack hx (y := (⟨"java/lang/String", "charAt", "(I)C"⟩ : MethodName)) (z := (⟨"java/lang/String", "charAt", "(I)C"⟩ : MethodName)) hown (mvT hZ (hw _ (own_w 71 rfl))) (mvT hZ (hw _ (own_w 72 rfl))) (notFace_of_selects (args := #[]) (mvT hZ (hw _ (own_w 74 rfl)))) (mvT hZ (hw _ (own_w 74 rfl))) (mvT hZ (hw _ (own_w 73 rfl))) (by decide) (backOf (W := 0) (rCh l Z a0 hw [] a1 (Int32.ofNat i) cs (i) G1 gv h0 n0 Z0 X00 O_S hgv O_2 P5 O_A O_H O_W T rfl hi hL hcs) hZ (hw _ (own_w 75 rfl)) (hw _ (own_w 12 rfl)) (Nat.le_trans (by decide) hRf) (Nat.le_trans (by decide) hRl)) q2a q2c (g := (mkF m 12 #[.val (.ref a1), .val (.int (Int32.ofNat i)), .unset] [(.int (Int32.ofNat i)), (.ref a1)])) rfl (by rw [hml]; rfl) (Steps.refl _) (argsL := [(.int (Int32.ofNat i))]) (rest := []) (lenOf pd_28 rfl) rfl (by show 2 * 0 + _ ≤ _; exact Nat.le_of_eq rfl) (hb hby d6_12) (fun _ _ => ⟨rfl, e1, hRc, hRs⟩)
      dsimp only [Pt.U, Pt.locs, Pt.cells, Pt.slots] at X2 lq2 yq2 zq2 st2 hQ2
      subst lq2 yq2 zq2
      obtain ⟨r2, hr2, rfl, N2q, e2⟩ := hQ2
      have N2 := Fr.app N1 N2q
      obtain ⟨T', L', X', e', N', st'⟩ := ih (i + 1) (by omega) T2 _ X2 e2 N2
      refine ⟨T', L', X', e', N', fun target kt => ?_⟩
      have kq := st' target kt
      rw [← own_xs (show i < 16 by omega)] at kq
      show Steps p.tables e below (T0.setTop (mkF m 2 #[.val (.ref a1), .val (.int (Int32.ofNat i)), .unset] [])) _
      refine XS.iloadN X0.here hx rfl (hb hby d6_2) rfl ?_
      refine XS.aloadN X0.here hx rfl (hb hby d6_3) rfl rfl ?_
      refine st1.trans ?_
      refine XS.icmpNo X1.here hx rfl (hb hby d6_7) rfl (tlt (by rw [hr1]; exact (own_xlt (by omega) (by omega)).mpr hi)).2.1 ?_
      refine XS.aloadN X1.here hx rfl (hb hby d6_10) rfl rfl ?_
      refine XS.iloadN X1.here hx rfl (hb hby d6_11) rfl ?_
      refine st2.trans ?_
      refine XS.bipush X2.here hx rfl (hb hby d6_15) ?_
      refine XS.icmpYes X2.here hx rfl (pc0 := 17) (pc' := 30) rfl (hb hby d6_17) rfl (teq (by rw [hr2]; exact h32)).1 (by decide) (by decide) ?_
      refine XS.iinc X2.here hx rfl (hb hby d6_30) rfl (l' := #[.val (.ref a1), .val (.int ((Int32.ofNat i) + (1 : Int32))), .unset]) rfl ?_
      refine XS.goto X2.here hx rfl (pc0 := 33) (pc' := 2) rfl (hb hby d6_33) (by decide) (by decide) ?_
      exact kq
    · skip
      obtain ⟨cq1, kz1, q1a, q1b, q1c⟩ := isOf hZ e0 (own_Sexa T)
      obtain ⟨_, _, ⟨T1, Lq1, kq1, nq1⟩, -, X1, ⟨Lc1, hQ1, lq1, yq1, zq1⟩, st1⟩ := X0.virtualBack hx (y := (⟨"java/lang/String", "length", "()I"⟩ : MethodName)) (z := (⟨"java/lang/String", "length", "()I"⟩ : MethodName)) hown (mvT hZ (hw _ (own_w 35 rfl))) (mvT hZ (hw _ (own_w 36 rfl))) (notFace_of_selects (args := #[]) (mvT hZ (hw _ (own_w 38 rfl)))) (mvT hZ (hw _ (own_w 38 rfl))) (mvT hZ (hw _ (own_w 37 rfl))) (by decide) (backOf (W := 1) (rLe l Z a0 hw [] a1 cs G1 h0 n0 Z0 X00 O_2 P5 T hL) hZ (hw _ (own_w 39 rfl)) (hw _ (own_w 12 rfl)) (Nat.le_trans (by decide) hRf) (Nat.le_trans (by decide) hRl)) q1a q1c (g := (mkF m 4 #[.val (.ref a1), .val (.int (Int32.ofNat i)), .unset] [(.ref a1), (.int (Int32.ofNat i))])) rfl (by rw [hml]; rfl) (Steps.refl _) (argsL := []) (rest := [(.int (Int32.ofNat i))]) (lenOf pd_21 rfl) rfl (by show 2 * 0 + _ ≤ _; exact Nat.le_of_eq rfl) (hb hby d6_4) (fun _ _ => ⟨rfl, e0, hRc, hRs⟩)
      dsimp only [Pt.U, Pt.locs, Pt.cells, Pt.slots] at X1 lq1 yq1 zq1 st1 hQ1
      subst lq1 yq1 zq1
      obtain ⟨r1, hr1, rfl, N1q, e1⟩ := hQ1
      have N1 := Fr.app N0 N1q
      obtain ⟨cq2, kz2, q2a, q2b, q2c⟩ := isOf hZ e1 (own_Sexa T)
      obtain ⟨_, _, ⟨T2, Lq2, kq2, nq2⟩, -, X2, ⟨Lc2, hQ2, lq2, yq2, zq2⟩, st2⟩ := X1.virtualBack hx (y := (⟨"java/lang/String", "charAt", "(I)C"⟩ : MethodName)) (z := (⟨"java/lang/String", "charAt", "(I)C"⟩ : MethodName)) hown (mvT hZ (hw _ (own_w 71 rfl))) (mvT hZ (hw _ (own_w 72 rfl))) (notFace_of_selects (args := #[]) (mvT hZ (hw _ (own_w 74 rfl)))) (mvT hZ (hw _ (own_w 74 rfl))) (mvT hZ (hw _ (own_w 73 rfl))) (by decide) (backOf (W := 0) (rCh l Z a0 hw [] a1 (Int32.ofNat i) cs (i) G1 gv h0 n0 Z0 X00 O_S hgv O_2 P5 O_A O_H O_W T rfl hi hL hcs) hZ (hw _ (own_w 75 rfl)) (hw _ (own_w 12 rfl)) (Nat.le_trans (by decide) hRf) (Nat.le_trans (by decide) hRl)) q2a q2c (g := (mkF m 12 #[.val (.ref a1), .val (.int (Int32.ofNat i)), .unset] [(.int (Int32.ofNat i)), (.ref a1)])) rfl (by rw [hml]; rfl) (Steps.refl _) (argsL := [(.int (Int32.ofNat i))]) (rest := []) (lenOf pd_28 rfl) rfl (by show 2 * 0 + _ ≤ _; exact Nat.le_of_eq rfl) (hb hby d6_12) (fun _ _ => ⟨rfl, e1, hRc, hRs⟩)
      dsimp only [Pt.U, Pt.locs, Pt.cells, Pt.slots] at X2 lq2 yq2 zq2 st2 hQ2
      subst lq2 yq2 zq2
      obtain ⟨r2, hr2, rfl, N2q, e2⟩ := hQ2
      have N2 := Fr.app N1 N2q
      obtain ⟨cq3, kz3, q3a, q3b, q3c⟩ := isOf hZ e2 (own_Sexa T)
      obtain ⟨_, _, ⟨T3, Lq3, kq3, nq3⟩, -, X3, ⟨Lc3, hQ3, lq3, yq3, zq3⟩, st3⟩ := X2.virtualBack hx (y := (⟨"java/lang/String", "charAt", "(I)C"⟩ : MethodName)) (z := (⟨"java/lang/String", "charAt", "(I)C"⟩ : MethodName)) hown (mvT hZ (hw _ (own_w 71 rfl))) (mvT hZ (hw _ (own_w 72 rfl))) (notFace_of_selects (args := #[]) (mvT hZ (hw _ (own_w 74 rfl)))) (mvT hZ (hw _ (own_w 74 rfl))) (mvT hZ (hw _ (own_w 73 rfl))) (by decide) (backOf (W := 0) (rCh l Z a0 hw [] a1 (Int32.ofNat i) cs (i) G1 gv h0 n0 Z0 X00 O_S hgv O_2 P5 O_A O_H O_W T rfl hi hL hcs) hZ (hw _ (own_w 75 rfl)) (hw _ (own_w 12 rfl)) (Nat.le_trans (by decide) hRf) (Nat.le_trans (by decide) hRl)) q3a q3c (g := (mkF m 22 #[.val (.ref a1), .val (.int (Int32.ofNat i)), .unset] [(.int (Int32.ofNat i)), (.ref a1)])) rfl (by rw [hml]; rfl) (Steps.refl _) (argsL := [(.int (Int32.ofNat i))]) (rest := []) (lenOf pd_28 rfl) rfl (by show 2 * 0 + _ ≤ _; exact Nat.le_of_eq rfl) (hb hby d6_22) (fun _ _ => ⟨rfl, e2, hRc, hRs⟩)
      dsimp only [Pt.U, Pt.locs, Pt.cells, Pt.slots] at X3 lq3 yq3 zq3 st3 hQ3
      subst lq3 yq3 zq3
      obtain ⟨r3, hr3, rfl, N3q, e3⟩ := hQ3
      have N3 := Fr.app N2 N3q
      obtain ⟨T', L', X', e', N', st'⟩ := ih (i + 1) (by omega) T3 _ X3 e3 N3
      refine ⟨T', L', X', e', N', fun target kt => ?_⟩
      have kq := st' target kt
      rw [← own_xs (show i < 16 by omega)] at kq
      show Steps p.tables e below (T0.setTop (mkF m 2 #[.val (.ref a1), .val (.int (Int32.ofNat i)), .unset] [])) _
      refine XS.iloadN X0.here hx rfl (hb hby d6_2) rfl ?_
      refine XS.aloadN X0.here hx rfl (hb hby d6_3) rfl rfl ?_
      refine st1.trans ?_
      refine XS.icmpNo X1.here hx rfl (hb hby d6_7) rfl (tlt (by rw [hr1]; exact (own_xlt (by omega) (by omega)).mpr hi)).2.1 ?_
      refine XS.aloadN X1.here hx rfl (hb hby d6_10) rfl rfl ?_
      refine XS.iloadN X1.here hx rfl (hb hby d6_11) rfl ?_
      refine st2.trans ?_
      refine XS.bipush X2.here hx rfl (hb hby d6_15) ?_
      refine XS.icmpNo X2.here hx rfl (hb hby d6_17) rfl (feq (by rw [hr2]; exact fun q => absurd (h9.symm.trans q) (by decide))).1 ?_
      refine XS.aloadN X2.here hx rfl (hb hby d6_20) rfl rfl ?_
      refine XS.iloadN X2.here hx rfl (hb hby d6_21) rfl ?_
      refine st3.trans ?_
      refine XS.bipush X3.here hx rfl (hb hby d6_25) ?_
      refine XS.icmpNo X3.here hx rfl (hb hby d6_27) rfl (teq (by rw [hr3]; exact h9)).2 ?_
      refine XS.iinc X3.here hx rfl (hb hby d6_30) rfl (l' := #[.val (.ref a1), .val (.int ((Int32.ofNat i) + (1 : Int32))), .unset]) rfl ?_
      refine XS.goto X3.here hx rfl (pc0 := 33) (pc' := 2) rfl (hb hby d6_33) (by decide) (by decide) ?_
      exact kq
theorem pd_31 : parseMethodDescriptor "()Ljava/util/Optional;" = some ⟨[], some (.object "java/util/Optional")⟩ := by decide +kernel
theorem d6_0 : decode prog_10_method_3_code 0 = .ok (.iconst 0, 1) := by decide +kernel
theorem d6_1 : decode prog_10_method_3_code 1 = .ok (.istore_n 1, 1) := by decide +kernel
theorem d6_36 : decode prog_10_method_3_code 36 = .ok (.invokestatic 75, 3) := by decide +kernel
theorem d6_39 : decode prog_10_method_3_code 39 = .ok (.astore_n 2, 1) := by decide +kernel
theorem d6_40 : decode prog_10_method_3_code 40 = .ok (.iload_n 1, 1) := by decide +kernel
theorem d6_41 : decode prog_10_method_3_code 41 = .ok (.aload_n 0, 1) := by decide +kernel
theorem d6_42 : decode prog_10_method_3_code 42 = .ok (.invokevirtual 65, 3) := by decide +kernel
theorem d6_45 : decode prog_10_method_3_code 45 = .ok (.if_icmp .ge 22, 3) := by decide +kernel
theorem d6_48 : decode prog_10_method_3_code 48 = .ok (.aload_n 0, 1) := by decide +kernel
theorem d6_49 : decode prog_10_method_3_code 49 = .ok (.iload_n 1, 1) := by decide +kernel
theorem d6_50 : decode prog_10_method_3_code 50 = .ok (.invokevirtual 71, 3) := by decide +kernel
theorem d6_53 : decode prog_10_method_3_code 53 = .ok (.bipush 35, 2) := by decide +kernel
theorem d6_55 : decode prog_10_method_3_code 55 = .ok (.if_icmp .eq 12, 3) := by decide +kernel
theorem d6_67 : decode prog_10_method_3_code 67 = .ok (.aload_n 2, 1) := by decide +kernel
theorem d6_68 : decode prog_10_method_3_code 68 = .ok (.areturn, 1) := by decide +kernel
theorem pn_6 : plainName "com/example/wrasse/wrasse/io/LineFiles" = true := by first | (simp [plainName, overriddenIn]; done) | decide +kernel
theorem ef_rKe (m : MethodId) (a1 : Addr) : entryFrame m #[(.ref a1)] 3 = mkF m 0 #[.val (.ref a1), .unset, .unset] [] := by first | (simp [entryFrame, mkF, argsToLocals, Value.category]; done) | rfl
def QrKe (Z : State) (a1 : Addr) (cs : List Int32) (j : Nat) (G1 : Int32) (gv : Value) (eo : Addr) (h0 : Heap) (n0 : Nat) (v : Option Value) (h : Heap) (L : List Loc) : Prop := v = some (.ref eo) ∧ Fr n0 L ∧ h = h0
set_option maxRecDepth 65536 in
set_option maxHeartbeats 40000000 in
theorem rKe (l : Launch) (Z : State) (a0 : Array Value) (hw : ∀ d ∈ tables_1, d.before a0 Z = true) (ws : List Jvm.Cond) (a1 : Addr) (cs : List Int32) (j : Nat) (G1 : Int32) (gv : Value) (eo : Addr) (h0 : Heap) (n0 : Nat) (Z0 : n0 ≤ h0.size) (X00 : Old Z n0 h0) (O_S : Sta Z Z.heap "jdk/internal/util/Preconditions" "SIOOBE_FORMATTER" "Ljava/util/function/BiFunction;" gv) (hgv : gv.isRef = true) (O_2 : Sta Z Z.heap "java/lang/String" "COMPACT_STRINGS" "Z" (.int G1)) (P5 : ¬ (G1 = (0 : Int32))) (O_A : Sta Z Z.heap "java/lang/StringUTF16" "$assertionsDisabled" "Z" (.int (1 : Int32))) (O_H : Sta Z Z.heap "java/lang/StringUTF16" "HI_BYTE_SHIFT" "I" (.int (0 : Int32))) (O_W : Sta Z Z.heap "java/lang/StringUTF16" "LO_BYTE_SHIFT" "I" (.int (8 : Int32))) (T : own_S Z h0 a1 cs) (hL : cs.length < 8) (hcs : ∀ c ∈ cs, own_ch c) (hbf : ∀ k, k < j → (cs.getD k 0 = (32 : Int32) ∨ cs.getD k 0 = (9 : Int32))) (he : j = cs.length ∨ (j < cs.length ∧ cs.getD j 0 = 35)) (O_E : Sta Z Z.heap "java/util/Optional" "EMPTY" "Ljava/util/Optional;" (.ref eo)) :
    MetFree l (⟨"com/example/wrasse/wrasse/io/LineFiles", "content", "(Ljava/lang/String;)Ljava/util/Optional;"⟩ : MethodName) (head1 (Jvm.Cond.code (⟨"com/example/wrasse/wrasse/io/LineFiles", "content", "(Ljava/lang/String;)Ljava/util/Optional;"⟩ : MethodName) prog_10_method_3_code 3 (some (.object "java/util/Optional")) :: ws) ({ frames := 5, cells := 0, slots := 0, locals := 66 } : Room)) (fun a U => a = #[(.ref a1)] ∧ Z.Warmed39 U.vm ∧ U.heap = h0) (fun _ _ _ _ _ => True) (fun _ U o U' => ∃ v L, o = .returned v ∧ QrKe Z a1 cs j G1 gv eo h0 n0 v U'.heap L ∧ FrameEnd U o U' L ({ frames := 5, cells := 0, slots := 0, locals := 66 } : Room).cells ({ frames := 5, cells := 0, slots := 0, locals := 66 } : Room).slots) := by
  refine MetFree.of_bodySF (plainFor_of_name pn_6) hisR ?_
  intro p e s m args below meth c s₁ Bd hml0 hP hK
  obtain ⟨rfl, hZ, hh⟩ := hP
  have hx := Bd.exec
  have hby := Bd.bytes
  have hml : c.maxLocals = 3 := hml0
  have hown : s.vm.findClass "com/example/wrasse/wrasse/io/LineFiles" = some m.cls := findClass_of_methodNamed Bd.named
  have hnm := (name_of_methodNamed Bd.named Bd.method).1
  have X0 : Stand p l e ({ frames := 5, cells := 0, slots := 0, locals := 66 } : Room) s m #[(.ref a1)] below meth c s₁ [] 0 0 := Stand.of_body Bd
  have e0 : s₁.heap = h0 := by rw [← hh, Bd.state]; rfl
  have N0 := Fr.nil n0
  have pre0 : ∀ t, Steps p.tables e below (s₁.setTop (mkF m 0 #[.val (.ref a1), .unset, .unset] [])) t → Steps p.tables e below (s₁.setTop (entryFrame m #[(.ref a1)] 3)) t := fun t k => castTop (ef_rKe m a1) k
  obtain ⟨T1, L1, X1, e1, N1, st1⟩ := own_ct (by decide) (by decide) (by decide) (by decide) hx hZ hw hby hml hown hL X00 O_S hgv O_2 P5 O_A O_H O_W Z0 T hcs hbf (own_stop he) j 0 (by omega) _ _ X0 e0 N0
  obtain ⟨_, _, ⟨T2, Lq2, kq2, nq2⟩, -, X2, ⟨Lc2, hQ2, lq2, yq2, zq2⟩, st2⟩ := Jvm.LawKit.callS X1 hx (y := (⟨"java/util/Optional", "empty", "()Ljava/util/Optional;"⟩ : MethodName)) hown (mvT hZ (hw _ (own_w 46 rfl))) (mvT hZ (hw _ (own_w 47 rfl))) (mvT hZ (hw _ (own_w 48 rfl))) (mvT hZ (hw _ (own_w 49 rfl))) (by decide) (backOf (W := 0) (rOe l Z a0 hw []  eo h0 n0 Z0 X00 O_E) hZ (hw _ (own_w 49 rfl)) (hw _ (own_w 48 rfl)) (by decide) (by decide)) (g := (mkF m 36 #[.val (.ref a1), .val (.int (Int32.ofNat j)), .unset] [])) rfl (by rw [hml]; rfl) (argsL := []) (rest := []) (lenOf pd_31 rfl) rfl (by show 2 * 0 + _ ≤ _; exact Nat.le_of_eq rfl) (hb hby d6_36) (fun _ _ => ⟨rfl, e1, (by decide : 0 + 0 ≤ _), (by decide : 0 + 0 ≤ _)⟩)
  dsimp only [Pt.U, Pt.locs, Pt.cells, Pt.slots] at X2 lq2 yq2 zq2 st2 hQ2
  subst lq2 yq2 zq2
  obtain ⟨rfl, N2q, e2⟩ := hQ2
  have N2 := Fr.app N1 N2q
  rcases id he with hn | ⟨hi, h35⟩
  · skip
    obtain ⟨cq3, kz3, q3a, q3b, q3c⟩ := isOf hZ e2 (own_Sexa T)
    obtain ⟨_, _, ⟨T3, Lq3, kq3, nq3⟩, -, X3, ⟨Lc3, hQ3, lq3, yq3, zq3⟩, st3⟩ := X2.virtualBack hx (y := (⟨"java/lang/String", "length", "()I"⟩ : MethodName)) (z := (⟨"java/lang/String", "length", "()I"⟩ : MethodName)) hown (mvT hZ (hw _ (own_w 35 rfl))) (mvT hZ (hw _ (own_w 36 rfl))) (notFace_of_selects (args := #[]) (mvT hZ (hw _ (own_w 38 rfl)))) (mvT hZ (hw _ (own_w 38 rfl))) (mvT hZ (hw _ (own_w 37 rfl))) (by decide) (backOf (W := 1) (rLe l Z a0 hw [] a1 cs G1 h0 n0 Z0 X00 O_2 P5 T hL) hZ (hw _ (own_w 39 rfl)) (hw _ (own_w 12 rfl)) (by decide) (by decide)) q3a q3c (g := (mkF m 42 #[.val (.ref a1), .val (.int (Int32.ofNat j)), .val (.ref eo)] [(.ref a1), (.int (Int32.ofNat j))])) rfl (by rw [hml]; rfl) (Steps.refl _) (argsL := []) (rest := [(.int (Int32.ofNat j))]) (lenOf pd_21 rfl) rfl (by show 2 * 0 + _ ≤ _; exact Nat.le_of_eq rfl) (hb hby d6_42) (fun _ _ => ⟨rfl, e2, (by decide : 0 + 0 ≤ _), (by decide : 0 + 0 ≤ _)⟩)
    dsimp only [Pt.U, Pt.locs, Pt.cells, Pt.slots] at X3 lq3 yq3 zq3 st3 hQ3
    subst lq3 yq3 zq3
    obtain ⟨r3, hr3, rfl, N3q, e3⟩ := hQ3
    have N3 := Fr.app N2 N3q
    obtain ⟨fs, hr, hrun, hended, hW, hsame⟩ := X3.leave (v := some (.ref eo)) (fun h => by rw [Bd.returns] at h; cases h) (BodyLoose.notSynchronized Bd)
    refine ⟨_, _, pre0 _ ?_, hrun, hended, _, _, rfl, ?_, ⟨_, rfl⟩, hW, hsame.mono (by decide) (by decide)⟩
    · show Steps p.tables e below (s₁.setTop (mkF m 0 #[.val (.ref a1), .unset, .unset] [])) _
      refine XS.iconst X0.here hx rfl (hb hby d6_0) ?_
      refine XS.istoreN X0.here hx rfl (hb hby d6_1) rfl (l' := #[.val (.ref a1), .val (.int (0 : Int32)), .unset]) rfl ?_
      refine st1 _ ?_
      refine st2 _ ?_
      refine XS.astoreN X2.here hx rfl (hb hby d6_39) rfl rfl (l' := #[.val (.ref a1), .val (.int (Int32.ofNat j)), .val (.ref eo)]) rfl ?_
      refine XS.iloadN X2.here hx rfl (hb hby d6_40) rfl ?_
      refine XS.aloadN X2.here hx rfl (hb hby d6_41) rfl rfl ?_
      refine st3.trans ?_
      refine XS.icmpYes X3.here hx rfl (pc0 := 45) (pc' := 67) rfl (hb hby d6_45) rfl (flt (by rw [hr3]; exact own_xle (by omega) (by omega))).2.1 (by decide) (by decide) ?_
      refine XS.aloadN X3.here hx rfl (hb hby d6_67) rfl rfl ?_
      show Steps p.tables e below (T3.setTop (mkF m 68 #[.val (.ref a1), .val (.int (Int32.ofNat j)), .val (.ref eo)] [(.ref eo)])) _
      exact X3.areturnOut hx rfl Bd.returns rfl (hb hby d6_68) hr
    · show QrKe Z a1 cs j G1 gv eo h0 n0 _ T3.heap _
      exact ⟨rfl, N3, e3⟩
  · skip
    obtain ⟨cq4, kz4, q4a, q4b, q4c⟩ := isOf hZ e2 (own_Sexa T)
    obtain ⟨_, _, ⟨T4, Lq4, kq4, nq4⟩, -, X4, ⟨Lc4, hQ4, lq4, yq4, zq4⟩, st4⟩ := X2.virtualBack hx (y := (⟨"java/lang/String", "length", "()I"⟩ : MethodName)) (z := (⟨"java/lang/String", "length", "()I"⟩ : MethodName)) hown (mvT hZ (hw _ (own_w 35 rfl))) (mvT hZ (hw _ (own_w 36 rfl))) (notFace_of_selects (args := #[]) (mvT hZ (hw _ (own_w 38 rfl)))) (mvT hZ (hw _ (own_w 38 rfl))) (mvT hZ (hw _ (own_w 37 rfl))) (by decide) (backOf (W := 1) (rLe l Z a0 hw [] a1 cs G1 h0 n0 Z0 X00 O_2 P5 T hL) hZ (hw _ (own_w 39 rfl)) (hw _ (own_w 12 rfl)) (by decide) (by decide)) q4a q4c (g := (mkF m 42 #[.val (.ref a1), .val (.int (Int32.ofNat j)), .val (.ref eo)] [(.ref a1), (.int (Int32.ofNat j))])) rfl (by rw [hml]; rfl) (Steps.refl _) (argsL := []) (rest := [(.int (Int32.ofNat j))]) (lenOf pd_21 rfl) rfl (by show 2 * 0 + _ ≤ _; exact Nat.le_of_eq rfl) (hb hby d6_42) (fun _ _ => ⟨rfl, e2, (by decide : 0 + 0 ≤ _), (by decide : 0 + 0 ≤ _)⟩)
    dsimp only [Pt.U, Pt.locs, Pt.cells, Pt.slots] at X4 lq4 yq4 zq4 st4 hQ4
    subst lq4 yq4 zq4
    obtain ⟨r4, hr4, rfl, N4q, e4⟩ := hQ4
    have N4 := Fr.app N2 N4q
    obtain ⟨cq5, kz5, q5a, q5b, q5c⟩ := isOf hZ e4 (own_Sexa T)
    obtain ⟨_, _, ⟨T5, Lq5, kq5, nq5⟩, -, X5, ⟨Lc5, hQ5, lq5, yq5, zq5⟩, st5⟩ := X4.virtualBack hx (y := (⟨"java/lang/String", "charAt", "(I)C"⟩ : MethodName)) (z := (⟨"java/lang/String", "charAt", "(I)C"⟩ : MethodName)) hown (mvT hZ (hw _ (own_w 71 rfl))) (mvT hZ (hw _ (own_w 72 rfl))) (notFace_of_selects (args := #[]) (mvT hZ (hw _ (own_w 74 rfl)))) (mvT hZ (hw _ (own_w 74 rfl))) (mvT hZ (hw _ (own_w 73 rfl))) (by decide) (backOf (W := 0) (rCh l Z a0 hw [] a1 (Int32.ofNat j) cs (j) G1 gv h0 n0 Z0 X00 O_S hgv O_2 P5 O_A O_H O_W T rfl hi hL hcs) hZ (hw _ (own_w 75 rfl)) (hw _ (own_w 12 rfl)) (by decide) (by decide)) q5a q5c (g := (mkF m 50 #[.val (.ref a1), .val (.int (Int32.ofNat j)), .val (.ref eo)] [(.int (Int32.ofNat j)), (.ref a1)])) rfl (by rw [hml]; rfl) (Steps.refl _) (argsL := [(.int (Int32.ofNat j))]) (rest := []) (lenOf pd_28 rfl) rfl (by show 2 * 0 + _ ≤ _; exact Nat.le_of_eq rfl) (hb hby d6_50) (fun _ _ => ⟨rfl, e4, (by decide : 0 + 0 ≤ _), (by decide : 0 + 0 ≤ _)⟩)
    dsimp only [Pt.U, Pt.locs, Pt.cells, Pt.slots] at X5 lq5 yq5 zq5 st5 hQ5
    subst lq5 yq5 zq5
    obtain ⟨r5, hr5, rfl, N5q, e5⟩ := hQ5
    have N5 := Fr.app N4 N5q
    obtain ⟨fs, hr, hrun, hended, hW, hsame⟩ := X5.leave (v := some (.ref eo)) (fun h => by rw [Bd.returns] at h; cases h) (BodyLoose.notSynchronized Bd)
    refine ⟨_, _, pre0 _ ?_, hrun, hended, _, _, rfl, ?_, ⟨_, rfl⟩, hW, hsame.mono (by decide) (by decide)⟩
    · show Steps p.tables e below (s₁.setTop (mkF m 0 #[.val (.ref a1), .unset, .unset] [])) _
      refine XS.iconst X0.here hx rfl (hb hby d6_0) ?_
      refine XS.istoreN X0.here hx rfl (hb hby d6_1) rfl (l' := #[.val (.ref a1), .val (.int (0 : Int32)), .unset]) rfl ?_
      refine st1 _ ?_
      refine st2 _ ?_
      refine XS.astoreN X2.here hx rfl (hb hby d6_39) rfl rfl (l' := #[.val (.ref a1), .val (.int (Int32.ofNat j)), .val (.ref eo)]) rfl ?_
      refine XS.iloadN X2.here hx rfl (hb hby d6_40) rfl ?_
      refine XS.aloadN X2.here hx rfl (hb hby d6_41) rfl rfl ?_
      refine st4.trans ?_
      refine XS.icmpNo X4.here hx rfl (hb hby d6_45) rfl (tlt (by rw [hr4]; exact (own_xlt (by omega) (by omega)).mpr hi)).2.1 ?_
      refine XS.aloadN X4.here hx rfl (hb hby d6_48) rfl rfl ?_
      refine XS.iloadN X4.here hx rfl (hb hby d6_49) rfl ?_
      refine st5.trans ?_
      refine XS.bipush X5.here hx rfl (hb hby d6_53) ?_
      refine XS.icmpYes X5.here hx rfl (pc0 := 55) (pc' := 67) rfl (hb hby d6_55) rfl (teq (by rw [hr5]; exact h35)).1 (by decide) (by decide) ?_
      refine XS.aloadN X5.here hx rfl (hb hby d6_67) rfl rfl ?_
      show Steps p.tables e below (T5.setTop (mkF m 68 #[.val (.ref a1), .val (.int (Int32.ofNat j)), .val (.ref eo)] [(.ref eo)])) _
      exact X5.areturnOut hx rfl Bd.returns rfl (hb hby d6_68) hr
    · show QrKe Z a1 cs j G1 gv eo h0 n0 _ T5.heap _
      exact ⟨rfl, N5, e5⟩
theorem pd_32 : parseMethodDescriptor "(I)Ljava/lang/String;" = some ⟨[.int], some (.object "java/lang/String")⟩ := by decide +kernel
theorem pd_33 : parseMethodDescriptor "(Ljava/lang/Object;)Ljava/util/Optional;" = some ⟨[(.object "java/lang/Object")], some (.object "java/util/Optional")⟩ := by decide +kernel
theorem d6_58 : decode prog_10_method_3_code 58 = .ok (.aload_n 0, 1) := by decide +kernel
theorem d6_59 : decode prog_10_method_3_code 59 = .ok (.iload_n 1, 1) := by decide +kernel
theorem d6_60 : decode prog_10_method_3_code 60 = .ok (.invokevirtual 81, 3) := by decide +kernel
theorem d6_63 : decode prog_10_method_3_code 63 = .ok (.invokestatic 85, 3) := by decide +kernel
theorem d6_66 : decode prog_10_method_3_code 66 = .ok (.astore_n 2, 1) := by decide +kernel
theorem ef_rKp (m : MethodId) (a1 : Addr) : entryFrame m #[(.ref a1)] 3 = mkF m 0 #[.val (.ref a1), .unset, .unset] [] := by first | (simp [entryFrame, mkF, argsToLocals, Value.category]; done) | rfl
def QrKp (Z : State) (a1 : Addr) (cs : List Int32) (j : Nat) (G1 : Int32) (gv : Value) (eo : Addr) (ct : List Int32) (h0 : Heap) (n0 : Nat) (v : Option Value) (h : Heap) (L : List Loc) : Prop := ∃ (o x : Addr), v = some (.ref o) ∧ Fr n0 L ∧ Keep h0 h [] ∧ Exa Z h o "java/util/Optional" ∧ Fld Z h o "java/util/Optional" "value" "Ljava/lang/Object;" (.ref x) ∧ own_S Z h x ct
set_option maxRecDepth 65536 in
set_option maxHeartbeats 40000000 in
theorem rKp (l : Launch) (Z : State) (a0 : Array Value) (hw : ∀ d ∈ tables_1, d.before a0 Z = true) (ws : List Jvm.Cond) (a1 : Addr) (cs : List Int32) (j : Nat) (G1 : Int32) (gv : Value) (eo : Addr) (ct : List Int32) (h0 : Heap) (n0 : Nat) (Z0 : n0 ≤ h0.size) (X00 : Old Z n0 h0) (O_S : Sta Z Z.heap "jdk/internal/util/Preconditions" "SIOOBE_FORMATTER" "Ljava/util/function/BiFunction;" gv) (hgv : gv.isRef = true) (O_2 : Sta Z Z.heap "java/lang/String" "COMPACT_STRINGS" "Z" (.int G1)) (P5 : ¬ (G1 = (0 : Int32))) (O_A : Sta Z Z.heap "java/lang/StringUTF16" "$assertionsDisabled" "Z" (.int (1 : Int32))) (O_H : Sta Z Z.heap "java/lang/StringUTF16" "HI_BYTE_SHIFT" "I" (.int (0 : Int32))) (O_W : Sta Z Z.heap "java/lang/StringUTF16" "LO_BYTE_SHIFT" "I" (.int (8 : Int32))) (T : own_S Z h0 a1 cs) (hL : cs.length < 8) (hcs : ∀ c ∈ cs, own_ch c) (hbf : ∀ k, k < j → (cs.getD k 0 = (32 : Int32) ∨ cs.getD k 0 = (9 : Int32))) (O_E : Sta Z Z.heap "java/util/Optional" "EMPTY" "Ljava/util/Optional;" (.ref eo)) (hs : own_sub cs j ct) (hps : 0 < ct.length) (hen : j + ct.length = cs.length) (hnb : ¬ (cs.getD j 0 = (32 : Int32) ∨ cs.getD j 0 = (9 : Int32))) (hn35 : ¬ cs.getD j 0 = (35 : Int32)) :
    MetFree l (⟨"com/example/wrasse/wrasse/io/LineFiles", "content", "(Ljava/lang/String;)Ljava/util/Optional;"⟩ : MethodName) (head1 (Jvm.Cond.code (⟨"com/example/wrasse/wrasse/io/LineFiles", "content", "(Ljava/lang/String;)Ljava/util/Optional;"⟩ : MethodName) prog_10_method_3_code 3 (some (.object "java/util/Optional")) :: ws) ({ frames := 8, cells := 4, slots := 29, locals := 123 } : Room)) (fun a U => a = #[(.ref a1)] ∧ Z.Warmed39 U.vm ∧ U.heap = h0) (fun _ _ _ _ _ => True) (fun _ U o U' => ∃ v L, o = .returned v ∧ QrKp Z a1 cs j G1 gv eo ct h0 n0 v U'.heap L ∧ FrameEnd U o U' L ({ frames := 8, cells := 4, slots := 29, locals := 123 } : Room).cells ({ frames := 8, cells := 4, slots := 29, locals := 123 } : Room).slots) := by
  refine MetFree.of_bodySF (plainFor_of_name pn_6) hisR ?_
  intro p e s m args below meth c s₁ Bd hml0 hP hK
  obtain ⟨rfl, hZ, hh⟩ := hP
  have hx := Bd.exec
  have hby := Bd.bytes
  have hml : c.maxLocals = 3 := hml0
  have hown : s.vm.findClass "com/example/wrasse/wrasse/io/LineFiles" = some m.cls := findClass_of_methodNamed Bd.named
  have hnm := (name_of_methodNamed Bd.named Bd.method).1
  have X0 : Stand p l e ({ frames := 8, cells := 4, slots := 29, locals := 123 } : Room) s m #[(.ref a1)] below meth c s₁ [] 0 0 := Stand.of_body Bd
  have e0 : s₁.heap = h0 := by rw [← hh, Bd.state]; rfl
  have N0 := Fr.nil n0
  have pre0 : ∀ t, Steps p.tables e below (s₁.setTop (mkF m 0 #[.val (.ref a1), .unset, .unset] [])) t → Steps p.tables e below (s₁.setTop (entryFrame m #[(.ref a1)] 3)) t := fun t k => castTop (ef_rKp m a1) k
  have hi : j < cs.length := by omega
  obtain ⟨T1, L1, X1, e1, N1, st1⟩ := own_ct (by decide) (by decide) (by decide) (by decide) hx hZ hw hby hml hown hL X00 O_S hgv O_2 P5 O_A O_H O_W Z0 T hcs hbf (Or.inr ⟨hi, hnb⟩) j 0 (by omega) _ _ X0 e0 N0
  obtain ⟨_, _, ⟨T2, Lq2, kq2, nq2⟩, -, X2, ⟨Lc2, hQ2, lq2, yq2, zq2⟩, st2⟩ := Jvm.LawKit.callS X1 hx (y := (⟨"java/util/Optional", "empty", "()Ljava/util/Optional;"⟩ : MethodName)) hown (mvT hZ (hw _ (own_w 46 rfl))) (mvT hZ (hw _ (own_w 47 rfl))) (mvT hZ (hw _ (own_w 48 rfl))) (mvT hZ (hw _ (own_w 49 rfl))) (by decide) (backOf (W := 0) (rOe l Z a0 hw []  eo h0 n0 Z0 X00 O_E) hZ (hw _ (own_w 49 rfl)) (hw _ (own_w 48 rfl)) (by decide) (by decide)) (g := (mkF m 36 #[.val (.ref a1), .val (.int (Int32.ofNat j)), .unset] [])) rfl (by rw [hml]; rfl) (argsL := []) (rest := []) (lenOf pd_31 rfl) rfl (by show 2 * 0 + _ ≤ _; exact Nat.le_of_eq rfl) (hb hby d6_36) (fun _ _ => ⟨rfl, e1, (by decide : 0 + 0 ≤ _), (by decide : 0 + 0 ≤ _)⟩)
  dsimp only [Pt.U, Pt.locs, Pt.cells, Pt.slots] at X2 lq2 yq2 zq2 st2 hQ2
  subst lq2 yq2 zq2
  obtain ⟨rfl, N2q, e2⟩ := hQ2
  have N2 := Fr.app N1 N2q
  obtain ⟨cq3, kz3, q3a, q3b, q3c⟩ := isOf hZ e2 (own_Sexa T)
  obtain ⟨_, _, ⟨T3, Lq3, kq3, nq3⟩, -, X3, ⟨Lc3, hQ3, lq3, yq3, zq3⟩, st3⟩ := X2.virtualBack hx (y := (⟨"java/lang/String", "length", "()I"⟩ : MethodName)) (z := (⟨"java/lang/String", "length", "()I"⟩ : MethodName)) hown (mvT hZ (hw _ (own_w 35 rfl))) (mvT hZ (hw _ (own_w 36 rfl))) (notFace_of_selects (args := #[]) (mvT hZ (hw _ (own_w 38 rfl)))) (mvT hZ (hw _ (own_w 38 rfl))) (mvT hZ (hw _ (own_w 37 rfl))) (by decide) (backOf (W := 1) (rLe l Z a0 hw [] a1 cs G1 h0 n0 Z0 X00 O_2 P5 T hL) hZ (hw _ (own_w 39 rfl)) (hw _ (own_w 12 rfl)) (by decide) (by decide)) q3a q3c (g := (mkF m 42 #[.val (.ref a1), .val (.int (Int32.ofNat j)), .val (.ref eo)] [(.ref a1), (.int (Int32.ofNat j))])) rfl (by rw [hml]; rfl) (Steps.refl _) (argsL := []) (rest := [(.int (Int32.ofNat j))]) (lenOf pd_21 rfl) rfl (by show 2 * 0 + _ ≤ _; exact Nat.le_of_eq rfl) (hb hby d6_42) (fun _ _ => ⟨rfl, e2, (by decide : 0 + 0 ≤ _), (by decide : 0 + 0 ≤ _)⟩)
  dsimp only [Pt.U, Pt.locs, Pt.cells, Pt.slots] at X3 lq3 yq3 zq3 st3 hQ3
  subst lq3 yq3 zq3
  obtain ⟨r3, hr3, rfl, N3q, e3⟩ := hQ3
  have N3 := Fr.app N2 N3q
  obtain ⟨cq4, kz4, q4a, q4b, q4c⟩ := isOf hZ e3 (own_Sexa T)
  obtain ⟨_, _, ⟨T4, Lq4, kq4, nq4⟩, -, X4, ⟨Lc4, hQ4, lq4, yq4, zq4⟩, st4⟩ := X3.virtualBack hx (y := (⟨"java/lang/String", "charAt", "(I)C"⟩ : MethodName)) (z := (⟨"java/lang/String", "charAt", "(I)C"⟩ : MethodName)) hown (mvT hZ (hw _ (own_w 71 rfl))) (mvT hZ (hw _ (own_w 72 rfl))) (notFace_of_selects (args := #[]) (mvT hZ (hw _ (own_w 74 rfl)))) (mvT hZ (hw _ (own_w 74 rfl))) (mvT hZ (hw _ (own_w 73 rfl))) (by decide) (backOf (W := 0) (rCh l Z a0 hw [] a1 (Int32.ofNat j) cs (j) G1 gv h0 n0 Z0 X00 O_S hgv O_2 P5 O_A O_H O_W T rfl hi hL hcs) hZ (hw _ (own_w 75 rfl)) (hw _ (own_w 12 rfl)) (by decide) (by decide)) q4a q4c (g := (mkF m 50 #[.val (.ref a1), .val (.int (Int32.ofNat j)), .val (.ref eo)] [(.int (Int32.ofNat j)), (.ref a1)])) rfl (by rw [hml]; rfl) (Steps.refl _) (argsL := [(.int (Int32.ofNat j))]) (rest := []) (lenOf pd_28 rfl) rfl (by show 2 * 0 + _ ≤ _; exact Nat.le_of_eq rfl) (hb hby d6_50) (fun _ _ => ⟨rfl, e3, (by decide : 0 + 0 ≤ _), (by decide : 0 + 0 ≤ _)⟩)
  dsimp only [Pt.U, Pt.locs, Pt.cells, Pt.slots] at X4 lq4 yq4 zq4 st4 hQ4
  subst lq4 yq4 zq4
  obtain ⟨r4, hr4, rfl, N4q, e4⟩ := hQ4
  have N4 := Fr.app N3 N4q
  obtain ⟨cq5, kz5, q5a, q5b, q5c⟩ := isOf hZ e4 (own_Sexa T)
  obtain ⟨_, _, ⟨T5, Lq5, kq5, nq5⟩, -, X5, ⟨Lc5, hQ5, lq5, yq5, zq5⟩, st5⟩ := X4.virtualBack hx (y := (⟨"java/lang/String", "substring", "(I)Ljava/lang/String;"⟩ : MethodName)) (z := (⟨"java/lang/String", "substring", "(I)Ljava/lang/String;"⟩ : MethodName)) hown (mvT hZ (hw _ (own_w 93 rfl))) (mvT hZ (hw _ (own_w 94 rfl))) (notFace_of_selects (args := #[]) (mvT hZ (hw _ (own_w 96 rfl)))) (mvT hZ (hw _ (own_w 96 rfl))) (mvT hZ (hw _ (own_w 95 rfl))) (by decide) (backOf (W := 0) (rS1 l Z a0 hw [] a1 (Int32.ofNat j) (cs) (ct) (j) G1 gv h0 n0 Z0 X00 O_S hgv O_2 P5 O_A O_H O_W T hs hps hL hcs rfl hen) hZ (hw _ (own_w 97 rfl)) (hw _ (own_w 12 rfl)) (by decide) (by decide)) q5a q5c (g := (mkF m 60 #[.val (.ref a1), .val (.int (Int32.ofNat j)), .val (.ref eo)] [(.int (Int32.ofNat j)), (.ref a1)])) rfl (by rw [hml]; rfl) (Steps.refl _) (argsL := [(.int (Int32.ofNat j))]) (rest := []) (lenOf pd_32 rfl) rfl (by show 2 * 0 + _ ≤ _; exact Nat.le_of_eq rfl) (hb hby d6_60) (fun _ _ => ⟨rfl, e4, (by decide : 0 + 3 ≤ _), (by decide : 0 + 28 ≤ _)⟩)
  dsimp only [Pt.U, Pt.locs, Pt.cells, Pt.slots] at X5 lq5 yq5 zq5 st5 hQ5
  subst lq5 yq5 zq5
  obtain ⟨o5, rfl, N5q, KC5, TS5⟩ := hQ5
  have N5 := Fr.app N4 N5q
  have Z5 : n0 ≤ T5.heap.size := Nat.le_trans Z0 KC5.1
  have K5 : Keep h0 T5.heap [] := (Keep.refl h0 []).trans KC5 all0
  obtain ⟨_, _, ⟨T6, Lq6, kq6, nq6⟩, -, X6, ⟨Lc6, hQ6, lq6, yq6, zq6⟩, st6⟩ := Jvm.LawKit.callS X5 hx (y := (⟨"java/util/Optional", "of", "(Ljava/lang/Object;)Ljava/util/Optional;"⟩ : MethodName)) hown (mvT hZ (hw _ (own_w 110 rfl))) (mvT hZ (hw _ (own_w 111 rfl))) (mvT hZ (hw _ (own_w 48 rfl))) (mvT hZ (hw _ (own_w 112 rfl))) (by decide) (backOf (W := 0) (rOo l Z a0 hw [] o5  T5.heap n0 Z5 ) hZ (hw _ (own_w 112 rfl)) (hw _ (own_w 48 rfl)) (by decide) (by decide)) (g := (mkF m 63 #[.val (.ref a1), .val (.int (Int32.ofNat j)), .val (.ref eo)] [(.ref o5)])) rfl (by rw [hml]; rfl) (argsL := [(.ref o5)]) (rest := []) (lenOf pd_33 rfl) rfl (by show 2 * 0 + _ ≤ _; exact Nat.le_of_eq rfl) (hb hby d6_63) (fun _ _ => ⟨rfl, rfl, (by decide : 3 + 1 ≤ _), (by decide : 28 + 1 ≤ _)⟩)
  dsimp only [Pt.U, Pt.locs, Pt.cells, Pt.slots] at X6 lq6 yq6 zq6 st6 hQ6
  subst lq6 yq6 zq6
  obtain ⟨o6, rfl, N6q, KC6, uE6, uV6⟩ := hQ6
  have N6 := Fr.app N5 N6q
  have Z6 : n0 ≤ T6.heap.size := Nat.le_trans Z5 KC6.1
  have K6 : Keep h0 T6.heap [] := K5.trans KC6 all0
  obtain ⟨fs, hr, hrun, hended, hW, hsame⟩ := X6.leave (v := some (.ref o6)) (fun h => by rw [Bd.returns] at h; cases h) (BodyLoose.notSynchronized Bd)
  refine ⟨_, _, pre0 _ ?_, hrun, hended, _, _, rfl, ?_, ⟨_, rfl⟩, hW, hsame.mono (by decide) (by decide)⟩
  · show Steps p.tables e below (s₁.setTop (mkF m 0 #[.val (.ref a1), .unset, .unset] [])) _
    refine XS.iconst X0.here hx rfl (hb hby d6_0) ?_
    refine XS.istoreN X0.here hx rfl (hb hby d6_1) rfl (l' := #[.val (.ref a1), .val (.int (0 : Int32)), .unset]) rfl ?_
    refine st1 _ ?_
    refine st2 _ ?_
    refine XS.astoreN X2.here hx rfl (hb hby d6_39) rfl rfl (l' := #[.val (.ref a1), .val (.int (Int32.ofNat j)), .val (.ref eo)]) rfl ?_
    refine XS.iloadN X2.here hx rfl (hb hby d6_40) rfl ?_
    refine XS.aloadN X2.here hx rfl (hb hby d6_41) rfl rfl ?_
    refine st3.trans ?_
    refine XS.icmpNo X3.here hx rfl (hb hby d6_45) rfl (tlt (by rw [hr3]; exact (own_xlt (by omega) (by omega)).mpr hi)).2.1 ?_
    refine XS.aloadN X3.here hx rfl (hb hby d6_48) rfl rfl ?_
    refine XS.iloadN X3.here hx rfl (hb hby d6_49) rfl ?_
    refine st4.trans ?_
    refine XS.bipush X4.here hx rfl (hb hby d6_53) ?_
    refine XS.icmpNo X4.here hx rfl (hb hby d6_55) rfl (feq (by rw [hr4]; exact hn35)).1 ?_
    refine XS.aloadN X4.here hx rfl (hb hby d6_58) rfl rfl ?_
    refine XS.iloadN X4.here hx rfl (hb hby d6_59) rfl ?_
    refine st5.trans ?_
    refine st6 _ ?_
    refine XS.astoreN X6.here hx rfl (hb hby d6_66) rfl rfl (l' := #[.val (.ref a1), .val (.int (Int32.ofNat j)), .val (.ref o6)]) rfl ?_
    refine XS.aloadN X6.here hx rfl (hb hby d6_67) rfl rfl ?_
    show Steps p.tables e below (T6.setTop (mkF m 68 #[.val (.ref a1), .val (.int (Int32.ofNat j)), .val (.ref o6)] [(.ref o6)])) _
    exact X6.areturnOut hx rfl Bd.returns rfl (hb hby d6_68) hr
  · show QrKp Z a1 cs j G1 gv eo ct h0 n0 _ T6.heap _
    have f7 := (own_Skeep TS5 KC6)
    exact ⟨o6, o5, rfl, N6, K6, uE6, uV6, f7⟩
theorem pd_34 : parseMethodDescriptor "(I[C)Ljava/lang/String;" = some ⟨[.int, (.array .char)], some (.object "java/lang/String")⟩ := by decide +kernel
theorem pd_35 : parseMethodDescriptor "(Ljava/lang/String;)Ljava/util/Optional;" = some ⟨[(.object "java/lang/String")], some (.object "java/util/Optional")⟩ := by decide +kernel
theorem pd_36 : parseMethodDescriptor "(C)Z" = some ⟨[.char], some .boolean⟩ := by decide +kernel
theorem pn_0 : plainName "com/example/wrasse/wrasse/io/LineFilesContentPinLaw" = true := by first | (simp [plainName, overriddenIn]; done) | decide +kernel
theorem ef_rm0 (m : MethodId) (p1 : Int32) (p2 : Int32) (p3 : Int32) (p4 : Int32) (p5 : Int32) : entryFrame m #[(.int p1), (.int p2), (.int p3), (.int p4), (.int p5)] maxLocals = mkF m 0 #[.val (.int p1), .val (.int p2), .val (.int p3), .val (.int p4), .val (.int p5), .unset, .unset, .unset, .unset, .unset, .unset, .unset, .unset] [] := by first | (simp [entryFrame, mkF, argsToLocals, Value.category, maxLocals]; done) | rfl
def Qrm0 (Z : State) (p1 : Int32) (p2 : Int32) (p3 : Int32) (p4 : Int32) (p5 : Int32) (G1 : Int32) (gv : Value) (eo : Addr) (h0 : Heap) (n0 : Nat) (v : Option Value) (h : Heap) (L : List Loc) : Prop := v = some (.int 1) ∧ Fr n0 L
set_option maxRecDepth 65536 in
set_option maxHeartbeats 40000000 in
theorem rm0 (l : Launch) (Z : State) (a0 : Array Value) (hw : ∀ d ∈ tables_1, d.before a0 Z = true) (ws : List Jvm.Cond) (p1 : Int32) (p2 : Int32) (p3 : Int32) (p4 : Int32) (p5 : Int32) (G1 : Int32) (gv : Value) (eo : Addr) (h0 : Heap) (n0 : Nat) (Z0 : n0 ≤ h0.size) (X00 : Old Z n0 h0) (O_S : Sta Z Z.heap "jdk/internal/util/Preconditions" "SIOOBE_FORMATTER" "Ljava/util/function/BiFunction;" gv) (hgv : gv.isRef = true) (O_2 : Sta Z Z.heap "java/lang/String" "COMPACT_STRINGS" "Z" (.int G1)) (P5 : ¬ (G1 = (0 : Int32))) (O_A : Sta Z Z.heap "java/lang/StringUTF16" "$assertionsDisabled" "Z" (.int (1 : Int32))) (O_H : Sta Z Z.heap "java/lang/StringUTF16" "HI_BYTE_SHIFT" "I" (.int (0 : Int32))) (O_W : Sta Z Z.heap "java/lang/StringUTF16" "LO_BYTE_SHIFT" "I" (.int (8 : Int32))) (O_E : Sta Z Z.heap "java/util/Optional" "EMPTY" "Ljava/util/Optional;" (.ref eo)) (O_EE : Exa Z Z.heap eo "java/util/Optional") (O_EV : Fld Z Z.heap eo "java/util/Optional" "value" "Ljava/lang/Object;" .null) (hheld : Jvm.Lit.constHeld Z "java/lang/String" 7) (hcw : Jvm.Lit.compactW.before a0 Z = true) :
    MetFree l x (head1 (Jvm.Cond.code x code maxLocals ret :: ws) room_1) (fun a U => a = #[(.int p1), (.int p2), (.int p3), (.int p4), (.int p5)] ∧ Z.Warmed39 U.vm ∧ U.heap = h0 ∧ U = Z) (fun _ _ _ _ _ => True) (fun _ U o U' => ∃ v L, o = .returned v ∧ Qrm0 Z p1 p2 p3 p4 p5 G1 gv eo h0 n0 v U'.heap L ∧ ReturnedEndW U o U' L room_1.cells room_1.slots) := by
  refine MetFree.of_bodySF (plainFor_of_name pn_0) hisR ?_
  intro p e s m args below meth c s₁ Bd hml0 hP hK
  obtain ⟨rfl, hZ, hh, hUZ⟩ := hP
  have hx := Bd.exec
  have hby := Bd.bytes
  have hml : c.maxLocals = 13 := hml0
  have hown : s.vm.findClass "com/example/wrasse/wrasse/io/LineFilesContentPinLaw" = some m.cls := findClass_of_methodNamed Bd.named
  have hnm := (name_of_methodNamed Bd.named Bd.method).1
  have X0 : Stand p l e room_1 s m #[(.int p1), (.int p2), (.int p3), (.int p4), (.int p5)] below meth c s₁ [] 0 0 := Stand.of_body Bd
  have e0 : s₁.heap = h0 := by rw [← hh, Bd.state]; rfl
  have N0 := Fr.nil n0
  have pre0 : ∀ t, Steps p.tables e below (s₁.setTop (mkF m 0 #[.val (.int p1), .val (.int p2), .val (.int p3), .val (.int p4), .val (.int p5), .unset, .unset, .unset, .unset, .unset, .unset, .unset, .unset] [])) t → Steps p.tables e below (s₁.setTop (entryFrame m #[(.int p1), (.int p2), (.int p3), (.int p4), (.int p5)] maxLocals)) t := fun t k => castTop (ef_rm0 m p1 p2 p3 p4 p5) k
  have hS0 : s.Since s.vm s.heap.size := (State.WarmedH.refl s).since _
  have hUI : s.vm.interned = Z.vm.interned := by rw [hUZ]
  obtain ⟨T1, h1, ck1, X1, e1, E1, A1, st1⟩ := newP X0 hx hZ (hw _ (own_w 1 rfl)) e0 (g := (mkF m 9 #[.val (.int p1), .val (.int p2), .val (.int p3), .val (.int p4), .val (.int p5), .val (.int ((p1 &&& (2147483647 : Int32)) % (5 : Int32))), .unset, .unset, .unset, .unset, .unset, .unset, .unset] [(.int (4 : Int32))])) rfl (hb hby at_9) rfl (by decide) (cap := 4) (by decide) (by decide) (by decide) (by decide)
  obtain ⟨b1o, g1⟩ : ∃ z, z = h0.size := ⟨_, rfl⟩
  have b1 : n0 ≤ b1o := Nat.le_trans Z0 (Nat.le_of_eq g1.symm)
  have ne2 : eo ≠ b1o := Nat.ne_of_lt (Nat.lt_of_lt_of_le (O_EE.ext X00.2).lt (Nat.le_of_eq g1.symm))
  rw [← g1] at A1 st1
  have Z1 : n0 ≤ h1.size := Nat.le_trans Z0 E1.1
  have V1 : Arv Z h1 b1o ck1 .char (4 : Int32) [(.int (0 : Int32)), (.int (0 : Int32)), (.int (0 : Int32)), (.int (0 : Int32))] (.int (0 : Int32)) := (Arv.new A1 (by decide)).pad (pad_rep [] (.int (0 : Int32)) 4)
  obtain ⟨_, _, ⟨T3, Lq3, kq3, nq3⟩, -, X3, ⟨Lc3, hQ3, lq3, yq3, zq3⟩, st3⟩ := Jvm.LawKit.callS X1 hx (y := (⟨"com/example/wrasse/wrasse/io/LineFilesContentPinLaw", "pick", "(I)C"⟩ : MethodName)) hown (mvT hZ (hw _ (own_w 2 rfl))) (mvT hZ (hw _ (own_w 3 rfl))) (mvT hZ (hw _ (own_w 4 rfl))) (mvT hZ (hw _ (own_w 5 rfl))) (by decide) (backOf (W := 2) (rPk l Z a0 hw [] p2  h1 n0 Z1 ) hZ (hw _ (own_w 5 rfl)) (hw _ (own_w 4 rfl)) (by decide) (by decide)) (g := (mkF m 17 #[.val (.int p1), .val (.int p2), .val (.int p3), .val (.int p4), .val (.int p5), .val (.int ((p1 &&& (2147483647 : Int32)) % (5 : Int32))), .val (.ref b1o), .unset, .unset, .unset, .unset, .unset, .unset] [(.int p2), (.int (0 : Int32)), (.ref b1o)])) rfl (by rw [hml]; rfl) (argsL := [(.int p2)]) (rest := [(.int (0 : Int32)), (.ref b1o)]) (lenOf pd_28 rfl) rfl (by show 2 * 0 + _ ≤ _; exact Nat.le_of_eq rfl) (hb hby at_17) (fun _ _ => ⟨rfl, e1, (by decide : 1 + 0 ≤ _), (by decide : 4 + 0 ≤ _)⟩)
  dsimp only [Pt.U, Pt.locs, Pt.cells, Pt.slots] at X3 lq3 yq3 zq3 st3 hQ3
  subst lq3 yq3 zq3
  obtain ⟨r3, hr3, rfl, N3q, e3⟩ := hQ3
  have N3 := Fr.app N0 N3q
  obtain ⟨cl4, Ar4, qk4, Sz4, Nn4, Hh4, Gg4⟩ := id (V1)
  have hin5 : ¬ ((0 : Int32) < 0 ∨ cl4.slots.size ≤ ((0 : Int32)).toNatClampNeg) := inb_of Sz4 ⟨by decide, by decide⟩
  obtain ⟨T5, h5, X5, e5, W5, st5⟩ := stC X3 hx hZ e3 Ar4 (j := (0 : Int32)) hin5  (g := (mkF m 20 #[.val (.int p1), .val (.int p2), .val (.int p3), .val (.int p4), .val (.int p5), .val (.int ((p1 &&& (2147483647 : Int32)) % (5 : Int32))), .val (.ref b1o), .unset, .unset, .unset, .unset, .unset, .unset] [(.int r3), (.int (0 : Int32)), (.ref b1o)])) rfl rfl (hb hby at_20)
  have N5 := Fr.snoc X5 N3 b1
  have Z5 : n0 ≤ h5.size := by rw [W5.size]; exact Z1
  have V5 : Arv Z h5 b1o ck1 .char (4 : Int32) [(.int (nar .char r3)), (.int (0 : Int32)), (.int (0 : Int32)), (.int (0 : Int32))] (.int (0 : Int32)) := Arv.set Ar4 qk4 Sz4 Nn4 Hh4 Gg4 (fits_nar_char _) W5 0 rfl (Nat.le_of_ble_eq_true rfl)
  obtain ⟨_, _, ⟨T6, Lq6, kq6, nq6⟩, -, X6, ⟨Lc6, hQ6, lq6, yq6, zq6⟩, st6⟩ := Jvm.LawKit.callS X5 hx (y := (⟨"com/example/wrasse/wrasse/io/LineFilesContentPinLaw", "pick", "(I)C"⟩ : MethodName)) hown (mvT hZ (hw _ (own_w 2 rfl))) (mvT hZ (hw _ (own_w 3 rfl))) (mvT hZ (hw _ (own_w 4 rfl))) (mvT hZ (hw _ (own_w 5 rfl))) (by decide) (backOf (W := 2) (rPk l Z a0 hw [] p3  h5 n0 Z5 ) hZ (hw _ (own_w 5 rfl)) (hw _ (own_w 4 rfl)) (by decide) (by decide)) (g := (mkF m 25 #[.val (.int p1), .val (.int p2), .val (.int p3), .val (.int p4), .val (.int p5), .val (.int ((p1 &&& (2147483647 : Int32)) % (5 : Int32))), .val (.ref b1o), .unset, .unset, .unset, .unset, .unset, .unset] [(.int p3), (.int (1 : Int32)), (.ref b1o)])) rfl (by rw [hml]; rfl) (argsL := [(.int p3)]) (rest := [(.int (1 : Int32)), (.ref b1o)]) (lenOf pd_28 rfl) rfl (by show 2 * 0 + _ ≤ _; exact Nat.le_of_eq rfl) (hb hby at_25) (fun _ _ => ⟨rfl, e5, (by decide : 1 + 0 ≤ _), (by decide : 4 + 0 ≤ _)⟩)
  dsimp only [Pt.U, Pt.locs, Pt.cells, Pt.slots] at X6 lq6 yq6 zq6 st6 hQ6
  subst lq6 yq6 zq6
  obtain ⟨r6, hr6, rfl, N6q, e6⟩ := hQ6
  have N6 := Fr.app N5 N6q
  obtain ⟨cl7, Ar7, qk7, Sz7, Nn7, Hh7, Gg7⟩ := id (V5)
  have hin8 : ¬ ((1 : Int32) < 0 ∨ cl7.slots.size ≤ ((1 : Int32)).toNatClampNeg) := inb_of Sz7 ⟨by decide, by decide⟩
  obtain ⟨T8, h8, X8, e8, W8, st8⟩ := stC X6 hx hZ e6 Ar7 (j := (1 : Int32)) hin8  (g := (mkF m 28 #[.val (.int p1), .val (.int p2), .val (.int p3), .val (.int p4), .val (.int p5), .val (.int ((p1 &&& (2147483647 : Int32)) % (5 : Int32))), .val (.ref b1o), .unset, .unset, .unset, .unset, .unset, .unset] [(.int r6), (.int (1 : Int32)), (.ref b1o)])) rfl rfl (hb hby at_28)
  have N8 := Fr.snoc X8 N6 b1
  have Z8 : n0 ≤ h8.size := by rw [W8.size]; exact Z5
  have V8 : Arv Z h8 b1o ck1 .char (4 : Int32) [(.int (nar .char r3)), (.int (nar .char r6)), (.int (0 : Int32)), (.int (0 : Int32))] (.int (0 : Int32)) := Arv.set Ar7 qk7 Sz7 Nn7 Hh7 Gg7 (fits_nar_char _) W8 1 rfl (Nat.le_of_ble_eq_true rfl)
  obtain ⟨_, _, ⟨T9, Lq9, kq9, nq9⟩, -, X9, ⟨Lc9, hQ9, lq9, yq9, zq9⟩, st9⟩ := Jvm.LawKit.callS X8 hx (y := (⟨"com/example/wrasse/wrasse/io/LineFilesContentPinLaw", "pick", "(I)C"⟩ : MethodName)) hown (mvT hZ (hw _ (own_w 2 rfl))) (mvT hZ (hw _ (own_w 3 rfl))) (mvT hZ (hw _ (own_w 4 rfl))) (mvT hZ (hw _ (own_w 5 rfl))) (by decide) (backOf (W := 2) (rPk l Z a0 hw [] p4  h8 n0 Z8 ) hZ (hw _ (own_w 5 rfl)) (hw _ (own_w 4 rfl)) (by decide) (by decide)) (g := (mkF m 33 #[.val (.int p1), .val (.int p2), .val (.int p3), .val (.int p4), .val (.int p5), .val (.int ((p1 &&& (2147483647 : Int32)) % (5 : Int32))), .val (.ref b1o), .unset, .unset, .unset, .unset, .unset, .unset] [(.int p4), (.int (2 : Int32)), (.ref b1o)])) rfl (by rw [hml]; rfl) (argsL := [(.int p4)]) (rest := [(.int (2 : Int32)), (.ref b1o)]) (lenOf pd_28 rfl) rfl (by show 2 * 0 + _ ≤ _; exact Nat.le_of_eq rfl) (hb hby at_33) (fun _ _ => ⟨rfl, e8, (by decide : 1 + 0 ≤ _), (by decide : 4 + 0 ≤ _)⟩)
  dsimp only [Pt.U, Pt.locs, Pt.cells, Pt.slots] at X9 lq9 yq9 zq9 st9 hQ9
  subst lq9 yq9 zq9
  obtain ⟨r9, hr9, rfl, N9q, e9⟩ := hQ9
  have N9 := Fr.app N8 N9q
  obtain ⟨cl10, Ar10, qk10, Sz10, Nn10, Hh10, Gg10⟩ := id (V8)
  have hin11 : ¬ ((2 : Int32) < 0 ∨ cl10.slots.size ≤ ((2 : Int32)).toNatClampNeg) := inb_of Sz10 ⟨by decide, by decide⟩
  obtain ⟨T11, h11, X11, e11, W11, st11⟩ := stC X9 hx hZ e9 Ar10 (j := (2 : Int32)) hin11  (g := (mkF m 36 #[.val (.int p1), .val (.int p2), .val (.int p3), .val (.int p4), .val (.int p5), .val (.int ((p1 &&& (2147483647 : Int32)) % (5 : Int32))), .val (.ref b1o), .unset, .unset, .unset, .unset, .unset, .unset] [(.int r9), (.int (2 : Int32)), (.ref b1o)])) rfl rfl (hb hby at_36)
  have N11 := Fr.snoc X11 N9 b1
  have Z11 : n0 ≤ h11.size := by rw [W11.size]; exact Z8
  have V11 : Arv Z h11 b1o ck1 .char (4 : Int32) [(.int (nar .char r3)), (.int (nar .char r6)), (.int (nar .char r9)), (.int (0 : Int32))] (.int (0 : Int32)) := Arv.set Ar10 qk10 Sz10 Nn10 Hh10 Gg10 (fits_nar_char _) W11 2 rfl (Nat.le_of_ble_eq_true rfl)
  obtain ⟨_, _, ⟨T12, Lq12, kq12, nq12⟩, -, X12, ⟨Lc12, hQ12, lq12, yq12, zq12⟩, st12⟩ := Jvm.LawKit.callS X11 hx (y := (⟨"com/example/wrasse/wrasse/io/LineFilesContentPinLaw", "pick", "(I)C"⟩ : MethodName)) hown (mvT hZ (hw _ (own_w 2 rfl))) (mvT hZ (hw _ (own_w 3 rfl))) (mvT hZ (hw _ (own_w 4 rfl))) (mvT hZ (hw _ (own_w 5 rfl))) (by decide) (backOf (W := 2) (rPk l Z a0 hw [] p5  h11 n0 Z11 ) hZ (hw _ (own_w 5 rfl)) (hw _ (own_w 4 rfl)) (by decide) (by decide)) (g := (mkF m 42 #[.val (.int p1), .val (.int p2), .val (.int p3), .val (.int p4), .val (.int p5), .val (.int ((p1 &&& (2147483647 : Int32)) % (5 : Int32))), .val (.ref b1o), .unset, .unset, .unset, .unset, .unset, .unset] [(.int p5), (.int (3 : Int32)), (.ref b1o)])) rfl (by rw [hml]; rfl) (argsL := [(.int p5)]) (rest := [(.int (3 : Int32)), (.ref b1o)]) (lenOf pd_28 rfl) rfl (by show 2 * 0 + _ ≤ _; exact Nat.le_of_eq rfl) (hb hby at_42) (fun _ _ => ⟨rfl, e11, (by decide : 1 + 0 ≤ _), (by decide : 4 + 0 ≤ _)⟩)
  dsimp only [Pt.U, Pt.locs, Pt.cells, Pt.slots] at X12 lq12 yq12 zq12 st12 hQ12
  subst lq12 yq12 zq12
  obtain ⟨r12, hr12, rfl, N12q, e12⟩ := hQ12
  have N12 := Fr.app N11 N12q
  obtain ⟨cl13, Ar13, qk13, Sz13, Nn13, Hh13, Gg13⟩ := id (V11)
  have hin14 : ¬ ((3 : Int32) < 0 ∨ cl13.slots.size ≤ ((3 : Int32)).toNatClampNeg) := inb_of Sz13 ⟨by decide, by decide⟩
  obtain ⟨T14, h14, X14, e14, W14, st14⟩ := stC X12 hx hZ e12 Ar13 (j := (3 : Int32)) hin14  (g := (mkF m 45 #[.val (.int p1), .val (.int p2), .val (.int p3), .val (.int p4), .val (.int p5), .val (.int ((p1 &&& (2147483647 : Int32)) % (5 : Int32))), .val (.ref b1o), .unset, .unset, .unset, .unset, .unset, .unset] [(.int r12), (.int (3 : Int32)), (.ref b1o)])) rfl rfl (hb hby at_45)
  have N14 := Fr.snoc X14 N12 b1
  have Z14 : n0 ≤ h14.size := by rw [W14.size]; exact Z11
  have V14 : Arv Z h14 b1o ck1 .char (4 : Int32) [(.int (nar .char r3)), (.int (nar .char r6)), (.int (nar .char r9)), (.int (nar .char r12))] (.int (0 : Int32)) := Arv.set Ar13 qk13 Sz13 Nn13 Hh13 Gg13 (fits_nar_char _) W14 3 rfl (Nat.le_of_ble_eq_true rfl)
  have VA := V14
  rw [own_ncc hr3, own_ncc hr6, own_ncc hr9, own_ncc hr12] at VA
  have pq15 : ∀ t, Steps p.tables e below (T14.setTop (mkF m 46 #[.val (.int p1), .val (.int p2), .val (.int p3), .val (.int p4), .val (.int p5), .val (.int ((p1 &&& (2147483647 : Int32)) % (5 : Int32))), .val (.ref b1o), .unset, .unset, .unset, .unset, .unset, .unset] [])) t → Steps p.tables e below (s₁.setTop (mkF m 0 #[.val (.int p1), .val (.int p2), .val (.int p3), .val (.int p4), .val (.int p5), .unset, .unset, .unset, .unset, .unset, .unset, .unset, .unset] [])) t := by
    intro t kt
    show Steps p.tables e below (s₁.setTop (mkF m 0 #[.val (.int p1), .val (.int p2), .val (.int p3), .val (.int p4), .val (.int p5), .unset, .unset, .unset, .unset, .unset, .unset, .unset, .unset] [])) _
    refine XS.iloadN X0.here hx rfl (hb hby at_0) rfl ?_
    refine X0.ldcInt hx hown (mvT hZ (hw _ (own_w 0 rfl))) (g := (mkF m 1 #[.val (.int p1), .val (.int p2), .val (.int p3), .val (.int p4), .val (.int p5), .unset, .unset, .unset, .unset, .unset, .unset, .unset, .unset] [(.int p1)])) rfl (hb hby at_1) _ ?_
    refine XS.iand X0.here hx rfl (hb hby at_3) rfl ?_
    refine XS.iconst X0.here hx rfl (hb hby at_4) ?_
    refine iremM X0 hx rfl (hb hby at_5) rfl (by decide) ?_
    refine XS.istore X0.here hx rfl (hb hby at_6) rfl (l' := #[.val (.int p1), .val (.int p2), .val (.int p3), .val (.int p4), .val (.int p5), .val (.int ((p1 &&& (2147483647 : Int32)) % (5 : Int32))), .unset, .unset, .unset, .unset, .unset, .unset, .unset]) rfl ?_
    refine XS.iconst X0.here hx rfl (hb hby at_8) ?_
    refine st1 _ ?_
    refine XS.astore X1.here hx rfl (hb hby at_11) rfl rfl (l' := #[.val (.int p1), .val (.int p2), .val (.int p3), .val (.int p4), .val (.int p5), .val (.int ((p1 &&& (2147483647 : Int32)) % (5 : Int32))), .val (.ref b1o), .unset, .unset, .unset, .unset, .unset, .unset]) rfl ?_
    refine XS.aload X1.here hx rfl (hb hby at_13) rfl rfl ?_
    refine XS.iconst X1.here hx rfl (hb hby at_15) ?_
    refine XS.iloadN X1.here hx rfl (hb hby at_16) rfl ?_
    refine st3 _ ?_
    refine st5 _ ?_
    refine XS.aload X5.here hx rfl (hb hby at_21) rfl rfl ?_
    refine XS.iconst X5.here hx rfl (hb hby at_23) ?_
    refine XS.iloadN X5.here hx rfl (hb hby at_24) rfl ?_
    refine st6 _ ?_
    refine st8 _ ?_
    refine XS.aload X8.here hx rfl (hb hby at_29) rfl rfl ?_
    refine XS.iconst X8.here hx rfl (hb hby at_31) ?_
    refine XS.iloadN X8.here hx rfl (hb hby at_32) rfl ?_
    refine st9 _ ?_
    refine st11 _ ?_
    refine XS.aload X11.here hx rfl (hb hby at_37) rfl rfl ?_
    refine XS.iconst X11.here hx rfl (hb hby at_39) ?_
    refine XS.iload X11.here hx rfl (hb hby at_40) rfl ?_
    refine st12 _ ?_
    refine st14 _ ?_
    exact kt
  rcases own_n5 p1 with hI | hI | hI | hI | hI
  · skip
    have f17 := (((((X00.ext E1).wr W5 b1).wr W8 b1).wr W11 b1).wr W14 b1)
    obtain ⟨_, _, ⟨T16, Lq16, kq16, nq16⟩, -, X16, hS16, hgr16, ⟨Lc16, hQ16, lq16, yq16, zq16⟩, st16⟩ := callSS X14 hx (y := (⟨"com/example/wrasse/wrasse/io/LineFilesContentPinLaw", "make", "(I[C)Ljava/lang/String;"⟩ : MethodName)) hown (mvT hZ (hw _ (own_w 7 rfl))) (mvT hZ (hw _ (own_w 8 rfl))) (mvT hZ (hw _ (own_w 4 rfl))) (mvT hZ (hw _ (own_w 9 rfl))) (by decide) (own_backS (W := 0) (rMk0 l Z a0 hw [] b1o  h14 n0 Z14 f17 hheld hcw) hZ hUI (hw _ (own_w 9 rfl)) (hw _ (own_w 4 rfl)) (by decide) (by decide)) (g := (mkF m 50 #[.val (.int p1), .val (.int p2), .val (.int p3), .val (.int p4), .val (.int p5), .val (.int (0 : Int32)), .val (.ref b1o), .unset, .unset, .unset, .unset, .unset, .unset] [(.ref b1o), (.int (0 : Int32))])) rfl (by rw [hml]; rfl) (argsL := [(.int (0 : Int32)), (.ref b1o)]) (rest := []) (lenOf pd_34 rfl) rfl (by show 2 * 0 + _ ≤ _; exact Nat.le_of_eq rfl) (hb hby at_50) (fun _ _ => ⟨rfl, e14, (by decide : 1 + 4 ≤ _), (by decide : 4 + 8 ≤ _)⟩)
    dsimp only [Pt.U, Pt.locs, Pt.cells, Pt.slots] at X16 lq16 yq16 zq16 st16 hQ16 hS16
    subst lq16 yq16 zq16
    have hZ16 : Z.Warmed39 (s.setVm T16.vm).vm := State.Warmed39.trans (t := s) hZ hS16.1
    have ho16 : (s.setVm T16.vm).vm.findClass "com/example/wrasse/wrasse/io/LineFilesContentPinLaw" = some m.cls := by rw [show (s.setVm T16.vm).vm = T16.vm from rfl, hS16.1.alike.findClass]; exact hown
    obtain ⟨o16, rfl, N16q, KC16, TS16⟩ := hQ16
    have N16 := Fr.app N14 N16q
    have Z16 : n0 ≤ T16.heap.size := Nat.le_trans Z14 KC16.1
    have f19 := (f17.keep KC16 all0)
    obtain ⟨_, _, ⟨T18, Lq18, kq18, nq18⟩, -, X18, ⟨Lc18, hQ18, lq18, yq18, zq18⟩, st18⟩ := Jvm.LawKit.callS X16 hx (y := (⟨"com/example/wrasse/wrasse/io/LineFiles", "content", "(Ljava/lang/String;)Ljava/util/Optional;"⟩ : MethodName)) ho16 (mvT hZ16 (hw _ (own_w 31 rfl))) (mvT hZ16 (hw _ (own_w 32 rfl))) (mvT hZ16 (hw _ (own_w 33 rfl))) (mvT hZ16 (hw _ (own_w 34 rfl))) (by decide) (backOf (W := 0) (rKe l Z a0 hw [] o16 [] 0 G1 gv eo T16.heap n0 Z16 f19 O_S hgv O_2 P5 O_A O_H O_W TS16 (Nat.le_of_ble_eq_true rfl) own_nil own_bef0 (Or.inl rfl) O_E) hZ16 (hw _ (own_w 34 rfl)) (hw _ (own_w 33 rfl)) (by decide) (by decide)) (g := (mkF m 159 #[.val (.int p1), .val (.int p2), .val (.int p3), .val (.int p4), .val (.int p5), .val (.int (0 : Int32)), .val (.ref b1o), .val (.ref o16), .val (.int (0 : Int32)), .val (.int (0 : Int32)), .unset, .unset, .unset] [(.ref o16)])) rfl (by rw [hml]; rfl) (argsL := [(.ref o16)]) (rest := []) (lenOf pd_35 rfl) rfl (by show 2 * 0 + _ ≤ _; exact Nat.le_of_eq rfl) (hb hby at_159) (fun _ _ => ⟨rfl, rfl, (by decide : 5 + 0 ≤ _), (by decide : 12 + 0 ≤ _)⟩)
    dsimp only [Pt.U, Pt.locs, Pt.cells, Pt.slots] at X18 lq18 yq18 zq18 st18 hQ18
    subst lq18 yq18 zq18
    obtain ⟨rfl, N18q, e18⟩ := hQ18
    have N18 := Fr.app N16 N18q
    obtain ⟨cq20, kz20, q20a, q20b, q20c⟩ := isOf hZ16 e18 (O_EE.ext f19.2)
    obtain ⟨_, _, ⟨T20, Lq20, kq20, nq20⟩, -, X20, ⟨Lc20, hQ20, lq20, yq20, zq20⟩, st20⟩ := X18.virtualBack hx (y := (⟨"java/util/Optional", "isPresent", "()Z"⟩ : MethodName)) (z := (⟨"java/util/Optional", "isPresent", "()Z"⟩ : MethodName)) ho16 (mvT hZ16 (hw _ (own_w 51 rfl))) (mvT hZ16 (hw _ (own_w 52 rfl))) (notFace_of_selects (args := #[]) (mvT hZ16 (hw _ (own_w 54 rfl)))) (mvT hZ16 (hw _ (own_w 54 rfl))) (mvT hZ16 (hw _ (own_w 53 rfl))) (by decide) (backOf (W := 0) (rOp0 l Z a0 hw [] eo  T16.heap n0 Z16 (O_EV.ext f19.2)) hZ16 (hw _ (own_w 55 rfl)) (hw _ (own_w 48 rfl)) (by decide) (by decide)) q20a q20c (g := (mkF m 178 #[.val (.int p1), .val (.int p2), .val (.int p3), .val (.int p4), .val (.int p5), .val (.int (0 : Int32)), .val (.ref b1o), .val (.ref o16), .val (.int (0 : Int32)), .val (.int (0 : Int32)), .val (.ref eo), .unset, .unset] [(.ref eo)])) rfl (by rw [hml]; rfl) (Steps.refl _) (argsL := []) (rest := []) (lenOf pd_7 rfl) rfl (by show 2 * 0 + _ ≤ _; exact Nat.le_of_eq rfl) (hb hby at_178) (fun _ _ => ⟨rfl, e18, (by decide : 5 + 0 ≤ _), (by decide : 12 + 0 ≤ _)⟩)
    dsimp only [Pt.U, Pt.locs, Pt.cells, Pt.slots] at X20 lq20 yq20 zq20 st20 hQ20
    subst lq20 yq20 zq20
    obtain ⟨r20, hr20, rfl, N20q, e20⟩ := hQ20
    have N20 := Fr.app N18 N20q
    subst hr20
    obtain ⟨fs, hr, hrun, hended, hwd⟩ := Jvm.Stand.leaveW (s := s) (vm₁ := T16.vm) X20 hS16 (Nat.le_trans (Nat.le_refl _) (Nat.le_of_eq (congrArg Array.size e20).symm)) (v := some (.int (1 : Int32))) (fun h => by rw [Bd.returns] at h; cases h)
    refine ⟨_, _, pre0 _ ?_, hrun, hended, _, _, rfl, ?_, hwd.1, hwd.2.1, hwd.2.2.1, hwd.2.2.2.mono (by decide) (by decide)⟩
    · refine pq15 _ ?_
      show Steps p.tables e below (T14.setTop (mkF m 46 #[.val (.int p1), .val (.int p2), .val (.int p3), .val (.int p4), .val (.int p5), .val (.int ((p1 &&& (2147483647 : Int32)) % (5 : Int32))), .val (.ref b1o), .unset, .unset, .unset, .unset, .unset, .unset] [])) _
      rw [hI]
      show Steps p.tables e below (T14.setTop (mkF m 46 #[.val (.int p1), .val (.int p2), .val (.int p3), .val (.int p4), .val (.int p5), .val (.int (0 : Int32)), .val (.ref b1o), .unset, .unset, .unset, .unset, .unset, .unset] [])) _
      refine XS.iload X14.here hx rfl (hb hby at_46) rfl ?_
      refine XS.aload X14.here hx rfl (hb hby at_48) rfl rfl ?_
      refine st16.trans ?_
      refine XS.astore X16.here hx rfl (hb hby at_53) rfl rfl (l' := #[.val (.int p1), .val (.int p2), .val (.int p3), .val (.int p4), .val (.int p5), .val (.int (0 : Int32)), .val (.ref b1o), .val (.ref o16), .unset, .unset, .unset, .unset, .unset]) rfl ?_
      refine XS.iconst X16.here hx rfl (hb hby at_55) ?_
      refine XS.istore X16.here hx rfl (hb hby at_56) rfl (l' := #[.val (.int p1), .val (.int p2), .val (.int p3), .val (.int p4), .val (.int p5), .val (.int (0 : Int32)), .val (.ref b1o), .val (.ref o16), .val (.int (0 : Int32)), .unset, .unset, .unset, .unset]) rfl ?_
      refine XS.iload X16.here hx rfl (hb hby at_58) rfl ?_
      refine XS.ifYes X16.here hx rfl (pc0 := 60) (pc' := 133) rfl (hb hby at_60) rfl ((if0 _ _).trans (flt (by decide)).2.2.2) (by decide) (by decide) ?_
      refine XS.iload X16.here hx rfl (hb hby at_133) rfl ?_
      refine XS.iload X16.here hx rfl (hb hby at_135) rfl ?_
      refine XS.icmpYes X16.here hx rfl (pc0 := 137) (pc' := 154) rfl (hb hby at_137) rfl (flt (by decide)).2.1 (by decide) (by decide) ?_
      refine XS.iconst X16.here hx rfl (hb hby at_154) ?_
      refine XS.istore X16.here hx rfl (hb hby at_155) rfl (l' := #[.val (.int p1), .val (.int p2), .val (.int p3), .val (.int p4), .val (.int p5), .val (.int (0 : Int32)), .val (.ref b1o), .val (.ref o16), .val (.int (0 : Int32)), .val (.int (0 : Int32)), .unset, .unset, .unset]) rfl ?_
      refine XS.aload X16.here hx rfl (hb hby at_157) rfl rfl ?_
      refine st18 _ ?_
      refine XS.astore X18.here hx rfl (hb hby at_162) rfl rfl (l' := #[.val (.int p1), .val (.int p2), .val (.int p3), .val (.int p4), .val (.int p5), .val (.int (0 : Int32)), .val (.ref b1o), .val (.ref o16), .val (.int (0 : Int32)), .val (.int (0 : Int32)), .val (.ref eo), .unset, .unset]) rfl ?_
      refine XS.aload X18.here hx rfl (hb hby at_164) rfl rfl ?_
      refine XS.ifnonnullYes X18.here hx rfl (pc0 := 166) (pc' := 171) rfl (hb hby at_166) rfl (by decide) (by decide) ?_
      refine XS.iload X18.here hx rfl (hb hby at_171) rfl ?_
      refine XS.ifNo X18.here hx rfl (hb hby at_173) rfl ((if0 _ _).trans (teq (by decide)).2) ?_
      refine XS.aload X18.here hx rfl (hb hby at_176) rfl rfl ?_
      refine st20.trans ?_
      refine XS.ifNo X20.here hx rfl (hb hby at_181) rfl ((if0 _ _).trans (teq (by decide)).2) ?_
      refine XS.iconst X20.here hx rfl (hb hby at_184) ?_
      refine XS.goto X20.here hx rfl (pc0 := 185) (pc' := 189) rfl (hb hby at_185) (by decide) (by decide) ?_
      show Steps p.tables e below (T20.setTop (mkF m 189 #[.val (.int p1), .val (.int p2), .val (.int p3), .val (.int p4), .val (.int p5), .val (.int (0 : Int32)), .val (.ref b1o), .val (.ref o16), .val (.int (0 : Int32)), .val (.int (0 : Int32)), .val (.ref eo), .unset, .unset] [(.int (1 : Int32))])) _
      exact retN X20 hx (t := .boolean) Bd.returns (by simp) (hb hby at_189) hr
    · show Qrm0 Z p1 p2 p3 p4 p5 G1 gv eo h0 n0 _ T20.heap _
      exact ⟨rfl, N20⟩
  · skip
    have f22 := (((((X00.ext E1).wr W5 b1).wr W8 b1).wr W11 b1).wr W14 b1)
    obtain ⟨_, _, ⟨T21, Lq21, kq21, nq21⟩, -, X21, ⟨Lc21, hQ21, lq21, yq21, zq21⟩, st21⟩ := Jvm.LawKit.callS X14 hx (y := (⟨"com/example/wrasse/wrasse/io/LineFilesContentPinLaw", "make", "(I[C)Ljava/lang/String;"⟩ : MethodName)) hown (mvT hZ (hw _ (own_w 7 rfl))) (mvT hZ (hw _ (own_w 8 rfl))) (mvT hZ (hw _ (own_w 4 rfl))) (mvT hZ (hw _ (own_w 9 rfl))) (by decide) (backOf (W := 0) (rMk1 l Z a0 hw [] b1o r3 r6 r9 r12 ck1 G1 h14 n0 Z14 f22 O_2 P5 O_A O_H O_W VA hr3 hr6 hr9 hr12) hZ (hw _ (own_w 9 rfl)) (hw _ (own_w 4 rfl)) (by decide) (by decide)) (g := (mkF m 50 #[.val (.int p1), .val (.int p2), .val (.int p3), .val (.int p4), .val (.int p5), .val (.int (1 : Int32)), .val (.ref b1o), .unset, .unset, .unset, .unset, .unset, .unset] [(.ref b1o), (.int (1 : Int32))])) rfl (by rw [hml]; rfl) (argsL := [(.int (1 : Int32)), (.ref b1o)]) (rest := []) (lenOf pd_34 rfl) rfl (by show 2 * 0 + _ ≤ _; exact Nat.le_of_eq rfl) (hb hby at_50) (fun _ _ => ⟨rfl, e14, (by decide : 1 + 4 ≤ _), (by decide : 4 + 29 ≤ _)⟩)
    dsimp only [Pt.U, Pt.locs, Pt.cells, Pt.slots] at X21 lq21 yq21 zq21 st21 hQ21
    subst lq21 yq21 zq21
    obtain ⟨o21, rfl, N21q, KC21, TS21⟩ := hQ21
    have N21 := Fr.app N14 N21q
    have Z21 : n0 ≤ T21.heap.size := Nat.le_trans Z14 KC21.1
    have f23 := (VA.keep KC21 nin0)
    obtain ⟨cl24, Ar24, qk24, Sz24, Nn24, Hh24, Gg24⟩ := id (f23)
    have hin25 : ¬ ((0 : Int32) < 0 ∨ cl24.slots.size ≤ ((0 : Int32)).toNatClampNeg) := inb_of Sz24 ⟨by decide, by decide⟩
    have hat25 : cl24.slots[((0 : Int32)).toNatClampNeg]? = some (.int r3) := Has.at Hh24 hin25 rfl
    obtain ⟨_, _, ⟨T26, Lq26, kq26, nq26⟩, -, X26, ⟨Lc26, hQ26, lq26, yq26, zq26⟩, st26⟩ := Jvm.LawKit.callS X21 hx (y := (⟨"com/example/wrasse/wrasse/io/LineFilesContentPinLaw", "blank", "(C)Z"⟩ : MethodName)) hown (mvT hZ (hw _ (own_w 68 rfl))) (mvT hZ (hw _ (own_w 69 rfl))) (mvT hZ (hw _ (own_w 4 rfl))) (mvT hZ (hw _ (own_w 70 rfl))) (by decide) (backOf (W := 0) (rBl l Z a0 hw [] r3  T21.heap n0 Z21 ) hZ (hw _ (own_w 70 rfl)) (hw _ (own_w 4 rfl)) (by decide) (by decide)) (g := (mkF m 67 #[.val (.int p1), .val (.int p2), .val (.int p3), .val (.int p4), .val (.int p5), .val (.int (1 : Int32)), .val (.ref b1o), .val (.ref o21), .val (.int (0 : Int32)), .unset, .unset, .unset, .unset] [(.int r3)])) rfl (by rw [hml]; rfl) (argsL := [(.int r3)]) (rest := []) (lenOf pd_36 rfl) rfl (by show 2 * 0 + _ ≤ _; exact Nat.le_of_eq rfl) (hb hby at_67) (fun _ _ => ⟨rfl, rfl, (by decide : 5 + 0 ≤ _), (by decide : 33 + 0 ≤ _)⟩)
    dsimp only [Pt.U, Pt.locs, Pt.cells, Pt.slots] at X26 lq26 yq26 zq26 st26 hQ26
    subst lq26 yq26 zq26
    obtain ⟨r26, hr26, rfl, N26q, e26⟩ := hQ26
    have N26 := Fr.app N21 N26q
    have pq27 : ∀ t, Steps p.tables e below (T26.setTop (mkF m 70 #[.val (.int p1), .val (.int p2), .val (.int p3), .val (.int p4), .val (.int p5), .val (.int (1 : Int32)), .val (.ref b1o), .val (.ref o21), .val (.int (0 : Int32)), .unset, .unset, .unset, .unset] [(.int r26)])) t → Steps p.tables e below (s₁.setTop (mkF m 0 #[.val (.int p1), .val (.int p2), .val (.int p3), .val (.int p4), .val (.int p5), .unset, .unset, .unset, .unset, .unset, .unset, .unset, .unset] [])) t := by
      intro t kt
      refine pq15 _ ?_
      show Steps p.tables e below (T14.setTop (mkF m 46 #[.val (.int p1), .val (.int p2), .val (.int p3), .val (.int p4), .val (.int p5), .val (.int ((p1 &&& (2147483647 : Int32)) % (5 : Int32))), .val (.ref b1o), .unset, .unset, .unset, .unset, .unset, .unset] [])) _
      rw [hI]
      show Steps p.tables e below (T14.setTop (mkF m 46 #[.val (.int p1), .val (.int p2), .val (.int p3), .val (.int p4), .val (.int p5), .val (.int (1 : Int32)), .val (.ref b1o), .unset, .unset, .unset, .unset, .unset, .unset] [])) _
      refine XS.iload X14.here hx rfl (hb hby at_46) rfl ?_
      refine XS.aload X14.here hx rfl (hb hby at_48) rfl rfl ?_
      refine st21 _ ?_
      refine XS.astore X21.here hx rfl (hb hby at_53) rfl rfl (l' := #[.val (.int p1), .val (.int p2), .val (.int p3), .val (.int p4), .val (.int p5), .val (.int (1 : Int32)), .val (.ref b1o), .val (.ref o21), .unset, .unset, .unset, .unset, .unset]) rfl ?_
      refine XS.iconst X21.here hx rfl (hb hby at_55) ?_
      refine XS.istore X21.here hx rfl (hb hby at_56) rfl (l' := #[.val (.int p1), .val (.int p2), .val (.int p3), .val (.int p4), .val (.int p5), .val (.int (1 : Int32)), .val (.ref b1o), .val (.ref o21), .val (.int (0 : Int32)), .unset, .unset, .unset, .unset]) rfl ?_
      refine XS.iload X21.here hx rfl (hb hby at_58) rfl ?_
      refine XS.ifNo X21.here hx rfl (hb hby at_60) rfl ((if0 _ _).trans (tlt (by decide)).2.2.2) ?_
      refine XS.aload X21.here hx rfl (hb hby at_63) rfl rfl ?_
      refine XS.iconst X21.here hx rfl (hb hby at_65) ?_
      refine X21.caload hx (j := (0 : Int32)) (v := (.int r3)) Ar24.1 (State.isArrayOf_alike hZ.alike Ar24.2.1) Ar24.2.2 hin25 hat25 (g := (mkF m 66 #[.val (.int p1), .val (.int p2), .val (.int p3), .val (.int p4), .val (.int p5), .val (.int (1 : Int32)), .val (.ref b1o), .val (.ref o21), .val (.int (0 : Int32)), .unset, .unset, .unset, .unset] [(.int (0 : Int32)), (.ref b1o)])) rfl rfl (hb hby at_66) _ ?_
      refine st26 _ ?_
      exact kt
    by_cases hB0 : (r3 = (32 : Int32) ∨ r3 = (9 : Int32))
    · skip
      have f29 := (f22.keep KC21 all0)
      obtain ⟨_, _, ⟨T28, Lq28, kq28, nq28⟩, -, X28, ⟨Lc28, hQ28, lq28, yq28, zq28⟩, st28⟩ := Jvm.LawKit.callS X26 hx (y := (⟨"com/example/wrasse/wrasse/io/LineFiles", "content", "(Ljava/lang/String;)Ljava/util/Optional;"⟩ : MethodName)) hown (mvT hZ (hw _ (own_w 31 rfl))) (mvT hZ (hw _ (own_w 32 rfl))) (mvT hZ (hw _ (own_w 33 rfl))) (mvT hZ (hw _ (own_w 34 rfl))) (by decide) (backOf (W := 0) (rKe l Z a0 hw [] o21 [r3] 1 G1 gv eo T21.heap n0 Z21 f29 O_S hgv O_2 P5 O_A O_H O_W TS21 (Nat.le_of_ble_eq_true rfl) (own_cons hr3 own_nil) (own_befS (P := fun k => (([r3] : List Int32).getD k 0 = (32 : Int32) ∨ ([r3] : List Int32).getD k 0 = (9 : Int32))) own_bef0 hB0) (Or.inl rfl) O_E) hZ (hw _ (own_w 34 rfl)) (hw _ (own_w 33 rfl)) (by decide) (by decide)) (g := (mkF m 159 #[.val (.int p1), .val (.int p2), .val (.int p3), .val (.int p4), .val (.int p5), .val (.int (1 : Int32)), .val (.ref b1o), .val (.ref o21), .val (.int (1 : Int32)), .val (.int (0 : Int32)), .unset, .unset, .unset] [(.ref o21)])) rfl (by rw [hml]; rfl) (argsL := [(.ref o21)]) (rest := []) (lenOf pd_35 rfl) rfl (by show 2 * 0 + _ ≤ _; exact Nat.le_of_eq rfl) (hb hby at_159) (fun _ _ => ⟨rfl, e26, (by decide : 5 + 0 ≤ _), (by decide : 33 + 0 ≤ _)⟩)
      dsimp only [Pt.U, Pt.locs, Pt.cells, Pt.slots] at X28 lq28 yq28 zq28 st28 hQ28
      subst lq28 yq28 zq28
      obtain ⟨rfl, N28q, e28⟩ := hQ28
      have N28 := Fr.app N26 N28q
      obtain ⟨cq30, kz30, q30a, q30b, q30c⟩ := isOf hZ e28 (O_EE.ext f29.2)
      obtain ⟨_, _, ⟨T30, Lq30, kq30, nq30⟩, -, X30, ⟨Lc30, hQ30, lq30, yq30, zq30⟩, st30⟩ := X28.virtualBack hx (y := (⟨"java/util/Optional", "isPresent", "()Z"⟩ : MethodName)) (z := (⟨"java/util/Optional", "isPresent", "()Z"⟩ : MethodName)) hown (mvT hZ (hw _ (own_w 51 rfl))) (mvT hZ (hw _ (own_w 52 rfl))) (notFace_of_selects (args := #[]) (mvT hZ (hw _ (own_w 54 rfl)))) (mvT hZ (hw _ (own_w 54 rfl))) (mvT hZ (hw _ (own_w 53 rfl))) (by decide) (backOf (W := 0) (rOp0 l Z a0 hw [] eo  T21.heap n0 Z21 (O_EV.ext f29.2)) hZ (hw _ (own_w 55 rfl)) (hw _ (own_w 48 rfl)) (by decide) (by decide)) q30a q30c (g := (mkF m 178 #[.val (.int p1), .val (.int p2), .val (.int p3), .val (.int p4), .val (.int p5), .val (.int (1 : Int32)), .val (.ref b1o), .val (.ref o21), .val (.int (1 : Int32)), .val (.int (0 : Int32)), .val (.ref eo), .unset, .unset] [(.ref eo)])) rfl (by rw [hml]; rfl) (Steps.refl _) (argsL := []) (rest := []) (lenOf pd_7 rfl) rfl (by show 2 * 0 + _ ≤ _; exact Nat.le_of_eq rfl) (hb hby at_178) (fun _ _ => ⟨rfl, e28, (by decide : 5 + 0 ≤ _), (by decide : 33 + 0 ≤ _)⟩)
      dsimp only [Pt.U, Pt.locs, Pt.cells, Pt.slots] at X30 lq30 yq30 zq30 st30 hQ30
      subst lq30 yq30 zq30
      obtain ⟨r30, hr30, rfl, N30q, e30⟩ := hQ30
      have N30 := Fr.app N28 N30q
      subst hr30
      obtain ⟨fs, hr, hrun, hended, hwd⟩ := Jvm.Stand.leaveW (s := s) (vm₁ := s.vm) X30 hS0 (Nat.le_trans (Nat.le_trans (Nat.le_trans (Nat.le_trans (Nat.le_trans (Nat.le_trans (Nat.le_trans (Nat.le_of_eq (congrArg Array.size hh)) E1.1) (Nat.le_of_eq W5.size.symm)) (Nat.le_of_eq W8.size.symm)) (Nat.le_of_eq W11.size.symm)) (Nat.le_of_eq W14.size.symm)) KC21.1) (Nat.le_of_eq (congrArg Array.size e30).symm)) (v := some (.int (1 : Int32))) (fun h => by rw [Bd.returns] at h; cases h)
      refine ⟨_, _, pre0 _ ?_, hrun, hended, _, _, rfl, ?_, hwd.1, hwd.2.1, hwd.2.2.1, hwd.2.2.2.mono (by decide) (by decide)⟩
      · refine pq27 _ ?_
        show Steps p.tables e below (T26.setTop (mkF m 70 #[.val (.int p1), .val (.int p2), .val (.int p3), .val (.int p4), .val (.int p5), .val (.int (1 : Int32)), .val (.ref b1o), .val (.ref o21), .val (.int (0 : Int32)), .unset, .unset, .unset, .unset] [(.int r26)])) _
        rw [(hr26.trans (if_pos hB0))]
        show Steps p.tables e below (T26.setTop (mkF m 70 #[.val (.int p1), .val (.int p2), .val (.int p3), .val (.int p4), .val (.int p5), .val (.int (1 : Int32)), .val (.ref b1o), .val (.ref o21), .val (.int (0 : Int32)), .unset, .unset, .unset, .unset] [(.int (1 : Int32))])) _
        refine XS.ifNo X26.here hx rfl (hb hby at_70) rfl ((if0 _ _).trans (feq (by decide)).1) ?_
        refine XS.iconst X26.here hx rfl (hb hby at_73) ?_
        refine XS.istore X26.here hx rfl (hb hby at_74) rfl (l' := #[.val (.int p1), .val (.int p2), .val (.int p3), .val (.int p4), .val (.int p5), .val (.int (1 : Int32)), .val (.ref b1o), .val (.ref o21), .val (.int (1 : Int32)), .unset, .unset, .unset, .unset]) rfl ?_
        refine XS.iload X26.here hx rfl (hb hby at_76) rfl ?_
        refine XS.iconst X26.here hx rfl (hb hby at_78) ?_
        refine XS.icmpYes X26.here hx rfl (pc0 := 79) (pc' := 133) rfl (hb hby at_79) rfl (flt (by decide)).2.2.2 (by decide) (by decide) ?_
        refine XS.iload X26.here hx rfl (hb hby at_133) rfl ?_
        refine XS.iload X26.here hx rfl (hb hby at_135) rfl ?_
        refine XS.icmpYes X26.here hx rfl (pc0 := 137) (pc' := 154) rfl (hb hby at_137) rfl (flt (by decide)).2.1 (by decide) (by decide) ?_
        refine XS.iconst X26.here hx rfl (hb hby at_154) ?_
        refine XS.istore X26.here hx rfl (hb hby at_155) rfl (l' := #[.val (.int p1), .val (.int p2), .val (.int p3), .val (.int p4), .val (.int p5), .val (.int (1 : Int32)), .val (.ref b1o), .val (.ref o21), .val (.int (1 : Int32)), .val (.int (0 : Int32)), .unset, .unset, .unset]) rfl ?_
        refine XS.aload X26.here hx rfl (hb hby at_157) rfl rfl ?_
        refine st28 _ ?_
        refine XS.astore X28.here hx rfl (hb hby at_162) rfl rfl (l' := #[.val (.int p1), .val (.int p2), .val (.int p3), .val (.int p4), .val (.int p5), .val (.int (1 : Int32)), .val (.ref b1o), .val (.ref o21), .val (.int (1 : Int32)), .val (.int (0 : Int32)), .val (.ref eo), .unset, .unset]) rfl ?_
        refine XS.aload X28.here hx rfl (hb hby at_164) rfl rfl ?_
        refine XS.ifnonnullYes X28.here hx rfl (pc0 := 166) (pc' := 171) rfl (hb hby at_166) rfl (by decide) (by decide) ?_
        refine XS.iload X28.here hx rfl (hb hby at_171) rfl ?_
        refine XS.ifNo X28.here hx rfl (hb hby at_173) rfl ((if0 _ _).trans (teq (by decide)).2) ?_
        refine XS.aload X28.here hx rfl (hb hby at_176) rfl rfl ?_
        refine st30.trans ?_
        refine XS.ifNo X30.here hx rfl (hb hby at_181) rfl ((if0 _ _).trans (teq (by decide)).2) ?_
        refine XS.iconst X30.here hx rfl (hb hby at_184) ?_
        refine XS.goto X30.here hx rfl (pc0 := 185) (pc' := 189) rfl (hb hby at_185) (by decide) (by decide) ?_
        show Steps p.tables e below (T30.setTop (mkF m 189 #[.val (.int p1), .val (.int p2), .val (.int p3), .val (.int p4), .val (.int p5), .val (.int (1 : Int32)), .val (.ref b1o), .val (.ref o21), .val (.int (1 : Int32)), .val (.int (0 : Int32)), .val (.ref eo), .unset, .unset] [(.int (1 : Int32))])) _
        exact retN X30 hx (t := .boolean) Bd.returns (by simp) (hb hby at_189) hr
      · show Qrm0 Z p1 p2 p3 p4 p5 G1 gv eo h0 n0 _ T30.heap _
        exact ⟨rfl, N30⟩
    · skip
      obtain ⟨cl31, Ar31, qk31, Sz31, Nn31, Hh31, Gg31⟩ := id (f23)
      have hin32 : ¬ ((0 : Int32) < 0 ∨ cl31.slots.size ≤ ((0 : Int32)).toNatClampNeg) := inb_of Sz31 ⟨by decide, by decide⟩
      have hat32 : cl31.slots[((0 : Int32)).toNatClampNeg]? = some (.int r3) := Has.at Hh31 hin32 rfl
      have pq33 : ∀ t, Steps p.tables e below (T26.setTop (mkF m 147 #[.val (.int p1), .val (.int p2), .val (.int p3), .val (.int p4), .val (.int p5), .val (.int (1 : Int32)), .val (.ref b1o), .val (.ref o21), .val (.int (0 : Int32)), .unset, .unset, .unset, .unset] [(.int (35 : Int32)), (.int r3)])) t → Steps p.tables e below (s₁.setTop (mkF m 0 #[.val (.int p1), .val (.int p2), .val (.int p3), .val (.int p4), .val (.int p5), .unset, .unset, .unset, .unset, .unset, .unset, .unset, .unset] [])) t := by
        intro t kt
        refine pq27 _ ?_
        show Steps p.tables e below (T26.setTop (mkF m 70 #[.val (.int p1), .val (.int p2), .val (.int p3), .val (.int p4), .val (.int p5), .val (.int (1 : Int32)), .val (.ref b1o), .val (.ref o21), .val (.int (0 : Int32)), .unset, .unset, .unset, .unset] [(.int r26)])) _
        rw [(hr26.trans (if_neg hB0))]
        show Steps p.tables e below (T26.setTop (mkF m 70 #[.val (.int p1), .val (.int p2), .val (.int p3), .val (.int p4), .val (.int p5), .val (.int (1 : Int32)), .val (.ref b1o), .val (.ref o21), .val (.int (0 : Int32)), .unset, .unset, .unset, .unset] [(.int (0 : Int32))])) _
        refine XS.ifYes X26.here hx rfl (pc0 := 70) (pc' := 133) rfl (hb hby at_70) rfl ((if0 _ _).trans (teq (by decide)).1) (by decide) (by decide) ?_
        refine XS.iload X26.here hx rfl (hb hby at_133) rfl ?_
        refine XS.iload X26.here hx rfl (hb hby at_135) rfl ?_
        refine XS.icmpNo X26.here hx rfl (hb hby at_137) rfl (tlt (by decide)).2.1 ?_
        refine XS.aload X26.here hx rfl (hb hby at_140) rfl rfl ?_
        refine XS.iload X26.here hx rfl (hb hby at_142) rfl ?_
        refine X26.caload hx (j := (0 : Int32)) (v := (.int r3)) (by rw [e26]; exact Ar31.1) (State.isArrayOf_alike hZ.alike Ar31.2.1) Ar31.2.2 hin32 hat32 (g := (mkF m 144 #[.val (.int p1), .val (.int p2), .val (.int p3), .val (.int p4), .val (.int p5), .val (.int (1 : Int32)), .val (.ref b1o), .val (.ref o21), .val (.int (0 : Int32)), .unset, .unset, .unset, .unset] [(.int (0 : Int32)), (.ref b1o)])) rfl rfl (hb hby at_144) _ ?_
        refine XS.bipush X26.here hx rfl (hb hby at_145) ?_
        exact kt
      by_cases hc147 : r3 = (35 : Int32)
      · have f35 := (f22.keep KC21 all0)
        obtain ⟨_, _, ⟨T34, Lq34, kq34, nq34⟩, -, X34, ⟨Lc34, hQ34, lq34, yq34, zq34⟩, st34⟩ := Jvm.LawKit.callS X26 hx (y := (⟨"com/example/wrasse/wrasse/io/LineFiles", "content", "(Ljava/lang/String;)Ljava/util/Optional;"⟩ : MethodName)) hown (mvT hZ (hw _ (own_w 31 rfl))) (mvT hZ (hw _ (own_w 32 rfl))) (mvT hZ (hw _ (own_w 33 rfl))) (mvT hZ (hw _ (own_w 34 rfl))) (by decide) (backOf (W := 0) (rKe l Z a0 hw [] o21 [r3] 0 G1 gv eo T21.heap n0 Z21 f35 O_S hgv O_2 P5 O_A O_H O_W TS21 (Nat.le_of_ble_eq_true rfl) (own_cons hr3 own_nil) own_bef0 (Or.inr ⟨(Nat.le_of_ble_eq_true rfl), hc147⟩) O_E) hZ (hw _ (own_w 34 rfl)) (hw _ (own_w 33 rfl)) (by decide) (by decide)) (g := (mkF m 159 #[.val (.int p1), .val (.int p2), .val (.int p3), .val (.int p4), .val (.int p5), .val (.int (1 : Int32)), .val (.ref b1o), .val (.ref o21), .val (.int (0 : Int32)), .val (.int (0 : Int32)), .unset, .unset, .unset] [(.ref o21)])) rfl (by rw [hml]; rfl) (argsL := [(.ref o21)]) (rest := []) (lenOf pd_35 rfl) rfl (by show 2 * 0 + _ ≤ _; exact Nat.le_of_eq rfl) (hb hby at_159) (fun _ _ => ⟨rfl, e26, (by decide : 5 + 0 ≤ _), (by decide : 33 + 0 ≤ _)⟩)
        dsimp only [Pt.U, Pt.locs, Pt.cells, Pt.slots] at X34 lq34 yq34 zq34 st34 hQ34
        subst lq34 yq34 zq34
        obtain ⟨rfl, N34q, e34⟩ := hQ34
        have N34 := Fr.app N26 N34q
        obtain ⟨cq36, kz36, q36a, q36b, q36c⟩ := isOf hZ e34 (O_EE.ext f35.2)
        obtain ⟨_, _, ⟨T36, Lq36, kq36, nq36⟩, -, X36, ⟨Lc36, hQ36, lq36, yq36, zq36⟩, st36⟩ := X34.virtualBack hx (y := (⟨"java/util/Optional", "isPresent", "()Z"⟩ : MethodName)) (z := (⟨"java/util/Optional", "isPresent", "()Z"⟩ : MethodName)) hown (mvT hZ (hw _ (own_w 51 rfl))) (mvT hZ (hw _ (own_w 52 rfl))) (notFace_of_selects (args := #[]) (mvT hZ (hw _ (own_w 54 rfl)))) (mvT hZ (hw _ (own_w 54 rfl))) (mvT hZ (hw _ (own_w 53 rfl))) (by decide) (backOf (W := 0) (rOp0 l Z a0 hw [] eo  T21.heap n0 Z21 (O_EV.ext f35.2)) hZ (hw _ (own_w 55 rfl)) (hw _ (own_w 48 rfl)) (by decide) (by decide)) q36a q36c (g := (mkF m 178 #[.val (.int p1), .val (.int p2), .val (.int p3), .val (.int p4), .val (.int p5), .val (.int (1 : Int32)), .val (.ref b1o), .val (.ref o21), .val (.int (0 : Int32)), .val (.int (0 : Int32)), .val (.ref eo), .unset, .unset] [(.ref eo)])) rfl (by rw [hml]; rfl) (Steps.refl _) (argsL := []) (rest := []) (lenOf pd_7 rfl) rfl (by show 2 * 0 + _ ≤ _; exact Nat.le_of_eq rfl) (hb hby at_178) (fun _ _ => ⟨rfl, e34, (by decide : 5 + 0 ≤ _), (by decide : 33 + 0 ≤ _)⟩)
        dsimp only [Pt.U, Pt.locs, Pt.cells, Pt.slots] at X36 lq36 yq36 zq36 st36 hQ36
        subst lq36 yq36 zq36
        obtain ⟨r36, hr36, rfl, N36q, e36⟩ := hQ36
        have N36 := Fr.app N34 N36q
        subst hr36
        obtain ⟨fs, hr, hrun, hended, hwd⟩ := Jvm.Stand.leaveW (s := s) (vm₁ := s.vm) X36 hS0 (Nat.le_trans (Nat.le_trans (Nat.le_trans (Nat.le_trans (Nat.le_trans (Nat.le_trans (Nat.le_trans (Nat.le_of_eq (congrArg Array.size hh)) E1.1) (Nat.le_of_eq W5.size.symm)) (Nat.le_of_eq W8.size.symm)) (Nat.le_of_eq W11.size.symm)) (Nat.le_of_eq W14.size.symm)) KC21.1) (Nat.le_of_eq (congrArg Array.size e36).symm)) (v := some (.int (1 : Int32))) (fun h => by rw [Bd.returns] at h; cases h)
        refine ⟨_, _, pre0 _ ?_, hrun, hended, _, _, rfl, ?_, hwd.1, hwd.2.1, hwd.2.2.1, hwd.2.2.2.mono (by decide) (by decide)⟩
        · refine pq33 _ ?_
          show Steps p.tables e below (T26.setTop (mkF m 147 #[.val (.int p1), .val (.int p2), .val (.int p3), .val (.int p4), .val (.int p5), .val (.int (1 : Int32)), .val (.ref b1o), .val (.ref o21), .val (.int (0 : Int32)), .unset, .unset, .unset, .unset] [(.int (35 : Int32)), (.int r3)])) _
          refine XS.icmpYes X26.here hx rfl (pc0 := 147) (pc' := 154) rfl (hb hby at_147) rfl (teq hc147).1 (by decide) (by decide) ?_
          refine XS.iconst X26.here hx rfl (hb hby at_154) ?_
          refine XS.istore X26.here hx rfl (hb hby at_155) rfl (l' := #[.val (.int p1), .val (.int p2), .val (.int p3), .val (.int p4), .val (.int p5), .val (.int (1 : Int32)), .val (.ref b1o), .val (.ref o21), .val (.int (0 : Int32)), .val (.int (0 : Int32)), .unset, .unset, .unset]) rfl ?_
          refine XS.aload X26.here hx rfl (hb hby at_157) rfl rfl ?_
          refine st34 _ ?_
          refine XS.astore X34.here hx rfl (hb hby at_162) rfl rfl (l' := #[.val (.int p1), .val (.int p2), .val (.int p3), .val (.int p4), .val (.int p5), .val (.int (1 : Int32)), .val (.ref b1o), .val (.ref o21), .val (.int (0 : Int32)), .val (.int (0 : Int32)), .val (.ref eo), .unset, .unset]) rfl ?_
          refine XS.aload X34.here hx rfl (hb hby at_164) rfl rfl ?_
          refine XS.ifnonnullYes X34.here hx rfl (pc0 := 166) (pc' := 171) rfl (hb hby at_166) rfl (by decide) (by decide) ?_
          refine XS.iload X34.here hx rfl (hb hby at_171) rfl ?_
          refine XS.ifNo X34.here hx rfl (hb hby at_173) rfl ((if0 _ _).trans (teq (by decide)).2) ?_
          refine XS.aload X34.here hx rfl (hb hby at_176) rfl rfl ?_
          refine st36.trans ?_
          refine XS.ifNo X36.here hx rfl (hb hby at_181) rfl ((if0 _ _).trans (teq (by decide)).2) ?_
          refine XS.iconst X36.here hx rfl (hb hby at_184) ?_
          refine XS.goto X36.here hx rfl (pc0 := 185) (pc' := 189) rfl (hb hby at_185) (by decide) (by decide) ?_
          show Steps p.tables e below (T36.setTop (mkF m 189 #[.val (.int p1), .val (.int p2), .val (.int p3), .val (.int p4), .val (.int p5), .val (.int (1 : Int32)), .val (.ref b1o), .val (.ref o21), .val (.int (0 : Int32)), .val (.int (0 : Int32)), .val (.ref eo), .unset, .unset] [(.int (1 : Int32))])) _
          exact retN X36 hx (t := .boolean) Bd.returns (by simp) (hb hby at_189) hr
        · show Qrm0 Z p1 p2 p3 p4 p5 G1 gv eo h0 n0 _ T36.heap _
          exact ⟨rfl, N36⟩
      · have f38 := (f22.keep KC21 all0)
        obtain ⟨_, _, ⟨T37, Lq37, kq37, nq37⟩, -, X37, ⟨Lc37, hQ37, lq37, yq37, zq37⟩, st37⟩ := Jvm.LawKit.callS X26 hx (y := (⟨"com/example/wrasse/wrasse/io/LineFiles", "content", "(Ljava/lang/String;)Ljava/util/Optional;"⟩ : MethodName)) hown (mvT hZ (hw _ (own_w 31 rfl))) (mvT hZ (hw _ (own_w 32 rfl))) (mvT hZ (hw _ (own_w 33 rfl))) (mvT hZ (hw _ (own_w 34 rfl))) (by decide) (backOf (W := 0) (rKp l Z a0 hw [] o21 [r3] 0 G1 gv eo [r3] T21.heap n0 Z21 f38 O_S hgv O_2 P5 O_A O_H O_W TS21 (Nat.le_of_ble_eq_true rfl) (own_cons hr3 own_nil) own_bef0 O_E ⟨(Nat.le_of_ble_eq_true rfl), rfl⟩ (Nat.le_of_ble_eq_true rfl) rfl hB0 hc147) hZ (hw _ (own_w 34 rfl)) (hw _ (own_w 33 rfl)) (by decide) (by decide)) (g := (mkF m 159 #[.val (.int p1), .val (.int p2), .val (.int p3), .val (.int p4), .val (.int p5), .val (.int (1 : Int32)), .val (.ref b1o), .val (.ref o21), .val (.int (0 : Int32)), .val (.int (1 : Int32)), .unset, .unset, .unset] [(.ref o21)])) rfl (by rw [hml]; rfl) (argsL := [(.ref o21)]) (rest := []) (lenOf pd_35 rfl) rfl (by show 2 * 0 + _ ≤ _; exact Nat.le_of_eq rfl) (hb hby at_159) (fun _ _ => ⟨rfl, e26, (by decide : 5 + 4 ≤ _), (by decide : 33 + 29 ≤ _)⟩)
        dsimp only [Pt.U, Pt.locs, Pt.cells, Pt.slots] at X37 lq37 yq37 zq37 st37 hQ37
        subst lq37 yq37 zq37
        obtain ⟨o37, x37, rfl, N37q, KC37, uE37, uV37, TS37⟩ := hQ37
        have N37 := Fr.app N26 N37q
        have Z37 : n0 ≤ T37.heap.size := Nat.le_trans Z21 KC37.1
        have f40 := (f38.keep KC37 all0)
        have f41 := (f23.keep KC37 nin0)
        obtain ⟨T39, L39, X39, e39, N39, st39⟩ := own_tail (ct := [r3]) (sq := 0) (vs := [(.int r3), (.int r6), (.int r9), (.int r12)]) (by decide) (by decide) (by decide) (by decide) hx hZ hw hby hml hown f40 O_S hgv O_2 P5 O_A O_H O_W Z37 TS37 (Nat.le_of_ble_eq_true rfl) (own_cons hr3 own_nil) uE37 uV37 f41 (by decide : 0 + 1 ≤ 4) (own_befS (P := fun k => ([.int r3, .int r6, .int r9, .int r12] : List Value).getD (0 + k) (.int (0 : Int32)) = .int (([r3] : List Int32).getD k 0)) own_bef0 rfl) _ _ X37 rfl N37
        obtain ⟨fs, hr, hrun, hended, hwd⟩ := Jvm.Stand.leaveW (s := s) (vm₁ := s.vm) X39 hS0 (Nat.le_trans (Nat.le_trans (Nat.le_trans (Nat.le_trans (Nat.le_trans (Nat.le_trans (Nat.le_trans (Nat.le_trans (Nat.le_of_eq (congrArg Array.size hh)) E1.1) (Nat.le_of_eq W5.size.symm)) (Nat.le_of_eq W8.size.symm)) (Nat.le_of_eq W11.size.symm)) (Nat.le_of_eq W14.size.symm)) KC21.1) KC37.1) (Nat.le_of_eq (congrArg Array.size e39).symm)) (v := some (.int (1 : Int32))) (fun h => by rw [Bd.returns] at h; cases h)
        refine ⟨_, _, pre0 _ ?_, hrun, hended, _, _, rfl, ?_, hwd.1, hwd.2.1, hwd.2.2.1, hwd.2.2.2.mono (by decide) (by decide)⟩
        · refine pq33 _ ?_
          show Steps p.tables e below (T26.setTop (mkF m 147 #[.val (.int p1), .val (.int p2), .val (.int p3), .val (.int p4), .val (.int p5), .val (.int (1 : Int32)), .val (.ref b1o), .val (.ref o21), .val (.int (0 : Int32)), .unset, .unset, .unset, .unset] [(.int (35 : Int32)), (.int r3)])) _
          refine XS.icmpNo X26.here hx rfl (hb hby at_147) rfl (feq hc147).1 ?_
          refine XS.iconst X26.here hx rfl (hb hby at_150) ?_
          refine XS.goto X26.here hx rfl (pc0 := 151) (pc' := 155) rfl (hb hby at_151) (by decide) (by decide) ?_
          refine XS.istore X26.here hx rfl (hb hby at_155) rfl (l' := #[.val (.int p1), .val (.int p2), .val (.int p3), .val (.int p4), .val (.int p5), .val (.int (1 : Int32)), .val (.ref b1o), .val (.ref o21), .val (.int (0 : Int32)), .val (.int (1 : Int32)), .unset, .unset, .unset]) rfl ?_
          refine XS.aload X26.here hx rfl (hb hby at_157) rfl rfl ?_
          refine st37 _ ?_
          refine XS.astore X37.here hx rfl (hb hby at_162) rfl rfl (l' := #[.val (.int p1), .val (.int p2), .val (.int p3), .val (.int p4), .val (.int p5), .val (.int (1 : Int32)), .val (.ref b1o), .val (.ref o21), .val (.int (0 : Int32)), .val (.int (1 : Int32)), .val (.ref o37), .unset, .unset]) rfl ?_
          refine XS.aload X37.here hx rfl (hb hby at_164) rfl rfl ?_
          refine XS.ifnonnullYes X37.here hx rfl (pc0 := 166) (pc' := 171) rfl (hb hby at_166) rfl (by decide) (by decide) ?_
          refine XS.iload X37.here hx rfl (hb hby at_171) rfl ?_
          refine XS.ifYes X37.here hx rfl (pc0 := 173) (pc' := 190) rfl (hb hby at_173) rfl ((if0 _ _).trans (feq (by decide)).2) (by decide) (by decide) ?_
          refine st39 _ ?_
          show Steps p.tables e below (T39.setTop (mkF m 294 #[.val (.int p1), .val (.int p2), .val (.int p3), .val (.int p4), .val (.int p5), .val (.int (1 : Int32)), .val (.ref b1o), .val (.ref o21), .val (.int (0 : Int32)), .val (.int (1 : Int32)), .val (.ref o37), .val (.ref x37), .val (.int (1 : Int32))] [(.int (1 : Int32))])) _
          exact retN X39 hx (t := .boolean) Bd.returns (by simp) (hb hby at_294) hr
        · show Qrm0 Z p1 p2 p3 p4 p5 G1 gv eo h0 n0 _ T39.heap _
          exact ⟨rfl, N39⟩
  · skip
    have f43 := (((((X00.ext E1).wr W5 b1).wr W8 b1).wr W11 b1).wr W14 b1)
    obtain ⟨_, _, ⟨T42, Lq42, kq42, nq42⟩, -, X42, ⟨Lc42, hQ42, lq42, yq42, zq42⟩, st42⟩ := Jvm.LawKit.callS X14 hx (y := (⟨"com/example/wrasse/wrasse/io/LineFilesContentPinLaw", "make", "(I[C)Ljava/lang/String;"⟩ : MethodName)) hown (mvT hZ (hw _ (own_w 7 rfl))) (mvT hZ (hw _ (own_w 8 rfl))) (mvT hZ (hw _ (own_w 4 rfl))) (mvT hZ (hw _ (own_w 9 rfl))) (by decide) (backOf (W := 0) (rMk2 l Z a0 hw [] b1o r3 r6 r9 r12 ck1 G1 h14 n0 Z14 f43 O_2 P5 O_A O_H O_W VA hr3 hr6 hr9 hr12) hZ (hw _ (own_w 9 rfl)) (hw _ (own_w 4 rfl)) (by decide) (by decide)) (g := (mkF m 50 #[.val (.int p1), .val (.int p2), .val (.int p3), .val (.int p4), .val (.int p5), .val (.int (2 : Int32)), .val (.ref b1o), .unset, .unset, .unset, .unset, .unset, .unset] [(.ref b1o), (.int (2 : Int32))])) rfl (by rw [hml]; rfl) (argsL := [(.int (2 : Int32)), (.ref b1o)]) (rest := []) (lenOf pd_34 rfl) rfl (by show 2 * 0 + _ ≤ _; exact Nat.le_of_eq rfl) (hb hby at_50) (fun _ _ => ⟨rfl, e14, (by decide : 1 + 4 ≤ _), (by decide : 4 + 30 ≤ _)⟩)
    dsimp only [Pt.U, Pt.locs, Pt.cells, Pt.slots] at X42 lq42 yq42 zq42 st42 hQ42
    subst lq42 yq42 zq42
    obtain ⟨o42, rfl, N42q, KC42, TS42⟩ := hQ42
    have N42 := Fr.app N14 N42q
    have Z42 : n0 ≤ T42.heap.size := Nat.le_trans Z14 KC42.1
    have f44 := (VA.keep KC42 nin0)
    obtain ⟨cl45, Ar45, qk45, Sz45, Nn45, Hh45, Gg45⟩ := id (f44)
    have hin46 : ¬ ((0 : Int32) < 0 ∨ cl45.slots.size ≤ ((0 : Int32)).toNatClampNeg) := inb_of Sz45 ⟨by decide, by decide⟩
    have hat46 : cl45.slots[((0 : Int32)).toNatClampNeg]? = some (.int r3) := Has.at Hh45 hin46 rfl
    obtain ⟨_, _, ⟨T47, Lq47, kq47, nq47⟩, -, X47, ⟨Lc47, hQ47, lq47, yq47, zq47⟩, st47⟩ := Jvm.LawKit.callS X42 hx (y := (⟨"com/example/wrasse/wrasse/io/LineFilesContentPinLaw", "blank", "(C)Z"⟩ : MethodName)) hown (mvT hZ (hw _ (own_w 68 rfl))) (mvT hZ (hw _ (own_w 69 rfl))) (mvT hZ (hw _ (own_w 4 rfl))) (mvT hZ (hw _ (own_w 70 rfl))) (by decide) (backOf (W := 0) (rBl l Z a0 hw [] r3  T42.heap n0 Z42 ) hZ (hw _ (own_w 70 rfl)) (hw _ (own_w 4 rfl)) (by decide) (by decide)) (g := (mkF m 67 #[.val (.int p1), .val (.int p2), .val (.int p3), .val (.int p4), .val (.int p5), .val (.int (2 : Int32)), .val (.ref b1o), .val (.ref o42), .val (.int (0 : Int32)), .unset, .unset, .unset, .unset] [(.int r3)])) rfl (by rw [hml]; rfl) (argsL := [(.int r3)]) (rest := []) (lenOf pd_36 rfl) rfl (by show 2 * 0 + _ ≤ _; exact Nat.le_of_eq rfl) (hb hby at_67) (fun _ _ => ⟨rfl, rfl, (by decide : 5 + 0 ≤ _), (by decide : 34 + 0 ≤ _)⟩)
    dsimp only [Pt.U, Pt.locs, Pt.cells, Pt.slots] at X47 lq47 yq47 zq47 st47 hQ47
    subst lq47 yq47 zq47
    obtain ⟨r47, hr47, rfl, N47q, e47⟩ := hQ47
    have N47 := Fr.app N42 N47q
    have pq48 : ∀ t, Steps p.tables e below (T47.setTop (mkF m 70 #[.val (.int p1), .val (.int p2), .val (.int p3), .val (.int p4), .val (.int p5), .val (.int (2 : Int32)), .val (.ref b1o), .val (.ref o42), .val (.int (0 : Int32)), .unset, .unset, .unset, .unset] [(.int r47)])) t → Steps p.tables e below (s₁.setTop (mkF m 0 #[.val (.int p1), .val (.int p2), .val (.int p3), .val (.int p4), .val (.int p5), .unset, .unset, .unset, .unset, .unset, .unset, .unset, .unset] [])) t := by
      intro t kt
      refine pq15 _ ?_
      show Steps p.tables e below (T14.setTop (mkF m 46 #[.val (.int p1), .val (.int p2), .val (.int p3), .val (.int p4), .val (.int p5), .val (.int ((p1 &&& (2147483647 : Int32)) % (5 : Int32))), .val (.ref b1o), .unset, .unset, .unset, .unset, .unset, .unset] [])) _
      rw [hI]
      show Steps p.tables e below (T14.setTop (mkF m 46 #[.val (.int p1), .val (.int p2), .val (.int p3), .val (.int p4), .val (.int p5), .val (.int (2 : Int32)), .val (.ref b1o), .unset, .unset, .unset, .unset, .unset, .unset] [])) _
      refine XS.iload X14.here hx rfl (hb hby at_46) rfl ?_
      refine XS.aload X14.here hx rfl (hb hby at_48) rfl rfl ?_
      refine st42 _ ?_
      refine XS.astore X42.here hx rfl (hb hby at_53) rfl rfl (l' := #[.val (.int p1), .val (.int p2), .val (.int p3), .val (.int p4), .val (.int p5), .val (.int (2 : Int32)), .val (.ref b1o), .val (.ref o42), .unset, .unset, .unset, .unset, .unset]) rfl ?_
      refine XS.iconst X42.here hx rfl (hb hby at_55) ?_
      refine XS.istore X42.here hx rfl (hb hby at_56) rfl (l' := #[.val (.int p1), .val (.int p2), .val (.int p3), .val (.int p4), .val (.int p5), .val (.int (2 : Int32)), .val (.ref b1o), .val (.ref o42), .val (.int (0 : Int32)), .unset, .unset, .unset, .unset]) rfl ?_
      refine XS.iload X42.here hx rfl (hb hby at_58) rfl ?_
      refine XS.ifNo X42.here hx rfl (hb hby at_60) rfl ((if0 _ _).trans (tlt (by decide)).2.2.2) ?_
      refine XS.aload X42.here hx rfl (hb hby at_63) rfl rfl ?_
      refine XS.iconst X42.here hx rfl (hb hby at_65) ?_
      refine X42.caload hx (j := (0 : Int32)) (v := (.int r3)) Ar45.1 (State.isArrayOf_alike hZ.alike Ar45.2.1) Ar45.2.2 hin46 hat46 (g := (mkF m 66 #[.val (.int p1), .val (.int p2), .val (.int p3), .val (.int p4), .val (.int p5), .val (.int (2 : Int32)), .val (.ref b1o), .val (.ref o42), .val (.int (0 : Int32)), .unset, .unset, .unset, .unset] [(.int (0 : Int32)), (.ref b1o)])) rfl rfl (hb hby at_66) _ ?_
      refine st47 _ ?_
      exact kt
    by_cases hB0 : (r3 = (32 : Int32) ∨ r3 = (9 : Int32))
    · skip
      obtain ⟨cl49, Ar49, qk49, Sz49, Nn49, Hh49, Gg49⟩ := id (f44)
      have hin50 : ¬ ((1 : Int32) < 0 ∨ cl49.slots.size ≤ ((1 : Int32)).toNatClampNeg) := inb_of Sz49 ⟨by decide, by decide⟩
      have hat50 : cl49.slots[((1 : Int32)).toNatClampNeg]? = some (.int r6) := Has.at Hh49 hin50 rfl
      obtain ⟨_, _, ⟨T51, Lq51, kq51, nq51⟩, -, X51, ⟨Lc51, hQ51, lq51, yq51, zq51⟩, st51⟩ := Jvm.LawKit.callS X47 hx (y := (⟨"com/example/wrasse/wrasse/io/LineFilesContentPinLaw", "blank", "(C)Z"⟩ : MethodName)) hown (mvT hZ (hw _ (own_w 68 rfl))) (mvT hZ (hw _ (own_w 69 rfl))) (mvT hZ (hw _ (own_w 4 rfl))) (mvT hZ (hw _ (own_w 70 rfl))) (by decide) (backOf (W := 0) (rBl l Z a0 hw [] r6  T42.heap n0 Z42 ) hZ (hw _ (own_w 70 rfl)) (hw _ (own_w 4 rfl)) (by decide) (by decide)) (g := (mkF m 86 #[.val (.int p1), .val (.int p2), .val (.int p3), .val (.int p4), .val (.int p5), .val (.int (2 : Int32)), .val (.ref b1o), .val (.ref o42), .val (.int (1 : Int32)), .unset, .unset, .unset, .unset] [(.int r6)])) rfl (by rw [hml]; rfl) (argsL := [(.int r6)]) (rest := []) (lenOf pd_36 rfl) rfl (by show 2 * 0 + _ ≤ _; exact Nat.le_of_eq rfl) (hb hby at_86) (fun _ _ => ⟨rfl, e47, (by decide : 5 + 0 ≤ _), (by decide : 34 + 0 ≤ _)⟩)
      dsimp only [Pt.U, Pt.locs, Pt.cells, Pt.slots] at X51 lq51 yq51 zq51 st51 hQ51
      subst lq51 yq51 zq51
      obtain ⟨r51, hr51, rfl, N51q, e51⟩ := hQ51
      have N51 := Fr.app N47 N51q
      have pq52 : ∀ t, Steps p.tables e below (T51.setTop (mkF m 89 #[.val (.int p1), .val (.int p2), .val (.int p3), .val (.int p4), .val (.int p5), .val (.int (2 : Int32)), .val (.ref b1o), .val (.ref o42), .val (.int (1 : Int32)), .unset, .unset, .unset, .unset] [(.int r51)])) t → Steps p.tables e below (s₁.setTop (mkF m 0 #[.val (.int p1), .val (.int p2), .val (.int p3), .val (.int p4), .val (.int p5), .unset, .unset, .unset, .unset, .unset, .unset, .unset, .unset] [])) t := by
        intro t kt
        refine pq48 _ ?_
        show Steps p.tables e below (T47.setTop (mkF m 70 #[.val (.int p1), .val (.int p2), .val (.int p3), .val (.int p4), .val (.int p5), .val (.int (2 : Int32)), .val (.ref b1o), .val (.ref o42), .val (.int (0 : Int32)), .unset, .unset, .unset, .unset] [(.int r47)])) _
        rw [(hr47.trans (if_pos hB0))]
        show Steps p.tables e below (T47.setTop (mkF m 70 #[.val (.int p1), .val (.int p2), .val (.int p3), .val (.int p4), .val (.int p5), .val (.int (2 : Int32)), .val (.ref b1o), .val (.ref o42), .val (.int (0 : Int32)), .unset, .unset, .unset, .unset] [(.int (1 : Int32))])) _
        refine XS.ifNo X47.here hx rfl (hb hby at_70) rfl ((if0 _ _).trans (feq (by decide)).1) ?_
        refine XS.iconst X47.here hx rfl (hb hby at_73) ?_
        refine XS.istore X47.here hx rfl (hb hby at_74) rfl (l' := #[.val (.int p1), .val (.int p2), .val (.int p3), .val (.int p4), .val (.int p5), .val (.int (2 : Int32)), .val (.ref b1o), .val (.ref o42), .val (.int (1 : Int32)), .unset, .unset, .unset, .unset]) rfl ?_
        refine XS.iload X47.here hx rfl (hb hby at_76) rfl ?_
        refine XS.iconst X47.here hx rfl (hb hby at_78) ?_
        refine XS.icmpNo X47.here hx rfl (hb hby at_79) rfl (tlt (by decide)).2.2.2 ?_
        refine XS.aload X47.here hx rfl (hb hby at_82) rfl rfl ?_
        refine XS.iconst X47.here hx rfl (hb hby at_84) ?_
        refine X47.caload hx (j := (1 : Int32)) (v := (.int r6)) (by rw [e47]; exact Ar49.1) (State.isArrayOf_alike hZ.alike Ar49.2.1) Ar49.2.2 hin50 hat50 (g := (mkF m 85 #[.val (.int p1), .val (.int p2), .val (.int p3), .val (.int p4), .val (.int p5), .val (.int (2 : Int32)), .val (.ref b1o), .val (.ref o42), .val (.int (1 : Int32)), .unset, .unset, .unset, .unset] [(.int (1 : Int32)), (.ref b1o)])) rfl rfl (hb hby at_85) _ ?_
        refine st51 _ ?_
        exact kt
      by_cases hB1 : (r6 = (32 : Int32) ∨ r6 = (9 : Int32))
      · skip
        have f54 := (f43.keep KC42 all0)
        obtain ⟨_, _, ⟨T53, Lq53, kq53, nq53⟩, -, X53, ⟨Lc53, hQ53, lq53, yq53, zq53⟩, st53⟩ := Jvm.LawKit.callS X51 hx (y := (⟨"com/example/wrasse/wrasse/io/LineFiles", "content", "(Ljava/lang/String;)Ljava/util/Optional;"⟩ : MethodName)) hown (mvT hZ (hw _ (own_w 31 rfl))) (mvT hZ (hw _ (own_w 32 rfl))) (mvT hZ (hw _ (own_w 33 rfl))) (mvT hZ (hw _ (own_w 34 rfl))) (by decide) (backOf (W := 0) (rKe l Z a0 hw [] o42 [r3, r6] 2 G1 gv eo T42.heap n0 Z42 f54 O_S hgv O_2 P5 O_A O_H O_W TS42 (Nat.le_of_ble_eq_true rfl) (own_cons hr3 (own_cons hr6 own_nil)) (own_befS (P := fun k => (([r3, r6] : List Int32).getD k 0 = (32 : Int32) ∨ ([r3, r6] : List Int32).getD k 0 = (9 : Int32))) (own_befS (P := fun k => (([r3, r6] : List Int32).getD k 0 = (32 : Int32) ∨ ([r3, r6] : List Int32).getD k 0 = (9 : Int32))) own_bef0 hB0) hB1) (Or.inl rfl) O_E) hZ (hw _ (own_w 34 rfl)) (hw _ (own_w 33 rfl)) (by decide) (by decide)) (g := (mkF m 159 #[.val (.int p1), .val (.int p2), .val (.int p3), .val (.int p4), .val (.int p5), .val (.int (2 : Int32)), .val (.ref b1o), .val (.ref o42), .val (.int (2 : Int32)), .val (.int (0 : Int32)), .unset, .unset, .unset] [(.ref o42)])) rfl (by rw [hml]; rfl) (argsL := [(.ref o42)]) (rest := []) (lenOf pd_35 rfl) rfl (by show 2 * 0 + _ ≤ _; exact Nat.le_of_eq rfl) (hb hby at_159) (fun _ _ => ⟨rfl, e51, (by decide : 5 + 0 ≤ _), (by decide : 34 + 0 ≤ _)⟩)
        dsimp only [Pt.U, Pt.locs, Pt.cells, Pt.slots] at X53 lq53 yq53 zq53 st53 hQ53
        subst lq53 yq53 zq53
        obtain ⟨rfl, N53q, e53⟩ := hQ53
        have N53 := Fr.app N51 N53q
        obtain ⟨cq55, kz55, q55a, q55b, q55c⟩ := isOf hZ e53 (O_EE.ext f54.2)
        obtain ⟨_, _, ⟨T55, Lq55, kq55, nq55⟩, -, X55, ⟨Lc55, hQ55, lq55, yq55, zq55⟩, st55⟩ := X53.virtualBack hx (y := (⟨"java/util/Optional", "isPresent", "()Z"⟩ : MethodName)) (z := (⟨"java/util/Optional", "isPresent", "()Z"⟩ : MethodName)) hown (mvT hZ (hw _ (own_w 51 rfl))) (mvT hZ (hw _ (own_w 52 rfl))) (notFace_of_selects (args := #[]) (mvT hZ (hw _ (own_w 54 rfl)))) (mvT hZ (hw _ (own_w 54 rfl))) (mvT hZ (hw _ (own_w 53 rfl))) (by decide) (backOf (W := 0) (rOp0 l Z a0 hw [] eo  T42.heap n0 Z42 (O_EV.ext f54.2)) hZ (hw _ (own_w 55 rfl)) (hw _ (own_w 48 rfl)) (by decide) (by decide)) q55a q55c (g := (mkF m 178 #[.val (.int p1), .val (.int p2), .val (.int p3), .val (.int p4), .val (.int p5), .val (.int (2 : Int32)), .val (.ref b1o), .val (.ref o42), .val (.int (2 : Int32)), .val (.int (0 : Int32)), .val (.ref eo), .unset, .unset] [(.ref eo)])) rfl (by rw [hml]; rfl) (Steps.refl _) (argsL := []) (rest := []) (lenOf pd_7 rfl) rfl (by show 2 * 0 + _ ≤ _; exact Nat.le_of_eq rfl) (hb hby at_178) (fun _ _ => ⟨rfl, e53, (by decide : 5 + 0 ≤ _), (by decide : 34 + 0 ≤ _)⟩)
        dsimp only [Pt.U, Pt.locs, Pt.cells, Pt.slots] at X55 lq55 yq55 zq55 st55 hQ55
        subst lq55 yq55 zq55
        obtain ⟨r55, hr55, rfl, N55q, e55⟩ := hQ55
        have N55 := Fr.app N53 N55q
        subst hr55
        obtain ⟨fs, hr, hrun, hended, hwd⟩ := Jvm.Stand.leaveW (s := s) (vm₁ := s.vm) X55 hS0 (Nat.le_trans (Nat.le_trans (Nat.le_trans (Nat.le_trans (Nat.le_trans (Nat.le_trans (Nat.le_trans (Nat.le_of_eq (congrArg Array.size hh)) E1.1) (Nat.le_of_eq W5.size.symm)) (Nat.le_of_eq W8.size.symm)) (Nat.le_of_eq W11.size.symm)) (Nat.le_of_eq W14.size.symm)) KC42.1) (Nat.le_of_eq (congrArg Array.size e55).symm)) (v := some (.int (1 : Int32))) (fun h => by rw [Bd.returns] at h; cases h)
        refine ⟨_, _, pre0 _ ?_, hrun, hended, _, _, rfl, ?_, hwd.1, hwd.2.1, hwd.2.2.1, hwd.2.2.2.mono (by decide) (by decide)⟩
        · refine pq52 _ ?_
          show Steps p.tables e below (T51.setTop (mkF m 89 #[.val (.int p1), .val (.int p2), .val (.int p3), .val (.int p4), .val (.int p5), .val (.int (2 : Int32)), .val (.ref b1o), .val (.ref o42), .val (.int (1 : Int32)), .unset, .unset, .unset, .unset] [(.int r51)])) _
          rw [(hr51.trans (if_pos hB1))]
          show Steps p.tables e below (T51.setTop (mkF m 89 #[.val (.int p1), .val (.int p2), .val (.int p3), .val (.int p4), .val (.int p5), .val (.int (2 : Int32)), .val (.ref b1o), .val (.ref o42), .val (.int (1 : Int32)), .unset, .unset, .unset, .unset] [(.int (1 : Int32))])) _
          refine XS.ifNo X51.here hx rfl (hb hby at_89) rfl ((if0 _ _).trans (feq (by decide)).1) ?_
          refine XS.iconst X51.here hx rfl (hb hby at_92) ?_
          refine XS.istore X51.here hx rfl (hb hby at_93) rfl (l' := #[.val (.int p1), .val (.int p2), .val (.int p3), .val (.int p4), .val (.int p5), .val (.int (2 : Int32)), .val (.ref b1o), .val (.ref o42), .val (.int (2 : Int32)), .unset, .unset, .unset, .unset]) rfl ?_
          refine XS.iload X51.here hx rfl (hb hby at_95) rfl ?_
          refine XS.iconst X51.here hx rfl (hb hby at_97) ?_
          refine XS.icmpYes X51.here hx rfl (pc0 := 98) (pc' := 133) rfl (hb hby at_98) rfl (flt (by decide)).2.2.2 (by decide) (by decide) ?_
          refine XS.iload X51.here hx rfl (hb hby at_133) rfl ?_
          refine XS.iload X51.here hx rfl (hb hby at_135) rfl ?_
          refine XS.icmpYes X51.here hx rfl (pc0 := 137) (pc' := 154) rfl (hb hby at_137) rfl (flt (by decide)).2.1 (by decide) (by decide) ?_
          refine XS.iconst X51.here hx rfl (hb hby at_154) ?_
          refine XS.istore X51.here hx rfl (hb hby at_155) rfl (l' := #[.val (.int p1), .val (.int p2), .val (.int p3), .val (.int p4), .val (.int p5), .val (.int (2 : Int32)), .val (.ref b1o), .val (.ref o42), .val (.int (2 : Int32)), .val (.int (0 : Int32)), .unset, .unset, .unset]) rfl ?_
          refine XS.aload X51.here hx rfl (hb hby at_157) rfl rfl ?_
          refine st53 _ ?_
          refine XS.astore X53.here hx rfl (hb hby at_162) rfl rfl (l' := #[.val (.int p1), .val (.int p2), .val (.int p3), .val (.int p4), .val (.int p5), .val (.int (2 : Int32)), .val (.ref b1o), .val (.ref o42), .val (.int (2 : Int32)), .val (.int (0 : Int32)), .val (.ref eo), .unset, .unset]) rfl ?_
          refine XS.aload X53.here hx rfl (hb hby at_164) rfl rfl ?_
          refine XS.ifnonnullYes X53.here hx rfl (pc0 := 166) (pc' := 171) rfl (hb hby at_166) rfl (by decide) (by decide) ?_
          refine XS.iload X53.here hx rfl (hb hby at_171) rfl ?_
          refine XS.ifNo X53.here hx rfl (hb hby at_173) rfl ((if0 _ _).trans (teq (by decide)).2) ?_
          refine XS.aload X53.here hx rfl (hb hby at_176) rfl rfl ?_
          refine st55.trans ?_
          refine XS.ifNo X55.here hx rfl (hb hby at_181) rfl ((if0 _ _).trans (teq (by decide)).2) ?_
          refine XS.iconst X55.here hx rfl (hb hby at_184) ?_
          refine XS.goto X55.here hx rfl (pc0 := 185) (pc' := 189) rfl (hb hby at_185) (by decide) (by decide) ?_
          show Steps p.tables e below (T55.setTop (mkF m 189 #[.val (.int p1), .val (.int p2), .val (.int p3), .val (.int p4), .val (.int p5), .val (.int (2 : Int32)), .val (.ref b1o), .val (.ref o42), .val (.int (2 : Int32)), .val (.int (0 : Int32)), .val (.ref eo), .unset, .unset] [(.int (1 : Int32))])) _
          exact retN X55 hx (t := .boolean) Bd.returns (by simp) (hb hby at_189) hr
        · show Qrm0 Z p1 p2 p3 p4 p5 G1 gv eo h0 n0 _ T55.heap _
          exact ⟨rfl, N55⟩
      · skip
        obtain ⟨cl56, Ar56, qk56, Sz56, Nn56, Hh56, Gg56⟩ := id (f44)
        have hin57 : ¬ ((1 : Int32) < 0 ∨ cl56.slots.size ≤ ((1 : Int32)).toNatClampNeg) := inb_of Sz56 ⟨by decide, by decide⟩
        have hat57 : cl56.slots[((1 : Int32)).toNatClampNeg]? = some (.int r6) := Has.at Hh56 hin57 rfl
        have pq58 : ∀ t, Steps p.tables e below (T51.setTop (mkF m 147 #[.val (.int p1), .val (.int p2), .val (.int p3), .val (.int p4), .val (.int p5), .val (.int (2 : Int32)), .val (.ref b1o), .val (.ref o42), .val (.int (1 : Int32)), .unset, .unset, .unset, .unset] [(.int (35 : Int32)), (.int r6)])) t → Steps p.tables e below (s₁.setTop (mkF m 0 #[.val (.int p1), .val (.int p2), .val (.int p3), .val (.int p4), .val (.int p5), .unset, .unset, .unset, .unset, .unset, .unset, .unset, .unset] [])) t := by
          intro t kt
          refine pq52 _ ?_
          show Steps p.tables e below (T51.setTop (mkF m 89 #[.val (.int p1), .val (.int p2), .val (.int p3), .val (.int p4), .val (.int p5), .val (.int (2 : Int32)), .val (.ref b1o), .val (.ref o42), .val (.int (1 : Int32)), .unset, .unset, .unset, .unset] [(.int r51)])) _
          rw [(hr51.trans (if_neg hB1))]
          show Steps p.tables e below (T51.setTop (mkF m 89 #[.val (.int p1), .val (.int p2), .val (.int p3), .val (.int p4), .val (.int p5), .val (.int (2 : Int32)), .val (.ref b1o), .val (.ref o42), .val (.int (1 : Int32)), .unset, .unset, .unset, .unset] [(.int (0 : Int32))])) _
          refine XS.ifYes X51.here hx rfl (pc0 := 89) (pc' := 133) rfl (hb hby at_89) rfl ((if0 _ _).trans (teq (by decide)).1) (by decide) (by decide) ?_
          refine XS.iload X51.here hx rfl (hb hby at_133) rfl ?_
          refine XS.iload X51.here hx rfl (hb hby at_135) rfl ?_
          refine XS.icmpNo X51.here hx rfl (hb hby at_137) rfl (tlt (by decide)).2.1 ?_
          refine XS.aload X51.here hx rfl (hb hby at_140) rfl rfl ?_
          refine XS.iload X51.here hx rfl (hb hby at_142) rfl ?_
          refine X51.caload hx (j := (1 : Int32)) (v := (.int r6)) (by rw [e51]; exact Ar56.1) (State.isArrayOf_alike hZ.alike Ar56.2.1) Ar56.2.2 hin57 hat57 (g := (mkF m 144 #[.val (.int p1), .val (.int p2), .val (.int p3), .val (.int p4), .val (.int p5), .val (.int (2 : Int32)), .val (.ref b1o), .val (.ref o42), .val (.int (1 : Int32)), .unset, .unset, .unset, .unset] [(.int (1 : Int32)), (.ref b1o)])) rfl rfl (hb hby at_144) _ ?_
          refine XS.bipush X51.here hx rfl (hb hby at_145) ?_
          exact kt
        by_cases hc147 : r6 = (35 : Int32)
        · have f60 := (f43.keep KC42 all0)
          obtain ⟨_, _, ⟨T59, Lq59, kq59, nq59⟩, -, X59, ⟨Lc59, hQ59, lq59, yq59, zq59⟩, st59⟩ := Jvm.LawKit.callS X51 hx (y := (⟨"com/example/wrasse/wrasse/io/LineFiles", "content", "(Ljava/lang/String;)Ljava/util/Optional;"⟩ : MethodName)) hown (mvT hZ (hw _ (own_w 31 rfl))) (mvT hZ (hw _ (own_w 32 rfl))) (mvT hZ (hw _ (own_w 33 rfl))) (mvT hZ (hw _ (own_w 34 rfl))) (by decide) (backOf (W := 0) (rKe l Z a0 hw [] o42 [r3, r6] 1 G1 gv eo T42.heap n0 Z42 f60 O_S hgv O_2 P5 O_A O_H O_W TS42 (Nat.le_of_ble_eq_true rfl) (own_cons hr3 (own_cons hr6 own_nil)) (own_befS (P := fun k => (([r3, r6] : List Int32).getD k 0 = (32 : Int32) ∨ ([r3, r6] : List Int32).getD k 0 = (9 : Int32))) own_bef0 hB0) (Or.inr ⟨(Nat.le_of_ble_eq_true rfl), hc147⟩) O_E) hZ (hw _ (own_w 34 rfl)) (hw _ (own_w 33 rfl)) (by decide) (by decide)) (g := (mkF m 159 #[.val (.int p1), .val (.int p2), .val (.int p3), .val (.int p4), .val (.int p5), .val (.int (2 : Int32)), .val (.ref b1o), .val (.ref o42), .val (.int (1 : Int32)), .val (.int (0 : Int32)), .unset, .unset, .unset] [(.ref o42)])) rfl (by rw [hml]; rfl) (argsL := [(.ref o42)]) (rest := []) (lenOf pd_35 rfl) rfl (by show 2 * 0 + _ ≤ _; exact Nat.le_of_eq rfl) (hb hby at_159) (fun _ _ => ⟨rfl, e51, (by decide : 5 + 0 ≤ _), (by decide : 34 + 0 ≤ _)⟩)
          dsimp only [Pt.U, Pt.locs, Pt.cells, Pt.slots] at X59 lq59 yq59 zq59 st59 hQ59
          subst lq59 yq59 zq59
          obtain ⟨rfl, N59q, e59⟩ := hQ59
          have N59 := Fr.app N51 N59q
          obtain ⟨cq61, kz61, q61a, q61b, q61c⟩ := isOf hZ e59 (O_EE.ext f60.2)
          obtain ⟨_, _, ⟨T61, Lq61, kq61, nq61⟩, -, X61, ⟨Lc61, hQ61, lq61, yq61, zq61⟩, st61⟩ := X59.virtualBack hx (y := (⟨"java/util/Optional", "isPresent", "()Z"⟩ : MethodName)) (z := (⟨"java/util/Optional", "isPresent", "()Z"⟩ : MethodName)) hown (mvT hZ (hw _ (own_w 51 rfl))) (mvT hZ (hw _ (own_w 52 rfl))) (notFace_of_selects (args := #[]) (mvT hZ (hw _ (own_w 54 rfl)))) (mvT hZ (hw _ (own_w 54 rfl))) (mvT hZ (hw _ (own_w 53 rfl))) (by decide) (backOf (W := 0) (rOp0 l Z a0 hw [] eo  T42.heap n0 Z42 (O_EV.ext f60.2)) hZ (hw _ (own_w 55 rfl)) (hw _ (own_w 48 rfl)) (by decide) (by decide)) q61a q61c (g := (mkF m 178 #[.val (.int p1), .val (.int p2), .val (.int p3), .val (.int p4), .val (.int p5), .val (.int (2 : Int32)), .val (.ref b1o), .val (.ref o42), .val (.int (1 : Int32)), .val (.int (0 : Int32)), .val (.ref eo), .unset, .unset] [(.ref eo)])) rfl (by rw [hml]; rfl) (Steps.refl _) (argsL := []) (rest := []) (lenOf pd_7 rfl) rfl (by show 2 * 0 + _ ≤ _; exact Nat.le_of_eq rfl) (hb hby at_178) (fun _ _ => ⟨rfl, e59, (by decide : 5 + 0 ≤ _), (by decide : 34 + 0 ≤ _)⟩)
          dsimp only [Pt.U, Pt.locs, Pt.cells, Pt.slots] at X61 lq61 yq61 zq61 st61 hQ61
          subst lq61 yq61 zq61
          obtain ⟨r61, hr61, rfl, N61q, e61⟩ := hQ61
          have N61 := Fr.app N59 N61q
          subst hr61
          obtain ⟨fs, hr, hrun, hended, hwd⟩ := Jvm.Stand.leaveW (s := s) (vm₁ := s.vm) X61 hS0 (Nat.le_trans (Nat.le_trans (Nat.le_trans (Nat.le_trans (Nat.le_trans (Nat.le_trans (Nat.le_trans (Nat.le_of_eq (congrArg Array.size hh)) E1.1) (Nat.le_of_eq W5.size.symm)) (Nat.le_of_eq W8.size.symm)) (Nat.le_of_eq W11.size.symm)) (Nat.le_of_eq W14.size.symm)) KC42.1) (Nat.le_of_eq (congrArg Array.size e61).symm)) (v := some (.int (1 : Int32))) (fun h => by rw [Bd.returns] at h; cases h)
          refine ⟨_, _, pre0 _ ?_, hrun, hended, _, _, rfl, ?_, hwd.1, hwd.2.1, hwd.2.2.1, hwd.2.2.2.mono (by decide) (by decide)⟩
          · refine pq58 _ ?_
            show Steps p.tables e below (T51.setTop (mkF m 147 #[.val (.int p1), .val (.int p2), .val (.int p3), .val (.int p4), .val (.int p5), .val (.int (2 : Int32)), .val (.ref b1o), .val (.ref o42), .val (.int (1 : Int32)), .unset, .unset, .unset, .unset] [(.int (35 : Int32)), (.int r6)])) _
            refine XS.icmpYes X51.here hx rfl (pc0 := 147) (pc' := 154) rfl (hb hby at_147) rfl (teq hc147).1 (by decide) (by decide) ?_
            refine XS.iconst X51.here hx rfl (hb hby at_154) ?_
            refine XS.istore X51.here hx rfl (hb hby at_155) rfl (l' := #[.val (.int p1), .val (.int p2), .val (.int p3), .val (.int p4), .val (.int p5), .val (.int (2 : Int32)), .val (.ref b1o), .val (.ref o42), .val (.int (1 : Int32)), .val (.int (0 : Int32)), .unset, .unset, .unset]) rfl ?_
            refine XS.aload X51.here hx rfl (hb hby at_157) rfl rfl ?_
            refine st59 _ ?_
            refine XS.astore X59.here hx rfl (hb hby at_162) rfl rfl (l' := #[.val (.int p1), .val (.int p2), .val (.int p3), .val (.int p4), .val (.int p5), .val (.int (2 : Int32)), .val (.ref b1o), .val (.ref o42), .val (.int (1 : Int32)), .val (.int (0 : Int32)), .val (.ref eo), .unset, .unset]) rfl ?_
            refine XS.aload X59.here hx rfl (hb hby at_164) rfl rfl ?_
            refine XS.ifnonnullYes X59.here hx rfl (pc0 := 166) (pc' := 171) rfl (hb hby at_166) rfl (by decide) (by decide) ?_
            refine XS.iload X59.here hx rfl (hb hby at_171) rfl ?_
            refine XS.ifNo X59.here hx rfl (hb hby at_173) rfl ((if0 _ _).trans (teq (by decide)).2) ?_
            refine XS.aload X59.here hx rfl (hb hby at_176) rfl rfl ?_
            refine st61.trans ?_
            refine XS.ifNo X61.here hx rfl (hb hby at_181) rfl ((if0 _ _).trans (teq (by decide)).2) ?_
            refine XS.iconst X61.here hx rfl (hb hby at_184) ?_
            refine XS.goto X61.here hx rfl (pc0 := 185) (pc' := 189) rfl (hb hby at_185) (by decide) (by decide) ?_
            show Steps p.tables e below (T61.setTop (mkF m 189 #[.val (.int p1), .val (.int p2), .val (.int p3), .val (.int p4), .val (.int p5), .val (.int (2 : Int32)), .val (.ref b1o), .val (.ref o42), .val (.int (1 : Int32)), .val (.int (0 : Int32)), .val (.ref eo), .unset, .unset] [(.int (1 : Int32))])) _
            exact retN X61 hx (t := .boolean) Bd.returns (by simp) (hb hby at_189) hr
          · show Qrm0 Z p1 p2 p3 p4 p5 G1 gv eo h0 n0 _ T61.heap _
            exact ⟨rfl, N61⟩
        · have f63 := (f43.keep KC42 all0)
          obtain ⟨_, _, ⟨T62, Lq62, kq62, nq62⟩, -, X62, ⟨Lc62, hQ62, lq62, yq62, zq62⟩, st62⟩ := Jvm.LawKit.callS X51 hx (y := (⟨"com/example/wrasse/wrasse/io/LineFiles", "content", "(Ljava/lang/String;)Ljava/util/Optional;"⟩ : MethodName)) hown (mvT hZ (hw _ (own_w 31 rfl))) (mvT hZ (hw _ (own_w 32 rfl))) (mvT hZ (hw _ (own_w 33 rfl))) (mvT hZ (hw _ (own_w 34 rfl))) (by decide) (backOf (W := 0) (rKp l Z a0 hw [] o42 [r3, r6] 1 G1 gv eo [r6] T42.heap n0 Z42 f63 O_S hgv O_2 P5 O_A O_H O_W TS42 (Nat.le_of_ble_eq_true rfl) (own_cons hr3 (own_cons hr6 own_nil)) (own_befS (P := fun k => (([r3, r6] : List Int32).getD k 0 = (32 : Int32) ∨ ([r3, r6] : List Int32).getD k 0 = (9 : Int32))) own_bef0 hB0) O_E ⟨(Nat.le_of_ble_eq_true rfl), rfl⟩ (Nat.le_of_ble_eq_true rfl) rfl hB1 hc147) hZ (hw _ (own_w 34 rfl)) (hw _ (own_w 33 rfl)) (by decide) (by decide)) (g := (mkF m 159 #[.val (.int p1), .val (.int p2), .val (.int p3), .val (.int p4), .val (.int p5), .val (.int (2 : Int32)), .val (.ref b1o), .val (.ref o42), .val (.int (1 : Int32)), .val (.int (1 : Int32)), .unset, .unset, .unset] [(.ref o42)])) rfl (by rw [hml]; rfl) (argsL := [(.ref o42)]) (rest := []) (lenOf pd_35 rfl) rfl (by show 2 * 0 + _ ≤ _; exact Nat.le_of_eq rfl) (hb hby at_159) (fun _ _ => ⟨rfl, e51, (by decide : 5 + 4 ≤ _), (by decide : 34 + 29 ≤ _)⟩)
          dsimp only [Pt.U, Pt.locs, Pt.cells, Pt.slots] at X62 lq62 yq62 zq62 st62 hQ62
          subst lq62 yq62 zq62
          obtain ⟨o62, x62, rfl, N62q, KC62, uE62, uV62, TS62⟩ := hQ62
          have N62 := Fr.app N51 N62q
          have Z62 : n0 ≤ T62.heap.size := Nat.le_trans Z42 KC62.1
          have f65 := (f63.keep KC62 all0)
          have f66 := (f44.keep KC62 nin0)
          obtain ⟨T64, L64, X64, e64, N64, st64⟩ := own_tail (ct := [r6]) (sq := 1) (vs := [(.int r3), (.int r6), (.int r9), (.int r12)]) (by decide) (by decide) (by decide) (by decide) hx hZ hw hby hml hown f65 O_S hgv O_2 P5 O_A O_H O_W Z62 TS62 (Nat.le_of_ble_eq_true rfl) (own_cons hr6 own_nil) uE62 uV62 f66 (by decide : 1 + 1 ≤ 4) (own_befS (P := fun k => ([.int r3, .int r6, .int r9, .int r12] : List Value).getD (1 + k) (.int (0 : Int32)) = .int (([r6] : List Int32).getD k 0)) own_bef0 rfl) _ _ X62 rfl N62
          obtain ⟨fs, hr, hrun, hended, hwd⟩ := Jvm.Stand.leaveW (s := s) (vm₁ := s.vm) X64 hS0 (Nat.le_trans (Nat.le_trans (Nat.le_trans (Nat.le_trans (Nat.le_trans (Nat.le_trans (Nat.le_trans (Nat.le_trans (Nat.le_of_eq (congrArg Array.size hh)) E1.1) (Nat.le_of_eq W5.size.symm)) (Nat.le_of_eq W8.size.symm)) (Nat.le_of_eq W11.size.symm)) (Nat.le_of_eq W14.size.symm)) KC42.1) KC62.1) (Nat.le_of_eq (congrArg Array.size e64).symm)) (v := some (.int (1 : Int32))) (fun h => by rw [Bd.returns] at h; cases h)
          refine ⟨_, _, pre0 _ ?_, hrun, hended, _, _, rfl, ?_, hwd.1, hwd.2.1, hwd.2.2.1, hwd.2.2.2.mono (by decide) (by decide)⟩
          · refine pq58 _ ?_
            show Steps p.tables e below (T51.setTop (mkF m 147 #[.val (.int p1), .val (.int p2), .val (.int p3), .val (.int p4), .val (.int p5), .val (.int (2 : Int32)), .val (.ref b1o), .val (.ref o42), .val (.int (1 : Int32)), .unset, .unset, .unset, .unset] [(.int (35 : Int32)), (.int r6)])) _
            refine XS.icmpNo X51.here hx rfl (hb hby at_147) rfl (feq hc147).1 ?_
            refine XS.iconst X51.here hx rfl (hb hby at_150) ?_
            refine XS.goto X51.here hx rfl (pc0 := 151) (pc' := 155) rfl (hb hby at_151) (by decide) (by decide) ?_
            refine XS.istore X51.here hx rfl (hb hby at_155) rfl (l' := #[.val (.int p1), .val (.int p2), .val (.int p3), .val (.int p4), .val (.int p5), .val (.int (2 : Int32)), .val (.ref b1o), .val (.ref o42), .val (.int (1 : Int32)), .val (.int (1 : Int32)), .unset, .unset, .unset]) rfl ?_
            refine XS.aload X51.here hx rfl (hb hby at_157) rfl rfl ?_
            refine st62 _ ?_
            refine XS.astore X62.here hx rfl (hb hby at_162) rfl rfl (l' := #[.val (.int p1), .val (.int p2), .val (.int p3), .val (.int p4), .val (.int p5), .val (.int (2 : Int32)), .val (.ref b1o), .val (.ref o42), .val (.int (1 : Int32)), .val (.int (1 : Int32)), .val (.ref o62), .unset, .unset]) rfl ?_
            refine XS.aload X62.here hx rfl (hb hby at_164) rfl rfl ?_
            refine XS.ifnonnullYes X62.here hx rfl (pc0 := 166) (pc' := 171) rfl (hb hby at_166) rfl (by decide) (by decide) ?_
            refine XS.iload X62.here hx rfl (hb hby at_171) rfl ?_
            refine XS.ifYes X62.here hx rfl (pc0 := 173) (pc' := 190) rfl (hb hby at_173) rfl ((if0 _ _).trans (feq (by decide)).2) (by decide) (by decide) ?_
            refine st64 _ ?_
            show Steps p.tables e below (T64.setTop (mkF m 294 #[.val (.int p1), .val (.int p2), .val (.int p3), .val (.int p4), .val (.int p5), .val (.int (2 : Int32)), .val (.ref b1o), .val (.ref o42), .val (.int (1 : Int32)), .val (.int (1 : Int32)), .val (.ref o62), .val (.ref x62), .val (.int (1 : Int32))] [(.int (1 : Int32))])) _
            exact retN X64 hx (t := .boolean) Bd.returns (by simp) (hb hby at_294) hr
          · show Qrm0 Z p1 p2 p3 p4 p5 G1 gv eo h0 n0 _ T64.heap _
            exact ⟨rfl, N64⟩
    · skip
      obtain ⟨cl67, Ar67, qk67, Sz67, Nn67, Hh67, Gg67⟩ := id (f44)
      have hin68 : ¬ ((0 : Int32) < 0 ∨ cl67.slots.size ≤ ((0 : Int32)).toNatClampNeg) := inb_of Sz67 ⟨by decide, by decide⟩
      have hat68 : cl67.slots[((0 : Int32)).toNatClampNeg]? = some (.int r3) := Has.at Hh67 hin68 rfl
      have pq69 : ∀ t, Steps p.tables e below (T47.setTop (mkF m 147 #[.val (.int p1), .val (.int p2), .val (.int p3), .val (.int p4), .val (.int p5), .val (.int (2 : Int32)), .val (.ref b1o), .val (.ref o42), .val (.int (0 : Int32)), .unset, .unset, .unset, .unset] [(.int (35 : Int32)), (.int r3)])) t → Steps p.tables e below (s₁.setTop (mkF m 0 #[.val (.int p1), .val (.int p2), .val (.int p3), .val (.int p4), .val (.int p5), .unset, .unset, .unset, .unset, .unset, .unset, .unset, .unset] [])) t := by
        intro t kt
        refine pq48 _ ?_
        show Steps p.tables e below (T47.setTop (mkF m 70 #[.val (.int p1), .val (.int p2), .val (.int p3), .val (.int p4), .val (.int p5), .val (.int (2 : Int32)), .val (.ref b1o), .val (.ref o42), .val (.int (0 : Int32)), .unset, .unset, .unset, .unset] [(.int r47)])) _
        rw [(hr47.trans (if_neg hB0))]
        show Steps p.tables e below (T47.setTop (mkF m 70 #[.val (.int p1), .val (.int p2), .val (.int p3), .val (.int p4), .val (.int p5), .val (.int (2 : Int32)), .val (.ref b1o), .val (.ref o42), .val (.int (0 : Int32)), .unset, .unset, .unset, .unset] [(.int (0 : Int32))])) _
        refine XS.ifYes X47.here hx rfl (pc0 := 70) (pc' := 133) rfl (hb hby at_70) rfl ((if0 _ _).trans (teq (by decide)).1) (by decide) (by decide) ?_
        refine XS.iload X47.here hx rfl (hb hby at_133) rfl ?_
        refine XS.iload X47.here hx rfl (hb hby at_135) rfl ?_
        refine XS.icmpNo X47.here hx rfl (hb hby at_137) rfl (tlt (by decide)).2.1 ?_
        refine XS.aload X47.here hx rfl (hb hby at_140) rfl rfl ?_
        refine XS.iload X47.here hx rfl (hb hby at_142) rfl ?_
        refine X47.caload hx (j := (0 : Int32)) (v := (.int r3)) (by rw [e47]; exact Ar67.1) (State.isArrayOf_alike hZ.alike Ar67.2.1) Ar67.2.2 hin68 hat68 (g := (mkF m 144 #[.val (.int p1), .val (.int p2), .val (.int p3), .val (.int p4), .val (.int p5), .val (.int (2 : Int32)), .val (.ref b1o), .val (.ref o42), .val (.int (0 : Int32)), .unset, .unset, .unset, .unset] [(.int (0 : Int32)), (.ref b1o)])) rfl rfl (hb hby at_144) _ ?_
        refine XS.bipush X47.here hx rfl (hb hby at_145) ?_
        exact kt
      by_cases hc147 : r3 = (35 : Int32)
      · have f71 := (f43.keep KC42 all0)
        obtain ⟨_, _, ⟨T70, Lq70, kq70, nq70⟩, -, X70, ⟨Lc70, hQ70, lq70, yq70, zq70⟩, st70⟩ := Jvm.LawKit.callS X47 hx (y := (⟨"com/example/wrasse/wrasse/io/LineFiles", "content", "(Ljava/lang/String;)Ljava/util/Optional;"⟩ : MethodName)) hown (mvT hZ (hw _ (own_w 31 rfl))) (mvT hZ (hw _ (own_w 32 rfl))) (mvT hZ (hw _ (own_w 33 rfl))) (mvT hZ (hw _ (own_w 34 rfl))) (by decide) (backOf (W := 0) (rKe l Z a0 hw [] o42 [r3, r6] 0 G1 gv eo T42.heap n0 Z42 f71 O_S hgv O_2 P5 O_A O_H O_W TS42 (Nat.le_of_ble_eq_true rfl) (own_cons hr3 (own_cons hr6 own_nil)) own_bef0 (Or.inr ⟨(Nat.le_of_ble_eq_true rfl), hc147⟩) O_E) hZ (hw _ (own_w 34 rfl)) (hw _ (own_w 33 rfl)) (by decide) (by decide)) (g := (mkF m 159 #[.val (.int p1), .val (.int p2), .val (.int p3), .val (.int p4), .val (.int p5), .val (.int (2 : Int32)), .val (.ref b1o), .val (.ref o42), .val (.int (0 : Int32)), .val (.int (0 : Int32)), .unset, .unset, .unset] [(.ref o42)])) rfl (by rw [hml]; rfl) (argsL := [(.ref o42)]) (rest := []) (lenOf pd_35 rfl) rfl (by show 2 * 0 + _ ≤ _; exact Nat.le_of_eq rfl) (hb hby at_159) (fun _ _ => ⟨rfl, e47, (by decide : 5 + 0 ≤ _), (by decide : 34 + 0 ≤ _)⟩)
        dsimp only [Pt.U, Pt.locs, Pt.cells, Pt.slots] at X70 lq70 yq70 zq70 st70 hQ70
        subst lq70 yq70 zq70
        obtain ⟨rfl, N70q, e70⟩ := hQ70
        have N70 := Fr.app N47 N70q
        obtain ⟨cq72, kz72, q72a, q72b, q72c⟩ := isOf hZ e70 (O_EE.ext f71.2)
        obtain ⟨_, _, ⟨T72, Lq72, kq72, nq72⟩, -, X72, ⟨Lc72, hQ72, lq72, yq72, zq72⟩, st72⟩ := X70.virtualBack hx (y := (⟨"java/util/Optional", "isPresent", "()Z"⟩ : MethodName)) (z := (⟨"java/util/Optional", "isPresent", "()Z"⟩ : MethodName)) hown (mvT hZ (hw _ (own_w 51 rfl))) (mvT hZ (hw _ (own_w 52 rfl))) (notFace_of_selects (args := #[]) (mvT hZ (hw _ (own_w 54 rfl)))) (mvT hZ (hw _ (own_w 54 rfl))) (mvT hZ (hw _ (own_w 53 rfl))) (by decide) (backOf (W := 0) (rOp0 l Z a0 hw [] eo  T42.heap n0 Z42 (O_EV.ext f71.2)) hZ (hw _ (own_w 55 rfl)) (hw _ (own_w 48 rfl)) (by decide) (by decide)) q72a q72c (g := (mkF m 178 #[.val (.int p1), .val (.int p2), .val (.int p3), .val (.int p4), .val (.int p5), .val (.int (2 : Int32)), .val (.ref b1o), .val (.ref o42), .val (.int (0 : Int32)), .val (.int (0 : Int32)), .val (.ref eo), .unset, .unset] [(.ref eo)])) rfl (by rw [hml]; rfl) (Steps.refl _) (argsL := []) (rest := []) (lenOf pd_7 rfl) rfl (by show 2 * 0 + _ ≤ _; exact Nat.le_of_eq rfl) (hb hby at_178) (fun _ _ => ⟨rfl, e70, (by decide : 5 + 0 ≤ _), (by decide : 34 + 0 ≤ _)⟩)
        dsimp only [Pt.U, Pt.locs, Pt.cells, Pt.slots] at X72 lq72 yq72 zq72 st72 hQ72
        subst lq72 yq72 zq72
        obtain ⟨r72, hr72, rfl, N72q, e72⟩ := hQ72
        have N72 := Fr.app N70 N72q
        subst hr72
        obtain ⟨fs, hr, hrun, hended, hwd⟩ := Jvm.Stand.leaveW (s := s) (vm₁ := s.vm) X72 hS0 (Nat.le_trans (Nat.le_trans (Nat.le_trans (Nat.le_trans (Nat.le_trans (Nat.le_trans (Nat.le_trans (Nat.le_of_eq (congrArg Array.size hh)) E1.1) (Nat.le_of_eq W5.size.symm)) (Nat.le_of_eq W8.size.symm)) (Nat.le_of_eq W11.size.symm)) (Nat.le_of_eq W14.size.symm)) KC42.1) (Nat.le_of_eq (congrArg Array.size e72).symm)) (v := some (.int (1 : Int32))) (fun h => by rw [Bd.returns] at h; cases h)
        refine ⟨_, _, pre0 _ ?_, hrun, hended, _, _, rfl, ?_, hwd.1, hwd.2.1, hwd.2.2.1, hwd.2.2.2.mono (by decide) (by decide)⟩
        · refine pq69 _ ?_
          show Steps p.tables e below (T47.setTop (mkF m 147 #[.val (.int p1), .val (.int p2), .val (.int p3), .val (.int p4), .val (.int p5), .val (.int (2 : Int32)), .val (.ref b1o), .val (.ref o42), .val (.int (0 : Int32)), .unset, .unset, .unset, .unset] [(.int (35 : Int32)), (.int r3)])) _
          refine XS.icmpYes X47.here hx rfl (pc0 := 147) (pc' := 154) rfl (hb hby at_147) rfl (teq hc147).1 (by decide) (by decide) ?_
          refine XS.iconst X47.here hx rfl (hb hby at_154) ?_
          refine XS.istore X47.here hx rfl (hb hby at_155) rfl (l' := #[.val (.int p1), .val (.int p2), .val (.int p3), .val (.int p4), .val (.int p5), .val (.int (2 : Int32)), .val (.ref b1o), .val (.ref o42), .val (.int (0 : Int32)), .val (.int (0 : Int32)), .unset, .unset, .unset]) rfl ?_
          refine XS.aload X47.here hx rfl (hb hby at_157) rfl rfl ?_
          refine st70 _ ?_
          refine XS.astore X70.here hx rfl (hb hby at_162) rfl rfl (l' := #[.val (.int p1), .val (.int p2), .val (.int p3), .val (.int p4), .val (.int p5), .val (.int (2 : Int32)), .val (.ref b1o), .val (.ref o42), .val (.int (0 : Int32)), .val (.int (0 : Int32)), .val (.ref eo), .unset, .unset]) rfl ?_
          refine XS.aload X70.here hx rfl (hb hby at_164) rfl rfl ?_
          refine XS.ifnonnullYes X70.here hx rfl (pc0 := 166) (pc' := 171) rfl (hb hby at_166) rfl (by decide) (by decide) ?_
          refine XS.iload X70.here hx rfl (hb hby at_171) rfl ?_
          refine XS.ifNo X70.here hx rfl (hb hby at_173) rfl ((if0 _ _).trans (teq (by decide)).2) ?_
          refine XS.aload X70.here hx rfl (hb hby at_176) rfl rfl ?_
          refine st72.trans ?_
          refine XS.ifNo X72.here hx rfl (hb hby at_181) rfl ((if0 _ _).trans (teq (by decide)).2) ?_
          refine XS.iconst X72.here hx rfl (hb hby at_184) ?_
          refine XS.goto X72.here hx rfl (pc0 := 185) (pc' := 189) rfl (hb hby at_185) (by decide) (by decide) ?_
          show Steps p.tables e below (T72.setTop (mkF m 189 #[.val (.int p1), .val (.int p2), .val (.int p3), .val (.int p4), .val (.int p5), .val (.int (2 : Int32)), .val (.ref b1o), .val (.ref o42), .val (.int (0 : Int32)), .val (.int (0 : Int32)), .val (.ref eo), .unset, .unset] [(.int (1 : Int32))])) _
          exact retN X72 hx (t := .boolean) Bd.returns (by simp) (hb hby at_189) hr
        · show Qrm0 Z p1 p2 p3 p4 p5 G1 gv eo h0 n0 _ T72.heap _
          exact ⟨rfl, N72⟩
      · have f74 := (f43.keep KC42 all0)
        obtain ⟨_, _, ⟨T73, Lq73, kq73, nq73⟩, -, X73, ⟨Lc73, hQ73, lq73, yq73, zq73⟩, st73⟩ := Jvm.LawKit.callS X47 hx (y := (⟨"com/example/wrasse/wrasse/io/LineFiles", "content", "(Ljava/lang/String;)Ljava/util/Optional;"⟩ : MethodName)) hown (mvT hZ (hw _ (own_w 31 rfl))) (mvT hZ (hw _ (own_w 32 rfl))) (mvT hZ (hw _ (own_w 33 rfl))) (mvT hZ (hw _ (own_w 34 rfl))) (by decide) (backOf (W := 0) (rKp l Z a0 hw [] o42 [r3, r6] 0 G1 gv eo [r3, r6] T42.heap n0 Z42 f74 O_S hgv O_2 P5 O_A O_H O_W TS42 (Nat.le_of_ble_eq_true rfl) (own_cons hr3 (own_cons hr6 own_nil)) own_bef0 O_E ⟨(Nat.le_of_ble_eq_true rfl), rfl⟩ (Nat.le_of_ble_eq_true rfl) rfl hB0 hc147) hZ (hw _ (own_w 34 rfl)) (hw _ (own_w 33 rfl)) (by decide) (by decide)) (g := (mkF m 159 #[.val (.int p1), .val (.int p2), .val (.int p3), .val (.int p4), .val (.int p5), .val (.int (2 : Int32)), .val (.ref b1o), .val (.ref o42), .val (.int (0 : Int32)), .val (.int (1 : Int32)), .unset, .unset, .unset] [(.ref o42)])) rfl (by rw [hml]; rfl) (argsL := [(.ref o42)]) (rest := []) (lenOf pd_35 rfl) rfl (by show 2 * 0 + _ ≤ _; exact Nat.le_of_eq rfl) (hb hby at_159) (fun _ _ => ⟨rfl, e47, (by decide : 5 + 4 ≤ _), (by decide : 34 + 29 ≤ _)⟩)
        dsimp only [Pt.U, Pt.locs, Pt.cells, Pt.slots] at X73 lq73 yq73 zq73 st73 hQ73
        subst lq73 yq73 zq73
        obtain ⟨o73, x73, rfl, N73q, KC73, uE73, uV73, TS73⟩ := hQ73
        have N73 := Fr.app N47 N73q
        have Z73 : n0 ≤ T73.heap.size := Nat.le_trans Z42 KC73.1
        have f76 := (f74.keep KC73 all0)
        have f77 := (f44.keep KC73 nin0)
        obtain ⟨T75, L75, X75, e75, N75, st75⟩ := own_tail (ct := [r3, r6]) (sq := 0) (vs := [(.int r3), (.int r6), (.int r9), (.int r12)]) (by decide) (by decide) (by decide) (by decide) hx hZ hw hby hml hown f76 O_S hgv O_2 P5 O_A O_H O_W Z73 TS73 (Nat.le_of_ble_eq_true rfl) (own_cons hr3 (own_cons hr6 own_nil)) uE73 uV73 f77 (by decide : 0 + 2 ≤ 4) (own_befS (P := fun k => ([.int r3, .int r6, .int r9, .int r12] : List Value).getD (0 + k) (.int (0 : Int32)) = .int (([r3, r6] : List Int32).getD k 0)) (own_befS (P := fun k => ([.int r3, .int r6, .int r9, .int r12] : List Value).getD (0 + k) (.int (0 : Int32)) = .int (([r3, r6] : List Int32).getD k 0)) own_bef0 rfl) rfl) _ _ X73 rfl N73
        obtain ⟨fs, hr, hrun, hended, hwd⟩ := Jvm.Stand.leaveW (s := s) (vm₁ := s.vm) X75 hS0 (Nat.le_trans (Nat.le_trans (Nat.le_trans (Nat.le_trans (Nat.le_trans (Nat.le_trans (Nat.le_trans (Nat.le_trans (Nat.le_of_eq (congrArg Array.size hh)) E1.1) (Nat.le_of_eq W5.size.symm)) (Nat.le_of_eq W8.size.symm)) (Nat.le_of_eq W11.size.symm)) (Nat.le_of_eq W14.size.symm)) KC42.1) KC73.1) (Nat.le_of_eq (congrArg Array.size e75).symm)) (v := some (.int (1 : Int32))) (fun h => by rw [Bd.returns] at h; cases h)
        refine ⟨_, _, pre0 _ ?_, hrun, hended, _, _, rfl, ?_, hwd.1, hwd.2.1, hwd.2.2.1, hwd.2.2.2.mono (by decide) (by decide)⟩
        · refine pq69 _ ?_
          show Steps p.tables e below (T47.setTop (mkF m 147 #[.val (.int p1), .val (.int p2), .val (.int p3), .val (.int p4), .val (.int p5), .val (.int (2 : Int32)), .val (.ref b1o), .val (.ref o42), .val (.int (0 : Int32)), .unset, .unset, .unset, .unset] [(.int (35 : Int32)), (.int r3)])) _
          refine XS.icmpNo X47.here hx rfl (hb hby at_147) rfl (feq hc147).1 ?_
          refine XS.iconst X47.here hx rfl (hb hby at_150) ?_
          refine XS.goto X47.here hx rfl (pc0 := 151) (pc' := 155) rfl (hb hby at_151) (by decide) (by decide) ?_
          refine XS.istore X47.here hx rfl (hb hby at_155) rfl (l' := #[.val (.int p1), .val (.int p2), .val (.int p3), .val (.int p4), .val (.int p5), .val (.int (2 : Int32)), .val (.ref b1o), .val (.ref o42), .val (.int (0 : Int32)), .val (.int (1 : Int32)), .unset, .unset, .unset]) rfl ?_
          refine XS.aload X47.here hx rfl (hb hby at_157) rfl rfl ?_
          refine st73 _ ?_
          refine XS.astore X73.here hx rfl (hb hby at_162) rfl rfl (l' := #[.val (.int p1), .val (.int p2), .val (.int p3), .val (.int p4), .val (.int p5), .val (.int (2 : Int32)), .val (.ref b1o), .val (.ref o42), .val (.int (0 : Int32)), .val (.int (1 : Int32)), .val (.ref o73), .unset, .unset]) rfl ?_
          refine XS.aload X73.here hx rfl (hb hby at_164) rfl rfl ?_
          refine XS.ifnonnullYes X73.here hx rfl (pc0 := 166) (pc' := 171) rfl (hb hby at_166) rfl (by decide) (by decide) ?_
          refine XS.iload X73.here hx rfl (hb hby at_171) rfl ?_
          refine XS.ifYes X73.here hx rfl (pc0 := 173) (pc' := 190) rfl (hb hby at_173) rfl ((if0 _ _).trans (feq (by decide)).2) (by decide) (by decide) ?_
          refine st75 _ ?_
          show Steps p.tables e below (T75.setTop (mkF m 294 #[.val (.int p1), .val (.int p2), .val (.int p3), .val (.int p4), .val (.int p5), .val (.int (2 : Int32)), .val (.ref b1o), .val (.ref o42), .val (.int (0 : Int32)), .val (.int (1 : Int32)), .val (.ref o73), .val (.ref x73), .val (.int (2 : Int32))] [(.int (1 : Int32))])) _
          exact retN X75 hx (t := .boolean) Bd.returns (by simp) (hb hby at_294) hr
        · show Qrm0 Z p1 p2 p3 p4 p5 G1 gv eo h0 n0 _ T75.heap _
          exact ⟨rfl, N75⟩
  · skip
    have f79 := (((((X00.ext E1).wr W5 b1).wr W8 b1).wr W11 b1).wr W14 b1)
    obtain ⟨_, _, ⟨T78, Lq78, kq78, nq78⟩, -, X78, ⟨Lc78, hQ78, lq78, yq78, zq78⟩, st78⟩ := Jvm.LawKit.callS X14 hx (y := (⟨"com/example/wrasse/wrasse/io/LineFilesContentPinLaw", "make", "(I[C)Ljava/lang/String;"⟩ : MethodName)) hown (mvT hZ (hw _ (own_w 7 rfl))) (mvT hZ (hw _ (own_w 8 rfl))) (mvT hZ (hw _ (own_w 4 rfl))) (mvT hZ (hw _ (own_w 9 rfl))) (by decide) (backOf (W := 0) (rMk3 l Z a0 hw [] b1o r3 r6 r9 r12 ck1 G1 h14 n0 Z14 f79 O_2 P5 O_A O_H O_W VA hr3 hr6 hr9 hr12) hZ (hw _ (own_w 9 rfl)) (hw _ (own_w 4 rfl)) (by decide) (by decide)) (g := (mkF m 50 #[.val (.int p1), .val (.int p2), .val (.int p3), .val (.int p4), .val (.int p5), .val (.int (3 : Int32)), .val (.ref b1o), .unset, .unset, .unset, .unset, .unset, .unset] [(.ref b1o), (.int (3 : Int32))])) rfl (by rw [hml]; rfl) (argsL := [(.int (3 : Int32)), (.ref b1o)]) (rest := []) (lenOf pd_34 rfl) rfl (by show 2 * 0 + _ ≤ _; exact Nat.le_of_eq rfl) (hb hby at_50) (fun _ _ => ⟨rfl, e14, (by decide : 1 + 4 ≤ _), (by decide : 4 + 31 ≤ _)⟩)
    dsimp only [Pt.U, Pt.locs, Pt.cells, Pt.slots] at X78 lq78 yq78 zq78 st78 hQ78
    subst lq78 yq78 zq78
    obtain ⟨o78, rfl, N78q, KC78, TS78⟩ := hQ78
    have N78 := Fr.app N14 N78q
    have Z78 : n0 ≤ T78.heap.size := Nat.le_trans Z14 KC78.1
    have f80 := (VA.keep KC78 nin0)
    obtain ⟨cl81, Ar81, qk81, Sz81, Nn81, Hh81, Gg81⟩ := id (f80)
    have hin82 : ¬ ((0 : Int32) < 0 ∨ cl81.slots.size ≤ ((0 : Int32)).toNatClampNeg) := inb_of Sz81 ⟨by decide, by decide⟩
    have hat82 : cl81.slots[((0 : Int32)).toNatClampNeg]? = some (.int r3) := Has.at Hh81 hin82 rfl
    obtain ⟨_, _, ⟨T83, Lq83, kq83, nq83⟩, -, X83, ⟨Lc83, hQ83, lq83, yq83, zq83⟩, st83⟩ := Jvm.LawKit.callS X78 hx (y := (⟨"com/example/wrasse/wrasse/io/LineFilesContentPinLaw", "blank", "(C)Z"⟩ : MethodName)) hown (mvT hZ (hw _ (own_w 68 rfl))) (mvT hZ (hw _ (own_w 69 rfl))) (mvT hZ (hw _ (own_w 4 rfl))) (mvT hZ (hw _ (own_w 70 rfl))) (by decide) (backOf (W := 0) (rBl l Z a0 hw [] r3  T78.heap n0 Z78 ) hZ (hw _ (own_w 70 rfl)) (hw _ (own_w 4 rfl)) (by decide) (by decide)) (g := (mkF m 67 #[.val (.int p1), .val (.int p2), .val (.int p3), .val (.int p4), .val (.int p5), .val (.int (3 : Int32)), .val (.ref b1o), .val (.ref o78), .val (.int (0 : Int32)), .unset, .unset, .unset, .unset] [(.int r3)])) rfl (by rw [hml]; rfl) (argsL := [(.int r3)]) (rest := []) (lenOf pd_36 rfl) rfl (by show 2 * 0 + _ ≤ _; exact Nat.le_of_eq rfl) (hb hby at_67) (fun _ _ => ⟨rfl, rfl, (by decide : 5 + 0 ≤ _), (by decide : 35 + 0 ≤ _)⟩)
    dsimp only [Pt.U, Pt.locs, Pt.cells, Pt.slots] at X83 lq83 yq83 zq83 st83 hQ83
    subst lq83 yq83 zq83
    obtain ⟨r83, hr83, rfl, N83q, e83⟩ := hQ83
    have N83 := Fr.app N78 N83q
    have pq84 : ∀ t, Steps p.tables e below (T83.setTop (mkF m 70 #[.val (.int p1), .val (.int p2), .val (.int p3), .val (.int p4), .val (.int p5), .val (.int (3 : Int32)), .val (.ref b1o), .val (.ref o78), .val (.int (0 : Int32)), .unset, .unset, .unset, .unset] [(.int r83)])) t → Steps p.tables e below (s₁.setTop (mkF m 0 #[.val (.int p1), .val (.int p2), .val (.int p3), .val (.int p4), .val (.int p5), .unset, .unset, .unset, .unset, .unset, .unset, .unset, .unset] [])) t := by
      intro t kt
      refine pq15 _ ?_
      show Steps p.tables e below (T14.setTop (mkF m 46 #[.val (.int p1), .val (.int p2), .val (.int p3), .val (.int p4), .val (.int p5), .val (.int ((p1 &&& (2147483647 : Int32)) % (5 : Int32))), .val (.ref b1o), .unset, .unset, .unset, .unset, .unset, .unset] [])) _
      rw [hI]
      show Steps p.tables e below (T14.setTop (mkF m 46 #[.val (.int p1), .val (.int p2), .val (.int p3), .val (.int p4), .val (.int p5), .val (.int (3 : Int32)), .val (.ref b1o), .unset, .unset, .unset, .unset, .unset, .unset] [])) _
      refine XS.iload X14.here hx rfl (hb hby at_46) rfl ?_
      refine XS.aload X14.here hx rfl (hb hby at_48) rfl rfl ?_
      refine st78 _ ?_
      refine XS.astore X78.here hx rfl (hb hby at_53) rfl rfl (l' := #[.val (.int p1), .val (.int p2), .val (.int p3), .val (.int p4), .val (.int p5), .val (.int (3 : Int32)), .val (.ref b1o), .val (.ref o78), .unset, .unset, .unset, .unset, .unset]) rfl ?_
      refine XS.iconst X78.here hx rfl (hb hby at_55) ?_
      refine XS.istore X78.here hx rfl (hb hby at_56) rfl (l' := #[.val (.int p1), .val (.int p2), .val (.int p3), .val (.int p4), .val (.int p5), .val (.int (3 : Int32)), .val (.ref b1o), .val (.ref o78), .val (.int (0 : Int32)), .unset, .unset, .unset, .unset]) rfl ?_
      refine XS.iload X78.here hx rfl (hb hby at_58) rfl ?_
      refine XS.ifNo X78.here hx rfl (hb hby at_60) rfl ((if0 _ _).trans (tlt (by decide)).2.2.2) ?_
      refine XS.aload X78.here hx rfl (hb hby at_63) rfl rfl ?_
      refine XS.iconst X78.here hx rfl (hb hby at_65) ?_
      refine X78.caload hx (j := (0 : Int32)) (v := (.int r3)) Ar81.1 (State.isArrayOf_alike hZ.alike Ar81.2.1) Ar81.2.2 hin82 hat82 (g := (mkF m 66 #[.val (.int p1), .val (.int p2), .val (.int p3), .val (.int p4), .val (.int p5), .val (.int (3 : Int32)), .val (.ref b1o), .val (.ref o78), .val (.int (0 : Int32)), .unset, .unset, .unset, .unset] [(.int (0 : Int32)), (.ref b1o)])) rfl rfl (hb hby at_66) _ ?_
      refine st83 _ ?_
      exact kt
    by_cases hB0 : (r3 = (32 : Int32) ∨ r3 = (9 : Int32))
    · skip
      obtain ⟨cl85, Ar85, qk85, Sz85, Nn85, Hh85, Gg85⟩ := id (f80)
      have hin86 : ¬ ((1 : Int32) < 0 ∨ cl85.slots.size ≤ ((1 : Int32)).toNatClampNeg) := inb_of Sz85 ⟨by decide, by decide⟩
      have hat86 : cl85.slots[((1 : Int32)).toNatClampNeg]? = some (.int r6) := Has.at Hh85 hin86 rfl
      obtain ⟨_, _, ⟨T87, Lq87, kq87, nq87⟩, -, X87, ⟨Lc87, hQ87, lq87, yq87, zq87⟩, st87⟩ := Jvm.LawKit.callS X83 hx (y := (⟨"com/example/wrasse/wrasse/io/LineFilesContentPinLaw", "blank", "(C)Z"⟩ : MethodName)) hown (mvT hZ (hw _ (own_w 68 rfl))) (mvT hZ (hw _ (own_w 69 rfl))) (mvT hZ (hw _ (own_w 4 rfl))) (mvT hZ (hw _ (own_w 70 rfl))) (by decide) (backOf (W := 0) (rBl l Z a0 hw [] r6  T78.heap n0 Z78 ) hZ (hw _ (own_w 70 rfl)) (hw _ (own_w 4 rfl)) (by decide) (by decide)) (g := (mkF m 86 #[.val (.int p1), .val (.int p2), .val (.int p3), .val (.int p4), .val (.int p5), .val (.int (3 : Int32)), .val (.ref b1o), .val (.ref o78), .val (.int (1 : Int32)), .unset, .unset, .unset, .unset] [(.int r6)])) rfl (by rw [hml]; rfl) (argsL := [(.int r6)]) (rest := []) (lenOf pd_36 rfl) rfl (by show 2 * 0 + _ ≤ _; exact Nat.le_of_eq rfl) (hb hby at_86) (fun _ _ => ⟨rfl, e83, (by decide : 5 + 0 ≤ _), (by decide : 35 + 0 ≤ _)⟩)
      dsimp only [Pt.U, Pt.locs, Pt.cells, Pt.slots] at X87 lq87 yq87 zq87 st87 hQ87
      subst lq87 yq87 zq87
      obtain ⟨r87, hr87, rfl, N87q, e87⟩ := hQ87
      have N87 := Fr.app N83 N87q
      have pq88 : ∀ t, Steps p.tables e below (T87.setTop (mkF m 89 #[.val (.int p1), .val (.int p2), .val (.int p3), .val (.int p4), .val (.int p5), .val (.int (3 : Int32)), .val (.ref b1o), .val (.ref o78), .val (.int (1 : Int32)), .unset, .unset, .unset, .unset] [(.int r87)])) t → Steps p.tables e below (s₁.setTop (mkF m 0 #[.val (.int p1), .val (.int p2), .val (.int p3), .val (.int p4), .val (.int p5), .unset, .unset, .unset, .unset, .unset, .unset, .unset, .unset] [])) t := by
        intro t kt
        refine pq84 _ ?_
        show Steps p.tables e below (T83.setTop (mkF m 70 #[.val (.int p1), .val (.int p2), .val (.int p3), .val (.int p4), .val (.int p5), .val (.int (3 : Int32)), .val (.ref b1o), .val (.ref o78), .val (.int (0 : Int32)), .unset, .unset, .unset, .unset] [(.int r83)])) _
        rw [(hr83.trans (if_pos hB0))]
        show Steps p.tables e below (T83.setTop (mkF m 70 #[.val (.int p1), .val (.int p2), .val (.int p3), .val (.int p4), .val (.int p5), .val (.int (3 : Int32)), .val (.ref b1o), .val (.ref o78), .val (.int (0 : Int32)), .unset, .unset, .unset, .unset] [(.int (1 : Int32))])) _
        refine XS.ifNo X83.here hx rfl (hb hby at_70) rfl ((if0 _ _).trans (feq (by decide)).1) ?_
        refine XS.iconst X83.here hx rfl (hb hby at_73) ?_
        refine XS.istore X83.here hx rfl (hb hby at_74) rfl (l' := #[.val (.int p1), .val (.int p2), .val (.int p3), .val (.int p4), .val (.int p5), .val (.int (3 : Int32)), .val (.ref b1o), .val (.ref o78), .val (.int (1 : Int32)), .unset, .unset, .unset, .unset]) rfl ?_
        refine XS.iload X83.here hx rfl (hb hby at_76) rfl ?_
        refine XS.iconst X83.here hx rfl (hb hby at_78) ?_
        refine XS.icmpNo X83.here hx rfl (hb hby at_79) rfl (tlt (by decide)).2.2.2 ?_
        refine XS.aload X83.here hx rfl (hb hby at_82) rfl rfl ?_
        refine XS.iconst X83.here hx rfl (hb hby at_84) ?_
        refine X83.caload hx (j := (1 : Int32)) (v := (.int r6)) (by rw [e83]; exact Ar85.1) (State.isArrayOf_alike hZ.alike Ar85.2.1) Ar85.2.2 hin86 hat86 (g := (mkF m 85 #[.val (.int p1), .val (.int p2), .val (.int p3), .val (.int p4), .val (.int p5), .val (.int (3 : Int32)), .val (.ref b1o), .val (.ref o78), .val (.int (1 : Int32)), .unset, .unset, .unset, .unset] [(.int (1 : Int32)), (.ref b1o)])) rfl rfl (hb hby at_85) _ ?_
        refine st87 _ ?_
        exact kt
      by_cases hB1 : (r6 = (32 : Int32) ∨ r6 = (9 : Int32))
      · skip
        obtain ⟨cl89, Ar89, qk89, Sz89, Nn89, Hh89, Gg89⟩ := id (f80)
        have hin90 : ¬ ((2 : Int32) < 0 ∨ cl89.slots.size ≤ ((2 : Int32)).toNatClampNeg) := inb_of Sz89 ⟨by decide, by decide⟩
        have hat90 : cl89.slots[((2 : Int32)).toNatClampNeg]? = some (.int r9) := Has.at Hh89 hin90 rfl
        obtain ⟨_, _, ⟨T91, Lq91, kq91, nq91⟩, -, X91, ⟨Lc91, hQ91, lq91, yq91, zq91⟩, st91⟩ := Jvm.LawKit.callS X87 hx (y := (⟨"com/example/wrasse/wrasse/io/LineFilesContentPinLaw", "blank", "(C)Z"⟩ : MethodName)) hown (mvT hZ (hw _ (own_w 68 rfl))) (mvT hZ (hw _ (own_w 69 rfl))) (mvT hZ (hw _ (own_w 4 rfl))) (mvT hZ (hw _ (own_w 70 rfl))) (by decide) (backOf (W := 0) (rBl l Z a0 hw [] r9  T78.heap n0 Z78 ) hZ (hw _ (own_w 70 rfl)) (hw _ (own_w 4 rfl)) (by decide) (by decide)) (g := (mkF m 105 #[.val (.int p1), .val (.int p2), .val (.int p3), .val (.int p4), .val (.int p5), .val (.int (3 : Int32)), .val (.ref b1o), .val (.ref o78), .val (.int (2 : Int32)), .unset, .unset, .unset, .unset] [(.int r9)])) rfl (by rw [hml]; rfl) (argsL := [(.int r9)]) (rest := []) (lenOf pd_36 rfl) rfl (by show 2 * 0 + _ ≤ _; exact Nat.le_of_eq rfl) (hb hby at_105) (fun _ _ => ⟨rfl, e87, (by decide : 5 + 0 ≤ _), (by decide : 35 + 0 ≤ _)⟩)
        dsimp only [Pt.U, Pt.locs, Pt.cells, Pt.slots] at X91 lq91 yq91 zq91 st91 hQ91
        subst lq91 yq91 zq91
        obtain ⟨r91, hr91, rfl, N91q, e91⟩ := hQ91
        have N91 := Fr.app N87 N91q
        have pq92 : ∀ t, Steps p.tables e below (T91.setTop (mkF m 108 #[.val (.int p1), .val (.int p2), .val (.int p3), .val (.int p4), .val (.int p5), .val (.int (3 : Int32)), .val (.ref b1o), .val (.ref o78), .val (.int (2 : Int32)), .unset, .unset, .unset, .unset] [(.int r91)])) t → Steps p.tables e below (s₁.setTop (mkF m 0 #[.val (.int p1), .val (.int p2), .val (.int p3), .val (.int p4), .val (.int p5), .unset, .unset, .unset, .unset, .unset, .unset, .unset, .unset] [])) t := by
          intro t kt
          refine pq88 _ ?_
          show Steps p.tables e below (T87.setTop (mkF m 89 #[.val (.int p1), .val (.int p2), .val (.int p3), .val (.int p4), .val (.int p5), .val (.int (3 : Int32)), .val (.ref b1o), .val (.ref o78), .val (.int (1 : Int32)), .unset, .unset, .unset, .unset] [(.int r87)])) _
          rw [(hr87.trans (if_pos hB1))]
          show Steps p.tables e below (T87.setTop (mkF m 89 #[.val (.int p1), .val (.int p2), .val (.int p3), .val (.int p4), .val (.int p5), .val (.int (3 : Int32)), .val (.ref b1o), .val (.ref o78), .val (.int (1 : Int32)), .unset, .unset, .unset, .unset] [(.int (1 : Int32))])) _
          refine XS.ifNo X87.here hx rfl (hb hby at_89) rfl ((if0 _ _).trans (feq (by decide)).1) ?_
          refine XS.iconst X87.here hx rfl (hb hby at_92) ?_
          refine XS.istore X87.here hx rfl (hb hby at_93) rfl (l' := #[.val (.int p1), .val (.int p2), .val (.int p3), .val (.int p4), .val (.int p5), .val (.int (3 : Int32)), .val (.ref b1o), .val (.ref o78), .val (.int (2 : Int32)), .unset, .unset, .unset, .unset]) rfl ?_
          refine XS.iload X87.here hx rfl (hb hby at_95) rfl ?_
          refine XS.iconst X87.here hx rfl (hb hby at_97) ?_
          refine XS.icmpNo X87.here hx rfl (hb hby at_98) rfl (tlt (by decide)).2.2.2 ?_
          refine XS.aload X87.here hx rfl (hb hby at_101) rfl rfl ?_
          refine XS.iconst X87.here hx rfl (hb hby at_103) ?_
          refine X87.caload hx (j := (2 : Int32)) (v := (.int r9)) (by rw [e87]; exact Ar89.1) (State.isArrayOf_alike hZ.alike Ar89.2.1) Ar89.2.2 hin90 hat90 (g := (mkF m 104 #[.val (.int p1), .val (.int p2), .val (.int p3), .val (.int p4), .val (.int p5), .val (.int (3 : Int32)), .val (.ref b1o), .val (.ref o78), .val (.int (2 : Int32)), .unset, .unset, .unset, .unset] [(.int (2 : Int32)), (.ref b1o)])) rfl rfl (hb hby at_104) _ ?_
          refine st91 _ ?_
          exact kt
        by_cases hB2 : (r9 = (32 : Int32) ∨ r9 = (9 : Int32))
        · skip
          have f94 := (f79.keep KC78 all0)
          obtain ⟨_, _, ⟨T93, Lq93, kq93, nq93⟩, -, X93, ⟨Lc93, hQ93, lq93, yq93, zq93⟩, st93⟩ := Jvm.LawKit.callS X91 hx (y := (⟨"com/example/wrasse/wrasse/io/LineFiles", "content", "(Ljava/lang/String;)Ljava/util/Optional;"⟩ : MethodName)) hown (mvT hZ (hw _ (own_w 31 rfl))) (mvT hZ (hw _ (own_w 32 rfl))) (mvT hZ (hw _ (own_w 33 rfl))) (mvT hZ (hw _ (own_w 34 rfl))) (by decide) (backOf (W := 0) (rKe l Z a0 hw [] o78 [r3, r6, r9] 3 G1 gv eo T78.heap n0 Z78 f94 O_S hgv O_2 P5 O_A O_H O_W TS78 (Nat.le_of_ble_eq_true rfl) (own_cons hr3 (own_cons hr6 (own_cons hr9 own_nil))) (own_befS (P := fun k => (([r3, r6, r9] : List Int32).getD k 0 = (32 : Int32) ∨ ([r3, r6, r9] : List Int32).getD k 0 = (9 : Int32))) (own_befS (P := fun k => (([r3, r6, r9] : List Int32).getD k 0 = (32 : Int32) ∨ ([r3, r6, r9] : List Int32).getD k 0 = (9 : Int32))) (own_befS (P := fun k => (([r3, r6, r9] : List Int32).getD k 0 = (32 : Int32) ∨ ([r3, r6, r9] : List Int32).getD k 0 = (9 : Int32))) own_bef0 hB0) hB1) hB2) (Or.inl rfl) O_E) hZ (hw _ (own_w 34 rfl)) (hw _ (own_w 33 rfl)) (by decide) (by decide)) (g := (mkF m 159 #[.val (.int p1), .val (.int p2), .val (.int p3), .val (.int p4), .val (.int p5), .val (.int (3 : Int32)), .val (.ref b1o), .val (.ref o78), .val (.int (3 : Int32)), .val (.int (0 : Int32)), .unset, .unset, .unset] [(.ref o78)])) rfl (by rw [hml]; rfl) (argsL := [(.ref o78)]) (rest := []) (lenOf pd_35 rfl) rfl (by show 2 * 0 + _ ≤ _; exact Nat.le_of_eq rfl) (hb hby at_159) (fun _ _ => ⟨rfl, e91, (by decide : 5 + 0 ≤ _), (by decide : 35 + 0 ≤ _)⟩)
          dsimp only [Pt.U, Pt.locs, Pt.cells, Pt.slots] at X93 lq93 yq93 zq93 st93 hQ93
          subst lq93 yq93 zq93
          obtain ⟨rfl, N93q, e93⟩ := hQ93
          have N93 := Fr.app N91 N93q
          obtain ⟨cq95, kz95, q95a, q95b, q95c⟩ := isOf hZ e93 (O_EE.ext f94.2)
          obtain ⟨_, _, ⟨T95, Lq95, kq95, nq95⟩, -, X95, ⟨Lc95, hQ95, lq95, yq95, zq95⟩, st95⟩ := X93.virtualBack hx (y := (⟨"java/util/Optional", "isPresent", "()Z"⟩ : MethodName)) (z := (⟨"java/util/Optional", "isPresent", "()Z"⟩ : MethodName)) hown (mvT hZ (hw _ (own_w 51 rfl))) (mvT hZ (hw _ (own_w 52 rfl))) (notFace_of_selects (args := #[]) (mvT hZ (hw _ (own_w 54 rfl)))) (mvT hZ (hw _ (own_w 54 rfl))) (mvT hZ (hw _ (own_w 53 rfl))) (by decide) (backOf (W := 0) (rOp0 l Z a0 hw [] eo  T78.heap n0 Z78 (O_EV.ext f94.2)) hZ (hw _ (own_w 55 rfl)) (hw _ (own_w 48 rfl)) (by decide) (by decide)) q95a q95c (g := (mkF m 178 #[.val (.int p1), .val (.int p2), .val (.int p3), .val (.int p4), .val (.int p5), .val (.int (3 : Int32)), .val (.ref b1o), .val (.ref o78), .val (.int (3 : Int32)), .val (.int (0 : Int32)), .val (.ref eo), .unset, .unset] [(.ref eo)])) rfl (by rw [hml]; rfl) (Steps.refl _) (argsL := []) (rest := []) (lenOf pd_7 rfl) rfl (by show 2 * 0 + _ ≤ _; exact Nat.le_of_eq rfl) (hb hby at_178) (fun _ _ => ⟨rfl, e93, (by decide : 5 + 0 ≤ _), (by decide : 35 + 0 ≤ _)⟩)
          dsimp only [Pt.U, Pt.locs, Pt.cells, Pt.slots] at X95 lq95 yq95 zq95 st95 hQ95
          subst lq95 yq95 zq95
          obtain ⟨r95, hr95, rfl, N95q, e95⟩ := hQ95
          have N95 := Fr.app N93 N95q
          subst hr95
          obtain ⟨fs, hr, hrun, hended, hwd⟩ := Jvm.Stand.leaveW (s := s) (vm₁ := s.vm) X95 hS0 (Nat.le_trans (Nat.le_trans (Nat.le_trans (Nat.le_trans (Nat.le_trans (Nat.le_trans (Nat.le_trans (Nat.le_of_eq (congrArg Array.size hh)) E1.1) (Nat.le_of_eq W5.size.symm)) (Nat.le_of_eq W8.size.symm)) (Nat.le_of_eq W11.size.symm)) (Nat.le_of_eq W14.size.symm)) KC78.1) (Nat.le_of_eq (congrArg Array.size e95).symm)) (v := some (.int (1 : Int32))) (fun h => by rw [Bd.returns] at h; cases h)
          refine ⟨_, _, pre0 _ ?_, hrun, hended, _, _, rfl, ?_, hwd.1, hwd.2.1, hwd.2.2.1, hwd.2.2.2.mono (by decide) (by decide)⟩
          · refine pq92 _ ?_
            show Steps p.tables e below (T91.setTop (mkF m 108 #[.val (.int p1), .val (.int p2), .val (.int p3), .val (.int p4), .val (.int p5), .val (.int (3 : Int32)), .val (.ref b1o), .val (.ref o78), .val (.int (2 : Int32)), .unset, .unset, .unset, .unset] [(.int r91)])) _
            rw [(hr91.trans (if_pos hB2))]
            show Steps p.tables e below (T91.setTop (mkF m 108 #[.val (.int p1), .val (.int p2), .val (.int p3), .val (.int p4), .val (.int p5), .val (.int (3 : Int32)), .val (.ref b1o), .val (.ref o78), .val (.int (2 : Int32)), .unset, .unset, .unset, .unset] [(.int (1 : Int32))])) _
            refine XS.ifNo X91.here hx rfl (hb hby at_108) rfl ((if0 _ _).trans (feq (by decide)).1) ?_
            refine XS.iconst X91.here hx rfl (hb hby at_111) ?_
            refine XS.istore X91.here hx rfl (hb hby at_112) rfl (l' := #[.val (.int p1), .val (.int p2), .val (.int p3), .val (.int p4), .val (.int p5), .val (.int (3 : Int32)), .val (.ref b1o), .val (.ref o78), .val (.int (3 : Int32)), .unset, .unset, .unset, .unset]) rfl ?_
            refine XS.iload X91.here hx rfl (hb hby at_114) rfl ?_
            refine XS.iconst X91.here hx rfl (hb hby at_116) ?_
            refine XS.icmpYes X91.here hx rfl (pc0 := 117) (pc' := 133) rfl (hb hby at_117) rfl (flt (by decide)).2.2.2 (by decide) (by decide) ?_
            refine XS.iload X91.here hx rfl (hb hby at_133) rfl ?_
            refine XS.iload X91.here hx rfl (hb hby at_135) rfl ?_
            refine XS.icmpYes X91.here hx rfl (pc0 := 137) (pc' := 154) rfl (hb hby at_137) rfl (flt (by decide)).2.1 (by decide) (by decide) ?_
            refine XS.iconst X91.here hx rfl (hb hby at_154) ?_
            refine XS.istore X91.here hx rfl (hb hby at_155) rfl (l' := #[.val (.int p1), .val (.int p2), .val (.int p3), .val (.int p4), .val (.int p5), .val (.int (3 : Int32)), .val (.ref b1o), .val (.ref o78), .val (.int (3 : Int32)), .val (.int (0 : Int32)), .unset, .unset, .unset]) rfl ?_
            refine XS.aload X91.here hx rfl (hb hby at_157) rfl rfl ?_
            refine st93 _ ?_
            refine XS.astore X93.here hx rfl (hb hby at_162) rfl rfl (l' := #[.val (.int p1), .val (.int p2), .val (.int p3), .val (.int p4), .val (.int p5), .val (.int (3 : Int32)), .val (.ref b1o), .val (.ref o78), .val (.int (3 : Int32)), .val (.int (0 : Int32)), .val (.ref eo), .unset, .unset]) rfl ?_
            refine XS.aload X93.here hx rfl (hb hby at_164) rfl rfl ?_
            refine XS.ifnonnullYes X93.here hx rfl (pc0 := 166) (pc' := 171) rfl (hb hby at_166) rfl (by decide) (by decide) ?_
            refine XS.iload X93.here hx rfl (hb hby at_171) rfl ?_
            refine XS.ifNo X93.here hx rfl (hb hby at_173) rfl ((if0 _ _).trans (teq (by decide)).2) ?_
            refine XS.aload X93.here hx rfl (hb hby at_176) rfl rfl ?_
            refine st95.trans ?_
            refine XS.ifNo X95.here hx rfl (hb hby at_181) rfl ((if0 _ _).trans (teq (by decide)).2) ?_
            refine XS.iconst X95.here hx rfl (hb hby at_184) ?_
            refine XS.goto X95.here hx rfl (pc0 := 185) (pc' := 189) rfl (hb hby at_185) (by decide) (by decide) ?_
            show Steps p.tables e below (T95.setTop (mkF m 189 #[.val (.int p1), .val (.int p2), .val (.int p3), .val (.int p4), .val (.int p5), .val (.int (3 : Int32)), .val (.ref b1o), .val (.ref o78), .val (.int (3 : Int32)), .val (.int (0 : Int32)), .val (.ref eo), .unset, .unset] [(.int (1 : Int32))])) _
            exact retN X95 hx (t := .boolean) Bd.returns (by simp) (hb hby at_189) hr
          · show Qrm0 Z p1 p2 p3 p4 p5 G1 gv eo h0 n0 _ T95.heap _
            exact ⟨rfl, N95⟩
        · skip
          obtain ⟨cl96, Ar96, qk96, Sz96, Nn96, Hh96, Gg96⟩ := id (f80)
          have hin97 : ¬ ((2 : Int32) < 0 ∨ cl96.slots.size ≤ ((2 : Int32)).toNatClampNeg) := inb_of Sz96 ⟨by decide, by decide⟩
          have hat97 : cl96.slots[((2 : Int32)).toNatClampNeg]? = some (.int r9) := Has.at Hh96 hin97 rfl
          have pq98 : ∀ t, Steps p.tables e below (T91.setTop (mkF m 147 #[.val (.int p1), .val (.int p2), .val (.int p3), .val (.int p4), .val (.int p5), .val (.int (3 : Int32)), .val (.ref b1o), .val (.ref o78), .val (.int (2 : Int32)), .unset, .unset, .unset, .unset] [(.int (35 : Int32)), (.int r9)])) t → Steps p.tables e below (s₁.setTop (mkF m 0 #[.val (.int p1), .val (.int p2), .val (.int p3), .val (.int p4), .val (.int p5), .unset, .unset, .unset, .unset, .unset, .unset, .unset, .unset] [])) t := by
            intro t kt
            refine pq92 _ ?_
            show Steps p.tables e below (T91.setTop (mkF m 108 #[.val (.int p1), .val (.int p2), .val (.int p3), .val (.int p4), .val (.int p5), .val (.int (3 : Int32)), .val (.ref b1o), .val (.ref o78), .val (.int (2 : Int32)), .unset, .unset, .unset, .unset] [(.int r91)])) _
            rw [(hr91.trans (if_neg hB2))]
            show Steps p.tables e below (T91.setTop (mkF m 108 #[.val (.int p1), .val (.int p2), .val (.int p3), .val (.int p4), .val (.int p5), .val (.int (3 : Int32)), .val (.ref b1o), .val (.ref o78), .val (.int (2 : Int32)), .unset, .unset, .unset, .unset] [(.int (0 : Int32))])) _
            refine XS.ifYes X91.here hx rfl (pc0 := 108) (pc' := 133) rfl (hb hby at_108) rfl ((if0 _ _).trans (teq (by decide)).1) (by decide) (by decide) ?_
            refine XS.iload X91.here hx rfl (hb hby at_133) rfl ?_
            refine XS.iload X91.here hx rfl (hb hby at_135) rfl ?_
            refine XS.icmpNo X91.here hx rfl (hb hby at_137) rfl (tlt (by decide)).2.1 ?_
            refine XS.aload X91.here hx rfl (hb hby at_140) rfl rfl ?_
            refine XS.iload X91.here hx rfl (hb hby at_142) rfl ?_
            refine X91.caload hx (j := (2 : Int32)) (v := (.int r9)) (by rw [e91]; exact Ar96.1) (State.isArrayOf_alike hZ.alike Ar96.2.1) Ar96.2.2 hin97 hat97 (g := (mkF m 144 #[.val (.int p1), .val (.int p2), .val (.int p3), .val (.int p4), .val (.int p5), .val (.int (3 : Int32)), .val (.ref b1o), .val (.ref o78), .val (.int (2 : Int32)), .unset, .unset, .unset, .unset] [(.int (2 : Int32)), (.ref b1o)])) rfl rfl (hb hby at_144) _ ?_
            refine XS.bipush X91.here hx rfl (hb hby at_145) ?_
            exact kt
          by_cases hc147 : r9 = (35 : Int32)
          · have f100 := (f79.keep KC78 all0)
            obtain ⟨_, _, ⟨T99, Lq99, kq99, nq99⟩, -, X99, ⟨Lc99, hQ99, lq99, yq99, zq99⟩, st99⟩ := Jvm.LawKit.callS X91 hx (y := (⟨"com/example/wrasse/wrasse/io/LineFiles", "content", "(Ljava/lang/String;)Ljava/util/Optional;"⟩ : MethodName)) hown (mvT hZ (hw _ (own_w 31 rfl))) (mvT hZ (hw _ (own_w 32 rfl))) (mvT hZ (hw _ (own_w 33 rfl))) (mvT hZ (hw _ (own_w 34 rfl))) (by decide) (backOf (W := 0) (rKe l Z a0 hw [] o78 [r3, r6, r9] 2 G1 gv eo T78.heap n0 Z78 f100 O_S hgv O_2 P5 O_A O_H O_W TS78 (Nat.le_of_ble_eq_true rfl) (own_cons hr3 (own_cons hr6 (own_cons hr9 own_nil))) (own_befS (P := fun k => (([r3, r6, r9] : List Int32).getD k 0 = (32 : Int32) ∨ ([r3, r6, r9] : List Int32).getD k 0 = (9 : Int32))) (own_befS (P := fun k => (([r3, r6, r9] : List Int32).getD k 0 = (32 : Int32) ∨ ([r3, r6, r9] : List Int32).getD k 0 = (9 : Int32))) own_bef0 hB0) hB1) (Or.inr ⟨(Nat.le_of_ble_eq_true rfl), hc147⟩) O_E) hZ (hw _ (own_w 34 rfl)) (hw _ (own_w 33 rfl)) (by decide) (by decide)) (g := (mkF m 159 #[.val (.int p1), .val (.int p2), .val (.int p3), .val (.int p4), .val (.int p5), .val (.int (3 : Int32)), .val (.ref b1o), .val (.ref o78), .val (.int (2 : Int32)), .val (.int (0 : Int32)), .unset, .unset, .unset] [(.ref o78)])) rfl (by rw [hml]; rfl) (argsL := [(.ref o78)]) (rest := []) (lenOf pd_35 rfl) rfl (by show 2 * 0 + _ ≤ _; exact Nat.le_of_eq rfl) (hb hby at_159) (fun _ _ => ⟨rfl, e91, (by decide : 5 + 0 ≤ _), (by decide : 35 + 0 ≤ _)⟩)
            dsimp only [Pt.U, Pt.locs, Pt.cells, Pt.slots] at X99 lq99 yq99 zq99 st99 hQ99
            subst lq99 yq99 zq99
            obtain ⟨rfl, N99q, e99⟩ := hQ99
            have N99 := Fr.app N91 N99q
            obtain ⟨cq101, kz101, q101a, q101b, q101c⟩ := isOf hZ e99 (O_EE.ext f100.2)
            obtain ⟨_, _, ⟨T101, Lq101, kq101, nq101⟩, -, X101, ⟨Lc101, hQ101, lq101, yq101, zq101⟩, st101⟩ := X99.virtualBack hx (y := (⟨"java/util/Optional", "isPresent", "()Z"⟩ : MethodName)) (z := (⟨"java/util/Optional", "isPresent", "()Z"⟩ : MethodName)) hown (mvT hZ (hw _ (own_w 51 rfl))) (mvT hZ (hw _ (own_w 52 rfl))) (notFace_of_selects (args := #[]) (mvT hZ (hw _ (own_w 54 rfl)))) (mvT hZ (hw _ (own_w 54 rfl))) (mvT hZ (hw _ (own_w 53 rfl))) (by decide) (backOf (W := 0) (rOp0 l Z a0 hw [] eo  T78.heap n0 Z78 (O_EV.ext f100.2)) hZ (hw _ (own_w 55 rfl)) (hw _ (own_w 48 rfl)) (by decide) (by decide)) q101a q101c (g := (mkF m 178 #[.val (.int p1), .val (.int p2), .val (.int p3), .val (.int p4), .val (.int p5), .val (.int (3 : Int32)), .val (.ref b1o), .val (.ref o78), .val (.int (2 : Int32)), .val (.int (0 : Int32)), .val (.ref eo), .unset, .unset] [(.ref eo)])) rfl (by rw [hml]; rfl) (Steps.refl _) (argsL := []) (rest := []) (lenOf pd_7 rfl) rfl (by show 2 * 0 + _ ≤ _; exact Nat.le_of_eq rfl) (hb hby at_178) (fun _ _ => ⟨rfl, e99, (by decide : 5 + 0 ≤ _), (by decide : 35 + 0 ≤ _)⟩)
            dsimp only [Pt.U, Pt.locs, Pt.cells, Pt.slots] at X101 lq101 yq101 zq101 st101 hQ101
            subst lq101 yq101 zq101
            obtain ⟨r101, hr101, rfl, N101q, e101⟩ := hQ101
            have N101 := Fr.app N99 N101q
            subst hr101
            obtain ⟨fs, hr, hrun, hended, hwd⟩ := Jvm.Stand.leaveW (s := s) (vm₁ := s.vm) X101 hS0 (Nat.le_trans (Nat.le_trans (Nat.le_trans (Nat.le_trans (Nat.le_trans (Nat.le_trans (Nat.le_trans (Nat.le_of_eq (congrArg Array.size hh)) E1.1) (Nat.le_of_eq W5.size.symm)) (Nat.le_of_eq W8.size.symm)) (Nat.le_of_eq W11.size.symm)) (Nat.le_of_eq W14.size.symm)) KC78.1) (Nat.le_of_eq (congrArg Array.size e101).symm)) (v := some (.int (1 : Int32))) (fun h => by rw [Bd.returns] at h; cases h)
            refine ⟨_, _, pre0 _ ?_, hrun, hended, _, _, rfl, ?_, hwd.1, hwd.2.1, hwd.2.2.1, hwd.2.2.2.mono (by decide) (by decide)⟩
            · refine pq98 _ ?_
              show Steps p.tables e below (T91.setTop (mkF m 147 #[.val (.int p1), .val (.int p2), .val (.int p3), .val (.int p4), .val (.int p5), .val (.int (3 : Int32)), .val (.ref b1o), .val (.ref o78), .val (.int (2 : Int32)), .unset, .unset, .unset, .unset] [(.int (35 : Int32)), (.int r9)])) _
              refine XS.icmpYes X91.here hx rfl (pc0 := 147) (pc' := 154) rfl (hb hby at_147) rfl (teq hc147).1 (by decide) (by decide) ?_
              refine XS.iconst X91.here hx rfl (hb hby at_154) ?_
              refine XS.istore X91.here hx rfl (hb hby at_155) rfl (l' := #[.val (.int p1), .val (.int p2), .val (.int p3), .val (.int p4), .val (.int p5), .val (.int (3 : Int32)), .val (.ref b1o), .val (.ref o78), .val (.int (2 : Int32)), .val (.int (0 : Int32)), .unset, .unset, .unset]) rfl ?_
              refine XS.aload X91.here hx rfl (hb hby at_157) rfl rfl ?_
              refine st99 _ ?_
              refine XS.astore X99.here hx rfl (hb hby at_162) rfl rfl (l' := #[.val (.int p1), .val (.int p2), .val (.int p3), .val (.int p4), .val (.int p5), .val (.int (3 : Int32)), .val (.ref b1o), .val (.ref o78), .val (.int (2 : Int32)), .val (.int (0 : Int32)), .val (.ref eo), .unset, .unset]) rfl ?_
              refine XS.aload X99.here hx rfl (hb hby at_164) rfl rfl ?_
              refine XS.ifnonnullYes X99.here hx rfl (pc0 := 166) (pc' := 171) rfl (hb hby at_166) rfl (by decide) (by decide) ?_
              refine XS.iload X99.here hx rfl (hb hby at_171) rfl ?_
              refine XS.ifNo X99.here hx rfl (hb hby at_173) rfl ((if0 _ _).trans (teq (by decide)).2) ?_
              refine XS.aload X99.here hx rfl (hb hby at_176) rfl rfl ?_
              refine st101.trans ?_
              refine XS.ifNo X101.here hx rfl (hb hby at_181) rfl ((if0 _ _).trans (teq (by decide)).2) ?_
              refine XS.iconst X101.here hx rfl (hb hby at_184) ?_
              refine XS.goto X101.here hx rfl (pc0 := 185) (pc' := 189) rfl (hb hby at_185) (by decide) (by decide) ?_
              show Steps p.tables e below (T101.setTop (mkF m 189 #[.val (.int p1), .val (.int p2), .val (.int p3), .val (.int p4), .val (.int p5), .val (.int (3 : Int32)), .val (.ref b1o), .val (.ref o78), .val (.int (2 : Int32)), .val (.int (0 : Int32)), .val (.ref eo), .unset, .unset] [(.int (1 : Int32))])) _
              exact retN X101 hx (t := .boolean) Bd.returns (by simp) (hb hby at_189) hr
            · show Qrm0 Z p1 p2 p3 p4 p5 G1 gv eo h0 n0 _ T101.heap _
              exact ⟨rfl, N101⟩
          · have f103 := (f79.keep KC78 all0)
            obtain ⟨_, _, ⟨T102, Lq102, kq102, nq102⟩, -, X102, ⟨Lc102, hQ102, lq102, yq102, zq102⟩, st102⟩ := Jvm.LawKit.callS X91 hx (y := (⟨"com/example/wrasse/wrasse/io/LineFiles", "content", "(Ljava/lang/String;)Ljava/util/Optional;"⟩ : MethodName)) hown (mvT hZ (hw _ (own_w 31 rfl))) (mvT hZ (hw _ (own_w 32 rfl))) (mvT hZ (hw _ (own_w 33 rfl))) (mvT hZ (hw _ (own_w 34 rfl))) (by decide) (backOf (W := 0) (rKp l Z a0 hw [] o78 [r3, r6, r9] 2 G1 gv eo [r9] T78.heap n0 Z78 f103 O_S hgv O_2 P5 O_A O_H O_W TS78 (Nat.le_of_ble_eq_true rfl) (own_cons hr3 (own_cons hr6 (own_cons hr9 own_nil))) (own_befS (P := fun k => (([r3, r6, r9] : List Int32).getD k 0 = (32 : Int32) ∨ ([r3, r6, r9] : List Int32).getD k 0 = (9 : Int32))) (own_befS (P := fun k => (([r3, r6, r9] : List Int32).getD k 0 = (32 : Int32) ∨ ([r3, r6, r9] : List Int32).getD k 0 = (9 : Int32))) own_bef0 hB0) hB1) O_E ⟨(Nat.le_of_ble_eq_true rfl), rfl⟩ (Nat.le_of_ble_eq_true rfl) rfl hB2 hc147) hZ (hw _ (own_w 34 rfl)) (hw _ (own_w 33 rfl)) (by decide) (by decide)) (g := (mkF m 159 #[.val (.int p1), .val (.int p2), .val (.int p3), .val (.int p4), .val (.int p5), .val (.int (3 : Int32)), .val (.ref b1o), .val (.ref o78), .val (.int (2 : Int32)), .val (.int (1 : Int32)), .unset, .unset, .unset] [(.ref o78)])) rfl (by rw [hml]; rfl) (argsL := [(.ref o78)]) (rest := []) (lenOf pd_35 rfl) rfl (by show 2 * 0 + _ ≤ _; exact Nat.le_of_eq rfl) (hb hby at_159) (fun _ _ => ⟨rfl, e91, (by decide : 5 + 4 ≤ _), (by decide : 35 + 29 ≤ _)⟩)
            dsimp only [Pt.U, Pt.locs, Pt.cells, Pt.slots] at X102 lq102 yq102 zq102 st102 hQ102
            subst lq102 yq102 zq102
            obtain ⟨o102, x102, rfl, N102q, KC102, uE102, uV102, TS102⟩ := hQ102
            have N102 := Fr.app N91 N102q
            have Z102 : n0 ≤ T102.heap.size := Nat.le_trans Z78 KC102.1
            have f105 := (f103.keep KC102 all0)
            have f106 := (f80.keep KC102 nin0)
            obtain ⟨T104, L104, X104, e104, N104, st104⟩ := own_tail (ct := [r9]) (sq := 2) (vs := [(.int r3), (.int r6), (.int r9), (.int r12)]) (by decide) (by decide) (by decide) (by decide) hx hZ hw hby hml hown f105 O_S hgv O_2 P5 O_A O_H O_W Z102 TS102 (Nat.le_of_ble_eq_true rfl) (own_cons hr9 own_nil) uE102 uV102 f106 (by decide : 2 + 1 ≤ 4) (own_befS (P := fun k => ([.int r3, .int r6, .int r9, .int r12] : List Value).getD (2 + k) (.int (0 : Int32)) = .int (([r9] : List Int32).getD k 0)) own_bef0 rfl) _ _ X102 rfl N102
            obtain ⟨fs, hr, hrun, hended, hwd⟩ := Jvm.Stand.leaveW (s := s) (vm₁ := s.vm) X104 hS0 (Nat.le_trans (Nat.le_trans (Nat.le_trans (Nat.le_trans (Nat.le_trans (Nat.le_trans (Nat.le_trans (Nat.le_trans (Nat.le_of_eq (congrArg Array.size hh)) E1.1) (Nat.le_of_eq W5.size.symm)) (Nat.le_of_eq W8.size.symm)) (Nat.le_of_eq W11.size.symm)) (Nat.le_of_eq W14.size.symm)) KC78.1) KC102.1) (Nat.le_of_eq (congrArg Array.size e104).symm)) (v := some (.int (1 : Int32))) (fun h => by rw [Bd.returns] at h; cases h)
            refine ⟨_, _, pre0 _ ?_, hrun, hended, _, _, rfl, ?_, hwd.1, hwd.2.1, hwd.2.2.1, hwd.2.2.2.mono (by decide) (by decide)⟩
            · refine pq98 _ ?_
              show Steps p.tables e below (T91.setTop (mkF m 147 #[.val (.int p1), .val (.int p2), .val (.int p3), .val (.int p4), .val (.int p5), .val (.int (3 : Int32)), .val (.ref b1o), .val (.ref o78), .val (.int (2 : Int32)), .unset, .unset, .unset, .unset] [(.int (35 : Int32)), (.int r9)])) _
              refine XS.icmpNo X91.here hx rfl (hb hby at_147) rfl (feq hc147).1 ?_
              refine XS.iconst X91.here hx rfl (hb hby at_150) ?_
              refine XS.goto X91.here hx rfl (pc0 := 151) (pc' := 155) rfl (hb hby at_151) (by decide) (by decide) ?_
              refine XS.istore X91.here hx rfl (hb hby at_155) rfl (l' := #[.val (.int p1), .val (.int p2), .val (.int p3), .val (.int p4), .val (.int p5), .val (.int (3 : Int32)), .val (.ref b1o), .val (.ref o78), .val (.int (2 : Int32)), .val (.int (1 : Int32)), .unset, .unset, .unset]) rfl ?_
              refine XS.aload X91.here hx rfl (hb hby at_157) rfl rfl ?_
              refine st102 _ ?_
              refine XS.astore X102.here hx rfl (hb hby at_162) rfl rfl (l' := #[.val (.int p1), .val (.int p2), .val (.int p3), .val (.int p4), .val (.int p5), .val (.int (3 : Int32)), .val (.ref b1o), .val (.ref o78), .val (.int (2 : Int32)), .val (.int (1 : Int32)), .val (.ref o102), .unset, .unset]) rfl ?_
              refine XS.aload X102.here hx rfl (hb hby at_164) rfl rfl ?_
              refine XS.ifnonnullYes X102.here hx rfl (pc0 := 166) (pc' := 171) rfl (hb hby at_166) rfl (by decide) (by decide) ?_
              refine XS.iload X102.here hx rfl (hb hby at_171) rfl ?_
              refine XS.ifYes X102.here hx rfl (pc0 := 173) (pc' := 190) rfl (hb hby at_173) rfl ((if0 _ _).trans (feq (by decide)).2) (by decide) (by decide) ?_
              refine st104 _ ?_
              show Steps p.tables e below (T104.setTop (mkF m 294 #[.val (.int p1), .val (.int p2), .val (.int p3), .val (.int p4), .val (.int p5), .val (.int (3 : Int32)), .val (.ref b1o), .val (.ref o78), .val (.int (2 : Int32)), .val (.int (1 : Int32)), .val (.ref o102), .val (.ref x102), .val (.int (1 : Int32))] [(.int (1 : Int32))])) _
              exact retN X104 hx (t := .boolean) Bd.returns (by simp) (hb hby at_294) hr
            · show Qrm0 Z p1 p2 p3 p4 p5 G1 gv eo h0 n0 _ T104.heap _
              exact ⟨rfl, N104⟩
      · skip
        obtain ⟨cl107, Ar107, qk107, Sz107, Nn107, Hh107, Gg107⟩ := id (f80)
        have hin108 : ¬ ((1 : Int32) < 0 ∨ cl107.slots.size ≤ ((1 : Int32)).toNatClampNeg) := inb_of Sz107 ⟨by decide, by decide⟩
        have hat108 : cl107.slots[((1 : Int32)).toNatClampNeg]? = some (.int r6) := Has.at Hh107 hin108 rfl
        have pq109 : ∀ t, Steps p.tables e below (T87.setTop (mkF m 147 #[.val (.int p1), .val (.int p2), .val (.int p3), .val (.int p4), .val (.int p5), .val (.int (3 : Int32)), .val (.ref b1o), .val (.ref o78), .val (.int (1 : Int32)), .unset, .unset, .unset, .unset] [(.int (35 : Int32)), (.int r6)])) t → Steps p.tables e below (s₁.setTop (mkF m 0 #[.val (.int p1), .val (.int p2), .val (.int p3), .val (.int p4), .val (.int p5), .unset, .unset, .unset, .unset, .unset, .unset, .unset, .unset] [])) t := by
          intro t kt
          refine pq88 _ ?_
          show Steps p.tables e below (T87.setTop (mkF m 89 #[.val (.int p1), .val (.int p2), .val (.int p3), .val (.int p4), .val (.int p5), .val (.int (3 : Int32)), .val (.ref b1o), .val (.ref o78), .val (.int (1 : Int32)), .unset, .unset, .unset, .unset] [(.int r87)])) _
          rw [(hr87.trans (if_neg hB1))]
          show Steps p.tables e below (T87.setTop (mkF m 89 #[.val (.int p1), .val (.int p2), .val (.int p3), .val (.int p4), .val (.int p5), .val (.int (3 : Int32)), .val (.ref b1o), .val (.ref o78), .val (.int (1 : Int32)), .unset, .unset, .unset, .unset] [(.int (0 : Int32))])) _
          refine XS.ifYes X87.here hx rfl (pc0 := 89) (pc' := 133) rfl (hb hby at_89) rfl ((if0 _ _).trans (teq (by decide)).1) (by decide) (by decide) ?_
          refine XS.iload X87.here hx rfl (hb hby at_133) rfl ?_
          refine XS.iload X87.here hx rfl (hb hby at_135) rfl ?_
          refine XS.icmpNo X87.here hx rfl (hb hby at_137) rfl (tlt (by decide)).2.1 ?_
          refine XS.aload X87.here hx rfl (hb hby at_140) rfl rfl ?_
          refine XS.iload X87.here hx rfl (hb hby at_142) rfl ?_
          refine X87.caload hx (j := (1 : Int32)) (v := (.int r6)) (by rw [e87]; exact Ar107.1) (State.isArrayOf_alike hZ.alike Ar107.2.1) Ar107.2.2 hin108 hat108 (g := (mkF m 144 #[.val (.int p1), .val (.int p2), .val (.int p3), .val (.int p4), .val (.int p5), .val (.int (3 : Int32)), .val (.ref b1o), .val (.ref o78), .val (.int (1 : Int32)), .unset, .unset, .unset, .unset] [(.int (1 : Int32)), (.ref b1o)])) rfl rfl (hb hby at_144) _ ?_
          refine XS.bipush X87.here hx rfl (hb hby at_145) ?_
          exact kt
        by_cases hc147 : r6 = (35 : Int32)
        · have f111 := (f79.keep KC78 all0)
          obtain ⟨_, _, ⟨T110, Lq110, kq110, nq110⟩, -, X110, ⟨Lc110, hQ110, lq110, yq110, zq110⟩, st110⟩ := Jvm.LawKit.callS X87 hx (y := (⟨"com/example/wrasse/wrasse/io/LineFiles", "content", "(Ljava/lang/String;)Ljava/util/Optional;"⟩ : MethodName)) hown (mvT hZ (hw _ (own_w 31 rfl))) (mvT hZ (hw _ (own_w 32 rfl))) (mvT hZ (hw _ (own_w 33 rfl))) (mvT hZ (hw _ (own_w 34 rfl))) (by decide) (backOf (W := 0) (rKe l Z a0 hw [] o78 [r3, r6, r9] 1 G1 gv eo T78.heap n0 Z78 f111 O_S hgv O_2 P5 O_A O_H O_W TS78 (Nat.le_of_ble_eq_true rfl) (own_cons hr3 (own_cons hr6 (own_cons hr9 own_nil))) (own_befS (P := fun k => (([r3, r6, r9] : List Int32).getD k 0 = (32 : Int32) ∨ ([r3, r6, r9] : List Int32).getD k 0 = (9 : Int32))) own_bef0 hB0) (Or.inr ⟨(Nat.le_of_ble_eq_true rfl), hc147⟩) O_E) hZ (hw _ (own_w 34 rfl)) (hw _ (own_w 33 rfl)) (by decide) (by decide)) (g := (mkF m 159 #[.val (.int p1), .val (.int p2), .val (.int p3), .val (.int p4), .val (.int p5), .val (.int (3 : Int32)), .val (.ref b1o), .val (.ref o78), .val (.int (1 : Int32)), .val (.int (0 : Int32)), .unset, .unset, .unset] [(.ref o78)])) rfl (by rw [hml]; rfl) (argsL := [(.ref o78)]) (rest := []) (lenOf pd_35 rfl) rfl (by show 2 * 0 + _ ≤ _; exact Nat.le_of_eq rfl) (hb hby at_159) (fun _ _ => ⟨rfl, e87, (by decide : 5 + 0 ≤ _), (by decide : 35 + 0 ≤ _)⟩)
          dsimp only [Pt.U, Pt.locs, Pt.cells, Pt.slots] at X110 lq110 yq110 zq110 st110 hQ110
          subst lq110 yq110 zq110
          obtain ⟨rfl, N110q, e110⟩ := hQ110
          have N110 := Fr.app N87 N110q
          obtain ⟨cq112, kz112, q112a, q112b, q112c⟩ := isOf hZ e110 (O_EE.ext f111.2)
          obtain ⟨_, _, ⟨T112, Lq112, kq112, nq112⟩, -, X112, ⟨Lc112, hQ112, lq112, yq112, zq112⟩, st112⟩ := X110.virtualBack hx (y := (⟨"java/util/Optional", "isPresent", "()Z"⟩ : MethodName)) (z := (⟨"java/util/Optional", "isPresent", "()Z"⟩ : MethodName)) hown (mvT hZ (hw _ (own_w 51 rfl))) (mvT hZ (hw _ (own_w 52 rfl))) (notFace_of_selects (args := #[]) (mvT hZ (hw _ (own_w 54 rfl)))) (mvT hZ (hw _ (own_w 54 rfl))) (mvT hZ (hw _ (own_w 53 rfl))) (by decide) (backOf (W := 0) (rOp0 l Z a0 hw [] eo  T78.heap n0 Z78 (O_EV.ext f111.2)) hZ (hw _ (own_w 55 rfl)) (hw _ (own_w 48 rfl)) (by decide) (by decide)) q112a q112c (g := (mkF m 178 #[.val (.int p1), .val (.int p2), .val (.int p3), .val (.int p4), .val (.int p5), .val (.int (3 : Int32)), .val (.ref b1o), .val (.ref o78), .val (.int (1 : Int32)), .val (.int (0 : Int32)), .val (.ref eo), .unset, .unset] [(.ref eo)])) rfl (by rw [hml]; rfl) (Steps.refl _) (argsL := []) (rest := []) (lenOf pd_7 rfl) rfl (by show 2 * 0 + _ ≤ _; exact Nat.le_of_eq rfl) (hb hby at_178) (fun _ _ => ⟨rfl, e110, (by decide : 5 + 0 ≤ _), (by decide : 35 + 0 ≤ _)⟩)
          dsimp only [Pt.U, Pt.locs, Pt.cells, Pt.slots] at X112 lq112 yq112 zq112 st112 hQ112
          subst lq112 yq112 zq112
          obtain ⟨r112, hr112, rfl, N112q, e112⟩ := hQ112
          have N112 := Fr.app N110 N112q
          subst hr112
          obtain ⟨fs, hr, hrun, hended, hwd⟩ := Jvm.Stand.leaveW (s := s) (vm₁ := s.vm) X112 hS0 (Nat.le_trans (Nat.le_trans (Nat.le_trans (Nat.le_trans (Nat.le_trans (Nat.le_trans (Nat.le_trans (Nat.le_of_eq (congrArg Array.size hh)) E1.1) (Nat.le_of_eq W5.size.symm)) (Nat.le_of_eq W8.size.symm)) (Nat.le_of_eq W11.size.symm)) (Nat.le_of_eq W14.size.symm)) KC78.1) (Nat.le_of_eq (congrArg Array.size e112).symm)) (v := some (.int (1 : Int32))) (fun h => by rw [Bd.returns] at h; cases h)
          refine ⟨_, _, pre0 _ ?_, hrun, hended, _, _, rfl, ?_, hwd.1, hwd.2.1, hwd.2.2.1, hwd.2.2.2.mono (by decide) (by decide)⟩
          · refine pq109 _ ?_
            show Steps p.tables e below (T87.setTop (mkF m 147 #[.val (.int p1), .val (.int p2), .val (.int p3), .val (.int p4), .val (.int p5), .val (.int (3 : Int32)), .val (.ref b1o), .val (.ref o78), .val (.int (1 : Int32)), .unset, .unset, .unset, .unset] [(.int (35 : Int32)), (.int r6)])) _
            refine XS.icmpYes X87.here hx rfl (pc0 := 147) (pc' := 154) rfl (hb hby at_147) rfl (teq hc147).1 (by decide) (by decide) ?_
            refine XS.iconst X87.here hx rfl (hb hby at_154) ?_
            refine XS.istore X87.here hx rfl (hb hby at_155) rfl (l' := #[.val (.int p1), .val (.int p2), .val (.int p3), .val (.int p4), .val (.int p5), .val (.int (3 : Int32)), .val (.ref b1o), .val (.ref o78), .val (.int (1 : Int32)), .val (.int (0 : Int32)), .unset, .unset, .unset]) rfl ?_
            refine XS.aload X87.here hx rfl (hb hby at_157) rfl rfl ?_
            refine st110 _ ?_
            refine XS.astore X110.here hx rfl (hb hby at_162) rfl rfl (l' := #[.val (.int p1), .val (.int p2), .val (.int p3), .val (.int p4), .val (.int p5), .val (.int (3 : Int32)), .val (.ref b1o), .val (.ref o78), .val (.int (1 : Int32)), .val (.int (0 : Int32)), .val (.ref eo), .unset, .unset]) rfl ?_
            refine XS.aload X110.here hx rfl (hb hby at_164) rfl rfl ?_
            refine XS.ifnonnullYes X110.here hx rfl (pc0 := 166) (pc' := 171) rfl (hb hby at_166) rfl (by decide) (by decide) ?_
            refine XS.iload X110.here hx rfl (hb hby at_171) rfl ?_
            refine XS.ifNo X110.here hx rfl (hb hby at_173) rfl ((if0 _ _).trans (teq (by decide)).2) ?_
            refine XS.aload X110.here hx rfl (hb hby at_176) rfl rfl ?_
            refine st112.trans ?_
            refine XS.ifNo X112.here hx rfl (hb hby at_181) rfl ((if0 _ _).trans (teq (by decide)).2) ?_
            refine XS.iconst X112.here hx rfl (hb hby at_184) ?_
            refine XS.goto X112.here hx rfl (pc0 := 185) (pc' := 189) rfl (hb hby at_185) (by decide) (by decide) ?_
            show Steps p.tables e below (T112.setTop (mkF m 189 #[.val (.int p1), .val (.int p2), .val (.int p3), .val (.int p4), .val (.int p5), .val (.int (3 : Int32)), .val (.ref b1o), .val (.ref o78), .val (.int (1 : Int32)), .val (.int (0 : Int32)), .val (.ref eo), .unset, .unset] [(.int (1 : Int32))])) _
            exact retN X112 hx (t := .boolean) Bd.returns (by simp) (hb hby at_189) hr
          · show Qrm0 Z p1 p2 p3 p4 p5 G1 gv eo h0 n0 _ T112.heap _
            exact ⟨rfl, N112⟩
        · have f114 := (f79.keep KC78 all0)
          obtain ⟨_, _, ⟨T113, Lq113, kq113, nq113⟩, -, X113, ⟨Lc113, hQ113, lq113, yq113, zq113⟩, st113⟩ := Jvm.LawKit.callS X87 hx (y := (⟨"com/example/wrasse/wrasse/io/LineFiles", "content", "(Ljava/lang/String;)Ljava/util/Optional;"⟩ : MethodName)) hown (mvT hZ (hw _ (own_w 31 rfl))) (mvT hZ (hw _ (own_w 32 rfl))) (mvT hZ (hw _ (own_w 33 rfl))) (mvT hZ (hw _ (own_w 34 rfl))) (by decide) (backOf (W := 0) (rKp l Z a0 hw [] o78 [r3, r6, r9] 1 G1 gv eo [r6, r9] T78.heap n0 Z78 f114 O_S hgv O_2 P5 O_A O_H O_W TS78 (Nat.le_of_ble_eq_true rfl) (own_cons hr3 (own_cons hr6 (own_cons hr9 own_nil))) (own_befS (P := fun k => (([r3, r6, r9] : List Int32).getD k 0 = (32 : Int32) ∨ ([r3, r6, r9] : List Int32).getD k 0 = (9 : Int32))) own_bef0 hB0) O_E ⟨(Nat.le_of_ble_eq_true rfl), rfl⟩ (Nat.le_of_ble_eq_true rfl) rfl hB1 hc147) hZ (hw _ (own_w 34 rfl)) (hw _ (own_w 33 rfl)) (by decide) (by decide)) (g := (mkF m 159 #[.val (.int p1), .val (.int p2), .val (.int p3), .val (.int p4), .val (.int p5), .val (.int (3 : Int32)), .val (.ref b1o), .val (.ref o78), .val (.int (1 : Int32)), .val (.int (1 : Int32)), .unset, .unset, .unset] [(.ref o78)])) rfl (by rw [hml]; rfl) (argsL := [(.ref o78)]) (rest := []) (lenOf pd_35 rfl) rfl (by show 2 * 0 + _ ≤ _; exact Nat.le_of_eq rfl) (hb hby at_159) (fun _ _ => ⟨rfl, e87, (by decide : 5 + 4 ≤ _), (by decide : 35 + 29 ≤ _)⟩)
          dsimp only [Pt.U, Pt.locs, Pt.cells, Pt.slots] at X113 lq113 yq113 zq113 st113 hQ113
          subst lq113 yq113 zq113
          obtain ⟨o113, x113, rfl, N113q, KC113, uE113, uV113, TS113⟩ := hQ113
          have N113 := Fr.app N87 N113q
          have Z113 : n0 ≤ T113.heap.size := Nat.le_trans Z78 KC113.1
          have f116 := (f114.keep KC113 all0)
          have f117 := (f80.keep KC113 nin0)
          obtain ⟨T115, L115, X115, e115, N115, st115⟩ := own_tail (ct := [r6, r9]) (sq := 1) (vs := [(.int r3), (.int r6), (.int r9), (.int r12)]) (by decide) (by decide) (by decide) (by decide) hx hZ hw hby hml hown f116 O_S hgv O_2 P5 O_A O_H O_W Z113 TS113 (Nat.le_of_ble_eq_true rfl) (own_cons hr6 (own_cons hr9 own_nil)) uE113 uV113 f117 (by decide : 1 + 2 ≤ 4) (own_befS (P := fun k => ([.int r3, .int r6, .int r9, .int r12] : List Value).getD (1 + k) (.int (0 : Int32)) = .int (([r6, r9] : List Int32).getD k 0)) (own_befS (P := fun k => ([.int r3, .int r6, .int r9, .int r12] : List Value).getD (1 + k) (.int (0 : Int32)) = .int (([r6, r9] : List Int32).getD k 0)) own_bef0 rfl) rfl) _ _ X113 rfl N113
          obtain ⟨fs, hr, hrun, hended, hwd⟩ := Jvm.Stand.leaveW (s := s) (vm₁ := s.vm) X115 hS0 (Nat.le_trans (Nat.le_trans (Nat.le_trans (Nat.le_trans (Nat.le_trans (Nat.le_trans (Nat.le_trans (Nat.le_trans (Nat.le_of_eq (congrArg Array.size hh)) E1.1) (Nat.le_of_eq W5.size.symm)) (Nat.le_of_eq W8.size.symm)) (Nat.le_of_eq W11.size.symm)) (Nat.le_of_eq W14.size.symm)) KC78.1) KC113.1) (Nat.le_of_eq (congrArg Array.size e115).symm)) (v := some (.int (1 : Int32))) (fun h => by rw [Bd.returns] at h; cases h)
          refine ⟨_, _, pre0 _ ?_, hrun, hended, _, _, rfl, ?_, hwd.1, hwd.2.1, hwd.2.2.1, hwd.2.2.2.mono (by decide) (by decide)⟩
          · refine pq109 _ ?_
            show Steps p.tables e below (T87.setTop (mkF m 147 #[.val (.int p1), .val (.int p2), .val (.int p3), .val (.int p4), .val (.int p5), .val (.int (3 : Int32)), .val (.ref b1o), .val (.ref o78), .val (.int (1 : Int32)), .unset, .unset, .unset, .unset] [(.int (35 : Int32)), (.int r6)])) _
            refine XS.icmpNo X87.here hx rfl (hb hby at_147) rfl (feq hc147).1 ?_
            refine XS.iconst X87.here hx rfl (hb hby at_150) ?_
            refine XS.goto X87.here hx rfl (pc0 := 151) (pc' := 155) rfl (hb hby at_151) (by decide) (by decide) ?_
            refine XS.istore X87.here hx rfl (hb hby at_155) rfl (l' := #[.val (.int p1), .val (.int p2), .val (.int p3), .val (.int p4), .val (.int p5), .val (.int (3 : Int32)), .val (.ref b1o), .val (.ref o78), .val (.int (1 : Int32)), .val (.int (1 : Int32)), .unset, .unset, .unset]) rfl ?_
            refine XS.aload X87.here hx rfl (hb hby at_157) rfl rfl ?_
            refine st113 _ ?_
            refine XS.astore X113.here hx rfl (hb hby at_162) rfl rfl (l' := #[.val (.int p1), .val (.int p2), .val (.int p3), .val (.int p4), .val (.int p5), .val (.int (3 : Int32)), .val (.ref b1o), .val (.ref o78), .val (.int (1 : Int32)), .val (.int (1 : Int32)), .val (.ref o113), .unset, .unset]) rfl ?_
            refine XS.aload X113.here hx rfl (hb hby at_164) rfl rfl ?_
            refine XS.ifnonnullYes X113.here hx rfl (pc0 := 166) (pc' := 171) rfl (hb hby at_166) rfl (by decide) (by decide) ?_
            refine XS.iload X113.here hx rfl (hb hby at_171) rfl ?_
            refine XS.ifYes X113.here hx rfl (pc0 := 173) (pc' := 190) rfl (hb hby at_173) rfl ((if0 _ _).trans (feq (by decide)).2) (by decide) (by decide) ?_
            refine st115 _ ?_
            show Steps p.tables e below (T115.setTop (mkF m 294 #[.val (.int p1), .val (.int p2), .val (.int p3), .val (.int p4), .val (.int p5), .val (.int (3 : Int32)), .val (.ref b1o), .val (.ref o78), .val (.int (1 : Int32)), .val (.int (1 : Int32)), .val (.ref o113), .val (.ref x113), .val (.int (2 : Int32))] [(.int (1 : Int32))])) _
            exact retN X115 hx (t := .boolean) Bd.returns (by simp) (hb hby at_294) hr
          · show Qrm0 Z p1 p2 p3 p4 p5 G1 gv eo h0 n0 _ T115.heap _
            exact ⟨rfl, N115⟩
    · skip
      obtain ⟨cl118, Ar118, qk118, Sz118, Nn118, Hh118, Gg118⟩ := id (f80)
      have hin119 : ¬ ((0 : Int32) < 0 ∨ cl118.slots.size ≤ ((0 : Int32)).toNatClampNeg) := inb_of Sz118 ⟨by decide, by decide⟩
      have hat119 : cl118.slots[((0 : Int32)).toNatClampNeg]? = some (.int r3) := Has.at Hh118 hin119 rfl
      have pq120 : ∀ t, Steps p.tables e below (T83.setTop (mkF m 147 #[.val (.int p1), .val (.int p2), .val (.int p3), .val (.int p4), .val (.int p5), .val (.int (3 : Int32)), .val (.ref b1o), .val (.ref o78), .val (.int (0 : Int32)), .unset, .unset, .unset, .unset] [(.int (35 : Int32)), (.int r3)])) t → Steps p.tables e below (s₁.setTop (mkF m 0 #[.val (.int p1), .val (.int p2), .val (.int p3), .val (.int p4), .val (.int p5), .unset, .unset, .unset, .unset, .unset, .unset, .unset, .unset] [])) t := by
        intro t kt
        refine pq84 _ ?_
        show Steps p.tables e below (T83.setTop (mkF m 70 #[.val (.int p1), .val (.int p2), .val (.int p3), .val (.int p4), .val (.int p5), .val (.int (3 : Int32)), .val (.ref b1o), .val (.ref o78), .val (.int (0 : Int32)), .unset, .unset, .unset, .unset] [(.int r83)])) _
        rw [(hr83.trans (if_neg hB0))]
        show Steps p.tables e below (T83.setTop (mkF m 70 #[.val (.int p1), .val (.int p2), .val (.int p3), .val (.int p4), .val (.int p5), .val (.int (3 : Int32)), .val (.ref b1o), .val (.ref o78), .val (.int (0 : Int32)), .unset, .unset, .unset, .unset] [(.int (0 : Int32))])) _
        refine XS.ifYes X83.here hx rfl (pc0 := 70) (pc' := 133) rfl (hb hby at_70) rfl ((if0 _ _).trans (teq (by decide)).1) (by decide) (by decide) ?_
        refine XS.iload X83.here hx rfl (hb hby at_133) rfl ?_
        refine XS.iload X83.here hx rfl (hb hby at_135) rfl ?_
        refine XS.icmpNo X83.here hx rfl (hb hby at_137) rfl (tlt (by decide)).2.1 ?_
        refine XS.aload X83.here hx rfl (hb hby at_140) rfl rfl ?_
        refine XS.iload X83.here hx rfl (hb hby at_142) rfl ?_
        refine X83.caload hx (j := (0 : Int32)) (v := (.int r3)) (by rw [e83]; exact Ar118.1) (State.isArrayOf_alike hZ.alike Ar118.2.1) Ar118.2.2 hin119 hat119 (g := (mkF m 144 #[.val (.int p1), .val (.int p2), .val (.int p3), .val (.int p4), .val (.int p5), .val (.int (3 : Int32)), .val (.ref b1o), .val (.ref o78), .val (.int (0 : Int32)), .unset, .unset, .unset, .unset] [(.int (0 : Int32)), (.ref b1o)])) rfl rfl (hb hby at_144) _ ?_
        refine XS.bipush X83.here hx rfl (hb hby at_145) ?_
        exact kt
      by_cases hc147 : r3 = (35 : Int32)
      · have f122 := (f79.keep KC78 all0)
        obtain ⟨_, _, ⟨T121, Lq121, kq121, nq121⟩, -, X121, ⟨Lc121, hQ121, lq121, yq121, zq121⟩, st121⟩ := Jvm.LawKit.callS X83 hx (y := (⟨"com/example/wrasse/wrasse/io/LineFiles", "content", "(Ljava/lang/String;)Ljava/util/Optional;"⟩ : MethodName)) hown (mvT hZ (hw _ (own_w 31 rfl))) (mvT hZ (hw _ (own_w 32 rfl))) (mvT hZ (hw _ (own_w 33 rfl))) (mvT hZ (hw _ (own_w 34 rfl))) (by decide) (backOf (W := 0) (rKe l Z a0 hw [] o78 [r3, r6, r9] 0 G1 gv eo T78.heap n0 Z78 f122 O_S hgv O_2 P5 O_A O_H O_W TS78 (Nat.le_of_ble_eq_true rfl) (own_cons hr3 (own_cons hr6 (own_cons hr9 own_nil))) own_bef0 (Or.inr ⟨(Nat.le_of_ble_eq_true rfl), hc147⟩) O_E) hZ (hw _ (own_w 34 rfl)) (hw _ (own_w 33 rfl)) (by decide) (by decide)) (g := (mkF m 159 #[.val (.int p1), .val (.int p2), .val (.int p3), .val (.int p4), .val (.int p5), .val (.int (3 : Int32)), .val (.ref b1o), .val (.ref o78), .val (.int (0 : Int32)), .val (.int (0 : Int32)), .unset, .unset, .unset] [(.ref o78)])) rfl (by rw [hml]; rfl) (argsL := [(.ref o78)]) (rest := []) (lenOf pd_35 rfl) rfl (by show 2 * 0 + _ ≤ _; exact Nat.le_of_eq rfl) (hb hby at_159) (fun _ _ => ⟨rfl, e83, (by decide : 5 + 0 ≤ _), (by decide : 35 + 0 ≤ _)⟩)
        dsimp only [Pt.U, Pt.locs, Pt.cells, Pt.slots] at X121 lq121 yq121 zq121 st121 hQ121
        subst lq121 yq121 zq121
        obtain ⟨rfl, N121q, e121⟩ := hQ121
        have N121 := Fr.app N83 N121q
        obtain ⟨cq123, kz123, q123a, q123b, q123c⟩ := isOf hZ e121 (O_EE.ext f122.2)
        obtain ⟨_, _, ⟨T123, Lq123, kq123, nq123⟩, -, X123, ⟨Lc123, hQ123, lq123, yq123, zq123⟩, st123⟩ := X121.virtualBack hx (y := (⟨"java/util/Optional", "isPresent", "()Z"⟩ : MethodName)) (z := (⟨"java/util/Optional", "isPresent", "()Z"⟩ : MethodName)) hown (mvT hZ (hw _ (own_w 51 rfl))) (mvT hZ (hw _ (own_w 52 rfl))) (notFace_of_selects (args := #[]) (mvT hZ (hw _ (own_w 54 rfl)))) (mvT hZ (hw _ (own_w 54 rfl))) (mvT hZ (hw _ (own_w 53 rfl))) (by decide) (backOf (W := 0) (rOp0 l Z a0 hw [] eo  T78.heap n0 Z78 (O_EV.ext f122.2)) hZ (hw _ (own_w 55 rfl)) (hw _ (own_w 48 rfl)) (by decide) (by decide)) q123a q123c (g := (mkF m 178 #[.val (.int p1), .val (.int p2), .val (.int p3), .val (.int p4), .val (.int p5), .val (.int (3 : Int32)), .val (.ref b1o), .val (.ref o78), .val (.int (0 : Int32)), .val (.int (0 : Int32)), .val (.ref eo), .unset, .unset] [(.ref eo)])) rfl (by rw [hml]; rfl) (Steps.refl _) (argsL := []) (rest := []) (lenOf pd_7 rfl) rfl (by show 2 * 0 + _ ≤ _; exact Nat.le_of_eq rfl) (hb hby at_178) (fun _ _ => ⟨rfl, e121, (by decide : 5 + 0 ≤ _), (by decide : 35 + 0 ≤ _)⟩)
        dsimp only [Pt.U, Pt.locs, Pt.cells, Pt.slots] at X123 lq123 yq123 zq123 st123 hQ123
        subst lq123 yq123 zq123
        obtain ⟨r123, hr123, rfl, N123q, e123⟩ := hQ123
        have N123 := Fr.app N121 N123q
        subst hr123
        obtain ⟨fs, hr, hrun, hended, hwd⟩ := Jvm.Stand.leaveW (s := s) (vm₁ := s.vm) X123 hS0 (Nat.le_trans (Nat.le_trans (Nat.le_trans (Nat.le_trans (Nat.le_trans (Nat.le_trans (Nat.le_trans (Nat.le_of_eq (congrArg Array.size hh)) E1.1) (Nat.le_of_eq W5.size.symm)) (Nat.le_of_eq W8.size.symm)) (Nat.le_of_eq W11.size.symm)) (Nat.le_of_eq W14.size.symm)) KC78.1) (Nat.le_of_eq (congrArg Array.size e123).symm)) (v := some (.int (1 : Int32))) (fun h => by rw [Bd.returns] at h; cases h)
        refine ⟨_, _, pre0 _ ?_, hrun, hended, _, _, rfl, ?_, hwd.1, hwd.2.1, hwd.2.2.1, hwd.2.2.2.mono (by decide) (by decide)⟩
        · refine pq120 _ ?_
          show Steps p.tables e below (T83.setTop (mkF m 147 #[.val (.int p1), .val (.int p2), .val (.int p3), .val (.int p4), .val (.int p5), .val (.int (3 : Int32)), .val (.ref b1o), .val (.ref o78), .val (.int (0 : Int32)), .unset, .unset, .unset, .unset] [(.int (35 : Int32)), (.int r3)])) _
          refine XS.icmpYes X83.here hx rfl (pc0 := 147) (pc' := 154) rfl (hb hby at_147) rfl (teq hc147).1 (by decide) (by decide) ?_
          refine XS.iconst X83.here hx rfl (hb hby at_154) ?_
          refine XS.istore X83.here hx rfl (hb hby at_155) rfl (l' := #[.val (.int p1), .val (.int p2), .val (.int p3), .val (.int p4), .val (.int p5), .val (.int (3 : Int32)), .val (.ref b1o), .val (.ref o78), .val (.int (0 : Int32)), .val (.int (0 : Int32)), .unset, .unset, .unset]) rfl ?_
          refine XS.aload X83.here hx rfl (hb hby at_157) rfl rfl ?_
          refine st121 _ ?_
          refine XS.astore X121.here hx rfl (hb hby at_162) rfl rfl (l' := #[.val (.int p1), .val (.int p2), .val (.int p3), .val (.int p4), .val (.int p5), .val (.int (3 : Int32)), .val (.ref b1o), .val (.ref o78), .val (.int (0 : Int32)), .val (.int (0 : Int32)), .val (.ref eo), .unset, .unset]) rfl ?_
          refine XS.aload X121.here hx rfl (hb hby at_164) rfl rfl ?_
          refine XS.ifnonnullYes X121.here hx rfl (pc0 := 166) (pc' := 171) rfl (hb hby at_166) rfl (by decide) (by decide) ?_
          refine XS.iload X121.here hx rfl (hb hby at_171) rfl ?_
          refine XS.ifNo X121.here hx rfl (hb hby at_173) rfl ((if0 _ _).trans (teq (by decide)).2) ?_
          refine XS.aload X121.here hx rfl (hb hby at_176) rfl rfl ?_
          refine st123.trans ?_
          refine XS.ifNo X123.here hx rfl (hb hby at_181) rfl ((if0 _ _).trans (teq (by decide)).2) ?_
          refine XS.iconst X123.here hx rfl (hb hby at_184) ?_
          refine XS.goto X123.here hx rfl (pc0 := 185) (pc' := 189) rfl (hb hby at_185) (by decide) (by decide) ?_
          show Steps p.tables e below (T123.setTop (mkF m 189 #[.val (.int p1), .val (.int p2), .val (.int p3), .val (.int p4), .val (.int p5), .val (.int (3 : Int32)), .val (.ref b1o), .val (.ref o78), .val (.int (0 : Int32)), .val (.int (0 : Int32)), .val (.ref eo), .unset, .unset] [(.int (1 : Int32))])) _
          exact retN X123 hx (t := .boolean) Bd.returns (by simp) (hb hby at_189) hr
        · show Qrm0 Z p1 p2 p3 p4 p5 G1 gv eo h0 n0 _ T123.heap _
          exact ⟨rfl, N123⟩
      · have f125 := (f79.keep KC78 all0)
        obtain ⟨_, _, ⟨T124, Lq124, kq124, nq124⟩, -, X124, ⟨Lc124, hQ124, lq124, yq124, zq124⟩, st124⟩ := Jvm.LawKit.callS X83 hx (y := (⟨"com/example/wrasse/wrasse/io/LineFiles", "content", "(Ljava/lang/String;)Ljava/util/Optional;"⟩ : MethodName)) hown (mvT hZ (hw _ (own_w 31 rfl))) (mvT hZ (hw _ (own_w 32 rfl))) (mvT hZ (hw _ (own_w 33 rfl))) (mvT hZ (hw _ (own_w 34 rfl))) (by decide) (backOf (W := 0) (rKp l Z a0 hw [] o78 [r3, r6, r9] 0 G1 gv eo [r3, r6, r9] T78.heap n0 Z78 f125 O_S hgv O_2 P5 O_A O_H O_W TS78 (Nat.le_of_ble_eq_true rfl) (own_cons hr3 (own_cons hr6 (own_cons hr9 own_nil))) own_bef0 O_E ⟨(Nat.le_of_ble_eq_true rfl), rfl⟩ (Nat.le_of_ble_eq_true rfl) rfl hB0 hc147) hZ (hw _ (own_w 34 rfl)) (hw _ (own_w 33 rfl)) (by decide) (by decide)) (g := (mkF m 159 #[.val (.int p1), .val (.int p2), .val (.int p3), .val (.int p4), .val (.int p5), .val (.int (3 : Int32)), .val (.ref b1o), .val (.ref o78), .val (.int (0 : Int32)), .val (.int (1 : Int32)), .unset, .unset, .unset] [(.ref o78)])) rfl (by rw [hml]; rfl) (argsL := [(.ref o78)]) (rest := []) (lenOf pd_35 rfl) rfl (by show 2 * 0 + _ ≤ _; exact Nat.le_of_eq rfl) (hb hby at_159) (fun _ _ => ⟨rfl, e83, (by decide : 5 + 4 ≤ _), (by decide : 35 + 29 ≤ _)⟩)
        dsimp only [Pt.U, Pt.locs, Pt.cells, Pt.slots] at X124 lq124 yq124 zq124 st124 hQ124
        subst lq124 yq124 zq124
        obtain ⟨o124, x124, rfl, N124q, KC124, uE124, uV124, TS124⟩ := hQ124
        have N124 := Fr.app N83 N124q
        have Z124 : n0 ≤ T124.heap.size := Nat.le_trans Z78 KC124.1
        have f127 := (f125.keep KC124 all0)
        have f128 := (f80.keep KC124 nin0)
        obtain ⟨T126, L126, X126, e126, N126, st126⟩ := own_tail (ct := [r3, r6, r9]) (sq := 0) (vs := [(.int r3), (.int r6), (.int r9), (.int r12)]) (by decide) (by decide) (by decide) (by decide) hx hZ hw hby hml hown f127 O_S hgv O_2 P5 O_A O_H O_W Z124 TS124 (Nat.le_of_ble_eq_true rfl) (own_cons hr3 (own_cons hr6 (own_cons hr9 own_nil))) uE124 uV124 f128 (by decide : 0 + 3 ≤ 4) (own_befS (P := fun k => ([.int r3, .int r6, .int r9, .int r12] : List Value).getD (0 + k) (.int (0 : Int32)) = .int (([r3, r6, r9] : List Int32).getD k 0)) (own_befS (P := fun k => ([.int r3, .int r6, .int r9, .int r12] : List Value).getD (0 + k) (.int (0 : Int32)) = .int (([r3, r6, r9] : List Int32).getD k 0)) (own_befS (P := fun k => ([.int r3, .int r6, .int r9, .int r12] : List Value).getD (0 + k) (.int (0 : Int32)) = .int (([r3, r6, r9] : List Int32).getD k 0)) own_bef0 rfl) rfl) rfl) _ _ X124 rfl N124
        obtain ⟨fs, hr, hrun, hended, hwd⟩ := Jvm.Stand.leaveW (s := s) (vm₁ := s.vm) X126 hS0 (Nat.le_trans (Nat.le_trans (Nat.le_trans (Nat.le_trans (Nat.le_trans (Nat.le_trans (Nat.le_trans (Nat.le_trans (Nat.le_of_eq (congrArg Array.size hh)) E1.1) (Nat.le_of_eq W5.size.symm)) (Nat.le_of_eq W8.size.symm)) (Nat.le_of_eq W11.size.symm)) (Nat.le_of_eq W14.size.symm)) KC78.1) KC124.1) (Nat.le_of_eq (congrArg Array.size e126).symm)) (v := some (.int (1 : Int32))) (fun h => by rw [Bd.returns] at h; cases h)
        refine ⟨_, _, pre0 _ ?_, hrun, hended, _, _, rfl, ?_, hwd.1, hwd.2.1, hwd.2.2.1, hwd.2.2.2.mono (by decide) (by decide)⟩
        · refine pq120 _ ?_
          show Steps p.tables e below (T83.setTop (mkF m 147 #[.val (.int p1), .val (.int p2), .val (.int p3), .val (.int p4), .val (.int p5), .val (.int (3 : Int32)), .val (.ref b1o), .val (.ref o78), .val (.int (0 : Int32)), .unset, .unset, .unset, .unset] [(.int (35 : Int32)), (.int r3)])) _
          refine XS.icmpNo X83.here hx rfl (hb hby at_147) rfl (feq hc147).1 ?_
          refine XS.iconst X83.here hx rfl (hb hby at_150) ?_
          refine XS.goto X83.here hx rfl (pc0 := 151) (pc' := 155) rfl (hb hby at_151) (by decide) (by decide) ?_
          refine XS.istore X83.here hx rfl (hb hby at_155) rfl (l' := #[.val (.int p1), .val (.int p2), .val (.int p3), .val (.int p4), .val (.int p5), .val (.int (3 : Int32)), .val (.ref b1o), .val (.ref o78), .val (.int (0 : Int32)), .val (.int (1 : Int32)), .unset, .unset, .unset]) rfl ?_
          refine XS.aload X83.here hx rfl (hb hby at_157) rfl rfl ?_
          refine st124 _ ?_
          refine XS.astore X124.here hx rfl (hb hby at_162) rfl rfl (l' := #[.val (.int p1), .val (.int p2), .val (.int p3), .val (.int p4), .val (.int p5), .val (.int (3 : Int32)), .val (.ref b1o), .val (.ref o78), .val (.int (0 : Int32)), .val (.int (1 : Int32)), .val (.ref o124), .unset, .unset]) rfl ?_
          refine XS.aload X124.here hx rfl (hb hby at_164) rfl rfl ?_
          refine XS.ifnonnullYes X124.here hx rfl (pc0 := 166) (pc' := 171) rfl (hb hby at_166) rfl (by decide) (by decide) ?_
          refine XS.iload X124.here hx rfl (hb hby at_171) rfl ?_
          refine XS.ifYes X124.here hx rfl (pc0 := 173) (pc' := 190) rfl (hb hby at_173) rfl ((if0 _ _).trans (feq (by decide)).2) (by decide) (by decide) ?_
          refine st126 _ ?_
          show Steps p.tables e below (T126.setTop (mkF m 294 #[.val (.int p1), .val (.int p2), .val (.int p3), .val (.int p4), .val (.int p5), .val (.int (3 : Int32)), .val (.ref b1o), .val (.ref o78), .val (.int (0 : Int32)), .val (.int (1 : Int32)), .val (.ref o124), .val (.ref x124), .val (.int (3 : Int32))] [(.int (1 : Int32))])) _
          exact retN X126 hx (t := .boolean) Bd.returns (by simp) (hb hby at_294) hr
        · show Qrm0 Z p1 p2 p3 p4 p5 G1 gv eo h0 n0 _ T126.heap _
          exact ⟨rfl, N126⟩
  · skip
    have f130 := (((((X00.ext E1).wr W5 b1).wr W8 b1).wr W11 b1).wr W14 b1)
    obtain ⟨_, _, ⟨T129, Lq129, kq129, nq129⟩, -, X129, ⟨Lc129, hQ129, lq129, yq129, zq129⟩, st129⟩ := Jvm.LawKit.callS X14 hx (y := (⟨"com/example/wrasse/wrasse/io/LineFilesContentPinLaw", "make", "(I[C)Ljava/lang/String;"⟩ : MethodName)) hown (mvT hZ (hw _ (own_w 7 rfl))) (mvT hZ (hw _ (own_w 8 rfl))) (mvT hZ (hw _ (own_w 4 rfl))) (mvT hZ (hw _ (own_w 9 rfl))) (by decide) (backOf (W := 0) (rMk4 l Z a0 hw [] b1o r3 r6 r9 r12 ck1 G1 h14 n0 Z14 f130 O_2 P5 O_A O_H O_W VA hr3 hr6 hr9 hr12) hZ (hw _ (own_w 9 rfl)) (hw _ (own_w 4 rfl)) (by decide) (by decide)) (g := (mkF m 50 #[.val (.int p1), .val (.int p2), .val (.int p3), .val (.int p4), .val (.int p5), .val (.int (4 : Int32)), .val (.ref b1o), .unset, .unset, .unset, .unset, .unset, .unset] [(.ref b1o), (.int (4 : Int32))])) rfl (by rw [hml]; rfl) (argsL := [(.int (4 : Int32)), (.ref b1o)]) (rest := []) (lenOf pd_34 rfl) rfl (by show 2 * 0 + _ ≤ _; exact Nat.le_of_eq rfl) (hb hby at_50) (fun _ _ => ⟨rfl, e14, (by decide : 1 + 3 ≤ _), (by decide : 4 + 28 ≤ _)⟩)
    dsimp only [Pt.U, Pt.locs, Pt.cells, Pt.slots] at X129 lq129 yq129 zq129 st129 hQ129
    subst lq129 yq129 zq129
    obtain ⟨o129, rfl, N129q, KC129, TS129⟩ := hQ129
    have N129 := Fr.app N14 N129q
    have Z129 : n0 ≤ T129.heap.size := Nat.le_trans Z14 KC129.1
    have f131 := (VA.keep KC129 nin0)
    obtain ⟨cl132, Ar132, qk132, Sz132, Nn132, Hh132, Gg132⟩ := id (f131)
    have hin133 : ¬ ((0 : Int32) < 0 ∨ cl132.slots.size ≤ ((0 : Int32)).toNatClampNeg) := inb_of Sz132 ⟨by decide, by decide⟩
    have hat133 : cl132.slots[((0 : Int32)).toNatClampNeg]? = some (.int r3) := Has.at Hh132 hin133 rfl
    obtain ⟨_, _, ⟨T134, Lq134, kq134, nq134⟩, -, X134, ⟨Lc134, hQ134, lq134, yq134, zq134⟩, st134⟩ := Jvm.LawKit.callS X129 hx (y := (⟨"com/example/wrasse/wrasse/io/LineFilesContentPinLaw", "blank", "(C)Z"⟩ : MethodName)) hown (mvT hZ (hw _ (own_w 68 rfl))) (mvT hZ (hw _ (own_w 69 rfl))) (mvT hZ (hw _ (own_w 4 rfl))) (mvT hZ (hw _ (own_w 70 rfl))) (by decide) (backOf (W := 0) (rBl l Z a0 hw [] r3  T129.heap n0 Z129 ) hZ (hw _ (own_w 70 rfl)) (hw _ (own_w 4 rfl)) (by decide) (by decide)) (g := (mkF m 67 #[.val (.int p1), .val (.int p2), .val (.int p3), .val (.int p4), .val (.int p5), .val (.int (4 : Int32)), .val (.ref b1o), .val (.ref o129), .val (.int (0 : Int32)), .unset, .unset, .unset, .unset] [(.int r3)])) rfl (by rw [hml]; rfl) (argsL := [(.int r3)]) (rest := []) (lenOf pd_36 rfl) rfl (by show 2 * 0 + _ ≤ _; exact Nat.le_of_eq rfl) (hb hby at_67) (fun _ _ => ⟨rfl, rfl, (by decide : 4 + 0 ≤ _), (by decide : 32 + 0 ≤ _)⟩)
    dsimp only [Pt.U, Pt.locs, Pt.cells, Pt.slots] at X134 lq134 yq134 zq134 st134 hQ134
    subst lq134 yq134 zq134
    obtain ⟨r134, hr134, rfl, N134q, e134⟩ := hQ134
    have N134 := Fr.app N129 N134q
    have pq135 : ∀ t, Steps p.tables e below (T134.setTop (mkF m 70 #[.val (.int p1), .val (.int p2), .val (.int p3), .val (.int p4), .val (.int p5), .val (.int (4 : Int32)), .val (.ref b1o), .val (.ref o129), .val (.int (0 : Int32)), .unset, .unset, .unset, .unset] [(.int r134)])) t → Steps p.tables e below (s₁.setTop (mkF m 0 #[.val (.int p1), .val (.int p2), .val (.int p3), .val (.int p4), .val (.int p5), .unset, .unset, .unset, .unset, .unset, .unset, .unset, .unset] [])) t := by
      intro t kt
      refine pq15 _ ?_
      show Steps p.tables e below (T14.setTop (mkF m 46 #[.val (.int p1), .val (.int p2), .val (.int p3), .val (.int p4), .val (.int p5), .val (.int ((p1 &&& (2147483647 : Int32)) % (5 : Int32))), .val (.ref b1o), .unset, .unset, .unset, .unset, .unset, .unset] [])) _
      rw [hI]
      show Steps p.tables e below (T14.setTop (mkF m 46 #[.val (.int p1), .val (.int p2), .val (.int p3), .val (.int p4), .val (.int p5), .val (.int (4 : Int32)), .val (.ref b1o), .unset, .unset, .unset, .unset, .unset, .unset] [])) _
      refine XS.iload X14.here hx rfl (hb hby at_46) rfl ?_
      refine XS.aload X14.here hx rfl (hb hby at_48) rfl rfl ?_
      refine st129 _ ?_
      refine XS.astore X129.here hx rfl (hb hby at_53) rfl rfl (l' := #[.val (.int p1), .val (.int p2), .val (.int p3), .val (.int p4), .val (.int p5), .val (.int (4 : Int32)), .val (.ref b1o), .val (.ref o129), .unset, .unset, .unset, .unset, .unset]) rfl ?_
      refine XS.iconst X129.here hx rfl (hb hby at_55) ?_
      refine XS.istore X129.here hx rfl (hb hby at_56) rfl (l' := #[.val (.int p1), .val (.int p2), .val (.int p3), .val (.int p4), .val (.int p5), .val (.int (4 : Int32)), .val (.ref b1o), .val (.ref o129), .val (.int (0 : Int32)), .unset, .unset, .unset, .unset]) rfl ?_
      refine XS.iload X129.here hx rfl (hb hby at_58) rfl ?_
      refine XS.ifNo X129.here hx rfl (hb hby at_60) rfl ((if0 _ _).trans (tlt (by decide)).2.2.2) ?_
      refine XS.aload X129.here hx rfl (hb hby at_63) rfl rfl ?_
      refine XS.iconst X129.here hx rfl (hb hby at_65) ?_
      refine X129.caload hx (j := (0 : Int32)) (v := (.int r3)) Ar132.1 (State.isArrayOf_alike hZ.alike Ar132.2.1) Ar132.2.2 hin133 hat133 (g := (mkF m 66 #[.val (.int p1), .val (.int p2), .val (.int p3), .val (.int p4), .val (.int p5), .val (.int (4 : Int32)), .val (.ref b1o), .val (.ref o129), .val (.int (0 : Int32)), .unset, .unset, .unset, .unset] [(.int (0 : Int32)), (.ref b1o)])) rfl rfl (hb hby at_66) _ ?_
      refine st134 _ ?_
      exact kt
    by_cases hB0 : (r3 = (32 : Int32) ∨ r3 = (9 : Int32))
    · skip
      obtain ⟨cl136, Ar136, qk136, Sz136, Nn136, Hh136, Gg136⟩ := id (f131)
      have hin137 : ¬ ((1 : Int32) < 0 ∨ cl136.slots.size ≤ ((1 : Int32)).toNatClampNeg) := inb_of Sz136 ⟨by decide, by decide⟩
      have hat137 : cl136.slots[((1 : Int32)).toNatClampNeg]? = some (.int r6) := Has.at Hh136 hin137 rfl
      obtain ⟨_, _, ⟨T138, Lq138, kq138, nq138⟩, -, X138, ⟨Lc138, hQ138, lq138, yq138, zq138⟩, st138⟩ := Jvm.LawKit.callS X134 hx (y := (⟨"com/example/wrasse/wrasse/io/LineFilesContentPinLaw", "blank", "(C)Z"⟩ : MethodName)) hown (mvT hZ (hw _ (own_w 68 rfl))) (mvT hZ (hw _ (own_w 69 rfl))) (mvT hZ (hw _ (own_w 4 rfl))) (mvT hZ (hw _ (own_w 70 rfl))) (by decide) (backOf (W := 0) (rBl l Z a0 hw [] r6  T129.heap n0 Z129 ) hZ (hw _ (own_w 70 rfl)) (hw _ (own_w 4 rfl)) (by decide) (by decide)) (g := (mkF m 86 #[.val (.int p1), .val (.int p2), .val (.int p3), .val (.int p4), .val (.int p5), .val (.int (4 : Int32)), .val (.ref b1o), .val (.ref o129), .val (.int (1 : Int32)), .unset, .unset, .unset, .unset] [(.int r6)])) rfl (by rw [hml]; rfl) (argsL := [(.int r6)]) (rest := []) (lenOf pd_36 rfl) rfl (by show 2 * 0 + _ ≤ _; exact Nat.le_of_eq rfl) (hb hby at_86) (fun _ _ => ⟨rfl, e134, (by decide : 4 + 0 ≤ _), (by decide : 32 + 0 ≤ _)⟩)
      dsimp only [Pt.U, Pt.locs, Pt.cells, Pt.slots] at X138 lq138 yq138 zq138 st138 hQ138
      subst lq138 yq138 zq138
      obtain ⟨r138, hr138, rfl, N138q, e138⟩ := hQ138
      have N138 := Fr.app N134 N138q
      have pq139 : ∀ t, Steps p.tables e below (T138.setTop (mkF m 89 #[.val (.int p1), .val (.int p2), .val (.int p3), .val (.int p4), .val (.int p5), .val (.int (4 : Int32)), .val (.ref b1o), .val (.ref o129), .val (.int (1 : Int32)), .unset, .unset, .unset, .unset] [(.int r138)])) t → Steps p.tables e below (s₁.setTop (mkF m 0 #[.val (.int p1), .val (.int p2), .val (.int p3), .val (.int p4), .val (.int p5), .unset, .unset, .unset, .unset, .unset, .unset, .unset, .unset] [])) t := by
        intro t kt
        refine pq135 _ ?_
        show Steps p.tables e below (T134.setTop (mkF m 70 #[.val (.int p1), .val (.int p2), .val (.int p3), .val (.int p4), .val (.int p5), .val (.int (4 : Int32)), .val (.ref b1o), .val (.ref o129), .val (.int (0 : Int32)), .unset, .unset, .unset, .unset] [(.int r134)])) _
        rw [(hr134.trans (if_pos hB0))]
        show Steps p.tables e below (T134.setTop (mkF m 70 #[.val (.int p1), .val (.int p2), .val (.int p3), .val (.int p4), .val (.int p5), .val (.int (4 : Int32)), .val (.ref b1o), .val (.ref o129), .val (.int (0 : Int32)), .unset, .unset, .unset, .unset] [(.int (1 : Int32))])) _
        refine XS.ifNo X134.here hx rfl (hb hby at_70) rfl ((if0 _ _).trans (feq (by decide)).1) ?_
        refine XS.iconst X134.here hx rfl (hb hby at_73) ?_
        refine XS.istore X134.here hx rfl (hb hby at_74) rfl (l' := #[.val (.int p1), .val (.int p2), .val (.int p3), .val (.int p4), .val (.int p5), .val (.int (4 : Int32)), .val (.ref b1o), .val (.ref o129), .val (.int (1 : Int32)), .unset, .unset, .unset, .unset]) rfl ?_
        refine XS.iload X134.here hx rfl (hb hby at_76) rfl ?_
        refine XS.iconst X134.here hx rfl (hb hby at_78) ?_
        refine XS.icmpNo X134.here hx rfl (hb hby at_79) rfl (tlt (by decide)).2.2.2 ?_
        refine XS.aload X134.here hx rfl (hb hby at_82) rfl rfl ?_
        refine XS.iconst X134.here hx rfl (hb hby at_84) ?_
        refine X134.caload hx (j := (1 : Int32)) (v := (.int r6)) (by rw [e134]; exact Ar136.1) (State.isArrayOf_alike hZ.alike Ar136.2.1) Ar136.2.2 hin137 hat137 (g := (mkF m 85 #[.val (.int p1), .val (.int p2), .val (.int p3), .val (.int p4), .val (.int p5), .val (.int (4 : Int32)), .val (.ref b1o), .val (.ref o129), .val (.int (1 : Int32)), .unset, .unset, .unset, .unset] [(.int (1 : Int32)), (.ref b1o)])) rfl rfl (hb hby at_85) _ ?_
        refine st138 _ ?_
        exact kt
      by_cases hB1 : (r6 = (32 : Int32) ∨ r6 = (9 : Int32))
      · skip
        obtain ⟨cl140, Ar140, qk140, Sz140, Nn140, Hh140, Gg140⟩ := id (f131)
        have hin141 : ¬ ((2 : Int32) < 0 ∨ cl140.slots.size ≤ ((2 : Int32)).toNatClampNeg) := inb_of Sz140 ⟨by decide, by decide⟩
        have hat141 : cl140.slots[((2 : Int32)).toNatClampNeg]? = some (.int r9) := Has.at Hh140 hin141 rfl
        obtain ⟨_, _, ⟨T142, Lq142, kq142, nq142⟩, -, X142, ⟨Lc142, hQ142, lq142, yq142, zq142⟩, st142⟩ := Jvm.LawKit.callS X138 hx (y := (⟨"com/example/wrasse/wrasse/io/LineFilesContentPinLaw", "blank", "(C)Z"⟩ : MethodName)) hown (mvT hZ (hw _ (own_w 68 rfl))) (mvT hZ (hw _ (own_w 69 rfl))) (mvT hZ (hw _ (own_w 4 rfl))) (mvT hZ (hw _ (own_w 70 rfl))) (by decide) (backOf (W := 0) (rBl l Z a0 hw [] r9  T129.heap n0 Z129 ) hZ (hw _ (own_w 70 rfl)) (hw _ (own_w 4 rfl)) (by decide) (by decide)) (g := (mkF m 105 #[.val (.int p1), .val (.int p2), .val (.int p3), .val (.int p4), .val (.int p5), .val (.int (4 : Int32)), .val (.ref b1o), .val (.ref o129), .val (.int (2 : Int32)), .unset, .unset, .unset, .unset] [(.int r9)])) rfl (by rw [hml]; rfl) (argsL := [(.int r9)]) (rest := []) (lenOf pd_36 rfl) rfl (by show 2 * 0 + _ ≤ _; exact Nat.le_of_eq rfl) (hb hby at_105) (fun _ _ => ⟨rfl, e138, (by decide : 4 + 0 ≤ _), (by decide : 32 + 0 ≤ _)⟩)
        dsimp only [Pt.U, Pt.locs, Pt.cells, Pt.slots] at X142 lq142 yq142 zq142 st142 hQ142
        subst lq142 yq142 zq142
        obtain ⟨r142, hr142, rfl, N142q, e142⟩ := hQ142
        have N142 := Fr.app N138 N142q
        have pq143 : ∀ t, Steps p.tables e below (T142.setTop (mkF m 108 #[.val (.int p1), .val (.int p2), .val (.int p3), .val (.int p4), .val (.int p5), .val (.int (4 : Int32)), .val (.ref b1o), .val (.ref o129), .val (.int (2 : Int32)), .unset, .unset, .unset, .unset] [(.int r142)])) t → Steps p.tables e below (s₁.setTop (mkF m 0 #[.val (.int p1), .val (.int p2), .val (.int p3), .val (.int p4), .val (.int p5), .unset, .unset, .unset, .unset, .unset, .unset, .unset, .unset] [])) t := by
          intro t kt
          refine pq139 _ ?_
          show Steps p.tables e below (T138.setTop (mkF m 89 #[.val (.int p1), .val (.int p2), .val (.int p3), .val (.int p4), .val (.int p5), .val (.int (4 : Int32)), .val (.ref b1o), .val (.ref o129), .val (.int (1 : Int32)), .unset, .unset, .unset, .unset] [(.int r138)])) _
          rw [(hr138.trans (if_pos hB1))]
          show Steps p.tables e below (T138.setTop (mkF m 89 #[.val (.int p1), .val (.int p2), .val (.int p3), .val (.int p4), .val (.int p5), .val (.int (4 : Int32)), .val (.ref b1o), .val (.ref o129), .val (.int (1 : Int32)), .unset, .unset, .unset, .unset] [(.int (1 : Int32))])) _
          refine XS.ifNo X138.here hx rfl (hb hby at_89) rfl ((if0 _ _).trans (feq (by decide)).1) ?_
          refine XS.iconst X138.here hx rfl (hb hby at_92) ?_
          refine XS.istore X138.here hx rfl (hb hby at_93) rfl (l' := #[.val (.int p1), .val (.int p2), .val (.int p3), .val (.int p4), .val (.int p5), .val (.int (4 : Int32)), .val (.ref b1o), .val (.ref o129), .val (.int (2 : Int32)), .unset, .unset, .unset, .unset]) rfl ?_
          refine XS.iload X138.here hx rfl (hb hby at_95) rfl ?_
          refine XS.iconst X138.here hx rfl (hb hby at_97) ?_
          refine XS.icmpNo X138.here hx rfl (hb hby at_98) rfl (tlt (by decide)).2.2.2 ?_
          refine XS.aload X138.here hx rfl (hb hby at_101) rfl rfl ?_
          refine XS.iconst X138.here hx rfl (hb hby at_103) ?_
          refine X138.caload hx (j := (2 : Int32)) (v := (.int r9)) (by rw [e138]; exact Ar140.1) (State.isArrayOf_alike hZ.alike Ar140.2.1) Ar140.2.2 hin141 hat141 (g := (mkF m 104 #[.val (.int p1), .val (.int p2), .val (.int p3), .val (.int p4), .val (.int p5), .val (.int (4 : Int32)), .val (.ref b1o), .val (.ref o129), .val (.int (2 : Int32)), .unset, .unset, .unset, .unset] [(.int (2 : Int32)), (.ref b1o)])) rfl rfl (hb hby at_104) _ ?_
          refine st142 _ ?_
          exact kt
        by_cases hB2 : (r9 = (32 : Int32) ∨ r9 = (9 : Int32))
        · skip
          obtain ⟨cl144, Ar144, qk144, Sz144, Nn144, Hh144, Gg144⟩ := id (f131)
          have hin145 : ¬ ((3 : Int32) < 0 ∨ cl144.slots.size ≤ ((3 : Int32)).toNatClampNeg) := inb_of Sz144 ⟨by decide, by decide⟩
          have hat145 : cl144.slots[((3 : Int32)).toNatClampNeg]? = some (.int r12) := Has.at Hh144 hin145 rfl
          obtain ⟨_, _, ⟨T146, Lq146, kq146, nq146⟩, -, X146, ⟨Lc146, hQ146, lq146, yq146, zq146⟩, st146⟩ := Jvm.LawKit.callS X142 hx (y := (⟨"com/example/wrasse/wrasse/io/LineFilesContentPinLaw", "blank", "(C)Z"⟩ : MethodName)) hown (mvT hZ (hw _ (own_w 68 rfl))) (mvT hZ (hw _ (own_w 69 rfl))) (mvT hZ (hw _ (own_w 4 rfl))) (mvT hZ (hw _ (own_w 70 rfl))) (by decide) (backOf (W := 0) (rBl l Z a0 hw [] r12  T129.heap n0 Z129 ) hZ (hw _ (own_w 70 rfl)) (hw _ (own_w 4 rfl)) (by decide) (by decide)) (g := (mkF m 124 #[.val (.int p1), .val (.int p2), .val (.int p3), .val (.int p4), .val (.int p5), .val (.int (4 : Int32)), .val (.ref b1o), .val (.ref o129), .val (.int (3 : Int32)), .unset, .unset, .unset, .unset] [(.int r12)])) rfl (by rw [hml]; rfl) (argsL := [(.int r12)]) (rest := []) (lenOf pd_36 rfl) rfl (by show 2 * 0 + _ ≤ _; exact Nat.le_of_eq rfl) (hb hby at_124) (fun _ _ => ⟨rfl, e142, (by decide : 4 + 0 ≤ _), (by decide : 32 + 0 ≤ _)⟩)
          dsimp only [Pt.U, Pt.locs, Pt.cells, Pt.slots] at X146 lq146 yq146 zq146 st146 hQ146
          subst lq146 yq146 zq146
          obtain ⟨r146, hr146, rfl, N146q, e146⟩ := hQ146
          have N146 := Fr.app N142 N146q
          have pq147 : ∀ t, Steps p.tables e below (T146.setTop (mkF m 127 #[.val (.int p1), .val (.int p2), .val (.int p3), .val (.int p4), .val (.int p5), .val (.int (4 : Int32)), .val (.ref b1o), .val (.ref o129), .val (.int (3 : Int32)), .unset, .unset, .unset, .unset] [(.int r146)])) t → Steps p.tables e below (s₁.setTop (mkF m 0 #[.val (.int p1), .val (.int p2), .val (.int p3), .val (.int p4), .val (.int p5), .unset, .unset, .unset, .unset, .unset, .unset, .unset, .unset] [])) t := by
            intro t kt
            refine pq143 _ ?_
            show Steps p.tables e below (T142.setTop (mkF m 108 #[.val (.int p1), .val (.int p2), .val (.int p3), .val (.int p4), .val (.int p5), .val (.int (4 : Int32)), .val (.ref b1o), .val (.ref o129), .val (.int (2 : Int32)), .unset, .unset, .unset, .unset] [(.int r142)])) _
            rw [(hr142.trans (if_pos hB2))]
            show Steps p.tables e below (T142.setTop (mkF m 108 #[.val (.int p1), .val (.int p2), .val (.int p3), .val (.int p4), .val (.int p5), .val (.int (4 : Int32)), .val (.ref b1o), .val (.ref o129), .val (.int (2 : Int32)), .unset, .unset, .unset, .unset] [(.int (1 : Int32))])) _
            refine XS.ifNo X142.here hx rfl (hb hby at_108) rfl ((if0 _ _).trans (feq (by decide)).1) ?_
            refine XS.iconst X142.here hx rfl (hb hby at_111) ?_
            refine XS.istore X142.here hx rfl (hb hby at_112) rfl (l' := #[.val (.int p1), .val (.int p2), .val (.int p3), .val (.int p4), .val (.int p5), .val (.int (4 : Int32)), .val (.ref b1o), .val (.ref o129), .val (.int (3 : Int32)), .unset, .unset, .unset, .unset]) rfl ?_
            refine XS.iload X142.here hx rfl (hb hby at_114) rfl ?_
            refine XS.iconst X142.here hx rfl (hb hby at_116) ?_
            refine XS.icmpNo X142.here hx rfl (hb hby at_117) rfl (tlt (by decide)).2.2.2 ?_
            refine XS.aload X142.here hx rfl (hb hby at_120) rfl rfl ?_
            refine XS.iconst X142.here hx rfl (hb hby at_122) ?_
            refine X142.caload hx (j := (3 : Int32)) (v := (.int r12)) (by rw [e142]; exact Ar144.1) (State.isArrayOf_alike hZ.alike Ar144.2.1) Ar144.2.2 hin145 hat145 (g := (mkF m 123 #[.val (.int p1), .val (.int p2), .val (.int p3), .val (.int p4), .val (.int p5), .val (.int (4 : Int32)), .val (.ref b1o), .val (.ref o129), .val (.int (3 : Int32)), .unset, .unset, .unset, .unset] [(.int (3 : Int32)), (.ref b1o)])) rfl rfl (hb hby at_123) _ ?_
            refine st146 _ ?_
            exact kt
          by_cases hB3 : (r12 = (32 : Int32) ∨ r12 = (9 : Int32))
          · skip
            have f149 := (f130.keep KC129 all0)
            obtain ⟨_, _, ⟨T148, Lq148, kq148, nq148⟩, -, X148, ⟨Lc148, hQ148, lq148, yq148, zq148⟩, st148⟩ := Jvm.LawKit.callS X146 hx (y := (⟨"com/example/wrasse/wrasse/io/LineFiles", "content", "(Ljava/lang/String;)Ljava/util/Optional;"⟩ : MethodName)) hown (mvT hZ (hw _ (own_w 31 rfl))) (mvT hZ (hw _ (own_w 32 rfl))) (mvT hZ (hw _ (own_w 33 rfl))) (mvT hZ (hw _ (own_w 34 rfl))) (by decide) (backOf (W := 0) (rKe l Z a0 hw [] o129 [r3, r6, r9, r12] 4 G1 gv eo T129.heap n0 Z129 f149 O_S hgv O_2 P5 O_A O_H O_W TS129 (Nat.le_of_ble_eq_true rfl) (own_cons hr3 (own_cons hr6 (own_cons hr9 (own_cons hr12 own_nil)))) (own_befS (P := fun k => (([r3, r6, r9, r12] : List Int32).getD k 0 = (32 : Int32) ∨ ([r3, r6, r9, r12] : List Int32).getD k 0 = (9 : Int32))) (own_befS (P := fun k => (([r3, r6, r9, r12] : List Int32).getD k 0 = (32 : Int32) ∨ ([r3, r6, r9, r12] : List Int32).getD k 0 = (9 : Int32))) (own_befS (P := fun k => (([r3, r6, r9, r12] : List Int32).getD k 0 = (32 : Int32) ∨ ([r3, r6, r9, r12] : List Int32).getD k 0 = (9 : Int32))) (own_befS (P := fun k => (([r3, r6, r9, r12] : List Int32).getD k 0 = (32 : Int32) ∨ ([r3, r6, r9, r12] : List Int32).getD k 0 = (9 : Int32))) own_bef0 hB0) hB1) hB2) hB3) (Or.inl rfl) O_E) hZ (hw _ (own_w 34 rfl)) (hw _ (own_w 33 rfl)) (by decide) (by decide)) (g := (mkF m 159 #[.val (.int p1), .val (.int p2), .val (.int p3), .val (.int p4), .val (.int p5), .val (.int (4 : Int32)), .val (.ref b1o), .val (.ref o129), .val (.int (4 : Int32)), .val (.int (0 : Int32)), .unset, .unset, .unset] [(.ref o129)])) rfl (by rw [hml]; rfl) (argsL := [(.ref o129)]) (rest := []) (lenOf pd_35 rfl) rfl (by show 2 * 0 + _ ≤ _; exact Nat.le_of_eq rfl) (hb hby at_159) (fun _ _ => ⟨rfl, e146, (by decide : 4 + 0 ≤ _), (by decide : 32 + 0 ≤ _)⟩)
            dsimp only [Pt.U, Pt.locs, Pt.cells, Pt.slots] at X148 lq148 yq148 zq148 st148 hQ148
            subst lq148 yq148 zq148
            obtain ⟨rfl, N148q, e148⟩ := hQ148
            have N148 := Fr.app N146 N148q
            obtain ⟨cq150, kz150, q150a, q150b, q150c⟩ := isOf hZ e148 (O_EE.ext f149.2)
            obtain ⟨_, _, ⟨T150, Lq150, kq150, nq150⟩, -, X150, ⟨Lc150, hQ150, lq150, yq150, zq150⟩, st150⟩ := X148.virtualBack hx (y := (⟨"java/util/Optional", "isPresent", "()Z"⟩ : MethodName)) (z := (⟨"java/util/Optional", "isPresent", "()Z"⟩ : MethodName)) hown (mvT hZ (hw _ (own_w 51 rfl))) (mvT hZ (hw _ (own_w 52 rfl))) (notFace_of_selects (args := #[]) (mvT hZ (hw _ (own_w 54 rfl)))) (mvT hZ (hw _ (own_w 54 rfl))) (mvT hZ (hw _ (own_w 53 rfl))) (by decide) (backOf (W := 0) (rOp0 l Z a0 hw [] eo  T129.heap n0 Z129 (O_EV.ext f149.2)) hZ (hw _ (own_w 55 rfl)) (hw _ (own_w 48 rfl)) (by decide) (by decide)) q150a q150c (g := (mkF m 178 #[.val (.int p1), .val (.int p2), .val (.int p3), .val (.int p4), .val (.int p5), .val (.int (4 : Int32)), .val (.ref b1o), .val (.ref o129), .val (.int (4 : Int32)), .val (.int (0 : Int32)), .val (.ref eo), .unset, .unset] [(.ref eo)])) rfl (by rw [hml]; rfl) (Steps.refl _) (argsL := []) (rest := []) (lenOf pd_7 rfl) rfl (by show 2 * 0 + _ ≤ _; exact Nat.le_of_eq rfl) (hb hby at_178) (fun _ _ => ⟨rfl, e148, (by decide : 4 + 0 ≤ _), (by decide : 32 + 0 ≤ _)⟩)
            dsimp only [Pt.U, Pt.locs, Pt.cells, Pt.slots] at X150 lq150 yq150 zq150 st150 hQ150
            subst lq150 yq150 zq150
            obtain ⟨r150, hr150, rfl, N150q, e150⟩ := hQ150
            have N150 := Fr.app N148 N150q
            subst hr150
            obtain ⟨fs, hr, hrun, hended, hwd⟩ := Jvm.Stand.leaveW (s := s) (vm₁ := s.vm) X150 hS0 (Nat.le_trans (Nat.le_trans (Nat.le_trans (Nat.le_trans (Nat.le_trans (Nat.le_trans (Nat.le_trans (Nat.le_of_eq (congrArg Array.size hh)) E1.1) (Nat.le_of_eq W5.size.symm)) (Nat.le_of_eq W8.size.symm)) (Nat.le_of_eq W11.size.symm)) (Nat.le_of_eq W14.size.symm)) KC129.1) (Nat.le_of_eq (congrArg Array.size e150).symm)) (v := some (.int (1 : Int32))) (fun h => by rw [Bd.returns] at h; cases h)
            refine ⟨_, _, pre0 _ ?_, hrun, hended, _, _, rfl, ?_, hwd.1, hwd.2.1, hwd.2.2.1, hwd.2.2.2.mono (by decide) (by decide)⟩
            · refine pq147 _ ?_
              show Steps p.tables e below (T146.setTop (mkF m 127 #[.val (.int p1), .val (.int p2), .val (.int p3), .val (.int p4), .val (.int p5), .val (.int (4 : Int32)), .val (.ref b1o), .val (.ref o129), .val (.int (3 : Int32)), .unset, .unset, .unset, .unset] [(.int r146)])) _
              rw [(hr146.trans (if_pos hB3))]
              show Steps p.tables e below (T146.setTop (mkF m 127 #[.val (.int p1), .val (.int p2), .val (.int p3), .val (.int p4), .val (.int p5), .val (.int (4 : Int32)), .val (.ref b1o), .val (.ref o129), .val (.int (3 : Int32)), .unset, .unset, .unset, .unset] [(.int (1 : Int32))])) _
              refine XS.ifNo X146.here hx rfl (hb hby at_127) rfl ((if0 _ _).trans (feq (by decide)).1) ?_
              refine XS.iconst X146.here hx rfl (hb hby at_130) ?_
              refine XS.istore X146.here hx rfl (hb hby at_131) rfl (l' := #[.val (.int p1), .val (.int p2), .val (.int p3), .val (.int p4), .val (.int p5), .val (.int (4 : Int32)), .val (.ref b1o), .val (.ref o129), .val (.int (4 : Int32)), .unset, .unset, .unset, .unset]) rfl ?_
              refine XS.iload X146.here hx rfl (hb hby at_133) rfl ?_
              refine XS.iload X146.here hx rfl (hb hby at_135) rfl ?_
              refine XS.icmpYes X146.here hx rfl (pc0 := 137) (pc' := 154) rfl (hb hby at_137) rfl (flt (by decide)).2.1 (by decide) (by decide) ?_
              refine XS.iconst X146.here hx rfl (hb hby at_154) ?_
              refine XS.istore X146.here hx rfl (hb hby at_155) rfl (l' := #[.val (.int p1), .val (.int p2), .val (.int p3), .val (.int p4), .val (.int p5), .val (.int (4 : Int32)), .val (.ref b1o), .val (.ref o129), .val (.int (4 : Int32)), .val (.int (0 : Int32)), .unset, .unset, .unset]) rfl ?_
              refine XS.aload X146.here hx rfl (hb hby at_157) rfl rfl ?_
              refine st148 _ ?_
              refine XS.astore X148.here hx rfl (hb hby at_162) rfl rfl (l' := #[.val (.int p1), .val (.int p2), .val (.int p3), .val (.int p4), .val (.int p5), .val (.int (4 : Int32)), .val (.ref b1o), .val (.ref o129), .val (.int (4 : Int32)), .val (.int (0 : Int32)), .val (.ref eo), .unset, .unset]) rfl ?_
              refine XS.aload X148.here hx rfl (hb hby at_164) rfl rfl ?_
              refine XS.ifnonnullYes X148.here hx rfl (pc0 := 166) (pc' := 171) rfl (hb hby at_166) rfl (by decide) (by decide) ?_
              refine XS.iload X148.here hx rfl (hb hby at_171) rfl ?_
              refine XS.ifNo X148.here hx rfl (hb hby at_173) rfl ((if0 _ _).trans (teq (by decide)).2) ?_
              refine XS.aload X148.here hx rfl (hb hby at_176) rfl rfl ?_
              refine st150.trans ?_
              refine XS.ifNo X150.here hx rfl (hb hby at_181) rfl ((if0 _ _).trans (teq (by decide)).2) ?_
              refine XS.iconst X150.here hx rfl (hb hby at_184) ?_
              refine XS.goto X150.here hx rfl (pc0 := 185) (pc' := 189) rfl (hb hby at_185) (by decide) (by decide) ?_
              show Steps p.tables e below (T150.setTop (mkF m 189 #[.val (.int p1), .val (.int p2), .val (.int p3), .val (.int p4), .val (.int p5), .val (.int (4 : Int32)), .val (.ref b1o), .val (.ref o129), .val (.int (4 : Int32)), .val (.int (0 : Int32)), .val (.ref eo), .unset, .unset] [(.int (1 : Int32))])) _
              exact retN X150 hx (t := .boolean) Bd.returns (by simp) (hb hby at_189) hr
            · show Qrm0 Z p1 p2 p3 p4 p5 G1 gv eo h0 n0 _ T150.heap _
              exact ⟨rfl, N150⟩
          · skip
            obtain ⟨cl151, Ar151, qk151, Sz151, Nn151, Hh151, Gg151⟩ := id (f131)
            have hin152 : ¬ ((3 : Int32) < 0 ∨ cl151.slots.size ≤ ((3 : Int32)).toNatClampNeg) := inb_of Sz151 ⟨by decide, by decide⟩
            have hat152 : cl151.slots[((3 : Int32)).toNatClampNeg]? = some (.int r12) := Has.at Hh151 hin152 rfl
            have pq153 : ∀ t, Steps p.tables e below (T146.setTop (mkF m 147 #[.val (.int p1), .val (.int p2), .val (.int p3), .val (.int p4), .val (.int p5), .val (.int (4 : Int32)), .val (.ref b1o), .val (.ref o129), .val (.int (3 : Int32)), .unset, .unset, .unset, .unset] [(.int (35 : Int32)), (.int r12)])) t → Steps p.tables e below (s₁.setTop (mkF m 0 #[.val (.int p1), .val (.int p2), .val (.int p3), .val (.int p4), .val (.int p5), .unset, .unset, .unset, .unset, .unset, .unset, .unset, .unset] [])) t := by
              intro t kt
              refine pq147 _ ?_
              show Steps p.tables e below (T146.setTop (mkF m 127 #[.val (.int p1), .val (.int p2), .val (.int p3), .val (.int p4), .val (.int p5), .val (.int (4 : Int32)), .val (.ref b1o), .val (.ref o129), .val (.int (3 : Int32)), .unset, .unset, .unset, .unset] [(.int r146)])) _
              rw [(hr146.trans (if_neg hB3))]
              show Steps p.tables e below (T146.setTop (mkF m 127 #[.val (.int p1), .val (.int p2), .val (.int p3), .val (.int p4), .val (.int p5), .val (.int (4 : Int32)), .val (.ref b1o), .val (.ref o129), .val (.int (3 : Int32)), .unset, .unset, .unset, .unset] [(.int (0 : Int32))])) _
              refine XS.ifYes X146.here hx rfl (pc0 := 127) (pc' := 133) rfl (hb hby at_127) rfl ((if0 _ _).trans (teq (by decide)).1) (by decide) (by decide) ?_
              refine XS.iload X146.here hx rfl (hb hby at_133) rfl ?_
              refine XS.iload X146.here hx rfl (hb hby at_135) rfl ?_
              refine XS.icmpNo X146.here hx rfl (hb hby at_137) rfl (tlt (by decide)).2.1 ?_
              refine XS.aload X146.here hx rfl (hb hby at_140) rfl rfl ?_
              refine XS.iload X146.here hx rfl (hb hby at_142) rfl ?_
              refine X146.caload hx (j := (3 : Int32)) (v := (.int r12)) (by rw [e146]; exact Ar151.1) (State.isArrayOf_alike hZ.alike Ar151.2.1) Ar151.2.2 hin152 hat152 (g := (mkF m 144 #[.val (.int p1), .val (.int p2), .val (.int p3), .val (.int p4), .val (.int p5), .val (.int (4 : Int32)), .val (.ref b1o), .val (.ref o129), .val (.int (3 : Int32)), .unset, .unset, .unset, .unset] [(.int (3 : Int32)), (.ref b1o)])) rfl rfl (hb hby at_144) _ ?_
              refine XS.bipush X146.here hx rfl (hb hby at_145) ?_
              exact kt
            by_cases hc147 : r12 = (35 : Int32)
            · have f155 := (f130.keep KC129 all0)
              obtain ⟨_, _, ⟨T154, Lq154, kq154, nq154⟩, -, X154, ⟨Lc154, hQ154, lq154, yq154, zq154⟩, st154⟩ := Jvm.LawKit.callS X146 hx (y := (⟨"com/example/wrasse/wrasse/io/LineFiles", "content", "(Ljava/lang/String;)Ljava/util/Optional;"⟩ : MethodName)) hown (mvT hZ (hw _ (own_w 31 rfl))) (mvT hZ (hw _ (own_w 32 rfl))) (mvT hZ (hw _ (own_w 33 rfl))) (mvT hZ (hw _ (own_w 34 rfl))) (by decide) (backOf (W := 0) (rKe l Z a0 hw [] o129 [r3, r6, r9, r12] 3 G1 gv eo T129.heap n0 Z129 f155 O_S hgv O_2 P5 O_A O_H O_W TS129 (Nat.le_of_ble_eq_true rfl) (own_cons hr3 (own_cons hr6 (own_cons hr9 (own_cons hr12 own_nil)))) (own_befS (P := fun k => (([r3, r6, r9, r12] : List Int32).getD k 0 = (32 : Int32) ∨ ([r3, r6, r9, r12] : List Int32).getD k 0 = (9 : Int32))) (own_befS (P := fun k => (([r3, r6, r9, r12] : List Int32).getD k 0 = (32 : Int32) ∨ ([r3, r6, r9, r12] : List Int32).getD k 0 = (9 : Int32))) (own_befS (P := fun k => (([r3, r6, r9, r12] : List Int32).getD k 0 = (32 : Int32) ∨ ([r3, r6, r9, r12] : List Int32).getD k 0 = (9 : Int32))) own_bef0 hB0) hB1) hB2) (Or.inr ⟨(Nat.le_of_ble_eq_true rfl), hc147⟩) O_E) hZ (hw _ (own_w 34 rfl)) (hw _ (own_w 33 rfl)) (by decide) (by decide)) (g := (mkF m 159 #[.val (.int p1), .val (.int p2), .val (.int p3), .val (.int p4), .val (.int p5), .val (.int (4 : Int32)), .val (.ref b1o), .val (.ref o129), .val (.int (3 : Int32)), .val (.int (0 : Int32)), .unset, .unset, .unset] [(.ref o129)])) rfl (by rw [hml]; rfl) (argsL := [(.ref o129)]) (rest := []) (lenOf pd_35 rfl) rfl (by show 2 * 0 + _ ≤ _; exact Nat.le_of_eq rfl) (hb hby at_159) (fun _ _ => ⟨rfl, e146, (by decide : 4 + 0 ≤ _), (by decide : 32 + 0 ≤ _)⟩)
              dsimp only [Pt.U, Pt.locs, Pt.cells, Pt.slots] at X154 lq154 yq154 zq154 st154 hQ154
              subst lq154 yq154 zq154
              obtain ⟨rfl, N154q, e154⟩ := hQ154
              have N154 := Fr.app N146 N154q
              obtain ⟨cq156, kz156, q156a, q156b, q156c⟩ := isOf hZ e154 (O_EE.ext f155.2)
              obtain ⟨_, _, ⟨T156, Lq156, kq156, nq156⟩, -, X156, ⟨Lc156, hQ156, lq156, yq156, zq156⟩, st156⟩ := X154.virtualBack hx (y := (⟨"java/util/Optional", "isPresent", "()Z"⟩ : MethodName)) (z := (⟨"java/util/Optional", "isPresent", "()Z"⟩ : MethodName)) hown (mvT hZ (hw _ (own_w 51 rfl))) (mvT hZ (hw _ (own_w 52 rfl))) (notFace_of_selects (args := #[]) (mvT hZ (hw _ (own_w 54 rfl)))) (mvT hZ (hw _ (own_w 54 rfl))) (mvT hZ (hw _ (own_w 53 rfl))) (by decide) (backOf (W := 0) (rOp0 l Z a0 hw [] eo  T129.heap n0 Z129 (O_EV.ext f155.2)) hZ (hw _ (own_w 55 rfl)) (hw _ (own_w 48 rfl)) (by decide) (by decide)) q156a q156c (g := (mkF m 178 #[.val (.int p1), .val (.int p2), .val (.int p3), .val (.int p4), .val (.int p5), .val (.int (4 : Int32)), .val (.ref b1o), .val (.ref o129), .val (.int (3 : Int32)), .val (.int (0 : Int32)), .val (.ref eo), .unset, .unset] [(.ref eo)])) rfl (by rw [hml]; rfl) (Steps.refl _) (argsL := []) (rest := []) (lenOf pd_7 rfl) rfl (by show 2 * 0 + _ ≤ _; exact Nat.le_of_eq rfl) (hb hby at_178) (fun _ _ => ⟨rfl, e154, (by decide : 4 + 0 ≤ _), (by decide : 32 + 0 ≤ _)⟩)
              dsimp only [Pt.U, Pt.locs, Pt.cells, Pt.slots] at X156 lq156 yq156 zq156 st156 hQ156
              subst lq156 yq156 zq156
              obtain ⟨r156, hr156, rfl, N156q, e156⟩ := hQ156
              have N156 := Fr.app N154 N156q
              subst hr156
              obtain ⟨fs, hr, hrun, hended, hwd⟩ := Jvm.Stand.leaveW (s := s) (vm₁ := s.vm) X156 hS0 (Nat.le_trans (Nat.le_trans (Nat.le_trans (Nat.le_trans (Nat.le_trans (Nat.le_trans (Nat.le_trans (Nat.le_of_eq (congrArg Array.size hh)) E1.1) (Nat.le_of_eq W5.size.symm)) (Nat.le_of_eq W8.size.symm)) (Nat.le_of_eq W11.size.symm)) (Nat.le_of_eq W14.size.symm)) KC129.1) (Nat.le_of_eq (congrArg Array.size e156).symm)) (v := some (.int (1 : Int32))) (fun h => by rw [Bd.returns] at h; cases h)
              refine ⟨_, _, pre0 _ ?_, hrun, hended, _, _, rfl, ?_, hwd.1, hwd.2.1, hwd.2.2.1, hwd.2.2.2.mono (by decide) (by decide)⟩
              · refine pq153 _ ?_
                show Steps p.tables e below (T146.setTop (mkF m 147 #[.val (.int p1), .val (.int p2), .val (.int p3), .val (.int p4), .val (.int p5), .val (.int (4 : Int32)), .val (.ref b1o), .val (.ref o129), .val (.int (3 : Int32)), .unset, .unset, .unset, .unset] [(.int (35 : Int32)), (.int r12)])) _
                refine XS.icmpYes X146.here hx rfl (pc0 := 147) (pc' := 154) rfl (hb hby at_147) rfl (teq hc147).1 (by decide) (by decide) ?_
                refine XS.iconst X146.here hx rfl (hb hby at_154) ?_
                refine XS.istore X146.here hx rfl (hb hby at_155) rfl (l' := #[.val (.int p1), .val (.int p2), .val (.int p3), .val (.int p4), .val (.int p5), .val (.int (4 : Int32)), .val (.ref b1o), .val (.ref o129), .val (.int (3 : Int32)), .val (.int (0 : Int32)), .unset, .unset, .unset]) rfl ?_
                refine XS.aload X146.here hx rfl (hb hby at_157) rfl rfl ?_
                refine st154 _ ?_
                refine XS.astore X154.here hx rfl (hb hby at_162) rfl rfl (l' := #[.val (.int p1), .val (.int p2), .val (.int p3), .val (.int p4), .val (.int p5), .val (.int (4 : Int32)), .val (.ref b1o), .val (.ref o129), .val (.int (3 : Int32)), .val (.int (0 : Int32)), .val (.ref eo), .unset, .unset]) rfl ?_
                refine XS.aload X154.here hx rfl (hb hby at_164) rfl rfl ?_
                refine XS.ifnonnullYes X154.here hx rfl (pc0 := 166) (pc' := 171) rfl (hb hby at_166) rfl (by decide) (by decide) ?_
                refine XS.iload X154.here hx rfl (hb hby at_171) rfl ?_
                refine XS.ifNo X154.here hx rfl (hb hby at_173) rfl ((if0 _ _).trans (teq (by decide)).2) ?_
                refine XS.aload X154.here hx rfl (hb hby at_176) rfl rfl ?_
                refine st156.trans ?_
                refine XS.ifNo X156.here hx rfl (hb hby at_181) rfl ((if0 _ _).trans (teq (by decide)).2) ?_
                refine XS.iconst X156.here hx rfl (hb hby at_184) ?_
                refine XS.goto X156.here hx rfl (pc0 := 185) (pc' := 189) rfl (hb hby at_185) (by decide) (by decide) ?_
                show Steps p.tables e below (T156.setTop (mkF m 189 #[.val (.int p1), .val (.int p2), .val (.int p3), .val (.int p4), .val (.int p5), .val (.int (4 : Int32)), .val (.ref b1o), .val (.ref o129), .val (.int (3 : Int32)), .val (.int (0 : Int32)), .val (.ref eo), .unset, .unset] [(.int (1 : Int32))])) _
                exact retN X156 hx (t := .boolean) Bd.returns (by simp) (hb hby at_189) hr
              · show Qrm0 Z p1 p2 p3 p4 p5 G1 gv eo h0 n0 _ T156.heap _
                exact ⟨rfl, N156⟩
            · have f158 := (f130.keep KC129 all0)
              obtain ⟨_, _, ⟨T157, Lq157, kq157, nq157⟩, -, X157, ⟨Lc157, hQ157, lq157, yq157, zq157⟩, st157⟩ := Jvm.LawKit.callS X146 hx (y := (⟨"com/example/wrasse/wrasse/io/LineFiles", "content", "(Ljava/lang/String;)Ljava/util/Optional;"⟩ : MethodName)) hown (mvT hZ (hw _ (own_w 31 rfl))) (mvT hZ (hw _ (own_w 32 rfl))) (mvT hZ (hw _ (own_w 33 rfl))) (mvT hZ (hw _ (own_w 34 rfl))) (by decide) (backOf (W := 0) (rKp l Z a0 hw [] o129 [r3, r6, r9, r12] 3 G1 gv eo [r12] T129.heap n0 Z129 f158 O_S hgv O_2 P5 O_A O_H O_W TS129 (Nat.le_of_ble_eq_true rfl) (own_cons hr3 (own_cons hr6 (own_cons hr9 (own_cons hr12 own_nil)))) (own_befS (P := fun k => (([r3, r6, r9, r12] : List Int32).getD k 0 = (32 : Int32) ∨ ([r3, r6, r9, r12] : List Int32).getD k 0 = (9 : Int32))) (own_befS (P := fun k => (([r3, r6, r9, r12] : List Int32).getD k 0 = (32 : Int32) ∨ ([r3, r6, r9, r12] : List Int32).getD k 0 = (9 : Int32))) (own_befS (P := fun k => (([r3, r6, r9, r12] : List Int32).getD k 0 = (32 : Int32) ∨ ([r3, r6, r9, r12] : List Int32).getD k 0 = (9 : Int32))) own_bef0 hB0) hB1) hB2) O_E ⟨(Nat.le_of_ble_eq_true rfl), rfl⟩ (Nat.le_of_ble_eq_true rfl) rfl hB3 hc147) hZ (hw _ (own_w 34 rfl)) (hw _ (own_w 33 rfl)) (by decide) (by decide)) (g := (mkF m 159 #[.val (.int p1), .val (.int p2), .val (.int p3), .val (.int p4), .val (.int p5), .val (.int (4 : Int32)), .val (.ref b1o), .val (.ref o129), .val (.int (3 : Int32)), .val (.int (1 : Int32)), .unset, .unset, .unset] [(.ref o129)])) rfl (by rw [hml]; rfl) (argsL := [(.ref o129)]) (rest := []) (lenOf pd_35 rfl) rfl (by show 2 * 0 + _ ≤ _; exact Nat.le_of_eq rfl) (hb hby at_159) (fun _ _ => ⟨rfl, e146, (by decide : 4 + 4 ≤ _), (by decide : 32 + 29 ≤ _)⟩)
              dsimp only [Pt.U, Pt.locs, Pt.cells, Pt.slots] at X157 lq157 yq157 zq157 st157 hQ157
              subst lq157 yq157 zq157
              obtain ⟨o157, x157, rfl, N157q, KC157, uE157, uV157, TS157⟩ := hQ157
              have N157 := Fr.app N146 N157q
              have Z157 : n0 ≤ T157.heap.size := Nat.le_trans Z129 KC157.1
              have f160 := (f158.keep KC157 all0)
              have f161 := (f131.keep KC157 nin0)
              obtain ⟨T159, L159, X159, e159, N159, st159⟩ := own_tail (ct := [r12]) (sq := 3) (vs := [(.int r3), (.int r6), (.int r9), (.int r12)]) (by decide) (by decide) (by decide) (by decide) hx hZ hw hby hml hown f160 O_S hgv O_2 P5 O_A O_H O_W Z157 TS157 (Nat.le_of_ble_eq_true rfl) (own_cons hr12 own_nil) uE157 uV157 f161 (by decide : 3 + 1 ≤ 4) (own_befS (P := fun k => ([.int r3, .int r6, .int r9, .int r12] : List Value).getD (3 + k) (.int (0 : Int32)) = .int (([r12] : List Int32).getD k 0)) own_bef0 rfl) _ _ X157 rfl N157
              obtain ⟨fs, hr, hrun, hended, hwd⟩ := Jvm.Stand.leaveW (s := s) (vm₁ := s.vm) X159 hS0 (Nat.le_trans (Nat.le_trans (Nat.le_trans (Nat.le_trans (Nat.le_trans (Nat.le_trans (Nat.le_trans (Nat.le_trans (Nat.le_of_eq (congrArg Array.size hh)) E1.1) (Nat.le_of_eq W5.size.symm)) (Nat.le_of_eq W8.size.symm)) (Nat.le_of_eq W11.size.symm)) (Nat.le_of_eq W14.size.symm)) KC129.1) KC157.1) (Nat.le_of_eq (congrArg Array.size e159).symm)) (v := some (.int (1 : Int32))) (fun h => by rw [Bd.returns] at h; cases h)
              refine ⟨_, _, pre0 _ ?_, hrun, hended, _, _, rfl, ?_, hwd.1, hwd.2.1, hwd.2.2.1, hwd.2.2.2.mono (by decide) (by decide)⟩
              · refine pq153 _ ?_
                show Steps p.tables e below (T146.setTop (mkF m 147 #[.val (.int p1), .val (.int p2), .val (.int p3), .val (.int p4), .val (.int p5), .val (.int (4 : Int32)), .val (.ref b1o), .val (.ref o129), .val (.int (3 : Int32)), .unset, .unset, .unset, .unset] [(.int (35 : Int32)), (.int r12)])) _
                refine XS.icmpNo X146.here hx rfl (hb hby at_147) rfl (feq hc147).1 ?_
                refine XS.iconst X146.here hx rfl (hb hby at_150) ?_
                refine XS.goto X146.here hx rfl (pc0 := 151) (pc' := 155) rfl (hb hby at_151) (by decide) (by decide) ?_
                refine XS.istore X146.here hx rfl (hb hby at_155) rfl (l' := #[.val (.int p1), .val (.int p2), .val (.int p3), .val (.int p4), .val (.int p5), .val (.int (4 : Int32)), .val (.ref b1o), .val (.ref o129), .val (.int (3 : Int32)), .val (.int (1 : Int32)), .unset, .unset, .unset]) rfl ?_
                refine XS.aload X146.here hx rfl (hb hby at_157) rfl rfl ?_
                refine st157 _ ?_
                refine XS.astore X157.here hx rfl (hb hby at_162) rfl rfl (l' := #[.val (.int p1), .val (.int p2), .val (.int p3), .val (.int p4), .val (.int p5), .val (.int (4 : Int32)), .val (.ref b1o), .val (.ref o129), .val (.int (3 : Int32)), .val (.int (1 : Int32)), .val (.ref o157), .unset, .unset]) rfl ?_
                refine XS.aload X157.here hx rfl (hb hby at_164) rfl rfl ?_
                refine XS.ifnonnullYes X157.here hx rfl (pc0 := 166) (pc' := 171) rfl (hb hby at_166) rfl (by decide) (by decide) ?_
                refine XS.iload X157.here hx rfl (hb hby at_171) rfl ?_
                refine XS.ifYes X157.here hx rfl (pc0 := 173) (pc' := 190) rfl (hb hby at_173) rfl ((if0 _ _).trans (feq (by decide)).2) (by decide) (by decide) ?_
                refine st159 _ ?_
                show Steps p.tables e below (T159.setTop (mkF m 294 #[.val (.int p1), .val (.int p2), .val (.int p3), .val (.int p4), .val (.int p5), .val (.int (4 : Int32)), .val (.ref b1o), .val (.ref o129), .val (.int (3 : Int32)), .val (.int (1 : Int32)), .val (.ref o157), .val (.ref x157), .val (.int (1 : Int32))] [(.int (1 : Int32))])) _
                exact retN X159 hx (t := .boolean) Bd.returns (by simp) (hb hby at_294) hr
              · show Qrm0 Z p1 p2 p3 p4 p5 G1 gv eo h0 n0 _ T159.heap _
                exact ⟨rfl, N159⟩
        · skip
          obtain ⟨cl162, Ar162, qk162, Sz162, Nn162, Hh162, Gg162⟩ := id (f131)
          have hin163 : ¬ ((2 : Int32) < 0 ∨ cl162.slots.size ≤ ((2 : Int32)).toNatClampNeg) := inb_of Sz162 ⟨by decide, by decide⟩
          have hat163 : cl162.slots[((2 : Int32)).toNatClampNeg]? = some (.int r9) := Has.at Hh162 hin163 rfl
          have pq164 : ∀ t, Steps p.tables e below (T142.setTop (mkF m 147 #[.val (.int p1), .val (.int p2), .val (.int p3), .val (.int p4), .val (.int p5), .val (.int (4 : Int32)), .val (.ref b1o), .val (.ref o129), .val (.int (2 : Int32)), .unset, .unset, .unset, .unset] [(.int (35 : Int32)), (.int r9)])) t → Steps p.tables e below (s₁.setTop (mkF m 0 #[.val (.int p1), .val (.int p2), .val (.int p3), .val (.int p4), .val (.int p5), .unset, .unset, .unset, .unset, .unset, .unset, .unset, .unset] [])) t := by
            intro t kt
            refine pq143 _ ?_
            show Steps p.tables e below (T142.setTop (mkF m 108 #[.val (.int p1), .val (.int p2), .val (.int p3), .val (.int p4), .val (.int p5), .val (.int (4 : Int32)), .val (.ref b1o), .val (.ref o129), .val (.int (2 : Int32)), .unset, .unset, .unset, .unset] [(.int r142)])) _
            rw [(hr142.trans (if_neg hB2))]
            show Steps p.tables e below (T142.setTop (mkF m 108 #[.val (.int p1), .val (.int p2), .val (.int p3), .val (.int p4), .val (.int p5), .val (.int (4 : Int32)), .val (.ref b1o), .val (.ref o129), .val (.int (2 : Int32)), .unset, .unset, .unset, .unset] [(.int (0 : Int32))])) _
            refine XS.ifYes X142.here hx rfl (pc0 := 108) (pc' := 133) rfl (hb hby at_108) rfl ((if0 _ _).trans (teq (by decide)).1) (by decide) (by decide) ?_
            refine XS.iload X142.here hx rfl (hb hby at_133) rfl ?_
            refine XS.iload X142.here hx rfl (hb hby at_135) rfl ?_
            refine XS.icmpNo X142.here hx rfl (hb hby at_137) rfl (tlt (by decide)).2.1 ?_
            refine XS.aload X142.here hx rfl (hb hby at_140) rfl rfl ?_
            refine XS.iload X142.here hx rfl (hb hby at_142) rfl ?_
            refine X142.caload hx (j := (2 : Int32)) (v := (.int r9)) (by rw [e142]; exact Ar162.1) (State.isArrayOf_alike hZ.alike Ar162.2.1) Ar162.2.2 hin163 hat163 (g := (mkF m 144 #[.val (.int p1), .val (.int p2), .val (.int p3), .val (.int p4), .val (.int p5), .val (.int (4 : Int32)), .val (.ref b1o), .val (.ref o129), .val (.int (2 : Int32)), .unset, .unset, .unset, .unset] [(.int (2 : Int32)), (.ref b1o)])) rfl rfl (hb hby at_144) _ ?_
            refine XS.bipush X142.here hx rfl (hb hby at_145) ?_
            exact kt
          by_cases hc147 : r9 = (35 : Int32)
          · have f166 := (f130.keep KC129 all0)
            obtain ⟨_, _, ⟨T165, Lq165, kq165, nq165⟩, -, X165, ⟨Lc165, hQ165, lq165, yq165, zq165⟩, st165⟩ := Jvm.LawKit.callS X142 hx (y := (⟨"com/example/wrasse/wrasse/io/LineFiles", "content", "(Ljava/lang/String;)Ljava/util/Optional;"⟩ : MethodName)) hown (mvT hZ (hw _ (own_w 31 rfl))) (mvT hZ (hw _ (own_w 32 rfl))) (mvT hZ (hw _ (own_w 33 rfl))) (mvT hZ (hw _ (own_w 34 rfl))) (by decide) (backOf (W := 0) (rKe l Z a0 hw [] o129 [r3, r6, r9, r12] 2 G1 gv eo T129.heap n0 Z129 f166 O_S hgv O_2 P5 O_A O_H O_W TS129 (Nat.le_of_ble_eq_true rfl) (own_cons hr3 (own_cons hr6 (own_cons hr9 (own_cons hr12 own_nil)))) (own_befS (P := fun k => (([r3, r6, r9, r12] : List Int32).getD k 0 = (32 : Int32) ∨ ([r3, r6, r9, r12] : List Int32).getD k 0 = (9 : Int32))) (own_befS (P := fun k => (([r3, r6, r9, r12] : List Int32).getD k 0 = (32 : Int32) ∨ ([r3, r6, r9, r12] : List Int32).getD k 0 = (9 : Int32))) own_bef0 hB0) hB1) (Or.inr ⟨(Nat.le_of_ble_eq_true rfl), hc147⟩) O_E) hZ (hw _ (own_w 34 rfl)) (hw _ (own_w 33 rfl)) (by decide) (by decide)) (g := (mkF m 159 #[.val (.int p1), .val (.int p2), .val (.int p3), .val (.int p4), .val (.int p5), .val (.int (4 : Int32)), .val (.ref b1o), .val (.ref o129), .val (.int (2 : Int32)), .val (.int (0 : Int32)), .unset, .unset, .unset] [(.ref o129)])) rfl (by rw [hml]; rfl) (argsL := [(.ref o129)]) (rest := []) (lenOf pd_35 rfl) rfl (by show 2 * 0 + _ ≤ _; exact Nat.le_of_eq rfl) (hb hby at_159) (fun _ _ => ⟨rfl, e142, (by decide : 4 + 0 ≤ _), (by decide : 32 + 0 ≤ _)⟩)
            dsimp only [Pt.U, Pt.locs, Pt.cells, Pt.slots] at X165 lq165 yq165 zq165 st165 hQ165
            subst lq165 yq165 zq165
            obtain ⟨rfl, N165q, e165⟩ := hQ165
            have N165 := Fr.app N142 N165q
            obtain ⟨cq167, kz167, q167a, q167b, q167c⟩ := isOf hZ e165 (O_EE.ext f166.2)
            obtain ⟨_, _, ⟨T167, Lq167, kq167, nq167⟩, -, X167, ⟨Lc167, hQ167, lq167, yq167, zq167⟩, st167⟩ := X165.virtualBack hx (y := (⟨"java/util/Optional", "isPresent", "()Z"⟩ : MethodName)) (z := (⟨"java/util/Optional", "isPresent", "()Z"⟩ : MethodName)) hown (mvT hZ (hw _ (own_w 51 rfl))) (mvT hZ (hw _ (own_w 52 rfl))) (notFace_of_selects (args := #[]) (mvT hZ (hw _ (own_w 54 rfl)))) (mvT hZ (hw _ (own_w 54 rfl))) (mvT hZ (hw _ (own_w 53 rfl))) (by decide) (backOf (W := 0) (rOp0 l Z a0 hw [] eo  T129.heap n0 Z129 (O_EV.ext f166.2)) hZ (hw _ (own_w 55 rfl)) (hw _ (own_w 48 rfl)) (by decide) (by decide)) q167a q167c (g := (mkF m 178 #[.val (.int p1), .val (.int p2), .val (.int p3), .val (.int p4), .val (.int p5), .val (.int (4 : Int32)), .val (.ref b1o), .val (.ref o129), .val (.int (2 : Int32)), .val (.int (0 : Int32)), .val (.ref eo), .unset, .unset] [(.ref eo)])) rfl (by rw [hml]; rfl) (Steps.refl _) (argsL := []) (rest := []) (lenOf pd_7 rfl) rfl (by show 2 * 0 + _ ≤ _; exact Nat.le_of_eq rfl) (hb hby at_178) (fun _ _ => ⟨rfl, e165, (by decide : 4 + 0 ≤ _), (by decide : 32 + 0 ≤ _)⟩)
            dsimp only [Pt.U, Pt.locs, Pt.cells, Pt.slots] at X167 lq167 yq167 zq167 st167 hQ167
            subst lq167 yq167 zq167
            obtain ⟨r167, hr167, rfl, N167q, e167⟩ := hQ167
            have N167 := Fr.app N165 N167q
            subst hr167
            obtain ⟨fs, hr, hrun, hended, hwd⟩ := Jvm.Stand.leaveW (s := s) (vm₁ := s.vm) X167 hS0 (Nat.le_trans (Nat.le_trans (Nat.le_trans (Nat.le_trans (Nat.le_trans (Nat.le_trans (Nat.le_trans (Nat.le_of_eq (congrArg Array.size hh)) E1.1) (Nat.le_of_eq W5.size.symm)) (Nat.le_of_eq W8.size.symm)) (Nat.le_of_eq W11.size.symm)) (Nat.le_of_eq W14.size.symm)) KC129.1) (Nat.le_of_eq (congrArg Array.size e167).symm)) (v := some (.int (1 : Int32))) (fun h => by rw [Bd.returns] at h; cases h)
            refine ⟨_, _, pre0 _ ?_, hrun, hended, _, _, rfl, ?_, hwd.1, hwd.2.1, hwd.2.2.1, hwd.2.2.2.mono (by decide) (by decide)⟩
            · refine pq164 _ ?_
              show Steps p.tables e below (T142.setTop (mkF m 147 #[.val (.int p1), .val (.int p2), .val (.int p3), .val (.int p4), .val (.int p5), .val (.int (4 : Int32)), .val (.ref b1o), .val (.ref o129), .val (.int (2 : Int32)), .unset, .unset, .unset, .unset] [(.int (35 : Int32)), (.int r9)])) _
              refine XS.icmpYes X142.here hx rfl (pc0 := 147) (pc' := 154) rfl (hb hby at_147) rfl (teq hc147).1 (by decide) (by decide) ?_
              refine XS.iconst X142.here hx rfl (hb hby at_154) ?_
              refine XS.istore X142.here hx rfl (hb hby at_155) rfl (l' := #[.val (.int p1), .val (.int p2), .val (.int p3), .val (.int p4), .val (.int p5), .val (.int (4 : Int32)), .val (.ref b1o), .val (.ref o129), .val (.int (2 : Int32)), .val (.int (0 : Int32)), .unset, .unset, .unset]) rfl ?_
              refine XS.aload X142.here hx rfl (hb hby at_157) rfl rfl ?_
              refine st165 _ ?_
              refine XS.astore X165.here hx rfl (hb hby at_162) rfl rfl (l' := #[.val (.int p1), .val (.int p2), .val (.int p3), .val (.int p4), .val (.int p5), .val (.int (4 : Int32)), .val (.ref b1o), .val (.ref o129), .val (.int (2 : Int32)), .val (.int (0 : Int32)), .val (.ref eo), .unset, .unset]) rfl ?_
              refine XS.aload X165.here hx rfl (hb hby at_164) rfl rfl ?_
              refine XS.ifnonnullYes X165.here hx rfl (pc0 := 166) (pc' := 171) rfl (hb hby at_166) rfl (by decide) (by decide) ?_
              refine XS.iload X165.here hx rfl (hb hby at_171) rfl ?_
              refine XS.ifNo X165.here hx rfl (hb hby at_173) rfl ((if0 _ _).trans (teq (by decide)).2) ?_
              refine XS.aload X165.here hx rfl (hb hby at_176) rfl rfl ?_
              refine st167.trans ?_
              refine XS.ifNo X167.here hx rfl (hb hby at_181) rfl ((if0 _ _).trans (teq (by decide)).2) ?_
              refine XS.iconst X167.here hx rfl (hb hby at_184) ?_
              refine XS.goto X167.here hx rfl (pc0 := 185) (pc' := 189) rfl (hb hby at_185) (by decide) (by decide) ?_
              show Steps p.tables e below (T167.setTop (mkF m 189 #[.val (.int p1), .val (.int p2), .val (.int p3), .val (.int p4), .val (.int p5), .val (.int (4 : Int32)), .val (.ref b1o), .val (.ref o129), .val (.int (2 : Int32)), .val (.int (0 : Int32)), .val (.ref eo), .unset, .unset] [(.int (1 : Int32))])) _
              exact retN X167 hx (t := .boolean) Bd.returns (by simp) (hb hby at_189) hr
            · show Qrm0 Z p1 p2 p3 p4 p5 G1 gv eo h0 n0 _ T167.heap _
              exact ⟨rfl, N167⟩
          · have f169 := (f130.keep KC129 all0)
            obtain ⟨_, _, ⟨T168, Lq168, kq168, nq168⟩, -, X168, ⟨Lc168, hQ168, lq168, yq168, zq168⟩, st168⟩ := Jvm.LawKit.callS X142 hx (y := (⟨"com/example/wrasse/wrasse/io/LineFiles", "content", "(Ljava/lang/String;)Ljava/util/Optional;"⟩ : MethodName)) hown (mvT hZ (hw _ (own_w 31 rfl))) (mvT hZ (hw _ (own_w 32 rfl))) (mvT hZ (hw _ (own_w 33 rfl))) (mvT hZ (hw _ (own_w 34 rfl))) (by decide) (backOf (W := 0) (rKp l Z a0 hw [] o129 [r3, r6, r9, r12] 2 G1 gv eo [r9, r12] T129.heap n0 Z129 f169 O_S hgv O_2 P5 O_A O_H O_W TS129 (Nat.le_of_ble_eq_true rfl) (own_cons hr3 (own_cons hr6 (own_cons hr9 (own_cons hr12 own_nil)))) (own_befS (P := fun k => (([r3, r6, r9, r12] : List Int32).getD k 0 = (32 : Int32) ∨ ([r3, r6, r9, r12] : List Int32).getD k 0 = (9 : Int32))) (own_befS (P := fun k => (([r3, r6, r9, r12] : List Int32).getD k 0 = (32 : Int32) ∨ ([r3, r6, r9, r12] : List Int32).getD k 0 = (9 : Int32))) own_bef0 hB0) hB1) O_E ⟨(Nat.le_of_ble_eq_true rfl), rfl⟩ (Nat.le_of_ble_eq_true rfl) rfl hB2 hc147) hZ (hw _ (own_w 34 rfl)) (hw _ (own_w 33 rfl)) (by decide) (by decide)) (g := (mkF m 159 #[.val (.int p1), .val (.int p2), .val (.int p3), .val (.int p4), .val (.int p5), .val (.int (4 : Int32)), .val (.ref b1o), .val (.ref o129), .val (.int (2 : Int32)), .val (.int (1 : Int32)), .unset, .unset, .unset] [(.ref o129)])) rfl (by rw [hml]; rfl) (argsL := [(.ref o129)]) (rest := []) (lenOf pd_35 rfl) rfl (by show 2 * 0 + _ ≤ _; exact Nat.le_of_eq rfl) (hb hby at_159) (fun _ _ => ⟨rfl, e142, (by decide : 4 + 4 ≤ _), (by decide : 32 + 29 ≤ _)⟩)
            dsimp only [Pt.U, Pt.locs, Pt.cells, Pt.slots] at X168 lq168 yq168 zq168 st168 hQ168
            subst lq168 yq168 zq168
            obtain ⟨o168, x168, rfl, N168q, KC168, uE168, uV168, TS168⟩ := hQ168
            have N168 := Fr.app N142 N168q
            have Z168 : n0 ≤ T168.heap.size := Nat.le_trans Z129 KC168.1
            have f171 := (f169.keep KC168 all0)
            have f172 := (f131.keep KC168 nin0)
            obtain ⟨T170, L170, X170, e170, N170, st170⟩ := own_tail (ct := [r9, r12]) (sq := 2) (vs := [(.int r3), (.int r6), (.int r9), (.int r12)]) (by decide) (by decide) (by decide) (by decide) hx hZ hw hby hml hown f171 O_S hgv O_2 P5 O_A O_H O_W Z168 TS168 (Nat.le_of_ble_eq_true rfl) (own_cons hr9 (own_cons hr12 own_nil)) uE168 uV168 f172 (by decide : 2 + 2 ≤ 4) (own_befS (P := fun k => ([.int r3, .int r6, .int r9, .int r12] : List Value).getD (2 + k) (.int (0 : Int32)) = .int (([r9, r12] : List Int32).getD k 0)) (own_befS (P := fun k => ([.int r3, .int r6, .int r9, .int r12] : List Value).getD (2 + k) (.int (0 : Int32)) = .int (([r9, r12] : List Int32).getD k 0)) own_bef0 rfl) rfl) _ _ X168 rfl N168
            obtain ⟨fs, hr, hrun, hended, hwd⟩ := Jvm.Stand.leaveW (s := s) (vm₁ := s.vm) X170 hS0 (Nat.le_trans (Nat.le_trans (Nat.le_trans (Nat.le_trans (Nat.le_trans (Nat.le_trans (Nat.le_trans (Nat.le_trans (Nat.le_of_eq (congrArg Array.size hh)) E1.1) (Nat.le_of_eq W5.size.symm)) (Nat.le_of_eq W8.size.symm)) (Nat.le_of_eq W11.size.symm)) (Nat.le_of_eq W14.size.symm)) KC129.1) KC168.1) (Nat.le_of_eq (congrArg Array.size e170).symm)) (v := some (.int (1 : Int32))) (fun h => by rw [Bd.returns] at h; cases h)
            refine ⟨_, _, pre0 _ ?_, hrun, hended, _, _, rfl, ?_, hwd.1, hwd.2.1, hwd.2.2.1, hwd.2.2.2.mono (by decide) (by decide)⟩
            · refine pq164 _ ?_
              show Steps p.tables e below (T142.setTop (mkF m 147 #[.val (.int p1), .val (.int p2), .val (.int p3), .val (.int p4), .val (.int p5), .val (.int (4 : Int32)), .val (.ref b1o), .val (.ref o129), .val (.int (2 : Int32)), .unset, .unset, .unset, .unset] [(.int (35 : Int32)), (.int r9)])) _
              refine XS.icmpNo X142.here hx rfl (hb hby at_147) rfl (feq hc147).1 ?_
              refine XS.iconst X142.here hx rfl (hb hby at_150) ?_
              refine XS.goto X142.here hx rfl (pc0 := 151) (pc' := 155) rfl (hb hby at_151) (by decide) (by decide) ?_
              refine XS.istore X142.here hx rfl (hb hby at_155) rfl (l' := #[.val (.int p1), .val (.int p2), .val (.int p3), .val (.int p4), .val (.int p5), .val (.int (4 : Int32)), .val (.ref b1o), .val (.ref o129), .val (.int (2 : Int32)), .val (.int (1 : Int32)), .unset, .unset, .unset]) rfl ?_
              refine XS.aload X142.here hx rfl (hb hby at_157) rfl rfl ?_
              refine st168 _ ?_
              refine XS.astore X168.here hx rfl (hb hby at_162) rfl rfl (l' := #[.val (.int p1), .val (.int p2), .val (.int p3), .val (.int p4), .val (.int p5), .val (.int (4 : Int32)), .val (.ref b1o), .val (.ref o129), .val (.int (2 : Int32)), .val (.int (1 : Int32)), .val (.ref o168), .unset, .unset]) rfl ?_
              refine XS.aload X168.here hx rfl (hb hby at_164) rfl rfl ?_
              refine XS.ifnonnullYes X168.here hx rfl (pc0 := 166) (pc' := 171) rfl (hb hby at_166) rfl (by decide) (by decide) ?_
              refine XS.iload X168.here hx rfl (hb hby at_171) rfl ?_
              refine XS.ifYes X168.here hx rfl (pc0 := 173) (pc' := 190) rfl (hb hby at_173) rfl ((if0 _ _).trans (feq (by decide)).2) (by decide) (by decide) ?_
              refine st170 _ ?_
              show Steps p.tables e below (T170.setTop (mkF m 294 #[.val (.int p1), .val (.int p2), .val (.int p3), .val (.int p4), .val (.int p5), .val (.int (4 : Int32)), .val (.ref b1o), .val (.ref o129), .val (.int (2 : Int32)), .val (.int (1 : Int32)), .val (.ref o168), .val (.ref x168), .val (.int (2 : Int32))] [(.int (1 : Int32))])) _
              exact retN X170 hx (t := .boolean) Bd.returns (by simp) (hb hby at_294) hr
            · show Qrm0 Z p1 p2 p3 p4 p5 G1 gv eo h0 n0 _ T170.heap _
              exact ⟨rfl, N170⟩
      · skip
        obtain ⟨cl173, Ar173, qk173, Sz173, Nn173, Hh173, Gg173⟩ := id (f131)
        have hin174 : ¬ ((1 : Int32) < 0 ∨ cl173.slots.size ≤ ((1 : Int32)).toNatClampNeg) := inb_of Sz173 ⟨by decide, by decide⟩
        have hat174 : cl173.slots[((1 : Int32)).toNatClampNeg]? = some (.int r6) := Has.at Hh173 hin174 rfl
        have pq175 : ∀ t, Steps p.tables e below (T138.setTop (mkF m 147 #[.val (.int p1), .val (.int p2), .val (.int p3), .val (.int p4), .val (.int p5), .val (.int (4 : Int32)), .val (.ref b1o), .val (.ref o129), .val (.int (1 : Int32)), .unset, .unset, .unset, .unset] [(.int (35 : Int32)), (.int r6)])) t → Steps p.tables e below (s₁.setTop (mkF m 0 #[.val (.int p1), .val (.int p2), .val (.int p3), .val (.int p4), .val (.int p5), .unset, .unset, .unset, .unset, .unset, .unset, .unset, .unset] [])) t := by
          intro t kt
          refine pq139 _ ?_
          show Steps p.tables e below (T138.setTop (mkF m 89 #[.val (.int p1), .val (.int p2), .val (.int p3), .val (.int p4), .val (.int p5), .val (.int (4 : Int32)), .val (.ref b1o), .val (.ref o129), .val (.int (1 : Int32)), .unset, .unset, .unset, .unset] [(.int r138)])) _
          rw [(hr138.trans (if_neg hB1))]
          show Steps p.tables e below (T138.setTop (mkF m 89 #[.val (.int p1), .val (.int p2), .val (.int p3), .val (.int p4), .val (.int p5), .val (.int (4 : Int32)), .val (.ref b1o), .val (.ref o129), .val (.int (1 : Int32)), .unset, .unset, .unset, .unset] [(.int (0 : Int32))])) _
          refine XS.ifYes X138.here hx rfl (pc0 := 89) (pc' := 133) rfl (hb hby at_89) rfl ((if0 _ _).trans (teq (by decide)).1) (by decide) (by decide) ?_
          refine XS.iload X138.here hx rfl (hb hby at_133) rfl ?_
          refine XS.iload X138.here hx rfl (hb hby at_135) rfl ?_
          refine XS.icmpNo X138.here hx rfl (hb hby at_137) rfl (tlt (by decide)).2.1 ?_
          refine XS.aload X138.here hx rfl (hb hby at_140) rfl rfl ?_
          refine XS.iload X138.here hx rfl (hb hby at_142) rfl ?_
          refine X138.caload hx (j := (1 : Int32)) (v := (.int r6)) (by rw [e138]; exact Ar173.1) (State.isArrayOf_alike hZ.alike Ar173.2.1) Ar173.2.2 hin174 hat174 (g := (mkF m 144 #[.val (.int p1), .val (.int p2), .val (.int p3), .val (.int p4), .val (.int p5), .val (.int (4 : Int32)), .val (.ref b1o), .val (.ref o129), .val (.int (1 : Int32)), .unset, .unset, .unset, .unset] [(.int (1 : Int32)), (.ref b1o)])) rfl rfl (hb hby at_144) _ ?_
          refine XS.bipush X138.here hx rfl (hb hby at_145) ?_
          exact kt
        by_cases hc147 : r6 = (35 : Int32)
        · have f177 := (f130.keep KC129 all0)
          obtain ⟨_, _, ⟨T176, Lq176, kq176, nq176⟩, -, X176, ⟨Lc176, hQ176, lq176, yq176, zq176⟩, st176⟩ := Jvm.LawKit.callS X138 hx (y := (⟨"com/example/wrasse/wrasse/io/LineFiles", "content", "(Ljava/lang/String;)Ljava/util/Optional;"⟩ : MethodName)) hown (mvT hZ (hw _ (own_w 31 rfl))) (mvT hZ (hw _ (own_w 32 rfl))) (mvT hZ (hw _ (own_w 33 rfl))) (mvT hZ (hw _ (own_w 34 rfl))) (by decide) (backOf (W := 0) (rKe l Z a0 hw [] o129 [r3, r6, r9, r12] 1 G1 gv eo T129.heap n0 Z129 f177 O_S hgv O_2 P5 O_A O_H O_W TS129 (Nat.le_of_ble_eq_true rfl) (own_cons hr3 (own_cons hr6 (own_cons hr9 (own_cons hr12 own_nil)))) (own_befS (P := fun k => (([r3, r6, r9, r12] : List Int32).getD k 0 = (32 : Int32) ∨ ([r3, r6, r9, r12] : List Int32).getD k 0 = (9 : Int32))) own_bef0 hB0) (Or.inr ⟨(Nat.le_of_ble_eq_true rfl), hc147⟩) O_E) hZ (hw _ (own_w 34 rfl)) (hw _ (own_w 33 rfl)) (by decide) (by decide)) (g := (mkF m 159 #[.val (.int p1), .val (.int p2), .val (.int p3), .val (.int p4), .val (.int p5), .val (.int (4 : Int32)), .val (.ref b1o), .val (.ref o129), .val (.int (1 : Int32)), .val (.int (0 : Int32)), .unset, .unset, .unset] [(.ref o129)])) rfl (by rw [hml]; rfl) (argsL := [(.ref o129)]) (rest := []) (lenOf pd_35 rfl) rfl (by show 2 * 0 + _ ≤ _; exact Nat.le_of_eq rfl) (hb hby at_159) (fun _ _ => ⟨rfl, e138, (by decide : 4 + 0 ≤ _), (by decide : 32 + 0 ≤ _)⟩)
          dsimp only [Pt.U, Pt.locs, Pt.cells, Pt.slots] at X176 lq176 yq176 zq176 st176 hQ176
          subst lq176 yq176 zq176
          obtain ⟨rfl, N176q, e176⟩ := hQ176
          have N176 := Fr.app N138 N176q
          obtain ⟨cq178, kz178, q178a, q178b, q178c⟩ := isOf hZ e176 (O_EE.ext f177.2)
          obtain ⟨_, _, ⟨T178, Lq178, kq178, nq178⟩, -, X178, ⟨Lc178, hQ178, lq178, yq178, zq178⟩, st178⟩ := X176.virtualBack hx (y := (⟨"java/util/Optional", "isPresent", "()Z"⟩ : MethodName)) (z := (⟨"java/util/Optional", "isPresent", "()Z"⟩ : MethodName)) hown (mvT hZ (hw _ (own_w 51 rfl))) (mvT hZ (hw _ (own_w 52 rfl))) (notFace_of_selects (args := #[]) (mvT hZ (hw _ (own_w 54 rfl)))) (mvT hZ (hw _ (own_w 54 rfl))) (mvT hZ (hw _ (own_w 53 rfl))) (by decide) (backOf (W := 0) (rOp0 l Z a0 hw [] eo  T129.heap n0 Z129 (O_EV.ext f177.2)) hZ (hw _ (own_w 55 rfl)) (hw _ (own_w 48 rfl)) (by decide) (by decide)) q178a q178c (g := (mkF m 178 #[.val (.int p1), .val (.int p2), .val (.int p3), .val (.int p4), .val (.int p5), .val (.int (4 : Int32)), .val (.ref b1o), .val (.ref o129), .val (.int (1 : Int32)), .val (.int (0 : Int32)), .val (.ref eo), .unset, .unset] [(.ref eo)])) rfl (by rw [hml]; rfl) (Steps.refl _) (argsL := []) (rest := []) (lenOf pd_7 rfl) rfl (by show 2 * 0 + _ ≤ _; exact Nat.le_of_eq rfl) (hb hby at_178) (fun _ _ => ⟨rfl, e176, (by decide : 4 + 0 ≤ _), (by decide : 32 + 0 ≤ _)⟩)
          dsimp only [Pt.U, Pt.locs, Pt.cells, Pt.slots] at X178 lq178 yq178 zq178 st178 hQ178
          subst lq178 yq178 zq178
          obtain ⟨r178, hr178, rfl, N178q, e178⟩ := hQ178
          have N178 := Fr.app N176 N178q
          subst hr178
          obtain ⟨fs, hr, hrun, hended, hwd⟩ := Jvm.Stand.leaveW (s := s) (vm₁ := s.vm) X178 hS0 (Nat.le_trans (Nat.le_trans (Nat.le_trans (Nat.le_trans (Nat.le_trans (Nat.le_trans (Nat.le_trans (Nat.le_of_eq (congrArg Array.size hh)) E1.1) (Nat.le_of_eq W5.size.symm)) (Nat.le_of_eq W8.size.symm)) (Nat.le_of_eq W11.size.symm)) (Nat.le_of_eq W14.size.symm)) KC129.1) (Nat.le_of_eq (congrArg Array.size e178).symm)) (v := some (.int (1 : Int32))) (fun h => by rw [Bd.returns] at h; cases h)
          refine ⟨_, _, pre0 _ ?_, hrun, hended, _, _, rfl, ?_, hwd.1, hwd.2.1, hwd.2.2.1, hwd.2.2.2.mono (by decide) (by decide)⟩
          · refine pq175 _ ?_
            show Steps p.tables e below (T138.setTop (mkF m 147 #[.val (.int p1), .val (.int p2), .val (.int p3), .val (.int p4), .val (.int p5), .val (.int (4 : Int32)), .val (.ref b1o), .val (.ref o129), .val (.int (1 : Int32)), .unset, .unset, .unset, .unset] [(.int (35 : Int32)), (.int r6)])) _
            refine XS.icmpYes X138.here hx rfl (pc0 := 147) (pc' := 154) rfl (hb hby at_147) rfl (teq hc147).1 (by decide) (by decide) ?_
            refine XS.iconst X138.here hx rfl (hb hby at_154) ?_
            refine XS.istore X138.here hx rfl (hb hby at_155) rfl (l' := #[.val (.int p1), .val (.int p2), .val (.int p3), .val (.int p4), .val (.int p5), .val (.int (4 : Int32)), .val (.ref b1o), .val (.ref o129), .val (.int (1 : Int32)), .val (.int (0 : Int32)), .unset, .unset, .unset]) rfl ?_
            refine XS.aload X138.here hx rfl (hb hby at_157) rfl rfl ?_
            refine st176 _ ?_
            refine XS.astore X176.here hx rfl (hb hby at_162) rfl rfl (l' := #[.val (.int p1), .val (.int p2), .val (.int p3), .val (.int p4), .val (.int p5), .val (.int (4 : Int32)), .val (.ref b1o), .val (.ref o129), .val (.int (1 : Int32)), .val (.int (0 : Int32)), .val (.ref eo), .unset, .unset]) rfl ?_
            refine XS.aload X176.here hx rfl (hb hby at_164) rfl rfl ?_
            refine XS.ifnonnullYes X176.here hx rfl (pc0 := 166) (pc' := 171) rfl (hb hby at_166) rfl (by decide) (by decide) ?_
            refine XS.iload X176.here hx rfl (hb hby at_171) rfl ?_
            refine XS.ifNo X176.here hx rfl (hb hby at_173) rfl ((if0 _ _).trans (teq (by decide)).2) ?_
            refine XS.aload X176.here hx rfl (hb hby at_176) rfl rfl ?_
            refine st178.trans ?_
            refine XS.ifNo X178.here hx rfl (hb hby at_181) rfl ((if0 _ _).trans (teq (by decide)).2) ?_
            refine XS.iconst X178.here hx rfl (hb hby at_184) ?_
            refine XS.goto X178.here hx rfl (pc0 := 185) (pc' := 189) rfl (hb hby at_185) (by decide) (by decide) ?_
            show Steps p.tables e below (T178.setTop (mkF m 189 #[.val (.int p1), .val (.int p2), .val (.int p3), .val (.int p4), .val (.int p5), .val (.int (4 : Int32)), .val (.ref b1o), .val (.ref o129), .val (.int (1 : Int32)), .val (.int (0 : Int32)), .val (.ref eo), .unset, .unset] [(.int (1 : Int32))])) _
            exact retN X178 hx (t := .boolean) Bd.returns (by simp) (hb hby at_189) hr
          · show Qrm0 Z p1 p2 p3 p4 p5 G1 gv eo h0 n0 _ T178.heap _
            exact ⟨rfl, N178⟩
        · have f180 := (f130.keep KC129 all0)
          obtain ⟨_, _, ⟨T179, Lq179, kq179, nq179⟩, -, X179, ⟨Lc179, hQ179, lq179, yq179, zq179⟩, st179⟩ := Jvm.LawKit.callS X138 hx (y := (⟨"com/example/wrasse/wrasse/io/LineFiles", "content", "(Ljava/lang/String;)Ljava/util/Optional;"⟩ : MethodName)) hown (mvT hZ (hw _ (own_w 31 rfl))) (mvT hZ (hw _ (own_w 32 rfl))) (mvT hZ (hw _ (own_w 33 rfl))) (mvT hZ (hw _ (own_w 34 rfl))) (by decide) (backOf (W := 0) (rKp l Z a0 hw [] o129 [r3, r6, r9, r12] 1 G1 gv eo [r6, r9, r12] T129.heap n0 Z129 f180 O_S hgv O_2 P5 O_A O_H O_W TS129 (Nat.le_of_ble_eq_true rfl) (own_cons hr3 (own_cons hr6 (own_cons hr9 (own_cons hr12 own_nil)))) (own_befS (P := fun k => (([r3, r6, r9, r12] : List Int32).getD k 0 = (32 : Int32) ∨ ([r3, r6, r9, r12] : List Int32).getD k 0 = (9 : Int32))) own_bef0 hB0) O_E ⟨(Nat.le_of_ble_eq_true rfl), rfl⟩ (Nat.le_of_ble_eq_true rfl) rfl hB1 hc147) hZ (hw _ (own_w 34 rfl)) (hw _ (own_w 33 rfl)) (by decide) (by decide)) (g := (mkF m 159 #[.val (.int p1), .val (.int p2), .val (.int p3), .val (.int p4), .val (.int p5), .val (.int (4 : Int32)), .val (.ref b1o), .val (.ref o129), .val (.int (1 : Int32)), .val (.int (1 : Int32)), .unset, .unset, .unset] [(.ref o129)])) rfl (by rw [hml]; rfl) (argsL := [(.ref o129)]) (rest := []) (lenOf pd_35 rfl) rfl (by show 2 * 0 + _ ≤ _; exact Nat.le_of_eq rfl) (hb hby at_159) (fun _ _ => ⟨rfl, e138, (by decide : 4 + 4 ≤ _), (by decide : 32 + 29 ≤ _)⟩)
          dsimp only [Pt.U, Pt.locs, Pt.cells, Pt.slots] at X179 lq179 yq179 zq179 st179 hQ179
          subst lq179 yq179 zq179
          obtain ⟨o179, x179, rfl, N179q, KC179, uE179, uV179, TS179⟩ := hQ179
          have N179 := Fr.app N138 N179q
          have Z179 : n0 ≤ T179.heap.size := Nat.le_trans Z129 KC179.1
          have f182 := (f180.keep KC179 all0)
          have f183 := (f131.keep KC179 nin0)
          obtain ⟨T181, L181, X181, e181, N181, st181⟩ := own_tail (ct := [r6, r9, r12]) (sq := 1) (vs := [(.int r3), (.int r6), (.int r9), (.int r12)]) (by decide) (by decide) (by decide) (by decide) hx hZ hw hby hml hown f182 O_S hgv O_2 P5 O_A O_H O_W Z179 TS179 (Nat.le_of_ble_eq_true rfl) (own_cons hr6 (own_cons hr9 (own_cons hr12 own_nil))) uE179 uV179 f183 (by decide : 1 + 3 ≤ 4) (own_befS (P := fun k => ([.int r3, .int r6, .int r9, .int r12] : List Value).getD (1 + k) (.int (0 : Int32)) = .int (([r6, r9, r12] : List Int32).getD k 0)) (own_befS (P := fun k => ([.int r3, .int r6, .int r9, .int r12] : List Value).getD (1 + k) (.int (0 : Int32)) = .int (([r6, r9, r12] : List Int32).getD k 0)) (own_befS (P := fun k => ([.int r3, .int r6, .int r9, .int r12] : List Value).getD (1 + k) (.int (0 : Int32)) = .int (([r6, r9, r12] : List Int32).getD k 0)) own_bef0 rfl) rfl) rfl) _ _ X179 rfl N179
          obtain ⟨fs, hr, hrun, hended, hwd⟩ := Jvm.Stand.leaveW (s := s) (vm₁ := s.vm) X181 hS0 (Nat.le_trans (Nat.le_trans (Nat.le_trans (Nat.le_trans (Nat.le_trans (Nat.le_trans (Nat.le_trans (Nat.le_trans (Nat.le_of_eq (congrArg Array.size hh)) E1.1) (Nat.le_of_eq W5.size.symm)) (Nat.le_of_eq W8.size.symm)) (Nat.le_of_eq W11.size.symm)) (Nat.le_of_eq W14.size.symm)) KC129.1) KC179.1) (Nat.le_of_eq (congrArg Array.size e181).symm)) (v := some (.int (1 : Int32))) (fun h => by rw [Bd.returns] at h; cases h)
          refine ⟨_, _, pre0 _ ?_, hrun, hended, _, _, rfl, ?_, hwd.1, hwd.2.1, hwd.2.2.1, hwd.2.2.2.mono (by decide) (by decide)⟩
          · refine pq175 _ ?_
            show Steps p.tables e below (T138.setTop (mkF m 147 #[.val (.int p1), .val (.int p2), .val (.int p3), .val (.int p4), .val (.int p5), .val (.int (4 : Int32)), .val (.ref b1o), .val (.ref o129), .val (.int (1 : Int32)), .unset, .unset, .unset, .unset] [(.int (35 : Int32)), (.int r6)])) _
            refine XS.icmpNo X138.here hx rfl (hb hby at_147) rfl (feq hc147).1 ?_
            refine XS.iconst X138.here hx rfl (hb hby at_150) ?_
            refine XS.goto X138.here hx rfl (pc0 := 151) (pc' := 155) rfl (hb hby at_151) (by decide) (by decide) ?_
            refine XS.istore X138.here hx rfl (hb hby at_155) rfl (l' := #[.val (.int p1), .val (.int p2), .val (.int p3), .val (.int p4), .val (.int p5), .val (.int (4 : Int32)), .val (.ref b1o), .val (.ref o129), .val (.int (1 : Int32)), .val (.int (1 : Int32)), .unset, .unset, .unset]) rfl ?_
            refine XS.aload X138.here hx rfl (hb hby at_157) rfl rfl ?_
            refine st179 _ ?_
            refine XS.astore X179.here hx rfl (hb hby at_162) rfl rfl (l' := #[.val (.int p1), .val (.int p2), .val (.int p3), .val (.int p4), .val (.int p5), .val (.int (4 : Int32)), .val (.ref b1o), .val (.ref o129), .val (.int (1 : Int32)), .val (.int (1 : Int32)), .val (.ref o179), .unset, .unset]) rfl ?_
            refine XS.aload X179.here hx rfl (hb hby at_164) rfl rfl ?_
            refine XS.ifnonnullYes X179.here hx rfl (pc0 := 166) (pc' := 171) rfl (hb hby at_166) rfl (by decide) (by decide) ?_
            refine XS.iload X179.here hx rfl (hb hby at_171) rfl ?_
            refine XS.ifYes X179.here hx rfl (pc0 := 173) (pc' := 190) rfl (hb hby at_173) rfl ((if0 _ _).trans (feq (by decide)).2) (by decide) (by decide) ?_
            refine st181 _ ?_
            show Steps p.tables e below (T181.setTop (mkF m 294 #[.val (.int p1), .val (.int p2), .val (.int p3), .val (.int p4), .val (.int p5), .val (.int (4 : Int32)), .val (.ref b1o), .val (.ref o129), .val (.int (1 : Int32)), .val (.int (1 : Int32)), .val (.ref o179), .val (.ref x179), .val (.int (3 : Int32))] [(.int (1 : Int32))])) _
            exact retN X181 hx (t := .boolean) Bd.returns (by simp) (hb hby at_294) hr
          · show Qrm0 Z p1 p2 p3 p4 p5 G1 gv eo h0 n0 _ T181.heap _
            exact ⟨rfl, N181⟩
    · skip
      obtain ⟨cl184, Ar184, qk184, Sz184, Nn184, Hh184, Gg184⟩ := id (f131)
      have hin185 : ¬ ((0 : Int32) < 0 ∨ cl184.slots.size ≤ ((0 : Int32)).toNatClampNeg) := inb_of Sz184 ⟨by decide, by decide⟩
      have hat185 : cl184.slots[((0 : Int32)).toNatClampNeg]? = some (.int r3) := Has.at Hh184 hin185 rfl
      have pq186 : ∀ t, Steps p.tables e below (T134.setTop (mkF m 147 #[.val (.int p1), .val (.int p2), .val (.int p3), .val (.int p4), .val (.int p5), .val (.int (4 : Int32)), .val (.ref b1o), .val (.ref o129), .val (.int (0 : Int32)), .unset, .unset, .unset, .unset] [(.int (35 : Int32)), (.int r3)])) t → Steps p.tables e below (s₁.setTop (mkF m 0 #[.val (.int p1), .val (.int p2), .val (.int p3), .val (.int p4), .val (.int p5), .unset, .unset, .unset, .unset, .unset, .unset, .unset, .unset] [])) t := by
        intro t kt
        refine pq135 _ ?_
        show Steps p.tables e below (T134.setTop (mkF m 70 #[.val (.int p1), .val (.int p2), .val (.int p3), .val (.int p4), .val (.int p5), .val (.int (4 : Int32)), .val (.ref b1o), .val (.ref o129), .val (.int (0 : Int32)), .unset, .unset, .unset, .unset] [(.int r134)])) _
        rw [(hr134.trans (if_neg hB0))]
        show Steps p.tables e below (T134.setTop (mkF m 70 #[.val (.int p1), .val (.int p2), .val (.int p3), .val (.int p4), .val (.int p5), .val (.int (4 : Int32)), .val (.ref b1o), .val (.ref o129), .val (.int (0 : Int32)), .unset, .unset, .unset, .unset] [(.int (0 : Int32))])) _
        refine XS.ifYes X134.here hx rfl (pc0 := 70) (pc' := 133) rfl (hb hby at_70) rfl ((if0 _ _).trans (teq (by decide)).1) (by decide) (by decide) ?_
        refine XS.iload X134.here hx rfl (hb hby at_133) rfl ?_
        refine XS.iload X134.here hx rfl (hb hby at_135) rfl ?_
        refine XS.icmpNo X134.here hx rfl (hb hby at_137) rfl (tlt (by decide)).2.1 ?_
        refine XS.aload X134.here hx rfl (hb hby at_140) rfl rfl ?_
        refine XS.iload X134.here hx rfl (hb hby at_142) rfl ?_
        refine X134.caload hx (j := (0 : Int32)) (v := (.int r3)) (by rw [e134]; exact Ar184.1) (State.isArrayOf_alike hZ.alike Ar184.2.1) Ar184.2.2 hin185 hat185 (g := (mkF m 144 #[.val (.int p1), .val (.int p2), .val (.int p3), .val (.int p4), .val (.int p5), .val (.int (4 : Int32)), .val (.ref b1o), .val (.ref o129), .val (.int (0 : Int32)), .unset, .unset, .unset, .unset] [(.int (0 : Int32)), (.ref b1o)])) rfl rfl (hb hby at_144) _ ?_
        refine XS.bipush X134.here hx rfl (hb hby at_145) ?_
        exact kt
      by_cases hc147 : r3 = (35 : Int32)
      · have f188 := (f130.keep KC129 all0)
        obtain ⟨_, _, ⟨T187, Lq187, kq187, nq187⟩, -, X187, ⟨Lc187, hQ187, lq187, yq187, zq187⟩, st187⟩ := Jvm.LawKit.callS X134 hx (y := (⟨"com/example/wrasse/wrasse/io/LineFiles", "content", "(Ljava/lang/String;)Ljava/util/Optional;"⟩ : MethodName)) hown (mvT hZ (hw _ (own_w 31 rfl))) (mvT hZ (hw _ (own_w 32 rfl))) (mvT hZ (hw _ (own_w 33 rfl))) (mvT hZ (hw _ (own_w 34 rfl))) (by decide) (backOf (W := 0) (rKe l Z a0 hw [] o129 [r3, r6, r9, r12] 0 G1 gv eo T129.heap n0 Z129 f188 O_S hgv O_2 P5 O_A O_H O_W TS129 (Nat.le_of_ble_eq_true rfl) (own_cons hr3 (own_cons hr6 (own_cons hr9 (own_cons hr12 own_nil)))) own_bef0 (Or.inr ⟨(Nat.le_of_ble_eq_true rfl), hc147⟩) O_E) hZ (hw _ (own_w 34 rfl)) (hw _ (own_w 33 rfl)) (by decide) (by decide)) (g := (mkF m 159 #[.val (.int p1), .val (.int p2), .val (.int p3), .val (.int p4), .val (.int p5), .val (.int (4 : Int32)), .val (.ref b1o), .val (.ref o129), .val (.int (0 : Int32)), .val (.int (0 : Int32)), .unset, .unset, .unset] [(.ref o129)])) rfl (by rw [hml]; rfl) (argsL := [(.ref o129)]) (rest := []) (lenOf pd_35 rfl) rfl (by show 2 * 0 + _ ≤ _; exact Nat.le_of_eq rfl) (hb hby at_159) (fun _ _ => ⟨rfl, e134, (by decide : 4 + 0 ≤ _), (by decide : 32 + 0 ≤ _)⟩)
        dsimp only [Pt.U, Pt.locs, Pt.cells, Pt.slots] at X187 lq187 yq187 zq187 st187 hQ187
        subst lq187 yq187 zq187
        obtain ⟨rfl, N187q, e187⟩ := hQ187
        have N187 := Fr.app N134 N187q
        obtain ⟨cq189, kz189, q189a, q189b, q189c⟩ := isOf hZ e187 (O_EE.ext f188.2)
        obtain ⟨_, _, ⟨T189, Lq189, kq189, nq189⟩, -, X189, ⟨Lc189, hQ189, lq189, yq189, zq189⟩, st189⟩ := X187.virtualBack hx (y := (⟨"java/util/Optional", "isPresent", "()Z"⟩ : MethodName)) (z := (⟨"java/util/Optional", "isPresent", "()Z"⟩ : MethodName)) hown (mvT hZ (hw _ (own_w 51 rfl))) (mvT hZ (hw _ (own_w 52 rfl))) (notFace_of_selects (args := #[]) (mvT hZ (hw _ (own_w 54 rfl)))) (mvT hZ (hw _ (own_w 54 rfl))) (mvT hZ (hw _ (own_w 53 rfl))) (by decide) (backOf (W := 0) (rOp0 l Z a0 hw [] eo  T129.heap n0 Z129 (O_EV.ext f188.2)) hZ (hw _ (own_w 55 rfl)) (hw _ (own_w 48 rfl)) (by decide) (by decide)) q189a q189c (g := (mkF m 178 #[.val (.int p1), .val (.int p2), .val (.int p3), .val (.int p4), .val (.int p5), .val (.int (4 : Int32)), .val (.ref b1o), .val (.ref o129), .val (.int (0 : Int32)), .val (.int (0 : Int32)), .val (.ref eo), .unset, .unset] [(.ref eo)])) rfl (by rw [hml]; rfl) (Steps.refl _) (argsL := []) (rest := []) (lenOf pd_7 rfl) rfl (by show 2 * 0 + _ ≤ _; exact Nat.le_of_eq rfl) (hb hby at_178) (fun _ _ => ⟨rfl, e187, (by decide : 4 + 0 ≤ _), (by decide : 32 + 0 ≤ _)⟩)
        dsimp only [Pt.U, Pt.locs, Pt.cells, Pt.slots] at X189 lq189 yq189 zq189 st189 hQ189
        subst lq189 yq189 zq189
        obtain ⟨r189, hr189, rfl, N189q, e189⟩ := hQ189
        have N189 := Fr.app N187 N189q
        subst hr189
        obtain ⟨fs, hr, hrun, hended, hwd⟩ := Jvm.Stand.leaveW (s := s) (vm₁ := s.vm) X189 hS0 (Nat.le_trans (Nat.le_trans (Nat.le_trans (Nat.le_trans (Nat.le_trans (Nat.le_trans (Nat.le_trans (Nat.le_of_eq (congrArg Array.size hh)) E1.1) (Nat.le_of_eq W5.size.symm)) (Nat.le_of_eq W8.size.symm)) (Nat.le_of_eq W11.size.symm)) (Nat.le_of_eq W14.size.symm)) KC129.1) (Nat.le_of_eq (congrArg Array.size e189).symm)) (v := some (.int (1 : Int32))) (fun h => by rw [Bd.returns] at h; cases h)
        refine ⟨_, _, pre0 _ ?_, hrun, hended, _, _, rfl, ?_, hwd.1, hwd.2.1, hwd.2.2.1, hwd.2.2.2.mono (by decide) (by decide)⟩
        · refine pq186 _ ?_
          show Steps p.tables e below (T134.setTop (mkF m 147 #[.val (.int p1), .val (.int p2), .val (.int p3), .val (.int p4), .val (.int p5), .val (.int (4 : Int32)), .val (.ref b1o), .val (.ref o129), .val (.int (0 : Int32)), .unset, .unset, .unset, .unset] [(.int (35 : Int32)), (.int r3)])) _
          refine XS.icmpYes X134.here hx rfl (pc0 := 147) (pc' := 154) rfl (hb hby at_147) rfl (teq hc147).1 (by decide) (by decide) ?_
          refine XS.iconst X134.here hx rfl (hb hby at_154) ?_
          refine XS.istore X134.here hx rfl (hb hby at_155) rfl (l' := #[.val (.int p1), .val (.int p2), .val (.int p3), .val (.int p4), .val (.int p5), .val (.int (4 : Int32)), .val (.ref b1o), .val (.ref o129), .val (.int (0 : Int32)), .val (.int (0 : Int32)), .unset, .unset, .unset]) rfl ?_
          refine XS.aload X134.here hx rfl (hb hby at_157) rfl rfl ?_
          refine st187 _ ?_
          refine XS.astore X187.here hx rfl (hb hby at_162) rfl rfl (l' := #[.val (.int p1), .val (.int p2), .val (.int p3), .val (.int p4), .val (.int p5), .val (.int (4 : Int32)), .val (.ref b1o), .val (.ref o129), .val (.int (0 : Int32)), .val (.int (0 : Int32)), .val (.ref eo), .unset, .unset]) rfl ?_
          refine XS.aload X187.here hx rfl (hb hby at_164) rfl rfl ?_
          refine XS.ifnonnullYes X187.here hx rfl (pc0 := 166) (pc' := 171) rfl (hb hby at_166) rfl (by decide) (by decide) ?_
          refine XS.iload X187.here hx rfl (hb hby at_171) rfl ?_
          refine XS.ifNo X187.here hx rfl (hb hby at_173) rfl ((if0 _ _).trans (teq (by decide)).2) ?_
          refine XS.aload X187.here hx rfl (hb hby at_176) rfl rfl ?_
          refine st189.trans ?_
          refine XS.ifNo X189.here hx rfl (hb hby at_181) rfl ((if0 _ _).trans (teq (by decide)).2) ?_
          refine XS.iconst X189.here hx rfl (hb hby at_184) ?_
          refine XS.goto X189.here hx rfl (pc0 := 185) (pc' := 189) rfl (hb hby at_185) (by decide) (by decide) ?_
          show Steps p.tables e below (T189.setTop (mkF m 189 #[.val (.int p1), .val (.int p2), .val (.int p3), .val (.int p4), .val (.int p5), .val (.int (4 : Int32)), .val (.ref b1o), .val (.ref o129), .val (.int (0 : Int32)), .val (.int (0 : Int32)), .val (.ref eo), .unset, .unset] [(.int (1 : Int32))])) _
          exact retN X189 hx (t := .boolean) Bd.returns (by simp) (hb hby at_189) hr
        · show Qrm0 Z p1 p2 p3 p4 p5 G1 gv eo h0 n0 _ T189.heap _
          exact ⟨rfl, N189⟩
      · have f191 := (f130.keep KC129 all0)
        obtain ⟨_, _, ⟨T190, Lq190, kq190, nq190⟩, -, X190, ⟨Lc190, hQ190, lq190, yq190, zq190⟩, st190⟩ := Jvm.LawKit.callS X134 hx (y := (⟨"com/example/wrasse/wrasse/io/LineFiles", "content", "(Ljava/lang/String;)Ljava/util/Optional;"⟩ : MethodName)) hown (mvT hZ (hw _ (own_w 31 rfl))) (mvT hZ (hw _ (own_w 32 rfl))) (mvT hZ (hw _ (own_w 33 rfl))) (mvT hZ (hw _ (own_w 34 rfl))) (by decide) (backOf (W := 0) (rKp l Z a0 hw [] o129 [r3, r6, r9, r12] 0 G1 gv eo [r3, r6, r9, r12] T129.heap n0 Z129 f191 O_S hgv O_2 P5 O_A O_H O_W TS129 (Nat.le_of_ble_eq_true rfl) (own_cons hr3 (own_cons hr6 (own_cons hr9 (own_cons hr12 own_nil)))) own_bef0 O_E ⟨(Nat.le_of_ble_eq_true rfl), rfl⟩ (Nat.le_of_ble_eq_true rfl) rfl hB0 hc147) hZ (hw _ (own_w 34 rfl)) (hw _ (own_w 33 rfl)) (by decide) (by decide)) (g := (mkF m 159 #[.val (.int p1), .val (.int p2), .val (.int p3), .val (.int p4), .val (.int p5), .val (.int (4 : Int32)), .val (.ref b1o), .val (.ref o129), .val (.int (0 : Int32)), .val (.int (1 : Int32)), .unset, .unset, .unset] [(.ref o129)])) rfl (by rw [hml]; rfl) (argsL := [(.ref o129)]) (rest := []) (lenOf pd_35 rfl) rfl (by show 2 * 0 + _ ≤ _; exact Nat.le_of_eq rfl) (hb hby at_159) (fun _ _ => ⟨rfl, e134, (by decide : 4 + 4 ≤ _), (by decide : 32 + 29 ≤ _)⟩)
        dsimp only [Pt.U, Pt.locs, Pt.cells, Pt.slots] at X190 lq190 yq190 zq190 st190 hQ190
        subst lq190 yq190 zq190
        obtain ⟨o190, x190, rfl, N190q, KC190, uE190, uV190, TS190⟩ := hQ190
        have N190 := Fr.app N134 N190q
        have Z190 : n0 ≤ T190.heap.size := Nat.le_trans Z129 KC190.1
        have f193 := (f191.keep KC190 all0)
        have f194 := (f131.keep KC190 nin0)
        obtain ⟨T192, L192, X192, e192, N192, st192⟩ := own_tail (ct := [r3, r6, r9, r12]) (sq := 0) (vs := [(.int r3), (.int r6), (.int r9), (.int r12)]) (by decide) (by decide) (by decide) (by decide) hx hZ hw hby hml hown f193 O_S hgv O_2 P5 O_A O_H O_W Z190 TS190 (Nat.le_of_ble_eq_true rfl) (own_cons hr3 (own_cons hr6 (own_cons hr9 (own_cons hr12 own_nil)))) uE190 uV190 f194 (by decide : 0 + 4 ≤ 4) (own_befS (P := fun k => ([.int r3, .int r6, .int r9, .int r12] : List Value).getD (0 + k) (.int (0 : Int32)) = .int (([r3, r6, r9, r12] : List Int32).getD k 0)) (own_befS (P := fun k => ([.int r3, .int r6, .int r9, .int r12] : List Value).getD (0 + k) (.int (0 : Int32)) = .int (([r3, r6, r9, r12] : List Int32).getD k 0)) (own_befS (P := fun k => ([.int r3, .int r6, .int r9, .int r12] : List Value).getD (0 + k) (.int (0 : Int32)) = .int (([r3, r6, r9, r12] : List Int32).getD k 0)) (own_befS (P := fun k => ([.int r3, .int r6, .int r9, .int r12] : List Value).getD (0 + k) (.int (0 : Int32)) = .int (([r3, r6, r9, r12] : List Int32).getD k 0)) own_bef0 rfl) rfl) rfl) rfl) _ _ X190 rfl N190
        obtain ⟨fs, hr, hrun, hended, hwd⟩ := Jvm.Stand.leaveW (s := s) (vm₁ := s.vm) X192 hS0 (Nat.le_trans (Nat.le_trans (Nat.le_trans (Nat.le_trans (Nat.le_trans (Nat.le_trans (Nat.le_trans (Nat.le_trans (Nat.le_of_eq (congrArg Array.size hh)) E1.1) (Nat.le_of_eq W5.size.symm)) (Nat.le_of_eq W8.size.symm)) (Nat.le_of_eq W11.size.symm)) (Nat.le_of_eq W14.size.symm)) KC129.1) KC190.1) (Nat.le_of_eq (congrArg Array.size e192).symm)) (v := some (.int (1 : Int32))) (fun h => by rw [Bd.returns] at h; cases h)
        refine ⟨_, _, pre0 _ ?_, hrun, hended, _, _, rfl, ?_, hwd.1, hwd.2.1, hwd.2.2.1, hwd.2.2.2.mono (by decide) (by decide)⟩
        · refine pq186 _ ?_
          show Steps p.tables e below (T134.setTop (mkF m 147 #[.val (.int p1), .val (.int p2), .val (.int p3), .val (.int p4), .val (.int p5), .val (.int (4 : Int32)), .val (.ref b1o), .val (.ref o129), .val (.int (0 : Int32)), .unset, .unset, .unset, .unset] [(.int (35 : Int32)), (.int r3)])) _
          refine XS.icmpNo X134.here hx rfl (hb hby at_147) rfl (feq hc147).1 ?_
          refine XS.iconst X134.here hx rfl (hb hby at_150) ?_
          refine XS.goto X134.here hx rfl (pc0 := 151) (pc' := 155) rfl (hb hby at_151) (by decide) (by decide) ?_
          refine XS.istore X134.here hx rfl (hb hby at_155) rfl (l' := #[.val (.int p1), .val (.int p2), .val (.int p3), .val (.int p4), .val (.int p5), .val (.int (4 : Int32)), .val (.ref b1o), .val (.ref o129), .val (.int (0 : Int32)), .val (.int (1 : Int32)), .unset, .unset, .unset]) rfl ?_
          refine XS.aload X134.here hx rfl (hb hby at_157) rfl rfl ?_
          refine st190 _ ?_
          refine XS.astore X190.here hx rfl (hb hby at_162) rfl rfl (l' := #[.val (.int p1), .val (.int p2), .val (.int p3), .val (.int p4), .val (.int p5), .val (.int (4 : Int32)), .val (.ref b1o), .val (.ref o129), .val (.int (0 : Int32)), .val (.int (1 : Int32)), .val (.ref o190), .unset, .unset]) rfl ?_
          refine XS.aload X190.here hx rfl (hb hby at_164) rfl rfl ?_
          refine XS.ifnonnullYes X190.here hx rfl (pc0 := 166) (pc' := 171) rfl (hb hby at_166) rfl (by decide) (by decide) ?_
          refine XS.iload X190.here hx rfl (hb hby at_171) rfl ?_
          refine XS.ifYes X190.here hx rfl (pc0 := 173) (pc' := 190) rfl (hb hby at_173) rfl ((if0 _ _).trans (feq (by decide)).2) (by decide) (by decide) ?_
          refine st192 _ ?_
          show Steps p.tables e below (T192.setTop (mkF m 294 #[.val (.int p1), .val (.int p2), .val (.int p3), .val (.int p4), .val (.int p5), .val (.int (4 : Int32)), .val (.ref b1o), .val (.ref o129), .val (.int (0 : Int32)), .val (.int (1 : Int32)), .val (.ref o190), .val (.ref x190), .val (.int (4 : Int32))] [(.int (1 : Int32))])) _
          exact retN X192 hx (t := .boolean) Bd.returns (by simp) (hb hby at_294) hr
        · show Qrm0 Z p1 p2 p3 p4 p5 G1 gv eo h0 n0 _ T192.heap _
          exact ⟨rfl, N192⟩
set_option maxRecDepth 65536 in
set_option maxHeartbeats 40000000 in
theorem comes_1 {Post : Tables → Env → Array Value → State → Outcome → State → Prop} (hpost : ∀ tb e args s v u, (limb_1_1.after args s (.returned v) u = true ∧ limb_1_2.after args s (.returned v) u = true) → ReturnedEndW s (.returned v) u (Jvm.fieldLocs frame_1_writes args s ++ Jvm.arrayLocs frame_1_arrays args s ++ Jvm.staticLocs frame_1_statics s) 32 1216 → Post tb e args s (.returned v) u) :
    ArmFor flags0 classFile x code maxLocals ret World_1 tables_1 room_1 Calls_1 rest_1 Pre_1 Post := by
  intro l hfl _ _ p e ha hc hk s m args below hf hA hF happ hP
  obtain ⟨hcalls, hrest, hpre⟩ := hP
  obtain ⟨-, -, -, hnamed, -, -, -, hat⟩ := (Spec.applies_iff hf).mp happ
  obtain ⟨hg, hn⟩ := and_e (Cond.before_iff.mp (show (Jvm.Cond.and given_1 narrow_1).before args s = true from hpre))
  obtain ⟨hcount, hg0⟩ := and_e hg
  obtain ⟨ha0, hg1⟩ := and_e hg0
  obtain ⟨ha1, hg2⟩ := and_e hg1
  obtain ⟨ha2, hg3⟩ := and_e hg2
  obtain ⟨ha3, hg4⟩ := and_e hg3
  obtain ⟨w0, w1, w2, w3, w4, rfl⟩ : ∃ w0 w1 w2 w3 w4 : Value, args = #[w0, w1, w2, w3, w4] := by
    have hs : args.size = 5 := by simpa [Cond.value, given_1] using hcount
    obtain ⟨L⟩ := args
    match L, hs with
    | [w0, w1, w2, w3, w4], _ => exact ⟨w0, w1, w2, w3, w4, rfl⟩
  have hw := fun d (hd : d ∈ tables_1) => atoms_spec (ws := Jvm.Cond.code x code maxLocals ret :: tables_1) hat d (List.mem_cons_of_mem _ hd)
  have hfit : Fit s := fun {y c} hc i hi => by
    obtain ⟨ha, rfl⟩ := Array.getElem?_eq_some_iff.mp hc
    have q := List.all_eq_true.mp ((Array.all_eq_true_iff_forall_mem.mp hF) _ (Array.getElem_mem ha)) i (List.mem_range.mpr hi)
    simpa [Array.getElem?_eq_getElem hi] using q
  obtain ⟨i0, ei0⟩ := is_v ha0
  obtain rfl : w0 = (.int i0) := Option.some.inj ei0
  obtain ⟨i1, ei1⟩ := is_v ha1
  obtain rfl : w1 = (.int i1) := Option.some.inj ei1
  obtain ⟨i2, ei2⟩ := is_v ha2
  obtain rfl : w2 = (.int i2) := Option.some.inj ei2
  obtain ⟨i3, ei3⟩ := is_v ha3
  obtain rfl : w3 = (.int i3) := Option.some.inj ei3
  obtain ⟨i4, ei4⟩ := is_v hg4
  obtain rfl : w4 = (.int i4) := Option.some.inj ei4
  obtain ⟨hsets, hown0⟩ := atoms_of _ (rest_1_c_eq ▸ (show rest_1_c.before _ s = true from hrest))
  have hcw := hsets _ (own_w 2 rfl)
  have n3 := not_v (Cond.before_iff.mp hcw)
  obtain ⟨G1, eG1⟩ := is_v (Cond.before_iff.mp (hsets _ (own_w 1 rfl)))
  have O_2 := Sta.start eG1 (Or.inl (hsets _ (own_w 0 rfl)))
  have P5 : ¬ (G1 = (0 : Int32)) := gotF (Cond.eq_ints eG1 (Term.int_eval (0))) n3
  obtain ⟨gv, egv, hgv⟩ := isR_v (Cond.before_iff.mp (hsets _ (own_w 8 rfl)))
  have O_S := Sta.start egv (Or.inl (hsets _ (own_w 7 rfl)))
  obtain ⟨eo, eeo⟩ := exa_v (Cond.before_iff.mp (hsets _ (own_w 11 rfl)))
  have O_E := Sta.start eeo (Or.inl (hsets _ (own_w 10 rfl)))
  have O_EE := Exa.start eeo (Cond.before_iff.mp (hsets _ (own_w 11 rfl)))
  have te := null_v (Cond.before_iff.mp (hsets _ (own_w 12 rfl)))
  rw [fld_at eeo] at te
  have O_EV := Fld.start te
  have O_A := Sta.start (own_eqint (Cond.before_iff.mp (hsets _ (own_w 16 rfl)))) (Or.inl (hsets _ (own_w 15 rfl)))
  have O_H := Sta.start (own_eqint (Cond.before_iff.mp (hsets _ (own_w 19 rfl)))) (Or.inl (hsets _ (own_w 18 rfl)))
  have O_W := Sta.start (own_eqint (Cond.before_iff.mp (hsets _ (own_w 22 rfl)))) (Or.inl (hsets _ (own_w 21 rfl)))
  obtain ⟨n, o, h1, h2, h3, _, L, rfl, ⟨rfl, N⟩, hq⟩ := rm0 l s _ hw tables_1 i0 i1 i2 i3 i4 G1 gv eo s.heap s.heap.size (Nat.le_refl _) (Old.start s) O_S hgv O_2 P5 O_A O_H O_W O_E O_EE O_EV (hcalls.1 ("java/lang/String", 7) (by decide +kernel)) hcw p e ha hc hk s m _ below hf ((Spec.applies_iff_loose hf).mp happ).1 ⟨rfl, State.Warmed39.refl s, rfl, rfl⟩ trivial
  refine ⟨n, _, h1, h2, h3, hpost _ _ _ _ _ _ ⟨Cond.after_iff.mpr rfl, Cond.after_iff.mpr (eq_i res_at (Term.int_eval (1)) rfl)⟩ ⟨hq.1, hq.2.1, hq.2.2.1, (hq.2.2.2.sift fun y hy => Or.inr (N y hy)).mono (by decide) (by decide)⟩⟩
theorem main_1_1 : Claimed_1_1 := comes_1 fun _ _ _ _ _ _ h hF => ⟨h.1, hF⟩
theorem main_1_2 : Claimed_1_2 := comes_1 fun _ _ _ _ _ _ h hF => ⟨h.2, hF⟩
end Jvm.Pilot.@@N@@
namespace Jvm.Pilot.@@N@@
open Jvm Jvm.ClassFile Sem Op Lib Jvm.Free Jvm.Stand Jvm.Pilot.@@N@@.Jvm.D
/-! MADE BY PROGRAM (witnessworld.py) out of the Statement's table words and the real class files: 25 classes; the members and pool entries that the words name. The judged class is class 1, her method 5. -/
namespace start1
open Jvm.ClassFile
def u (s : String) : CpInfo := .utf8 (stringToUtf16 s)
/-- a pool by its gaps: so many unusable entries, then the entry; so many at the end -/
def gap : Nat → List CpInfo → List CpInfo
  | 0, r => r
  | n + 1, r => .unusable :: gap n r
def poolList (es : List (Nat × CpInfo)) (last : Nat) : List CpInfo := es.foldr (fun e r => gap e.1 (e.2 :: r)) (gap last [])
def pool (es : List (Nat × CpInfo)) (last : Nat) : Array CpInfo := ⟨poolList es last⟩
def fileOf (pool : Array CpInfo) (this : Nat) (attrs : Array Attribute := #[]) (ms : Array MethodInfo := #[]) (fl : Nat := 33) (sup : Nat := 0) (ifs : Array Nat := #[]) (fds : Array FieldInfo := #[]) : ClassFile where
  minorVersion := 0
  majorVersion := 65
  constantPool := pool
  accessFlags := fl
  thisClass := this
  superClass := sup
  interfaces := ifs
  fields := fds
  methods := ms
  attributes := attrs
def plain (name : String) (sup : Option ClassId) : Class where
  name := name
  kind := .ordinary
  loader := none
  accessFlags := 33
  super := sup
  interfaces := #[]
  cf := none
  fields := #[]
  methods := #[]
  instanceTypes := #[]
  staticTypes := #[]
  resolved := #[]
  callSites := []
  init := .initialized
  statics := none
  mirror := none

def pool0 : Array CpInfo := pool [(5, u "<init>"), (0, u "()V"), (1, .class_ 10), (1, u "java/lang/Object")] 113

def k0c0 : Code := { maxStack := 0, maxLocals := 1, code := object_method_1_code, exceptionTable := #[], attributes := #[] }
def k0m0 : Method := { name := "<init>", desc := "()V", sig := { parameters := [], returnType := none }, accessFlags := 1, code := some k0c0 }
/-- java/lang/Object -/
def k0 : Class := { plain "java/lang/Object" none with
  accessFlags := 33
  interfaces := #[]
  cf := some (fileOf pool0 8 #[] #[{ accessFlags := 1, nameIndex := 5, descriptorIndex := 6, attributes := #[] }] 33 0 #[] #[])
  fields := #[]
  methods := #[k0m0]
  instanceTypes := #[]
  staticTypes := #[]
  resolved := Array.replicate 124 none
  statics := none }

def pool1 : Array CpInfo := pool [(2, .class_ 4), (1, u "java/lang/Object"), (0, u "<init>"), (0, u "()V"), (0, .integer 65535), (0, .class_ 9), (0, u "java/lang/String"), (0, .methodref 8 11), (0, .nameAndType 5 12), (0, u "([C)V"), (0, .methodref 8 14), (0, .nameAndType 15 16), (0, u "charAt"), (0, u "(I)C"), (0, .integer 2147483647), (0, .methodref 19 20), (0, .class_ 21), (0, .nameAndType 22 16), (0, u "com/example/wrasse/wrasse/io/LineFilesContentPinLaw"), (0, u "pick"), (0, .methodref 19 24), (0, .nameAndType 25 26), (0, u "make"), (0, u "(I[C)Ljava/lang/String;"), (0, .methodref 19 28), (0, .nameAndType 29 30), (0, u "blank"), (0, u "(C)Z"), (0, .methodref 32 33), (0, .class_ 34), (0, .nameAndType 35 36), (0, u "com/example/wrasse/wrasse/io/LineFiles"), (0, u "content"), (0, u "(Ljava/lang/String;)Ljava/util/Optional;"), (0, .methodref 38 39), (0, .class_ 40), (0, .nameAndType 41 42), (0, u "java/util/Optional"), (0, u "isPresent"), (0, u "()Z"), (0, .methodref 38 44), (0, .nameAndType 45 46), (0, u "get"), (0, u "()Ljava/lang/Object;"), (0, .methodref 8 48), (0, .nameAndType 49 50), (0, u "length"), (0, u "()I"), (0, .methodref 19 52), (0, .nameAndType 53 54), (0, u "at"), (0, u "(Ljava/lang/String;II[CI)Z"), (3, u "law"), (0, u "(IIIII)Z")] 4

def k1m0 : Method := { name := "<init>", desc := "()V", sig := { parameters := [], returnType := none }, accessFlags := 1, code := none }
def k1c1 : Code := { maxStack := 2, maxLocals := 2, code := method_2_code, exceptionTable := #[], attributes := #[] }
def k1m1 : Method := { name := "pick", desc := "(I)C", sig := { parameters := [.int], returnType := some .char }, accessFlags := 10, code := some k1c1 }
def k1c2 : Code := { maxStack := 2, maxLocals := 1, code := method_3_code, exceptionTable := #[], attributes := #[] }
def k1m2 : Method := { name := "blank", desc := "(C)Z", sig := { parameters := [.char], returnType := some .boolean }, accessFlags := 10, code := some k1c2 }
def k1c3 : Code := { maxStack := 4, maxLocals := 3, code := method_4_code, exceptionTable := #[], attributes := #[] }
def k1m3 : Method := { name := "make", desc := "(I[C)Ljava/lang/String;", sig := { parameters := [.int, (.array .char)], returnType := some (.object "java/lang/String") }, accessFlags := 10, code := some k1c3 }
def k1c4 : Code := { maxStack := 4, maxLocals := 5, code := method_5_code, exceptionTable := #[], attributes := #[] }
def k1m4 : Method := { name := "at", desc := "(Ljava/lang/String;II[CI)Z", sig := { parameters := [(.object "java/lang/String"), .int, .int, (.array .char), .int], returnType := some .boolean }, accessFlags := 10, code := some k1c4 }
def k1c5 : Code := { maxStack := 5, maxLocals := 13, code := code, exceptionTable := #[], attributes := #[] }
def k1m5 : Method := { name := "law", desc := "(IIIII)Z", sig := { parameters := [.int, .int, .int, .int, .int], returnType := some .boolean }, accessFlags := 9, code := some k1c5 }
/-- com/example/wrasse/wrasse/io/LineFilesContentPinLaw -/
def k1 : Class := { plain "com/example/wrasse/wrasse/io/LineFilesContentPinLaw" (some 0) with
  accessFlags := 49
  interfaces := #[]
  cf := some (fileOf pool1 19 #[] #[{ accessFlags := 1, nameIndex := 5, descriptorIndex := 6, attributes := #[] }, { accessFlags := 10, nameIndex := 22, descriptorIndex := 16, attributes := #[] }, { accessFlags := 10, nameIndex := 29, descriptorIndex := 30, attributes := #[] }, { accessFlags := 10, nameIndex := 25, descriptorIndex := 26, attributes := #[] }, { accessFlags := 10, nameIndex := 53, descriptorIndex := 54, attributes := #[] }, { accessFlags := 9, nameIndex := 58, descriptorIndex := 59, attributes := #[] }] 49 2 #[] #[])
  fields := #[]
  methods := #[k1m0, k1m1, k1m2, k1m3, k1m4, k1m5]
  instanceTypes := #[]
  staticTypes := #[]
  resolved := Array.replicate 64 none
  statics := none }

def pool2 : Array CpInfo := pool [(1, .class_ 2), (0, u "java/io/Serializable"), (0, .class_ 4), (0, u "java/lang/Object")] 2

/-- java/io/Serializable -/
def k2 : Class := { plain "java/io/Serializable" (some 0) with
  accessFlags := 1537
  interfaces := #[]
  cf := some (fileOf pool2 1 #[] #[] 1537 3 #[] #[])
  fields := #[]
  methods := #[]
  instanceTypes := #[]
  staticTypes := #[]
  resolved := Array.replicate 7 none
  statics := none }

def pool3 : Array CpInfo := pool [(1, .class_ 2), (0, u "java/lang/Comparable"), (0, .class_ 4), (0, u "java/lang/Object")] 7

/-- java/lang/Comparable -/
def k3 : Class := { plain "java/lang/Comparable" (some 0) with
  accessFlags := 1537
  interfaces := #[]
  cf := some (fileOf pool3 1 #[] #[] 1537 3 #[] #[])
  fields := #[]
  methods := #[]
  instanceTypes := #[]
  staticTypes := #[]
  resolved := Array.replicate 12 none
  statics := none }

def pool4 : Array CpInfo := pool [(2, .class_ 4), (1, u "java/lang/CharSequence"), (42, .class_ 48), (0, u "java/lang/CharSequence$1CodePointIterator"), (10, .class_ 60), (0, u "java/lang/CharSequence$1CharIterator"), (5, .class_ 67), (0, u "java/lang/Object")] 63

/-- java/lang/CharSequence -/
def k4 : Class := { plain "java/lang/CharSequence" (some 0) with
  accessFlags := 1537
  interfaces := #[]
  cf := some (fileOf pool4 2 #[.nestMembers #[47, 59]] #[] 1537 66 #[] #[])
  fields := #[]
  methods := #[]
  instanceTypes := #[]
  staticTypes := #[]
  resolved := Array.replicate 131 none
  statics := none }

def pool5 : Array CpInfo := pool [(1, .class_ 2), (0, u "java/lang/constant/Constable"), (0, .class_ 4), (0, u "java/lang/Object")] 6

/-- java/lang/constant/Constable -/
def k5 : Class := { plain "java/lang/constant/Constable" (some 0) with
  accessFlags := 1537
  interfaces := #[]
  cf := some (fileOf pool5 1 #[] #[] 1537 3 #[] #[])
  fields := #[]
  methods := #[]
  instanceTypes := #[]
  staticTypes := #[]
  resolved := Array.replicate 11 none
  statics := none }

def pool6 : Array CpInfo := pool [(1, .class_ 2), (0, u "java/lang/constant/ConstantDesc"), (0, .class_ 4), (0, u "java/lang/Object")] 32

/-- java/lang/constant/ConstantDesc -/
def k6 : Class := { plain "java/lang/constant/ConstantDesc" (some 0) with
  accessFlags := 1537
  interfaces := #[]
  cf := some (fileOf pool6 1 #[] #[] 1537 3 #[] #[])
  fields := #[]
  methods := #[]
  instanceTypes := #[]
  staticTypes := #[]
  resolved := Array.replicate 37 none
  statics := none }

def pool7 : Array CpInfo := pool [(1, .methodref 2 3), (0, .class_ 4), (0, .nameAndType 5 6), (0, u "java/lang/Object"), (0, u "<init>"), (0, u "()V"), (0, .string 8), (0, u ""), (0, .fieldref 10 11), (0, .class_ 12), (0, .nameAndType 13 14), (0, u "java/lang/String"), (0, u "value"), (0, u "[B"), (0, .fieldref 10 16), (0, .nameAndType 17 18), (0, u "coder"), (0, u "B"), (2, u "hash"), (0, u "I"), (2, u "hashIsZero"), (0, u "Z"), (0, .methodref 10 28), (0, .nameAndType 5 29), (0, u "([CIILjava/lang/Void;)V"), (6, u "checkBoundsOffCount"), (0, u "(III)I"), (0, .fieldref 10 39), (0, .nameAndType 40 26), (0, u "COMPACT_STRINGS"), (1, .class_ 44), (1, u "java/lang/StringUTF16"), (0, u "compress"), (1, .methodref 42 48), (0, .nameAndType 49 50), (0, u "coderFromArrayLen"), (0, u "([BI)B"), (56, .class_ 109), (1, u "java/lang/StringLatin1"), (32, u "()Z"), (34, .methodref 42 178), (0, .nameAndType 45 179), (0, u "([CII)[B"), (31, u "([BB)V"), (122, u "()I"), (0, .methodref 10 336), (0, .nameAndType 17 337), (0, u "()B"), (25, u "([BI)C"), (27, u "(II)V"), (35, u "(I)C"), (64, .methodref 10 493), (0, .nameAndType 494 142), (0, u "isLatin1"), (0, .methodref 107 496), (0, .nameAndType 497 363), (0, u "charAt"), (0, .methodref 42 496), (2, u "checkIndex"), (3, .methodref 10 506), (0, .nameAndType 507 334), (0, u "length"), (5, u "checkFromToIndex"), (7, .methodref 10 522), (0, .nameAndType 523 524), (0, u "checkBoundsBeginEnd"), (0, u "(III)V"), (50, .class_ 576), (0, u "java/lang/CharSequence"), (22, u "CASE_INSENSITIVE_ORDER"), (0, u "Ljava/util/Comparator;"), (80, .methodref 10 682), (0, .nameAndType 683 684), (0, u "substring"), (0, u "(II)Ljava/lang/String;"), (0, .methodref 107 686), (0, .nameAndType 687 688), (0, u "newString"), (0, u "([BII)Ljava/lang/String;"), (0, .methodref 42 686), (202, u "(I)Ljava/lang/String;"), (117, u "([C)V"), (42, .fieldref 1054 1055), (0, .class_ 1056), (0, .nameAndType 1057 1058), (0, u "jdk/internal/util/Preconditions"), (0, u "SIOOBE_FORMATTER"), (0, u "Ljava/util/function/BiFunction;"), (0, .methodref 1054 1060), (0, .nameAndType 501 1061), (0, u "(IILjava/util/function/BiFunction;)I"), (0, .methodref 1054 1063), (0, .nameAndType 513 1064), (0, u "(IIILjava/util/function/BiFunction;)I"), (0, .methodref 1054 1066), (0, .nameAndType 1067 1064), (0, u "checkFromIndexSize"), (33, u "serialPersistentFields"), (0, u "[Ljava/io/ObjectStreamField;"), (0, .class_ 1104), (0, u "java/lang/String$CaseInsensitiveComparator"), (1, .class_ 1107), (0, u "java/io/Serializable"), (0, .class_ 1109), (0, u "java/lang/Comparable"), (0, .class_ 1111), (0, u "java/lang/constant/Constable"), (0, .class_ 1113), (0, u "java/lang/constant/ConstantDesc"), (2, u "serialVersionUID"), (0, u "J"), (3, u "REPL"), (0, u "C"), (2, u "LATIN1"), (1, u "UTF16")] 323

def k7m0 : Method := { name := "<init>", desc := "()V", sig := { parameters := [], returnType := none }, accessFlags := 1, code := none }
def k7c1 : Code := { maxStack := 5, maxLocals := 2, code := jdk_42_method_3_code, exceptionTable := #[], attributes := #[] }
def k7m1 : Method := { name := "<init>", desc := "([C)V", sig := { parameters := [(.array .char)], returnType := none }, accessFlags := 1, code := some k7c1 }
def k7c2 : Code := { maxStack := 2, maxLocals := 1, code := jdk_42_method_54_code, exceptionTable := #[], attributes := #[] }
def k7m2 : Method := { name := "length", desc := "()I", sig := { parameters := [], returnType := some .int }, accessFlags := 1, code := some k7c2 }
def k7c3 : Code := { maxStack := 2, maxLocals := 2, code := jdk_42_method_56_code, exceptionTable := #[], attributes := #[] }
def k7m3 : Method := { name := "charAt", desc := "(I)C", sig := { parameters := [.int], returnType := some .char }, accessFlags := 1, code := some k7c3 }
def k7c4 : Code := { maxStack := 3, maxLocals := 2, code := jdk_42_method_91_code, exceptionTable := #[], attributes := #[] }
def k7m4 : Method := { name := "substring", desc := "(I)Ljava/lang/String;", sig := { parameters := [.int], returnType := some (.object "java/lang/String") }, accessFlags := 1, code := some k7c4 }
def k7c5 : Code := { maxStack := 3, maxLocals := 5, code := jdk_42_method_92_code, exceptionTable := #[], attributes := #[] }
def k7m5 : Method := { name := "substring", desc := "(II)Ljava/lang/String;", sig := { parameters := [.int, .int], returnType := some (.object "java/lang/String") }, accessFlags := 1, code := some k7c5 }
def k7c6 : Code := { maxStack := 4, maxLocals := 6, code := jdk_42_method_149_code, exceptionTable := #[], attributes := #[] }
def k7m6 : Method := { name := "<init>", desc := "([CIILjava/lang/Void;)V", sig := { parameters := [(.array .char), .int, .int, (.object "java/lang/Void")], returnType := none }, accessFlags := 2, code := some k7c6 }
def k7c7 : Code := { maxStack := 2, maxLocals := 3, code := jdk_42_method_151_code, exceptionTable := #[], attributes := #[] }
def k7m7 : Method := { name := "<init>", desc := "([BB)V", sig := { parameters := [(.array .byte), .byte], returnType := none }, accessFlags := 0, code := some k7c7 }
def k7c8 : Code := { maxStack := 1, maxLocals := 1, code := jdk_42_method_152_code, exceptionTable := #[], attributes := #[] }
def k7m8 : Method := { name := "coder", desc := "()B", sig := { parameters := [], returnType := some .byte }, accessFlags := 0, code := some k7c8 }
def k7c9 : Code := { maxStack := 1, maxLocals := 1, code := jdk_42_method_154_code, exceptionTable := #[], attributes := #[] }
def k7m9 : Method := { name := "isLatin1", desc := "()Z", sig := { parameters := [], returnType := some .boolean }, accessFlags := 0, code := some k7c9 }
def k7c10 : Code := { maxStack := 3, maxLocals := 2, code := jdk_42_method_155_code, exceptionTable := #[], attributes := #[] }
def k7m10 : Method := { name := "checkIndex", desc := "(II)V", sig := { parameters := [.int, .int], returnType := none }, accessFlags := 8, code := some k7c10 }
def k7c11 : Code := { maxStack := 4, maxLocals := 3, code := jdk_42_method_157_code, exceptionTable := #[], attributes := #[] }
def k7m11 : Method := { name := "checkBoundsOffCount", desc := "(III)I", sig := { parameters := [.int, .int, .int], returnType := some .int }, accessFlags := 8, code := some k7c11 }
def k7c12 : Code := { maxStack := 4, maxLocals := 3, code := jdk_42_method_158_code, exceptionTable := #[], attributes := #[] }
def k7m12 : Method := { name := "checkBoundsBeginEnd", desc := "(III)V", sig := { parameters := [.int, .int, .int], returnType := none }, accessFlags := 8, code := some k7c12 }
/-- java/lang/String -/
def k7 : Class := { plain "java/lang/String" (some 0) with
  accessFlags := 49
  interfaces := #[2, 3, 4, 5, 6]
  cf := some (fileOf pool7 10 #[.nestMembers #[1103]] #[{ accessFlags := 1, nameIndex := 5, descriptorIndex := 6, attributes := #[] }, { accessFlags := 1, nameIndex := 5, descriptorIndex := 1010, attributes := #[] }, { accessFlags := 1, nameIndex := 507, descriptorIndex := 334, attributes := #[] }, { accessFlags := 1, nameIndex := 497, descriptorIndex := 427, attributes := #[] }, { accessFlags := 1, nameIndex := 683, descriptorIndex := 892, attributes := #[] }, { accessFlags := 1, nameIndex := 683, descriptorIndex := 684, attributes := #[] }, { accessFlags := 2, nameIndex := 5, descriptorIndex := 29, attributes := #[] }, { accessFlags := 0, nameIndex := 5, descriptorIndex := 211, attributes := #[] }, { accessFlags := 0, nameIndex := 17, descriptorIndex := 337, attributes := #[] }, { accessFlags := 0, nameIndex := 494, descriptorIndex := 142, attributes := #[] }, { accessFlags := 8, nameIndex := 501, descriptorIndex := 391, attributes := #[] }, { accessFlags := 8, nameIndex := 36, descriptorIndex := 37, attributes := #[] }, { accessFlags := 8, nameIndex := 523, descriptorIndex := 524, attributes := #[] }] 49 2 #[1106, 1108, 575, 1110, 1112] #[{ accessFlags := 18, nameIndex := 13, descriptorIndex := 14, attributes := #[] }, { accessFlags := 18, nameIndex := 17, descriptorIndex := 18, attributes := #[] }, { accessFlags := 2, nameIndex := 21, descriptorIndex := 22, attributes := #[] }, { accessFlags := 2, nameIndex := 25, descriptorIndex := 26, attributes := #[] }, { accessFlags := 26, nameIndex := 1116, descriptorIndex := 1117, attributes := #[] }, { accessFlags := 24, nameIndex := 40, descriptorIndex := 26, attributes := #[] }, { accessFlags := 26, nameIndex := 1101, descriptorIndex := 1102, attributes := #[] }, { accessFlags := 26, nameIndex := 1121, descriptorIndex := 1122, attributes := #[] }, { accessFlags := 25, nameIndex := 599, descriptorIndex := 600, attributes := #[] }, { accessFlags := 24, nameIndex := 1125, descriptorIndex := 18, attributes := #[] }, { accessFlags := 24, nameIndex := 1127, descriptorIndex := 18, attributes := #[] }])
  fields := #[{ name := "value", type := (.array .byte), accessFlags := 18, slot := 0, constantValue := 0 }, { name := "coder", type := .byte, accessFlags := 18, slot := 1, constantValue := 0 }, { name := "hash", type := .int, accessFlags := 2, slot := 2, constantValue := 0 }, { name := "hashIsZero", type := .boolean, accessFlags := 2, slot := 3, constantValue := 0 }, { name := "serialVersionUID", type := .long, accessFlags := 26, slot := 0, constantValue := 0 }, { name := "COMPACT_STRINGS", type := .boolean, accessFlags := 24, slot := 1, constantValue := 0 }, { name := "serialPersistentFields", type := (.array (.object "java/io/ObjectStreamField")), accessFlags := 26, slot := 2, constantValue := 0 }, { name := "REPL", type := .char, accessFlags := 26, slot := 3, constantValue := 0 }, { name := "CASE_INSENSITIVE_ORDER", type := (.object "java/util/Comparator"), accessFlags := 25, slot := 4, constantValue := 0 }, { name := "LATIN1", type := .byte, accessFlags := 24, slot := 5, constantValue := 0 }, { name := "UTF16", type := .byte, accessFlags := 24, slot := 6, constantValue := 0 }]
  methods := #[k7m0, k7m1, k7m2, k7m3, k7m4, k7m5, k7m6, k7m7, k7m8, k7m9, k7m10, k7m11, k7m12]
  instanceTypes := #[(.array .byte), .byte, .int, .boolean]
  staticTypes := #[.long, .boolean, (.array (.object "java/io/ObjectStreamField")), .char, (.object "java/util/Comparator"), .byte, .byte]
  resolved := Array.replicate 1451 none
  statics := some 0 }

def pool8 : Array CpInfo := pool [(2, .class_ 4), (1, u "java/lang/Object"), (0, u "<init>"), (0, u "()V"), (26, .class_ 35), (1, u "com/example/wrasse/wrasse/io/LineFiles$LineHandler"), (29, .methodref 66 67), (0, .class_ 68), (0, .nameAndType 69 70), (0, u "java/lang/String"), (0, u "length"), (0, u "()I"), (0, .methodref 66 72), (0, .nameAndType 73 74), (0, u "charAt"), (0, u "(I)C"), (0, .methodref 76 77), (0, .class_ 78), (0, .nameAndType 79 80), (0, u "java/util/Optional"), (0, u "empty"), (0, u "()Ljava/util/Optional;"), (0, .methodref 66 82), (0, .nameAndType 83 84), (0, u "substring"), (0, u "(I)Ljava/lang/String;"), (0, .methodref 76 86), (0, .nameAndType 87 88), (0, u "of"), (0, u "(Ljava/lang/Object;)Ljava/util/Optional;"), (0, .class_ 90), (0, u "com/example/wrasse/wrasse/io/LineFiles"), (10, u "content"), (0, u "(Ljava/lang/String;)Ljava/util/Optional;")] 7

def k8m0 : Method := { name := "<init>", desc := "()V", sig := { parameters := [], returnType := none }, accessFlags := 2, code := none }
def k8c1 : Code := { maxStack := 2, maxLocals := 3, code := prog_10_method_3_code, exceptionTable := #[], attributes := #[] }
def k8m1 : Method := { name := "content", desc := "(Ljava/lang/String;)Ljava/util/Optional;", sig := { parameters := [(.object "java/lang/String")], returnType := some (.object "java/util/Optional") }, accessFlags := 8, code := some k8c1 }
/-- com/example/wrasse/wrasse/io/LineFiles -/
def k8 : Class := { plain "com/example/wrasse/wrasse/io/LineFiles" (some 0) with
  accessFlags := 48
  interfaces := #[]
  cf := some (fileOf pool8 89 #[.nestMembers #[33]] #[{ accessFlags := 2, nameIndex := 5, descriptorIndex := 6, attributes := #[] }, { accessFlags := 8, nameIndex := 101, descriptorIndex := 102, attributes := #[] }] 48 2 #[] #[])
  fields := #[]
  methods := #[k8m0, k8m1]
  instanceTypes := #[]
  staticTypes := #[]
  resolved := Array.replicate 110 none
  statics := none }

def pool9 : Array CpInfo := pool [(1, .fieldref 2 3), (0, .class_ 4), (0, .nameAndType 5 6), (0, u "java/util/Optional"), (0, u "EMPTY"), (0, u "Ljava/util/Optional;"), (0, .methodref 8 9), (0, .class_ 10), (0, .nameAndType 11 12), (0, u "java/lang/Object"), (0, u "<init>"), (0, u "()V"), (0, .fieldref 2 14), (0, .nameAndType 15 16), (0, u "value"), (0, u "Ljava/lang/Object;"), (0, .methodref 18 19), (0, .class_ 20), (0, .nameAndType 21 22), (0, u "java/util/Objects"), (0, u "requireNonNull"), (0, u "(Ljava/lang/Object;)Ljava/lang/Object;"), (0, .methodref 2 24), (0, .nameAndType 11 25), (0, u "(Ljava/lang/Object;)V"), (20, u "()Z"), (8, u "empty"), (0, u "()Ljava/util/Optional;"), (8, u "(Ljava/lang/Object;)Ljava/util/Optional;"), (2, u "isPresent"), (4, u "get"), (0, u "()Ljava/lang/Object;"), (7, u "of")] 104

def k9c0 : Code := { maxStack := 1, maxLocals := 1, code := jdk_32_method_1_code, exceptionTable := #[], attributes := #[] }
def k9m0 : Method := { name := "empty", desc := "()Ljava/util/Optional;", sig := { parameters := [], returnType := some (.object "java/util/Optional") }, accessFlags := 9, code := some k9c0 }
def k9c1 : Code := { maxStack := 2, maxLocals := 2, code := jdk_32_method_2_code, exceptionTable := #[], attributes := #[] }
def k9m1 : Method := { name := "<init>", desc := "(Ljava/lang/Object;)V", sig := { parameters := [(.object "java/lang/Object")], returnType := none }, accessFlags := 2, code := some k9c1 }
def k9c2 : Code := { maxStack := 3, maxLocals := 1, code := jdk_32_method_3_code, exceptionTable := #[], attributes := #[] }
def k9m2 : Method := { name := "of", desc := "(Ljava/lang/Object;)Ljava/util/Optional;", sig := { parameters := [(.object "java/lang/Object")], returnType := some (.object "java/util/Optional") }, accessFlags := 9, code := some k9c2 }
def k9c3 : Code := { maxStack := 3, maxLocals := 1, code := jdk_32_method_5_code, exceptionTable := #[], attributes := #[] }
def k9m3 : Method := { name := "get", desc := "()Ljava/lang/Object;", sig := { parameters := [], returnType := some (.object "java/lang/Object") }, accessFlags := 1, code := some k9c3 }
def k9c4 : Code := { maxStack := 1, maxLocals := 1, code := jdk_32_method_6_code, exceptionTable := #[], attributes := #[] }
def k9m4 : Method := { name := "isPresent", desc := "()Z", sig := { parameters := [], returnType := some .boolean }, accessFlags := 1, code := some k9c4 }
/-- java/util/Optional -/
def k9 : Class := { plain "java/util/Optional" (some 0) with
  accessFlags := 49
  interfaces := #[]
  cf := some (fileOf pool9 2 #[] #[{ accessFlags := 9, nameIndex := 55, descriptorIndex := 56, attributes := #[] }, { accessFlags := 2, nameIndex := 11, descriptorIndex := 25, attributes := #[] }, { accessFlags := 9, nameIndex := 82, descriptorIndex := 65, attributes := #[] }, { accessFlags := 1, nameIndex := 73, descriptorIndex := 74, attributes := #[] }, { accessFlags := 1, nameIndex := 68, descriptorIndex := 46, attributes := #[] }] 49 8 #[] #[{ accessFlags := 26, nameIndex := 5, descriptorIndex := 6, attributes := #[] }, { accessFlags := 18, nameIndex := 15, descriptorIndex := 16, attributes := #[] }])
  fields := #[{ name := "EMPTY", type := (.object "java/util/Optional"), accessFlags := 26, slot := 0, constantValue := 0 }, { name := "value", type := (.object "java/lang/Object"), accessFlags := 18, slot := 0, constantValue := 0 }]
  methods := #[k9m0, k9m1, k9m2, k9m3, k9m4]
  instanceTypes := #[(.object "java/lang/Object")]
  staticTypes := #[(.object "java/util/Optional")]
  resolved := Array.replicate 187 none
  statics := some 1 }

def pool10 : Array CpInfo := pool [(3, .class_ 4), (0, u "java/lang/String"), (1, .class_ 8), (1, u "java/lang/Object"), (0, u "<init>"), (0, u "()V"), (0, .methodref 12 13), (0, .class_ 14), (0, .nameAndType 15 16), (0, u "java/lang/StringUTF16"), (0, u "newBytesLength"), (0, u "(I)I"), (3, .integer 1073741823), (23, .fieldref 12 45), (0, .nameAndType 46 47), (0, u "$assertionsDisabled"), (0, u "Z"), (0, .methodref 12 49), (0, .nameAndType 50 51), (0, u "length"), (0, u "([B)I"), (7, .fieldref 12 60), (0, .nameAndType 61 62), (0, u "HI_BYTE_SHIFT"), (0, u "I"), (0, .fieldref 12 64), (0, .nameAndType 65 62), (0, u "LO_BYTE_SHIFT"), (1, .methodref 12 68), (0, .nameAndType 69 70), (0, u "checkIndex"), (0, u "(I[B)V"), (0, .methodref 12 72), (0, .nameAndType 73 74), (0, u "getChar"), (0, u "([BI)C"), (24, u "(II[B)V"), (7, .methodref 12 108), (0, .nameAndType 109 110), (0, u "newBytesFor"), (0, u "(I)[B"), (0, .methodref 12 112), (0, .nameAndType 113 114), (0, u "putChar"), (0, u "([BII)V"), (0, .methodref 12 116), (0, .nameAndType 117 118), (0, u "compress"), (0, u "([CI[BII)I"), (0, .methodref 12 120), (0, .nameAndType 121 122), (0, u "toBytes"), (0, u "([CII)[B"), (0, .methodref 12 124), (0, .nameAndType 117 125), (0, u "([BI[BII)I"), (0, .methodref 127 128), (0, .class_ 129), (0, .nameAndType 130 131), (0, u "java/util/Arrays"), (0, u "copyOfRange"), (0, u "([BII)[B"), (41, .methodref 12 174), (0, .nameAndType 175 99), (0, u "checkBoundsOffCount"), (75, .fieldref 3 252), (0, .nameAndType 253 47), (0, u "COMPACT_STRINGS"), (3, .methodref 12 258), (0, .nameAndType 117 131), (0, .methodref 12 260), (0, .nameAndType 261 262), (0, u "coderFromArrayLen"), (0, u "([BI)B"), (0, .methodref 3 264), (0, .nameAndType 9 265), (0, u "([BB)V"), (15, u "(III)I"), (45, u "newString"), (0, u "([BII)Ljava/lang/String;"), (40, .class_ 371), (1, u "java/lang/StringUTF16$LinesSpliterator"), (20, u "charAt"), (21, .methodref 3 415), (0, .nameAndType 69 416), (0, u "(II)V"), (2, .methodref 3 420), (0, .nameAndType 175 281), (9, u "MAX_LENGTH"), (196, .class_ 628), (0, u "java/lang/StringUTF16$CodePointsSpliterator"), (0, .class_ 630), (0, u "java/lang/StringUTF16$CharsSpliterator")] 4

def k10m0 : Method := { name := "<init>", desc := "()V", sig := { parameters := [], returnType := none }, accessFlags := 0, code := none }
def k10c1 : Code := { maxStack := 1, maxLocals := 1, code := jdk_52_method_2_code, exceptionTable := #[], attributes := #[] }
def k10m1 : Method := { name := "newBytesFor", desc := "(I)[B", sig := { parameters := [.int], returnType := some (.array .byte) }, accessFlags := 9, code := some k10c1 }
def k10c2 : Code := { maxStack := 4, maxLocals := 1, code := jdk_52_method_3_code, exceptionTable := #[], attributes := #[] }
def k10m2 : Method := { name := "newBytesLength", desc := "(I)I", sig := { parameters := [.int], returnType := some .int }, accessFlags := 9, code := some k10c2 }
def k10c3 : Code := { maxStack := 4, maxLocals := 3, code := jdk_52_method_4_code, exceptionTable := #[], attributes := #[] }
def k10m3 : Method := { name := "putChar", desc := "([BII)V", sig := { parameters := [(.array .byte), .int, .int], returnType := none }, accessFlags := 8, code := some k10c3 }
def k10c4 : Code := { maxStack := 3, maxLocals := 2, code := jdk_52_method_5_code, exceptionTable := #[], attributes := #[] }
def k10m4 : Method := { name := "getChar", desc := "([BI)C", sig := { parameters := [(.array .byte), .int], returnType := some .char }, accessFlags := 8, code := some k10c4 }
def k10c5 : Code := { maxStack := 2, maxLocals := 1, code := jdk_52_method_6_code, exceptionTable := #[], attributes := #[] }
def k10m5 : Method := { name := "length", desc := "([B)I", sig := { parameters := [(.array .byte)], returnType := some .int }, accessFlags := 9, code := some k10c5 }
def k10c6 : Code := { maxStack := 4, maxLocals := 5, code := jdk_52_method_14_code, exceptionTable := #[], attributes := #[] }
def k10m6 : Method := { name := "toBytes", desc := "([CII)[B", sig := { parameters := [(.array .char), .int, .int], returnType := some (.array .byte) }, accessFlags := 9, code := some k10c6 }
def k10c7 : Code := { maxStack := 2, maxLocals := 2, code := jdk_52_method_15_code, exceptionTable := #[], attributes := #[] }
def k10m7 : Method := { name := "coderFromArrayLen", desc := "([BI)B", sig := { parameters := [(.array .byte), .int], returnType := some .byte }, accessFlags := 8, code := some k10c7 }
def k10c8 : Code := { maxStack := 5, maxLocals := 6, code := jdk_52_method_16_code, exceptionTable := #[], attributes := #[] }
def k10m8 : Method := { name := "compress", desc := "([CII)[B", sig := { parameters := [(.array .char), .int, .int], returnType := some (.array .byte) }, accessFlags := 9, code := some k10c8 }
def k10c9 : Code := { maxStack := 5, maxLocals := 6, code := jdk_52_method_17_code, exceptionTable := #[], attributes := #[] }
def k10m9 : Method := { name := "compress", desc := "([BII)[B", sig := { parameters := [(.array .byte), .int, .int], returnType := some (.array .byte) }, accessFlags := 9, code := some k10c9 }
def k10c10 : Code := { maxStack := 3, maxLocals := 7, code := jdk_52_method_21_code, exceptionTable := #[], attributes := #[] }
def k10m10 : Method := { name := "compress", desc := "([CI[BII)I", sig := { parameters := [(.array .char), .int, (.array .byte), .int, .int], returnType := some .int }, accessFlags := 9, code := some k10c10 }
def k10c11 : Code := { maxStack := 3, maxLocals := 7, code := jdk_52_method_22_code, exceptionTable := #[], attributes := #[] }
def k10m11 : Method := { name := "compress", desc := "([BI[BII)I", sig := { parameters := [(.array .byte), .int, (.array .byte), .int, .int], returnType := some .int }, accessFlags := 9, code := some k10c11 }
def k10c12 : Code := { maxStack := 6, maxLocals := 5, code := jdk_52_method_69_code, exceptionTable := #[], attributes := #[] }
def k10m12 : Method := { name := "newString", desc := "([BII)Ljava/lang/String;", sig := { parameters := [(.array .byte), .int, .int], returnType := some (.object "java/lang/String") }, accessFlags := 9, code := some k10c12 }
def k10c13 : Code := { maxStack := 2, maxLocals := 2, code := jdk_52_method_83_code, exceptionTable := #[], attributes := #[] }
def k10m13 : Method := { name := "charAt", desc := "([BI)C", sig := { parameters := [(.array .byte), .int], returnType := some .char }, accessFlags := 9, code := some k10c13 }
def k10c14 : Code := { maxStack := 2, maxLocals := 2, code := jdk_52_method_91_code, exceptionTable := #[], attributes := #[] }
def k10m14 : Method := { name := "checkIndex", desc := "(I[B)V", sig := { parameters := [.int, (.array .byte)], returnType := none }, accessFlags := 9, code := some k10c14 }
def k10c15 : Code := { maxStack := 3, maxLocals := 3, code := jdk_52_method_94_code, exceptionTable := #[], attributes := #[] }
def k10m15 : Method := { name := "checkBoundsOffCount", desc := "(II[B)V", sig := { parameters := [.int, .int, (.array .byte)], returnType := none }, accessFlags := 9, code := some k10c15 }
/-- java/lang/StringUTF16 -/
def k10 : Class := { plain "java/lang/StringUTF16" (some 0) with
  accessFlags := 48
  interfaces := #[]
  cf := some (fileOf pool10 12 #[.nestMembers #[627, 629, 369]] #[{ accessFlags := 0, nameIndex := 9, descriptorIndex := 10, attributes := #[] }, { accessFlags := 9, nameIndex := 109, descriptorIndex := 110, attributes := #[] }, { accessFlags := 9, nameIndex := 15, descriptorIndex := 16, attributes := #[] }, { accessFlags := 8, nameIndex := 113, descriptorIndex := 114, attributes := #[] }, { accessFlags := 8, nameIndex := 73, descriptorIndex := 74, attributes := #[] }, { accessFlags := 9, nameIndex := 50, descriptorIndex := 51, attributes := #[] }, { accessFlags := 9, nameIndex := 121, descriptorIndex := 122, attributes := #[] }, { accessFlags := 8, nameIndex := 261, descriptorIndex := 262, attributes := #[] }, { accessFlags := 9, nameIndex := 117, descriptorIndex := 122, attributes := #[] }, { accessFlags := 9, nameIndex := 117, descriptorIndex := 131, attributes := #[] }, { accessFlags := 9, nameIndex := 117, descriptorIndex := 118, attributes := #[] }, { accessFlags := 9, nameIndex := 117, descriptorIndex := 125, attributes := #[] }, { accessFlags := 9, nameIndex := 327, descriptorIndex := 328, attributes := #[] }, { accessFlags := 9, nameIndex := 392, descriptorIndex := 74, attributes := #[] }, { accessFlags := 9, nameIndex := 69, descriptorIndex := 70, attributes := #[] }, { accessFlags := 9, nameIndex := 175, descriptorIndex := 99, attributes := #[] }] 48 6 #[] #[{ accessFlags := 26, nameIndex := 61, descriptorIndex := 62, attributes := #[] }, { accessFlags := 26, nameIndex := 65, descriptorIndex := 62, attributes := #[] }, { accessFlags := 24, nameIndex := 430, descriptorIndex := 62, attributes := #[] }, { accessFlags := 4120, nameIndex := 46, descriptorIndex := 47, attributes := #[] }])
  fields := #[{ name := "HI_BYTE_SHIFT", type := .int, accessFlags := 26, slot := 0, constantValue := 0 }, { name := "LO_BYTE_SHIFT", type := .int, accessFlags := 26, slot := 1, constantValue := 0 }, { name := "MAX_LENGTH", type := .int, accessFlags := 24, slot := 2, constantValue := 0 }, { name := "$assertionsDisabled", type := .boolean, accessFlags := 4120, slot := 3, constantValue := 0 }]
  methods := #[k10m0, k10m1, k10m2, k10m3, k10m4, k10m5, k10m6, k10m7, k10m8, k10m9, k10m10, k10m11, k10m12, k10m13, k10m14, k10m15]
  instanceTypes := #[]
  staticTypes := #[.int, .int, .int, .boolean]
  resolved := Array.replicate 635 none
  statics := some 2 }

def pool11 : Array CpInfo := pool [(1, .class_ 2), (0, u "java/lang/String"), (1, .class_ 6), (1, u "java/lang/Object"), (0, u "<init>"), (0, u "()V"), (0, .methodref 1 10), (0, .nameAndType 11 12), (0, u "checkIndex"), (0, u "(II)V"), (1, .class_ 16), (1, u "java/lang/StringLatin1"), (36, u "([BI)C"), (58, .methodref 1 113), (0, .nameAndType 7 114), (0, u "([BB)V"), (6, u "$assertionsDisabled"), (0, u "Z"), (8, .class_ 133), (1, u "java/util/Arrays"), (62, u "newString"), (0, u "([BII)Ljava/lang/String;"), (23, .class_ 223), (1, u "java/lang/StringLatin1$LinesSpliterator"), (8, .methodref 131 233), (0, .nameAndType 234 235), (0, u "copyOfRange"), (0, u "([BII)[B"), (16, u "charAt"), (137, .class_ 391), (0, u "java/lang/StringLatin1$CharsSpliterator")] 3

def k11m0 : Method := { name := "<init>", desc := "()V", sig := { parameters := [], returnType := none }, accessFlags := 0, code := none }
def k11c1 : Code := { maxStack := 2, maxLocals := 2, code := jdk_43_method_2_code, exceptionTable := #[], attributes := #[] }
def k11m1 : Method := { name := "charAt", desc := "([BI)C", sig := { parameters := [(.array .byte), .int], returnType := some .char }, accessFlags := 9, code := some k11c1 }
def k11c2 : Code := { maxStack := 6, maxLocals := 3, code := jdk_43_method_47_code, exceptionTable := #[], attributes := #[] }
def k11m2 : Method := { name := "newString", desc := "([BII)Ljava/lang/String;", sig := { parameters := [(.array .byte), .int, .int], returnType := some (.object "java/lang/String") }, accessFlags := 9, code := some k11c2 }
/-- java/lang/StringLatin1 -/
def k11 : Class := { plain "java/lang/StringLatin1" (some 0) with
  accessFlags := 48
  interfaces := #[]
  cf := some (fileOf pool11 14 #[.nestMembers #[390, 221]] #[{ accessFlags := 0, nameIndex := 7, descriptorIndex := 8, attributes := #[] }, { accessFlags := 9, nameIndex := 252, descriptorIndex := 53, attributes := #[] }, { accessFlags := 9, nameIndex := 196, descriptorIndex := 197, attributes := #[] }] 48 4 #[] #[{ accessFlags := 4120, nameIndex := 121, descriptorIndex := 122, attributes := #[] }])
  fields := #[{ name := "$assertionsDisabled", type := .boolean, accessFlags := 4120, slot := 0, constantValue := 0 }]
  methods := #[k11m0, k11m1, k11m2]
  instanceTypes := #[]
  staticTypes := #[.boolean]
  resolved := Array.replicate 395 none
  statics := none }

def pool12 : Array CpInfo := pool [(2, .class_ 4), (1, u "java/lang/Object"), (0, u "<init>"), (0, u "()V"), (17, .class_ 26), (1, u "jdk/internal/util/Preconditions"), (6, u "checkIndex"), (13, u "checkFromToIndex"), (1, u "checkFromIndexSize"), (5, .class_ 56), (0, u "jdk/internal/util/Preconditions$4"), (57, .class_ 115), (0, u "jdk/internal/util/Preconditions$1"), (7, u "SIOOBE_FORMATTER"), (0, u "Ljava/util/function/BiFunction;"), (0, .class_ 126), (0, u "jdk/internal/util/Preconditions$2"), (3, u "AIOOBE_FORMATTER"), (0, .class_ 132), (0, u "jdk/internal/util/Preconditions$3"), (3, u "IOOBE_FORMATTER"), (41, u "(IILjava/util/function/BiFunction;)I"), (4, u "(IIILjava/util/function/BiFunction;)I")] 10

def k12m0 : Method := { name := "<init>", desc := "()V", sig := { parameters := [], returnType := none }, accessFlags := 1, code := none }
def k12c1 : Code := { maxStack := 3, maxLocals := 3, code := jdk_41_method_11_code, exceptionTable := #[], attributes := #[] }
def k12m1 : Method := { name := "checkIndex", desc := "(IILjava/util/function/BiFunction;)I", sig := { parameters := [.int, .int, (.object "java/util/function/BiFunction")], returnType := some .int }, accessFlags := 9, code := some k12c1 }
def k12c2 : Code := { maxStack := 4, maxLocals := 4, code := jdk_41_method_12_code, exceptionTable := #[], attributes := #[] }
def k12m2 : Method := { name := "checkFromToIndex", desc := "(IIILjava/util/function/BiFunction;)I", sig := { parameters := [.int, .int, .int, (.object "java/util/function/BiFunction")], returnType := some .int }, accessFlags := 9, code := some k12c2 }
def k12c3 : Code := { maxStack := 4, maxLocals := 4, code := jdk_41_method_13_code, exceptionTable := #[], attributes := #[] }
def k12m3 : Method := { name := "checkFromIndexSize", desc := "(IIILjava/util/function/BiFunction;)I", sig := { parameters := [.int, .int, .int, (.object "java/util/function/BiFunction")], returnType := some .int }, accessFlags := 9, code := some k12c3 }
/-- jdk/internal/util/Preconditions -/
def k12 : Class := { plain "jdk/internal/util/Preconditions" (some 0) with
  accessFlags := 33
  interfaces := #[]
  cf := some (fileOf pool12 24 #[.nestMembers #[55, 131, 125, 114]] #[{ accessFlags := 1, nameIndex := 5, descriptorIndex := 6, attributes := #[] }, { accessFlags := 9, nameIndex := 33, descriptorIndex := 178, attributes := #[] }, { accessFlags := 9, nameIndex := 47, descriptorIndex := 183, attributes := #[] }, { accessFlags := 9, nameIndex := 49, descriptorIndex := 183, attributes := #[] }] 33 2 #[] #[{ accessFlags := 25, nameIndex := 123, descriptorIndex := 124, attributes := #[] }, { accessFlags := 25, nameIndex := 130, descriptorIndex := 124, attributes := #[] }, { accessFlags := 25, nameIndex := 136, descriptorIndex := 124, attributes := #[] }])
  fields := #[{ name := "SIOOBE_FORMATTER", type := (.object "java/util/function/BiFunction"), accessFlags := 25, slot := 0, constantValue := 0 }, { name := "AIOOBE_FORMATTER", type := (.object "java/util/function/BiFunction"), accessFlags := 25, slot := 1, constantValue := 0 }, { name := "IOOBE_FORMATTER", type := (.object "java/util/function/BiFunction"), accessFlags := 25, slot := 2, constantValue := 0 }]
  methods := #[k12m0, k12m1, k12m2, k12m3]
  instanceTypes := #[]
  staticTypes := #[(.object "java/util/function/BiFunction"), (.object "java/util/function/BiFunction"), (.object "java/util/function/BiFunction")]
  resolved := Array.replicate 194 none
  statics := some 3 }

def pool13 : Array CpInfo := pool [(2, .class_ 4), (1, u "java/lang/Object"), (0, u "<init>"), (0, u "()V"), (35, .class_ 44), (1, u "java/util/Objects"), (0, u "requireNonNull"), (0, u "(Ljava/lang/Object;)Ljava/lang/Object;")] 137

def k13m0 : Method := { name := "<init>", desc := "()V", sig := { parameters := [], returnType := none }, accessFlags := 2, code := none }
def k13c1 : Code := { maxStack := 2, maxLocals := 1, code := jdk_31_method_10_code, exceptionTable := #[], attributes := #[] }
def k13m1 : Method := { name := "requireNonNull", desc := "(Ljava/lang/Object;)Ljava/lang/Object;", sig := { parameters := [(.object "java/lang/Object")], returnType := some (.object "java/lang/Object") }, accessFlags := 9, code := some k13c1 }
/-- java/util/Objects -/
def k13 : Class := { plain "java/util/Objects" (some 0) with
  accessFlags := 49
  interfaces := #[]
  cf := some (fileOf pool13 42 #[] #[{ accessFlags := 2, nameIndex := 5, descriptorIndex := 6, attributes := #[] }, { accessFlags := 9, nameIndex := 45, descriptorIndex := 46, attributes := #[] }] 49 2 #[] #[])
  fields := #[]
  methods := #[k13m0, k13m1]
  instanceTypes := #[]
  staticTypes := #[]
  resolved := Array.replicate 184 none
  statics := none }

def pool14 : Array CpInfo := pool [(2, .class_ 4), (1, u "java/lang/Object"), (0, u "<init>"), (0, u "()V"), (7, .class_ 16), (1, u "java/util/Arrays"), (57, .class_ 76), (1, u "java/util/Arrays$NaturalOrder"), (36, .class_ 115), (1, u "java/util/Arrays$LegacyMergeSort"), (1, u "Z"), (21, u "copyOfRange"), (10, .methodref 151 152), (0, .class_ 153), (0, .nameAndType 154 155), (0, u "java/lang/System"), (0, u "arraycopy"), (0, u "(Ljava/lang/Object;ILjava/lang/Object;II)V"), (148, .methodref 305 306), (0, .class_ 307), (0, .nameAndType 308 309), (0, u "java/lang/Math"), (0, u "min"), (0, u "(II)I"), (29, .methodref 14 340), (0, .nameAndType 341 342), (0, u "copyOfRangeByte"), (0, u "([BII)[B"), (0, .methodref 14 344), (0, .nameAndType 345 346), (0, u "checkLength"), (0, u "(II)V"), (28, .class_ 376), (0, u "java/util/Arrays$ArrayList"), (68, u "$assertionsDisabled"), (269, u "MIN_ARRAY_SORT_GRAN"), (0, u "I"), (2, u "INSERTIONSORT_THRESHOLD"), (255, .class_ 976), (0, u "java/util/Arrays$ArrayItr")] 52

def k14m0 : Method := { name := "<init>", desc := "()V", sig := { parameters := [], returnType := none }, accessFlags := 2, code := none }
def k14c1 : Code := { maxStack := 4, maxLocals := 2, code := jdk_65_method_131_code, exceptionTable := #[], attributes := #[] }
def k14m1 : Method := { name := "checkLength", desc := "(II)V", sig := { parameters := [.int, .int], returnType := none }, accessFlags := 10, code := some k14c1 }
def k14c2 : Code := { maxStack := 3, maxLocals := 3, code := jdk_65_method_132_code, exceptionTable := #[], attributes := #[] }
def k14m2 : Method := { name := "copyOfRange", desc := "([BII)[B", sig := { parameters := [(.array .byte), .int, .int], returnType := some (.array .byte) }, accessFlags := 9, code := some k14c2 }
def k14c3 : Code := { maxStack := 6, maxLocals := 5, code := jdk_65_method_133_code, exceptionTable := #[], attributes := #[] }
def k14m3 : Method := { name := "copyOfRangeByte", desc := "([BII)[B", sig := { parameters := [(.array .byte), .int, .int], returnType := some (.array .byte) }, accessFlags := 10, code := some k14c3 }
/-- java/util/Arrays -/
def k14 : Class := { plain "java/util/Arrays" (some 0) with
  accessFlags := 49
  interfaces := #[]
  cf := some (fileOf pool14 14 #[.nestMembers #[975, 375, 113, 74]] #[{ accessFlags := 2, nameIndex := 5, descriptorIndex := 6, attributes := #[] }, { accessFlags := 10, nameIndex := 345, descriptorIndex := 346, attributes := #[] }, { accessFlags := 9, nameIndex := 139, descriptorIndex := 342, attributes := #[] }, { accessFlags := 10, nameIndex := 341, descriptorIndex := 342, attributes := #[] }] 49 2 #[] #[{ accessFlags := 26, nameIndex := 715, descriptorIndex := 716, attributes := #[] }, { accessFlags := 26, nameIndex := 719, descriptorIndex := 716, attributes := #[] }, { accessFlags := 4120, nameIndex := 445, descriptorIndex := 117, attributes := #[] }])
  fields := #[{ name := "MIN_ARRAY_SORT_GRAN", type := .int, accessFlags := 26, slot := 0, constantValue := 0 }, { name := "INSERTIONSORT_THRESHOLD", type := .int, accessFlags := 26, slot := 1, constantValue := 0 }, { name := "$assertionsDisabled", type := .boolean, accessFlags := 4120, slot := 2, constantValue := 0 }]
  methods := #[k14m0, k14m1, k14m2, k14m3]
  instanceTypes := #[]
  staticTypes := #[.int, .int, .boolean]
  resolved := Array.replicate 1029 none
  statics := none }

def pool15 : Array CpInfo := pool [(1, .class_ 2), (0, u "java/lang/Math"), (1, .class_ 6), (1, u "java/lang/Object"), (0, u "<init>"), (0, u "()V"), (89, .class_ 100), (1, u "java/lang/Math$RandomNumberGeneratorHolder"), (71, u "negativeZeroFloatBits"), (0, u "J"), (2, u "negativeZeroDoubleBits"), (24, u "min"), (43, u "$assertionsDisabled"), (0, u "Z"), (88, u "(II)I"), (2, u "twoToTheDoubleScaleDown"), (0, u "D"), (4, u "twoToTheDoubleScaleUp"), (9, u "E"), (3, u "PI"), (2, u "TAU"), (2, u "DEGREES_TO_RADIANS"), (0, u "RADIANS_TO_DEGREES")] 94

def k15m0 : Method := { name := "<init>", desc := "()V", sig := { parameters := [], returnType := none }, accessFlags := 2, code := none }
def k15c1 : Code := { maxStack := 2, maxLocals := 2, code := jdk_29_method_69_code, exceptionTable := #[], attributes := #[] }
def k15m1 : Method := { name := "min", desc := "(II)I", sig := { parameters := [.int, .int], returnType := some .int }, accessFlags := 9, code := some k15c1 }
/-- java/lang/Math -/
def k15 : Class := { plain "java/lang/Math" (some 0) with
  accessFlags := 49
  interfaces := #[]
  cf := some (fileOf pool15 1 #[.nestMembers #[98]] #[{ accessFlags := 2, nameIndex := 7, descriptorIndex := 8, attributes := #[] }, { accessFlags := 9, nameIndex := 201, descriptorIndex := 335, attributes := #[] }] 49 4 #[] #[{ accessFlags := 25, nameIndex := 354, descriptorIndex := 339, attributes := #[] }, { accessFlags := 25, nameIndex := 358, descriptorIndex := 339, attributes := #[] }, { accessFlags := 25, nameIndex := 361, descriptorIndex := 339, attributes := #[] }, { accessFlags := 26, nameIndex := 364, descriptorIndex := 339, attributes := #[] }, { accessFlags := 26, nameIndex := 365, descriptorIndex := 339, attributes := #[] }, { accessFlags := 26, nameIndex := 172, descriptorIndex := 173, attributes := #[] }, { accessFlags := 26, nameIndex := 176, descriptorIndex := 173, attributes := #[] }, { accessFlags := 8, nameIndex := 344, descriptorIndex := 339, attributes := #[] }, { accessFlags := 8, nameIndex := 338, descriptorIndex := 339, attributes := #[] }, { accessFlags := 4120, nameIndex := 245, descriptorIndex := 246, attributes := #[] }])
  fields := #[{ name := "E", type := .double, accessFlags := 25, slot := 0, constantValue := 0 }, { name := "PI", type := .double, accessFlags := 25, slot := 1, constantValue := 0 }, { name := "TAU", type := .double, accessFlags := 25, slot := 2, constantValue := 0 }, { name := "DEGREES_TO_RADIANS", type := .double, accessFlags := 26, slot := 3, constantValue := 0 }, { name := "RADIANS_TO_DEGREES", type := .double, accessFlags := 26, slot := 4, constantValue := 0 }, { name := "negativeZeroFloatBits", type := .long, accessFlags := 26, slot := 5, constantValue := 0 }, { name := "negativeZeroDoubleBits", type := .long, accessFlags := 26, slot := 6, constantValue := 0 }, { name := "twoToTheDoubleScaleUp", type := .double, accessFlags := 8, slot := 7, constantValue := 0 }, { name := "twoToTheDoubleScaleDown", type := .double, accessFlags := 8, slot := 8, constantValue := 0 }, { name := "$assertionsDisabled", type := .boolean, accessFlags := 4120, slot := 9, constantValue := 0 }]
  methods := #[k15m0, k15m1]
  instanceTypes := #[]
  staticTypes := #[.double, .double, .double, .double, .double, .long, .long, .double, .double, .boolean]
  resolved := Array.replicate 460 none
  statics := none }

def pool16 : Array CpInfo := pool [(2, .class_ 4), (1, u "java/lang/Object"), (0, u "<init>"), (0, u "()V"), (1, .class_ 10), (1, u "java/lang/System"), (0, u "allowSecurityManager"), (0, u "I"), (16, u "cons"), (0, u "Ljava/io/Console;"), (77, .class_ 110), (1, u "java/lang/System$CallersHolder"), (43, u "initialErrStream"), (0, u "Ljava/io/PrintStream;"), (19, u "security"), (0, u "Ljava/lang/SecurityManager;"), (31, .class_ 209), (0, u "java/lang/System$1"), (7, u "props"), (0, u "Ljava/util/Properties;"), (2, u "lineSeparator"), (0, u "Ljava/lang/String;"), (96, .class_ 321), (1, u "java/lang/System$LoggerFinder"), (5, .class_ 328), (0, u "java/lang/System$Logger"), (67, u "err"), (2, u "out"), (91, u "notSupportedJnuEncoding"), (15, u "in"), (17, u "initialIn"), (0, u "Ljava/io/InputStream;"), (35, u "bootLayer"), (0, u "Ljava/lang/ModuleLayer;"), (99, .class_ 664), (0, u "java/lang/System$2"), (9, u "NEVER"), (2, u "MAYBE"), (49, u "arraycopy"), (0, u "(Ljava/lang/Object;ILjava/lang/Object;II)V"), (72, .class_ 802), (0, u "java/lang/System$Logger$Level")] 31

def k16m0 : Method := { name := "<init>", desc := "()V", sig := { parameters := [], returnType := none }, accessFlags := 2, code := none }
def k16m1 : Method := { name := "arraycopy", desc := "(Ljava/lang/Object;ILjava/lang/Object;II)V", sig := { parameters := [(.object "java/lang/Object"), .int, (.object "java/lang/Object"), .int, .int], returnType := none }, accessFlags := 265, code := none }
/-- java/lang/System -/
def k16 : Class := { plain "java/lang/System" (some 0) with
  accessFlags := 49
  interfaces := #[]
  cf := some (fileOf pool16 8 #[.nestMembers #[319, 327, 801, 108, 663, 208]] #[{ accessFlags := 2, nameIndex := 5, descriptorIndex := 6, attributes := #[] }, { accessFlags := 265, nameIndex := 727, descriptorIndex := 728, attributes := #[] }] 49 2 #[] #[{ accessFlags := 25, nameIndex := 507, descriptorIndex := 526, attributes := #[] }, { accessFlags := 25, nameIndex := 399, descriptorIndex := 155, attributes := #[] }, { accessFlags := 25, nameIndex := 396, descriptorIndex := 155, attributes := #[] }, { accessFlags := 10, nameIndex := 525, descriptorIndex := 526, attributes := #[] }, { accessFlags := 26, nameIndex := 674, descriptorIndex := 12, attributes := #[] }, { accessFlags := 26, nameIndex := 677, descriptorIndex := 12, attributes := #[] }, { accessFlags := 10, nameIndex := 11, descriptorIndex := 12, attributes := #[] }, { accessFlags := 74, nameIndex := 175, descriptorIndex := 176, attributes := #[] }, { accessFlags := 10, nameIndex := 491, descriptorIndex := 222, attributes := #[] }, { accessFlags := 74, nameIndex := 29, descriptorIndex := 30, attributes := #[] }, { accessFlags := 74, nameIndex := 154, descriptorIndex := 155, attributes := #[] }, { accessFlags := 10, nameIndex := 217, descriptorIndex := 218, attributes := #[] }, { accessFlags := 10, nameIndex := 221, descriptorIndex := 222, attributes := #[] }, { accessFlags := 8, nameIndex := 562, descriptorIndex := 563, attributes := #[] }])
  fields := #[{ name := "in", type := (.object "java/io/InputStream"), accessFlags := 25, slot := 0, constantValue := 0 }, { name := "out", type := (.object "java/io/PrintStream"), accessFlags := 25, slot := 1, constantValue := 0 }, { name := "err", type := (.object "java/io/PrintStream"), accessFlags := 25, slot := 2, constantValue := 0 }, { name := "initialIn", type := (.object "java/io/InputStream"), accessFlags := 10, slot := 3, constantValue := 0 }, { name := "NEVER", type := .int, accessFlags := 26, slot := 4, constantValue := 0 }, { name := "MAYBE", type := .int, accessFlags := 26, slot := 5, constantValue := 0 }, { name := "allowSecurityManager", type := .int, accessFlags := 10, slot := 6, constantValue := 0 }, { name := "security", type := (.object "java/lang/SecurityManager"), accessFlags := 74, slot := 7, constantValue := 0 }, { name := "notSupportedJnuEncoding", type := (.object "java/lang/String"), accessFlags := 10, slot := 8, constantValue := 0 }, { name := "cons", type := (.object "java/io/Console"), accessFlags := 74, slot := 9, constantValue := 0 }, { name := "initialErrStream", type := (.object "java/io/PrintStream"), accessFlags := 74, slot := 10, constantValue := 0 }, { name := "props", type := (.object "java/util/Properties"), accessFlags := 10, slot := 11, constantValue := 0 }, { name := "lineSeparator", type := (.object "java/lang/String"), accessFlags := 10, slot := 12, constantValue := 0 }, { name := "bootLayer", type := (.object "java/lang/ModuleLayer"), accessFlags := 8, slot := 13, constantValue := 0 }]
  methods := #[k16m0, k16m1]
  instanceTypes := #[]
  staticTypes := #[(.object "java/io/InputStream"), (.object "java/io/PrintStream"), (.object "java/io/PrintStream"), (.object "java/io/InputStream"), .int, .int, .int, (.object "java/lang/SecurityManager"), (.object "java/lang/String"), (.object "java/io/Console"), (.object "java/io/PrintStream"), (.object "java/util/Properties"), (.object "java/lang/String"), (.object "java/lang/ModuleLayer")]
  resolved := Array.replicate 834 none
  statics := none }

def pool17 : Array CpInfo := pool [(9, u "<init>"), (6, .class_ 18), (1, u "java/lang/Object"), (0, u "()V"), (1, .class_ 23), (1, u "jdk/internal/util/ArraysSupport"), (0, u "LOG2_ARRAY_LONG_INDEX_SCALE"), (0, u "I"), (2, u "U"), (0, u "Ljdk/internal/misc/Unsafe;"), (8, u "BIG_ENDIAN"), (0, u "Z"), (8, u "LOG2_BYTE_BIT_SIZE"), (4, u "LOG2_ARRAY_INT_INDEX_SCALE"), (54, u "JLA"), (0, u "Ljdk/internal/access/JavaLangAccess;"), (11, u "LOG2_ARRAY_BOOLEAN_INDEX_SCALE"), (9, u "LOG2_ARRAY_BYTE_INDEX_SCALE"), (5, u "LOG2_ARRAY_CHAR_INDEX_SCALE"), (5, u "LOG2_ARRAY_SHORT_INDEX_SCALE"), (18, u "LOG2_ARRAY_FLOAT_INDEX_SCALE"), (24, u "LOG2_ARRAY_DOUBLE_INDEX_SCALE"), (89, u "T_BOOLEAN"), (2, u "T_CHAR"), (1, u "T_FLOAT"), (1, u "T_DOUBLE"), (1, u "T_BYTE"), (1, u "T_SHORT"), (1, u "T_INT"), (1, u "T_LONG"), (1, u "SOFT_MAX_ARRAY_LENGTH")] 83

def k17m0 : Method := { name := "<init>", desc := "()V", sig := { parameters := [], returnType := none }, accessFlags := 2, code := none }
/-- jdk/internal/util/ArraysSupport -/
def k17 : Class := { plain "jdk/internal/util/ArraysSupport" (some 0) with
  accessFlags := 33
  interfaces := #[]
  cf := some (fileOf pool17 21 #[] #[{ accessFlags := 2, nameIndex := 9, descriptorIndex := 19, attributes := #[] }] 33 16 #[] #[{ accessFlags := 24, nameIndex := 28, descriptorIndex := 29, attributes := #[] }, { accessFlags := 26, nameIndex := 38, descriptorIndex := 39, attributes := #[] }, { accessFlags := 25, nameIndex := 121, descriptorIndex := 25, attributes := #[] }, { accessFlags := 25, nameIndex := 131, descriptorIndex := 25, attributes := #[] }, { accessFlags := 25, nameIndex := 137, descriptorIndex := 25, attributes := #[] }, { accessFlags := 25, nameIndex := 143, descriptorIndex := 25, attributes := #[] }, { accessFlags := 25, nameIndex := 53, descriptorIndex := 25, attributes := #[] }, { accessFlags := 25, nameIndex := 24, descriptorIndex := 25, attributes := #[] }, { accessFlags := 25, nameIndex := 162, descriptorIndex := 25, attributes := #[] }, { accessFlags := 25, nameIndex := 187, descriptorIndex := 25, attributes := #[] }, { accessFlags := 26, nameIndex := 48, descriptorIndex := 25, attributes := #[] }, { accessFlags := 25, nameIndex := 277, descriptorIndex := 25, attributes := #[] }, { accessFlags := 25, nameIndex := 280, descriptorIndex := 25, attributes := #[] }, { accessFlags := 25, nameIndex := 282, descriptorIndex := 25, attributes := #[] }, { accessFlags := 25, nameIndex := 284, descriptorIndex := 25, attributes := #[] }, { accessFlags := 25, nameIndex := 286, descriptorIndex := 25, attributes := #[] }, { accessFlags := 25, nameIndex := 288, descriptorIndex := 25, attributes := #[] }, { accessFlags := 25, nameIndex := 290, descriptorIndex := 25, attributes := #[] }, { accessFlags := 25, nameIndex := 292, descriptorIndex := 25, attributes := #[] }, { accessFlags := 26, nameIndex := 108, descriptorIndex := 109, attributes := #[] }, { accessFlags := 25, nameIndex := 294, descriptorIndex := 25, attributes := #[] }])
  fields := #[{ name := "U", type := (.object "jdk/internal/misc/Unsafe"), accessFlags := 24, slot := 0, constantValue := 0 }, { name := "BIG_ENDIAN", type := .boolean, accessFlags := 26, slot := 1, constantValue := 0 }, { name := "LOG2_ARRAY_BOOLEAN_INDEX_SCALE", type := .int, accessFlags := 25, slot := 2, constantValue := 0 }, { name := "LOG2_ARRAY_BYTE_INDEX_SCALE", type := .int, accessFlags := 25, slot := 3, constantValue := 0 }, { name := "LOG2_ARRAY_CHAR_INDEX_SCALE", type := .int, accessFlags := 25, slot := 4, constantValue := 0 }, { name := "LOG2_ARRAY_SHORT_INDEX_SCALE", type := .int, accessFlags := 25, slot := 5, constantValue := 0 }, { name := "LOG2_ARRAY_INT_INDEX_SCALE", type := .int, accessFlags := 25, slot := 6, constantValue := 0 }, { name := "LOG2_ARRAY_LONG_INDEX_SCALE", type := .int, accessFlags := 25, slot := 7, constantValue := 0 }, { name := "LOG2_ARRAY_FLOAT_INDEX_SCALE", type := .int, accessFlags := 25, slot := 8, constantValue := 0 }, { name := "LOG2_ARRAY_DOUBLE_INDEX_SCALE", type := .int, accessFlags := 25, slot := 9, constantValue := 0 }, { name := "LOG2_BYTE_BIT_SIZE", type := .int, accessFlags := 26, slot := 10, constantValue := 0 }, { name := "T_BOOLEAN", type := .int, accessFlags := 25, slot := 11, constantValue := 0 }, { name := "T_CHAR", type := .int, accessFlags := 25, slot := 12, constantValue := 0 }, { name := "T_FLOAT", type := .int, accessFlags := 25, slot := 13, constantValue := 0 }, { name := "T_DOUBLE", type := .int, accessFlags := 25, slot := 14, constantValue := 0 }, { name := "T_BYTE", type := .int, accessFlags := 25, slot := 15, constantValue := 0 }, { name := "T_SHORT", type := .int, accessFlags := 25, slot := 16, constantValue := 0 }, { name := "T_INT", type := .int, accessFlags := 25, slot := 17, constantValue := 0 }, { name := "T_LONG", type := .int, accessFlags := 25, slot := 18, constantValue := 0 }, { name := "JLA", type := (.object "jdk/internal/access/JavaLangAccess"), accessFlags := 26, slot := 19, constantValue := 0 }, { name := "SOFT_MAX_ARRAY_LENGTH", type := .int, accessFlags := 25, slot := 20, constantValue := 0 }]
  methods := #[k17m0]
  instanceTypes := #[]
  staticTypes := #[(.object "jdk/internal/misc/Unsafe"), .boolean, .int, .int, .int, .int, .int, .int, .int, .int, .int, .int, .int, .int, .int, .int, .int, .int, .int, (.object "jdk/internal/access/JavaLangAccess"), .int]
  resolved := Array.replicate 378 none
  statics := none }

def pool18 : Array CpInfo := pool [(1, u "java/lang/Cloneable"), (0, .class_ 1), (0, u "java/lang/Object"), (0, .class_ 3)] 3

/-- java/lang/Cloneable -/
def k18 : Class := { plain "java/lang/Cloneable" (some 0) with
  accessFlags := 1537
  interfaces := #[]
  cf := some (fileOf pool18 2 #[] #[] 1537 4 #[] #[])
  fields := #[]
  methods := #[]
  instanceTypes := #[]
  staticTypes := #[]
  resolved := Array.replicate 8 none
  statics := none }

/-- the primitive byte -/
def k19 : Class := { plain "byte" none with kind := .primitive 'B', accessFlags := 0x411 }
/-- [B -/
def k20 : Class := { plain "[B" (some 0) with kind := .array 19 .byte, interfaces := #[18, 2], accessFlags := 1041 }

/-- the primitive char -/
def k21 : Class := { plain "char" none with kind := .primitive 'C', accessFlags := 0x411 }
/-- [C -/
def k22 : Class := { plain "[C" (some 0) with kind := .array 21 .char, interfaces := #[18, 2], accessFlags := 1041 }

/-- the primitive int -/
def k23 : Class := { plain "int" none with kind := .primitive 'I', accessFlags := 0x411 }
/-- [I -/
def k24 : Class := { plain "[I" (some 0) with kind := .array 23 .int, interfaces := #[18, 2], accessFlags := 1041 }

def heap : Heap := #[{ cls := 7, slots := #[.long 0, .int 1, .null, .int 0, .null, .int 0, .int 0], vm := .statics 7 },
  { cls := 9, slots := #[.ref 4], vm := .statics 9 },
  { cls := 10, slots := #[.int 0, .int 8, .int 0, .int 1], vm := .statics 10 },
  { cls := 12, slots := #[.null, .null, .null], vm := .statics 12 },
  { cls := 9, slots := #[.null], vm := .none }]
def classes : Array Class := #[k0, k1, k2, k3, k4, k5, k6, k7, k8, k9, k10, k11, k12, k13, k14, k15, k16, k17, k18, k19, k20, k21, k22, k23, k24]
def interned : List (Array UInt16 × Addr) := []
def slotsUsed : Nat := 16
def theMethod : MethodId := ⟨1, 5⟩
def args0 : Array Value := #[.int 5, .int 6, .int 7, .int 8, .int 9]
def aboutOver (below : List Frame) : State where
  vm := { classes := classes, interned := interned.toArray }
  heap := heap
  slotsUsed := slotsUsed
  threads := #[{ frames := .invoking theMethod args0 :: below }]
def below0 : List Frame := [.native { method := ⟨0, 0⟩, args := #[] }]
def about1 : State := aboutOver below0
def p0 : Program := .bare "" "" ""
def e0 : Env := launch0.env 0 0 0
theorem w_frames : about1.frames = Frame.invoking theMethod args0 :: below0 := rfl
set_option maxRecDepth 65536 in
theorem w_args : argsFit about1.vm theMethod args0 = true := by decide +kernel
set_option maxRecDepth 65536 in
theorem w_heap : heapFits about1 = true := by decide +kernel
set_option maxRecDepth 65536 in
theorem w_runnable : about1.curStatus? = some .runnable := by decide +kernel
set_option maxRecDepth 65536 in
theorem w_alone : about1.alone = true := by decide +kernel
set_option maxRecDepth 65536 in
theorem w_named : about1.methodNamed? x = some theMethod := by decide +kernel
set_option maxRecDepth 65536 in
theorem w_hears : about1.hears theMethod below0 = true := by decide +kernel
set_option maxRecDepth 65536 in
theorem w_ripe : about1.ripe theMethod args0 below0 = true := by decide +kernel
theorem w_running : about1.status = .running := rfl
set_option maxRecDepth 65536 in
theorem w_room : about1.hasRoom e0.platform room_1 = true :=
  launch0.hasRoom_least _ room_1 (by decide +kernel) (by decide +kernel) (by decide +kernel) (by decide +kernel) (by decide +kernel) (by decide +kernel)
theorem allAtoms_all (ts : List Jvm.Cond) (a : Array Jvm.Value) (st : Jvm.State) : (allAtoms ts).before a st = ts.all (fun c => c.before a st) := by
  induction ts with
  | nil => rfl
  | cons c t ih =>
    show (Jvm.Cond.and c (allAtoms t)).before a st = _
    rw [Jvm.Cond.before_and, ih, List.all_cons]
def words1 : List Jvm.Cond := Jvm.Cond.code x code maxLocals ret :: tables_1
/-- a 'code' word, met by the world's own term for the bytes: nothing is compared byte by byte -/
theorem code_word {y : MethodName} {bytes : ByteArray} {mx : Nat} {rt : Option FieldType} {a : Array Value} {s : State} {m : MethodId} {meth : Method} {c : Code} (h1 : s.methodNamed? y = some m) (h2 : s.vm.method? m = some meth) (h3 : meth.code = some c) (h4 : c.code = bytes)
    (h5 : (c.maxLocals == mx && c.exceptionTable.isEmpty && decide (c.maxStack ≤ mostOperands) && decide (meth.sig.returnType = rt) && !meth.locks && decide (parseMethodDescriptor y.desc = some meth.sig)) = true) : (Jvm.Cond.code y bytes mx rt).before a s = true := by
  simp only [Bool.and_eq_true, beq_iff_eq, Bool.not_eq_true', decide_eq_true_eq] at h5
  obtain ⟨⟨⟨⟨⟨g1, g2⟩, g3⟩, g4⟩, g5⟩, g6⟩ := h5
  simp [Cond.before, Cond.holds, Cond.value, h1, h2, h3, h4, g1, g2, g3, g4, g5, g6]
def isCode : Jvm.Cond → Bool
  | .code _ _ _ _ => true
  | _ => false
theorem all_split {L : List Jvm.Cond} {P : Jvm.Cond → Bool} (h1 : L.all (fun c => isCode c || P c) = true) (h2 : ∀ c ∈ L.filter isCode, P c = true) : L.all P = true := by
  refine List.all_eq_true.mpr fun c hc => ?_
  have h := List.all_eq_true.mp h1 c hc
  rcases Bool.eq_false_or_eq_true (isCode c) with hi | hi
  · exact h2 c (List.mem_filter.mpr ⟨hc, hi⟩)
  · simpa [hi] using h
set_option maxRecDepth 65536 in
theorem w_c0 : (Jvm.Cond.code x code maxLocals ret).before args0 about1 = true := code_word (m := ⟨1, 5⟩) (meth := k1m5) (c := k1c5) (by decide +kernel) rfl rfl rfl (by decide +kernel)
set_option maxRecDepth 65536 in
theorem w_c1 : (Jvm.Cond.code ({ cls := "com/example/wrasse/wrasse/io/LineFilesContentPinLaw", name := "pick", desc := "(I)C" } : Jvm.MethodName) method_2_code (2 : Nat) (Option.some Jvm.ClassFile.FieldType.char)).before args0 about1 = true := code_word (m := ⟨1, 1⟩) (meth := k1m1) (c := k1c1) (by decide +kernel) rfl rfl rfl (by decide +kernel)
set_option maxRecDepth 65536 in
theorem w_c2 : (Jvm.Cond.code ({ cls := "com/example/wrasse/wrasse/io/LineFilesContentPinLaw", name := "make", desc := "(I[C)Ljava/lang/String;" } : Jvm.MethodName) method_4_code (3 : Nat) (Option.some (Jvm.ClassFile.FieldType.object "java/lang/String"))).before args0 about1 = true := code_word (m := ⟨1, 3⟩) (meth := k1m3) (c := k1c3) (by decide +kernel) rfl rfl rfl (by decide +kernel)
set_option maxRecDepth 65536 in
theorem w_c3 : (Jvm.Cond.code ({ cls := "java/lang/String", name := "<init>", desc := "([C)V" } : Jvm.MethodName) jdk_42_method_3_code (2 : Nat) (Option.none : Option Jvm.ClassFile.FieldType)).before args0 about1 = true := code_word (m := ⟨7, 1⟩) (meth := k7m1) (c := k7c1) (by decide +kernel) rfl rfl rfl (by decide +kernel)
set_option maxRecDepth 65536 in
theorem w_c4 : (Jvm.Cond.code ({ cls := "java/lang/String", name := "<init>", desc := "([CIILjava/lang/Void;)V" } : Jvm.MethodName) jdk_42_method_149_code (6 : Nat) (Option.none : Option Jvm.ClassFile.FieldType)).before args0 about1 = true := code_word (m := ⟨7, 6⟩) (meth := k7m6) (c := k7c6) (by decide +kernel) rfl rfl rfl (by decide +kernel)
set_option maxRecDepth 65536 in
theorem w_c5 : (Jvm.Cond.code ({ cls := "java/lang/Object", name := "<init>", desc := "()V" } : Jvm.MethodName) object_method_1_code (1 : Nat) (Option.none : Option Jvm.ClassFile.FieldType)).before args0 about1 = true := code_word (m := ⟨0, 0⟩) (meth := k0m0) (c := k0c0) (by decide +kernel) rfl rfl rfl (by decide +kernel)
set_option maxRecDepth 65536 in
theorem w_c6 : (Jvm.Cond.code ({ cls := "com/example/wrasse/wrasse/io/LineFiles", name := "content", desc := "(Ljava/lang/String;)Ljava/util/Optional;" } : Jvm.MethodName) prog_10_method_3_code (3 : Nat) (Option.some (Jvm.ClassFile.FieldType.object "java/util/Optional"))).before args0 about1 = true := code_word (m := ⟨8, 1⟩) (meth := k8m1) (c := k8c1) (by decide +kernel) rfl rfl rfl (by decide +kernel)
set_option maxRecDepth 65536 in
theorem w_c7 : (Jvm.Cond.code ({ cls := "java/lang/String", name := "length", desc := "()I" } : Jvm.MethodName) jdk_42_method_54_code (1 : Nat) (Option.some Jvm.ClassFile.FieldType.int)).before args0 about1 = true := code_word (m := ⟨7, 2⟩) (meth := k7m2) (c := k7c2) (by decide +kernel) rfl rfl rfl (by decide +kernel)
set_option maxRecDepth 65536 in
theorem w_c8 : (Jvm.Cond.code ({ cls := "java/lang/String", name := "coder", desc := "()B" } : Jvm.MethodName) jdk_42_method_152_code (1 : Nat) (Option.some Jvm.ClassFile.FieldType.byte)).before args0 about1 = true := code_word (m := ⟨7, 8⟩) (meth := k7m8) (c := k7c8) (by decide +kernel) rfl rfl rfl (by decide +kernel)
set_option maxRecDepth 65536 in
theorem w_c9 : (Jvm.Cond.code ({ cls := "java/util/Optional", name := "empty", desc := "()Ljava/util/Optional;" } : Jvm.MethodName) jdk_32_method_1_code (1 : Nat) (Option.some (Jvm.ClassFile.FieldType.object "java/util/Optional"))).before args0 about1 = true := code_word (m := ⟨9, 0⟩) (meth := k9m0) (c := k9c0) (by decide +kernel) rfl rfl rfl (by decide +kernel)
set_option maxRecDepth 65536 in
theorem w_c10 : (Jvm.Cond.code ({ cls := "java/util/Optional", name := "isPresent", desc := "()Z" } : Jvm.MethodName) jdk_32_method_6_code (1 : Nat) (Option.some Jvm.ClassFile.FieldType.boolean)).before args0 about1 = true := code_word (m := ⟨9, 4⟩) (meth := k9m4) (c := k9c4) (by decide +kernel) rfl rfl rfl (by decide +kernel)
set_option maxRecDepth 65536 in
theorem w_c11 : (Jvm.Cond.code ({ cls := "java/lang/StringUTF16", name := "compress", desc := "([CII)[B" } : Jvm.MethodName) jdk_52_method_16_code (6 : Nat) (Option.some (Jvm.ClassFile.FieldType.array Jvm.ClassFile.FieldType.byte))).before args0 about1 = true := code_word (m := ⟨10, 8⟩) (meth := k10m8) (c := k10c8) (by decide +kernel) rfl rfl rfl (by decide +kernel)
set_option maxRecDepth 65536 in
theorem w_c12 : (Jvm.Cond.code ({ cls := "java/lang/StringUTF16", name := "compress", desc := "([CI[BII)I" } : Jvm.MethodName) jdk_52_method_21_code (7 : Nat) (Option.some Jvm.ClassFile.FieldType.int)).before args0 about1 = true := code_word (m := ⟨10, 10⟩) (meth := k10m10) (c := k10c10) (by decide +kernel) rfl rfl rfl (by decide +kernel)
set_option maxRecDepth 65536 in
theorem w_c13 : (Jvm.Cond.code ({ cls := "java/lang/StringUTF16", name := "coderFromArrayLen", desc := "([BI)B" } : Jvm.MethodName) jdk_52_method_15_code (2 : Nat) (Option.some Jvm.ClassFile.FieldType.byte)).before args0 about1 = true := code_word (m := ⟨10, 7⟩) (meth := k10m7) (c := k10c7) (by decide +kernel) rfl rfl rfl (by decide +kernel)
set_option maxRecDepth 65536 in
theorem w_c14 : (Jvm.Cond.code ({ cls := "com/example/wrasse/wrasse/io/LineFilesContentPinLaw", name := "blank", desc := "(C)Z" } : Jvm.MethodName) method_3_code (1 : Nat) (Option.some Jvm.ClassFile.FieldType.boolean)).before args0 about1 = true := code_word (m := ⟨1, 2⟩) (meth := k1m2) (c := k1c2) (by decide +kernel) rfl rfl rfl (by decide +kernel)
set_option maxRecDepth 65536 in
theorem w_c15 : (Jvm.Cond.code ({ cls := "java/lang/String", name := "charAt", desc := "(I)C" } : Jvm.MethodName) jdk_42_method_56_code (2 : Nat) (Option.some Jvm.ClassFile.FieldType.char)).before args0 about1 = true := code_word (m := ⟨7, 3⟩) (meth := k7m3) (c := k7c3) (by decide +kernel) rfl rfl rfl (by decide +kernel)
set_option maxRecDepth 65536 in
theorem w_c16 : (Jvm.Cond.code ({ cls := "java/lang/String", name := "isLatin1", desc := "()Z" } : Jvm.MethodName) jdk_42_method_154_code (1 : Nat) (Option.some Jvm.ClassFile.FieldType.boolean)).before args0 about1 = true := code_word (m := ⟨7, 9⟩) (meth := k7m9) (c := k7c9) (by decide +kernel) rfl rfl rfl (by decide +kernel)
set_option maxRecDepth 65536 in
theorem w_c17 : (Jvm.Cond.code ({ cls := "java/lang/StringLatin1", name := "charAt", desc := "([BI)C" } : Jvm.MethodName) jdk_43_method_2_code (2 : Nat) (Option.some Jvm.ClassFile.FieldType.char)).before args0 about1 = true := code_word (m := ⟨11, 1⟩) (meth := k11m1) (c := k11c1) (by decide +kernel) rfl rfl rfl (by decide +kernel)
set_option maxRecDepth 65536 in
theorem w_c18 : (Jvm.Cond.code ({ cls := "java/lang/String", name := "checkIndex", desc := "(II)V" } : Jvm.MethodName) jdk_42_method_155_code (2 : Nat) (Option.none : Option Jvm.ClassFile.FieldType)).before args0 about1 = true := code_word (m := ⟨7, 10⟩) (meth := k7m10) (c := k7c10) (by decide +kernel) rfl rfl rfl (by decide +kernel)
set_option maxRecDepth 65536 in
theorem w_c19 : (Jvm.Cond.code ({ cls := "jdk/internal/util/Preconditions", name := "checkIndex", desc := "(IILjava/util/function/BiFunction;)I" } : Jvm.MethodName) jdk_41_method_11_code (3 : Nat) (Option.some Jvm.ClassFile.FieldType.int)).before args0 about1 = true := code_word (m := ⟨12, 1⟩) (meth := k12m1) (c := k12c1) (by decide +kernel) rfl rfl rfl (by decide +kernel)
set_option maxRecDepth 65536 in
theorem w_c20 : (Jvm.Cond.code ({ cls := "java/lang/String", name := "substring", desc := "(I)Ljava/lang/String;" } : Jvm.MethodName) jdk_42_method_91_code (2 : Nat) (Option.some (Jvm.ClassFile.FieldType.object "java/lang/String"))).before args0 about1 = true := code_word (m := ⟨7, 4⟩) (meth := k7m4) (c := k7c4) (by decide +kernel) rfl rfl rfl (by decide +kernel)
set_option maxRecDepth 65536 in
theorem w_c21 : (Jvm.Cond.code ({ cls := "java/lang/String", name := "substring", desc := "(II)Ljava/lang/String;" } : Jvm.MethodName) jdk_42_method_92_code (5 : Nat) (Option.some (Jvm.ClassFile.FieldType.object "java/lang/String"))).before args0 about1 = true := code_word (m := ⟨7, 5⟩) (meth := k7m5) (c := k7c5) (by decide +kernel) rfl rfl rfl (by decide +kernel)
set_option maxRecDepth 65536 in
theorem w_c22 : (Jvm.Cond.code ({ cls := "java/lang/String", name := "checkBoundsBeginEnd", desc := "(III)V" } : Jvm.MethodName) jdk_42_method_158_code (3 : Nat) (Option.none : Option Jvm.ClassFile.FieldType)).before args0 about1 = true := code_word (m := ⟨7, 12⟩) (meth := k7m12) (c := k7c12) (by decide +kernel) rfl rfl rfl (by decide +kernel)
set_option maxRecDepth 65536 in
theorem w_c23 : (Jvm.Cond.code ({ cls := "jdk/internal/util/Preconditions", name := "checkFromToIndex", desc := "(IIILjava/util/function/BiFunction;)I" } : Jvm.MethodName) jdk_41_method_12_code (4 : Nat) (Option.some Jvm.ClassFile.FieldType.int)).before args0 about1 = true := code_word (m := ⟨12, 2⟩) (meth := k12m2) (c := k12c2) (by decide +kernel) rfl rfl rfl (by decide +kernel)
set_option maxRecDepth 65536 in
theorem w_c24 : (Jvm.Cond.code ({ cls := "java/util/Optional", name := "of", desc := "(Ljava/lang/Object;)Ljava/util/Optional;" } : Jvm.MethodName) jdk_32_method_3_code (1 : Nat) (Option.some (Jvm.ClassFile.FieldType.object "java/util/Optional"))).before args0 about1 = true := code_word (m := ⟨9, 2⟩) (meth := k9m2) (c := k9c2) (by decide +kernel) rfl rfl rfl (by decide +kernel)
set_option maxRecDepth 65536 in
theorem w_c25 : (Jvm.Cond.code ({ cls := "java/util/Objects", name := "requireNonNull", desc := "(Ljava/lang/Object;)Ljava/lang/Object;" } : Jvm.MethodName) jdk_31_method_10_code (1 : Nat) (Option.some (Jvm.ClassFile.FieldType.object "java/lang/Object"))).before args0 about1 = true := code_word (m := ⟨13, 1⟩) (meth := k13m1) (c := k13c1) (by decide +kernel) rfl rfl rfl (by decide +kernel)
set_option maxRecDepth 65536 in
theorem w_c26 : (Jvm.Cond.code ({ cls := "java/util/Optional", name := "<init>", desc := "(Ljava/lang/Object;)V" } : Jvm.MethodName) jdk_32_method_2_code (2 : Nat) (Option.none : Option Jvm.ClassFile.FieldType)).before args0 about1 = true := code_word (m := ⟨9, 1⟩) (meth := k9m1) (c := k9c1) (by decide +kernel) rfl rfl rfl (by decide +kernel)
set_option maxRecDepth 65536 in
theorem w_c27 : (Jvm.Cond.code ({ cls := "java/util/Optional", name := "get", desc := "()Ljava/lang/Object;" } : Jvm.MethodName) jdk_32_method_5_code (1 : Nat) (Option.some (Jvm.ClassFile.FieldType.object "java/lang/Object"))).before args0 about1 = true := code_word (m := ⟨9, 3⟩) (meth := k9m3) (c := k9c3) (by decide +kernel) rfl rfl rfl (by decide +kernel)
set_option maxRecDepth 65536 in
theorem w_c28 : (Jvm.Cond.code ({ cls := "com/example/wrasse/wrasse/io/LineFilesContentPinLaw", name := "at", desc := "(Ljava/lang/String;II[CI)Z" } : Jvm.MethodName) method_5_code (5 : Nat) (Option.some Jvm.ClassFile.FieldType.boolean)).before args0 about1 = true := code_word (m := ⟨1, 4⟩) (meth := k1m4) (c := k1c4) (by decide +kernel) rfl rfl rfl (by decide +kernel)
set_option maxRecDepth 65536 in
theorem w_c29 : (Jvm.Cond.code ({ cls := "java/lang/StringUTF16", name := "toBytes", desc := "([CII)[B" } : Jvm.MethodName) jdk_52_method_14_code (5 : Nat) (Option.some (Jvm.ClassFile.FieldType.array Jvm.ClassFile.FieldType.byte))).before args0 about1 = true := code_word (m := ⟨10, 6⟩) (meth := k10m6) (c := k10c6) (by decide +kernel) rfl rfl rfl (by decide +kernel)
set_option maxRecDepth 65536 in
theorem w_c30 : (Jvm.Cond.code ({ cls := "java/lang/StringUTF16", name := "newBytesFor", desc := "(I)[B" } : Jvm.MethodName) jdk_52_method_2_code (1 : Nat) (Option.some (Jvm.ClassFile.FieldType.array Jvm.ClassFile.FieldType.byte))).before args0 about1 = true := code_word (m := ⟨10, 1⟩) (meth := k10m1) (c := k10c1) (by decide +kernel) rfl rfl rfl (by decide +kernel)
set_option maxRecDepth 65536 in
theorem w_c31 : (Jvm.Cond.code ({ cls := "java/lang/StringUTF16", name := "newBytesLength", desc := "(I)I" } : Jvm.MethodName) jdk_52_method_3_code (1 : Nat) (Option.some Jvm.ClassFile.FieldType.int)).before args0 about1 = true := code_word (m := ⟨10, 2⟩) (meth := k10m2) (c := k10c2) (by decide +kernel) rfl rfl rfl (by decide +kernel)
set_option maxRecDepth 65536 in
theorem w_c32 : (Jvm.Cond.code ({ cls := "java/lang/StringUTF16", name := "putChar", desc := "([BII)V" } : Jvm.MethodName) jdk_52_method_4_code (3 : Nat) (Option.none : Option Jvm.ClassFile.FieldType)).before args0 about1 = true := code_word (m := ⟨10, 3⟩) (meth := k10m3) (c := k10c3) (by decide +kernel) rfl rfl rfl (by decide +kernel)
set_option maxRecDepth 65536 in
theorem w_c33 : (Jvm.Cond.code ({ cls := "java/lang/StringUTF16", name := "getChar", desc := "([BI)C" } : Jvm.MethodName) jdk_52_method_5_code (2 : Nat) (Option.some Jvm.ClassFile.FieldType.char)).before args0 about1 = true := code_word (m := ⟨10, 4⟩) (meth := k10m4) (c := k10c4) (by decide +kernel) rfl rfl rfl (by decide +kernel)
set_option maxRecDepth 65536 in
theorem w_c34 : (Jvm.Cond.code ({ cls := "java/lang/StringUTF16", name := "charAt", desc := "([BI)C" } : Jvm.MethodName) jdk_52_method_83_code (2 : Nat) (Option.some Jvm.ClassFile.FieldType.char)).before args0 about1 = true := code_word (m := ⟨10, 13⟩) (meth := k10m13) (c := k10c13) (by decide +kernel) rfl rfl rfl (by decide +kernel)
set_option maxRecDepth 65536 in
theorem w_c35 : (Jvm.Cond.code ({ cls := "java/lang/StringUTF16", name := "checkIndex", desc := "(I[B)V" } : Jvm.MethodName) jdk_52_method_91_code (2 : Nat) (Option.none : Option Jvm.ClassFile.FieldType)).before args0 about1 = true := code_word (m := ⟨10, 14⟩) (meth := k10m14) (c := k10c14) (by decide +kernel) rfl rfl rfl (by decide +kernel)
set_option maxRecDepth 65536 in
theorem w_c36 : (Jvm.Cond.code ({ cls := "java/lang/StringUTF16", name := "length", desc := "([B)I" } : Jvm.MethodName) jdk_52_method_6_code (1 : Nat) (Option.some Jvm.ClassFile.FieldType.int)).before args0 about1 = true := code_word (m := ⟨10, 5⟩) (meth := k10m5) (c := k10c5) (by decide +kernel) rfl rfl rfl (by decide +kernel)
set_option maxRecDepth 65536 in
theorem w_c37 : (Jvm.Cond.code ({ cls := "java/lang/StringUTF16", name := "newString", desc := "([BII)Ljava/lang/String;" } : Jvm.MethodName) jdk_52_method_69_code (5 : Nat) (Option.some (Jvm.ClassFile.FieldType.object "java/lang/String"))).before args0 about1 = true := code_word (m := ⟨10, 12⟩) (meth := k10m12) (c := k10c12) (by decide +kernel) rfl rfl rfl (by decide +kernel)
set_option maxRecDepth 65536 in
theorem w_c38 : (Jvm.Cond.code ({ cls := "java/lang/StringUTF16", name := "compress", desc := "([BII)[B" } : Jvm.MethodName) jdk_52_method_17_code (6 : Nat) (Option.some (Jvm.ClassFile.FieldType.array Jvm.ClassFile.FieldType.byte))).before args0 about1 = true := code_word (m := ⟨10, 9⟩) (meth := k10m9) (c := k10c9) (by decide +kernel) rfl rfl rfl (by decide +kernel)
set_option maxRecDepth 65536 in
theorem w_c39 : (Jvm.Cond.code ({ cls := "java/lang/StringUTF16", name := "compress", desc := "([BI[BII)I" } : Jvm.MethodName) jdk_52_method_22_code (7 : Nat) (Option.some Jvm.ClassFile.FieldType.int)).before args0 about1 = true := code_word (m := ⟨10, 11⟩) (meth := k10m11) (c := k10c11) (by decide +kernel) rfl rfl rfl (by decide +kernel)
set_option maxRecDepth 65536 in
theorem w_c40 : (Jvm.Cond.code ({ cls := "java/lang/StringUTF16", name := "checkBoundsOffCount", desc := "(II[B)V" } : Jvm.MethodName) jdk_52_method_94_code (3 : Nat) (Option.none : Option Jvm.ClassFile.FieldType)).before args0 about1 = true := code_word (m := ⟨10, 15⟩) (meth := k10m15) (c := k10c15) (by decide +kernel) rfl rfl rfl (by decide +kernel)
set_option maxRecDepth 65536 in
theorem w_c41 : (Jvm.Cond.code ({ cls := "java/lang/String", name := "checkBoundsOffCount", desc := "(III)I" } : Jvm.MethodName) jdk_42_method_157_code (3 : Nat) (Option.some Jvm.ClassFile.FieldType.int)).before args0 about1 = true := code_word (m := ⟨7, 11⟩) (meth := k7m11) (c := k7c11) (by decide +kernel) rfl rfl rfl (by decide +kernel)
set_option maxRecDepth 65536 in
theorem w_c42 : (Jvm.Cond.code ({ cls := "jdk/internal/util/Preconditions", name := "checkFromIndexSize", desc := "(IIILjava/util/function/BiFunction;)I" } : Jvm.MethodName) jdk_41_method_13_code (4 : Nat) (Option.some Jvm.ClassFile.FieldType.int)).before args0 about1 = true := code_word (m := ⟨12, 3⟩) (meth := k12m3) (c := k12c3) (by decide +kernel) rfl rfl rfl (by decide +kernel)
set_option maxRecDepth 65536 in
theorem w_c43 : (Jvm.Cond.code ({ cls := "java/util/Arrays", name := "copyOfRange", desc := "([BII)[B" } : Jvm.MethodName) jdk_65_method_132_code (3 : Nat) (Option.some (Jvm.ClassFile.FieldType.array Jvm.ClassFile.FieldType.byte))).before args0 about1 = true := code_word (m := ⟨14, 2⟩) (meth := k14m2) (c := k14c2) (by decide +kernel) rfl rfl rfl (by decide +kernel)
set_option maxRecDepth 65536 in
theorem w_c44 : (Jvm.Cond.code ({ cls := "java/util/Arrays", name := "copyOfRangeByte", desc := "([BII)[B" } : Jvm.MethodName) jdk_65_method_133_code (5 : Nat) (Option.some (Jvm.ClassFile.FieldType.array Jvm.ClassFile.FieldType.byte))).before args0 about1 = true := code_word (m := ⟨14, 3⟩) (meth := k14m3) (c := k14c3) (by decide +kernel) rfl rfl rfl (by decide +kernel)
set_option maxRecDepth 65536 in
theorem w_c45 : (Jvm.Cond.code ({ cls := "java/util/Arrays", name := "checkLength", desc := "(II)V" } : Jvm.MethodName) jdk_65_method_131_code (2 : Nat) (Option.none : Option Jvm.ClassFile.FieldType)).before args0 about1 = true := code_word (m := ⟨14, 1⟩) (meth := k14m1) (c := k14c1) (by decide +kernel) rfl rfl rfl (by decide +kernel)
set_option maxRecDepth 65536 in
theorem w_c46 : (Jvm.Cond.code ({ cls := "java/lang/Math", name := "min", desc := "(II)I" } : Jvm.MethodName) jdk_29_method_69_code (2 : Nat) (Option.some Jvm.ClassFile.FieldType.int)).before args0 about1 = true := code_word (m := ⟨15, 1⟩) (meth := k15m1) (c := k15c1) (by decide +kernel) rfl rfl rfl (by decide +kernel)
set_option maxRecDepth 65536 in
theorem w_c47 : (Jvm.Cond.code ({ cls := "java/lang/String", name := "<init>", desc := "([BB)V" } : Jvm.MethodName) jdk_42_method_151_code (3 : Nat) (Option.none : Option Jvm.ClassFile.FieldType)).before args0 about1 = true := code_word (m := ⟨7, 7⟩) (meth := k7m7) (c := k7c7) (by decide +kernel) rfl rfl rfl (by decide +kernel)
set_option maxRecDepth 65536 in
theorem w_c48 : (Jvm.Cond.code ({ cls := "java/lang/StringLatin1", name := "newString", desc := "([BII)Ljava/lang/String;" } : Jvm.MethodName) jdk_43_method_47_code (3 : Nat) (Option.some (Jvm.ClassFile.FieldType.object "java/lang/String"))).before args0 about1 = true := code_word (m := ⟨11, 2⟩) (meth := k11m2) (c := k11c2) (by decide +kernel) rfl rfl rfl (by decide +kernel)
def codes1 : List Jvm.Cond := [Jvm.Cond.code x code maxLocals ret, Jvm.Cond.code ({ cls := "com/example/wrasse/wrasse/io/LineFilesContentPinLaw", name := "pick", desc := "(I)C" } : Jvm.MethodName) method_2_code (2 : Nat) (Option.some Jvm.ClassFile.FieldType.char), Jvm.Cond.code ({ cls := "com/example/wrasse/wrasse/io/LineFilesContentPinLaw", name := "make", desc := "(I[C)Ljava/lang/String;" } : Jvm.MethodName) method_4_code (3 : Nat) (Option.some (Jvm.ClassFile.FieldType.object "java/lang/String")), Jvm.Cond.code ({ cls := "java/lang/String", name := "<init>", desc := "([C)V" } : Jvm.MethodName) jdk_42_method_3_code (2 : Nat) (Option.none : Option Jvm.ClassFile.FieldType), Jvm.Cond.code ({ cls := "java/lang/String", name := "<init>", desc := "([CIILjava/lang/Void;)V" } : Jvm.MethodName) jdk_42_method_149_code (6 : Nat) (Option.none : Option Jvm.ClassFile.FieldType), Jvm.Cond.code ({ cls := "java/lang/Object", name := "<init>", desc := "()V" } : Jvm.MethodName) object_method_1_code (1 : Nat) (Option.none : Option Jvm.ClassFile.FieldType), Jvm.Cond.code ({ cls := "com/example/wrasse/wrasse/io/LineFiles", name := "content", desc := "(Ljava/lang/String;)Ljava/util/Optional;" } : Jvm.MethodName) prog_10_method_3_code (3 : Nat) (Option.some (Jvm.ClassFile.FieldType.object "java/util/Optional")), Jvm.Cond.code ({ cls := "java/lang/String", name := "length", desc := "()I" } : Jvm.MethodName) jdk_42_method_54_code (1 : Nat) (Option.some Jvm.ClassFile.FieldType.int), Jvm.Cond.code ({ cls := "java/lang/String", name := "coder", desc := "()B" } : Jvm.MethodName) jdk_42_method_152_code (1 : Nat) (Option.some Jvm.ClassFile.FieldType.byte), Jvm.Cond.code ({ cls := "java/util/Optional", name := "empty", desc := "()Ljava/util/Optional;" } : Jvm.MethodName) jdk_32_method_1_code (1 : Nat) (Option.some (Jvm.ClassFile.FieldType.object "java/util/Optional")), Jvm.Cond.code ({ cls := "java/util/Optional", name := "isPresent", desc := "()Z" } : Jvm.MethodName) jdk_32_method_6_code (1 : Nat) (Option.some Jvm.ClassFile.FieldType.boolean), Jvm.Cond.code ({ cls := "java/lang/StringUTF16", name := "compress", desc := "([CII)[B" } : Jvm.MethodName) jdk_52_method_16_code (6 : Nat) (Option.some (Jvm.ClassFile.FieldType.array Jvm.ClassFile.FieldType.byte)), Jvm.Cond.code ({ cls := "java/lang/StringUTF16", name := "compress", desc := "([CI[BII)I" } : Jvm.MethodName) jdk_52_method_21_code (7 : Nat) (Option.some Jvm.ClassFile.FieldType.int), Jvm.Cond.code ({ cls := "java/lang/StringUTF16", name := "coderFromArrayLen", desc := "([BI)B" } : Jvm.MethodName) jdk_52_method_15_code (2 : Nat) (Option.some Jvm.ClassFile.FieldType.byte), Jvm.Cond.code ({ cls := "com/example/wrasse/wrasse/io/LineFilesContentPinLaw", name := "blank", desc := "(C)Z" } : Jvm.MethodName) method_3_code (1 : Nat) (Option.some Jvm.ClassFile.FieldType.boolean), Jvm.Cond.code ({ cls := "java/lang/String", name := "charAt", desc := "(I)C" } : Jvm.MethodName) jdk_42_method_56_code (2 : Nat) (Option.some Jvm.ClassFile.FieldType.char), Jvm.Cond.code ({ cls := "java/lang/String", name := "isLatin1", desc := "()Z" } : Jvm.MethodName) jdk_42_method_154_code (1 : Nat) (Option.some Jvm.ClassFile.FieldType.boolean), Jvm.Cond.code ({ cls := "java/lang/StringLatin1", name := "charAt", desc := "([BI)C" } : Jvm.MethodName) jdk_43_method_2_code (2 : Nat) (Option.some Jvm.ClassFile.FieldType.char), Jvm.Cond.code ({ cls := "java/lang/String", name := "checkIndex", desc := "(II)V" } : Jvm.MethodName) jdk_42_method_155_code (2 : Nat) (Option.none : Option Jvm.ClassFile.FieldType), Jvm.Cond.code ({ cls := "jdk/internal/util/Preconditions", name := "checkIndex", desc := "(IILjava/util/function/BiFunction;)I" } : Jvm.MethodName) jdk_41_method_11_code (3 : Nat) (Option.some Jvm.ClassFile.FieldType.int), Jvm.Cond.code ({ cls := "java/lang/String", name := "substring", desc := "(I)Ljava/lang/String;" } : Jvm.MethodName) jdk_42_method_91_code (2 : Nat) (Option.some (Jvm.ClassFile.FieldType.object "java/lang/String")), Jvm.Cond.code ({ cls := "java/lang/String", name := "substring", desc := "(II)Ljava/lang/String;" } : Jvm.MethodName) jdk_42_method_92_code (5 : Nat) (Option.some (Jvm.ClassFile.FieldType.object "java/lang/String")), Jvm.Cond.code ({ cls := "java/lang/String", name := "checkBoundsBeginEnd", desc := "(III)V" } : Jvm.MethodName) jdk_42_method_158_code (3 : Nat) (Option.none : Option Jvm.ClassFile.FieldType), Jvm.Cond.code ({ cls := "jdk/internal/util/Preconditions", name := "checkFromToIndex", desc := "(IIILjava/util/function/BiFunction;)I" } : Jvm.MethodName) jdk_41_method_12_code (4 : Nat) (Option.some Jvm.ClassFile.FieldType.int), Jvm.Cond.code ({ cls := "java/util/Optional", name := "of", desc := "(Ljava/lang/Object;)Ljava/util/Optional;" } : Jvm.MethodName) jdk_32_method_3_code (1 : Nat) (Option.some (Jvm.ClassFile.FieldType.object "java/util/Optional")), Jvm.Cond.code ({ cls := "java/util/Objects", name := "requireNonNull", desc := "(Ljava/lang/Object;)Ljava/lang/Object;" } : Jvm.MethodName) jdk_31_method_10_code (1 : Nat) (Option.some (Jvm.ClassFile.FieldType.object "java/lang/Object")), Jvm.Cond.code ({ cls := "java/util/Optional", name := "<init>", desc := "(Ljava/lang/Object;)V" } : Jvm.MethodName) jdk_32_method_2_code (2 : Nat) (Option.none : Option Jvm.ClassFile.FieldType), Jvm.Cond.code ({ cls := "java/util/Optional", name := "get", desc := "()Ljava/lang/Object;" } : Jvm.MethodName) jdk_32_method_5_code (1 : Nat) (Option.some (Jvm.ClassFile.FieldType.object "java/lang/Object")), Jvm.Cond.code ({ cls := "com/example/wrasse/wrasse/io/LineFilesContentPinLaw", name := "at", desc := "(Ljava/lang/String;II[CI)Z" } : Jvm.MethodName) method_5_code (5 : Nat) (Option.some Jvm.ClassFile.FieldType.boolean), Jvm.Cond.code ({ cls := "java/lang/StringUTF16", name := "toBytes", desc := "([CII)[B" } : Jvm.MethodName) jdk_52_method_14_code (5 : Nat) (Option.some (Jvm.ClassFile.FieldType.array Jvm.ClassFile.FieldType.byte)), Jvm.Cond.code ({ cls := "java/lang/StringUTF16", name := "newBytesFor", desc := "(I)[B" } : Jvm.MethodName) jdk_52_method_2_code (1 : Nat) (Option.some (Jvm.ClassFile.FieldType.array Jvm.ClassFile.FieldType.byte)), Jvm.Cond.code ({ cls := "java/lang/StringUTF16", name := "newBytesLength", desc := "(I)I" } : Jvm.MethodName) jdk_52_method_3_code (1 : Nat) (Option.some Jvm.ClassFile.FieldType.int), Jvm.Cond.code ({ cls := "java/lang/StringUTF16", name := "putChar", desc := "([BII)V" } : Jvm.MethodName) jdk_52_method_4_code (3 : Nat) (Option.none : Option Jvm.ClassFile.FieldType), Jvm.Cond.code ({ cls := "java/lang/StringUTF16", name := "getChar", desc := "([BI)C" } : Jvm.MethodName) jdk_52_method_5_code (2 : Nat) (Option.some Jvm.ClassFile.FieldType.char), Jvm.Cond.code ({ cls := "java/lang/StringUTF16", name := "charAt", desc := "([BI)C" } : Jvm.MethodName) jdk_52_method_83_code (2 : Nat) (Option.some Jvm.ClassFile.FieldType.char), Jvm.Cond.code ({ cls := "java/lang/StringUTF16", name := "checkIndex", desc := "(I[B)V" } : Jvm.MethodName) jdk_52_method_91_code (2 : Nat) (Option.none : Option Jvm.ClassFile.FieldType), Jvm.Cond.code ({ cls := "java/lang/StringUTF16", name := "length", desc := "([B)I" } : Jvm.MethodName) jdk_52_method_6_code (1 : Nat) (Option.some Jvm.ClassFile.FieldType.int), Jvm.Cond.code ({ cls := "java/lang/StringUTF16", name := "newString", desc := "([BII)Ljava/lang/String;" } : Jvm.MethodName) jdk_52_method_69_code (5 : Nat) (Option.some (Jvm.ClassFile.FieldType.object "java/lang/String")), Jvm.Cond.code ({ cls := "java/lang/StringUTF16", name := "compress", desc := "([BII)[B" } : Jvm.MethodName) jdk_52_method_17_code (6 : Nat) (Option.some (Jvm.ClassFile.FieldType.array Jvm.ClassFile.FieldType.byte)), Jvm.Cond.code ({ cls := "java/lang/StringUTF16", name := "compress", desc := "([BI[BII)I" } : Jvm.MethodName) jdk_52_method_22_code (7 : Nat) (Option.some Jvm.ClassFile.FieldType.int), Jvm.Cond.code ({ cls := "java/lang/StringUTF16", name := "checkBoundsOffCount", desc := "(II[B)V" } : Jvm.MethodName) jdk_52_method_94_code (3 : Nat) (Option.none : Option Jvm.ClassFile.FieldType), Jvm.Cond.code ({ cls := "java/lang/String", name := "checkBoundsOffCount", desc := "(III)I" } : Jvm.MethodName) jdk_42_method_157_code (3 : Nat) (Option.some Jvm.ClassFile.FieldType.int), Jvm.Cond.code ({ cls := "jdk/internal/util/Preconditions", name := "checkFromIndexSize", desc := "(IIILjava/util/function/BiFunction;)I" } : Jvm.MethodName) jdk_41_method_13_code (4 : Nat) (Option.some Jvm.ClassFile.FieldType.int), Jvm.Cond.code ({ cls := "java/util/Arrays", name := "copyOfRange", desc := "([BII)[B" } : Jvm.MethodName) jdk_65_method_132_code (3 : Nat) (Option.some (Jvm.ClassFile.FieldType.array Jvm.ClassFile.FieldType.byte)), Jvm.Cond.code ({ cls := "java/util/Arrays", name := "copyOfRangeByte", desc := "([BII)[B" } : Jvm.MethodName) jdk_65_method_133_code (5 : Nat) (Option.some (Jvm.ClassFile.FieldType.array Jvm.ClassFile.FieldType.byte)), Jvm.Cond.code ({ cls := "java/util/Arrays", name := "checkLength", desc := "(II)V" } : Jvm.MethodName) jdk_65_method_131_code (2 : Nat) (Option.none : Option Jvm.ClassFile.FieldType), Jvm.Cond.code ({ cls := "java/lang/Math", name := "min", desc := "(II)I" } : Jvm.MethodName) jdk_29_method_69_code (2 : Nat) (Option.some Jvm.ClassFile.FieldType.int), Jvm.Cond.code ({ cls := "java/lang/String", name := "<init>", desc := "([BB)V" } : Jvm.MethodName) jdk_42_method_151_code (3 : Nat) (Option.none : Option Jvm.ClassFile.FieldType), Jvm.Cond.code ({ cls := "java/lang/StringLatin1", name := "newString", desc := "([BII)Ljava/lang/String;" } : Jvm.MethodName) jdk_43_method_47_code (3 : Nat) (Option.some (Jvm.ClassFile.FieldType.object "java/lang/String"))]
set_option maxRecDepth 65536 in
theorem codes_eq : words1.filter isCode = codes1 := rfl
theorem w_codes : ∀ c ∈ words1.filter isCode, c.before args0 about1 = true := by
  rw [codes_eq]
  intro c hc
  simp only [codes1, List.mem_cons, List.not_mem_nil, or_false] at hc
  rcases hc with rfl | rfl | rfl | rfl | rfl | rfl | rfl | rfl | rfl | rfl | rfl | rfl | rfl | rfl | rfl | rfl | rfl | rfl | rfl | rfl | rfl | rfl | rfl | rfl | rfl | rfl | rfl | rfl | rfl | rfl | rfl | rfl | rfl | rfl | rfl | rfl | rfl | rfl | rfl | rfl | rfl | rfl | rfl | rfl | rfl | rfl | rfl | rfl | rfl
  · exact w_c0
  · exact w_c1
  · exact w_c2
  · exact w_c3
  · exact w_c4
  · exact w_c5
  · exact w_c6
  · exact w_c7
  · exact w_c8
  · exact w_c9
  · exact w_c10
  · exact w_c11
  · exact w_c12
  · exact w_c13
  · exact w_c14
  · exact w_c15
  · exact w_c16
  · exact w_c17
  · exact w_c18
  · exact w_c19
  · exact w_c20
  · exact w_c21
  · exact w_c22
  · exact w_c23
  · exact w_c24
  · exact w_c25
  · exact w_c26
  · exact w_c27
  · exact w_c28
  · exact w_c29
  · exact w_c30
  · exact w_c31
  · exact w_c32
  · exact w_c33
  · exact w_c34
  · exact w_c35
  · exact w_c36
  · exact w_c37
  · exact w_c38
  · exact w_c39
  · exact w_c40
  · exact w_c41
  · exact w_c42
  · exact w_c43
  · exact w_c44
  · exact w_c45
  · exact w_c46
  · exact w_c47
  · exact w_c48
set_option maxRecDepth 65536 in
theorem w_t1 : (words1.take 24).all (fun c => isCode c || c.before args0 about1) = true := by decide +kernel
set_option maxRecDepth 65536 in
theorem w_t2 : ((words1.drop 24).take 24).all (fun c => isCode c || c.before args0 about1) = true := by decide +kernel
set_option maxRecDepth 65536 in
theorem w_t3 : (((words1.drop 24).drop 24).take 24).all (fun c => isCode c || c.before args0 about1) = true := by decide +kernel
set_option maxRecDepth 65536 in
theorem w_t4 : ((((words1.drop 24).drop 24).drop 24).take 24).all (fun c => isCode c || c.before args0 about1) = true := by decide +kernel
set_option maxRecDepth 65536 in
theorem w_t5 : (((((words1.drop 24).drop 24).drop 24).drop 24).take 24).all (fun c => isCode c || c.before args0 about1) = true := by decide +kernel
set_option maxRecDepth 65536 in
theorem w_t6 : ((((((words1.drop 24).drop 24).drop 24).drop 24).drop 24).take 24).all (fun c => isCode c || c.before args0 about1) = true := by decide +kernel
set_option maxRecDepth 65536 in
theorem w_t7 : (((((((words1.drop 24).drop 24).drop 24).drop 24).drop 24).drop 24).take 24).all (fun c => isCode c || c.before args0 about1) = true := by decide +kernel
set_option maxRecDepth 65536 in
theorem w_t8 : ((((((((words1.drop 24).drop 24).drop 24).drop 24).drop 24).drop 24).drop 24).take 24).all (fun c => isCode c || c.before args0 about1) = true := by decide +kernel
set_option maxRecDepth 65536 in
theorem w_t9 : ((((((((words1.drop 24).drop 24).drop 24).drop 24).drop 24).drop 24).drop 24).drop 24).all (fun c => isCode c || c.before args0 about1) = true := by decide +kernel
theorem w_tables : (allAtoms (Jvm.Cond.code x code maxLocals ret :: tables_1)).before args0 about1 = true := by
  rw [allAtoms_all]
  show words1.all (fun c => c.before args0 about1) = true
  refine all_split ?_ w_codes
  rw [← List.take_append_drop 24 words1, List.all_append, w_t1, ← List.take_append_drop 24 (words1.drop 24), List.all_append, w_t2, ← List.take_append_drop 24 ((words1.drop 24).drop 24), List.all_append, w_t3, ← List.take_append_drop 24 (((words1.drop 24).drop 24).drop 24), List.all_append, w_t4, ← List.take_append_drop 24 ((((words1.drop 24).drop 24).drop 24).drop 24), List.all_append, w_t5, ← List.take_append_drop 24 (((((words1.drop 24).drop 24).drop 24).drop 24).drop 24), List.all_append, w_t6, ← List.take_append_drop 24 ((((((words1.drop 24).drop 24).drop 24).drop 24).drop 24).drop 24), List.all_append, w_t7, ← List.take_append_drop 24 (((((((words1.drop 24).drop 24).drop 24).drop 24).drop 24).drop 24).drop 24), List.all_append, w_t8, w_t9]
  rfl
set_option maxRecDepth 65536 in
theorem w_rest : rest_1_c.before args0 about1 = true := by decide +kernel
set_option maxRecDepth 65536 in
theorem w_case : (Jvm.Cond.and given_1 narrow_1).before args0 about1 = true := by decide +kernel
set_option maxRecDepth 65536 in
theorem w_consts : constsHeld consts_1 about1 := Jvm.Lit.constsHeldB_iff.mp (by decide +kernel)
theorem w_applies : (headSpec (Jvm.Cond.code x code maxLocals ret :: tables_1) room_1).applies x e0.platform about1 = true :=
  (Spec.applies_iff w_frames).mpr ⟨w_running, w_runnable, w_alone, w_named, w_hears, w_ripe, w_room, w_tables⟩
theorem atStart : AtStart classFile x code maxLocals ret World_1 tables_1 room_1 Calls_1 rest_1 Pre_1 launch0 p0 e0 about1 theMethod args0 below0 :=
  ⟨lists_1, trivial, launch0.admits_env _ _ _, launch0.least_env, fairChoices_fair.cas, fairChoices_fair.clock, w_frames, w_args, w_heap, w_applies, ⟨w_consts, trivial⟩, w_rest, w_case⟩
end start1
theorem witness_1 : WitnessClaimed_1 := ⟨start1.p0, start1.e0, start1.about1, start1.theMethod, start1.args0, start1.below0, start1.atStart⟩
end Jvm.Pilot.@@N@@

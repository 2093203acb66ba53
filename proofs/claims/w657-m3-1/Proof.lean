import JvmDerived
import JvmDerived.Pilot.@@N@@Statement
import JvmDerived.Pilot.@@N@@Code
set_option linter.unusedVariables false
set_option linter.unusedSimpArgs false
namespace Jvm.RoadKit
open Sem ClassFile Op Lib Jvm.Stand Jvm.Free Jvm.LawKit
section New
variable {p : Program} {l : Launch} {e : Env} {R : Room} {s : State} {m : MethodId} {args : Array Value} {below : List Frame} {meth : Method} {c : Code} {T : State} {locs : List Loc} {cells slots : Nat}
theorem retI (X : Stand p l e R s m args below meth c T locs cells slots) (hx : p.tables.exec = Jvm.exec) {pc : Nat} {Ls : Array Slot} {z : Int32} {rest : List Value} (hret : meth.sig.returnType = some .int) (hd : decode c.code pc = .ok (.ireturn, 1)) {fs : List Frame}
    (hl : ∀ (f : JFrame) (acts : List Action), f.method = m → f.locked = none → f.entered = [] → (doReturn e (T.setTop f) acts (some (.int z))).1 = T.setFrames fs) : Steps p.tables e below (T.setTop (mkF m pc Ls (.int z :: rest))) (T.setFrames fs) := by
  have hm' : T.vm.method? m = some meth := X.method'
  have hn : narrow .int (.int z) = .int z := rfl
  show Steps p.tables e below (T.setTop { method := m, pc := pc, locals := Ls, stack := _ :: rest, locked := none }) _
  jvm_step X.here [X.here.top, hx, hd, hm', hret, hn]
  first | (intro acts; rw [hl _ acts rfl rfl rfl]) | rw [hl _ _ rfl rfl rfl]
  exact Steps.refl _
end New
end Jvm.RoadKit
namespace Jvm.Pilot.@@N@@
open Jvm Jvm.ClassFile Sem Op Lib Jvm.Free Jvm.Stand Jvm.LawKit Jvm.RoadKit Bundle Jvm.Pilot.@@N@@.Jvm.D
theorem own_w {α : Type _} {l : List α} {a : α} (i : Nat) (h : l[i]? = some a) : a ∈ l := List.mem_of_getElem? h
theorem own_eqint {args : Array Value} {first s : State} {o : Option Outcome} {idx : List Nat} {t : Term} {n : Int32} (h : (Jvm.Cond.eq t (.int n)).value args first o s idx = some true) : t.eval args first o idx s = some (.int n) := by
  obtain ⟨x, y, hx, hy, -, k⟩ := cmp_v (Or.inl h)
  obtain rfl : y = .int n := (Option.some.inj ((Term.int_eval n).symm.trans hy)).symm
  obtain ⟨z, rfl⟩ := k
  simp only [Cond.value, hx, hy] at h
  rw [hx, show z = n by simpa using h]
theorem own_stakeep {Z : State} {h h' : Heap} {C n d : String} {v : Value} (K : Keep h h' []) (F : Sta Z h C n d v) : Sta Z h' C n d v := F.ext ⟨K.1, fun a c q => K.2.1 a c q nin0⟩
theorem own_selpriv {s : State} {args : Array Value} {y : MethodName} {n : Nat} (hi : (Jvm.Cond.instantiable y.cls n).before args s = true) (hp : s.PrivateAt y) (hinst : (Jvm.Cond.instanceMethod y).before args s = true) (hy : y.cls ≠ "java/lang/invoke/MethodHandle" ∧ y.cls ≠ "java/lang/invoke/VarHandle") : (Jvm.Cond.selects y.cls y y).before args s = true := by
  obtain ⟨c, k, h1, h2, h3, h4, -⟩ := Cond.instantiable_spec hi
  exact selects_self_of_private h1 h2 (Bool.or_eq_false_iff.mp h4).1 hp hinst hy
theorem own_lceq {a b : Int64} (h : a = b) : lcmpW a b = 0 := by subst h; simp [lcmpW, Int64.lt_irrefl]
theorem own_lcne {a b : Int64} (h : ¬ a = b) : ¬ lcmpW a b = 0 := by
  unfold lcmpW; split
  · decide
  · first | decide | (rw [if_neg h]; decide)
theorem own_lcgt {a b : Int64} (h : b < a) : (0 : Int32) < lcmpW a b := by unfold lcmpW; rw [if_pos h]; decide
theorem own_lcngt {a b : Int64} (h : ¬ b < a) : ¬ (0 : Int32) < lcmpW a b := by unfold lcmpW; rw [if_neg h]; split <;> decide
theorem own_lclt {a b : Int64} (h : a < b) : lcmpW a b < (0 : Int32) := by
  have h1 : ¬ b < a := fun q => by rw [Int64.lt_iff_toInt_lt] at h q; omega
  have h2 : ¬ a = b := fun q => by subst q; rw [Int64.lt_iff_toInt_lt] at h; omega
  unfold lcmpW; rw [if_neg h1, if_neg h2]; decide
theorem own_lcnlt {a b : Int64} (h : ¬ a < b) : ¬ lcmpW a b < (0 : Int32) := by
  unfold lcmpW; split
  · decide
  · split
    · decide
    · rename_i h1 h2; exact absurd (Int64.toInt_inj.mp (by simp only [gt_iff_lt, Int64.lt_iff_toInt_lt] at h h1; omega)) h2
def own_b (c : Int32) : Int32 := nar .byte (c.toInt8.toInt32)
def own_lo (c : Int32) : Int32 := nar .byte ((c >>> ((0 : Int32) &&& 31)).toInt8.toInt32)
def own_hi (c : Int32) : Int32 := nar .byte ((c >>> ((8 : Int32) &&& 31)).toInt8.toInt32)
def own_gc (a b : Int32) : Int32 := (((a &&& (255 : Int32)) <<< ((0 : Int32) &&& 31)) ||| ((b &&& (255 : Int32)) <<< ((8 : Int32) &&& 31))).toUInt32.toUInt16.toUInt32.toInt32
def own_g1 (a : Int32) : Int32 := (a &&& (255 : Int32)).toUInt32.toUInt16.toUInt32.toInt32
def own_ch (c : Int32) : Prop := 0 ≤ c.toInt ∧ c.toInt < 65536
theorem own_nb (x : Int32) : nar .byte (x.toInt8.toInt32) = x.toInt8.toInt32 := by simp [nar, narrow]
theorem own_b_m (c : Int32) : ((own_b c) &&& (255 : Int32)).toInt = c.toInt % 256 := by
  unfold own_b; rw [own_nb, c_mask _ (255 : Int32) 8 (by decide) (by decide)]
  have := c_i2b c; omega
theorem own_lo_m (c : Int32) : ((own_lo c) &&& (255 : Int32)).toInt = c.toInt % 256 := by
  unfold own_lo; rw [own_nb, c_mask _ (255 : Int32) 8 (by decide) (by decide)]
  have := c_i2b (c >>> ((0 : Int32) &&& 31)); have := c_ishr c (0 : Int32) 0 (by decide); omega
theorem own_hi_m (c : Int32) : ((own_hi c) &&& (255 : Int32)).toInt = (c.toInt / 256) % 256 := by
  unfold own_hi; rw [own_nb, c_mask _ (255 : Int32) 8 (by decide) (by decide)]
  have := c_i2b (c >>> ((8 : Int32) &&& 31)); have := c_ishr c (8 : Int32) 8 (by decide); omega
theorem own_g1_eq {c : Int32} (h : own_ch c) (hl : c.toInt < 256) : own_g1 (own_b c) = c := by
  apply Int32.toInt_inj.mp
  unfold own_g1; have a := c_i2c ((own_b c) &&& (255 : Int32)); have b := own_b_m c; unfold own_ch at h; omega
theorem own_gc_eq {c : Int32} (h : own_ch c) : own_gc (own_lo c) (own_hi c) = c := by
  apply Int32.toInt_inj.mp
  unfold own_gc
  have l := own_lo_m c; have u := own_hi_m c
  generalize ((own_lo c) &&& (255 : Int32)) = x at *
  generalize ((own_hi c) &&& (255 : Int32)) = y at *
  have sx := c_ishl x (0 : Int32) 0 (by decide); have sy := c_ishl y (8 : Int32) 8 (by decide)
  unfold own_ch at h
  have r1 := rng32 (x <<< ((0 : Int32) &&& 31)); have r2 := rng32 (y <<< ((8 : Int32) &&& 31))
  have o := c_or' (x <<< ((0 : Int32) &&& 31)) (y <<< ((8 : Int32) &&& 31)) 8 (by decide) 256 (by decide)
  have ex : (x <<< ((0 : Int32) &&& 31)).toInt = c.toInt % 256 := by omega
  have ey : (y <<< ((8 : Int32) &&& 31)).toInt = 256 * ((c.toInt / 256) % 256) := by omega
  have o2 := o (by omega) (by omega) (by omega)
  have q := c_i2c ((x <<< ((0 : Int32) &&& 31)) ||| (y <<< ((8 : Int32) &&& 31)))
  omega
def own_lat (cs : List Int32) : List Value := cs.map fun c => Value.int (own_b c)
def own_utf : List Int32 → List Value
  | [] => []
  | c :: r => .int (own_lo c) :: .int (own_hi c) :: own_utf r
theorem own_lat_at {cs : List Int32} {i : Nat} (h : i < cs.length) (d : Value) : (own_lat cs).getD i d = .int (own_b (cs.getD i 0)) := by
  simp [own_lat, List.getD_eq_getElem?_getD, h]
theorem own_utf_at : ∀ (cs : List Int32) (i : Nat) (d : Value), i < cs.length → (own_utf cs).getD (2 * i) d = .int (own_lo (cs.getD i 0)) ∧ (own_utf cs).getD (2 * i + 1) d = .int (own_hi (cs.getD i 0))
  | [], i, d, h => absurd h (Nat.not_lt_zero i)
  | c :: r, 0, d, _ => ⟨rfl, rfl⟩
  | c :: r, i + 1, d, h => by
    have q := own_utf_at r i d (Nat.lt_of_succ_lt_succ h)
    exact q
theorem own_utf_len : ∀ cs : List Int32, (own_utf cs).length = 2 * cs.length
  | [] => rfl
  | c :: r => by simp only [own_utf, List.length_cons, own_utf_len r]; omega
-- small numbers
theorem own_xN {i : Nat} (h : i < 16) : (Int32.ofNat i).toNatClampNeg = i := (by decide : ∀ i, i < 16 → (Int32.ofNat i).toNatClampNeg = i) i h
theorem own_x0 {i : Nat} (h : i < 16) : ¬ Int32.ofNat i < 0 := (by decide : ∀ i, i < 16 → ¬ Int32.ofNat i < 0) i h
theorem own_xlt {i n : Nat} (h : i < 16) (hn : n < 16) : Int32.ofNat i < Int32.ofNat n ↔ i < n := (by decide +kernel : ∀ i, i < 16 → ∀ n, n < 16 → (Int32.ofNat i < Int32.ofNat n ↔ i < n)) i h n hn
theorem own_xeq {i n : Nat} (h : i < 16) (hn : n < 16) : Int32.ofNat i = Int32.ofNat n ↔ i = n := (by decide +kernel : ∀ i, i < 16 → ∀ n, n < 16 → (Int32.ofNat i = Int32.ofNat n ↔ i = n)) i h n hn
theorem own_xs {i : Nat} (h : i < 16) : Int32.ofNat i + 1 = Int32.ofNat (i + 1) := (by decide : ∀ i, i < 16 → Int32.ofNat i + 1 = Int32.ofNat (i + 1)) i h
theorem own_xd {i : Nat} (h : i < 16) (h0 : 0 < i) : Int32.ofNat i - 1 = Int32.ofNat (i - 1) := (by decide : ∀ i, i < 16 → 0 < i → Int32.ofNat i - 1 = Int32.ofNat (i - 1)) i h h0
theorem own_xsh {i : Nat} (h : i < 8) : Int32.ofNat i <<< ((1 : Int32) &&& 31) = Int32.ofNat (2 * i) := (by decide : ∀ i, i < 8 → Int32.ofNat i <<< ((1 : Int32) &&& 31) = Int32.ofNat (2 * i)) i h
theorem own_xhr {i : Nat} (h : i < 8) : Int32.ofNat (2 * i) >>> ((1 : Int32) &&& 31) = Int32.ofNat i := (by decide : ∀ i, i < 8 → Int32.ofNat (2 * i) >>> ((1 : Int32) &&& 31) = Int32.ofNat i) i h
theorem own_xsub {i j : Nat} (h : i < 16) (hj : j ≤ i) : Int32.ofNat i - Int32.ofNat j = Int32.ofNat (i - j) := (by decide +kernel : ∀ i, i < 16 → ∀ j, j < 17 → j ≤ i → Int32.ofNat i - Int32.ofNat j = Int32.ofNat (i - j)) i h j (by omega) hj
theorem own_xadd {i j : Nat} (h : i < 16) (hj : j < 16) : Int32.ofNat i + Int32.ofNat j = Int32.ofNat (i + j) := (by decide +kernel : ∀ i, i < 16 → ∀ j, j < 16 → Int32.ofNat i + Int32.ofNat j = Int32.ofNat (i + j)) i h j hj
-- arrays filled from the left
def own_mix (f : Int32 → Value) (d : Value) : List Int32 → Nat → List Value
  | [], _ => []
  | _ :: r, 0 => d :: own_mix f d r 0
  | c :: r, i + 1 => f c :: own_mix f d r i
def own_mix2 (d : Value) : List Int32 → Nat → List Value
  | [], _ => []
  | _ :: r, 0 => d :: d :: own_mix2 d r 0
  | c :: r, i + 1 => .int (own_lo c) :: .int (own_hi c) :: own_mix2 d r i
theorem own_mix0 (f : Int32 → Value) (d : Value) : ∀ cs : List Int32, own_mix f d cs 0 = List.replicate cs.length d
  | [] => rfl
  | c :: r => by simp [own_mix, own_mix0 f d r, List.replicate_succ]
theorem own_mixS (f : Int32 → Value) (d : Value) : ∀ (cs : List Int32) (i : Nat), i < cs.length → (own_mix f d cs i).set i (f (cs.getD i 0)) = own_mix f d cs (i + 1)
  | [], i, h => absurd h (Nat.not_lt_zero i)
  | c :: r, 0, _ => rfl
  | c :: r, i + 1, h => by
    have q := own_mixS f d r i (Nat.lt_of_succ_lt_succ h)
    show f c :: (own_mix f d r i).set i (f (r.getD i 0)) = f c :: own_mix f d r (i + 1)
    rw [q]
theorem own_mixE (f : Int32 → Value) (d : Value) : ∀ cs : List Int32, own_mix f d cs cs.length = cs.map f
  | [] => rfl
  | c :: r => by simp [own_mix, own_mixE f d r]
theorem own_mixL (f : Int32 → Value) (d : Value) : ∀ (cs : List Int32) (i : Nat), (own_mix f d cs i).length = cs.length
  | [], _ => rfl
  | c :: r, 0 => by simp [own_mix, own_mixL f d r 0]
  | c :: r, i + 1 => by simp [own_mix, own_mixL f d r i]
theorem own_mix20 (d : Value) : ∀ cs : List Int32, own_mix2 d cs 0 = List.replicate (2 * cs.length) d
  | [] => rfl
  | c :: r => by
    have e : 2 * (c :: r).length = (2 * r.length + 1) + 1 := by simp only [List.length_cons]; omega
    rw [e, List.replicate_succ, List.replicate_succ, ← own_mix20 d r]; rfl
theorem own_mix2S (d : Value) : ∀ (cs : List Int32) (i : Nat), i < cs.length → ((own_mix2 d cs i).set (2 * i) (.int (own_lo (cs.getD i 0)))).set (2 * i + 1) (.int (own_hi (cs.getD i 0))) = own_mix2 d cs (i + 1)
  | [], i, h => absurd h (Nat.not_lt_zero i)
  | c :: r, 0, _ => rfl
  | c :: r, i + 1, h => by
    have q := own_mix2S d r i (Nat.lt_of_succ_lt_succ h)
    show .int (own_lo c) :: .int (own_hi c) :: ((own_mix2 d r i).set (2 * i) (.int (own_lo (r.getD i 0)))).set (2 * i + 1) (.int (own_hi (r.getD i 0))) = .int (own_lo c) :: .int (own_hi c) :: own_mix2 d r (i + 1)
    rw [q]
theorem own_mix2E (d : Value) : ∀ cs : List Int32, own_mix2 d cs cs.length = own_utf cs
  | [] => rfl
  | c :: r => by simp [own_mix2, own_utf, own_mix2E d r]
theorem own_mix2L (d : Value) : ∀ (cs : List Int32) (i : Nat), (own_mix2 d cs i).length = 2 * cs.length
  | [], _ => rfl
  | c :: r, 0 => by simp only [own_mix2, List.length_cons, own_mix2L d r 0]; omega
  | c :: r, i + 1 => by simp only [own_mix2, List.length_cons, own_mix2L d r i]; omega
-- a stretch of a text
def own_cut (cs : List Int32) (b m : Nat) : List Int32 := (cs.drop b).take m
theorem own_cutL {cs : List Int32} {b m : Nat} (h : b + m ≤ cs.length) : (own_cut cs b m).length = m := by simp [own_cut]; omega
theorem own_cutAt {cs : List Int32} {b m i : Nat} (h : i < m) : (own_cut cs b m).getD i 0 = cs.getD (b + i) 0 := by
  simp [own_cut, List.getD_eq_getElem?_getD, h]
theorem own_latR {cs : List Int32} {b m : Nat} (h : b + m ≤ cs.length) (d : Value) : (List.range m).map (fun i => (own_lat cs).getD (b + i) d) = own_lat (own_cut cs b m) := by
  apply List.ext_getElem
  · simp [own_lat, own_cutL h]
  · intro i h1 h2
    have hi : i < m := by simpa using h1
    have e := own_lat_at (cs := own_cut cs b m) (i := i) (by rw [own_cutL h]; exact hi) d
    rw [List.getD_eq_getElem?_getD, List.getElem?_eq_getElem h2] at e
    simp only [List.getElem_map, List.getElem_range]
    rw [own_lat_at (by omega), ← own_cutAt (cs := cs) (b := b) hi]
    exact e.symm
theorem own_utfR {cs : List Int32} {b m : Nat} (h : b + m ≤ cs.length) (d : Value) : (List.range (2 * m)).map (fun i => (own_utf cs).getD (2 * b + i) d) = own_utf (own_cut cs b m) := by
  apply List.ext_getElem
  · simp [own_utf_len, own_cutL h]
  · intro i h1 h2
    have hi : i < 2 * m := by simpa using h1
    simp only [List.getElem_map, List.getElem_range]
    have hj : i / 2 < m := by omega
    have e := own_utf_at (own_cut cs b m) (i / 2) d (by rw [own_cutL h]; exact hj)
    have f := own_utf_at cs (b + i / 2) d (by omega)
    rw [own_cutAt hj] at e
    have g : (own_utf (own_cut cs b m))[i] = (own_utf (own_cut cs b m)).getD i d := by rw [List.getD_eq_getElem?_getD, List.getElem?_eq_getElem h2]; rfl
    rw [g]
    rcases Nat.mod_two_eq_zero_or_one i with q | q
    · have e1 : i = 2 * (i / 2) := by omega
      have e2 : 2 * b + i = 2 * (b + i / 2) := by omega
      rw [e2, f.1, ← e.1, ← e1]
    · have e1 : i = 2 * (i / 2) + 1 := by omega
      have e2 : 2 * b + i = 2 * (b + i / 2) + 1 := by omega
      rw [e2, f.2, ← e.2, ← e1]
theorem own_cutCh {cs : List Int32} (h : ∀ c ∈ cs, own_ch c) (b m : Nat) : ∀ c ∈ own_cut cs b m, own_ch c := fun c hc => h c (List.mem_of_mem_drop (List.mem_of_mem_take hc))
theorem own_getCh {cs : List Int32} (h : ∀ c ∈ cs, own_ch c) (i : Nat) : own_ch (cs.getD i 0) := by
  by_cases q : i < cs.length
  · rw [List.getD_eq_getElem?_getD, List.getElem?_eq_getElem q]; exact h _ (List.getElem_mem q)
  · rw [List.getD_eq_getElem?_getD, List.getElem?_eq_none (by omega)]; exact ⟨by decide, by decide⟩
-- a String that says cs
def own_S (Z : State) (h : Heap) (sr : Addr) (cs : List Int32) : Prop := ∃ (vb : Addr) (kb : ClassId), Exa Z h sr "java/lang/String" ∧ Fld Z h sr "java/lang/String" "value" "[B" (.ref vb) ∧
  ((Fld Z h sr "java/lang/String" "coder" "B" (.int (0 : Int32)) ∧ Arv Z h vb kb .byte (Int32.ofNat cs.length) (own_lat cs) (.int (0 : Int32)) ∧ ∀ c ∈ cs, c.toInt < 256) ∨
   (Fld Z h sr "java/lang/String" "coder" "B" (.int (1 : Int32)) ∧ Arv Z h vb kb .byte (Int32.ofNat (2 * cs.length)) (own_utf cs) (.int (0 : Int32))))
theorem own_Sext {Z : State} {h h' : Heap} {sr : Addr} {cs : List Int32} (S : own_S Z h sr cs) (E : Ext h h') : own_S Z h' sr cs := by
  obtain ⟨vb, kb, a, b, c⟩ := S
  refine ⟨vb, kb, a.ext E, b.ext E, ?_⟩
  rcases c with ⟨c, d, e⟩ | ⟨c, d⟩
  · exact Or.inl ⟨c.ext E, d.ext E, e⟩
  · exact Or.inr ⟨c.ext E, d.ext E⟩
theorem own_Skeep {Z : State} {h h' : Heap} {sr : Addr} {cs : List Int32} (S : own_S Z h sr cs) (K : Keep h h' []) : own_S Z h' sr cs := by
  obtain ⟨vb, kb, a, b, c⟩ := S
  refine ⟨vb, kb, a.keep K, b.keep K nin0, ?_⟩
  rcases c with ⟨c, d, e⟩ | ⟨c, d⟩
  · exact Or.inl ⟨c.keep K nin0, d.keep K nin0, e⟩
  · exact Or.inr ⟨c.keep K nin0, d.keep K nin0⟩
theorem own_sh0 (x : Int32) : x >>> ((0 : Int32) &&& 31) = x := by
  apply Int32.toInt_inj.mp
  have := c_ishr x (0 : Int32) 0 (by decide); omega
theorem own_nc (x : Int32) : nar .char (x.toUInt32.toUInt16.toUInt32.toInt32) = x.toUInt32.toUInt16.toUInt32.toInt32 := by
  have e : ∀ y : Int32, nar .char y = y.toUInt32.toUInt16.toUInt32.toInt32 := fun y => rfl
  rw [e]; apply Int32.toInt_inj.mp
  have a := c_i2c x; have b := c_i2c (x.toUInt32.toUInt16.toUInt32.toInt32); omega
theorem own_ncc {c : Int32} (h : own_ch c) : nar .char c = c := by
  have e : nar .char c = c.toUInt32.toUInt16.toUInt32.toInt32 := rfl
  rw [e]; apply Int32.toInt_inj.mp
  have a := c_i2c c; unfold own_ch at h; omega
theorem own_getLt {cs : List Int32} {i : Nat} (h : ∀ c ∈ cs, c.toInt < 256) (hi : i < cs.length) : (cs.getD i 0).toInt < 256 := by
  rw [List.getD_eq_getElem?_getD, List.getElem?_eq_getElem hi]; exact h _ (List.getElem_mem hi)
theorem own_xbig {i : Nat} (h : i < 16) : Int32.ofNat i < (1073741823 : Int32) := (by decide : ∀ i, i < 16 → Int32.ofNat i < (1073741823 : Int32)) i h
theorem own_chat {cs : List Int32} {i : Nat} {d : Value} (h : i < cs.length) : (cs.map Value.int).getD i d = .int (cs.getD i 0) := by
  simp [List.getD_eq_getElem?_getD, h]

theorem d18_0 : decode jdk_41_method_11_code 0 = .ok (.iload_n 0, 1) := by decide +kernel
theorem d18_1 : decode jdk_41_method_11_code 1 = .ok (.ifCond .lt 8, 3) := by decide +kernel
theorem d18_4 : decode jdk_41_method_11_code 4 = .ok (.iload_n 0, 1) := by decide +kernel
theorem d18_5 : decode jdk_41_method_11_code 5 = .ok (.iload_n 1, 1) := by decide +kernel
theorem d18_6 : decode jdk_41_method_11_code 6 = .ok (.if_icmp .lt 10, 3) := by decide +kernel
theorem d18_16 : decode jdk_41_method_11_code 16 = .ok (.iload_n 0, 1) := by decide +kernel
theorem d18_17 : decode jdk_41_method_11_code 17 = .ok (.ireturn, 1) := by decide +kernel
theorem pn_18 : plainName "jdk/internal/util/Preconditions" = true := by first | (simp [plainName, overriddenIn]; done) | decide +kernel
theorem ef_rPin (m : MethodId) (p1 : Int32) (p2 : Int32) : entryFrame m #[(.int p1), (.int p2), .null] 3 = mkF m 0 #[.val (.int p1), .val (.int p2), .val .null] [] := by first | (simp [entryFrame, mkF, argsToLocals, Value.category]; done) | rfl
def QrPin (Z : State) (p1 : Int32) (p2 : Int32) (h0 : Heap) (n0 : Nat) (v : Option Value) (h : Heap) (L : List Loc) : Prop := ∃ z : Int32, z = (p1) ∧ v = some (.int z) ∧ Fr n0 L ∧ h = h0
set_option maxRecDepth 65536 in
set_option maxHeartbeats 40000000 in
theorem rPin (l : Launch) (Z : State) (a0 : Array Value) (hw : ∀ d ∈ tables_1, d.before a0 Z = true) (ws : List Jvm.Cond) (p1 : Int32) (p2 : Int32) (h0 : Heap) (n0 : Nat) (Z0 : n0 ≤ h0.size) (hlo : ¬ p1 < (0 : Int32)) (hhi : p1 < p2) :
    MetFree l (⟨"jdk/internal/util/Preconditions", "checkIndex", "(IILjava/util/function/BiFunction;)I"⟩ : MethodName) (head1 (Jvm.Cond.code (⟨"jdk/internal/util/Preconditions", "checkIndex", "(IILjava/util/function/BiFunction;)I"⟩ : MethodName) jdk_41_method_11_code 3 (some .int) :: ws) ({ frames := 0, cells := 0, slots := 0, locals := 0 } : Room)) (fun a U => a = #[(.int p1), (.int p2), .null] ∧ Z.Warmed39 U.vm ∧ U.heap = h0) (fun _ _ _ _ _ => True) (fun _ U o U' => ∃ v L, o = .returned v ∧ QrPin Z p1 p2 h0 n0 v U'.heap L ∧ FrameEnd U o U' L ({ frames := 0, cells := 0, slots := 0, locals := 0 } : Room).cells ({ frames := 0, cells := 0, slots := 0, locals := 0 } : Room).slots) := by
  refine MetFree.of_bodySF (plainFor_of_name pn_18) hisR ?_
  intro p e s m args below meth c s₁ Bd hml0 hP hK
  obtain ⟨rfl, hZ, hh⟩ := hP
  have hx := Bd.exec
  have hby := Bd.bytes
  have hml : c.maxLocals = 3 := hml0
  have hown : s.vm.findClass "jdk/internal/util/Preconditions" = some m.cls := findClass_of_methodNamed Bd.named
  have hnm := (name_of_methodNamed Bd.named Bd.method).1
  have X0 : Stand p l e ({ frames := 0, cells := 0, slots := 0, locals := 0 } : Room) s m #[(.int p1), (.int p2), .null] below meth c s₁ [] 0 0 := Stand.of_body Bd
  have e0 : s₁.heap = h0 := by rw [← hh, Bd.state]; rfl
  have N0 := Fr.nil n0
  have pre0 : ∀ t, Steps p.tables e below (s₁.setTop (mkF m 0 #[.val (.int p1), .val (.int p2), .val .null] [])) t → Steps p.tables e below (s₁.setTop (entryFrame m #[(.int p1), (.int p2), .null] 3)) t := fun t k => castTop (ef_rPin m p1 p2) k
  obtain ⟨fs, hr, hrun, hended, hW, hsame⟩ := X0.leave (v := some (.int p1)) (fun h => by rw [Bd.returns] at h; cases h) (BodyLoose.notSynchronized Bd)
  refine ⟨_, _, pre0 _ ?_, hrun, hended, _, _, rfl, ?_, ⟨_, rfl⟩, hW, hsame.mono (by decide) (by decide)⟩
  · show Steps p.tables e below (s₁.setTop (mkF m 0 #[.val (.int p1), .val (.int p2), .val .null] [])) _
    refine XS.iloadN X0.here hx rfl (hb hby d18_0) rfl ?_
    refine XS.ifNo X0.here hx rfl (hb hby d18_1) rfl ((if0 _ _).trans (flt hlo).1) ?_
    refine XS.iloadN X0.here hx rfl (hb hby d18_4) rfl ?_
    refine XS.iloadN X0.here hx rfl (hb hby d18_5) rfl ?_
    refine XS.icmpYes X0.here hx rfl (pc0 := 6) (pc' := 16) rfl (hb hby d18_6) rfl (tlt hhi).1 (by decide) (by decide) ?_
    refine XS.iloadN X0.here hx rfl (hb hby d18_16) rfl ?_
    exact retI X0 hx Bd.returns (hb hby d18_17) hr
  · show QrPin Z p1 p2 h0 n0 _ s₁.heap _
    exact ⟨_, rfl, rfl, N0, e0⟩
theorem ef_rPir (m : MethodId) (p1 : Int32) (p2 : Int32) (a3 : Addr) : entryFrame m #[(.int p1), (.int p2), (.ref a3)] 3 = mkF m 0 #[.val (.int p1), .val (.int p2), .val (.ref a3)] [] := by first | (simp [entryFrame, mkF, argsToLocals, Value.category]; done) | rfl
def QrPir (Z : State) (p1 : Int32) (p2 : Int32) (a3 : Addr) (h0 : Heap) (n0 : Nat) (v : Option Value) (h : Heap) (L : List Loc) : Prop := ∃ z : Int32, z = (p1) ∧ v = some (.int z) ∧ Fr n0 L ∧ h = h0
set_option maxRecDepth 65536 in
set_option maxHeartbeats 40000000 in
theorem rPir (l : Launch) (Z : State) (a0 : Array Value) (hw : ∀ d ∈ tables_1, d.before a0 Z = true) (ws : List Jvm.Cond) (p1 : Int32) (p2 : Int32) (a3 : Addr) (h0 : Heap) (n0 : Nat) (Z0 : n0 ≤ h0.size) (hlo : ¬ p1 < (0 : Int32)) (hhi : p1 < p2) :
    MetFree l (⟨"jdk/internal/util/Preconditions", "checkIndex", "(IILjava/util/function/BiFunction;)I"⟩ : MethodName) (head1 (Jvm.Cond.code (⟨"jdk/internal/util/Preconditions", "checkIndex", "(IILjava/util/function/BiFunction;)I"⟩ : MethodName) jdk_41_method_11_code 3 (some .int) :: ws) ({ frames := 0, cells := 0, slots := 0, locals := 0 } : Room)) (fun a U => a = #[(.int p1), (.int p2), (.ref a3)] ∧ Z.Warmed39 U.vm ∧ U.heap = h0) (fun _ _ _ _ _ => True) (fun _ U o U' => ∃ v L, o = .returned v ∧ QrPir Z p1 p2 a3 h0 n0 v U'.heap L ∧ FrameEnd U o U' L ({ frames := 0, cells := 0, slots := 0, locals := 0 } : Room).cells ({ frames := 0, cells := 0, slots := 0, locals := 0 } : Room).slots) := by
  refine MetFree.of_bodySF (plainFor_of_name pn_18) hisR ?_
  intro p e s m args below meth c s₁ Bd hml0 hP hK
  obtain ⟨rfl, hZ, hh⟩ := hP
  have hx := Bd.exec
  have hby := Bd.bytes
  have hml : c.maxLocals = 3 := hml0
  have hown : s.vm.findClass "jdk/internal/util/Preconditions" = some m.cls := findClass_of_methodNamed Bd.named
  have hnm := (name_of_methodNamed Bd.named Bd.method).1
  have X0 : Stand p l e ({ frames := 0, cells := 0, slots := 0, locals := 0 } : Room) s m #[(.int p1), (.int p2), (.ref a3)] below meth c s₁ [] 0 0 := Stand.of_body Bd
  have e0 : s₁.heap = h0 := by rw [← hh, Bd.state]; rfl
  have N0 := Fr.nil n0
  have pre0 : ∀ t, Steps p.tables e below (s₁.setTop (mkF m 0 #[.val (.int p1), .val (.int p2), .val (.ref a3)] [])) t → Steps p.tables e below (s₁.setTop (entryFrame m #[(.int p1), (.int p2), (.ref a3)] 3)) t := fun t k => castTop (ef_rPir m p1 p2 a3) k
  obtain ⟨fs, hr, hrun, hended, hW, hsame⟩ := X0.leave (v := some (.int p1)) (fun h => by rw [Bd.returns] at h; cases h) (BodyLoose.notSynchronized Bd)
  refine ⟨_, _, pre0 _ ?_, hrun, hended, _, _, rfl, ?_, ⟨_, rfl⟩, hW, hsame.mono (by decide) (by decide)⟩
  · show Steps p.tables e below (s₁.setTop (mkF m 0 #[.val (.int p1), .val (.int p2), .val (.ref a3)] [])) _
    refine XS.iloadN X0.here hx rfl (hb hby d18_0) rfl ?_
    refine XS.ifNo X0.here hx rfl (hb hby d18_1) rfl ((if0 _ _).trans (flt hlo).1) ?_
    refine XS.iloadN X0.here hx rfl (hb hby d18_4) rfl ?_
    refine XS.iloadN X0.here hx rfl (hb hby d18_5) rfl ?_
    refine XS.icmpYes X0.here hx rfl (pc0 := 6) (pc' := 16) rfl (hb hby d18_6) rfl (tlt hhi).1 (by decide) (by decide) ?_
    refine XS.iloadN X0.here hx rfl (hb hby d18_16) rfl ?_
    exact retI X0 hx Bd.returns (hb hby d18_17) hr
  · show QrPir Z p1 p2 a3 h0 n0 _ s₁.heap _
    exact ⟨_, rfl, rfl, N0, e0⟩
theorem d22_0 : decode jdk_41_method_12_code 0 = .ok (.iload_n 0, 1) := by decide +kernel
theorem d22_1 : decode jdk_41_method_12_code 1 = .ok (.ifCond .lt 13, 3) := by decide +kernel
theorem d22_4 : decode jdk_41_method_12_code 4 = .ok (.iload_n 0, 1) := by decide +kernel
theorem d22_5 : decode jdk_41_method_12_code 5 = .ok (.iload_n 1, 1) := by decide +kernel
theorem d22_6 : decode jdk_41_method_12_code 6 = .ok (.if_icmp .gt 8, 3) := by decide +kernel
theorem d22_9 : decode jdk_41_method_12_code 9 = .ok (.iload_n 1, 1) := by decide +kernel
theorem d22_10 : decode jdk_41_method_12_code 10 = .ok (.iload_n 2, 1) := by decide +kernel
theorem d22_11 : decode jdk_41_method_12_code 11 = .ok (.if_icmp .le 11, 3) := by decide +kernel
theorem d22_22 : decode jdk_41_method_12_code 22 = .ok (.iload_n 0, 1) := by decide +kernel
theorem d22_23 : decode jdk_41_method_12_code 23 = .ok (.ireturn, 1) := by decide +kernel
theorem pn_22 : plainName "jdk/internal/util/Preconditions" = true := by first | (simp [plainName, overriddenIn]; done) | decide +kernel
theorem ef_rPtn (m : MethodId) (p1 : Int32) (p2 : Int32) (p3 : Int32) : entryFrame m #[(.int p1), (.int p2), (.int p3), .null] 4 = mkF m 0 #[.val (.int p1), .val (.int p2), .val (.int p3), .val .null] [] := by first | (simp [entryFrame, mkF, argsToLocals, Value.category]; done) | rfl
def QrPtn (Z : State) (p1 : Int32) (p2 : Int32) (p3 : Int32) (h0 : Heap) (n0 : Nat) (v : Option Value) (h : Heap) (L : List Loc) : Prop := ∃ z : Int32, z = (p1) ∧ v = some (.int z) ∧ Fr n0 L ∧ h = h0
set_option maxRecDepth 65536 in
set_option maxHeartbeats 40000000 in
theorem rPtn (l : Launch) (Z : State) (a0 : Array Value) (hw : ∀ d ∈ tables_1, d.before a0 Z = true) (ws : List Jvm.Cond) (p1 : Int32) (p2 : Int32) (p3 : Int32) (h0 : Heap) (n0 : Nat) (Z0 : n0 ≤ h0.size) (hlo : ¬ p1 < (0 : Int32)) (hm : ¬ p2 < p1) (hhi : ¬ p3 < p2) :
    MetFree l (⟨"jdk/internal/util/Preconditions", "checkFromToIndex", "(IIILjava/util/function/BiFunction;)I"⟩ : MethodName) (head1 (Jvm.Cond.code (⟨"jdk/internal/util/Preconditions", "checkFromToIndex", "(IIILjava/util/function/BiFunction;)I"⟩ : MethodName) jdk_41_method_12_code 4 (some .int) :: ws) ({ frames := 0, cells := 0, slots := 0, locals := 0 } : Room)) (fun a U => a = #[(.int p1), (.int p2), (.int p3), .null] ∧ Z.Warmed39 U.vm ∧ U.heap = h0) (fun _ _ _ _ _ => True) (fun _ U o U' => ∃ v L, o = .returned v ∧ QrPtn Z p1 p2 p3 h0 n0 v U'.heap L ∧ FrameEnd U o U' L ({ frames := 0, cells := 0, slots := 0, locals := 0 } : Room).cells ({ frames := 0, cells := 0, slots := 0, locals := 0 } : Room).slots) := by
  refine MetFree.of_bodySF (plainFor_of_name pn_22) hisR ?_
  intro p e s m args below meth c s₁ Bd hml0 hP hK
  obtain ⟨rfl, hZ, hh⟩ := hP
  have hx := Bd.exec
  have hby := Bd.bytes
  have hml : c.maxLocals = 4 := hml0
  have hown : s.vm.findClass "jdk/internal/util/Preconditions" = some m.cls := findClass_of_methodNamed Bd.named
  have hnm := (name_of_methodNamed Bd.named Bd.method).1
  have X0 : Stand p l e ({ frames := 0, cells := 0, slots := 0, locals := 0 } : Room) s m #[(.int p1), (.int p2), (.int p3), .null] below meth c s₁ [] 0 0 := Stand.of_body Bd
  have e0 : s₁.heap = h0 := by rw [← hh, Bd.state]; rfl
  have N0 := Fr.nil n0
  have pre0 : ∀ t, Steps p.tables e below (s₁.setTop (mkF m 0 #[.val (.int p1), .val (.int p2), .val (.int p3), .val .null] [])) t → Steps p.tables e below (s₁.setTop (entryFrame m #[(.int p1), (.int p2), (.int p3), .null] 4)) t := fun t k => castTop (ef_rPtn m p1 p2 p3) k
  obtain ⟨fs, hr, hrun, hended, hW, hsame⟩ := X0.leave (v := some (.int p1)) (fun h => by rw [Bd.returns] at h; cases h) (BodyLoose.notSynchronized Bd)
  refine ⟨_, _, pre0 _ ?_, hrun, hended, _, _, rfl, ?_, ⟨_, rfl⟩, hW, hsame.mono (by decide) (by decide)⟩
  · show Steps p.tables e below (s₁.setTop (mkF m 0 #[.val (.int p1), .val (.int p2), .val (.int p3), .val .null] [])) _
    refine XS.iloadN X0.here hx rfl (hb hby d22_0) rfl ?_
    refine XS.ifNo X0.here hx rfl (hb hby d22_1) rfl ((if0 _ _).trans (flt hlo).1) ?_
    refine XS.iloadN X0.here hx rfl (hb hby d22_4) rfl ?_
    refine XS.iloadN X0.here hx rfl (hb hby d22_5) rfl ?_
    refine XS.icmpNo X0.here hx rfl (hb hby d22_6) rfl (flt hm).2.2.1 ?_
    refine XS.iloadN X0.here hx rfl (hb hby d22_9) rfl ?_
    refine XS.iloadN X0.here hx rfl (hb hby d22_10) rfl ?_
    refine XS.icmpYes X0.here hx rfl (pc0 := 11) (pc' := 22) rfl (hb hby d22_11) rfl (flt hhi).2.2.2 (by decide) (by decide) ?_
    refine XS.iloadN X0.here hx rfl (hb hby d22_22) rfl ?_
    exact retI X0 hx Bd.returns (hb hby d22_23) hr
  · show QrPtn Z p1 p2 p3 h0 n0 _ s₁.heap _
    exact ⟨_, rfl, rfl, N0, e0⟩
theorem ef_rPtr (m : MethodId) (p1 : Int32) (p2 : Int32) (p3 : Int32) (a4 : Addr) : entryFrame m #[(.int p1), (.int p2), (.int p3), (.ref a4)] 4 = mkF m 0 #[.val (.int p1), .val (.int p2), .val (.int p3), .val (.ref a4)] [] := by first | (simp [entryFrame, mkF, argsToLocals, Value.category]; done) | rfl
def QrPtr (Z : State) (p1 : Int32) (p2 : Int32) (p3 : Int32) (a4 : Addr) (h0 : Heap) (n0 : Nat) (v : Option Value) (h : Heap) (L : List Loc) : Prop := ∃ z : Int32, z = (p1) ∧ v = some (.int z) ∧ Fr n0 L ∧ h = h0
set_option maxRecDepth 65536 in
set_option maxHeartbeats 40000000 in
theorem rPtr (l : Launch) (Z : State) (a0 : Array Value) (hw : ∀ d ∈ tables_1, d.before a0 Z = true) (ws : List Jvm.Cond) (p1 : Int32) (p2 : Int32) (p3 : Int32) (a4 : Addr) (h0 : Heap) (n0 : Nat) (Z0 : n0 ≤ h0.size) (hlo : ¬ p1 < (0 : Int32)) (hm : ¬ p2 < p1) (hhi : ¬ p3 < p2) :
    MetFree l (⟨"jdk/internal/util/Preconditions", "checkFromToIndex", "(IIILjava/util/function/BiFunction;)I"⟩ : MethodName) (head1 (Jvm.Cond.code (⟨"jdk/internal/util/Preconditions", "checkFromToIndex", "(IIILjava/util/function/BiFunction;)I"⟩ : MethodName) jdk_41_method_12_code 4 (some .int) :: ws) ({ frames := 0, cells := 0, slots := 0, locals := 0 } : Room)) (fun a U => a = #[(.int p1), (.int p2), (.int p3), (.ref a4)] ∧ Z.Warmed39 U.vm ∧ U.heap = h0) (fun _ _ _ _ _ => True) (fun _ U o U' => ∃ v L, o = .returned v ∧ QrPtr Z p1 p2 p3 a4 h0 n0 v U'.heap L ∧ FrameEnd U o U' L ({ frames := 0, cells := 0, slots := 0, locals := 0 } : Room).cells ({ frames := 0, cells := 0, slots := 0, locals := 0 } : Room).slots) := by
  refine MetFree.of_bodySF (plainFor_of_name pn_22) hisR ?_
  intro p e s m args below meth c s₁ Bd hml0 hP hK
  obtain ⟨rfl, hZ, hh⟩ := hP
  have hx := Bd.exec
  have hby := Bd.bytes
  have hml : c.maxLocals = 4 := hml0
  have hown : s.vm.findClass "jdk/internal/util/Preconditions" = some m.cls := findClass_of_methodNamed Bd.named
  have hnm := (name_of_methodNamed Bd.named Bd.method).1
  have X0 : Stand p l e ({ frames := 0, cells := 0, slots := 0, locals := 0 } : Room) s m #[(.int p1), (.int p2), (.int p3), (.ref a4)] below meth c s₁ [] 0 0 := Stand.of_body Bd
  have e0 : s₁.heap = h0 := by rw [← hh, Bd.state]; rfl
  have N0 := Fr.nil n0
  have pre0 : ∀ t, Steps p.tables e below (s₁.setTop (mkF m 0 #[.val (.int p1), .val (.int p2), .val (.int p3), .val (.ref a4)] [])) t → Steps p.tables e below (s₁.setTop (entryFrame m #[(.int p1), (.int p2), (.int p3), (.ref a4)] 4)) t := fun t k => castTop (ef_rPtr m p1 p2 p3 a4) k
  obtain ⟨fs, hr, hrun, hended, hW, hsame⟩ := X0.leave (v := some (.int p1)) (fun h => by rw [Bd.returns] at h; cases h) (BodyLoose.notSynchronized Bd)
  refine ⟨_, _, pre0 _ ?_, hrun, hended, _, _, rfl, ?_, ⟨_, rfl⟩, hW, hsame.mono (by decide) (by decide)⟩
  · show Steps p.tables e below (s₁.setTop (mkF m 0 #[.val (.int p1), .val (.int p2), .val (.int p3), .val (.ref a4)] [])) _
    refine XS.iloadN X0.here hx rfl (hb hby d22_0) rfl ?_
    refine XS.ifNo X0.here hx rfl (hb hby d22_1) rfl ((if0 _ _).trans (flt hlo).1) ?_
    refine XS.iloadN X0.here hx rfl (hb hby d22_4) rfl ?_
    refine XS.iloadN X0.here hx rfl (hb hby d22_5) rfl ?_
    refine XS.icmpNo X0.here hx rfl (hb hby d22_6) rfl (flt hm).2.2.1 ?_
    refine XS.iloadN X0.here hx rfl (hb hby d22_9) rfl ?_
    refine XS.iloadN X0.here hx rfl (hb hby d22_10) rfl ?_
    refine XS.icmpYes X0.here hx rfl (pc0 := 11) (pc' := 22) rfl (hb hby d22_11) rfl (flt hhi).2.2.2 (by decide) (by decide) ?_
    refine XS.iloadN X0.here hx rfl (hb hby d22_22) rfl ?_
    exact retI X0 hx Bd.returns (hb hby d22_23) hr
  · show QrPtr Z p1 p2 p3 a4 h0 n0 _ s₁.heap _
    exact ⟨_, rfl, rfl, N0, e0⟩
theorem d46_0 : decode jdk_41_method_13_code 0 = .ok (.iload_n 2, 1) := by decide +kernel
theorem d46_1 : decode jdk_41_method_13_code 1 = .ok (.iload_n 0, 1) := by decide +kernel
theorem d46_2 : decode jdk_41_method_13_code 2 = .ok (.ior, 1) := by decide +kernel
theorem d46_3 : decode jdk_41_method_13_code 3 = .ok (.iload_n 1, 1) := by decide +kernel
theorem d46_4 : decode jdk_41_method_13_code 4 = .ok (.ior, 1) := by decide +kernel
theorem d46_5 : decode jdk_41_method_13_code 5 = .ok (.ifCond .lt 10, 3) := by decide +kernel
theorem d46_8 : decode jdk_41_method_13_code 8 = .ok (.iload_n 1, 1) := by decide +kernel
theorem d46_9 : decode jdk_41_method_13_code 9 = .ok (.iload_n 2, 1) := by decide +kernel
theorem d46_10 : decode jdk_41_method_13_code 10 = .ok (.iload_n 0, 1) := by decide +kernel
theorem d46_11 : decode jdk_41_method_13_code 11 = .ok (.isub, 1) := by decide +kernel
theorem d46_12 : decode jdk_41_method_13_code 12 = .ok (.if_icmp .le 11, 3) := by decide +kernel
theorem d46_23 : decode jdk_41_method_13_code 23 = .ok (.iload_n 0, 1) := by decide +kernel
theorem d46_24 : decode jdk_41_method_13_code 24 = .ok (.ireturn, 1) := by decide +kernel
theorem pn_46 : plainName "jdk/internal/util/Preconditions" = true := by first | (simp [plainName, overriddenIn]; done) | decide +kernel
theorem ef_rPsn (m : MethodId) (p1 : Int32) (p2 : Int32) (p3 : Int32) : entryFrame m #[(.int p1), (.int p2), (.int p3), .null] 4 = mkF m 0 #[.val (.int p1), .val (.int p2), .val (.int p3), .val .null] [] := by first | (simp [entryFrame, mkF, argsToLocals, Value.category]; done) | rfl
def QrPsn (Z : State) (p1 : Int32) (p2 : Int32) (p3 : Int32) (h0 : Heap) (n0 : Nat) (v : Option Value) (h : Heap) (L : List Loc) : Prop := ∃ z : Int32, z = (p1) ∧ v = some (.int z) ∧ Fr n0 L ∧ h = h0
set_option maxRecDepth 65536 in
set_option maxHeartbeats 40000000 in
theorem rPsn (l : Launch) (Z : State) (a0 : Array Value) (hw : ∀ d ∈ tables_1, d.before a0 Z = true) (ws : List Jvm.Cond) (p1 : Int32) (p2 : Int32) (p3 : Int32) (h0 : Heap) (n0 : Nat) (Z0 : n0 ≤ h0.size) (hs : ¬ ((p3 ||| p1) ||| p2) < (0 : Int32)) (hhi : ¬ (p3 - p1) < p2) :
    MetFree l (⟨"jdk/internal/util/Preconditions", "checkFromIndexSize", "(IIILjava/util/function/BiFunction;)I"⟩ : MethodName) (head1 (Jvm.Cond.code (⟨"jdk/internal/util/Preconditions", "checkFromIndexSize", "(IIILjava/util/function/BiFunction;)I"⟩ : MethodName) jdk_41_method_13_code 4 (some .int) :: ws) ({ frames := 0, cells := 0, slots := 0, locals := 0 } : Room)) (fun a U => a = #[(.int p1), (.int p2), (.int p3), .null] ∧ Z.Warmed39 U.vm ∧ U.heap = h0) (fun _ _ _ _ _ => True) (fun _ U o U' => ∃ v L, o = .returned v ∧ QrPsn Z p1 p2 p3 h0 n0 v U'.heap L ∧ FrameEnd U o U' L ({ frames := 0, cells := 0, slots := 0, locals := 0 } : Room).cells ({ frames := 0, cells := 0, slots := 0, locals := 0 } : Room).slots) := by
  refine MetFree.of_bodySF (plainFor_of_name pn_46) hisR ?_
  intro p e s m args below meth c s₁ Bd hml0 hP hK
  obtain ⟨rfl, hZ, hh⟩ := hP
  have hx := Bd.exec
  have hby := Bd.bytes
  have hml : c.maxLocals = 4 := hml0
  have hown : s.vm.findClass "jdk/internal/util/Preconditions" = some m.cls := findClass_of_methodNamed Bd.named
  have hnm := (name_of_methodNamed Bd.named Bd.method).1
  have X0 : Stand p l e ({ frames := 0, cells := 0, slots := 0, locals := 0 } : Room) s m #[(.int p1), (.int p2), (.int p3), .null] below meth c s₁ [] 0 0 := Stand.of_body Bd
  have e0 : s₁.heap = h0 := by rw [← hh, Bd.state]; rfl
  have N0 := Fr.nil n0
  have pre0 : ∀ t, Steps p.tables e below (s₁.setTop (mkF m 0 #[.val (.int p1), .val (.int p2), .val (.int p3), .val .null] [])) t → Steps p.tables e below (s₁.setTop (entryFrame m #[(.int p1), (.int p2), (.int p3), .null] 4)) t := fun t k => castTop (ef_rPsn m p1 p2 p3) k
  obtain ⟨fs, hr, hrun, hended, hW, hsame⟩ := X0.leave (v := some (.int p1)) (fun h => by rw [Bd.returns] at h; cases h) (BodyLoose.notSynchronized Bd)
  refine ⟨_, _, pre0 _ ?_, hrun, hended, _, _, rfl, ?_, ⟨_, rfl⟩, hW, hsame.mono (by decide) (by decide)⟩
  · show Steps p.tables e below (s₁.setTop (mkF m 0 #[.val (.int p1), .val (.int p2), .val (.int p3), .val .null] [])) _
    refine XS.iloadN X0.here hx rfl (hb hby d46_0) rfl ?_
    refine XS.iloadN X0.here hx rfl (hb hby d46_1) rfl ?_
    refine XS.ior X0.here hx rfl (hb hby d46_2) rfl ?_
    refine XS.iloadN X0.here hx rfl (hb hby d46_3) rfl ?_
    refine XS.ior X0.here hx rfl (hb hby d46_4) rfl ?_
    refine XS.ifNo X0.here hx rfl (hb hby d46_5) rfl ((if0 _ _).trans (flt hs).1) ?_
    refine XS.iloadN X0.here hx rfl (hb hby d46_8) rfl ?_
    refine XS.iloadN X0.here hx rfl (hb hby d46_9) rfl ?_
    refine XS.iloadN X0.here hx rfl (hb hby d46_10) rfl ?_
    refine XS.isub X0.here hx rfl (hb hby d46_11) rfl ?_
    refine XS.icmpYes X0.here hx rfl (pc0 := 12) (pc' := 23) rfl (hb hby d46_12) rfl (flt hhi).2.2.2 (by decide) (by decide) ?_
    refine XS.iloadN X0.here hx rfl (hb hby d46_23) rfl ?_
    exact retI X0 hx Bd.returns (hb hby d46_24) hr
  · show QrPsn Z p1 p2 p3 h0 n0 _ s₁.heap _
    exact ⟨_, rfl, rfl, N0, e0⟩
theorem ef_rPsr (m : MethodId) (p1 : Int32) (p2 : Int32) (p3 : Int32) (a4 : Addr) : entryFrame m #[(.int p1), (.int p2), (.int p3), (.ref a4)] 4 = mkF m 0 #[.val (.int p1), .val (.int p2), .val (.int p3), .val (.ref a4)] [] := by first | (simp [entryFrame, mkF, argsToLocals, Value.category]; done) | rfl
def QrPsr (Z : State) (p1 : Int32) (p2 : Int32) (p3 : Int32) (a4 : Addr) (h0 : Heap) (n0 : Nat) (v : Option Value) (h : Heap) (L : List Loc) : Prop := ∃ z : Int32, z = (p1) ∧ v = some (.int z) ∧ Fr n0 L ∧ h = h0
set_option maxRecDepth 65536 in
set_option maxHeartbeats 40000000 in
theorem rPsr (l : Launch) (Z : State) (a0 : Array Value) (hw : ∀ d ∈ tables_1, d.before a0 Z = true) (ws : List Jvm.Cond) (p1 : Int32) (p2 : Int32) (p3 : Int32) (a4 : Addr) (h0 : Heap) (n0 : Nat) (Z0 : n0 ≤ h0.size) (hs : ¬ ((p3 ||| p1) ||| p2) < (0 : Int32)) (hhi : ¬ (p3 - p1) < p2) :
    MetFree l (⟨"jdk/internal/util/Preconditions", "checkFromIndexSize", "(IIILjava/util/function/BiFunction;)I"⟩ : MethodName) (head1 (Jvm.Cond.code (⟨"jdk/internal/util/Preconditions", "checkFromIndexSize", "(IIILjava/util/function/BiFunction;)I"⟩ : MethodName) jdk_41_method_13_code 4 (some .int) :: ws) ({ frames := 0, cells := 0, slots := 0, locals := 0 } : Room)) (fun a U => a = #[(.int p1), (.int p2), (.int p3), (.ref a4)] ∧ Z.Warmed39 U.vm ∧ U.heap = h0) (fun _ _ _ _ _ => True) (fun _ U o U' => ∃ v L, o = .returned v ∧ QrPsr Z p1 p2 p3 a4 h0 n0 v U'.heap L ∧ FrameEnd U o U' L ({ frames := 0, cells := 0, slots := 0, locals := 0 } : Room).cells ({ frames := 0, cells := 0, slots := 0, locals := 0 } : Room).slots) := by
  refine MetFree.of_bodySF (plainFor_of_name pn_46) hisR ?_
  intro p e s m args below meth c s₁ Bd hml0 hP hK
  obtain ⟨rfl, hZ, hh⟩ := hP
  have hx := Bd.exec
  have hby := Bd.bytes
  have hml : c.maxLocals = 4 := hml0
  have hown : s.vm.findClass "jdk/internal/util/Preconditions" = some m.cls := findClass_of_methodNamed Bd.named
  have hnm := (name_of_methodNamed Bd.named Bd.method).1
  have X0 : Stand p l e ({ frames := 0, cells := 0, slots := 0, locals := 0 } : Room) s m #[(.int p1), (.int p2), (.int p3), (.ref a4)] below meth c s₁ [] 0 0 := Stand.of_body Bd
  have e0 : s₁.heap = h0 := by rw [← hh, Bd.state]; rfl
  have N0 := Fr.nil n0
  have pre0 : ∀ t, Steps p.tables e below (s₁.setTop (mkF m 0 #[.val (.int p1), .val (.int p2), .val (.int p3), .val (.ref a4)] [])) t → Steps p.tables e below (s₁.setTop (entryFrame m #[(.int p1), (.int p2), (.int p3), (.ref a4)] 4)) t := fun t k => castTop (ef_rPsr m p1 p2 p3 a4) k
  obtain ⟨fs, hr, hrun, hended, hW, hsame⟩ := X0.leave (v := some (.int p1)) (fun h => by rw [Bd.returns] at h; cases h) (BodyLoose.notSynchronized Bd)
  refine ⟨_, _, pre0 _ ?_, hrun, hended, _, _, rfl, ?_, ⟨_, rfl⟩, hW, hsame.mono (by decide) (by decide)⟩
  · show Steps p.tables e below (s₁.setTop (mkF m 0 #[.val (.int p1), .val (.int p2), .val (.int p3), .val (.ref a4)] [])) _
    refine XS.iloadN X0.here hx rfl (hb hby d46_0) rfl ?_
    refine XS.iloadN X0.here hx rfl (hb hby d46_1) rfl ?_
    refine XS.ior X0.here hx rfl (hb hby d46_2) rfl ?_
    refine XS.iloadN X0.here hx rfl (hb hby d46_3) rfl ?_
    refine XS.ior X0.here hx rfl (hb hby d46_4) rfl ?_
    refine XS.ifNo X0.here hx rfl (hb hby d46_5) rfl ((if0 _ _).trans (flt hs).1) ?_
    refine XS.iloadN X0.here hx rfl (hb hby d46_8) rfl ?_
    refine XS.iloadN X0.here hx rfl (hb hby d46_9) rfl ?_
    refine XS.iloadN X0.here hx rfl (hb hby d46_10) rfl ?_
    refine XS.isub X0.here hx rfl (hb hby d46_11) rfl ?_
    refine XS.icmpYes X0.here hx rfl (pc0 := 12) (pc' := 23) rfl (hb hby d46_12) rfl (flt hhi).2.2.2 (by decide) (by decide) ?_
    refine XS.iloadN X0.here hx rfl (hb hby d46_23) rfl ?_
    exact retI X0 hx Bd.returns (hb hby d46_24) hr
  · show QrPsr Z p1 p2 p3 a4 h0 n0 _ s₁.heap _
    exact ⟨_, rfl, rfl, N0, e0⟩
theorem pd_0 : parseMethodDescriptor "(IILjava/util/function/BiFunction;)I" = some ⟨[.int, .int, (.object "java/util/function/BiFunction")], some .int⟩ := by decide +kernel
theorem d17_0 : decode jdk_42_method_155_code 0 = .ok (.iload_n 0, 1) := by decide +kernel
theorem d17_1 : decode jdk_42_method_155_code 1 = .ok (.iload_n 1, 1) := by decide +kernel
theorem d17_2 : decode jdk_42_method_155_code 2 = .ok (.getstatic 1053, 3) := by decide +kernel
theorem d17_5 : decode jdk_42_method_155_code 5 = .ok (.invokestatic 1059, 3) := by decide +kernel
theorem d17_8 : decode jdk_42_method_155_code 8 = .ok (.pop, 1) := by decide +kernel
theorem d17_9 : decode jdk_42_method_155_code 9 = .ok (.return_, 1) := by decide +kernel
theorem pn_17 : plainName "java/lang/String" = true := by first | (simp [plainName, overriddenIn]; done) | decide +kernel
theorem ef_rSi (m : MethodId) (p1 : Int32) (p2 : Int32) : entryFrame m #[(.int p1), (.int p2)] 2 = mkF m 0 #[.val (.int p1), .val (.int p2)] [] := by first | (simp [entryFrame, mkF, argsToLocals, Value.category]; done) | rfl
def QrSi (Z : State) (p1 : Int32) (p2 : Int32) (gv : Value) (h0 : Heap) (n0 : Nat) (v : Option Value) (h : Heap) (L : List Loc) : Prop := v = none ∧ Fr n0 L ∧ h = h0
set_option maxRecDepth 65536 in
set_option maxHeartbeats 40000000 in
theorem rSi (l : Launch) (Z : State) (a0 : Array Value) (hw : ∀ d ∈ tables_1, d.before a0 Z = true) (ws : List Jvm.Cond) (p1 : Int32) (p2 : Int32) (gv : Value) (h0 : Heap) (n0 : Nat) (Z0 : n0 ≤ h0.size) (X00 : Old Z n0 h0) (O_S : Sta Z Z.heap "jdk/internal/util/Preconditions" "SIOOBE_FORMATTER" "Ljava/util/function/BiFunction;" gv) (hgv : gv.isRef = true) (hlo : ¬ p1 < (0 : Int32)) (hhi : p1 < p2) :
    MetFree l (⟨"java/lang/String", "checkIndex", "(II)V"⟩ : MethodName) (head1 (Jvm.Cond.code (⟨"java/lang/String", "checkIndex", "(II)V"⟩ : MethodName) jdk_42_method_155_code 2 none :: ws) ({ frames := 1, cells := 0, slots := 0, locals := 14 } : Room)) (fun a U => a = #[(.int p1), (.int p2)] ∧ Z.Warmed39 U.vm ∧ U.heap = h0) (fun _ _ _ _ _ => True) (fun _ U o U' => ∃ v L, o = .returned v ∧ QrSi Z p1 p2 gv h0 n0 v U'.heap L ∧ FrameEnd U o U' L ({ frames := 1, cells := 0, slots := 0, locals := 14 } : Room).cells ({ frames := 1, cells := 0, slots := 0, locals := 14 } : Room).slots) := by
  refine MetFree.of_bodySF (plainFor_of_name pn_17) hisR ?_
  intro p e s m args below meth c s₁ Bd hml0 hP hK
  obtain ⟨rfl, hZ, hh⟩ := hP
  have hx := Bd.exec
  have hby := Bd.bytes
  have hml : c.maxLocals = 2 := hml0
  have hown : s.vm.findClass "java/lang/String" = some m.cls := findClass_of_methodNamed Bd.named
  have hnm := (name_of_methodNamed Bd.named Bd.method).1
  have X0 : Stand p l e ({ frames := 1, cells := 0, slots := 0, locals := 14 } : Room) s m #[(.int p1), (.int p2)] below meth c s₁ [] 0 0 := Stand.of_body Bd
  have e0 : s₁.heap = h0 := by rw [← hh, Bd.state]; rfl
  have N0 := Fr.nil n0
  have pre0 : ∀ t, Steps p.tables e below (s₁.setTop (mkF m 0 #[.val (.int p1), .val (.int p2)] [])) t → Steps p.tables e below (s₁.setTop (entryFrame m #[(.int p1), (.int p2)] 2)) t := fun t k => castTop (ef_rSi m p1 p2) k
  rcases ref_cases hgv with hg | ⟨G3, hg⟩
  · rw [hg] at O_S
    obtain ⟨T1, X1, e1, st1⟩ := getS2 X0 hx hZ hown (host := "") (Or.inl (hw _ (own_w 84 rfl))) Via.refl e0 (O_S.ext X00.2) (g := (mkF m 2 #[.val (.int p1), .val (.int p2)] [(.int p2), (.int p1)])) rfl (hb hby d17_2)
    obtain ⟨_, _, ⟨T2, Lq2, kq2, nq2⟩, -, X2, ⟨Lc2, hQ2, lq2, yq2, zq2⟩, st2⟩ := Jvm.LawKit.callS X1 hx (y := (⟨"jdk/internal/util/Preconditions", "checkIndex", "(IILjava/util/function/BiFunction;)I"⟩ : MethodName)) hown (mvT hZ (hw _ (own_w 86 rfl))) (mvT hZ (hw _ (own_w 87 rfl))) (mvT hZ (hw _ (own_w 85 rfl))) (mvT hZ (hw _ (own_w 88 rfl))) (by decide) (backOf (W := 0) (rPin l Z a0 hw [] p1 p2  h0 n0 Z0 hlo hhi) hZ (hw _ (own_w 88 rfl)) (hw _ (own_w 85 rfl)) (by decide) (by decide)) (g := (mkF m 5 #[.val (.int p1), .val (.int p2)] [.null, (.int p2), (.int p1)])) rfl (by rw [hml]; rfl) (argsL := [(.int p1), (.int p2), .null]) (rest := []) (lenOf pd_0 rfl) rfl (by show 2 * 0 + _ ≤ _; exact Nat.le_of_eq rfl) (hb hby d17_5) (fun _ _ => ⟨rfl, e1, (by decide : 0 + 0 ≤ _), (by decide : 0 + 0 ≤ _)⟩)
    dsimp only [Pt.U, Pt.locs, Pt.cells, Pt.slots] at X2 lq2 yq2 zq2 st2 hQ2
    subst lq2 yq2 zq2
    obtain ⟨r2, hr2, rfl, N2q, e2⟩ := hQ2
    have N2 := Fr.app N0 N2q
    obtain ⟨fs, hr, hrun, hended, hW, hsame⟩ := X2.leave (v := none) (fun _ => rfl) (BodyLoose.notSynchronized Bd)
    refine ⟨_, _, pre0 _ ?_, hrun, hended, _, _, rfl, ?_, ⟨_, rfl⟩, hW, hsame.mono (by decide) (by decide)⟩
    · show Steps p.tables e below (s₁.setTop (mkF m 0 #[.val (.int p1), .val (.int p2)] [])) _
      refine XS.iloadN X0.here hx rfl (hb hby d17_0) rfl ?_
      refine XS.iloadN X0.here hx rfl (hb hby d17_1) rfl ?_
      refine st1 _ ?_
      refine st2 _ ?_
      refine XS.pop X2.here hx rfl (hb hby d17_8) rfl rfl ?_
      exact X2.returnOut hx Bd.returns (hb hby d17_9) hr
    · show QrSi Z p1 p2 gv h0 n0 _ T2.heap _
      exact ⟨rfl, N2, e2⟩
  · rw [hg] at O_S
    obtain ⟨T3, X3, e3, st3⟩ := getS2 X0 hx hZ hown (host := "") (Or.inl (hw _ (own_w 84 rfl))) Via.refl e0 (O_S.ext X00.2) (g := (mkF m 2 #[.val (.int p1), .val (.int p2)] [(.int p2), (.int p1)])) rfl (hb hby d17_2)
    obtain ⟨_, _, ⟨T4, Lq4, kq4, nq4⟩, -, X4, ⟨Lc4, hQ4, lq4, yq4, zq4⟩, st4⟩ := Jvm.LawKit.callS X3 hx (y := (⟨"jdk/internal/util/Preconditions", "checkIndex", "(IILjava/util/function/BiFunction;)I"⟩ : MethodName)) hown (mvT hZ (hw _ (own_w 86 rfl))) (mvT hZ (hw _ (own_w 87 rfl))) (mvT hZ (hw _ (own_w 85 rfl))) (mvT hZ (hw _ (own_w 88 rfl))) (by decide) (backOf (W := 0) (rPir l Z a0 hw [] p1 p2 G3  h0 n0 Z0 hlo hhi) hZ (hw _ (own_w 88 rfl)) (hw _ (own_w 85 rfl)) (by decide) (by decide)) (g := (mkF m 5 #[.val (.int p1), .val (.int p2)] [(.ref G3), (.int p2), (.int p1)])) rfl (by rw [hml]; rfl) (argsL := [(.int p1), (.int p2), (.ref G3)]) (rest := []) (lenOf pd_0 rfl) rfl (by show 2 * 0 + _ ≤ _; exact Nat.le_of_eq rfl) (hb hby d17_5) (fun _ _ => ⟨rfl, e3, (by decide : 0 + 0 ≤ _), (by decide : 0 + 0 ≤ _)⟩)
    dsimp only [Pt.U, Pt.locs, Pt.cells, Pt.slots] at X4 lq4 yq4 zq4 st4 hQ4
    subst lq4 yq4 zq4
    obtain ⟨r4, hr4, rfl, N4q, e4⟩ := hQ4
    have N4 := Fr.app N0 N4q
    obtain ⟨fs, hr, hrun, hended, hW, hsame⟩ := X4.leave (v := none) (fun _ => rfl) (BodyLoose.notSynchronized Bd)
    refine ⟨_, _, pre0 _ ?_, hrun, hended, _, _, rfl, ?_, ⟨_, rfl⟩, hW, hsame.mono (by decide) (by decide)⟩
    · show Steps p.tables e below (s₁.setTop (mkF m 0 #[.val (.int p1), .val (.int p2)] [])) _
      refine XS.iloadN X0.here hx rfl (hb hby d17_0) rfl ?_
      refine XS.iloadN X0.here hx rfl (hb hby d17_1) rfl ?_
      refine st3 _ ?_
      refine st4 _ ?_
      refine XS.pop X4.here hx rfl (hb hby d17_8) rfl rfl ?_
      exact X4.returnOut hx Bd.returns (hb hby d17_9) hr
    · show QrSi Z p1 p2 gv h0 n0 _ T4.heap _
      exact ⟨rfl, N4, e4⟩
theorem pd_1 : parseMethodDescriptor "(IIILjava/util/function/BiFunction;)I" = some ⟨[.int, .int, .int, (.object "java/util/function/BiFunction")], some .int⟩ := by decide +kernel
theorem d21_0 : decode jdk_42_method_158_code 0 = .ok (.iload_n 0, 1) := by decide +kernel
theorem d21_1 : decode jdk_42_method_158_code 1 = .ok (.iload_n 1, 1) := by decide +kernel
theorem d21_2 : decode jdk_42_method_158_code 2 = .ok (.iload_n 2, 1) := by decide +kernel
theorem d21_3 : decode jdk_42_method_158_code 3 = .ok (.getstatic 1053, 3) := by decide +kernel
theorem d21_6 : decode jdk_42_method_158_code 6 = .ok (.invokestatic 1062, 3) := by decide +kernel
theorem d21_9 : decode jdk_42_method_158_code 9 = .ok (.pop, 1) := by decide +kernel
theorem d21_10 : decode jdk_42_method_158_code 10 = .ok (.return_, 1) := by decide +kernel
theorem pn_21 : plainName "java/lang/String" = true := by first | (simp [plainName, overriddenIn]; done) | decide +kernel
theorem ef_rSb (m : MethodId) (p1 : Int32) (p2 : Int32) (p3 : Int32) : entryFrame m #[(.int p1), (.int p2), (.int p3)] 3 = mkF m 0 #[.val (.int p1), .val (.int p2), .val (.int p3)] [] := by first | (simp [entryFrame, mkF, argsToLocals, Value.category]; done) | rfl
def QrSb (Z : State) (p1 : Int32) (p2 : Int32) (p3 : Int32) (gv : Value) (h0 : Heap) (n0 : Nat) (v : Option Value) (h : Heap) (L : List Loc) : Prop := v = none ∧ Fr n0 L ∧ h = h0
set_option maxRecDepth 65536 in
set_option maxHeartbeats 40000000 in
theorem rSb (l : Launch) (Z : State) (a0 : Array Value) (hw : ∀ d ∈ tables_1, d.before a0 Z = true) (ws : List Jvm.Cond) (p1 : Int32) (p2 : Int32) (p3 : Int32) (gv : Value) (h0 : Heap) (n0 : Nat) (Z0 : n0 ≤ h0.size) (X00 : Old Z n0 h0) (O_S : Sta Z Z.heap "jdk/internal/util/Preconditions" "SIOOBE_FORMATTER" "Ljava/util/function/BiFunction;" gv) (hgv : gv.isRef = true) (hlo : ¬ p1 < (0 : Int32)) (hm : ¬ p2 < p1) (hhi : ¬ p3 < p2) :
    MetFree l (⟨"java/lang/String", "checkBoundsBeginEnd", "(III)V"⟩ : MethodName) (head1 (Jvm.Cond.code (⟨"java/lang/String", "checkBoundsBeginEnd", "(III)V"⟩ : MethodName) jdk_42_method_158_code 3 none :: ws) ({ frames := 1, cells := 0, slots := 0, locals := 15 } : Room)) (fun a U => a = #[(.int p1), (.int p2), (.int p3)] ∧ Z.Warmed39 U.vm ∧ U.heap = h0) (fun _ _ _ _ _ => True) (fun _ U o U' => ∃ v L, o = .returned v ∧ QrSb Z p1 p2 p3 gv h0 n0 v U'.heap L ∧ FrameEnd U o U' L ({ frames := 1, cells := 0, slots := 0, locals := 15 } : Room).cells ({ frames := 1, cells := 0, slots := 0, locals := 15 } : Room).slots) := by
  refine MetFree.of_bodySF (plainFor_of_name pn_21) hisR ?_
  intro p e s m args below meth c s₁ Bd hml0 hP hK
  obtain ⟨rfl, hZ, hh⟩ := hP
  have hx := Bd.exec
  have hby := Bd.bytes
  have hml : c.maxLocals = 3 := hml0
  have hown : s.vm.findClass "java/lang/String" = some m.cls := findClass_of_methodNamed Bd.named
  have hnm := (name_of_methodNamed Bd.named Bd.method).1
  have X0 : Stand p l e ({ frames := 1, cells := 0, slots := 0, locals := 15 } : Room) s m #[(.int p1), (.int p2), (.int p3)] below meth c s₁ [] 0 0 := Stand.of_body Bd
  have e0 : s₁.heap = h0 := by rw [← hh, Bd.state]; rfl
  have N0 := Fr.nil n0
  have pre0 : ∀ t, Steps p.tables e below (s₁.setTop (mkF m 0 #[.val (.int p1), .val (.int p2), .val (.int p3)] [])) t → Steps p.tables e below (s₁.setTop (entryFrame m #[(.int p1), (.int p2), (.int p3)] 3)) t := fun t k => castTop (ef_rSb m p1 p2 p3) k
  rcases ref_cases hgv with hg | ⟨G3, hg⟩
  · rw [hg] at O_S
    obtain ⟨T1, X1, e1, st1⟩ := getS2 X0 hx hZ hown (host := "") (Or.inl (hw _ (own_w 84 rfl))) Via.refl e0 (O_S.ext X00.2) (g := (mkF m 3 #[.val (.int p1), .val (.int p2), .val (.int p3)] [(.int p3), (.int p2), (.int p1)])) rfl (hb hby d21_3)
    obtain ⟨_, _, ⟨T2, Lq2, kq2, nq2⟩, -, X2, ⟨Lc2, hQ2, lq2, yq2, zq2⟩, st2⟩ := Jvm.LawKit.callS X1 hx (y := (⟨"jdk/internal/util/Preconditions", "checkFromToIndex", "(IIILjava/util/function/BiFunction;)I"⟩ : MethodName)) hown (mvT hZ (hw _ (own_w 101 rfl))) (mvT hZ (hw _ (own_w 102 rfl))) (mvT hZ (hw _ (own_w 85 rfl))) (mvT hZ (hw _ (own_w 103 rfl))) (by decide) (backOf (W := 0) (rPtn l Z a0 hw [] p1 p2 p3  h0 n0 Z0 hlo hm hhi) hZ (hw _ (own_w 103 rfl)) (hw _ (own_w 85 rfl)) (by decide) (by decide)) (g := (mkF m 6 #[.val (.int p1), .val (.int p2), .val (.int p3)] [.null, (.int p3), (.int p2), (.int p1)])) rfl (by rw [hml]; rfl) (argsL := [(.int p1), (.int p2), (.int p3), .null]) (rest := []) (lenOf pd_1 rfl) rfl (by show 2 * 0 + _ ≤ _; exact Nat.le_of_eq rfl) (hb hby d21_6) (fun _ _ => ⟨rfl, e1, (by decide : 0 + 0 ≤ _), (by decide : 0 + 0 ≤ _)⟩)
    dsimp only [Pt.U, Pt.locs, Pt.cells, Pt.slots] at X2 lq2 yq2 zq2 st2 hQ2
    subst lq2 yq2 zq2
    obtain ⟨r2, hr2, rfl, N2q, e2⟩ := hQ2
    have N2 := Fr.app N0 N2q
    obtain ⟨fs, hr, hrun, hended, hW, hsame⟩ := X2.leave (v := none) (fun _ => rfl) (BodyLoose.notSynchronized Bd)
    refine ⟨_, _, pre0 _ ?_, hrun, hended, _, _, rfl, ?_, ⟨_, rfl⟩, hW, hsame.mono (by decide) (by decide)⟩
    · show Steps p.tables e below (s₁.setTop (mkF m 0 #[.val (.int p1), .val (.int p2), .val (.int p3)] [])) _
      refine XS.iloadN X0.here hx rfl (hb hby d21_0) rfl ?_
      refine XS.iloadN X0.here hx rfl (hb hby d21_1) rfl ?_
      refine XS.iloadN X0.here hx rfl (hb hby d21_2) rfl ?_
      refine st1 _ ?_
      refine st2 _ ?_
      refine XS.pop X2.here hx rfl (hb hby d21_9) rfl rfl ?_
      exact X2.returnOut hx Bd.returns (hb hby d21_10) hr
    · show QrSb Z p1 p2 p3 gv h0 n0 _ T2.heap _
      exact ⟨rfl, N2, e2⟩
  · rw [hg] at O_S
    obtain ⟨T3, X3, e3, st3⟩ := getS2 X0 hx hZ hown (host := "") (Or.inl (hw _ (own_w 84 rfl))) Via.refl e0 (O_S.ext X00.2) (g := (mkF m 3 #[.val (.int p1), .val (.int p2), .val (.int p3)] [(.int p3), (.int p2), (.int p1)])) rfl (hb hby d21_3)
    obtain ⟨_, _, ⟨T4, Lq4, kq4, nq4⟩, -, X4, ⟨Lc4, hQ4, lq4, yq4, zq4⟩, st4⟩ := Jvm.LawKit.callS X3 hx (y := (⟨"jdk/internal/util/Preconditions", "checkFromToIndex", "(IIILjava/util/function/BiFunction;)I"⟩ : MethodName)) hown (mvT hZ (hw _ (own_w 101 rfl))) (mvT hZ (hw _ (own_w 102 rfl))) (mvT hZ (hw _ (own_w 85 rfl))) (mvT hZ (hw _ (own_w 103 rfl))) (by decide) (backOf (W := 0) (rPtr l Z a0 hw [] p1 p2 p3 G3  h0 n0 Z0 hlo hm hhi) hZ (hw _ (own_w 103 rfl)) (hw _ (own_w 85 rfl)) (by decide) (by decide)) (g := (mkF m 6 #[.val (.int p1), .val (.int p2), .val (.int p3)] [(.ref G3), (.int p3), (.int p2), (.int p1)])) rfl (by rw [hml]; rfl) (argsL := [(.int p1), (.int p2), (.int p3), (.ref G3)]) (rest := []) (lenOf pd_1 rfl) rfl (by show 2 * 0 + _ ≤ _; exact Nat.le_of_eq rfl) (hb hby d21_6) (fun _ _ => ⟨rfl, e3, (by decide : 0 + 0 ≤ _), (by decide : 0 + 0 ≤ _)⟩)
    dsimp only [Pt.U, Pt.locs, Pt.cells, Pt.slots] at X4 lq4 yq4 zq4 st4 hQ4
    subst lq4 yq4 zq4
    obtain ⟨r4, hr4, rfl, N4q, e4⟩ := hQ4
    have N4 := Fr.app N0 N4q
    obtain ⟨fs, hr, hrun, hended, hW, hsame⟩ := X4.leave (v := none) (fun _ => rfl) (BodyLoose.notSynchronized Bd)
    refine ⟨_, _, pre0 _ ?_, hrun, hended, _, _, rfl, ?_, ⟨_, rfl⟩, hW, hsame.mono (by decide) (by decide)⟩
    · show Steps p.tables e below (s₁.setTop (mkF m 0 #[.val (.int p1), .val (.int p2), .val (.int p3)] [])) _
      refine XS.iloadN X0.here hx rfl (hb hby d21_0) rfl ?_
      refine XS.iloadN X0.here hx rfl (hb hby d21_1) rfl ?_
      refine XS.iloadN X0.here hx rfl (hb hby d21_2) rfl ?_
      refine st3 _ ?_
      refine st4 _ ?_
      refine XS.pop X4.here hx rfl (hb hby d21_9) rfl rfl ?_
      exact X4.returnOut hx Bd.returns (hb hby d21_10) hr
    · show QrSb Z p1 p2 p3 gv h0 n0 _ T4.heap _
      exact ⟨rfl, N4, e4⟩
theorem d45_0 : decode jdk_42_method_157_code 0 = .ok (.iload_n 0, 1) := by decide +kernel
theorem d45_1 : decode jdk_42_method_157_code 1 = .ok (.iload_n 1, 1) := by decide +kernel
theorem d45_2 : decode jdk_42_method_157_code 2 = .ok (.iload_n 2, 1) := by decide +kernel
theorem d45_3 : decode jdk_42_method_157_code 3 = .ok (.getstatic 1053, 3) := by decide +kernel
theorem d45_6 : decode jdk_42_method_157_code 6 = .ok (.invokestatic 1065, 3) := by decide +kernel
theorem d45_9 : decode jdk_42_method_157_code 9 = .ok (.ireturn, 1) := by decide +kernel
theorem pn_45 : plainName "java/lang/String" = true := by first | (simp [plainName, overriddenIn]; done) | decide +kernel
theorem ef_rSo (m : MethodId) (p1 : Int32) (p2 : Int32) (p3 : Int32) : entryFrame m #[(.int p1), (.int p2), (.int p3)] 3 = mkF m 0 #[.val (.int p1), .val (.int p2), .val (.int p3)] [] := by first | (simp [entryFrame, mkF, argsToLocals, Value.category]; done) | rfl
def QrSo (Z : State) (p1 : Int32) (p2 : Int32) (p3 : Int32) (gv : Value) (h0 : Heap) (n0 : Nat) (v : Option Value) (h : Heap) (L : List Loc) : Prop := ∃ z : Int32, z = (p1) ∧ v = some (.int z) ∧ Fr n0 L ∧ h = h0
set_option maxRecDepth 65536 in
set_option maxHeartbeats 40000000 in
theorem rSo (l : Launch) (Z : State) (a0 : Array Value) (hw : ∀ d ∈ tables_1, d.before a0 Z = true) (ws : List Jvm.Cond) (p1 : Int32) (p2 : Int32) (p3 : Int32) (gv : Value) (h0 : Heap) (n0 : Nat) (Z0 : n0 ≤ h0.size) (X00 : Old Z n0 h0) (O_S : Sta Z Z.heap "jdk/internal/util/Preconditions" "SIOOBE_FORMATTER" "Ljava/util/function/BiFunction;" gv) (hgv : gv.isRef = true) (hs : ¬ ((p3 ||| p1) ||| p2) < (0 : Int32)) (hhi : ¬ (p3 - p1) < p2) :
    MetFree l (⟨"java/lang/String", "checkBoundsOffCount", "(III)I"⟩ : MethodName) (head1 (Jvm.Cond.code (⟨"java/lang/String", "checkBoundsOffCount", "(III)I"⟩ : MethodName) jdk_42_method_157_code 3 (some .int) :: ws) ({ frames := 1, cells := 0, slots := 0, locals := 15 } : Room)) (fun a U => a = #[(.int p1), (.int p2), (.int p3)] ∧ Z.Warmed39 U.vm ∧ U.heap = h0) (fun _ _ _ _ _ => True) (fun _ U o U' => ∃ v L, o = .returned v ∧ QrSo Z p1 p2 p3 gv h0 n0 v U'.heap L ∧ FrameEnd U o U' L ({ frames := 1, cells := 0, slots := 0, locals := 15 } : Room).cells ({ frames := 1, cells := 0, slots := 0, locals := 15 } : Room).slots) := by
  refine MetFree.of_bodySF (plainFor_of_name pn_45) hisR ?_
  intro p e s m args below meth c s₁ Bd hml0 hP hK
  obtain ⟨rfl, hZ, hh⟩ := hP
  have hx := Bd.exec
  have hby := Bd.bytes
  have hml : c.maxLocals = 3 := hml0
  have hown : s.vm.findClass "java/lang/String" = some m.cls := findClass_of_methodNamed Bd.named
  have hnm := (name_of_methodNamed Bd.named Bd.method).1
  have X0 : Stand p l e ({ frames := 1, cells := 0, slots := 0, locals := 15 } : Room) s m #[(.int p1), (.int p2), (.int p3)] below meth c s₁ [] 0 0 := Stand.of_body Bd
  have e0 : s₁.heap = h0 := by rw [← hh, Bd.state]; rfl
  have N0 := Fr.nil n0
  have pre0 : ∀ t, Steps p.tables e below (s₁.setTop (mkF m 0 #[.val (.int p1), .val (.int p2), .val (.int p3)] [])) t → Steps p.tables e below (s₁.setTop (entryFrame m #[(.int p1), (.int p2), (.int p3)] 3)) t := fun t k => castTop (ef_rSo m p1 p2 p3) k
  rcases ref_cases hgv with hg | ⟨G3, hg⟩
  · rw [hg] at O_S
    obtain ⟨T1, X1, e1, st1⟩ := getS2 X0 hx hZ hown (host := "") (Or.inl (hw _ (own_w 84 rfl))) Via.refl e0 (O_S.ext X00.2) (g := (mkF m 3 #[.val (.int p1), .val (.int p2), .val (.int p3)] [(.int p3), (.int p2), (.int p1)])) rfl (hb hby d45_3)
    obtain ⟨_, _, ⟨T2, Lq2, kq2, nq2⟩, -, X2, ⟨Lc2, hQ2, lq2, yq2, zq2⟩, st2⟩ := Jvm.LawKit.callS X1 hx (y := (⟨"jdk/internal/util/Preconditions", "checkFromIndexSize", "(IIILjava/util/function/BiFunction;)I"⟩ : MethodName)) hown (mvT hZ (hw _ (own_w 195 rfl))) (mvT hZ (hw _ (own_w 196 rfl))) (mvT hZ (hw _ (own_w 85 rfl))) (mvT hZ (hw _ (own_w 197 rfl))) (by decide) (backOf (W := 0) (rPsn l Z a0 hw [] p1 p2 p3  h0 n0 Z0 hs hhi) hZ (hw _ (own_w 197 rfl)) (hw _ (own_w 85 rfl)) (by decide) (by decide)) (g := (mkF m 6 #[.val (.int p1), .val (.int p2), .val (.int p3)] [.null, (.int p3), (.int p2), (.int p1)])) rfl (by rw [hml]; rfl) (argsL := [(.int p1), (.int p2), (.int p3), .null]) (rest := []) (lenOf pd_1 rfl) rfl (by show 2 * 0 + _ ≤ _; exact Nat.le_of_eq rfl) (hb hby d45_6) (fun _ _ => ⟨rfl, e1, (by decide : 0 + 0 ≤ _), (by decide : 0 + 0 ≤ _)⟩)
    dsimp only [Pt.U, Pt.locs, Pt.cells, Pt.slots] at X2 lq2 yq2 zq2 st2 hQ2
    subst lq2 yq2 zq2
    obtain ⟨r2, hr2, rfl, N2q, e2⟩ := hQ2
    have N2 := Fr.app N0 N2q
    obtain ⟨fs, hr, hrun, hended, hW, hsame⟩ := X2.leave (v := some (.int r2)) (fun h => by rw [Bd.returns] at h; cases h) (BodyLoose.notSynchronized Bd)
    refine ⟨_, _, pre0 _ ?_, hrun, hended, _, _, rfl, ?_, ⟨_, rfl⟩, hW, hsame.mono (by decide) (by decide)⟩
    · show Steps p.tables e below (s₁.setTop (mkF m 0 #[.val (.int p1), .val (.int p2), .val (.int p3)] [])) _
      refine XS.iloadN X0.here hx rfl (hb hby d45_0) rfl ?_
      refine XS.iloadN X0.here hx rfl (hb hby d45_1) rfl ?_
      refine XS.iloadN X0.here hx rfl (hb hby d45_2) rfl ?_
      refine st1 _ ?_
      refine st2 _ ?_
      exact retI X2 hx Bd.returns (hb hby d45_9) hr
    · show QrSo Z p1 p2 p3 gv h0 n0 _ T2.heap _
      exact ⟨_, hr2, rfl, N2, e2⟩
  · rw [hg] at O_S
    obtain ⟨T3, X3, e3, st3⟩ := getS2 X0 hx hZ hown (host := "") (Or.inl (hw _ (own_w 84 rfl))) Via.refl e0 (O_S.ext X00.2) (g := (mkF m 3 #[.val (.int p1), .val (.int p2), .val (.int p3)] [(.int p3), (.int p2), (.int p1)])) rfl (hb hby d45_3)
    obtain ⟨_, _, ⟨T4, Lq4, kq4, nq4⟩, -, X4, ⟨Lc4, hQ4, lq4, yq4, zq4⟩, st4⟩ := Jvm.LawKit.callS X3 hx (y := (⟨"jdk/internal/util/Preconditions", "checkFromIndexSize", "(IIILjava/util/function/BiFunction;)I"⟩ : MethodName)) hown (mvT hZ (hw _ (own_w 195 rfl))) (mvT hZ (hw _ (own_w 196 rfl))) (mvT hZ (hw _ (own_w 85 rfl))) (mvT hZ (hw _ (own_w 197 rfl))) (by decide) (backOf (W := 0) (rPsr l Z a0 hw [] p1 p2 p3 G3  h0 n0 Z0 hs hhi) hZ (hw _ (own_w 197 rfl)) (hw _ (own_w 85 rfl)) (by decide) (by decide)) (g := (mkF m 6 #[.val (.int p1), .val (.int p2), .val (.int p3)] [(.ref G3), (.int p3), (.int p2), (.int p1)])) rfl (by rw [hml]; rfl) (argsL := [(.int p1), (.int p2), (.int p3), (.ref G3)]) (rest := []) (lenOf pd_1 rfl) rfl (by show 2 * 0 + _ ≤ _; exact Nat.le_of_eq rfl) (hb hby d45_6) (fun _ _ => ⟨rfl, e3, (by decide : 0 + 0 ≤ _), (by decide : 0 + 0 ≤ _)⟩)
    dsimp only [Pt.U, Pt.locs, Pt.cells, Pt.slots] at X4 lq4 yq4 zq4 st4 hQ4
    subst lq4 yq4 zq4
    obtain ⟨r4, hr4, rfl, N4q, e4⟩ := hQ4
    have N4 := Fr.app N0 N4q
    obtain ⟨fs, hr, hrun, hended, hW, hsame⟩ := X4.leave (v := some (.int r4)) (fun h => by rw [Bd.returns] at h; cases h) (BodyLoose.notSynchronized Bd)
    refine ⟨_, _, pre0 _ ?_, hrun, hended, _, _, rfl, ?_, ⟨_, rfl⟩, hW, hsame.mono (by decide) (by decide)⟩
    · show Steps p.tables e below (s₁.setTop (mkF m 0 #[.val (.int p1), .val (.int p2), .val (.int p3)] [])) _
      refine XS.iloadN X0.here hx rfl (hb hby d45_0) rfl ?_
      refine XS.iloadN X0.here hx rfl (hb hby d45_1) rfl ?_
      refine XS.iloadN X0.here hx rfl (hb hby d45_2) rfl ?_
      refine st3 _ ?_
      refine st4 _ ?_
      exact retI X4 hx Bd.returns (hb hby d45_9) hr
    · show QrSo Z p1 p2 p3 gv h0 n0 _ T4.heap _
      exact ⟨_, hr4, rfl, N4, e4⟩
theorem d7_0 : decode jdk_42_method_152_code 0 = .ok (.getstatic 38, 3) := by decide +kernel
theorem d7_3 : decode jdk_42_method_152_code 3 = .ok (.ifCond .eq 10, 3) := by decide +kernel
theorem d7_6 : decode jdk_42_method_152_code 6 = .ok (.aload_n 0, 1) := by decide +kernel
theorem d7_7 : decode jdk_42_method_152_code 7 = .ok (.getfield 15, 3) := by decide +kernel
theorem d7_10 : decode jdk_42_method_152_code 10 = .ok (.goto 4, 3) := by decide +kernel
theorem d7_14 : decode jdk_42_method_152_code 14 = .ok (.ireturn, 1) := by decide +kernel
theorem pn_7 : plainName "java/lang/String" = true := by first | (simp [plainName, overriddenIn]; done) | decide +kernel
theorem ef_rCo0 (m : MethodId) (a1 : Addr) : entryFrame m #[(.ref a1)] 1 = mkF m 0 #[.val (.ref a1)] [] := by first | (simp [entryFrame, mkF, argsToLocals, Value.category]; done) | rfl
def QrCo0 (Z : State) (a1 : Addr) (G1 : Int32) (h0 : Heap) (n0 : Nat) (v : Option Value) (h : Heap) (L : List Loc) : Prop := ∃ z : Int32, z = ((0 : Int32)) ∧ v = some (.int z) ∧ Fr n0 L ∧ h = h0
set_option maxRecDepth 65536 in
set_option maxHeartbeats 40000000 in
theorem rCo0 (l : Launch) (Z : State) (a0 : Array Value) (hw : ∀ d ∈ tables_1, d.before a0 Z = true) (ws : List Jvm.Cond) (a1 : Addr) (G1 : Int32) (h0 : Heap) (n0 : Nat) (Z0 : n0 ≤ h0.size) (X00 : Old Z n0 h0) (O_2 : Sta Z Z.heap "java/lang/String" "COMPACT_STRINGS" "Z" (.int G1)) (P5 : ¬ (G1 = (0 : Int32))) (FC : Fld Z h0 a1 "java/lang/String" "coder" "B" (.int (0 : Int32))) :
    MetFree l (⟨"java/lang/String", "coder", "()B"⟩ : MethodName) (head1 (Jvm.Cond.code (⟨"java/lang/String", "coder", "()B"⟩ : MethodName) jdk_42_method_152_code 1 (some .byte) :: ws) ({ frames := 0, cells := 0, slots := 0, locals := 0 } : Room)) (fun a U => a = #[(.ref a1)] ∧ Z.Warmed39 U.vm ∧ U.heap = h0) (fun _ _ _ _ _ => True) (fun _ U o U' => ∃ v L, o = .returned v ∧ QrCo0 Z a1 G1 h0 n0 v U'.heap L ∧ FrameEnd U o U' L ({ frames := 0, cells := 0, slots := 0, locals := 0 } : Room).cells ({ frames := 0, cells := 0, slots := 0, locals := 0 } : Room).slots) := by
  refine MetFree.of_bodySF (plainFor_of_name pn_7) hisR ?_
  intro p e s m args below meth c s₁ Bd hml0 hP hK
  obtain ⟨rfl, hZ, hh⟩ := hP
  have hx := Bd.exec
  have hby := Bd.bytes
  have hml : c.maxLocals = 1 := hml0
  have hown : s.vm.findClass "java/lang/String" = some m.cls := findClass_of_methodNamed Bd.named
  have hnm := (name_of_methodNamed Bd.named Bd.method).1
  have X0 : Stand p l e ({ frames := 0, cells := 0, slots := 0, locals := 0 } : Room) s m #[(.ref a1)] below meth c s₁ [] 0 0 := Stand.of_body Bd
  have e0 : s₁.heap = h0 := by rw [← hh, Bd.state]; rfl
  have N0 := Fr.nil n0
  have pre0 : ∀ t, Steps p.tables e below (s₁.setTop (mkF m 0 #[.val (.ref a1)] [])) t → Steps p.tables e below (s₁.setTop (entryFrame m #[(.ref a1)] 1)) t := fun t k => castTop (ef_rCo0 m a1) k
  obtain ⟨T1, X1, e1, st1⟩ := getS2 X0 hx hZ hown (host := "") (Or.inl (hw _ (own_w 41 rfl))) Via.refl e0 (O_2.ext X00.2) (g := (mkF m 0 #[.val (.ref a1)] [])) rfl (hb hby d7_0)
  obtain ⟨T2, X2, e2, st2⟩ := getF X1 hx hZ hown (host := "") (Or.inl (hw _ (own_w 26 rfl))) Via.refl e1 FC (g := (mkF m 7 #[.val (.ref a1)] [(.ref a1)])) rfl rfl (hb hby d7_7)
  obtain ⟨fs, hr, hrun, hended, hW, hsame⟩ := X2.leave (v := some (.int (0 : Int32))) (fun h => by rw [Bd.returns] at h; cases h) (BodyLoose.notSynchronized Bd)
  refine ⟨_, _, pre0 _ ?_, hrun, hended, _, _, rfl, ?_, ⟨_, rfl⟩, hW, hsame.mono (by decide) (by decide)⟩
  · show Steps p.tables e below (s₁.setTop (mkF m 0 #[.val (.ref a1)] [])) _
    refine st1 _ ?_
    refine XS.ifNo X1.here hx rfl (hb hby d7_3) rfl ((if0 _ _).trans (feq P5).1) ?_
    refine XS.aloadN X1.here hx rfl (hb hby d7_6) rfl rfl ?_
    refine st2 _ ?_
    refine XS.goto X2.here hx rfl (pc0 := 10) (pc' := 14) rfl (hb hby d7_10) (by decide) (by decide) ?_
    exact retN X2 hx (t := .byte) Bd.returns (by simp) (hb hby d7_14) hr
  · show QrCo0 Z a1 G1 h0 n0 _ T2.heap _
    exact ⟨_, rfl, rfl, N0, e2⟩
theorem d15_0 : decode jdk_42_method_154_code 0 = .ok (.getstatic 38, 3) := by decide +kernel
theorem d15_3 : decode jdk_42_method_154_code 3 = .ok (.ifCond .eq 14, 3) := by decide +kernel
theorem d15_6 : decode jdk_42_method_154_code 6 = .ok (.aload_n 0, 1) := by decide +kernel
theorem d15_7 : decode jdk_42_method_154_code 7 = .ok (.getfield 15, 3) := by decide +kernel
theorem d15_10 : decode jdk_42_method_154_code 10 = .ok (.ifCond .ne 7, 3) := by decide +kernel
theorem d15_13 : decode jdk_42_method_154_code 13 = .ok (.iconst 1, 1) := by decide +kernel
theorem d15_14 : decode jdk_42_method_154_code 14 = .ok (.goto 4, 3) := by decide +kernel
theorem d15_18 : decode jdk_42_method_154_code 18 = .ok (.ireturn, 1) := by decide +kernel
theorem pn_15 : plainName "java/lang/String" = true := by first | (simp [plainName, overriddenIn]; done) | decide +kernel
theorem ef_rIs0 (m : MethodId) (a1 : Addr) : entryFrame m #[(.ref a1)] 1 = mkF m 0 #[.val (.ref a1)] [] := by first | (simp [entryFrame, mkF, argsToLocals, Value.category]; done) | rfl
def QrIs0 (Z : State) (a1 : Addr) (G1 : Int32) (h0 : Heap) (n0 : Nat) (v : Option Value) (h : Heap) (L : List Loc) : Prop := ∃ z : Int32, z = ((1 : Int32)) ∧ v = some (.int z) ∧ Fr n0 L ∧ h = h0
set_option maxRecDepth 65536 in
set_option maxHeartbeats 40000000 in
theorem rIs0 (l : Launch) (Z : State) (a0 : Array Value) (hw : ∀ d ∈ tables_1, d.before a0 Z = true) (ws : List Jvm.Cond) (a1 : Addr) (G1 : Int32) (h0 : Heap) (n0 : Nat) (Z0 : n0 ≤ h0.size) (X00 : Old Z n0 h0) (O_2 : Sta Z Z.heap "java/lang/String" "COMPACT_STRINGS" "Z" (.int G1)) (P5 : ¬ (G1 = (0 : Int32))) (FC : Fld Z h0 a1 "java/lang/String" "coder" "B" (.int (0 : Int32))) :
    MetFree l (⟨"java/lang/String", "isLatin1", "()Z"⟩ : MethodName) (head1 (Jvm.Cond.code (⟨"java/lang/String", "isLatin1", "()Z"⟩ : MethodName) jdk_42_method_154_code 1 (some .boolean) :: ws) ({ frames := 0, cells := 0, slots := 0, locals := 0 } : Room)) (fun a U => a = #[(.ref a1)] ∧ Z.Warmed39 U.vm ∧ U.heap = h0) (fun _ _ _ _ _ => True) (fun _ U o U' => ∃ v L, o = .returned v ∧ QrIs0 Z a1 G1 h0 n0 v U'.heap L ∧ FrameEnd U o U' L ({ frames := 0, cells := 0, slots := 0, locals := 0 } : Room).cells ({ frames := 0, cells := 0, slots := 0, locals := 0 } : Room).slots) := by
  refine MetFree.of_bodySF (plainFor_of_name pn_15) hisR ?_
  intro p e s m args below meth c s₁ Bd hml0 hP hK
  obtain ⟨rfl, hZ, hh⟩ := hP
  have hx := Bd.exec
  have hby := Bd.bytes
  have hml : c.maxLocals = 1 := hml0
  have hown : s.vm.findClass "java/lang/String" = some m.cls := findClass_of_methodNamed Bd.named
  have hnm := (name_of_methodNamed Bd.named Bd.method).1
  have X0 : Stand p l e ({ frames := 0, cells := 0, slots := 0, locals := 0 } : Room) s m #[(.ref a1)] below meth c s₁ [] 0 0 := Stand.of_body Bd
  have e0 : s₁.heap = h0 := by rw [← hh, Bd.state]; rfl
  have N0 := Fr.nil n0
  have pre0 : ∀ t, Steps p.tables e below (s₁.setTop (mkF m 0 #[.val (.ref a1)] [])) t → Steps p.tables e below (s₁.setTop (entryFrame m #[(.ref a1)] 1)) t := fun t k => castTop (ef_rIs0 m a1) k
  obtain ⟨T1, X1, e1, st1⟩ := getS2 X0 hx hZ hown (host := "") (Or.inl (hw _ (own_w 41 rfl))) Via.refl e0 (O_2.ext X00.2) (g := (mkF m 0 #[.val (.ref a1)] [])) rfl (hb hby d15_0)
  obtain ⟨T2, X2, e2, st2⟩ := getF X1 hx hZ hown (host := "") (Or.inl (hw _ (own_w 26 rfl))) Via.refl e1 FC (g := (mkF m 7 #[.val (.ref a1)] [(.ref a1)])) rfl rfl (hb hby d15_7)
  obtain ⟨fs, hr, hrun, hended, hW, hsame⟩ := X2.leave (v := some (.int (1 : Int32))) (fun h => by rw [Bd.returns] at h; cases h) (BodyLoose.notSynchronized Bd)
  refine ⟨_, _, pre0 _ ?_, hrun, hended, _, _, rfl, ?_, ⟨_, rfl⟩, hW, hsame.mono (by decide) (by decide)⟩
  · show Steps p.tables e below (s₁.setTop (mkF m 0 #[.val (.ref a1)] [])) _
    refine st1 _ ?_
    refine XS.ifNo X1.here hx rfl (hb hby d15_3) rfl ((if0 _ _).trans (feq P5).1) ?_
    refine XS.aloadN X1.here hx rfl (hb hby d15_6) rfl rfl ?_
    refine st2 _ ?_
    refine XS.ifNo X2.here hx rfl (hb hby d15_10) rfl ((if0 _ _).trans (teq (by decide)).2) ?_
    refine XS.iconst X2.here hx rfl (hb hby d15_13) ?_
    refine XS.goto X2.here hx rfl (pc0 := 14) (pc' := 18) rfl (hb hby d15_14) (by decide) (by decide) ?_
    exact retN X2 hx (t := .boolean) Bd.returns (by simp) (hb hby d15_18) hr
  · show QrIs0 Z a1 G1 h0 n0 _ T2.heap _
    exact ⟨_, rfl, rfl, N0, e2⟩
theorem ef_rCo1 (m : MethodId) (a1 : Addr) : entryFrame m #[(.ref a1)] 1 = mkF m 0 #[.val (.ref a1)] [] := by first | (simp [entryFrame, mkF, argsToLocals, Value.category]; done) | rfl
def QrCo1 (Z : State) (a1 : Addr) (G1 : Int32) (h0 : Heap) (n0 : Nat) (v : Option Value) (h : Heap) (L : List Loc) : Prop := ∃ z : Int32, z = ((1 : Int32)) ∧ v = some (.int z) ∧ Fr n0 L ∧ h = h0
set_option maxRecDepth 65536 in
set_option maxHeartbeats 40000000 in
theorem rCo1 (l : Launch) (Z : State) (a0 : Array Value) (hw : ∀ d ∈ tables_1, d.before a0 Z = true) (ws : List Jvm.Cond) (a1 : Addr) (G1 : Int32) (h0 : Heap) (n0 : Nat) (Z0 : n0 ≤ h0.size) (X00 : Old Z n0 h0) (O_2 : Sta Z Z.heap "java/lang/String" "COMPACT_STRINGS" "Z" (.int G1)) (P5 : ¬ (G1 = (0 : Int32))) (FC : Fld Z h0 a1 "java/lang/String" "coder" "B" (.int (1 : Int32))) :
    MetFree l (⟨"java/lang/String", "coder", "()B"⟩ : MethodName) (head1 (Jvm.Cond.code (⟨"java/lang/String", "coder", "()B"⟩ : MethodName) jdk_42_method_152_code 1 (some .byte) :: ws) ({ frames := 0, cells := 0, slots := 0, locals := 0 } : Room)) (fun a U => a = #[(.ref a1)] ∧ Z.Warmed39 U.vm ∧ U.heap = h0) (fun _ _ _ _ _ => True) (fun _ U o U' => ∃ v L, o = .returned v ∧ QrCo1 Z a1 G1 h0 n0 v U'.heap L ∧ FrameEnd U o U' L ({ frames := 0, cells := 0, slots := 0, locals := 0 } : Room).cells ({ frames := 0, cells := 0, slots := 0, locals := 0 } : Room).slots) := by
  refine MetFree.of_bodySF (plainFor_of_name pn_7) hisR ?_
  intro p e s m args below meth c s₁ Bd hml0 hP hK
  obtain ⟨rfl, hZ, hh⟩ := hP
  have hx := Bd.exec
  have hby := Bd.bytes
  have hml : c.maxLocals = 1 := hml0
  have hown : s.vm.findClass "java/lang/String" = some m.cls := findClass_of_methodNamed Bd.named
  have hnm := (name_of_methodNamed Bd.named Bd.method).1
  have X0 : Stand p l e ({ frames := 0, cells := 0, slots := 0, locals := 0 } : Room) s m #[(.ref a1)] below meth c s₁ [] 0 0 := Stand.of_body Bd
  have e0 : s₁.heap = h0 := by rw [← hh, Bd.state]; rfl
  have N0 := Fr.nil n0
  have pre0 : ∀ t, Steps p.tables e below (s₁.setTop (mkF m 0 #[.val (.ref a1)] [])) t → Steps p.tables e below (s₁.setTop (entryFrame m #[(.ref a1)] 1)) t := fun t k => castTop (ef_rCo1 m a1) k
  obtain ⟨T1, X1, e1, st1⟩ := getS2 X0 hx hZ hown (host := "") (Or.inl (hw _ (own_w 41 rfl))) Via.refl e0 (O_2.ext X00.2) (g := (mkF m 0 #[.val (.ref a1)] [])) rfl (hb hby d7_0)
  obtain ⟨T2, X2, e2, st2⟩ := getF X1 hx hZ hown (host := "") (Or.inl (hw _ (own_w 26 rfl))) Via.refl e1 FC (g := (mkF m 7 #[.val (.ref a1)] [(.ref a1)])) rfl rfl (hb hby d7_7)
  obtain ⟨fs, hr, hrun, hended, hW, hsame⟩ := X2.leave (v := some (.int (1 : Int32))) (fun h => by rw [Bd.returns] at h; cases h) (BodyLoose.notSynchronized Bd)
  refine ⟨_, _, pre0 _ ?_, hrun, hended, _, _, rfl, ?_, ⟨_, rfl⟩, hW, hsame.mono (by decide) (by decide)⟩
  · show Steps p.tables e below (s₁.setTop (mkF m 0 #[.val (.ref a1)] [])) _
    refine st1 _ ?_
    refine XS.ifNo X1.here hx rfl (hb hby d7_3) rfl ((if0 _ _).trans (feq P5).1) ?_
    refine XS.aloadN X1.here hx rfl (hb hby d7_6) rfl rfl ?_
    refine st2 _ ?_
    refine XS.goto X2.here hx rfl (pc0 := 10) (pc' := 14) rfl (hb hby d7_10) (by decide) (by decide) ?_
    exact retN X2 hx (t := .byte) Bd.returns (by simp) (hb hby d7_14) hr
  · show QrCo1 Z a1 G1 h0 n0 _ T2.heap _
    exact ⟨_, rfl, rfl, N0, e2⟩
theorem d15_17 : decode jdk_42_method_154_code 17 = .ok (.iconst 0, 1) := by decide +kernel
theorem ef_rIs1 (m : MethodId) (a1 : Addr) : entryFrame m #[(.ref a1)] 1 = mkF m 0 #[.val (.ref a1)] [] := by first | (simp [entryFrame, mkF, argsToLocals, Value.category]; done) | rfl
def QrIs1 (Z : State) (a1 : Addr) (G1 : Int32) (h0 : Heap) (n0 : Nat) (v : Option Value) (h : Heap) (L : List Loc) : Prop := ∃ z : Int32, z = ((0 : Int32)) ∧ v = some (.int z) ∧ Fr n0 L ∧ h = h0
set_option maxRecDepth 65536 in
set_option maxHeartbeats 40000000 in
theorem rIs1 (l : Launch) (Z : State) (a0 : Array Value) (hw : ∀ d ∈ tables_1, d.before a0 Z = true) (ws : List Jvm.Cond) (a1 : Addr) (G1 : Int32) (h0 : Heap) (n0 : Nat) (Z0 : n0 ≤ h0.size) (X00 : Old Z n0 h0) (O_2 : Sta Z Z.heap "java/lang/String" "COMPACT_STRINGS" "Z" (.int G1)) (P5 : ¬ (G1 = (0 : Int32))) (FC : Fld Z h0 a1 "java/lang/String" "coder" "B" (.int (1 : Int32))) :
    MetFree l (⟨"java/lang/String", "isLatin1", "()Z"⟩ : MethodName) (head1 (Jvm.Cond.code (⟨"java/lang/String", "isLatin1", "()Z"⟩ : MethodName) jdk_42_method_154_code 1 (some .boolean) :: ws) ({ frames := 0, cells := 0, slots := 0, locals := 0 } : Room)) (fun a U => a = #[(.ref a1)] ∧ Z.Warmed39 U.vm ∧ U.heap = h0) (fun _ _ _ _ _ => True) (fun _ U o U' => ∃ v L, o = .returned v ∧ QrIs1 Z a1 G1 h0 n0 v U'.heap L ∧ FrameEnd U o U' L ({ frames := 0, cells := 0, slots := 0, locals := 0 } : Room).cells ({ frames := 0, cells := 0, slots := 0, locals := 0 } : Room).slots) := by
  refine MetFree.of_bodySF (plainFor_of_name pn_15) hisR ?_
  intro p e s m args below meth c s₁ Bd hml0 hP hK
  obtain ⟨rfl, hZ, hh⟩ := hP
  have hx := Bd.exec
  have hby := Bd.bytes
  have hml : c.maxLocals = 1 := hml0
  have hown : s.vm.findClass "java/lang/String" = some m.cls := findClass_of_methodNamed Bd.named
  have hnm := (name_of_methodNamed Bd.named Bd.method).1
  have X0 : Stand p l e ({ frames := 0, cells := 0, slots := 0, locals := 0 } : Room) s m #[(.ref a1)] below meth c s₁ [] 0 0 := Stand.of_body Bd
  have e0 : s₁.heap = h0 := by rw [← hh, Bd.state]; rfl
  have N0 := Fr.nil n0
  have pre0 : ∀ t, Steps p.tables e below (s₁.setTop (mkF m 0 #[.val (.ref a1)] [])) t → Steps p.tables e below (s₁.setTop (entryFrame m #[(.ref a1)] 1)) t := fun t k => castTop (ef_rIs1 m a1) k
  obtain ⟨T1, X1, e1, st1⟩ := getS2 X0 hx hZ hown (host := "") (Or.inl (hw _ (own_w 41 rfl))) Via.refl e0 (O_2.ext X00.2) (g := (mkF m 0 #[.val (.ref a1)] [])) rfl (hb hby d15_0)
  obtain ⟨T2, X2, e2, st2⟩ := getF X1 hx hZ hown (host := "") (Or.inl (hw _ (own_w 26 rfl))) Via.refl e1 FC (g := (mkF m 7 #[.val (.ref a1)] [(.ref a1)])) rfl rfl (hb hby d15_7)
  obtain ⟨fs, hr, hrun, hended, hW, hsame⟩ := X2.leave (v := some (.int (0 : Int32))) (fun h => by rw [Bd.returns] at h; cases h) (BodyLoose.notSynchronized Bd)
  refine ⟨_, _, pre0 _ ?_, hrun, hended, _, _, rfl, ?_, ⟨_, rfl⟩, hW, hsame.mono (by decide) (by decide)⟩
  · show Steps p.tables e below (s₁.setTop (mkF m 0 #[.val (.ref a1)] [])) _
    refine st1 _ ?_
    refine XS.ifNo X1.here hx rfl (hb hby d15_3) rfl ((if0 _ _).trans (feq P5).1) ?_
    refine XS.aloadN X1.here hx rfl (hb hby d15_6) rfl rfl ?_
    refine st2 _ ?_
    refine XS.ifYes X2.here hx rfl (pc0 := 10) (pc' := 17) rfl (hb hby d15_10) rfl ((if0 _ _).trans (feq (by decide)).2) (by decide) (by decide) ?_
    refine XS.iconst X2.here hx rfl (hb hby d15_17) ?_
    exact retN X2 hx (t := .boolean) Bd.returns (by simp) (hb hby d15_18) hr
  · show QrIs1 Z a1 G1 h0 n0 _ T2.heap _
    exact ⟨_, rfl, rfl, N0, e2⟩
theorem pd_2 : parseMethodDescriptor "()B" = some ⟨[], some .byte⟩ := by decide +kernel
theorem d6_0 : decode jdk_42_method_54_code 0 = .ok (.aload_n 0, 1) := by decide +kernel
theorem d6_1 : decode jdk_42_method_54_code 1 = .ok (.getfield 9, 3) := by decide +kernel
theorem d6_4 : decode jdk_42_method_54_code 4 = .ok (.arraylength, 1) := by decide +kernel
theorem d6_5 : decode jdk_42_method_54_code 5 = .ok (.aload_n 0, 1) := by decide +kernel
theorem d6_6 : decode jdk_42_method_54_code 6 = .ok (.invokevirtual 335, 3) := by decide +kernel
theorem d6_9 : decode jdk_42_method_54_code 9 = .ok (.ishr, 1) := by decide +kernel
theorem d6_10 : decode jdk_42_method_54_code 10 = .ok (.ireturn, 1) := by decide +kernel
theorem pn_6 : plainName "java/lang/String" = true := by first | (simp [plainName, overriddenIn]; done) | decide +kernel
theorem ef_rLe (m : MethodId) (a1 : Addr) : entryFrame m #[(.ref a1)] 1 = mkF m 0 #[.val (.ref a1)] [] := by first | (simp [entryFrame, mkF, argsToLocals, Value.category]; done) | rfl
def QrLe (Z : State) (a1 : Addr) (cs : List Int32) (G1 : Int32) (h0 : Heap) (n0 : Nat) (v : Option Value) (h : Heap) (L : List Loc) : Prop := ∃ z : Int32, z = (Int32.ofNat cs.length) ∧ v = some (.int z) ∧ Fr n0 L ∧ h = h0
set_option maxRecDepth 65536 in
set_option maxHeartbeats 40000000 in
theorem rLe (l : Launch) (Z : State) (a0 : Array Value) (hw : ∀ d ∈ tables_1, d.before a0 Z = true) (ws : List Jvm.Cond) (a1 : Addr) (cs : List Int32) (G1 : Int32) (h0 : Heap) (n0 : Nat) (Z0 : n0 ≤ h0.size) (X00 : Old Z n0 h0) (O_2 : Sta Z Z.heap "java/lang/String" "COMPACT_STRINGS" "Z" (.int G1)) (P5 : ¬ (G1 = (0 : Int32))) (T : own_S Z h0 a1 cs) (hL : cs.length < 8) :
    MetFree l (⟨"java/lang/String", "length", "()I"⟩ : MethodName) (head1 (Jvm.Cond.code (⟨"java/lang/String", "length", "()I"⟩ : MethodName) jdk_42_method_54_code 1 (some .int) :: ws) ({ frames := 1, cells := 0, slots := 0, locals := 13 } : Room)) (fun a U => a = #[(.ref a1)] ∧ Z.Warmed39 U.vm ∧ U.heap = h0) (fun _ _ _ _ _ => True) (fun _ U o U' => ∃ v L, o = .returned v ∧ QrLe Z a1 cs G1 h0 n0 v U'.heap L ∧ FrameEnd U o U' L ({ frames := 1, cells := 0, slots := 0, locals := 13 } : Room).cells ({ frames := 1, cells := 0, slots := 0, locals := 13 } : Room).slots) := by
  refine MetFree.of_bodySF (plainFor_of_name pn_6) hisR ?_
  intro p e s m args below meth c s₁ Bd hml0 hP hK
  obtain ⟨rfl, hZ, hh⟩ := hP
  have hx := Bd.exec
  have hby := Bd.bytes
  have hml : c.maxLocals = 1 := hml0
  have hown : s.vm.findClass "java/lang/String" = some m.cls := findClass_of_methodNamed Bd.named
  have hnm := (name_of_methodNamed Bd.named Bd.method).1
  have X0 : Stand p l e ({ frames := 1, cells := 0, slots := 0, locals := 13 } : Room) s m #[(.ref a1)] below meth c s₁ [] 0 0 := Stand.of_body Bd
  have e0 : s₁.heap = h0 := by rw [← hh, Bd.state]; rfl
  have N0 := Fr.nil n0
  have pre0 : ∀ t, Steps p.tables e below (s₁.setTop (mkF m 0 #[.val (.ref a1)] [])) t → Steps p.tables e below (s₁.setTop (entryFrame m #[(.ref a1)] 1)) t := fun t k => castTop (ef_rLe m a1) k
  obtain ⟨vb, kb, E, FV, hcd⟩ := id T
  rcases hcd with ⟨FC, AV, hl⟩ | ⟨FC, AV⟩
  · skip
    obtain ⟨T1, X1, e1, st1⟩ := getF X0 hx hZ hown (host := "") (Or.inl (hw _ (own_w 25 rfl))) Via.refl e0 FV (g := (mkF m 1 #[.val (.ref a1)] [(.ref a1)])) rfl rfl (hb hby d6_1)
    obtain ⟨cl2, Ar2, qk2, Sz2, Nn2, Hh2, Gg2⟩ := id (AV)
    obtain ⟨cq3, kz3, q3a, q3b, q3c⟩ := isOf hZ e1 E
    obtain ⟨_, _, ⟨T3, Lq3, kq3, nq3⟩, -, X3, ⟨Lc3, hQ3, lq3, yq3, zq3⟩, st3⟩ := X1.virtualBack hx (y := (⟨"java/lang/String", "coder", "()B"⟩ : MethodName)) (z := (⟨"java/lang/String", "coder", "()B"⟩ : MethodName)) hown (mvT hZ (hw _ (own_w 36 rfl))) (mvT hZ (hw _ (own_w 37 rfl))) (notFace_of_selects (args := #[]) (mvT hZ (hw _ (own_w 39 rfl)))) (mvT hZ (hw _ (own_w 39 rfl))) (mvT hZ (hw _ (own_w 38 rfl))) (by decide) (backOf (W := 1) (rCo0 l Z a0 hw [] a1 G1 h0 n0 Z0 X00 O_2 P5 FC) hZ (hw _ (own_w 40 rfl)) (hw _ (own_w 8 rfl)) (by decide) (by decide)) q3a q3c (g := (mkF m 6 #[.val (.ref a1)] [(.ref a1), (.int (Int32.ofNat cs.length))])) rfl (by rw [hml]; rfl) (Steps.refl _) (argsL := []) (rest := [(.int (Int32.ofNat cs.length))]) (lenOf pd_2 rfl) rfl (by show 2 * 0 + _ ≤ _; exact Nat.le_of_eq rfl) (hb hby d6_6) (fun _ _ => ⟨rfl, e1, (by decide : 0 + 0 ≤ _), (by decide : 0 + 0 ≤ _)⟩)
    dsimp only [Pt.U, Pt.locs, Pt.cells, Pt.slots] at X3 lq3 yq3 zq3 st3 hQ3
    subst lq3 yq3 zq3
    obtain ⟨r3, hr3, rfl, N3q, e3⟩ := hQ3
    have N3 := Fr.app N0 N3q
    subst hr3
    obtain ⟨fs, hr, hrun, hended, hW, hsame⟩ := X3.leave (v := some (.int ((Int32.ofNat cs.length) >>> ((0 : Int32) &&& 31)))) (fun h => by rw [Bd.returns] at h; cases h) (BodyLoose.notSynchronized Bd)
    refine ⟨_, _, pre0 _ ?_, hrun, hended, _, _, rfl, ?_, ⟨_, rfl⟩, hW, hsame.mono (by decide) (by decide)⟩
    · show Steps p.tables e below (s₁.setTop (mkF m 0 #[.val (.ref a1)] [])) _
      refine XS.aloadN X0.here hx rfl (hb hby d6_0) rfl rfl ?_
      refine st1 _ ?_
      refine X1.arraylength hx (by rw [e1]; exact Ar2.1) (State.isArrayOf_alike hZ.alike Ar2.2.1) (g := (mkF m 4 #[.val (.ref a1)] [(.ref vb)])) rfl rfl (hb hby d6_4) _ ?_
      rw [len_of Sz2 Nn2]
      refine XS.aloadN X1.here hx rfl (hb hby d6_5) rfl rfl ?_
      refine st3.trans ?_
      refine XS.ishr X3.here hx rfl (hb hby d6_9) rfl ?_
      exact retI X3 hx Bd.returns (hb hby d6_10) hr
    · show QrLe Z a1 cs G1 h0 n0 _ T3.heap _
      exact ⟨_, own_sh0 _, rfl, N3, e3⟩
  · skip
    obtain ⟨T4, X4, e4, st4⟩ := getF X0 hx hZ hown (host := "") (Or.inl (hw _ (own_w 25 rfl))) Via.refl e0 FV (g := (mkF m 1 #[.val (.ref a1)] [(.ref a1)])) rfl rfl (hb hby d6_1)
    obtain ⟨cl5, Ar5, qk5, Sz5, Nn5, Hh5, Gg5⟩ := id (AV)
    obtain ⟨cq6, kz6, q6a, q6b, q6c⟩ := isOf hZ e4 E
    obtain ⟨_, _, ⟨T6, Lq6, kq6, nq6⟩, -, X6, ⟨Lc6, hQ6, lq6, yq6, zq6⟩, st6⟩ := X4.virtualBack hx (y := (⟨"java/lang/String", "coder", "()B"⟩ : MethodName)) (z := (⟨"java/lang/String", "coder", "()B"⟩ : MethodName)) hown (mvT hZ (hw _ (own_w 36 rfl))) (mvT hZ (hw _ (own_w 37 rfl))) (notFace_of_selects (args := #[]) (mvT hZ (hw _ (own_w 39 rfl)))) (mvT hZ (hw _ (own_w 39 rfl))) (mvT hZ (hw _ (own_w 38 rfl))) (by decide) (backOf (W := 1) (rCo1 l Z a0 hw [] a1 G1 h0 n0 Z0 X00 O_2 P5 FC) hZ (hw _ (own_w 40 rfl)) (hw _ (own_w 8 rfl)) (by decide) (by decide)) q6a q6c (g := (mkF m 6 #[.val (.ref a1)] [(.ref a1), (.int (Int32.ofNat (2 * cs.length)))])) rfl (by rw [hml]; rfl) (Steps.refl _) (argsL := []) (rest := [(.int (Int32.ofNat (2 * cs.length)))]) (lenOf pd_2 rfl) rfl (by show 2 * 0 + _ ≤ _; exact Nat.le_of_eq rfl) (hb hby d6_6) (fun _ _ => ⟨rfl, e4, (by decide : 0 + 0 ≤ _), (by decide : 0 + 0 ≤ _)⟩)
    dsimp only [Pt.U, Pt.locs, Pt.cells, Pt.slots] at X6 lq6 yq6 zq6 st6 hQ6
    subst lq6 yq6 zq6
    obtain ⟨r6, hr6, rfl, N6q, e6⟩ := hQ6
    have N6 := Fr.app N0 N6q
    subst hr6
    obtain ⟨fs, hr, hrun, hended, hW, hsame⟩ := X6.leave (v := some (.int ((Int32.ofNat (2 * cs.length)) >>> ((1 : Int32) &&& 31)))) (fun h => by rw [Bd.returns] at h; cases h) (BodyLoose.notSynchronized Bd)
    refine ⟨_, _, pre0 _ ?_, hrun, hended, _, _, rfl, ?_, ⟨_, rfl⟩, hW, hsame.mono (by decide) (by decide)⟩
    · show Steps p.tables e below (s₁.setTop (mkF m 0 #[.val (.ref a1)] [])) _
      refine XS.aloadN X0.here hx rfl (hb hby d6_0) rfl rfl ?_
      refine st4 _ ?_
      refine X4.arraylength hx (by rw [e4]; exact Ar5.1) (State.isArrayOf_alike hZ.alike Ar5.2.1) (g := (mkF m 4 #[.val (.ref a1)] [(.ref vb)])) rfl rfl (hb hby d6_4) _ ?_
      rw [len_of Sz5 Nn5]
      refine XS.aloadN X4.here hx rfl (hb hby d6_5) rfl rfl ?_
      refine st6.trans ?_
      refine XS.ishr X6.here hx rfl (hb hby d6_9) rfl ?_
      exact retI X6 hx Bd.returns (hb hby d6_10) hr
    · show QrLe Z a1 cs G1 h0 n0 _ T6.heap _
      exact ⟨_, own_xhr hL, rfl, N6, e6⟩
theorem pd_3 : parseMethodDescriptor "(II)V" = some ⟨[.int, .int], none⟩ := by decide +kernel
theorem d16_0 : decode jdk_43_method_2_code 0 = .ok (.iload_n 1, 1) := by decide +kernel
theorem d16_1 : decode jdk_43_method_2_code 1 = .ok (.aload_n 0, 1) := by decide +kernel
theorem d16_2 : decode jdk_43_method_2_code 2 = .ok (.arraylength, 1) := by decide +kernel
theorem d16_3 : decode jdk_43_method_2_code 3 = .ok (.invokestatic 9, 3) := by decide +kernel
theorem d16_6 : decode jdk_43_method_2_code 6 = .ok (.aload_n 0, 1) := by decide +kernel
theorem d16_7 : decode jdk_43_method_2_code 7 = .ok (.iload_n 1, 1) := by decide +kernel
theorem d16_8 : decode jdk_43_method_2_code 8 = .ok (.baload, 1) := by decide +kernel
theorem d16_9 : decode jdk_43_method_2_code 9 = .ok (.sipush 255, 3) := by decide +kernel
theorem d16_12 : decode jdk_43_method_2_code 12 = .ok (.iand, 1) := by decide +kernel
theorem d16_13 : decode jdk_43_method_2_code 13 = .ok (.i2c, 1) := by decide +kernel
theorem d16_14 : decode jdk_43_method_2_code 14 = .ok (.ireturn, 1) := by decide +kernel
theorem pn_16 : plainName "java/lang/StringLatin1" = true := by first | (simp [plainName, overriddenIn]; done) | decide +kernel
theorem ef_rL1 (m : MethodId) (a1 : Addr) (p2 : Int32) : entryFrame m #[(.ref a1), (.int p2)] 2 = mkF m 0 #[.val (.ref a1), .val (.int p2)] [] := by first | (simp [entryFrame, mkF, argsToLocals, Value.category]; done) | rfl
def QrL1 (Z : State) (a1 : Addr) (p2 : Int32) (k : ClassId) (cs : List Int32) (i : Nat) (gv : Value) (h0 : Heap) (n0 : Nat) (v : Option Value) (h : Heap) (L : List Loc) : Prop := ∃ z : Int32, z = (own_g1 (own_b (cs.getD i 0))) ∧ v = some (.int z) ∧ Fr n0 L ∧ h = h0
set_option maxRecDepth 65536 in
set_option maxHeartbeats 40000000 in
theorem rL1 (l : Launch) (Z : State) (a0 : Array Value) (hw : ∀ d ∈ tables_1, d.before a0 Z = true) (ws : List Jvm.Cond) (a1 : Addr) (p2 : Int32) (k : ClassId) (cs : List Int32) (i : Nat) (gv : Value) (h0 : Heap) (n0 : Nat) (Z0 : n0 ≤ h0.size) (X00 : Old Z n0 h0) (O_S : Sta Z Z.heap "jdk/internal/util/Preconditions" "SIOOBE_FORMATTER" "Ljava/util/function/BiFunction;" gv) (hgv : gv.isRef = true) (AV : Arv Z h0 a1 k .byte (Int32.ofNat cs.length) (own_lat cs) (.int (0 : Int32))) (hp : p2 = Int32.ofNat i) (hi : i < cs.length) (hL : cs.length < 8) :
    MetFree l (⟨"java/lang/StringLatin1", "charAt", "([BI)C"⟩ : MethodName) (head1 (Jvm.Cond.code (⟨"java/lang/StringLatin1", "charAt", "([BI)C"⟩ : MethodName) jdk_43_method_2_code 2 (some .char) :: ws) ({ frames := 2, cells := 0, slots := 0, locals := 27 } : Room)) (fun a U => a = #[(.ref a1), (.int p2)] ∧ Z.Warmed39 U.vm ∧ U.heap = h0) (fun _ _ _ _ _ => True) (fun _ U o U' => ∃ v L, o = .returned v ∧ QrL1 Z a1 p2 k cs i gv h0 n0 v U'.heap L ∧ FrameEnd U o U' L ({ frames := 2, cells := 0, slots := 0, locals := 27 } : Room).cells ({ frames := 2, cells := 0, slots := 0, locals := 27 } : Room).slots) := by
  refine MetFree.of_bodySF (plainFor_of_name pn_16) hisR ?_
  intro p e s m args below meth c s₁ Bd hml0 hP hK
  obtain ⟨rfl, hZ, hh⟩ := hP
  have hx := Bd.exec
  have hby := Bd.bytes
  have hml : c.maxLocals = 2 := hml0
  have hown : s.vm.findClass "java/lang/StringLatin1" = some m.cls := findClass_of_methodNamed Bd.named
  have hnm := (name_of_methodNamed Bd.named Bd.method).1
  have X0 : Stand p l e ({ frames := 2, cells := 0, slots := 0, locals := 27 } : Room) s m #[(.ref a1), (.int p2)] below meth c s₁ [] 0 0 := Stand.of_body Bd
  have e0 : s₁.heap = h0 := by rw [← hh, Bd.state]; rfl
  have N0 := Fr.nil n0
  have pre0 : ∀ t, Steps p.tables e below (s₁.setTop (mkF m 0 #[.val (.ref a1), .val (.int p2)] [])) t → Steps p.tables e below (s₁.setTop (entryFrame m #[(.ref a1), (.int p2)] 2)) t := fun t k => castTop (ef_rL1 m a1 p2) k
  obtain ⟨cl1, Ar1, qk1, Sz1, Nn1, Hh1, Gg1⟩ := id (AV)
  obtain ⟨_, _, ⟨T2, Lq2, kq2, nq2⟩, -, X2, ⟨Lc2, hQ2, lq2, yq2, zq2⟩, st2⟩ := Jvm.LawKit.callS X0 hx (y := (⟨"java/lang/String", "checkIndex", "(II)V"⟩ : MethodName)) hown (mvT hZ (hw _ (own_w 81 rfl))) (mvT hZ (hw _ (own_w 82 rfl))) (mvT hZ (hw _ (own_w 8 rfl))) (mvT hZ (hw _ (own_w 83 rfl))) (by decide) (backOf (W := 0) (rSi l Z a0 hw [] p2 (Int32.ofNat cs.length) gv h0 n0 Z0 X00 O_S hgv (by rw [hp]; exact own_x0 (by omega)) (by rw [hp]; exact (own_xlt (by omega) (by omega)).mpr hi)) hZ (hw _ (own_w 83 rfl)) (hw _ (own_w 8 rfl)) (by decide) (by decide)) (g := (mkF m 3 #[.val (.ref a1), .val (.int p2)] [(.int (Int32.ofNat cs.length)), (.int p2)])) rfl (by rw [hml]; rfl) (argsL := [(.int p2), (.int (Int32.ofNat cs.length))]) (rest := []) (lenOf pd_3 rfl) rfl (by show 2 * 0 + _ ≤ _; exact Nat.le_of_eq rfl) (hb hby d16_3) (fun _ _ => ⟨rfl, e0, (by decide : 0 + 0 ≤ _), (by decide : 0 + 0 ≤ _)⟩)
  dsimp only [Pt.U, Pt.locs, Pt.cells, Pt.slots] at X2 lq2 yq2 zq2 st2 hQ2
  subst lq2 yq2 zq2
  obtain ⟨rfl, N2q, e2⟩ := hQ2
  have N2 := Fr.app N0 N2q
  obtain ⟨cl3, Ar3, qk3, Sz3, Nn3, Hh3, Gg3⟩ := id (AV)
  have hin4 : ¬ (p2 < 0 ∨ cl3.slots.size ≤ (p2).toNatClampNeg) := inb_of Sz3 ⟨by rw [hp]; exact own_x0 (by omega), by rw [hp]; exact (own_xlt (by omega) (by omega)).mpr hi⟩
  have hat4 : cl3.slots[(p2).toNatClampNeg]? = some (.int (own_b (cs.getD i 0))) := Has.at Hh3 hin4 (by rw [hp, own_xN (by omega)]; exact own_lat_at hi _)
  obtain ⟨fs, hr, hrun, hended, hW, hsame⟩ := X2.leave (v := some (.int (nar .char (((own_b (cs.getD i 0)) &&& (255 : Int32)).toUInt32.toUInt16.toUInt32.toInt32)))) (fun h => by rw [Bd.returns] at h; cases h) (BodyLoose.notSynchronized Bd)
  refine ⟨_, _, pre0 _ ?_, hrun, hended, _, _, rfl, ?_, ⟨_, rfl⟩, hW, hsame.mono (by decide) (by decide)⟩
  · show Steps p.tables e below (s₁.setTop (mkF m 0 #[.val (.ref a1), .val (.int p2)] [])) _
    refine XS.iloadN X0.here hx rfl (hb hby d16_0) rfl ?_
    refine XS.aloadN X0.here hx rfl (hb hby d16_1) rfl rfl ?_
    refine X0.arraylength hx (by rw [e0]; exact Ar1.1) (State.isArrayOf_alike hZ.alike Ar1.2.1) (g := (mkF m 2 #[.val (.ref a1), .val (.int p2)] [(.ref a1), (.int p2)])) rfl rfl (hb hby d16_2) _ ?_
    rw [len_of Sz1 Nn1]
    refine st2 _ ?_
    refine XS.aloadN X2.here hx rfl (hb hby d16_6) rfl rfl ?_
    refine XS.iloadN X2.here hx rfl (hb hby d16_7) rfl ?_
    refine X2.baloadBytes hx (j := p2) (v := (.int (own_b (cs.getD i 0)))) (by rw [e2]; exact Ar3.1) (State.isArrayOf_alike hZ.alike Ar3.2.1) Ar3.2.2 hin4 hat4 (g := (mkF m 8 #[.val (.ref a1), .val (.int p2)] [(.int p2), (.ref a1)])) rfl rfl (hb hby d16_8) _ ?_
    refine XS.sipush X2.here hx rfl (hb hby d16_9) ?_
    refine XS.iand X2.here hx rfl (hb hby d16_12) rfl ?_
    refine XS.i2c X2.here hx rfl (hb hby d16_13) rfl ?_
    exact retN X2 hx (t := .char) Bd.returns (by simp) (hb hby d16_14) hr
  · show QrL1 Z a1 p2 k cs i gv h0 n0 _ T2.heap _
    exact ⟨_, own_nc _, rfl, N2, e2⟩
theorem d40_0 : decode jdk_52_method_6_code 0 = .ok (.aload_n 0, 1) := by decide +kernel
theorem d40_1 : decode jdk_52_method_6_code 1 = .ok (.arraylength, 1) := by decide +kernel
theorem d40_2 : decode jdk_52_method_6_code 2 = .ok (.iconst 1, 1) := by decide +kernel
theorem d40_3 : decode jdk_52_method_6_code 3 = .ok (.ishr, 1) := by decide +kernel
theorem d40_4 : decode jdk_52_method_6_code 4 = .ok (.ireturn, 1) := by decide +kernel
theorem pn_40 : plainName "java/lang/StringUTF16" = true := by first | (simp [plainName, overriddenIn]; done) | decide +kernel
theorem ef_rUl (m : MethodId) (a1 : Addr) : entryFrame m #[(.ref a1)] 1 = mkF m 0 #[.val (.ref a1)] [] := by first | (simp [entryFrame, mkF, argsToLocals, Value.category]; done) | rfl
def QrUl (Z : State) (a1 : Addr) (k : ClassId) (n : Nat) (vs : List Value) (h0 : Heap) (n0 : Nat) (v : Option Value) (h : Heap) (L : List Loc) : Prop := ∃ z : Int32, z = (Int32.ofNat n) ∧ v = some (.int z) ∧ Fr n0 L ∧ h = h0
set_option maxRecDepth 65536 in
set_option maxHeartbeats 40000000 in
theorem rUl (l : Launch) (Z : State) (a0 : Array Value) (hw : ∀ d ∈ tables_1, d.before a0 Z = true) (ws : List Jvm.Cond) (a1 : Addr) (k : ClassId) (n : Nat) (vs : List Value) (h0 : Heap) (n0 : Nat) (Z0 : n0 ≤ h0.size) (AV : Arv Z h0 a1 k .byte (Int32.ofNat (2 * n)) (vs) (.int (0 : Int32))) (hn : n < 8) :
    MetFree l (⟨"java/lang/StringUTF16", "length", "([B)I"⟩ : MethodName) (head1 (Jvm.Cond.code (⟨"java/lang/StringUTF16", "length", "([B)I"⟩ : MethodName) jdk_52_method_6_code 1 (some .int) :: ws) ({ frames := 0, cells := 0, slots := 0, locals := 0 } : Room)) (fun a U => a = #[(.ref a1)] ∧ Z.Warmed39 U.vm ∧ U.heap = h0) (fun _ _ _ _ _ => True) (fun _ U o U' => ∃ v L, o = .returned v ∧ QrUl Z a1 k n vs h0 n0 v U'.heap L ∧ FrameEnd U o U' L ({ frames := 0, cells := 0, slots := 0, locals := 0 } : Room).cells ({ frames := 0, cells := 0, slots := 0, locals := 0 } : Room).slots) := by
  refine MetFree.of_bodySF (plainFor_of_name pn_40) hisR ?_
  intro p e s m args below meth c s₁ Bd hml0 hP hK
  obtain ⟨rfl, hZ, hh⟩ := hP
  have hx := Bd.exec
  have hby := Bd.bytes
  have hml : c.maxLocals = 1 := hml0
  have hown : s.vm.findClass "java/lang/StringUTF16" = some m.cls := findClass_of_methodNamed Bd.named
  have hnm := (name_of_methodNamed Bd.named Bd.method).1
  have X0 : Stand p l e ({ frames := 0, cells := 0, slots := 0, locals := 0 } : Room) s m #[(.ref a1)] below meth c s₁ [] 0 0 := Stand.of_body Bd
  have e0 : s₁.heap = h0 := by rw [← hh, Bd.state]; rfl
  have N0 := Fr.nil n0
  have pre0 : ∀ t, Steps p.tables e below (s₁.setTop (mkF m 0 #[.val (.ref a1)] [])) t → Steps p.tables e below (s₁.setTop (entryFrame m #[(.ref a1)] 1)) t := fun t k => castTop (ef_rUl m a1) k
  obtain ⟨cl1, Ar1, qk1, Sz1, Nn1, Hh1, Gg1⟩ := id (AV)
  obtain ⟨fs, hr, hrun, hended, hW, hsame⟩ := X0.leave (v := some (.int ((Int32.ofNat (2 * n)) >>> ((1 : Int32) &&& 31)))) (fun h => by rw [Bd.returns] at h; cases h) (BodyLoose.notSynchronized Bd)
  refine ⟨_, _, pre0 _ ?_, hrun, hended, _, _, rfl, ?_, ⟨_, rfl⟩, hW, hsame.mono (by decide) (by decide)⟩
  · show Steps p.tables e below (s₁.setTop (mkF m 0 #[.val (.ref a1)] [])) _
    refine XS.aloadN X0.here hx rfl (hb hby d40_0) rfl rfl ?_
    refine X0.arraylength hx (by rw [e0]; exact Ar1.1) (State.isArrayOf_alike hZ.alike Ar1.2.1) (g := (mkF m 1 #[.val (.ref a1)] [(.ref a1)])) rfl rfl (hb hby d40_1) _ ?_
    rw [len_of Sz1 Nn1]
    refine XS.iconst X0.here hx rfl (hb hby d40_2) ?_
    refine XS.ishr X0.here hx rfl (hb hby d40_3) rfl ?_
    exact retI X0 hx Bd.returns (hb hby d40_4) hr
  · show QrUl Z a1 k n vs h0 n0 _ s₁.heap _
    exact ⟨_, own_xhr hn, rfl, N0, e0⟩
theorem d37_0 : decode jdk_52_method_5_code 0 = .ok (.getstatic 44, 3) := by decide +kernel
theorem d37_3 : decode jdk_52_method_5_code 3 = .ok (.ifCond .ne 25, 3) := by decide +kernel
theorem d37_28 : decode jdk_52_method_5_code 28 = .ok (.iload_n 1, 1) := by decide +kernel
theorem d37_29 : decode jdk_52_method_5_code 29 = .ok (.iconst 1, 1) := by decide +kernel
theorem d37_30 : decode jdk_52_method_5_code 30 = .ok (.ishl, 1) := by decide +kernel
theorem d37_31 : decode jdk_52_method_5_code 31 = .ok (.istore_n 1, 1) := by decide +kernel
theorem d37_32 : decode jdk_52_method_5_code 32 = .ok (.aload_n 0, 1) := by decide +kernel
theorem d37_33 : decode jdk_52_method_5_code 33 = .ok (.iload_n 1, 1) := by decide +kernel
theorem d37_34 : decode jdk_52_method_5_code 34 = .ok (.iinc 1 1, 3) := by decide +kernel
theorem d37_37 : decode jdk_52_method_5_code 37 = .ok (.baload, 1) := by decide +kernel
theorem d37_38 : decode jdk_52_method_5_code 38 = .ok (.sipush 255, 3) := by decide +kernel
theorem d37_41 : decode jdk_52_method_5_code 41 = .ok (.iand, 1) := by decide +kernel
theorem d37_42 : decode jdk_52_method_5_code 42 = .ok (.getstatic 59, 3) := by decide +kernel
theorem d37_45 : decode jdk_52_method_5_code 45 = .ok (.ishl, 1) := by decide +kernel
theorem d37_46 : decode jdk_52_method_5_code 46 = .ok (.aload_n 0, 1) := by decide +kernel
theorem d37_47 : decode jdk_52_method_5_code 47 = .ok (.iload_n 1, 1) := by decide +kernel
theorem d37_48 : decode jdk_52_method_5_code 48 = .ok (.baload, 1) := by decide +kernel
theorem d37_49 : decode jdk_52_method_5_code 49 = .ok (.sipush 255, 3) := by decide +kernel
theorem d37_52 : decode jdk_52_method_5_code 52 = .ok (.iand, 1) := by decide +kernel
theorem d37_53 : decode jdk_52_method_5_code 53 = .ok (.getstatic 63, 3) := by decide +kernel
theorem d37_56 : decode jdk_52_method_5_code 56 = .ok (.ishl, 1) := by decide +kernel
theorem d37_57 : decode jdk_52_method_5_code 57 = .ok (.ior, 1) := by decide +kernel
theorem d37_58 : decode jdk_52_method_5_code 58 = .ok (.i2c, 1) := by decide +kernel
theorem d37_59 : decode jdk_52_method_5_code 59 = .ok (.ireturn, 1) := by decide +kernel
theorem pn_37 : plainName "java/lang/StringUTF16" = true := by first | (simp [plainName, overriddenIn]; done) | decide +kernel
theorem ef_rGc (m : MethodId) (a1 : Addr) (p2 : Int32) : entryFrame m #[(.ref a1), (.int p2)] 2 = mkF m 0 #[.val (.ref a1), .val (.int p2)] [] := by first | (simp [entryFrame, mkF, argsToLocals, Value.category]; done) | rfl
def QrGc (Z : State) (a1 : Addr) (p2 : Int32) (k : ClassId) (n : Nat) (vs : List Value) (i : Nat) (y0 : Int32) (y1 : Int32) (h0 : Heap) (n0 : Nat) (v : Option Value) (h : Heap) (L : List Loc) : Prop := ∃ z : Int32, z = (own_gc y0 y1) ∧ v = some (.int z) ∧ Fr n0 L ∧ h = h0
set_option maxRecDepth 65536 in
set_option maxHeartbeats 40000000 in
theorem rGc (l : Launch) (Z : State) (a0 : Array Value) (hw : ∀ d ∈ tables_1, d.before a0 Z = true) (ws : List Jvm.Cond) (a1 : Addr) (p2 : Int32) (k : ClassId) (n : Nat) (vs : List Value) (i : Nat) (y0 : Int32) (y1 : Int32) (h0 : Heap) (n0 : Nat) (Z0 : n0 ≤ h0.size) (X00 : Old Z n0 h0) (O_A : Sta Z Z.heap "java/lang/StringUTF16" "$assertionsDisabled" "Z" (.int (1 : Int32))) (O_H : Sta Z Z.heap "java/lang/StringUTF16" "HI_BYTE_SHIFT" "I" (.int (0 : Int32))) (O_W : Sta Z Z.heap "java/lang/StringUTF16" "LO_BYTE_SHIFT" "I" (.int (8 : Int32))) (AV : Arv Z h0 a1 k .byte (Int32.ofNat (2 * n)) (vs) (.int (0 : Int32))) (hp : p2 = Int32.ofNat i) (hi : i < n) (hn : n < 8) (h0v : vs.getD (2 * i) (.int (0 : Int32)) = .int y0) (h1v : vs.getD (2 * i + 1) (.int (0 : Int32)) = .int y1) :
    MetFree l (⟨"java/lang/StringUTF16", "getChar", "([BI)C"⟩ : MethodName) (head1 (Jvm.Cond.code (⟨"java/lang/StringUTF16", "getChar", "([BI)C"⟩ : MethodName) jdk_52_method_5_code 2 (some .char) :: ws) ({ frames := 0, cells := 0, slots := 0, locals := 0 } : Room)) (fun a U => a = #[(.ref a1), (.int p2)] ∧ Z.Warmed39 U.vm ∧ U.heap = h0) (fun _ _ _ _ _ => True) (fun _ U o U' => ∃ v L, o = .returned v ∧ QrGc Z a1 p2 k n vs i y0 y1 h0 n0 v U'.heap L ∧ FrameEnd U o U' L ({ frames := 0, cells := 0, slots := 0, locals := 0 } : Room).cells ({ frames := 0, cells := 0, slots := 0, locals := 0 } : Room).slots) := by
  refine MetFree.of_bodySF (plainFor_of_name pn_37) hisR ?_
  intro p e s m args below meth c s₁ Bd hml0 hP hK
  obtain ⟨rfl, hZ, hh⟩ := hP
  have hx := Bd.exec
  have hby := Bd.bytes
  have hml : c.maxLocals = 2 := hml0
  have hown : s.vm.findClass "java/lang/StringUTF16" = some m.cls := findClass_of_methodNamed Bd.named
  have hnm := (name_of_methodNamed Bd.named Bd.method).1
  have X0 : Stand p l e ({ frames := 0, cells := 0, slots := 0, locals := 0 } : Room) s m #[(.ref a1), (.int p2)] below meth c s₁ [] 0 0 := Stand.of_body Bd
  have e0 : s₁.heap = h0 := by rw [← hh, Bd.state]; rfl
  have N0 := Fr.nil n0
  have pre0 : ∀ t, Steps p.tables e below (s₁.setTop (mkF m 0 #[.val (.ref a1), .val (.int p2)] [])) t → Steps p.tables e below (s₁.setTop (entryFrame m #[(.ref a1), (.int p2)] 2)) t := fun t k => castTop (ef_rGc m a1 p2) k
  obtain ⟨T1, X1, e1, st1⟩ := getS2 X0 hx hZ hown (host := "") (Or.inl (hw _ (own_w 163 rfl))) Via.refl e0 (O_A.ext X00.2) (g := (mkF m 0 #[.val (.ref a1), .val (.int p2)] [])) rfl (hb hby d37_0)
  have hp2 : (p2 <<< ((1 : Int32) &&& 31)) = Int32.ofNat (2 * i) := by rw [hp]; exact own_xsh (by omega)
  obtain ⟨cl2, Ar2, qk2, Sz2, Nn2, Hh2, Gg2⟩ := id (AV)
  have hin3 : ¬ ((Int32.ofNat (2 * i)) < 0 ∨ cl2.slots.size ≤ ((Int32.ofNat (2 * i))).toNatClampNeg) := inb_of Sz2 ⟨own_x0 (by omega), (own_xlt (by omega) (by omega)).mpr (by omega)⟩
  have hat3 : cl2.slots[((Int32.ofNat (2 * i))).toNatClampNeg]? = some (.int y0) := Has.at Hh2 hin3 (by rw [own_xN (by omega)]; exact h0v)
  obtain ⟨T4, X4, e4, st4⟩ := getS2 X1 hx hZ hown (host := "") (Or.inl (hw _ (own_w 164 rfl))) Via.refl e1 (O_H.ext X00.2) (g := (mkF m 42 #[.val (.ref a1), .val (.int ((Int32.ofNat (2 * i)) + (1 : Int32)))] [(.int (y0 &&& (255 : Int32)))])) rfl (hb hby d37_42)
  have hp3 : ((Int32.ofNat (2 * i)) + (1 : Int32)) = Int32.ofNat (2 * i + 1) := own_xs (by omega)
  obtain ⟨cl5, Ar5, qk5, Sz5, Nn5, Hh5, Gg5⟩ := id (AV)
  have hin6 : ¬ ((Int32.ofNat (2 * i + 1)) < 0 ∨ cl5.slots.size ≤ ((Int32.ofNat (2 * i + 1))).toNatClampNeg) := inb_of Sz5 ⟨own_x0 (by omega), (own_xlt (by omega) (by omega)).mpr (by omega)⟩
  have hat6 : cl5.slots[((Int32.ofNat (2 * i + 1))).toNatClampNeg]? = some (.int y1) := Has.at Hh5 hin6 (by rw [own_xN (by omega)]; exact h1v)
  obtain ⟨T7, X7, e7, st7⟩ := getS2 X4 hx hZ hown (host := "") (Or.inl (hw _ (own_w 165 rfl))) Via.refl e4 (O_W.ext X00.2) (g := (mkF m 53 #[.val (.ref a1), .val (.int (Int32.ofNat (2 * i + 1)))] [(.int (y1 &&& (255 : Int32))), (.int ((y0 &&& (255 : Int32)) <<< ((0 : Int32) &&& 31)))])) rfl (hb hby d37_53)
  obtain ⟨fs, hr, hrun, hended, hW, hsame⟩ := X7.leave (v := some (.int (nar .char ((((y0 &&& (255 : Int32)) <<< ((0 : Int32) &&& 31)) ||| ((y1 &&& (255 : Int32)) <<< ((8 : Int32) &&& 31))).toUInt32.toUInt16.toUInt32.toInt32)))) (fun h => by rw [Bd.returns] at h; cases h) (BodyLoose.notSynchronized Bd)
  refine ⟨_, _, pre0 _ ?_, hrun, hended, _, _, rfl, ?_, ⟨_, rfl⟩, hW, hsame.mono (by decide) (by decide)⟩
  · show Steps p.tables e below (s₁.setTop (mkF m 0 #[.val (.ref a1), .val (.int p2)] [])) _
    refine st1 _ ?_
    refine XS.ifYes X1.here hx rfl (pc0 := 3) (pc' := 28) rfl (hb hby d37_3) rfl ((if0 _ _).trans (feq (by decide)).2) (by decide) (by decide) ?_
    refine XS.iloadN X1.here hx rfl (hb hby d37_28) rfl ?_
    refine XS.iconst X1.here hx rfl (hb hby d37_29) ?_
    refine XS.ishl X1.here hx rfl (hb hby d37_30) rfl ?_
    refine XS.istoreN X1.here hx rfl (hb hby d37_31) rfl (l' := #[.val (.ref a1), .val (.int (p2 <<< ((1 : Int32) &&& 31)))]) rfl ?_
    show Steps p.tables e below (T1.setTop (mkF m 32 #[.val (.ref a1), .val (.int (p2 <<< ((1 : Int32) &&& 31)))] [])) _
    rw [hp2]
    refine XS.aloadN X1.here hx rfl (hb hby d37_32) rfl rfl ?_
    refine XS.iloadN X1.here hx rfl (hb hby d37_33) rfl ?_
    refine XS.iinc X1.here hx rfl (hb hby d37_34) rfl (l' := #[.val (.ref a1), .val (.int ((Int32.ofNat (2 * i)) + (1 : Int32)))]) rfl ?_
    refine X1.baloadBytes hx (j := (Int32.ofNat (2 * i))) (v := (.int y0)) (by rw [e1]; exact Ar2.1) (State.isArrayOf_alike hZ.alike Ar2.2.1) Ar2.2.2 hin3 hat3 (g := (mkF m 37 #[.val (.ref a1), .val (.int ((Int32.ofNat (2 * i)) + (1 : Int32)))] [(.int (Int32.ofNat (2 * i))), (.ref a1)])) rfl rfl (hb hby d37_37) _ ?_
    refine XS.sipush X1.here hx rfl (hb hby d37_38) ?_
    refine XS.iand X1.here hx rfl (hb hby d37_41) rfl ?_
    refine st4 _ ?_
    refine XS.ishl X4.here hx rfl (hb hby d37_45) rfl ?_
    show Steps p.tables e below (T4.setTop (mkF m 46 #[.val (.ref a1), .val (.int ((Int32.ofNat (2 * i)) + (1 : Int32)))] [(.int ((y0 &&& (255 : Int32)) <<< ((0 : Int32) &&& 31)))])) _
    rw [hp3]
    refine XS.aloadN X4.here hx rfl (hb hby d37_46) rfl rfl ?_
    refine XS.iloadN X4.here hx rfl (hb hby d37_47) rfl ?_
    refine X4.baloadBytes hx (j := (Int32.ofNat (2 * i + 1))) (v := (.int y1)) (by rw [e4]; exact Ar5.1) (State.isArrayOf_alike hZ.alike Ar5.2.1) Ar5.2.2 hin6 hat6 (g := (mkF m 48 #[.val (.ref a1), .val (.int (Int32.ofNat (2 * i + 1)))] [(.int (Int32.ofNat (2 * i + 1))), (.ref a1), (.int ((y0 &&& (255 : Int32)) <<< ((0 : Int32) &&& 31)))])) rfl rfl (hb hby d37_48) _ ?_
    refine XS.sipush X4.here hx rfl (hb hby d37_49) ?_
    refine XS.iand X4.here hx rfl (hb hby d37_52) rfl ?_
    refine st7 _ ?_
    refine XS.ishl X7.here hx rfl (hb hby d37_56) rfl ?_
    refine XS.ior X7.here hx rfl (hb hby d37_57) rfl ?_
    refine XS.i2c X7.here hx rfl (hb hby d37_58) rfl ?_
    exact retN X7 hx (t := .char) Bd.returns (by simp) (hb hby d37_59) hr
  · show QrGc Z a1 p2 k n vs i y0 y1 h0 n0 _ T7.heap _
    exact ⟨_, own_nc _, rfl, N0, e7⟩
theorem pd_4 : parseMethodDescriptor "([B)I" = some ⟨[(.array .byte)], some .int⟩ := by decide +kernel
theorem d39_0 : decode jdk_52_method_91_code 0 = .ok (.iload_n 0, 1) := by decide +kernel
theorem d39_1 : decode jdk_52_method_91_code 1 = .ok (.aload_n 1, 1) := by decide +kernel
theorem d39_2 : decode jdk_52_method_91_code 2 = .ok (.invokestatic 48, 3) := by decide +kernel
theorem d39_5 : decode jdk_52_method_91_code 5 = .ok (.invokestatic 414, 3) := by decide +kernel
theorem d39_8 : decode jdk_52_method_91_code 8 = .ok (.return_, 1) := by decide +kernel
theorem pn_39 : plainName "java/lang/StringUTF16" = true := by first | (simp [plainName, overriddenIn]; done) | decide +kernel
theorem ef_rUi (m : MethodId) (p1 : Int32) (a2 : Addr) : entryFrame m #[(.int p1), (.ref a2)] 2 = mkF m 0 #[.val (.int p1), .val (.ref a2)] [] := by first | (simp [entryFrame, mkF, argsToLocals, Value.category]; done) | rfl
def QrUi (Z : State) (p1 : Int32) (a2 : Addr) (k : ClassId) (cs : List Int32) (i : Nat) (gv : Value) (h0 : Heap) (n0 : Nat) (v : Option Value) (h : Heap) (L : List Loc) : Prop := v = none ∧ Fr n0 L ∧ h = h0
set_option maxRecDepth 65536 in
set_option maxHeartbeats 40000000 in
theorem rUi (l : Launch) (Z : State) (a0 : Array Value) (hw : ∀ d ∈ tables_1, d.before a0 Z = true) (ws : List Jvm.Cond) (p1 : Int32) (a2 : Addr) (k : ClassId) (cs : List Int32) (i : Nat) (gv : Value) (h0 : Heap) (n0 : Nat) (Z0 : n0 ≤ h0.size) (X00 : Old Z n0 h0) (O_S : Sta Z Z.heap "jdk/internal/util/Preconditions" "SIOOBE_FORMATTER" "Ljava/util/function/BiFunction;" gv) (hgv : gv.isRef = true) (AV : Arv Z h0 a2 k .byte (Int32.ofNat (2 * cs.length)) (own_utf cs) (.int (0 : Int32))) (hp : p1 = Int32.ofNat i) (hi : i < cs.length) (hL : cs.length < 8) :
    MetFree l (⟨"java/lang/StringUTF16", "checkIndex", "(I[B)V"⟩ : MethodName) (head1 (Jvm.Cond.code (⟨"java/lang/StringUTF16", "checkIndex", "(I[B)V"⟩ : MethodName) jdk_52_method_91_code 2 none :: ws) ({ frames := 2, cells := 0, slots := 0, locals := 27 } : Room)) (fun a U => a = #[(.int p1), (.ref a2)] ∧ Z.Warmed39 U.vm ∧ U.heap = h0) (fun _ _ _ _ _ => True) (fun _ U o U' => ∃ v L, o = .returned v ∧ QrUi Z p1 a2 k cs i gv h0 n0 v U'.heap L ∧ FrameEnd U o U' L ({ frames := 2, cells := 0, slots := 0, locals := 27 } : Room).cells ({ frames := 2, cells := 0, slots := 0, locals := 27 } : Room).slots) := by
  refine MetFree.of_bodySF (plainFor_of_name pn_39) hisR ?_
  intro p e s m args below meth c s₁ Bd hml0 hP hK
  obtain ⟨rfl, hZ, hh⟩ := hP
  have hx := Bd.exec
  have hby := Bd.bytes
  have hml : c.maxLocals = 2 := hml0
  have hown : s.vm.findClass "java/lang/StringUTF16" = some m.cls := findClass_of_methodNamed Bd.named
  have hnm := (name_of_methodNamed Bd.named Bd.method).1
  have X0 : Stand p l e ({ frames := 2, cells := 0, slots := 0, locals := 27 } : Room) s m #[(.int p1), (.ref a2)] below meth c s₁ [] 0 0 := Stand.of_body Bd
  have e0 : s₁.heap = h0 := by rw [← hh, Bd.state]; rfl
  have N0 := Fr.nil n0
  have pre0 : ∀ t, Steps p.tables e below (s₁.setTop (mkF m 0 #[.val (.int p1), .val (.ref a2)] [])) t → Steps p.tables e below (s₁.setTop (entryFrame m #[(.int p1), (.ref a2)] 2)) t := fun t k => castTop (ef_rUi m p1 a2) k
  obtain ⟨_, _, ⟨T1, Lq1, kq1, nq1⟩, -, X1, ⟨Lc1, hQ1, lq1, yq1, zq1⟩, st1⟩ := Jvm.LawKit.callS X0 hx (y := (⟨"java/lang/StringUTF16", "length", "([B)I"⟩ : MethodName)) hown (mvT hZ (hw _ (own_w 175 rfl))) (mvT hZ (hw _ (own_w 176 rfl))) (mvT hZ (hw _ (own_w 56 rfl))) (mvT hZ (hw _ (own_w 177 rfl))) (by decide) (backOf (W := 1) (rUl l Z a0 hw [] a2 k (cs.length) (own_utf cs) h0 n0 Z0 AV hL) hZ (hw _ (own_w 177 rfl)) (hw _ (own_w 56 rfl)) (by decide) (by decide)) (g := (mkF m 2 #[.val (.int p1), .val (.ref a2)] [(.ref a2), (.int p1)])) rfl (by rw [hml]; rfl) (argsL := [(.ref a2)]) (rest := [(.int p1)]) (lenOf pd_4 rfl) rfl (by show 2 * 0 + _ ≤ _; exact Nat.le_of_eq rfl) (hb hby d39_2) (fun _ _ => ⟨rfl, e0, (by decide : 0 + 0 ≤ _), (by decide : 0 + 0 ≤ _)⟩)
  dsimp only [Pt.U, Pt.locs, Pt.cells, Pt.slots] at X1 lq1 yq1 zq1 st1 hQ1
  subst lq1 yq1 zq1
  obtain ⟨r1, hr1, rfl, N1q, e1⟩ := hQ1
  have N1 := Fr.app N0 N1q
  obtain ⟨_, _, ⟨T2, Lq2, kq2, nq2⟩, -, X2, ⟨Lc2, hQ2, lq2, yq2, zq2⟩, st2⟩ := Jvm.LawKit.callS X1 hx (y := (⟨"java/lang/String", "checkIndex", "(II)V"⟩ : MethodName)) hown (mvT hZ (hw _ (own_w 178 rfl))) (mvT hZ (hw _ (own_w 82 rfl))) (mvT hZ (hw _ (own_w 8 rfl))) (mvT hZ (hw _ (own_w 83 rfl))) (by decide) (backOf (W := 0) (rSi l Z a0 hw [] p1 r1 gv h0 n0 Z0 X00 O_S hgv (by rw [hp]; exact own_x0 (by omega)) (by rw [hp, hr1]; exact (own_xlt (by omega) (by omega)).mpr hi)) hZ (hw _ (own_w 83 rfl)) (hw _ (own_w 8 rfl)) (by decide) (by decide)) (g := (mkF m 5 #[.val (.int p1), .val (.ref a2)] [(.int r1), (.int p1)])) rfl (by rw [hml]; rfl) (argsL := [(.int p1), (.int r1)]) (rest := []) (lenOf pd_3 rfl) rfl (by show 2 * 0 + _ ≤ _; exact Nat.le_of_eq rfl) (hb hby d39_5) (fun _ _ => ⟨rfl, e1, (by decide : 0 + 0 ≤ _), (by decide : 0 + 0 ≤ _)⟩)
  dsimp only [Pt.U, Pt.locs, Pt.cells, Pt.slots] at X2 lq2 yq2 zq2 st2 hQ2
  subst lq2 yq2 zq2
  obtain ⟨rfl, N2q, e2⟩ := hQ2
  have N2 := Fr.app N1 N2q
  obtain ⟨fs, hr, hrun, hended, hW, hsame⟩ := X2.leave (v := none) (fun _ => rfl) (BodyLoose.notSynchronized Bd)
  refine ⟨_, _, pre0 _ ?_, hrun, hended, _, _, rfl, ?_, ⟨_, rfl⟩, hW, hsame.mono (by decide) (by decide)⟩
  · show Steps p.tables e below (s₁.setTop (mkF m 0 #[.val (.int p1), .val (.ref a2)] [])) _
    refine XS.iloadN X0.here hx rfl (hb hby d39_0) rfl ?_
    refine XS.aloadN X0.here hx rfl (hb hby d39_1) rfl rfl ?_
    refine st1 _ ?_
    refine st2 _ ?_
    exact X2.returnOut hx Bd.returns (hb hby d39_8) hr
  · show QrUi Z p1 a2 k cs i gv h0 n0 _ T2.heap _
    exact ⟨rfl, N2, e2⟩
theorem pd_5 : parseMethodDescriptor "(I[B)V" = some ⟨[.int, (.array .byte)], none⟩ := by decide +kernel
theorem pd_6 : parseMethodDescriptor "([BI)C" = some ⟨[(.array .byte), .int], some .char⟩ := by decide +kernel
theorem d38_0 : decode jdk_52_method_83_code 0 = .ok (.iload_n 1, 1) := by decide +kernel
theorem d38_1 : decode jdk_52_method_83_code 1 = .ok (.aload_n 0, 1) := by decide +kernel
theorem d38_2 : decode jdk_52_method_83_code 2 = .ok (.invokestatic 67, 3) := by decide +kernel
theorem d38_5 : decode jdk_52_method_83_code 5 = .ok (.aload_n 0, 1) := by decide +kernel
theorem d38_6 : decode jdk_52_method_83_code 6 = .ok (.iload_n 1, 1) := by decide +kernel
theorem d38_7 : decode jdk_52_method_83_code 7 = .ok (.invokestatic 71, 3) := by decide +kernel
theorem d38_10 : decode jdk_52_method_83_code 10 = .ok (.ireturn, 1) := by decide +kernel
theorem pn_38 : plainName "java/lang/StringUTF16" = true := by first | (simp [plainName, overriddenIn]; done) | decide +kernel
theorem ef_rUc (m : MethodId) (a1 : Addr) (p2 : Int32) : entryFrame m #[(.ref a1), (.int p2)] 2 = mkF m 0 #[.val (.ref a1), .val (.int p2)] [] := by first | (simp [entryFrame, mkF, argsToLocals, Value.category]; done) | rfl
def QrUc (Z : State) (a1 : Addr) (p2 : Int32) (k : ClassId) (cs : List Int32) (i : Nat) (gv : Value) (h0 : Heap) (n0 : Nat) (v : Option Value) (h : Heap) (L : List Loc) : Prop := ∃ z : Int32, z = (cs.getD i 0) ∧ v = some (.int z) ∧ Fr n0 L ∧ h = h0
set_option maxRecDepth 65536 in
set_option maxHeartbeats 40000000 in
theorem rUc (l : Launch) (Z : State) (a0 : Array Value) (hw : ∀ d ∈ tables_1, d.before a0 Z = true) (ws : List Jvm.Cond) (a1 : Addr) (p2 : Int32) (k : ClassId) (cs : List Int32) (i : Nat) (gv : Value) (h0 : Heap) (n0 : Nat) (Z0 : n0 ≤ h0.size) (X00 : Old Z n0 h0) (O_S : Sta Z Z.heap "jdk/internal/util/Preconditions" "SIOOBE_FORMATTER" "Ljava/util/function/BiFunction;" gv) (hgv : gv.isRef = true) (O_A : Sta Z Z.heap "java/lang/StringUTF16" "$assertionsDisabled" "Z" (.int (1 : Int32))) (O_H : Sta Z Z.heap "java/lang/StringUTF16" "HI_BYTE_SHIFT" "I" (.int (0 : Int32))) (O_W : Sta Z Z.heap "java/lang/StringUTF16" "LO_BYTE_SHIFT" "I" (.int (8 : Int32))) (AV : Arv Z h0 a1 k .byte (Int32.ofNat (2 * cs.length)) (own_utf cs) (.int (0 : Int32))) (hp : p2 = Int32.ofNat i) (hi : i < cs.length) (hL : cs.length < 8) (hcs : ∀ c ∈ cs, own_ch c) :
    MetFree l (⟨"java/lang/StringUTF16", "charAt", "([BI)C"⟩ : MethodName) (head1 (Jvm.Cond.code (⟨"java/lang/StringUTF16", "charAt", "([BI)C"⟩ : MethodName) jdk_52_method_83_code 2 (some .char) :: ws) ({ frames := 3, cells := 0, slots := 0, locals := 40 } : Room)) (fun a U => a = #[(.ref a1), (.int p2)] ∧ Z.Warmed39 U.vm ∧ U.heap = h0) (fun _ _ _ _ _ => True) (fun _ U o U' => ∃ v L, o = .returned v ∧ QrUc Z a1 p2 k cs i gv h0 n0 v U'.heap L ∧ FrameEnd U o U' L ({ frames := 3, cells := 0, slots := 0, locals := 40 } : Room).cells ({ frames := 3, cells := 0, slots := 0, locals := 40 } : Room).slots) := by
  refine MetFree.of_bodySF (plainFor_of_name pn_38) hisR ?_
  intro p e s m args below meth c s₁ Bd hml0 hP hK
  obtain ⟨rfl, hZ, hh⟩ := hP
  have hx := Bd.exec
  have hby := Bd.bytes
  have hml : c.maxLocals = 2 := hml0
  have hown : s.vm.findClass "java/lang/StringUTF16" = some m.cls := findClass_of_methodNamed Bd.named
  have hnm := (name_of_methodNamed Bd.named Bd.method).1
  have X0 : Stand p l e ({ frames := 3, cells := 0, slots := 0, locals := 40 } : Room) s m #[(.ref a1), (.int p2)] below meth c s₁ [] 0 0 := Stand.of_body Bd
  have e0 : s₁.heap = h0 := by rw [← hh, Bd.state]; rfl
  have N0 := Fr.nil n0
  have pre0 : ∀ t, Steps p.tables e below (s₁.setTop (mkF m 0 #[.val (.ref a1), .val (.int p2)] [])) t → Steps p.tables e below (s₁.setTop (entryFrame m #[(.ref a1), (.int p2)] 2)) t := fun t k => castTop (ef_rUc m a1 p2) k
  obtain ⟨_, _, ⟨T1, Lq1, kq1, nq1⟩, -, X1, ⟨Lc1, hQ1, lq1, yq1, zq1⟩, st1⟩ := Jvm.LawKit.callS X0 hx (y := (⟨"java/lang/StringUTF16", "checkIndex", "(I[B)V"⟩ : MethodName)) hown (mvT hZ (hw _ (own_w 172 rfl))) (mvT hZ (hw _ (own_w 173 rfl))) (mvT hZ (hw _ (own_w 56 rfl))) (mvT hZ (hw _ (own_w 174 rfl))) (by decide) (backOf (W := 0) (rUi l Z a0 hw [] p2 a1 k cs i gv h0 n0 Z0 X00 O_S hgv AV hp hi hL) hZ (hw _ (own_w 174 rfl)) (hw _ (own_w 56 rfl)) (by decide) (by decide)) (g := (mkF m 2 #[.val (.ref a1), .val (.int p2)] [(.ref a1), (.int p2)])) rfl (by rw [hml]; rfl) (argsL := [(.int p2), (.ref a1)]) (rest := []) (lenOf pd_5 rfl) rfl (by show 2 * 0 + _ ≤ _; exact Nat.le_of_eq rfl) (hb hby d38_2) (fun _ _ => ⟨rfl, e0, (by decide : 0 + 0 ≤ _), (by decide : 0 + 0 ≤ _)⟩)
  dsimp only [Pt.U, Pt.locs, Pt.cells, Pt.slots] at X1 lq1 yq1 zq1 st1 hQ1
  subst lq1 yq1 zq1
  obtain ⟨rfl, N1q, e1⟩ := hQ1
  have N1 := Fr.app N0 N1q
  obtain ⟨_, _, ⟨T2, Lq2, kq2, nq2⟩, -, X2, ⟨Lc2, hQ2, lq2, yq2, zq2⟩, st2⟩ := Jvm.LawKit.callS X1 hx (y := (⟨"java/lang/StringUTF16", "getChar", "([BI)C"⟩ : MethodName)) hown (mvT hZ (hw _ (own_w 166 rfl))) (mvT hZ (hw _ (own_w 167 rfl))) (mvT hZ (hw _ (own_w 56 rfl))) (mvT hZ (hw _ (own_w 168 rfl))) (by decide) (backOf (W := 0) (rGc l Z a0 hw [] a1 p2 k (cs).length (own_utf (cs)) (i) _ _ h0 n0 Z0 X00 O_A O_H O_W AV hp hi hL (own_utf_at (cs) (i) _ hi).1 (own_utf_at (cs) (i) _ hi).2) hZ (hw _ (own_w 168 rfl)) (hw _ (own_w 56 rfl)) (by decide) (by decide)) (g := (mkF m 7 #[.val (.ref a1), .val (.int p2)] [(.int p2), (.ref a1)])) rfl (by rw [hml]; rfl) (argsL := [(.ref a1), (.int p2)]) (rest := []) (lenOf pd_6 rfl) rfl (by show 2 * 0 + _ ≤ _; exact Nat.le_of_eq rfl) (hb hby d38_7) (fun _ _ => ⟨rfl, e1, (by decide : 0 + 0 ≤ _), (by decide : 0 + 0 ≤ _)⟩)
  dsimp only [Pt.U, Pt.locs, Pt.cells, Pt.slots] at X2 lq2 yq2 zq2 st2 hQ2
  subst lq2 yq2 zq2
  obtain ⟨r2, hr2, rfl, N2q, e2⟩ := hQ2
  have N2 := Fr.app N1 N2q
  obtain ⟨fs, hr, hrun, hended, hW, hsame⟩ := X2.leave (v := some (.int (nar .char r2))) (fun h => by rw [Bd.returns] at h; cases h) (BodyLoose.notSynchronized Bd)
  refine ⟨_, _, pre0 _ ?_, hrun, hended, _, _, rfl, ?_, ⟨_, rfl⟩, hW, hsame.mono (by decide) (by decide)⟩
  · show Steps p.tables e below (s₁.setTop (mkF m 0 #[.val (.ref a1), .val (.int p2)] [])) _
    refine XS.iloadN X0.here hx rfl (hb hby d38_0) rfl ?_
    refine XS.aloadN X0.here hx rfl (hb hby d38_1) rfl rfl ?_
    refine st1 _ ?_
    refine XS.aloadN X1.here hx rfl (hb hby d38_5) rfl rfl ?_
    refine XS.iloadN X1.here hx rfl (hb hby d38_6) rfl ?_
    refine st2 _ ?_
    exact retN X2 hx (t := .char) Bd.returns (by simp) (hb hby d38_10) hr
  · show QrUc Z a1 p2 k cs i gv h0 n0 _ T2.heap _
    exact ⟨_, by rw [hr2, own_gc_eq (own_getCh hcs i), own_ncc (own_getCh hcs i)], rfl, N2, e2⟩
theorem pd_7 : parseMethodDescriptor "()Z" = some ⟨[], some .boolean⟩ := by decide +kernel
theorem d14_0 : decode jdk_42_method_56_code 0 = .ok (.aload_n 0, 1) := by decide +kernel
theorem d14_1 : decode jdk_42_method_56_code 1 = .ok (.invokevirtual 492, 3) := by decide +kernel
theorem d14_4 : decode jdk_42_method_56_code 4 = .ok (.ifCond .eq 12, 3) := by decide +kernel
theorem d14_7 : decode jdk_42_method_56_code 7 = .ok (.aload_n 0, 1) := by decide +kernel
theorem d14_8 : decode jdk_42_method_56_code 8 = .ok (.getfield 9, 3) := by decide +kernel
theorem d14_11 : decode jdk_42_method_56_code 11 = .ok (.iload_n 1, 1) := by decide +kernel
theorem d14_12 : decode jdk_42_method_56_code 12 = .ok (.invokestatic 495, 3) := by decide +kernel
theorem d14_15 : decode jdk_42_method_56_code 15 = .ok (.ireturn, 1) := by decide +kernel
theorem d14_16 : decode jdk_42_method_56_code 16 = .ok (.aload_n 0, 1) := by decide +kernel
theorem d14_17 : decode jdk_42_method_56_code 17 = .ok (.getfield 9, 3) := by decide +kernel
theorem d14_20 : decode jdk_42_method_56_code 20 = .ok (.iload_n 1, 1) := by decide +kernel
theorem d14_21 : decode jdk_42_method_56_code 21 = .ok (.invokestatic 498, 3) := by decide +kernel
theorem d14_24 : decode jdk_42_method_56_code 24 = .ok (.ireturn, 1) := by decide +kernel
theorem pn_14 : plainName "java/lang/String" = true := by first | (simp [plainName, overriddenIn]; done) | decide +kernel
theorem ef_rCh (m : MethodId) (a1 : Addr) (p2 : Int32) : entryFrame m #[(.ref a1), (.int p2)] 2 = mkF m 0 #[.val (.ref a1), .val (.int p2)] [] := by first | (simp [entryFrame, mkF, argsToLocals, Value.category]; done) | rfl
def QrCh (Z : State) (a1 : Addr) (p2 : Int32) (cs : List Int32) (i : Nat) (G1 : Int32) (gv : Value) (h0 : Heap) (n0 : Nat) (v : Option Value) (h : Heap) (L : List Loc) : Prop := ∃ z : Int32, z = (cs.getD i 0) ∧ v = some (.int z) ∧ Fr n0 L ∧ h = h0
set_option maxRecDepth 65536 in
set_option maxHeartbeats 40000000 in
theorem rCh (l : Launch) (Z : State) (a0 : Array Value) (hw : ∀ d ∈ tables_1, d.before a0 Z = true) (ws : List Jvm.Cond) (a1 : Addr) (p2 : Int32) (cs : List Int32) (i : Nat) (G1 : Int32) (gv : Value) (h0 : Heap) (n0 : Nat) (Z0 : n0 ≤ h0.size) (X00 : Old Z n0 h0) (O_S : Sta Z Z.heap "jdk/internal/util/Preconditions" "SIOOBE_FORMATTER" "Ljava/util/function/BiFunction;" gv) (hgv : gv.isRef = true) (O_2 : Sta Z Z.heap "java/lang/String" "COMPACT_STRINGS" "Z" (.int G1)) (P5 : ¬ (G1 = (0 : Int32))) (O_A : Sta Z Z.heap "java/lang/StringUTF16" "$assertionsDisabled" "Z" (.int (1 : Int32))) (O_H : Sta Z Z.heap "java/lang/StringUTF16" "HI_BYTE_SHIFT" "I" (.int (0 : Int32))) (O_W : Sta Z Z.heap "java/lang/StringUTF16" "LO_BYTE_SHIFT" "I" (.int (8 : Int32))) (T : own_S Z h0 a1 cs) (hp : p2 = Int32.ofNat i) (hi : i < cs.length) (hL : cs.length < 8) (hcs : ∀ c ∈ cs, own_ch c) :
    MetFree l (⟨"java/lang/String", "charAt", "(I)C"⟩ : MethodName) (head1 (Jvm.Cond.code (⟨"java/lang/String", "charAt", "(I)C"⟩ : MethodName) jdk_42_method_56_code 2 (some .char) :: ws) ({ frames := 4, cells := 0, slots := 0, locals := 53 } : Room)) (fun a U => a = #[(.ref a1), (.int p2)] ∧ Z.Warmed39 U.vm ∧ U.heap = h0) (fun _ _ _ _ _ => True) (fun _ U o U' => ∃ v L, o = .returned v ∧ QrCh Z a1 p2 cs i G1 gv h0 n0 v U'.heap L ∧ FrameEnd U o U' L ({ frames := 4, cells := 0, slots := 0, locals := 53 } : Room).cells ({ frames := 4, cells := 0, slots := 0, locals := 53 } : Room).slots) := by
  refine MetFree.of_bodySF (plainFor_of_name pn_14) hisR ?_
  intro p e s m args below meth c s₁ Bd hml0 hP hK
  obtain ⟨rfl, hZ, hh⟩ := hP
  have hx := Bd.exec
  have hby := Bd.bytes
  have hml : c.maxLocals = 2 := hml0
  have hown : s.vm.findClass "java/lang/String" = some m.cls := findClass_of_methodNamed Bd.named
  have hnm := (name_of_methodNamed Bd.named Bd.method).1
  have X0 : Stand p l e ({ frames := 4, cells := 0, slots := 0, locals := 53 } : Room) s m #[(.ref a1), (.int p2)] below meth c s₁ [] 0 0 := Stand.of_body Bd
  have e0 : s₁.heap = h0 := by rw [← hh, Bd.state]; rfl
  have N0 := Fr.nil n0
  have pre0 : ∀ t, Steps p.tables e below (s₁.setTop (mkF m 0 #[.val (.ref a1), .val (.int p2)] [])) t → Steps p.tables e below (s₁.setTop (entryFrame m #[(.ref a1), (.int p2)] 2)) t := fun t k => castTop (ef_rCh m a1 p2) k
  obtain ⟨vb, kb, E, FV, hcd⟩ := id T
  rcases hcd with ⟨FC, AV, hl⟩ | ⟨FC, AV⟩
  · skip
    obtain ⟨cq1, kz1, q1a, q1b, q1c⟩ := isOf hZ e0 E
    obtain ⟨_, _, ⟨T1, Lq1, kq1, nq1⟩, -, X1, ⟨Lc1, hQ1, lq1, yq1, zq1⟩, st1⟩ := X0.virtualBack hx (y := (⟨"java/lang/String", "isLatin1", "()Z"⟩ : MethodName)) (z := (⟨"java/lang/String", "isLatin1", "()Z"⟩ : MethodName)) hown (mvT hZ (hw _ (own_w 72 rfl))) (mvT hZ (hw _ (own_w 73 rfl))) (notFace_of_selects (args := #[]) (mvT hZ (hw _ (own_w 75 rfl)))) (mvT hZ (hw _ (own_w 75 rfl))) (mvT hZ (hw _ (own_w 74 rfl))) (by decide) (backOf (W := 0) (rIs0 l Z a0 hw [] a1 G1 h0 n0 Z0 X00 O_2 P5 FC) hZ (hw _ (own_w 76 rfl)) (hw _ (own_w 8 rfl)) (by decide) (by decide)) q1a q1c (g := (mkF m 1 #[.val (.ref a1), .val (.int p2)] [(.ref a1)])) rfl (by rw [hml]; rfl) (Steps.refl _) (argsL := []) (rest := []) (lenOf pd_7 rfl) rfl (by show 2 * 0 + _ ≤ _; exact Nat.le_of_eq rfl) (hb hby d14_1) (fun _ _ => ⟨rfl, e0, (by decide : 0 + 0 ≤ _), (by decide : 0 + 0 ≤ _)⟩)
    dsimp only [Pt.U, Pt.locs, Pt.cells, Pt.slots] at X1 lq1 yq1 zq1 st1 hQ1
    subst lq1 yq1 zq1
    obtain ⟨r1, hr1, rfl, N1q, e1⟩ := hQ1
    have N1 := Fr.app N0 N1q
    subst hr1
    obtain ⟨T2, X2, e2, st2⟩ := getF X1 hx hZ hown (host := "") (Or.inl (hw _ (own_w 25 rfl))) Via.refl e1 FV (g := (mkF m 8 #[.val (.ref a1), .val (.int p2)] [(.ref a1)])) rfl rfl (hb hby d14_8)
    obtain ⟨_, _, ⟨T3, Lq3, kq3, nq3⟩, -, X3, ⟨Lc3, hQ3, lq3, yq3, zq3⟩, st3⟩ := Jvm.LawKit.callS X2 hx (y := (⟨"java/lang/StringLatin1", "charAt", "([BI)C"⟩ : MethodName)) hown (mvT hZ (hw _ (own_w 77 rfl))) (mvT hZ (hw _ (own_w 78 rfl))) (mvT hZ (hw _ (own_w 79 rfl))) (mvT hZ (hw _ (own_w 80 rfl))) (by decide) (backOf (W := 0) (rL1 l Z a0 hw [] vb p2 kb cs i gv h0 n0 Z0 X00 O_S hgv AV hp hi hL) hZ (hw _ (own_w 80 rfl)) (hw _ (own_w 79 rfl)) (by decide) (by decide)) (g := (mkF m 12 #[.val (.ref a1), .val (.int p2)] [(.int p2), (.ref vb)])) rfl (by rw [hml]; rfl) (argsL := [(.ref vb), (.int p2)]) (rest := []) (lenOf pd_6 rfl) rfl (by show 2 * 0 + _ ≤ _; exact Nat.le_of_eq rfl) (hb hby d14_12) (fun _ _ => ⟨rfl, e2, (by decide : 0 + 0 ≤ _), (by decide : 0 + 0 ≤ _)⟩)
    dsimp only [Pt.U, Pt.locs, Pt.cells, Pt.slots] at X3 lq3 yq3 zq3 st3 hQ3
    subst lq3 yq3 zq3
    obtain ⟨r3, hr3, rfl, N3q, e3⟩ := hQ3
    have N3 := Fr.app N1 N3q
    obtain ⟨fs, hr, hrun, hended, hW, hsame⟩ := X3.leave (v := some (.int (nar .char r3))) (fun h => by rw [Bd.returns] at h; cases h) (BodyLoose.notSynchronized Bd)
    refine ⟨_, _, pre0 _ ?_, hrun, hended, _, _, rfl, ?_, ⟨_, rfl⟩, hW, hsame.mono (by decide) (by decide)⟩
    · show Steps p.tables e below (s₁.setTop (mkF m 0 #[.val (.ref a1), .val (.int p2)] [])) _
      refine XS.aloadN X0.here hx rfl (hb hby d14_0) rfl rfl ?_
      refine st1.trans ?_
      refine XS.ifNo X1.here hx rfl (hb hby d14_4) rfl ((if0 _ _).trans (feq (by decide)).1) ?_
      refine XS.aloadN X1.here hx rfl (hb hby d14_7) rfl rfl ?_
      refine st2 _ ?_
      refine XS.iloadN X2.here hx rfl (hb hby d14_11) rfl ?_
      refine st3 _ ?_
      exact retN X3 hx (t := .char) Bd.returns (by simp) (hb hby d14_15) hr
    · show QrCh Z a1 p2 cs i G1 gv h0 n0 _ T3.heap _
      have hc := own_g1_eq (own_getCh hcs i) (own_getLt hl hi)
      exact ⟨_, by rw [hr3, hc, own_ncc (own_getCh hcs i)], rfl, N3, e3⟩
  · skip
    obtain ⟨cq4, kz4, q4a, q4b, q4c⟩ := isOf hZ e0 E
    obtain ⟨_, _, ⟨T4, Lq4, kq4, nq4⟩, -, X4, ⟨Lc4, hQ4, lq4, yq4, zq4⟩, st4⟩ := X0.virtualBack hx (y := (⟨"java/lang/String", "isLatin1", "()Z"⟩ : MethodName)) (z := (⟨"java/lang/String", "isLatin1", "()Z"⟩ : MethodName)) hown (mvT hZ (hw _ (own_w 72 rfl))) (mvT hZ (hw _ (own_w 73 rfl))) (notFace_of_selects (args := #[]) (mvT hZ (hw _ (own_w 75 rfl)))) (mvT hZ (hw _ (own_w 75 rfl))) (mvT hZ (hw _ (own_w 74 rfl))) (by decide) (backOf (W := 0) (rIs1 l Z a0 hw [] a1 G1 h0 n0 Z0 X00 O_2 P5 FC) hZ (hw _ (own_w 76 rfl)) (hw _ (own_w 8 rfl)) (by decide) (by decide)) q4a q4c (g := (mkF m 1 #[.val (.ref a1), .val (.int p2)] [(.ref a1)])) rfl (by rw [hml]; rfl) (Steps.refl _) (argsL := []) (rest := []) (lenOf pd_7 rfl) rfl (by show 2 * 0 + _ ≤ _; exact Nat.le_of_eq rfl) (hb hby d14_1) (fun _ _ => ⟨rfl, e0, (by decide : 0 + 0 ≤ _), (by decide : 0 + 0 ≤ _)⟩)
    dsimp only [Pt.U, Pt.locs, Pt.cells, Pt.slots] at X4 lq4 yq4 zq4 st4 hQ4
    subst lq4 yq4 zq4
    obtain ⟨r4, hr4, rfl, N4q, e4⟩ := hQ4
    have N4 := Fr.app N0 N4q
    subst hr4
    obtain ⟨T5, X5, e5, st5⟩ := getF X4 hx hZ hown (host := "") (Or.inl (hw _ (own_w 25 rfl))) Via.refl e4 FV (g := (mkF m 17 #[.val (.ref a1), .val (.int p2)] [(.ref a1)])) rfl rfl (hb hby d14_17)
    obtain ⟨_, _, ⟨T6, Lq6, kq6, nq6⟩, -, X6, ⟨Lc6, hQ6, lq6, yq6, zq6⟩, st6⟩ := Jvm.LawKit.callS X5 hx (y := (⟨"java/lang/StringUTF16", "charAt", "([BI)C"⟩ : MethodName)) hown (mvT hZ (hw _ (own_w 169 rfl))) (mvT hZ (hw _ (own_w 170 rfl))) (mvT hZ (hw _ (own_w 56 rfl))) (mvT hZ (hw _ (own_w 171 rfl))) (by decide) (backOf (W := 0) (rUc l Z a0 hw [] vb p2 kb cs i gv h0 n0 Z0 X00 O_S hgv O_A O_H O_W AV hp hi hL hcs) hZ (hw _ (own_w 171 rfl)) (hw _ (own_w 56 rfl)) (by decide) (by decide)) (g := (mkF m 21 #[.val (.ref a1), .val (.int p2)] [(.int p2), (.ref vb)])) rfl (by rw [hml]; rfl) (argsL := [(.ref vb), (.int p2)]) (rest := []) (lenOf pd_6 rfl) rfl (by show 2 * 0 + _ ≤ _; exact Nat.le_of_eq rfl) (hb hby d14_21) (fun _ _ => ⟨rfl, e5, (by decide : 0 + 0 ≤ _), (by decide : 0 + 0 ≤ _)⟩)
    dsimp only [Pt.U, Pt.locs, Pt.cells, Pt.slots] at X6 lq6 yq6 zq6 st6 hQ6
    subst lq6 yq6 zq6
    obtain ⟨r6, hr6, rfl, N6q, e6⟩ := hQ6
    have N6 := Fr.app N4 N6q
    obtain ⟨fs, hr, hrun, hended, hW, hsame⟩ := X6.leave (v := some (.int (nar .char r6))) (fun h => by rw [Bd.returns] at h; cases h) (BodyLoose.notSynchronized Bd)
    refine ⟨_, _, pre0 _ ?_, hrun, hended, _, _, rfl, ?_, ⟨_, rfl⟩, hW, hsame.mono (by decide) (by decide)⟩
    · show Steps p.tables e below (s₁.setTop (mkF m 0 #[.val (.ref a1), .val (.int p2)] [])) _
      refine XS.aloadN X0.here hx rfl (hb hby d14_0) rfl rfl ?_
      refine st4.trans ?_
      refine XS.ifYes X4.here hx rfl (pc0 := 4) (pc' := 16) rfl (hb hby d14_4) rfl ((if0 _ _).trans (teq (by decide)).1) (by decide) (by decide) ?_
      refine XS.aloadN X4.here hx rfl (hb hby d14_16) rfl rfl ?_
      refine st5 _ ?_
      refine XS.iloadN X5.here hx rfl (hb hby d14_20) rfl ?_
      refine st6 _ ?_
      exact retN X6 hx (t := .char) Bd.returns (by simp) (hb hby d14_24) hr
    · show QrCh Z a1 p2 cs i G1 gv h0 n0 _ T6.heap _
      exact ⟨_, by rw [hr6, own_ncc (own_getCh hcs i)], rfl, N6, e6⟩
theorem d36_0 : decode jdk_52_method_4_code 0 = .ok (.getstatic 44, 3) := by decide +kernel
theorem d36_3 : decode jdk_52_method_4_code 3 = .ok (.ifCond .ne 25, 3) := by decide +kernel
theorem d36_28 : decode jdk_52_method_4_code 28 = .ok (.iload_n 1, 1) := by decide +kernel
theorem d36_29 : decode jdk_52_method_4_code 29 = .ok (.iconst 1, 1) := by decide +kernel
theorem d36_30 : decode jdk_52_method_4_code 30 = .ok (.ishl, 1) := by decide +kernel
theorem d36_31 : decode jdk_52_method_4_code 31 = .ok (.istore_n 1, 1) := by decide +kernel
theorem d36_32 : decode jdk_52_method_4_code 32 = .ok (.aload_n 0, 1) := by decide +kernel
theorem d36_33 : decode jdk_52_method_4_code 33 = .ok (.iload_n 1, 1) := by decide +kernel
theorem d36_34 : decode jdk_52_method_4_code 34 = .ok (.iinc 1 1, 3) := by decide +kernel
theorem d36_37 : decode jdk_52_method_4_code 37 = .ok (.iload_n 2, 1) := by decide +kernel
theorem d36_38 : decode jdk_52_method_4_code 38 = .ok (.getstatic 59, 3) := by decide +kernel
theorem d36_41 : decode jdk_52_method_4_code 41 = .ok (.ishr, 1) := by decide +kernel
theorem d36_42 : decode jdk_52_method_4_code 42 = .ok (.i2b, 1) := by decide +kernel
theorem d36_43 : decode jdk_52_method_4_code 43 = .ok (.bastore, 1) := by decide +kernel
theorem d36_44 : decode jdk_52_method_4_code 44 = .ok (.aload_n 0, 1) := by decide +kernel
theorem d36_45 : decode jdk_52_method_4_code 45 = .ok (.iload_n 1, 1) := by decide +kernel
theorem d36_46 : decode jdk_52_method_4_code 46 = .ok (.iload_n 2, 1) := by decide +kernel
theorem d36_47 : decode jdk_52_method_4_code 47 = .ok (.getstatic 63, 3) := by decide +kernel
theorem d36_50 : decode jdk_52_method_4_code 50 = .ok (.ishr, 1) := by decide +kernel
theorem d36_51 : decode jdk_52_method_4_code 51 = .ok (.i2b, 1) := by decide +kernel
theorem d36_52 : decode jdk_52_method_4_code 52 = .ok (.bastore, 1) := by decide +kernel
theorem d36_53 : decode jdk_52_method_4_code 53 = .ok (.return_, 1) := by decide +kernel
theorem pn_36 : plainName "java/lang/StringUTF16" = true := by first | (simp [plainName, overriddenIn]; done) | decide +kernel
theorem ef_rPc (m : MethodId) (a1 : Addr) (p2 : Int32) (p3 : Int32) : entryFrame m #[(.ref a1), (.int p2), (.int p3)] 3 = mkF m 0 #[.val (.ref a1), .val (.int p2), .val (.int p3)] [] := by first | (simp [entryFrame, mkF, argsToLocals, Value.category]; done) | rfl
def QrPc (Z : State) (a1 : Addr) (p2 : Int32) (p3 : Int32) (k : ClassId) (n : Nat) (vs : List Value) (i : Nat) (h0 : Heap) (n0 : Nat) (v : Option Value) (h : Heap) (L : List Loc) : Prop := v = none ∧ Fr n0 L ∧ Keep h0 h [a1] ∧ Arv Z h a1 k .byte (Int32.ofNat (2 * n)) ((vs.set (2 * i) (.int (own_lo p3))).set (2 * i + 1) (.int (own_hi p3))) (.int (0 : Int32))
set_option maxRecDepth 65536 in
set_option maxHeartbeats 40000000 in
theorem rPc (l : Launch) (Z : State) (a0 : Array Value) (hw : ∀ d ∈ tables_1, d.before a0 Z = true) (ws : List Jvm.Cond) (a1 : Addr) (p2 : Int32) (p3 : Int32) (k : ClassId) (n : Nat) (vs : List Value) (i : Nat) (h0 : Heap) (n0 : Nat) (Z0 : n0 ≤ h0.size) (X00 : Old Z n0 h0) (O_A : Sta Z Z.heap "java/lang/StringUTF16" "$assertionsDisabled" "Z" (.int (1 : Int32))) (O_H : Sta Z Z.heap "java/lang/StringUTF16" "HI_BYTE_SHIFT" "I" (.int (0 : Int32))) (O_W : Sta Z Z.heap "java/lang/StringUTF16" "LO_BYTE_SHIFT" "I" (.int (8 : Int32))) (AV : Arv Z h0 a1 k .byte (Int32.ofNat (2 * n)) (vs) (.int (0 : Int32))) (hp : p2 = Int32.ofNat i) (hi : i < n) (hn : n < 8) (hv : vs.length = 2 * n) (ga : n0 ≤ a1) :
    MetFree l (⟨"java/lang/StringUTF16", "putChar", "([BII)V"⟩ : MethodName) (head1 (Jvm.Cond.code (⟨"java/lang/StringUTF16", "putChar", "([BII)V"⟩ : MethodName) jdk_52_method_4_code 3 none :: ws) ({ frames := 0, cells := 0, slots := 0, locals := 0 } : Room)) (fun a U => a = #[(.ref a1), (.int p2), (.int p3)] ∧ Z.Warmed39 U.vm ∧ U.heap = h0) (fun _ _ _ _ _ => True) (fun _ U o U' => ∃ v L, o = .returned v ∧ QrPc Z a1 p2 p3 k n vs i h0 n0 v U'.heap L ∧ FrameEnd U o U' L ({ frames := 0, cells := 0, slots := 0, locals := 0 } : Room).cells ({ frames := 0, cells := 0, slots := 0, locals := 0 } : Room).slots) := by
  refine MetFree.of_bodySF (plainFor_of_name pn_36) hisR ?_
  intro p e s m args below meth c s₁ Bd hml0 hP hK
  obtain ⟨rfl, hZ, hh⟩ := hP
  have hx := Bd.exec
  have hby := Bd.bytes
  have hml : c.maxLocals = 3 := hml0
  have hown : s.vm.findClass "java/lang/StringUTF16" = some m.cls := findClass_of_methodNamed Bd.named
  have hnm := (name_of_methodNamed Bd.named Bd.method).1
  have X0 : Stand p l e ({ frames := 0, cells := 0, slots := 0, locals := 0 } : Room) s m #[(.ref a1), (.int p2), (.int p3)] below meth c s₁ [] 0 0 := Stand.of_body Bd
  have e0 : s₁.heap = h0 := by rw [← hh, Bd.state]; rfl
  have N0 := Fr.nil n0
  have pre0 : ∀ t, Steps p.tables e below (s₁.setTop (mkF m 0 #[.val (.ref a1), .val (.int p2), .val (.int p3)] [])) t → Steps p.tables e below (s₁.setTop (entryFrame m #[(.ref a1), (.int p2), (.int p3)] 3)) t := fun t k => castTop (ef_rPc m a1 p2 p3) k
  obtain ⟨T1, X1, e1, st1⟩ := getS2 X0 hx hZ hown (host := "") (Or.inl (hw _ (own_w 163 rfl))) Via.refl e0 (O_A.ext X00.2) (g := (mkF m 0 #[.val (.ref a1), .val (.int p2), .val (.int p3)] [])) rfl (hb hby d36_0)
  have hp2 : (p2 <<< ((1 : Int32) &&& 31)) = Int32.ofNat (2 * i) := by rw [hp]; exact own_xsh (by omega)
  obtain ⟨T2, X2, e2, st2⟩ := getS2 X1 hx hZ hown (host := "") (Or.inl (hw _ (own_w 164 rfl))) Via.refl e1 (O_H.ext X00.2) (g := (mkF m 38 #[.val (.ref a1), .val (.int ((Int32.ofNat (2 * i)) + (1 : Int32))), .val (.int p3)] [(.int p3), (.int (Int32.ofNat (2 * i))), (.ref a1)])) rfl (hb hby d36_38)
  obtain ⟨cl3, Ar3, qk3, Sz3, Nn3, Hh3, Gg3⟩ := id (AV)
  have hin4 : ¬ ((Int32.ofNat (2 * i)) < 0 ∨ cl3.slots.size ≤ ((Int32.ofNat (2 * i))).toNatClampNeg) := inb_of Sz3 ⟨own_x0 (by omega), (own_xlt (by omega) (by omega)).mpr (by omega)⟩
  obtain ⟨T4, h4, X4, e4, W4, st4⟩ := stB X2 hx hZ e2 Ar3 (j := (Int32.ofNat (2 * i))) hin4 (g := (mkF m 43 #[.val (.ref a1), .val (.int ((Int32.ofNat (2 * i)) + (1 : Int32))), .val (.int p3)] [(.int ((p3 >>> ((0 : Int32) &&& 31)).toInt8.toInt32)), (.int (Int32.ofNat (2 * i))), (.ref a1)])) rfl rfl (hb hby d36_43)
  have N4 := Fr.snoc X4 N0 ga
  have Z4 : n0 ≤ h4.size := by rw [W4.size]; exact Z0
  have K4 : Keep h0 h4 [a1] := (Keep.refl h0 [a1]).wr W4 (Or.inl (own_w 0 rfl))
  have V4 : Arv Z h4 a1 k .byte (Int32.ofNat (2 * n)) (vs.set (2 * i) (.int (own_lo p3))) (.int (0 : Int32)) := by
    have q := Arv.set Ar3 qk3 Sz3 Nn3 Hh3 Gg3 (fits_nar_byte _) W4 (2 * i) (own_xN (by omega)) (by rw [hv]; omega)
    rw [show (vs.set (2 * i) (.int (own_lo p3))) = _ from rfl]; exact q
  have hp3 : ((Int32.ofNat (2 * i)) + (1 : Int32)) = Int32.ofNat (2 * i + 1) := own_xs (by omega)
  have f5 := (X00.wr W4 ga)
  obtain ⟨T6, X6, e6, st6⟩ := getS2 X4 hx hZ hown (host := "") (Or.inl (hw _ (own_w 165 rfl))) Via.refl e4 (O_W.ext f5.2) (g := (mkF m 47 #[.val (.ref a1), .val (.int (Int32.ofNat (2 * i + 1))), .val (.int p3)] [(.int p3), (.int (Int32.ofNat (2 * i + 1))), (.ref a1)])) rfl (hb hby d36_47)
  obtain ⟨cl7, Ar7, qk7, Sz7, Nn7, Hh7, Gg7⟩ := id (V4)
  have hin8 : ¬ ((Int32.ofNat (2 * i + 1)) < 0 ∨ cl7.slots.size ≤ ((Int32.ofNat (2 * i + 1))).toNatClampNeg) := inb_of Sz7 ⟨own_x0 (by omega), (own_xlt (by omega) (by omega)).mpr (by omega)⟩
  obtain ⟨T8, h8, X8, e8, W8, st8⟩ := stB X6 hx hZ e6 Ar7 (j := (Int32.ofNat (2 * i + 1))) hin8 (g := (mkF m 52 #[.val (.ref a1), .val (.int (Int32.ofNat (2 * i + 1))), .val (.int p3)] [(.int ((p3 >>> ((8 : Int32) &&& 31)).toInt8.toInt32)), (.int (Int32.ofNat (2 * i + 1))), (.ref a1)])) rfl rfl (hb hby d36_52)
  have N8 := Fr.snoc X8 N4 ga
  have Z8 : n0 ≤ h8.size := by rw [W8.size]; exact Z4
  have K8 : Keep h0 h8 [a1] := K4.wr W8 (Or.inl (own_w 0 rfl))
  have V8 : Arv Z h8 a1 k .byte (Int32.ofNat (2 * n)) ((vs.set (2 * i) (.int (own_lo p3))).set (2 * i + 1) (.int (own_hi p3))) (.int (0 : Int32)) := by
    have q := Arv.set Ar7 qk7 Sz7 Nn7 Hh7 Gg7 (fits_nar_byte _) W8 (2 * i + 1) (own_xN (by omega)) (by rw [List.length_set, hv]; omega)
    rw [show ((vs.set (2 * i) (.int (own_lo p3))).set (2 * i + 1) (.int (own_hi p3))) = _ from rfl]; exact q
  obtain ⟨fs, hr, hrun, hended, hW, hsame⟩ := X8.leave (v := none) (fun _ => rfl) (BodyLoose.notSynchronized Bd)
  refine ⟨_, _, pre0 _ ?_, hrun, hended, _, _, rfl, ?_, ⟨_, rfl⟩, hW, hsame.mono (by decide) (by decide)⟩
  · show Steps p.tables e below (s₁.setTop (mkF m 0 #[.val (.ref a1), .val (.int p2), .val (.int p3)] [])) _
    refine st1 _ ?_
    refine XS.ifYes X1.here hx rfl (pc0 := 3) (pc' := 28) rfl (hb hby d36_3) rfl ((if0 _ _).trans (feq (by decide)).2) (by decide) (by decide) ?_
    refine XS.iloadN X1.here hx rfl (hb hby d36_28) rfl ?_
    refine XS.iconst X1.here hx rfl (hb hby d36_29) ?_
    refine XS.ishl X1.here hx rfl (hb hby d36_30) rfl ?_
    refine XS.istoreN X1.here hx rfl (hb hby d36_31) rfl (l' := #[.val (.ref a1), .val (.int (p2 <<< ((1 : Int32) &&& 31))), .val (.int p3)]) rfl ?_
    show Steps p.tables e below (T1.setTop (mkF m 32 #[.val (.ref a1), .val (.int (p2 <<< ((1 : Int32) &&& 31))), .val (.int p3)] [])) _
    rw [hp2]
    refine XS.aloadN X1.here hx rfl (hb hby d36_32) rfl rfl ?_
    refine XS.iloadN X1.here hx rfl (hb hby d36_33) rfl ?_
    refine XS.iinc X1.here hx rfl (hb hby d36_34) rfl (l' := #[.val (.ref a1), .val (.int ((Int32.ofNat (2 * i)) + (1 : Int32))), .val (.int p3)]) rfl ?_
    refine XS.iloadN X1.here hx rfl (hb hby d36_37) rfl ?_
    refine st2 _ ?_
    refine XS.ishr X2.here hx rfl (hb hby d36_41) rfl ?_
    refine XS.i2b X2.here hx rfl (hb hby d36_42) rfl ?_
    refine st4 _ ?_
    show Steps p.tables e below (T4.setTop (mkF m 44 #[.val (.ref a1), .val (.int ((Int32.ofNat (2 * i)) + (1 : Int32))), .val (.int p3)] [])) _
    rw [hp3]
    refine XS.aloadN X4.here hx rfl (hb hby d36_44) rfl rfl ?_
    refine XS.iloadN X4.here hx rfl (hb hby d36_45) rfl ?_
    refine XS.iloadN X4.here hx rfl (hb hby d36_46) rfl ?_
    refine st6 _ ?_
    refine XS.ishr X6.here hx rfl (hb hby d36_50) rfl ?_
    refine XS.i2b X6.here hx rfl (hb hby d36_51) rfl ?_
    refine st8 _ ?_
    exact X8.returnOut hx Bd.returns (hb hby d36_53) hr
  · show QrPc Z a1 p2 p3 k n vs i h0 n0 _ T8.heap _
    rw [e8]
    exact ⟨rfl, N8, K8, V8⟩
theorem d35_0 : decode jdk_52_method_3_code 0 = .ok (.iload_n 0, 1) := by decide +kernel
theorem d35_1 : decode jdk_52_method_3_code 1 = .ok (.ifCond .ge 11, 3) := by decide +kernel
theorem d35_12 : decode jdk_52_method_3_code 12 = .ok (.iload_n 0, 1) := by decide +kernel
theorem d35_13 : decode jdk_52_method_3_code 13 = .ok (.ldc 20, 2) := by decide +kernel
theorem d35_15 : decode jdk_52_method_3_code 15 = .ok (.if_icmp .lt 40, 3) := by decide +kernel
theorem d35_55 : decode jdk_52_method_3_code 55 = .ok (.iload_n 0, 1) := by decide +kernel
theorem d35_56 : decode jdk_52_method_3_code 56 = .ok (.iconst 1, 1) := by decide +kernel
theorem d35_57 : decode jdk_52_method_3_code 57 = .ok (.ishl, 1) := by decide +kernel
theorem d35_58 : decode jdk_52_method_3_code 58 = .ok (.ireturn, 1) := by decide +kernel
theorem pn_35 : plainName "java/lang/StringUTF16" = true := by first | (simp [plainName, overriddenIn]; done) | decide +kernel
theorem ef_rNl (m : MethodId) (p1 : Int32) : entryFrame m #[(.int p1)] 1 = mkF m 0 #[.val (.int p1)] [] := by first | (simp [entryFrame, mkF, argsToLocals, Value.category]; done) | rfl
def QrNl (Z : State) (p1 : Int32) (n : Nat) (h0 : Heap) (n0 : Nat) (v : Option Value) (h : Heap) (L : List Loc) : Prop := ∃ z : Int32, z = (Int32.ofNat (2 * n)) ∧ v = some (.int z) ∧ Fr n0 L ∧ h = h0
set_option maxRecDepth 65536 in
set_option maxHeartbeats 40000000 in
theorem rNl (l : Launch) (Z : State) (a0 : Array Value) (hw : ∀ d ∈ tables_1, d.before a0 Z = true) (ws : List Jvm.Cond) (p1 : Int32) (n : Nat) (h0 : Heap) (n0 : Nat) (Z0 : n0 ≤ h0.size) (hp : p1 = Int32.ofNat n) (hn : n < 8) :
    MetFree l (⟨"java/lang/StringUTF16", "newBytesLength", "(I)I"⟩ : MethodName) (head1 (Jvm.Cond.code (⟨"java/lang/StringUTF16", "newBytesLength", "(I)I"⟩ : MethodName) jdk_52_method_3_code 1 (some .int) :: ws) ({ frames := 0, cells := 0, slots := 0, locals := 0 } : Room)) (fun a U => a = #[(.int p1)] ∧ Z.Warmed39 U.vm ∧ U.heap = h0) (fun _ _ _ _ _ => True) (fun _ U o U' => ∃ v L, o = .returned v ∧ QrNl Z p1 n h0 n0 v U'.heap L ∧ FrameEnd U o U' L ({ frames := 0, cells := 0, slots := 0, locals := 0 } : Room).cells ({ frames := 0, cells := 0, slots := 0, locals := 0 } : Room).slots) := by
  refine MetFree.of_bodySF (plainFor_of_name pn_35) hisR ?_
  intro p e s m args below meth c s₁ Bd hml0 hP hK
  obtain ⟨rfl, hZ, hh⟩ := hP
  have hx := Bd.exec
  have hby := Bd.bytes
  have hml : c.maxLocals = 1 := hml0
  have hown : s.vm.findClass "java/lang/StringUTF16" = some m.cls := findClass_of_methodNamed Bd.named
  have hnm := (name_of_methodNamed Bd.named Bd.method).1
  have X0 : Stand p l e ({ frames := 0, cells := 0, slots := 0, locals := 0 } : Room) s m #[(.int p1)] below meth c s₁ [] 0 0 := Stand.of_body Bd
  have e0 : s₁.heap = h0 := by rw [← hh, Bd.state]; rfl
  have N0 := Fr.nil n0
  have pre0 : ∀ t, Steps p.tables e below (s₁.setTop (mkF m 0 #[.val (.int p1)] [])) t → Steps p.tables e below (s₁.setTop (entryFrame m #[(.int p1)] 1)) t := fun t k => castTop (ef_rNl m p1) k
  obtain ⟨fs, hr, hrun, hended, hW, hsame⟩ := X0.leave (v := some (.int (p1 <<< ((1 : Int32) &&& 31)))) (fun h => by rw [Bd.returns] at h; cases h) (BodyLoose.notSynchronized Bd)
  refine ⟨_, _, pre0 _ ?_, hrun, hended, _, _, rfl, ?_, ⟨_, rfl⟩, hW, hsame.mono (by decide) (by decide)⟩
  · show Steps p.tables e below (s₁.setTop (mkF m 0 #[.val (.int p1)] [])) _
    refine XS.iloadN X0.here hx rfl (hb hby d35_0) rfl ?_
    refine XS.ifYes X0.here hx rfl (pc0 := 1) (pc' := 12) rfl (hb hby d35_1) rfl ((if0 _ _).trans (flt (by rw [hp]; exact own_x0 (by omega))).2.1) (by decide) (by decide) ?_
    refine XS.iloadN X0.here hx rfl (hb hby d35_12) rfl ?_
    refine X0.ldcInt hx hown (mvT hZ (hw _ (own_w 159 rfl))) (g := (mkF m 13 #[.val (.int p1)] [(.int p1)])) rfl (hb hby d35_13) _ ?_
    refine XS.icmpYes X0.here hx rfl (pc0 := 15) (pc' := 55) rfl (hb hby d35_15) rfl (tlt (by rw [hp]; exact own_xbig (by omega))).1 (by decide) (by decide) ?_
    refine XS.iloadN X0.here hx rfl (hb hby d35_55) rfl ?_
    refine XS.iconst X0.here hx rfl (hb hby d35_56) ?_
    refine XS.ishl X0.here hx rfl (hb hby d35_57) rfl ?_
    exact retI X0 hx Bd.returns (hb hby d35_58) hr
  · show QrNl Z p1 n h0 n0 _ s₁.heap _
    exact ⟨_, by rw [hp]; exact own_xsh hn, rfl, N0, e0⟩
theorem pd_8 : parseMethodDescriptor "(I)I" = some ⟨[.int], some .int⟩ := by decide +kernel
theorem d34_0 : decode jdk_52_method_2_code 0 = .ok (.iload_n 0, 1) := by decide +kernel
theorem d34_1 : decode jdk_52_method_2_code 1 = .ok (.invokestatic 11, 3) := by decide +kernel
theorem d34_4 : decode jdk_52_method_2_code 4 = .ok (.newarray .byte, 2) := by decide +kernel
theorem d34_6 : decode jdk_52_method_2_code 6 = .ok (.areturn, 1) := by decide +kernel
theorem pn_34 : plainName "java/lang/StringUTF16" = true := by first | (simp [plainName, overriddenIn]; done) | decide +kernel
theorem ef_rNf (m : MethodId) (p1 : Int32) : entryFrame m #[(.int p1)] 1 = mkF m 0 #[.val (.int p1)] [] := by first | (simp [entryFrame, mkF, argsToLocals, Value.category]; done) | rfl
def QrNf (Z : State) (p1 : Int32) (n : Nat) (h0 : Heap) (n0 : Nat) (v : Option Value) (h : Heap) (L : List Loc) : Prop := ∃ (o : Addr) (ok : ClassId), v = some (.ref o) ∧ Fr n0 L ∧ Keep h0 h [] ∧ n0 ≤ o ∧ h0.size ≤ o ∧ Arv Z h o ok .byte (Int32.ofNat (2 * n)) (List.replicate (2 * n) (.int (0 : Int32))) (.int (0 : Int32))
set_option maxRecDepth 65536 in
set_option maxHeartbeats 40000000 in
theorem rNf (l : Launch) (Z : State) (a0 : Array Value) (hw : ∀ d ∈ tables_1, d.before a0 Z = true) (ws : List Jvm.Cond) (p1 : Int32) (n : Nat) (h0 : Heap) (n0 : Nat) (Z0 : n0 ≤ h0.size) (hp : p1 = Int32.ofNat n) (hn : n < 8) :
    MetFree l (⟨"java/lang/StringUTF16", "newBytesFor", "(I)[B"⟩ : MethodName) (head1 (Jvm.Cond.code (⟨"java/lang/StringUTF16", "newBytesFor", "(I)[B"⟩ : MethodName) jdk_52_method_2_code 1 (some (.array .byte)) :: ws) ({ frames := 1, cells := 1, slots := 16, locals := 12 } : Room)) (fun a U => a = #[(.int p1)] ∧ Z.Warmed39 U.vm ∧ U.heap = h0) (fun _ _ _ _ _ => True) (fun _ U o U' => ∃ v L, o = .returned v ∧ QrNf Z p1 n h0 n0 v U'.heap L ∧ FrameEnd U o U' L ({ frames := 1, cells := 1, slots := 16, locals := 12 } : Room).cells ({ frames := 1, cells := 1, slots := 16, locals := 12 } : Room).slots) := by
  refine MetFree.of_bodySF (plainFor_of_name pn_34) hisR ?_
  intro p e s m args below meth c s₁ Bd hml0 hP hK
  obtain ⟨rfl, hZ, hh⟩ := hP
  have hx := Bd.exec
  have hby := Bd.bytes
  have hml : c.maxLocals = 1 := hml0
  have hown : s.vm.findClass "java/lang/StringUTF16" = some m.cls := findClass_of_methodNamed Bd.named
  have hnm := (name_of_methodNamed Bd.named Bd.method).1
  have X0 : Stand p l e ({ frames := 1, cells := 1, slots := 16, locals := 12 } : Room) s m #[(.int p1)] below meth c s₁ [] 0 0 := Stand.of_body Bd
  have e0 : s₁.heap = h0 := by rw [← hh, Bd.state]; rfl
  have N0 := Fr.nil n0
  have pre0 : ∀ t, Steps p.tables e below (s₁.setTop (mkF m 0 #[.val (.int p1)] [])) t → Steps p.tables e below (s₁.setTop (entryFrame m #[(.int p1)] 1)) t := fun t k => castTop (ef_rNf m p1) k
  obtain ⟨_, _, ⟨T1, Lq1, kq1, nq1⟩, -, X1, ⟨Lc1, hQ1, lq1, yq1, zq1⟩, st1⟩ := Jvm.LawKit.callS X0 hx (y := (⟨"java/lang/StringUTF16", "newBytesLength", "(I)I"⟩ : MethodName)) hown (mvT hZ (hw _ (own_w 156 rfl))) (mvT hZ (hw _ (own_w 157 rfl))) (mvT hZ (hw _ (own_w 56 rfl))) (mvT hZ (hw _ (own_w 158 rfl))) (by decide) (backOf (W := 0) (rNl l Z a0 hw [] p1 (n) h0 n0 Z0 hp hn) hZ (hw _ (own_w 158 rfl)) (hw _ (own_w 56 rfl)) (by decide) (by decide)) (g := (mkF m 1 #[.val (.int p1)] [(.int p1)])) rfl (by rw [hml]; rfl) (argsL := [(.int p1)]) (rest := []) (lenOf pd_8 rfl) rfl (by show 2 * 0 + _ ≤ _; exact Nat.le_of_eq rfl) (hb hby d34_1) (fun _ _ => ⟨rfl, e0, (by decide : 0 + 0 ≤ _), (by decide : 0 + 0 ≤ _)⟩)
  dsimp only [Pt.U, Pt.locs, Pt.cells, Pt.slots] at X1 lq1 yq1 zq1 st1 hQ1
  subst lq1 yq1 zq1
  obtain ⟨r1, hr1, rfl, N1q, e1⟩ := hQ1
  have N1 := Fr.app N0 N1q
  obtain ⟨T2, h2, ck2, X2, e2, E2, A2, st2⟩ := newP X1 hx hZ (hw _ (own_w 20 rfl)) e1 (g := (mkF m 4 #[.val (.int p1)] [(.int (Int32.ofNat (2 * n)))])) rfl (hb hby d34_4) rfl (own_x0 (by omega)) (cap := 16) (by rw [own_xN (by omega)]; omega) (by decide) (by decide) (by decide)
  obtain ⟨b2o, g2⟩ : ∃ z, z = h0.size := ⟨_, rfl⟩
  have b2 : n0 ≤ b2o := Nat.le_trans Z0 (Nat.le_of_eq g2.symm)
  have bk2 : h0.size ≤ b2o := Nat.le_trans (Keep.refl h0 []).1 (Nat.le_of_eq g2.symm)
  rw [← g2] at A2 st2
  have Z2 : n0 ≤ h2.size := Nat.le_trans Z0 E2.1
  have K2 : Keep h0 h2 [] := (Keep.refl h0 []).ext E2
  have V2 : Arv Z h2 b2o ck2 .byte (Int32.ofNat (2 * n)) (List.replicate (2 * n) (.int (0 : Int32))) (.int (0 : Int32)) := (Arv.new A2 (own_x0 (by omega))).pad (pad_rep [] (.int (0 : Int32)) (2 * n))
  obtain ⟨fs, hr, hrun, hended, hW, hsame⟩ := X2.leave (v := some (.ref b2o)) (fun h => by rw [Bd.returns] at h; cases h) (BodyLoose.notSynchronized Bd)
  refine ⟨_, _, pre0 _ ?_, hrun, hended, _, _, rfl, ?_, ⟨_, rfl⟩, hW, hsame.mono (by decide) (by decide)⟩
  · show Steps p.tables e below (s₁.setTop (mkF m 0 #[.val (.int p1)] [])) _
    refine XS.iloadN X0.here hx rfl (hb hby d34_0) rfl ?_
    refine st1 _ ?_
    show Steps p.tables e below (T1.setTop (mkF m 4 #[.val (.int p1)] [(.int r1)])) _
    rw [hr1]
    refine st2 _ ?_
    exact X2.areturnOut hx rfl Bd.returns rfl (hb hby d34_6) hr
  · show QrNf Z p1 n h0 n0 _ T2.heap _
    rw [e2]
    exact ⟨b2o, _, rfl, N1, K2, b2, bk2, V2⟩
theorem pd_9 : parseMethodDescriptor "([BII)V" = some ⟨[(.array .byte), .int, .int], none⟩ := by decide +kernel
theorem d33_8 : decode jdk_52_method_14_code 8 = .ok (.iload 4, 2) := by decide +kernel
theorem d33_10 : decode jdk_52_method_14_code 10 = .ok (.iload_n 2, 1) := by decide +kernel
theorem d33_11 : decode jdk_52_method_14_code 11 = .ok (.if_icmp .ge 21, 3) := by decide +kernel
theorem d33_14 : decode jdk_52_method_14_code 14 = .ok (.aload_n 3, 1) := by decide +kernel
theorem d33_15 : decode jdk_52_method_14_code 15 = .ok (.iload 4, 2) := by decide +kernel
theorem d33_17 : decode jdk_52_method_14_code 17 = .ok (.aload_n 0, 1) := by decide +kernel
theorem d33_18 : decode jdk_52_method_14_code 18 = .ok (.iload_n 1, 1) := by decide +kernel
theorem d33_19 : decode jdk_52_method_14_code 19 = .ok (.caload, 1) := by decide +kernel
theorem d33_20 : decode jdk_52_method_14_code 20 = .ok (.invokestatic 111, 3) := by decide +kernel
theorem d33_23 : decode jdk_52_method_14_code 23 = .ok (.iinc 1 1, 3) := by decide +kernel
theorem d33_26 : decode jdk_52_method_14_code 26 = .ok (.iinc 4 1, 3) := by decide +kernel
theorem d33_29 : decode jdk_52_method_14_code 29 = .ok (.goto (-21), 3) := by decide +kernel
set_option maxRecDepth 65536 in
set_option maxHeartbeats 40000000 in
theorem own_tb {p : Program} {l : Launch} {e : Env} {R : Room} {s : State} {m : MethodId} {args : Array Value} {below : List Frame} {meth : Method} {c : Code} {cells slots : Nat} {Z : State} {a0 : Array Value} {n0 : Nat} {cs : List Int32} {a1 dd : Addr} {ka kd : ClassId} (hRf : 4 ≤ R.frames) (hRl : 100 ≤ R.locals) (hRc : cells ≤ R.cells) (hRs : slots ≤ R.slots) (hx : p.tables.exec = Jvm.exec) (hZ : Z.Warmed39 s.vm) (hw : ∀ d ∈ tables_1, d.before a0 Z = true) (hby : c.code = jdk_52_method_14_code) (hml : c.maxLocals = 5) (hown : s.vm.findClass "java/lang/StringUTF16" = some m.cls) (hL : cs.length < 8) (O_A : Sta Z Z.heap "java/lang/StringUTF16" "$assertionsDisabled" "Z" (.int (1 : Int32))) (O_H : Sta Z Z.heap "java/lang/StringUTF16" "HI_BYTE_SHIFT" "I" (.int (0 : Int32))) (O_W : Sta Z Z.heap "java/lang/StringUTF16" "LO_BYTE_SHIFT" "I" (.int (8 : Int32))) (nad : a1 ≠ dd) (gd : n0 ≤ dd) (f : Nat) :
    ∀ (i : Nat), i + f = cs.length → ∀ (T0 : State) (h : Heap) (L0 : List Loc), Stand p l e R s m args below meth c T0 L0 cells slots → T0.heap = h → Fr n0 L0 → n0 ≤ h.size → Old Z n0 h → Arv Z h a1 ka .char (Int32.ofNat cs.length) (cs.map Value.int) (.int (0 : Int32)) → Arv Z h dd kd .byte (Int32.ofNat (2 * cs.length)) (own_mix2 (.int (0 : Int32)) cs i) (.int (0 : Int32)) →
    ∃ (T' : State) (h' : Heap) (L' : List Loc), Stand p l e R s m args below meth c T' L' cells slots ∧ T'.heap = h' ∧ Fr n0 L' ∧ n0 ≤ h'.size ∧ Keep h h' [dd] ∧ Arv Z h' dd kd .byte (Int32.ofNat (2 * cs.length)) (own_utf cs) (.int (0 : Int32)) ∧ ∀ target, Steps p.tables e below (T'.setTop (mkF m 32 #[.val (.ref a1), .val (.int (Int32.ofNat cs.length)), .val (.int (Int32.ofNat cs.length)), .val (.ref dd), .val (.int (Int32.ofNat cs.length))] [])) target → Steps p.tables e below (T0.setTop (mkF m 8 #[.val (.ref a1), .val (.int (Int32.ofNat i)), .val (.int (Int32.ofNat cs.length)), .val (.ref dd), .val (.int (Int32.ofNat i))] [])) target := by
  induction f with
  | zero =>
    intro i hin T0 h L0 X0 e0 N0 Z0 X00 AC AD
    have hie : cs.length = i := by omega
    refine ⟨T0, _, _, X0, e0, N0, Z0, Keep.refl _ _, by have q := AD; rw [← hie] at q; rw [← own_mix2E (.int (0 : Int32)) cs]; exact q, fun target kt => ?_⟩
    have kq : Steps p.tables e below (T0.setTop (mkF m 32 #[.val (.ref a1), .val (.int (Int32.ofNat i)), .val (.int (Int32.ofNat cs.length)), .val (.ref dd), .val (.int (Int32.ofNat i))] [])) target := by rw [← hie]; exact kt
    show Steps p.tables e below (T0.setTop (mkF m 8 #[.val (.ref a1), .val (.int (Int32.ofNat i)), .val (.int (Int32.ofNat cs.length)), .val (.ref dd), .val (.int (Int32.ofNat i))] [])) _
    refine XS.iload X0.here hx rfl (hb hby d33_8) rfl ?_
    refine XS.iloadN X0.here hx rfl (hb hby d33_10) rfl ?_
    refine XS.icmpYes X0.here hx rfl (pc0 := 11) (pc' := 32) rfl (hb hby d33_11) rfl (flt (by rw [hie]; exact fun w => absurd ((own_xlt (by omega) (by omega)).mp w) (Nat.lt_irrefl _))).2.1 (by decide) (by decide) ?_
    exact kq
  | succ f ih =>
    intro i hin T0 h L0 X0 e0 N0 Z0 X00 AC AD
    have hi : i < cs.length := by omega
    obtain ⟨cl1, Ar1, qk1, Sz1, Nn1, Hh1, Gg1⟩ := id (AC)
    have hin2 : ¬ ((Int32.ofNat i) < 0 ∨ cl1.slots.size ≤ ((Int32.ofNat i)).toNatClampNeg) := inb_of Sz1 ⟨own_x0 (by omega), (own_xlt (by omega) (by omega)).mpr hi⟩
    have hat2 : cl1.slots[((Int32.ofNat i)).toNatClampNeg]? = some (.int (cs.getD i 0)) := Has.at Hh1 hin2 (by rw [own_xN (by omega)]; exact own_chat hi)
    obtain ⟨_, _, ⟨T3, Lq3, kq3, nq3⟩, -, X3, ⟨Lc3, hQ3, lq3, yq3, zq3⟩, st3⟩ := Jvm.LawKit.callS X0 hx (y := (⟨"java/lang/StringUTF16", "putChar", "([BII)V"⟩ : MethodName)) hown (mvT hZ (hw _ (own_w 160 rfl))) (mvT hZ (hw _ (own_w 161 rfl))) (mvT hZ (hw _ (own_w 56 rfl))) (mvT hZ (hw _ (own_w 162 rfl))) (by decide) (backOf (W := 0) (rPc l Z a0 hw [] dd (Int32.ofNat i) (cs.getD i 0) kd cs.length (own_mix2 (.int (0 : Int32)) cs i) i h n0 Z0 X00 O_A O_H O_W AD rfl hi hL (own_mix2L _ cs i) gd) hZ (hw _ (own_w 162 rfl)) (hw _ (own_w 56 rfl)) (Nat.le_trans (by decide) hRf) (Nat.le_trans (by decide) hRl)) (g := (mkF m 20 #[.val (.ref a1), .val (.int (Int32.ofNat i)), .val (.int (Int32.ofNat cs.length)), .val (.ref dd), .val (.int (Int32.ofNat i))] [(.int (cs.getD i 0)), (.int (Int32.ofNat i)), (.ref dd)])) rfl (by rw [hml]; rfl) (argsL := [(.ref dd), (.int (Int32.ofNat i)), (.int (cs.getD i 0))]) (rest := []) (lenOf pd_9 rfl) rfl (by show 2 * 0 + _ ≤ _; exact Nat.le_of_eq rfl) (hb hby d33_20) (fun _ _ => ⟨rfl, e0, hRc, hRs⟩)
    dsimp only [Pt.U, Pt.locs, Pt.cells, Pt.slots] at X3 lq3 yq3 zq3 st3 hQ3
    subst lq3 yq3 zq3
    obtain ⟨rfl, N3q, KC3, V3⟩ := hQ3
    have N3 := Fr.app N0 N3q
    have Z3 : n0 ≤ T3.heap.size := Nat.le_trans Z0 KC3.1
    rw [own_mix2S _ cs i hi] at V3
    have f4 := (X00.keep KC3 (allS gd all0))
    have f5 := (AC.keep KC3 (ninS nad nin0))
    obtain ⟨T', h', L', X', e', N', Z', K', A', st'⟩ := ih (i + 1) (by omega) T3 _ _ X3 rfl N3 Z3 f4 f5 V3
    refine ⟨T', h', L', X', e', N', Z', KC3.trans K' (allS (Or.inl (own_w 0 rfl)) all0), A', fun target kt => ?_⟩
    have kq := st' target kt
    rw [← own_xs (show i < 16 by omega)] at kq
    refine XS.iload X0.here hx rfl (hb hby d33_8) rfl ?_
    refine XS.iloadN X0.here hx rfl (hb hby d33_10) rfl ?_
    refine XS.icmpNo X0.here hx rfl (hb hby d33_11) rfl (tlt ((own_xlt (by omega) (by omega)).mpr hi)).2.1 ?_
    refine XS.aloadN X0.here hx rfl (hb hby d33_14) rfl rfl ?_
    refine XS.iload X0.here hx rfl (hb hby d33_15) rfl ?_
    refine XS.aloadN X0.here hx rfl (hb hby d33_17) rfl rfl ?_
    refine XS.iloadN X0.here hx rfl (hb hby d33_18) rfl ?_
    refine X0.caload hx (j := (Int32.ofNat i)) (v := (.int (cs.getD i 0))) (by rw [e0]; exact Ar1.1) (State.isArrayOf_alike hZ.alike Ar1.2.1) Ar1.2.2 hin2 hat2 (g := (mkF m 19 #[.val (.ref a1), .val (.int (Int32.ofNat i)), .val (.int (Int32.ofNat cs.length)), .val (.ref dd), .val (.int (Int32.ofNat i))] [(.int (Int32.ofNat i)), (.ref a1), (.int (Int32.ofNat i)), (.ref dd)])) rfl rfl (hb hby d33_19) _ ?_
    refine st3 _ ?_
    refine XS.iinc X3.here hx rfl (hb hby d33_23) rfl (l' := #[.val (.ref a1), .val (.int ((Int32.ofNat i) + (1 : Int32))), .val (.int (Int32.ofNat cs.length)), .val (.ref dd), .val (.int (Int32.ofNat i))]) rfl ?_
    refine XS.iinc X3.here hx rfl (hb hby d33_26) rfl (l' := #[.val (.ref a1), .val (.int ((Int32.ofNat i) + (1 : Int32))), .val (.int (Int32.ofNat cs.length)), .val (.ref dd), .val (.int ((Int32.ofNat i) + (1 : Int32)))]) rfl ?_
    refine XS.goto X3.here hx rfl (pc0 := 29) (pc' := 8) rfl (hb hby d33_29) (by decide) (by decide) ?_
    exact kq
theorem pd_10 : parseMethodDescriptor "(I)[B" = some ⟨[.int], some (.array .byte)⟩ := by decide +kernel
theorem d33_0 : decode jdk_52_method_14_code 0 = .ok (.iload_n 2, 1) := by decide +kernel
theorem d33_1 : decode jdk_52_method_14_code 1 = .ok (.invokestatic 107, 3) := by decide +kernel
theorem d33_4 : decode jdk_52_method_14_code 4 = .ok (.astore_n 3, 1) := by decide +kernel
theorem d33_5 : decode jdk_52_method_14_code 5 = .ok (.iconst 0, 1) := by decide +kernel
theorem d33_6 : decode jdk_52_method_14_code 6 = .ok (.istore 4, 2) := by decide +kernel
theorem d33_32 : decode jdk_52_method_14_code 32 = .ok (.aload_n 3, 1) := by decide +kernel
theorem d33_33 : decode jdk_52_method_14_code 33 = .ok (.areturn, 1) := by decide +kernel
theorem pn_33 : plainName "java/lang/StringUTF16" = true := by first | (simp [plainName, overriddenIn]; done) | decide +kernel
theorem ef_rTb (m : MethodId) (a1 : Addr) (p3 : Int32) : entryFrame m #[(.ref a1), (.int (0 : Int32)), (.int p3)] 5 = mkF m 0 #[.val (.ref a1), .val (.int (0 : Int32)), .val (.int p3), .unset, .unset] [] := by first | (simp [entryFrame, mkF, argsToLocals, Value.category]; done) | rfl
def QrTb (Z : State) (a1 : Addr) (p3 : Int32) (cs : List Int32) (ka : ClassId) (h0 : Heap) (n0 : Nat) (v : Option Value) (h : Heap) (L : List Loc) : Prop := ∃ (o : Addr) (ok : ClassId), v = some (.ref o) ∧ Fr n0 L ∧ Keep h0 h [] ∧ n0 ≤ o ∧ h0.size ≤ o ∧ Arv Z h o ok .byte (Int32.ofNat (2 * cs.length)) (own_utf cs) (.int (0 : Int32))
set_option maxRecDepth 65536 in
set_option maxHeartbeats 40000000 in
theorem rTb (l : Launch) (Z : State) (a0 : Array Value) (hw : ∀ d ∈ tables_1, d.before a0 Z = true) (ws : List Jvm.Cond) (a1 : Addr) (p3 : Int32) (cs : List Int32) (ka : ClassId) (h0 : Heap) (n0 : Nat) (Z0 : n0 ≤ h0.size) (X00 : Old Z n0 h0) (O_A : Sta Z Z.heap "java/lang/StringUTF16" "$assertionsDisabled" "Z" (.int (1 : Int32))) (O_H : Sta Z Z.heap "java/lang/StringUTF16" "HI_BYTE_SHIFT" "I" (.int (0 : Int32))) (O_W : Sta Z Z.heap "java/lang/StringUTF16" "LO_BYTE_SHIFT" "I" (.int (8 : Int32))) (AC : Arv Z h0 a1 ka .char (Int32.ofNat cs.length) (cs.map Value.int) (.int (0 : Int32))) (hp : p3 = Int32.ofNat cs.length) (hL : cs.length < 8) :
    MetFree l (⟨"java/lang/StringUTF16", "toBytes", "([CII)[B"⟩ : MethodName) (head1 (Jvm.Cond.code (⟨"java/lang/StringUTF16", "toBytes", "([CII)[B"⟩ : MethodName) jdk_52_method_14_code 5 (some (.array .byte)) :: ws) ({ frames := 4, cells := 1, slots := 16, locals := 100 } : Room)) (fun a U => a = #[(.ref a1), (.int (0 : Int32)), (.int p3)] ∧ Z.Warmed39 U.vm ∧ U.heap = h0) (fun _ _ _ _ _ => True) (fun _ U o U' => ∃ v L, o = .returned v ∧ QrTb Z a1 p3 cs ka h0 n0 v U'.heap L ∧ FrameEnd U o U' L ({ frames := 4, cells := 1, slots := 16, locals := 100 } : Room).cells ({ frames := 4, cells := 1, slots := 16, locals := 100 } : Room).slots) := by
  refine MetFree.of_bodySF (plainFor_of_name pn_33) hisR ?_
  intro p e s m args below meth c s₁ Bd hml0 hP hK
  obtain ⟨rfl, hZ, hh⟩ := hP
  have hx := Bd.exec
  have hby := Bd.bytes
  have hml : c.maxLocals = 5 := hml0
  have hown : s.vm.findClass "java/lang/StringUTF16" = some m.cls := findClass_of_methodNamed Bd.named
  have hnm := (name_of_methodNamed Bd.named Bd.method).1
  have X0 : Stand p l e ({ frames := 4, cells := 1, slots := 16, locals := 100 } : Room) s m #[(.ref a1), (.int (0 : Int32)), (.int p3)] below meth c s₁ [] 0 0 := Stand.of_body Bd
  have e0 : s₁.heap = h0 := by rw [← hh, Bd.state]; rfl
  have N0 := Fr.nil n0
  have pre0 : ∀ t, Steps p.tables e below (s₁.setTop (mkF m 0 #[.val (.ref a1), .val (.int (0 : Int32)), .val (.int p3), .unset, .unset] [])) t → Steps p.tables e below (s₁.setTop (entryFrame m #[(.ref a1), (.int (0 : Int32)), (.int p3)] 5)) t := fun t k => castTop (ef_rTb m a1 p3) k
  obtain ⟨_, _, ⟨T1, Lq1, kq1, nq1⟩, -, X1, ⟨Lc1, hQ1, lq1, yq1, zq1⟩, st1⟩ := Jvm.LawKit.callS X0 hx (y := (⟨"java/lang/StringUTF16", "newBytesFor", "(I)[B"⟩ : MethodName)) hown (mvT hZ (hw _ (own_w 153 rfl))) (mvT hZ (hw _ (own_w 154 rfl))) (mvT hZ (hw _ (own_w 56 rfl))) (mvT hZ (hw _ (own_w 155 rfl))) (by decide) (backOf (W := 0) (rNf l Z a0 hw [] p3 cs.length h0 n0 Z0 hp hL) hZ (hw _ (own_w 155 rfl)) (hw _ (own_w 56 rfl)) (by decide) (by decide)) (g := (mkF m 1 #[.val (.ref a1), .val (.int (0 : Int32)), .val (.int p3), .unset, .unset] [(.int p3)])) rfl (by rw [hml]; rfl) (argsL := [(.int p3)]) (rest := []) (lenOf pd_10 rfl) rfl (by show 2 * 0 + _ ≤ _; exact Nat.le_of_eq rfl) (hb hby d33_1) (fun _ _ => ⟨rfl, e0, (by decide : 0 + 1 ≤ _), (by decide : 0 + 16 ≤ _)⟩)
  dsimp only [Pt.U, Pt.locs, Pt.cells, Pt.slots] at X1 lq1 yq1 zq1 st1 hQ1
  subst lq1 yq1 zq1
  obtain ⟨o1, ok1, rfl, N1q, KC1, go1, gk1, V1⟩ := hQ1
  have N1 := Fr.app N0 N1q
  have Z1 : n0 ≤ T1.heap.size := Nat.le_trans Z0 KC1.1
  have ne2 : a1 ≠ o1 := Nat.ne_of_lt (Nat.lt_of_lt_of_le AC.lt gk1)
  have K1 : Keep h0 T1.heap [] := (Keep.refl h0 []).trans KC1 all0
  have VM3 := V1
  rw [← own_mix20 (.int (0 : Int32)) cs] at VM3
  have f4 := (X00.keep KC1 all0)
  have f5 := (AC.keep KC1 nin0)
  obtain ⟨T3, h3, L3, X3, e3, N3, Z3, KT3, V3, st3⟩ := own_tb (by decide) (by decide) (by decide) (by decide) hx hZ hw hby hml hown hL O_A O_H O_W ne2 go1 cs.length 0 (by omega) _ _ _ X1 rfl N1 Z1 f4 f5 VM3
  have K3 : Keep h0 h3 [] := K1.trans KT3 (allS (Or.inr (Nat.le_trans (Keep.refl h0 []).1 gk1)) all0)
  obtain ⟨fs, hr, hrun, hended, hW, hsame⟩ := X3.leave (v := some (.ref o1)) (fun h => by rw [Bd.returns] at h; cases h) (BodyLoose.notSynchronized Bd)
  refine ⟨_, _, pre0 _ ?_, hrun, hended, _, _, rfl, ?_, ⟨_, rfl⟩, hW, hsame.mono (by decide) (by decide)⟩
  · show Steps p.tables e below (s₁.setTop (mkF m 0 #[.val (.ref a1), .val (.int (0 : Int32)), .val (.int p3), .unset, .unset] [])) _
    refine XS.iloadN X0.here hx rfl (hb hby d33_0) rfl ?_
    refine st1 _ ?_
    refine XS.astoreN X1.here hx rfl (hb hby d33_4) rfl rfl (l' := #[.val (.ref a1), .val (.int (0 : Int32)), .val (.int p3), .val (.ref o1), .unset]) rfl ?_
    refine XS.iconst X1.here hx rfl (hb hby d33_5) ?_
    refine XS.istore X1.here hx rfl (hb hby d33_6) rfl (l' := #[.val (.ref a1), .val (.int (0 : Int32)), .val (.int p3), .val (.ref o1), .val (.int (0 : Int32))]) rfl ?_
    show Steps p.tables e below (T1.setTop (mkF m 8 #[.val (.ref a1), .val (.int (0 : Int32)), .val (.int p3), .val (.ref o1), .val (.int (0 : Int32))] [])) _
    rw [hp]
    refine st3 _ ?_
    refine XS.aloadN X3.here hx rfl (hb hby d33_32) rfl rfl ?_
    exact X3.areturnOut hx rfl Bd.returns rfl (hb hby d33_33) hr
  · show QrTb Z a1 p3 cs ka h0 n0 _ T3.heap _
    rw [e3]
    exact ⟨o1, _, rfl, N3, K3, go1, (Nat.le_trans (Keep.refl h0 []).1 gk1), V3⟩
theorem own_255 (c : Int32) : (255 : Int32) < c ↔ ¬ c.toInt < 256 := by
  rw [Int32.lt_iff_toInt_lt, show (255 : Int32).toInt = 255 from rfl]; omega
theorem own_small {c : Int32} (h : ¬ (255 : Int32) < c) : c.toInt < 256 := Classical.not_not.mp fun q => h ((own_255 c).mpr q)
theorem own_smS {cs : List Int32} {i : Nat} (h : ∀ k, k < i → (cs.getD k 0).toInt < 256) (q : ¬ (255 : Int32) < cs.getD i 0) : ∀ k, k < i + 1 → (cs.getD k 0).toInt < 256 := fun k hk => by
  by_cases e : k = i
  · subst e; exact own_small q
  · exact h k (by omega)
theorem own_allGet {cs : List Int32} (h : ∀ k, k < cs.length → (cs.getD k 0).toInt < 256) : ∀ c ∈ cs, c.toInt < 256 := by
  intro c hc
  obtain ⟨k, hk, e⟩ := List.mem_iff_getElem.mp hc
  have q := h k hk
  rw [List.getD_eq_getElem?_getD, List.getElem?_eq_getElem hk] at q
  rw [← e]; exact q
def own_mf (c : Int32) : Value := .int (own_b c)
theorem own_mixLat (d : Value) (cs : List Int32) : own_mix own_mf d cs cs.length = own_lat cs := own_mixE own_mf d cs
theorem own_cf0 {n : Nat} (h : n < 8) : nar .byte (((Int32.ofNat n - Int32.ofNat n).toUInt32 >>> ((31 : Int32) &&& 31).toUInt32).toInt32.toInt8.toInt32) = 0 := (by decide +kernel : ∀ n, n < 8 → nar .byte (((Int32.ofNat n - Int32.ofNat n).toUInt32 >>> ((31 : Int32) &&& 31).toUInt32).toInt32.toInt8.toInt32) = 0) n h
theorem own_cf1 {n : Nat} (h : n < 8) (h0 : 0 < n) : nar .byte (((Int32.ofNat n - Int32.ofNat (2 * n)).toUInt32 >>> ((31 : Int32) &&& 31).toUInt32).toInt32.toInt8.toInt32) = 1 := (by decide +kernel : ∀ n, n < 8 → 0 < n → nar .byte (((Int32.ofNat n - Int32.ofNat (2 * n)).toUInt32 >>> ((31 : Int32) &&& 31).toUInt32).toInt32.toInt8.toInt32) = 1) n h h0
theorem own_nb0 : nar .byte (0 : Int32) = 0 := by decide +kernel
theorem own_nb1 : nar .byte (1 : Int32) = 1 := by decide +kernel
theorem own_xne {n : Nat} (h : n < 16) (h0 : 0 < n) : ¬ Int32.ofNat n = (0 : Int32) := fun e => absurd ((own_xeq h (by omega : 0 < 16)).mp e) (by omega)
theorem own_off {n b m : Nat} (hn : n < 8) (h : b + m ≤ n) : ¬ ((Int32.ofNat n ||| Int32.ofNat b) ||| Int32.ofNat m) < (0 : Int32) ∧ ¬ (Int32.ofNat n - Int32.ofNat b) < Int32.ofNat m :=
  (by decide +kernel : ∀ n, n < 8 → ∀ b, b < 8 → ∀ m, m < 8 → b + m ≤ n → ¬ ((Int32.ofNat n ||| Int32.ofNat b) ||| Int32.ofNat m) < (0 : Int32) ∧ ¬ (Int32.ofNat n - Int32.ofNat b) < Int32.ofNat m) n hn b (by omega) m (by omega) h
theorem own_xle {a b : Nat} (hb : b < 16) (h : a ≤ b) : ¬ Int32.ofNat b < Int32.ofNat a := fun q => absurd ((own_xlt hb (by omega)).mp q) (by omega)
theorem own_xsubw {f w : Nat} (h : f + w < 16) : Int32.ofNat (f + w) - Int32.ofNat f = Int32.ofNat w := by rw [own_xsub h (by omega)]; congr 1; omega
theorem own_xmin {a b : Nat} (hb : b < 16) (h : a ≤ b) : (if Int32.ofNat a < Int32.ofNat b then Int32.ofNat a else Int32.ofNat b) = Int32.ofNat a := by
  by_cases e : a = b
  · subst e; simp
  · rw [if_pos ((own_xlt (by omega) hb).mpr (by omega))]
theorem own_cpL {m : Nat} (hm : m < 16) (d : Value) (us : List Value) : (List.replicate m d).take (0 : Int32).toNatClampNeg ++ us ++ (List.replicate m d).drop ((0 : Int32).toNatClampNeg + (Int32.ofNat m).toNatClampNeg) = us := by
  rw [own_xN hm, show (0 : Int32).toNatClampNeg = 0 from by decide]; simp
-- a stretch of a text, by its first place
def own_sub (cs : List Int32) (b : Nat) (ct : List Int32) : Prop := b + ct.length ≤ cs.length ∧ own_cut cs b ct.length = ct
theorem own_subGet {cs ct : List Int32} {b i : Nat} (h : own_sub cs b ct) (hi : i < ct.length) : ct.getD i 0 = cs.getD (b + i) 0 := by
  have q := own_cutAt (cs := cs) (b := b) hi
  rw [h.2] at q; exact q
theorem own_subLat {cs ct : List Int32} {b : Nat} (h : own_sub cs b ct) (d : Value) : (List.range ct.length).map (fun i => (own_lat cs).getD (b + i) d) = own_lat ct := by
  have q := own_latR h.1 d
  rw [h.2] at q; exact q
theorem own_subUtf {cs ct : List Int32} {b : Nat} (h : own_sub cs b ct) (d : Value) : (List.range (2 * ct.length)).map (fun i => (own_utf cs).getD (2 * b + i) d) = own_utf ct := by
  have q := own_utfR h.1 d
  rw [h.2] at q; exact q
theorem own_subCh {cs ct : List Int32} {b : Nat} (h : own_sub cs b ct) (hc : ∀ c ∈ cs, own_ch c) : ∀ c ∈ ct, own_ch c := by
  have q := own_cutCh hc b ct.length
  rw [h.2] at q; exact q
theorem own_subLt {cs ct : List Int32} {b : Nat} (h : own_sub cs b ct) (hc : ∀ c ∈ cs, c.toInt < 256) : ∀ c ∈ ct, c.toInt < 256 := by
  intro c q
  rw [← h.2] at q
  exact hc c (List.mem_of_mem_drop (List.mem_of_mem_take q))
theorem own_subAll {cs ct : List Int32} {b : Nat} (h : own_sub cs b ct) (h0 : b = 0) (hn : b + ct.length = cs.length) : ct = cs := by
  have q := h.2
  subst h0
  have e : ct.length = cs.length := by omega
  rw [e] at q; simpa [own_cut] using q.symm
theorem own_gchar (x : Int32) : own_ch (nar .char x) := by
  have e : nar .char x = x.toUInt32.toUInt16.toUInt32.toInt32 := rfl
  rw [e]; have a := c_i2c x; unfold own_ch; omega
theorem own_Sexa {Z : State} {h : Heap} {sr : Addr} {cs : List Int32} (S : own_S Z h sr cs) : Exa Z h sr "java/lang/String" := by
  obtain ⟨_, _, a, _, _⟩ := S
  exact a
theorem own_nil : ∀ c ∈ ([] : List Int32), own_ch c := fun c hc => by cases hc
theorem own_cons {a : Int32} {l : List Int32} (h : own_ch a) (t : ∀ c ∈ l, own_ch c) : ∀ c ∈ a :: l, own_ch c := fun c hc => by
  rcases List.mem_cons.mp hc with rfl | q
  · exact h
  · exact t c q

theorem d11_3 : decode jdk_52_method_21_code 3 = .ok (.iload 5, 2) := by decide +kernel
theorem d11_5 : decode jdk_52_method_21_code 5 = .ok (.iload 4, 2) := by decide +kernel
theorem d11_7 : decode jdk_52_method_21_code 7 = .ok (.if_icmp .ge 37, 3) := by decide +kernel
theorem d11_10 : decode jdk_52_method_21_code 10 = .ok (.aload_n 0, 1) := by decide +kernel
theorem d11_11 : decode jdk_52_method_21_code 11 = .ok (.iload_n 1, 1) := by decide +kernel
theorem d11_12 : decode jdk_52_method_21_code 12 = .ok (.caload, 1) := by decide +kernel
theorem d11_13 : decode jdk_52_method_21_code 13 = .ok (.istore 6, 2) := by decide +kernel
theorem d11_15 : decode jdk_52_method_21_code 15 = .ok (.iload 6, 2) := by decide +kernel
theorem d11_17 : decode jdk_52_method_21_code 17 = .ok (.sipush 255, 3) := by decide +kernel
theorem d11_20 : decode jdk_52_method_21_code 20 = .ok (.if_icmp .le 6, 3) := by decide +kernel
theorem d11_26 : decode jdk_52_method_21_code 26 = .ok (.aload_n 2, 1) := by decide +kernel
theorem d11_27 : decode jdk_52_method_21_code 27 = .ok (.iload_n 3, 1) := by decide +kernel
theorem d11_28 : decode jdk_52_method_21_code 28 = .ok (.iload 6, 2) := by decide +kernel
theorem d11_30 : decode jdk_52_method_21_code 30 = .ok (.i2b, 1) := by decide +kernel
theorem d11_31 : decode jdk_52_method_21_code 31 = .ok (.bastore, 1) := by decide +kernel
theorem d11_32 : decode jdk_52_method_21_code 32 = .ok (.iinc 1 1, 3) := by decide +kernel
theorem d11_35 : decode jdk_52_method_21_code 35 = .ok (.iinc 3 1, 3) := by decide +kernel
theorem d11_38 : decode jdk_52_method_21_code 38 = .ok (.iinc 5 1, 3) := by decide +kernel
theorem d11_41 : decode jdk_52_method_21_code 41 = .ok (.goto (-38), 3) := by decide +kernel
set_option maxRecDepth 65536 in
set_option maxHeartbeats 40000000 in
theorem own_cl {p : Program} {l : Launch} {e : Env} {R : Room} {s : State} {m : MethodId} {args : Array Value} {below : List Frame} {meth : Method} {c : Code} {cells slots : Nat} {Z : State} {a0 : Array Value} {n0 : Nat} {cs : List Int32} {a1 dd : Addr} {ka kd : ClassId}  (hRf : 0 ≤ R.frames) (hRl : 0 ≤ R.locals) (hRc : cells ≤ R.cells) (hRs : slots ≤ R.slots) (hx : p.tables.exec = Jvm.exec) (hZ : Z.Warmed39 s.vm) (hw : ∀ d ∈ tables_1, d.before a0 Z = true) (hby : c.code = jdk_52_method_21_code) (hml : c.maxLocals = 7) (hown : s.vm.findClass "java/lang/StringUTF16" = some m.cls) (hL : cs.length < 8)  (nad : a1 ≠ dd) (gd : n0 ≤ dd) (f : Nat) :
    ∀ (i : Nat), i + f = cs.length → (∀ k, k < i → (cs.getD k 0).toInt < 256) → ∀ (x6 : Slot), (x6 = .unset ∨ ∃ z : Int32, x6 = .val (.int z)) → ∀ (T0 : State) (h0 : Heap) (L0 : List Loc), Stand p l e R s m args below meth c T0 L0 cells slots → T0.heap = h0 → Fr n0 L0 → n0 ≤ h0.size → Arv Z h0 a1 ka .char (Int32.ofNat cs.length) (cs.map Value.int) (.int (0 : Int32)) → Arv Z h0 dd kd .byte (Int32.ofNat cs.length) (own_mix own_mf (.int (0 : Int32)) cs i) (.int (0 : Int32)) →
    ∃ (T' : State) (h' : Heap) (L' : List Loc) (j pc : Nat) (y6 : Slot), Stand p l e R s m args below meth c T' L' cells slots ∧ T'.heap = h' ∧ Fr n0 L' ∧ n0 ≤ h'.size ∧ Keep h0 h' [dd] ∧ Arv Z h' dd kd .byte (Int32.ofNat cs.length) (own_mix own_mf (.int (0 : Int32)) cs j) (.int (0 : Int32)) ∧ ((j = cs.length ∧ pc = 44 ∧ ∀ c ∈ cs, c.toInt < 256) ∨ (j < cs.length ∧ pc = 23 ∧ ¬ (cs.getD j 0).toInt < 256)) ∧ ∀ target, Steps p.tables e below (T'.setTop (mkF m pc #[.val (.ref a1), .val (.int (Int32.ofNat j)), .val (.ref dd), .val (.int (Int32.ofNat j)), .val (.int (Int32.ofNat cs.length)), .val (.int (Int32.ofNat j)), y6] [])) target → Steps p.tables e below (T0.setTop (mkF m 3 #[.val (.ref a1), .val (.int (Int32.ofNat i)), .val (.ref dd), .val (.int (Int32.ofNat i)), .val (.int (Int32.ofNat cs.length)), .val (.int (Int32.ofNat i)), x6] [])) target := by
  induction f with
  | zero =>
    intro i hin hsm x6 hx6 T0 h0 L0 X0 e0 N0 Z0 AC AD
    have hie : cs.length = i := by omega
    refine ⟨T0, _, _, i, 44, (x6), X0, e0, N0, Z0, Keep.refl _ _, AD, Or.inl ⟨hie.symm, rfl, own_allGet (by rw [hie]; exact hsm)⟩, fun target kt => ?_⟩
    refine XS.iload X0.here hx rfl (hb hby d11_3) rfl ?_
    refine XS.iload X0.here hx rfl (hb hby d11_5) rfl ?_
    refine XS.icmpYes X0.here hx rfl (pc0 := 7) (pc' := 44) rfl (hb hby d11_7) rfl (flt (by rw [hie]; exact fun w => absurd ((own_xlt (by omega) (by omega)).mp w) (Nat.lt_irrefl _))).2.1 (by decide) (by decide) ?_
    exact kt
  | succ f ih =>
    intro i hin hsm x6 hx6 T0 h0 L0 X0 e0 N0 Z0 AC AD
    have hi : i < cs.length := by omega
    rcases hx6 with rfl | ⟨z6, rfl⟩
    · skip
      obtain ⟨cl1, Ar1, qk1, Sz1, Nn1, Hh1, Gg1⟩ := id (AC)
      have hin2 : ¬ ((Int32.ofNat i) < 0 ∨ cl1.slots.size ≤ ((Int32.ofNat i)).toNatClampNeg) := inb_of Sz1 ⟨own_x0 (by omega), (own_xlt (by omega) (by omega)).mpr hi⟩
      have hat2 : cl1.slots[((Int32.ofNat i)).toNatClampNeg]? = some (.int (cs.getD i 0)) := Has.at Hh1 hin2 (by rw [own_xN (by omega)]; exact own_chat hi)
      by_cases hc20 : (255 : Int32) < (cs.getD i 0)
      · refine ⟨T0, _, _, i, 23, (.val (.int (cs.getD i 0))), X0, e0, N0, Z0, Keep.refl _ _, AD, Or.inr ⟨hi, rfl, (own_255 _).mp hc20⟩, fun target kt => ?_⟩
        show Steps p.tables e below (T0.setTop (mkF m 3 #[.val (.ref a1), .val (.int (Int32.ofNat i)), .val (.ref dd), .val (.int (Int32.ofNat i)), .val (.int (Int32.ofNat cs.length)), .val (.int (Int32.ofNat i)), .unset] [])) _
        refine XS.iload X0.here hx rfl (hb hby d11_3) rfl ?_
        refine XS.iload X0.here hx rfl (hb hby d11_5) rfl ?_
        refine XS.icmpNo X0.here hx rfl (hb hby d11_7) rfl (tlt ((own_xlt (by omega) (by omega)).mpr hi)).2.1 ?_
        refine XS.aloadN X0.here hx rfl (hb hby d11_10) rfl rfl ?_
        refine XS.iloadN X0.here hx rfl (hb hby d11_11) rfl ?_
        refine X0.caload hx (j := (Int32.ofNat i)) (v := (.int (cs.getD i 0))) (by rw [e0]; exact Ar1.1) (State.isArrayOf_alike hZ.alike Ar1.2.1) Ar1.2.2 hin2 hat2 (g := (mkF m 12 #[.val (.ref a1), .val (.int (Int32.ofNat i)), .val (.ref dd), .val (.int (Int32.ofNat i)), .val (.int (Int32.ofNat cs.length)), .val (.int (Int32.ofNat i)), .unset] [(.int (Int32.ofNat i)), (.ref a1)])) rfl rfl (hb hby d11_12) _ ?_
        refine XS.istore X0.here hx rfl (hb hby d11_13) rfl (l' := #[.val (.ref a1), .val (.int (Int32.ofNat i)), .val (.ref dd), .val (.int (Int32.ofNat i)), .val (.int (Int32.ofNat cs.length)), .val (.int (Int32.ofNat i)), .val (.int (cs.getD i 0))]) rfl ?_
        refine XS.iload X0.here hx rfl (hb hby d11_15) rfl ?_
        refine XS.sipush X0.here hx rfl (hb hby d11_17) ?_
        refine XS.icmpNo X0.here hx rfl (hb hby d11_20) rfl (tlt hc20).2.2.2 ?_
        exact kt
      · obtain ⟨cl3, Ar3, qk3, Sz3, Nn3, Hh3, Gg3⟩ := id (AD)
        have hin4 : ¬ ((Int32.ofNat i) < 0 ∨ cl3.slots.size ≤ ((Int32.ofNat i)).toNatClampNeg) := inb_of Sz3 ⟨own_x0 (by omega), (own_xlt (by omega) (by omega)).mpr hi⟩
        obtain ⟨T4, h4, X4, e4, W4, st4⟩ := stB X0 hx hZ e0 Ar3 (j := (Int32.ofNat i)) hin4 (g := (mkF m 31 #[.val (.ref a1), .val (.int (Int32.ofNat i)), .val (.ref dd), .val (.int (Int32.ofNat i)), .val (.int (Int32.ofNat cs.length)), .val (.int (Int32.ofNat i)), .val (.int (cs.getD i 0))] [(.int ((cs.getD i 0).toInt8.toInt32)), (.int (Int32.ofNat i)), (.ref dd)])) rfl rfl (hb hby d11_31)
        have N4 := Fr.snoc X4 N0 gd
        have Z4 : n0 ≤ h4.size := by rw [W4.size]; exact Z0
        have K4 : Keep h0 h4 [dd] := (Keep.refl h0 [dd]).wr W4 (Or.inl (own_w 0 rfl))
        have V4 : Arv Z h4 dd kd .byte (Int32.ofNat cs.length) (own_mix own_mf (.int (0 : Int32)) cs (i + 1)) (.int (0 : Int32)) := by
          have q := Arv.set Ar3 qk3 Sz3 Nn3 Hh3 Gg3 (fits_nar_byte _) W4 (i) (own_xN (by omega)) (by rw [own_mixL]; exact hi)
          rw [← own_mixS own_mf (.int (0 : Int32)) cs i hi]; exact q
        have f5 := (AC.other W4 nad)
        obtain ⟨T', h', L', j', pc', y', X', e', N', Z', K', A', hj', st'⟩ := ih (i + 1) (by omega) (own_smS hsm hc20) (.val (.int (cs.getD i 0))) (Or.inr ⟨_, rfl⟩) T4 _ _ X4 e4 N4 Z4  f5 V4
        refine ⟨T', h', L', j', pc', y', X', e', N', Z', K4.trans K' (allS (Or.inl (own_w 0 rfl)) all0), A', hj', fun target kt => ?_⟩
        have kq := st' target kt
        rw [← own_xs (show i < 16 by omega)] at kq
        refine XS.iload X0.here hx rfl (hb hby d11_3) rfl ?_
        refine XS.iload X0.here hx rfl (hb hby d11_5) rfl ?_
        refine XS.icmpNo X0.here hx rfl (hb hby d11_7) rfl (tlt ((own_xlt (by omega) (by omega)).mpr hi)).2.1 ?_
        refine XS.aloadN X0.here hx rfl (hb hby d11_10) rfl rfl ?_
        refine XS.iloadN X0.here hx rfl (hb hby d11_11) rfl ?_
        refine X0.caload hx (j := (Int32.ofNat i)) (v := (.int (cs.getD i 0))) (by rw [e0]; exact Ar1.1) (State.isArrayOf_alike hZ.alike Ar1.2.1) Ar1.2.2 hin2 hat2 (g := (mkF m 12 #[.val (.ref a1), .val (.int (Int32.ofNat i)), .val (.ref dd), .val (.int (Int32.ofNat i)), .val (.int (Int32.ofNat cs.length)), .val (.int (Int32.ofNat i)), .unset] [(.int (Int32.ofNat i)), (.ref a1)])) rfl rfl (hb hby d11_12) _ ?_
        refine XS.istore X0.here hx rfl (hb hby d11_13) rfl (l' := #[.val (.ref a1), .val (.int (Int32.ofNat i)), .val (.ref dd), .val (.int (Int32.ofNat i)), .val (.int (Int32.ofNat cs.length)), .val (.int (Int32.ofNat i)), .val (.int (cs.getD i 0))]) rfl ?_
        refine XS.iload X0.here hx rfl (hb hby d11_15) rfl ?_
        refine XS.sipush X0.here hx rfl (hb hby d11_17) ?_
        refine XS.icmpYes X0.here hx rfl (pc0 := 20) (pc' := 26) rfl (hb hby d11_20) rfl (flt hc20).2.2.2 (by decide) (by decide) ?_
        refine XS.aloadN X0.here hx rfl (hb hby d11_26) rfl rfl ?_
        refine XS.iloadN X0.here hx rfl (hb hby d11_27) rfl ?_
        refine XS.iload X0.here hx rfl (hb hby d11_28) rfl ?_
        refine XS.i2b X0.here hx rfl (hb hby d11_30) rfl ?_
        refine st4 _ ?_
        refine XS.iinc X4.here hx rfl (hb hby d11_32) rfl (l' := #[.val (.ref a1), .val (.int ((Int32.ofNat i) + (1 : Int32))), .val (.ref dd), .val (.int (Int32.ofNat i)), .val (.int (Int32.ofNat cs.length)), .val (.int (Int32.ofNat i)), .val (.int (cs.getD i 0))]) rfl ?_
        refine XS.iinc X4.here hx rfl (hb hby d11_35) rfl (l' := #[.val (.ref a1), .val (.int ((Int32.ofNat i) + (1 : Int32))), .val (.ref dd), .val (.int ((Int32.ofNat i) + (1 : Int32))), .val (.int (Int32.ofNat cs.length)), .val (.int (Int32.ofNat i)), .val (.int (cs.getD i 0))]) rfl ?_
        refine XS.iinc X4.here hx rfl (hb hby d11_38) rfl (l' := #[.val (.ref a1), .val (.int ((Int32.ofNat i) + (1 : Int32))), .val (.ref dd), .val (.int ((Int32.ofNat i) + (1 : Int32))), .val (.int (Int32.ofNat cs.length)), .val (.int ((Int32.ofNat i) + (1 : Int32))), .val (.int (cs.getD i 0))]) rfl ?_
        refine XS.goto X4.here hx rfl (pc0 := 41) (pc' := 3) rfl (hb hby d11_41) (by decide) (by decide) ?_
        exact kq
    · skip
      obtain ⟨cl1, Ar1, qk1, Sz1, Nn1, Hh1, Gg1⟩ := id (AC)
      have hin2 : ¬ ((Int32.ofNat i) < 0 ∨ cl1.slots.size ≤ ((Int32.ofNat i)).toNatClampNeg) := inb_of Sz1 ⟨own_x0 (by omega), (own_xlt (by omega) (by omega)).mpr hi⟩
      have hat2 : cl1.slots[((Int32.ofNat i)).toNatClampNeg]? = some (.int (cs.getD i 0)) := Has.at Hh1 hin2 (by rw [own_xN (by omega)]; exact own_chat hi)
      by_cases hc20 : (255 : Int32) < (cs.getD i 0)
      · refine ⟨T0, _, _, i, 23, (.val (.int (cs.getD i 0))), X0, e0, N0, Z0, Keep.refl _ _, AD, Or.inr ⟨hi, rfl, (own_255 _).mp hc20⟩, fun target kt => ?_⟩
        show Steps p.tables e below (T0.setTop (mkF m 3 #[.val (.ref a1), .val (.int (Int32.ofNat i)), .val (.ref dd), .val (.int (Int32.ofNat i)), .val (.int (Int32.ofNat cs.length)), .val (.int (Int32.ofNat i)), .val (.int z6)] [])) _
        refine XS.iload X0.here hx rfl (hb hby d11_3) rfl ?_
        refine XS.iload X0.here hx rfl (hb hby d11_5) rfl ?_
        refine XS.icmpNo X0.here hx rfl (hb hby d11_7) rfl (tlt ((own_xlt (by omega) (by omega)).mpr hi)).2.1 ?_
        refine XS.aloadN X0.here hx rfl (hb hby d11_10) rfl rfl ?_
        refine XS.iloadN X0.here hx rfl (hb hby d11_11) rfl ?_
        refine X0.caload hx (j := (Int32.ofNat i)) (v := (.int (cs.getD i 0))) (by rw [e0]; exact Ar1.1) (State.isArrayOf_alike hZ.alike Ar1.2.1) Ar1.2.2 hin2 hat2 (g := (mkF m 12 #[.val (.ref a1), .val (.int (Int32.ofNat i)), .val (.ref dd), .val (.int (Int32.ofNat i)), .val (.int (Int32.ofNat cs.length)), .val (.int (Int32.ofNat i)), .val (.int z6)] [(.int (Int32.ofNat i)), (.ref a1)])) rfl rfl (hb hby d11_12) _ ?_
        refine XS.istore X0.here hx rfl (hb hby d11_13) rfl (l' := #[.val (.ref a1), .val (.int (Int32.ofNat i)), .val (.ref dd), .val (.int (Int32.ofNat i)), .val (.int (Int32.ofNat cs.length)), .val (.int (Int32.ofNat i)), .val (.int (cs.getD i 0))]) rfl ?_
        refine XS.iload X0.here hx rfl (hb hby d11_15) rfl ?_
        refine XS.sipush X0.here hx rfl (hb hby d11_17) ?_
        refine XS.icmpNo X0.here hx rfl (hb hby d11_20) rfl (tlt hc20).2.2.2 ?_
        exact kt
      · obtain ⟨cl3, Ar3, qk3, Sz3, Nn3, Hh3, Gg3⟩ := id (AD)
        have hin4 : ¬ ((Int32.ofNat i) < 0 ∨ cl3.slots.size ≤ ((Int32.ofNat i)).toNatClampNeg) := inb_of Sz3 ⟨own_x0 (by omega), (own_xlt (by omega) (by omega)).mpr hi⟩
        obtain ⟨T4, h4, X4, e4, W4, st4⟩ := stB X0 hx hZ e0 Ar3 (j := (Int32.ofNat i)) hin4 (g := (mkF m 31 #[.val (.ref a1), .val (.int (Int32.ofNat i)), .val (.ref dd), .val (.int (Int32.ofNat i)), .val (.int (Int32.ofNat cs.length)), .val (.int (Int32.ofNat i)), .val (.int (cs.getD i 0))] [(.int ((cs.getD i 0).toInt8.toInt32)), (.int (Int32.ofNat i)), (.ref dd)])) rfl rfl (hb hby d11_31)
        have N4 := Fr.snoc X4 N0 gd
        have Z4 : n0 ≤ h4.size := by rw [W4.size]; exact Z0
        have K4 : Keep h0 h4 [dd] := (Keep.refl h0 [dd]).wr W4 (Or.inl (own_w 0 rfl))
        have V4 : Arv Z h4 dd kd .byte (Int32.ofNat cs.length) (own_mix own_mf (.int (0 : Int32)) cs (i + 1)) (.int (0 : Int32)) := by
          have q := Arv.set Ar3 qk3 Sz3 Nn3 Hh3 Gg3 (fits_nar_byte _) W4 (i) (own_xN (by omega)) (by rw [own_mixL]; exact hi)
          rw [← own_mixS own_mf (.int (0 : Int32)) cs i hi]; exact q
        have f5 := (AC.other W4 nad)
        obtain ⟨T', h', L', j', pc', y', X', e', N', Z', K', A', hj', st'⟩ := ih (i + 1) (by omega) (own_smS hsm hc20) (.val (.int (cs.getD i 0))) (Or.inr ⟨_, rfl⟩) T4 _ _ X4 e4 N4 Z4  f5 V4
        refine ⟨T', h', L', j', pc', y', X', e', N', Z', K4.trans K' (allS (Or.inl (own_w 0 rfl)) all0), A', hj', fun target kt => ?_⟩
        have kq := st' target kt
        rw [← own_xs (show i < 16 by omega)] at kq
        refine XS.iload X0.here hx rfl (hb hby d11_3) rfl ?_
        refine XS.iload X0.here hx rfl (hb hby d11_5) rfl ?_
        refine XS.icmpNo X0.here hx rfl (hb hby d11_7) rfl (tlt ((own_xlt (by omega) (by omega)).mpr hi)).2.1 ?_
        refine XS.aloadN X0.here hx rfl (hb hby d11_10) rfl rfl ?_
        refine XS.iloadN X0.here hx rfl (hb hby d11_11) rfl ?_
        refine X0.caload hx (j := (Int32.ofNat i)) (v := (.int (cs.getD i 0))) (by rw [e0]; exact Ar1.1) (State.isArrayOf_alike hZ.alike Ar1.2.1) Ar1.2.2 hin2 hat2 (g := (mkF m 12 #[.val (.ref a1), .val (.int (Int32.ofNat i)), .val (.ref dd), .val (.int (Int32.ofNat i)), .val (.int (Int32.ofNat cs.length)), .val (.int (Int32.ofNat i)), .val (.int z6)] [(.int (Int32.ofNat i)), (.ref a1)])) rfl rfl (hb hby d11_12) _ ?_
        refine XS.istore X0.here hx rfl (hb hby d11_13) rfl (l' := #[.val (.ref a1), .val (.int (Int32.ofNat i)), .val (.ref dd), .val (.int (Int32.ofNat i)), .val (.int (Int32.ofNat cs.length)), .val (.int (Int32.ofNat i)), .val (.int (cs.getD i 0))]) rfl ?_
        refine XS.iload X0.here hx rfl (hb hby d11_15) rfl ?_
        refine XS.sipush X0.here hx rfl (hb hby d11_17) ?_
        refine XS.icmpYes X0.here hx rfl (pc0 := 20) (pc' := 26) rfl (hb hby d11_20) rfl (flt hc20).2.2.2 (by decide) (by decide) ?_
        refine XS.aloadN X0.here hx rfl (hb hby d11_26) rfl rfl ?_
        refine XS.iloadN X0.here hx rfl (hb hby d11_27) rfl ?_
        refine XS.iload X0.here hx rfl (hb hby d11_28) rfl ?_
        refine XS.i2b X0.here hx rfl (hb hby d11_30) rfl ?_
        refine st4 _ ?_
        refine XS.iinc X4.here hx rfl (hb hby d11_32) rfl (l' := #[.val (.ref a1), .val (.int ((Int32.ofNat i) + (1 : Int32))), .val (.ref dd), .val (.int (Int32.ofNat i)), .val (.int (Int32.ofNat cs.length)), .val (.int (Int32.ofNat i)), .val (.int (cs.getD i 0))]) rfl ?_
        refine XS.iinc X4.here hx rfl (hb hby d11_35) rfl (l' := #[.val (.ref a1), .val (.int ((Int32.ofNat i) + (1 : Int32))), .val (.ref dd), .val (.int ((Int32.ofNat i) + (1 : Int32))), .val (.int (Int32.ofNat cs.length)), .val (.int (Int32.ofNat i)), .val (.int (cs.getD i 0))]) rfl ?_
        refine XS.iinc X4.here hx rfl (hb hby d11_38) rfl (l' := #[.val (.ref a1), .val (.int ((Int32.ofNat i) + (1 : Int32))), .val (.ref dd), .val (.int ((Int32.ofNat i) + (1 : Int32))), .val (.int (Int32.ofNat cs.length)), .val (.int ((Int32.ofNat i) + (1 : Int32))), .val (.int (cs.getD i 0))]) rfl ?_
        refine XS.goto X4.here hx rfl (pc0 := 41) (pc' := 3) rfl (hb hby d11_41) (by decide) (by decide) ?_
        exact kq
theorem d11_0 : decode jdk_52_method_21_code 0 = .ok (.iconst 0, 1) := by decide +kernel
theorem d11_1 : decode jdk_52_method_21_code 1 = .ok (.istore 5, 2) := by decide +kernel
theorem d11_23 : decode jdk_52_method_21_code 23 = .ok (.iload 5, 2) := by decide +kernel
theorem d11_25 : decode jdk_52_method_21_code 25 = .ok (.ireturn, 1) := by decide +kernel
theorem d11_44 : decode jdk_52_method_21_code 44 = .ok (.iload 4, 2) := by decide +kernel
theorem d11_46 : decode jdk_52_method_21_code 46 = .ok (.ireturn, 1) := by decide +kernel
theorem pn_11 : plainName "java/lang/StringUTF16" = true := by first | (simp [plainName, overriddenIn]; done) | decide +kernel
theorem ef_rC1 (m : MethodId) (a1 : Addr) (a3 : Addr) (p5 : Int32) : entryFrame m #[(.ref a1), (.int (0 : Int32)), (.ref a3), (.int (0 : Int32)), (.int p5)] 7 = mkF m 0 #[.val (.ref a1), .val (.int (0 : Int32)), .val (.ref a3), .val (.int (0 : Int32)), .val (.int p5), .unset, .unset] [] := by first | (simp [entryFrame, mkF, argsToLocals, Value.category]; done) | rfl
def QrC1 (Z : State) (a1 : Addr) (a3 : Addr) (p5 : Int32) (cs : List Int32) (ka : ClassId) (kd : ClassId) (h0 : Heap) (n0 : Nat) (v : Option Value) (h : Heap) (L : List Loc) : Prop := ∃ j : Nat, v = some (.int (Int32.ofNat j)) ∧ Fr n0 L ∧ Keep h0 h [a3] ∧ Arv Z h a3 kd .byte (Int32.ofNat cs.length) (own_mix own_mf (.int (0 : Int32)) cs j) (.int (0 : Int32)) ∧ ((j = cs.length ∧ ∀ c ∈ cs, c.toInt < 256) ∨ (j < cs.length ∧ ¬ (cs.getD j 0).toInt < 256))
set_option maxRecDepth 65536 in
set_option maxHeartbeats 40000000 in
theorem rC1 (l : Launch) (Z : State) (a0 : Array Value) (hw : ∀ d ∈ tables_1, d.before a0 Z = true) (ws : List Jvm.Cond) (a1 : Addr) (a3 : Addr) (p5 : Int32) (cs : List Int32) (ka : ClassId) (kd : ClassId) (h0 : Heap) (n0 : Nat) (Z0 : n0 ≤ h0.size) (AC : Arv Z h0 a1 ka .char (Int32.ofNat cs.length) (cs.map Value.int) (.int (0 : Int32))) (AD : Arv Z h0 a3 kd .byte (Int32.ofNat cs.length) (List.replicate cs.length (.int (0 : Int32))) (.int (0 : Int32))) (hp : p5 = Int32.ofNat cs.length) (hL : cs.length < 8) (nad : a1 ≠ a3) (gd : n0 ≤ a3) :
    MetFree l (⟨"java/lang/StringUTF16", "compress", "([CI[BII)I"⟩ : MethodName) (head1 (Jvm.Cond.code (⟨"java/lang/StringUTF16", "compress", "([CI[BII)I"⟩ : MethodName) jdk_52_method_21_code 7 (some .int) :: ws) ({ frames := 0, cells := 0, slots := 0, locals := 0 } : Room)) (fun a U => a = #[(.ref a1), (.int (0 : Int32)), (.ref a3), (.int (0 : Int32)), (.int p5)] ∧ Z.Warmed39 U.vm ∧ U.heap = h0) (fun _ _ _ _ _ => True) (fun _ U o U' => ∃ v L, o = .returned v ∧ QrC1 Z a1 a3 p5 cs ka kd h0 n0 v U'.heap L ∧ FrameEnd U o U' L ({ frames := 0, cells := 0, slots := 0, locals := 0 } : Room).cells ({ frames := 0, cells := 0, slots := 0, locals := 0 } : Room).slots) := by
  refine MetFree.of_bodySF (plainFor_of_name pn_11) hisR ?_
  intro p e s m args below meth c s₁ Bd hml0 hP hK
  obtain ⟨rfl, hZ, hh⟩ := hP
  have hx := Bd.exec
  have hby := Bd.bytes
  have hml : c.maxLocals = 7 := hml0
  have hown : s.vm.findClass "java/lang/StringUTF16" = some m.cls := findClass_of_methodNamed Bd.named
  have hnm := (name_of_methodNamed Bd.named Bd.method).1
  have X0 : Stand p l e ({ frames := 0, cells := 0, slots := 0, locals := 0 } : Room) s m #[(.ref a1), (.int (0 : Int32)), (.ref a3), (.int (0 : Int32)), (.int p5)] below meth c s₁ [] 0 0 := Stand.of_body Bd
  have e0 : s₁.heap = h0 := by rw [← hh, Bd.state]; rfl
  have N0 := Fr.nil n0
  have pre0 : ∀ t, Steps p.tables e below (s₁.setTop (mkF m 0 #[.val (.ref a1), .val (.int (0 : Int32)), .val (.ref a3), .val (.int (0 : Int32)), .val (.int p5), .unset, .unset] [])) t → Steps p.tables e below (s₁.setTop (entryFrame m #[(.ref a1), (.int (0 : Int32)), (.ref a3), (.int (0 : Int32)), (.int p5)] 7)) t := fun t k => castTop (ef_rC1 m a1 a3 p5) k
  have VM1 := AD
  rw [← own_mix0 own_mf (.int (0 : Int32)) cs] at VM1
  obtain ⟨T1, h1, L1, j1, pc1, y1, X1, e1, N1, Z1, KT1, V1, hj1, st1⟩ := own_cl (by decide) (by decide) (by decide) (by decide) hx hZ hw hby hml hown hL  nad gd cs.length 0 (by omega) (fun k hk => absurd hk (Nat.not_lt_zero k)) .unset (Or.inl rfl) _ _ _ X0 e0 N0 Z0  AC VM1
  have K1 : Keep h0 h1 [a3] := (Keep.refl h0 [a3]).trans KT1 (allS (Or.inl (own_w 0 rfl)) all0)
  rcases hj1 with ⟨rfl, rfl, hal1⟩ | ⟨hlt1, rfl, hbg1⟩
  · skip
    obtain ⟨fs, hr, hrun, hended, hW, hsame⟩ := X1.leave (v := some (.int (Int32.ofNat cs.length))) (fun h => by rw [Bd.returns] at h; cases h) (BodyLoose.notSynchronized Bd)
    refine ⟨_, _, pre0 _ ?_, hrun, hended, _, _, rfl, ?_, ⟨_, rfl⟩, hW, hsame.mono (by decide) (by decide)⟩
    · show Steps p.tables e below (s₁.setTop (mkF m 0 #[.val (.ref a1), .val (.int (0 : Int32)), .val (.ref a3), .val (.int (0 : Int32)), .val (.int p5), .unset, .unset] [])) _
      refine XS.iconst X0.here hx rfl (hb hby d11_0) ?_
      refine XS.istore X0.here hx rfl (hb hby d11_1) rfl (l' := #[.val (.ref a1), .val (.int (0 : Int32)), .val (.ref a3), .val (.int (0 : Int32)), .val (.int p5), .val (.int (0 : Int32)), .unset]) rfl ?_
      show Steps p.tables e below (s₁.setTop (mkF m 3 #[.val (.ref a1), .val (.int (0 : Int32)), .val (.ref a3), .val (.int (0 : Int32)), .val (.int p5), .val (.int (0 : Int32)), .unset] [])) _
      rw [hp]
      refine st1 _ ?_
      refine XS.iload X1.here hx rfl (hb hby d11_44) rfl ?_
      exact retI X1 hx Bd.returns (hb hby d11_46) hr
    · show QrC1 Z a1 a3 p5 cs ka kd h0 n0 _ T1.heap _
      rw [e1]
      exact ⟨_, rfl, N1, K1, V1, Or.inl ⟨rfl, hal1⟩⟩
  · skip
    obtain ⟨fs, hr, hrun, hended, hW, hsame⟩ := X1.leave (v := some (.int (Int32.ofNat j1))) (fun h => by rw [Bd.returns] at h; cases h) (BodyLoose.notSynchronized Bd)
    refine ⟨_, _, pre0 _ ?_, hrun, hended, _, _, rfl, ?_, ⟨_, rfl⟩, hW, hsame.mono (by decide) (by decide)⟩
    · show Steps p.tables e below (s₁.setTop (mkF m 0 #[.val (.ref a1), .val (.int (0 : Int32)), .val (.ref a3), .val (.int (0 : Int32)), .val (.int p5), .unset, .unset] [])) _
      refine XS.iconst X0.here hx rfl (hb hby d11_0) ?_
      refine XS.istore X0.here hx rfl (hb hby d11_1) rfl (l' := #[.val (.ref a1), .val (.int (0 : Int32)), .val (.ref a3), .val (.int (0 : Int32)), .val (.int p5), .val (.int (0 : Int32)), .unset]) rfl ?_
      show Steps p.tables e below (s₁.setTop (mkF m 3 #[.val (.ref a1), .val (.int (0 : Int32)), .val (.ref a3), .val (.int (0 : Int32)), .val (.int p5), .val (.int (0 : Int32)), .unset] [])) _
      rw [hp]
      refine st1 _ ?_
      refine XS.iload X1.here hx rfl (hb hby d11_23) rfl ?_
      exact retI X1 hx Bd.returns (hb hby d11_25) hr
    · show QrC1 Z a1 a3 p5 cs ka kd h0 n0 _ T1.heap _
      rw [e1]
      exact ⟨_, rfl, N1, K1, V1, Or.inr ⟨hlt1, hbg1⟩⟩
theorem pd_11 : parseMethodDescriptor "([CI[BII)I" = some ⟨[(.array .char), .int, (.array .byte), .int, .int], some .int⟩ := by decide +kernel
theorem pd_12 : parseMethodDescriptor "([CII)[B" = some ⟨[(.array .char), .int, .int], some (.array .byte)⟩ := by decide +kernel
theorem d10_0 : decode jdk_52_method_16_code 0 = .ok (.iload_n 2, 1) := by decide +kernel
theorem d10_1 : decode jdk_52_method_16_code 1 = .ok (.newarray .byte, 2) := by decide +kernel
theorem d10_3 : decode jdk_52_method_16_code 3 = .ok (.astore_n 3, 1) := by decide +kernel
theorem d10_4 : decode jdk_52_method_16_code 4 = .ok (.aload_n 0, 1) := by decide +kernel
theorem d10_5 : decode jdk_52_method_16_code 5 = .ok (.iload_n 1, 1) := by decide +kernel
theorem d10_6 : decode jdk_52_method_16_code 6 = .ok (.aload_n 3, 1) := by decide +kernel
theorem d10_7 : decode jdk_52_method_16_code 7 = .ok (.iconst 0, 1) := by decide +kernel
theorem d10_8 : decode jdk_52_method_16_code 8 = .ok (.iload_n 2, 1) := by decide +kernel
theorem d10_9 : decode jdk_52_method_16_code 9 = .ok (.invokestatic 115, 3) := by decide +kernel
theorem d10_12 : decode jdk_52_method_16_code 12 = .ok (.istore 4, 2) := by decide +kernel
theorem d10_14 : decode jdk_52_method_16_code 14 = .ok (.iload 4, 2) := by decide +kernel
theorem d10_16 : decode jdk_52_method_16_code 16 = .ok (.iload_n 2, 1) := by decide +kernel
theorem d10_17 : decode jdk_52_method_16_code 17 = .ok (.if_icmp .eq 40, 3) := by decide +kernel
theorem d10_20 : decode jdk_52_method_16_code 20 = .ok (.aload_n 0, 1) := by decide +kernel
theorem d10_21 : decode jdk_52_method_16_code 21 = .ok (.iload_n 1, 1) := by decide +kernel
theorem d10_22 : decode jdk_52_method_16_code 22 = .ok (.iload_n 2, 1) := by decide +kernel
theorem d10_23 : decode jdk_52_method_16_code 23 = .ok (.invokestatic 119, 3) := by decide +kernel
theorem d10_26 : decode jdk_52_method_16_code 26 = .ok (.astore 5, 2) := by decide +kernel
theorem d10_28 : decode jdk_52_method_16_code 28 = .ok (.aload 5, 2) := by decide +kernel
theorem d10_30 : decode jdk_52_method_16_code 30 = .ok (.iload 4, 2) := by decide +kernel
theorem d10_32 : decode jdk_52_method_16_code 32 = .ok (.invokestatic 71, 3) := by decide +kernel
theorem d10_35 : decode jdk_52_method_16_code 35 = .ok (.sipush 255, 3) := by decide +kernel
theorem d10_38 : decode jdk_52_method_16_code 38 = .ok (.if_icmp .gt 16, 3) := by decide +kernel
theorem d10_54 : decode jdk_52_method_16_code 54 = .ok (.aload 5, 2) := by decide +kernel
theorem d10_56 : decode jdk_52_method_16_code 56 = .ok (.areturn, 1) := by decide +kernel
theorem d10_57 : decode jdk_52_method_16_code 57 = .ok (.aload_n 3, 1) := by decide +kernel
theorem d10_58 : decode jdk_52_method_16_code 58 = .ok (.areturn, 1) := by decide +kernel
theorem pn_10 : plainName "java/lang/StringUTF16" = true := by first | (simp [plainName, overriddenIn]; done) | decide +kernel
theorem ef_rC2 (m : MethodId) (a1 : Addr) (p3 : Int32) : entryFrame m #[(.ref a1), (.int (0 : Int32)), (.int p3)] 6 = mkF m 0 #[.val (.ref a1), .val (.int (0 : Int32)), .val (.int p3), .unset, .unset, .unset] [] := by first | (simp [entryFrame, mkF, argsToLocals, Value.category]; done) | rfl
def QrC2 (Z : State) (a1 : Addr) (p3 : Int32) (cs : List Int32) (ka : ClassId) (h0 : Heap) (n0 : Nat) (v : Option Value) (h : Heap) (L : List Loc) : Prop := ∃ (o : Addr) (ok : ClassId), v = some (.ref o) ∧ Fr n0 L ∧ Keep h0 h [] ∧ n0 ≤ o ∧ h0.size ≤ o ∧ ((Arv Z h o ok .byte (Int32.ofNat cs.length) (own_lat cs) (.int (0 : Int32)) ∧ ∀ c ∈ cs, c.toInt < 256) ∨ Arv Z h o ok .byte (Int32.ofNat (2 * cs.length)) (own_utf cs) (.int (0 : Int32)))
set_option maxRecDepth 65536 in
set_option maxHeartbeats 40000000 in
theorem rC2 (l : Launch) (Z : State) (a0 : Array Value) (hw : ∀ d ∈ tables_1, d.before a0 Z = true) (ws : List Jvm.Cond) (a1 : Addr) (p3 : Int32) (cs : List Int32) (ka : ClassId) (h0 : Heap) (n0 : Nat) (Z0 : n0 ≤ h0.size) (X00 : Old Z n0 h0) (O_A : Sta Z Z.heap "java/lang/StringUTF16" "$assertionsDisabled" "Z" (.int (1 : Int32))) (O_H : Sta Z Z.heap "java/lang/StringUTF16" "HI_BYTE_SHIFT" "I" (.int (0 : Int32))) (O_W : Sta Z Z.heap "java/lang/StringUTF16" "LO_BYTE_SHIFT" "I" (.int (8 : Int32))) (AC : Arv Z h0 a1 ka .char (Int32.ofNat cs.length) (cs.map Value.int) (.int (0 : Int32))) (hp : p3 = Int32.ofNat cs.length) (hL : cs.length < 8) (hcs : ∀ c ∈ cs, own_ch c) :
    MetFree l (⟨"java/lang/StringUTF16", "compress", "([CII)[B"⟩ : MethodName) (head1 (Jvm.Cond.code (⟨"java/lang/StringUTF16", "compress", "([CII)[B"⟩ : MethodName) jdk_52_method_16_code 6 (some (.array .byte)) :: ws) ({ frames := 5, cells := 2, slots := 24, locals := 116 } : Room)) (fun a U => a = #[(.ref a1), (.int (0 : Int32)), (.int p3)] ∧ Z.Warmed39 U.vm ∧ U.heap = h0) (fun _ _ _ _ _ => True) (fun _ U o U' => ∃ v L, o = .returned v ∧ QrC2 Z a1 p3 cs ka h0 n0 v U'.heap L ∧ FrameEnd U o U' L ({ frames := 5, cells := 2, slots := 24, locals := 116 } : Room).cells ({ frames := 5, cells := 2, slots := 24, locals := 116 } : Room).slots) := by
  refine MetFree.of_bodySF (plainFor_of_name pn_10) hisR ?_
  intro p e s m args below meth c s₁ Bd hml0 hP hK
  obtain ⟨rfl, hZ, hh⟩ := hP
  have hx := Bd.exec
  have hby := Bd.bytes
  have hml : c.maxLocals = 6 := hml0
  have hown : s.vm.findClass "java/lang/StringUTF16" = some m.cls := findClass_of_methodNamed Bd.named
  have hnm := (name_of_methodNamed Bd.named Bd.method).1
  have X0 : Stand p l e ({ frames := 5, cells := 2, slots := 24, locals := 116 } : Room) s m #[(.ref a1), (.int (0 : Int32)), (.int p3)] below meth c s₁ [] 0 0 := Stand.of_body Bd
  have e0 : s₁.heap = h0 := by rw [← hh, Bd.state]; rfl
  have N0 := Fr.nil n0
  have pre0 : ∀ t, Steps p.tables e below (s₁.setTop (mkF m 0 #[.val (.ref a1), .val (.int (0 : Int32)), .val (.int p3), .unset, .unset, .unset] [])) t → Steps p.tables e below (s₁.setTop (entryFrame m #[(.ref a1), (.int (0 : Int32)), (.int p3)] 6)) t := fun t k => castTop (ef_rC2 m a1 p3) k
  obtain ⟨T1, h1, ck1, X1, e1, E1, A1, st1⟩ := newP X0 hx hZ (hw _ (own_w 20 rfl)) e0 (g := (mkF m 1 #[.val (.ref a1), .val (.int (0 : Int32)), .val (.int (Int32.ofNat cs.length)), .unset, .unset, .unset] [(.int (Int32.ofNat cs.length))])) rfl (hb hby d10_1) rfl (own_x0 (by omega)) (cap := 8) (by rw [own_xN (by omega)]; omega) (by decide) (by decide) (by decide)
  obtain ⟨b1o, g1⟩ : ∃ z, z = h0.size := ⟨_, rfl⟩
  have b1 : n0 ≤ b1o := Nat.le_trans Z0 (Nat.le_of_eq g1.symm)
  have bk1 : h0.size ≤ b1o := Nat.le_trans (Keep.refl h0 []).1 (Nat.le_of_eq g1.symm)
  have ne2 : a1 ≠ b1o := Nat.ne_of_lt (Nat.lt_of_lt_of_le AC.lt (Nat.le_of_eq g1.symm))
  rw [← g1] at A1 st1
  have Z1 : n0 ≤ h1.size := Nat.le_trans Z0 E1.1
  have K1 : Keep h0 h1 [] := (Keep.refl h0 []).ext E1
  have V1 : Arv Z h1 b1o ck1 .byte (Int32.ofNat cs.length) (List.replicate (cs.length) (.int (0 : Int32))) (.int (0 : Int32)) := (Arv.new A1 (own_x0 (by omega))).pad (pad_rep [] (.int (0 : Int32)) (cs.length))
  have f4 := (AC.ext E1)
  obtain ⟨_, _, ⟨T3, Lq3, kq3, nq3⟩, -, X3, ⟨Lc3, hQ3, lq3, yq3, zq3⟩, st3⟩ := Jvm.LawKit.callS X1 hx (y := (⟨"java/lang/StringUTF16", "compress", "([CI[BII)I"⟩ : MethodName)) hown (mvT hZ (hw _ (own_w 58 rfl))) (mvT hZ (hw _ (own_w 59 rfl))) (mvT hZ (hw _ (own_w 56 rfl))) (mvT hZ (hw _ (own_w 60 rfl))) (by decide) (backOf (W := 0) (rC1 l Z a0 hw [] a1 b1o (Int32.ofNat cs.length) cs ka ck1 h1 n0 Z1 f4 V1 rfl hL ne2 b1) hZ (hw _ (own_w 60 rfl)) (hw _ (own_w 56 rfl)) (by decide) (by decide)) (g := (mkF m 9 #[.val (.ref a1), .val (.int (0 : Int32)), .val (.int (Int32.ofNat cs.length)), .val (.ref b1o), .unset, .unset] [(.int (Int32.ofNat cs.length)), (.int (0 : Int32)), (.ref b1o), (.int (0 : Int32)), (.ref a1)])) rfl (by rw [hml]; rfl) (argsL := [(.ref a1), (.int (0 : Int32)), (.ref b1o), (.int (0 : Int32)), (.int (Int32.ofNat cs.length))]) (rest := []) (lenOf pd_11 rfl) rfl (by show 2 * 0 + _ ≤ _; exact Nat.le_of_eq rfl) (hb hby d10_9) (fun _ _ => ⟨rfl, e1, (by decide : 1 + 0 ≤ _), (by decide : 8 + 0 ≤ _)⟩)
  dsimp only [Pt.U, Pt.locs, Pt.cells, Pt.slots] at X3 lq3 yq3 zq3 st3 hQ3
  subst lq3 yq3 zq3
  obtain ⟨j3, rfl, N3q, KC3, V3, hj3⟩ := hQ3
  have N3 := Fr.app N0 N3q
  have Z3 : n0 ≤ T3.heap.size := Nat.le_trans Z1 KC3.1
  have K3 : Keep h0 T3.heap [] := K1.trans KC3 (allS (Or.inr bk1) all0)
  rcases hj3 with ⟨rfl, hal⟩ | ⟨hlt, hbg⟩
  · skip
    obtain ⟨fs, hr, hrun, hended, hW, hsame⟩ := X3.leave (v := some (.ref b1o)) (fun h => by rw [Bd.returns] at h; cases h) (BodyLoose.notSynchronized Bd)
    refine ⟨_, _, pre0 _ ?_, hrun, hended, _, _, rfl, ?_, ⟨_, rfl⟩, hW, hsame.mono (by decide) (by decide)⟩
    · show Steps p.tables e below (s₁.setTop (mkF m 0 #[.val (.ref a1), .val (.int (0 : Int32)), .val (.int p3), .unset, .unset, .unset] [])) _
      refine XS.iloadN X0.here hx rfl (hb hby d10_0) rfl ?_
      show Steps p.tables e below (s₁.setTop (mkF m 1 #[.val (.ref a1), .val (.int (0 : Int32)), .val (.int p3), .unset, .unset, .unset] [(.int p3)])) _
      rw [hp]
      refine st1 _ ?_
      refine XS.astoreN X1.here hx rfl (hb hby d10_3) rfl rfl (l' := #[.val (.ref a1), .val (.int (0 : Int32)), .val (.int (Int32.ofNat cs.length)), .val (.ref b1o), .unset, .unset]) rfl ?_
      refine XS.aloadN X1.here hx rfl (hb hby d10_4) rfl rfl ?_
      refine XS.iloadN X1.here hx rfl (hb hby d10_5) rfl ?_
      refine XS.aloadN X1.here hx rfl (hb hby d10_6) rfl rfl ?_
      refine XS.iconst X1.here hx rfl (hb hby d10_7) ?_
      refine XS.iloadN X1.here hx rfl (hb hby d10_8) rfl ?_
      refine st3 _ ?_
      refine XS.istore X3.here hx rfl (hb hby d10_12) rfl (l' := #[.val (.ref a1), .val (.int (0 : Int32)), .val (.int (Int32.ofNat cs.length)), .val (.ref b1o), .val (.int (Int32.ofNat cs.length)), .unset]) rfl ?_
      refine XS.iload X3.here hx rfl (hb hby d10_14) rfl ?_
      refine XS.iloadN X3.here hx rfl (hb hby d10_16) rfl ?_
      refine XS.icmpYes X3.here hx rfl (pc0 := 17) (pc' := 57) rfl (hb hby d10_17) rfl (teq rfl).1 (by decide) (by decide) ?_
      refine XS.aloadN X3.here hx rfl (hb hby d10_57) rfl rfl ?_
      exact X3.areturnOut hx rfl Bd.returns rfl (hb hby d10_58) hr
    · show QrC2 Z a1 p3 cs ka h0 n0 _ T3.heap _
      have qa := V3
      rw [own_mixLat] at qa
      exact ⟨b1o, _, rfl, N3, K3, b1, bk1, Or.inl ⟨qa, hal⟩⟩
  · skip
    have f6 := (f4.keep KC3 (ninS ne2 nin0))
    have f7 := ((X00.ext E1).keep KC3 (allS b1 all0))
    obtain ⟨_, _, ⟨T5, Lq5, kq5, nq5⟩, -, X5, ⟨Lc5, hQ5, lq5, yq5, zq5⟩, st5⟩ := Jvm.LawKit.callS X3 hx (y := (⟨"java/lang/StringUTF16", "toBytes", "([CII)[B"⟩ : MethodName)) hown (mvT hZ (hw _ (own_w 150 rfl))) (mvT hZ (hw _ (own_w 151 rfl))) (mvT hZ (hw _ (own_w 56 rfl))) (mvT hZ (hw _ (own_w 152 rfl))) (by decide) (backOf (W := 0) (rTb l Z a0 hw [] a1 (Int32.ofNat cs.length) cs ka T3.heap n0 Z3 f7 O_A O_H O_W f6 rfl hL) hZ (hw _ (own_w 152 rfl)) (hw _ (own_w 56 rfl)) (by decide) (by decide)) (g := (mkF m 23 #[.val (.ref a1), .val (.int (0 : Int32)), .val (.int (Int32.ofNat cs.length)), .val (.ref b1o), .val (.int (Int32.ofNat j3)), .unset] [(.int (Int32.ofNat cs.length)), (.int (0 : Int32)), (.ref a1)])) rfl (by rw [hml]; rfl) (argsL := [(.ref a1), (.int (0 : Int32)), (.int (Int32.ofNat cs.length))]) (rest := []) (lenOf pd_12 rfl) rfl (by show 2 * 0 + _ ≤ _; exact Nat.le_of_eq rfl) (hb hby d10_23) (fun _ _ => ⟨rfl, rfl, (by decide : 1 + 1 ≤ _), (by decide : 8 + 16 ≤ _)⟩)
    dsimp only [Pt.U, Pt.locs, Pt.cells, Pt.slots] at X5 lq5 yq5 zq5 st5 hQ5
    subst lq5 yq5 zq5
    obtain ⟨o5, ok5, rfl, N5q, KC5, go5, gk5, V5⟩ := hQ5
    have N5 := Fr.app N3 N5q
    have Z5 : n0 ≤ T5.heap.size := Nat.le_trans Z3 KC5.1
    have ne8 : a1 ≠ o5 := Nat.ne_of_lt (Nat.lt_of_lt_of_le f6.lt gk5)
    have ne9 : b1o ≠ o5 := Nat.ne_of_lt (Nat.lt_of_lt_of_le V3.lt gk5)
    have K5 : Keep h0 T5.heap [] := K3.trans KC5 all0
    have f11 := (f7.keep KC5 all0)
    obtain ⟨_, _, ⟨T10, Lq10, kq10, nq10⟩, -, X10, ⟨Lc10, hQ10, lq10, yq10, zq10⟩, st10⟩ := Jvm.LawKit.callS X5 hx (y := (⟨"java/lang/StringUTF16", "getChar", "([BI)C"⟩ : MethodName)) hown (mvT hZ (hw _ (own_w 166 rfl))) (mvT hZ (hw _ (own_w 167 rfl))) (mvT hZ (hw _ (own_w 56 rfl))) (mvT hZ (hw _ (own_w 168 rfl))) (by decide) (backOf (W := 0) (rGc l Z a0 hw [] o5 (Int32.ofNat j3) ok5 (cs).length (own_utf (cs)) (j3) _ _ T5.heap n0 Z5 f11 O_A O_H O_W V5 rfl hlt hL (own_utf_at (cs) (j3) _ hlt).1 (own_utf_at (cs) (j3) _ hlt).2) hZ (hw _ (own_w 168 rfl)) (hw _ (own_w 56 rfl)) (by decide) (by decide)) (g := (mkF m 32 #[.val (.ref a1), .val (.int (0 : Int32)), .val (.int (Int32.ofNat cs.length)), .val (.ref b1o), .val (.int (Int32.ofNat j3)), .val (.ref o5)] [(.int (Int32.ofNat j3)), (.ref o5)])) rfl (by rw [hml]; rfl) (argsL := [(.ref o5), (.int (Int32.ofNat j3))]) (rest := []) (lenOf pd_6 rfl) rfl (by show 2 * 0 + _ ≤ _; exact Nat.le_of_eq rfl) (hb hby d10_32) (fun _ _ => ⟨rfl, rfl, (by decide : 2 + 0 ≤ _), (by decide : 24 + 0 ≤ _)⟩)
    dsimp only [Pt.U, Pt.locs, Pt.cells, Pt.slots] at X10 lq10 yq10 zq10 st10 hQ10
    subst lq10 yq10 zq10
    obtain ⟨r10, hr10, rfl, N10q, e10⟩ := hQ10
    have N10 := Fr.app N5 N10q
    obtain ⟨fs, hr, hrun, hended, hW, hsame⟩ := X10.leave (v := some (.ref o5)) (fun h => by rw [Bd.returns] at h; cases h) (BodyLoose.notSynchronized Bd)
    refine ⟨_, _, pre0 _ ?_, hrun, hended, _, _, rfl, ?_, ⟨_, rfl⟩, hW, hsame.mono (by decide) (by decide)⟩
    · show Steps p.tables e below (s₁.setTop (mkF m 0 #[.val (.ref a1), .val (.int (0 : Int32)), .val (.int p3), .unset, .unset, .unset] [])) _
      refine XS.iloadN X0.here hx rfl (hb hby d10_0) rfl ?_
      show Steps p.tables e below (s₁.setTop (mkF m 1 #[.val (.ref a1), .val (.int (0 : Int32)), .val (.int p3), .unset, .unset, .unset] [(.int p3)])) _
      rw [hp]
      refine st1 _ ?_
      refine XS.astoreN X1.here hx rfl (hb hby d10_3) rfl rfl (l' := #[.val (.ref a1), .val (.int (0 : Int32)), .val (.int (Int32.ofNat cs.length)), .val (.ref b1o), .unset, .unset]) rfl ?_
      refine XS.aloadN X1.here hx rfl (hb hby d10_4) rfl rfl ?_
      refine XS.iloadN X1.here hx rfl (hb hby d10_5) rfl ?_
      refine XS.aloadN X1.here hx rfl (hb hby d10_6) rfl rfl ?_
      refine XS.iconst X1.here hx rfl (hb hby d10_7) ?_
      refine XS.iloadN X1.here hx rfl (hb hby d10_8) rfl ?_
      refine st3 _ ?_
      refine XS.istore X3.here hx rfl (hb hby d10_12) rfl (l' := #[.val (.ref a1), .val (.int (0 : Int32)), .val (.int (Int32.ofNat cs.length)), .val (.ref b1o), .val (.int (Int32.ofNat j3)), .unset]) rfl ?_
      refine XS.iload X3.here hx rfl (hb hby d10_14) rfl ?_
      refine XS.iloadN X3.here hx rfl (hb hby d10_16) rfl ?_
      refine XS.icmpNo X3.here hx rfl (hb hby d10_17) rfl (feq (fun w => absurd ((own_xeq (by omega) (by omega)).mp w) (Nat.ne_of_lt hlt))).1 ?_
      refine XS.aloadN X3.here hx rfl (hb hby d10_20) rfl rfl ?_
      refine XS.iloadN X3.here hx rfl (hb hby d10_21) rfl ?_
      refine XS.iloadN X3.here hx rfl (hb hby d10_22) rfl ?_
      refine st5 _ ?_
      refine XS.astore X5.here hx rfl (hb hby d10_26) rfl rfl (l' := #[.val (.ref a1), .val (.int (0 : Int32)), .val (.int (Int32.ofNat cs.length)), .val (.ref b1o), .val (.int (Int32.ofNat j3)), .val (.ref o5)]) rfl ?_
      refine XS.aload X5.here hx rfl (hb hby d10_28) rfl rfl ?_
      refine XS.iload X5.here hx rfl (hb hby d10_30) rfl ?_
      refine st10 _ ?_
      refine XS.sipush X10.here hx rfl (hb hby d10_35) ?_
      refine XS.icmpYes X10.here hx rfl (pc0 := 38) (pc' := 54) rfl (hb hby d10_38) rfl (tlt (by rw [hr10, own_gc_eq (own_getCh hcs _)]; exact (own_255 _).mpr hbg)).2.2.1 (by decide) (by decide) ?_
      refine XS.aload X10.here hx rfl (hb hby d10_54) rfl rfl ?_
      exact X10.areturnOut hx rfl Bd.returns rfl (hb hby d10_56) hr
    · show QrC2 Z a1 p3 cs ka h0 n0 _ T10.heap _
      rw [e10]
      exact ⟨o5, _, rfl, N10, K5, go5, (Nat.le_trans K3.1 gk5), Or.inr V5⟩
theorem d12_0 : decode jdk_52_method_15_code 0 = .ok (.iload_n 1, 1) := by decide +kernel
theorem d12_1 : decode jdk_52_method_15_code 1 = .ok (.aload_n 0, 1) := by decide +kernel
theorem d12_2 : decode jdk_52_method_15_code 2 = .ok (.arraylength, 1) := by decide +kernel
theorem d12_3 : decode jdk_52_method_15_code 3 = .ok (.isub, 1) := by decide +kernel
theorem d12_4 : decode jdk_52_method_15_code 4 = .ok (.bipush 31, 2) := by decide +kernel
theorem d12_6 : decode jdk_52_method_15_code 6 = .ok (.iushr, 1) := by decide +kernel
theorem d12_7 : decode jdk_52_method_15_code 7 = .ok (.i2b, 1) := by decide +kernel
theorem d12_8 : decode jdk_52_method_15_code 8 = .ok (.ireturn, 1) := by decide +kernel
theorem pn_12 : plainName "java/lang/StringUTF16" = true := by first | (simp [plainName, overriddenIn]; done) | decide +kernel
theorem ef_rK0 (m : MethodId) (a1 : Addr) (p2 : Int32) : entryFrame m #[(.ref a1), (.int p2)] 2 = mkF m 0 #[.val (.ref a1), .val (.int p2)] [] := by first | (simp [entryFrame, mkF, argsToLocals, Value.category]; done) | rfl
def QrK0 (Z : State) (a1 : Addr) (p2 : Int32) (k : ClassId) (n : Nat) (vs : List Value) (h0 : Heap) (n0 : Nat) (v : Option Value) (h : Heap) (L : List Loc) : Prop := ∃ z : Int32, z = ((0 : Int32)) ∧ v = some (.int z) ∧ Fr n0 L ∧ h = h0
set_option maxRecDepth 65536 in
set_option maxHeartbeats 40000000 in
theorem rK0 (l : Launch) (Z : State) (a0 : Array Value) (hw : ∀ d ∈ tables_1, d.before a0 Z = true) (ws : List Jvm.Cond) (a1 : Addr) (p2 : Int32) (k : ClassId) (n : Nat) (vs : List Value) (h0 : Heap) (n0 : Nat) (Z0 : n0 ≤ h0.size) (AV : Arv Z h0 a1 k .byte (Int32.ofNat n) (vs) (.int (0 : Int32))) (hp : p2 = Int32.ofNat n) (hn : n < 8) (hn0 : 0 < n) :
    MetFree l (⟨"java/lang/StringUTF16", "coderFromArrayLen", "([BI)B"⟩ : MethodName) (head1 (Jvm.Cond.code (⟨"java/lang/StringUTF16", "coderFromArrayLen", "([BI)B"⟩ : MethodName) jdk_52_method_15_code 2 (some .byte) :: ws) ({ frames := 0, cells := 0, slots := 0, locals := 0 } : Room)) (fun a U => a = #[(.ref a1), (.int p2)] ∧ Z.Warmed39 U.vm ∧ U.heap = h0) (fun _ _ _ _ _ => True) (fun _ U o U' => ∃ v L, o = .returned v ∧ QrK0 Z a1 p2 k n vs h0 n0 v U'.heap L ∧ FrameEnd U o U' L ({ frames := 0, cells := 0, slots := 0, locals := 0 } : Room).cells ({ frames := 0, cells := 0, slots := 0, locals := 0 } : Room).slots) := by
  refine MetFree.of_bodySF (plainFor_of_name pn_12) hisR ?_
  intro p e s m args below meth c s₁ Bd hml0 hP hK
  obtain ⟨rfl, hZ, hh⟩ := hP
  have hx := Bd.exec
  have hby := Bd.bytes
  have hml : c.maxLocals = 2 := hml0
  have hown : s.vm.findClass "java/lang/StringUTF16" = some m.cls := findClass_of_methodNamed Bd.named
  have hnm := (name_of_methodNamed Bd.named Bd.method).1
  have X0 : Stand p l e ({ frames := 0, cells := 0, slots := 0, locals := 0 } : Room) s m #[(.ref a1), (.int p2)] below meth c s₁ [] 0 0 := Stand.of_body Bd
  have e0 : s₁.heap = h0 := by rw [← hh, Bd.state]; rfl
  have N0 := Fr.nil n0
  have pre0 : ∀ t, Steps p.tables e below (s₁.setTop (mkF m 0 #[.val (.ref a1), .val (.int p2)] [])) t → Steps p.tables e below (s₁.setTop (entryFrame m #[(.ref a1), (.int p2)] 2)) t := fun t k => castTop (ef_rK0 m a1 p2) k
  obtain ⟨cl1, Ar1, qk1, Sz1, Nn1, Hh1, Gg1⟩ := id (AV)
  obtain ⟨fs, hr, hrun, hended, hW, hsame⟩ := X0.leave (v := some (.int (nar .byte ((((p2 - (Int32.ofNat n)).toUInt32 >>> ((31 : Int32) &&& 31).toUInt32).toInt32).toInt8.toInt32)))) (fun h => by rw [Bd.returns] at h; cases h) (BodyLoose.notSynchronized Bd)
  refine ⟨_, _, pre0 _ ?_, hrun, hended, _, _, rfl, ?_, ⟨_, rfl⟩, hW, hsame.mono (by decide) (by decide)⟩
  · show Steps p.tables e below (s₁.setTop (mkF m 0 #[.val (.ref a1), .val (.int p2)] [])) _
    refine XS.iloadN X0.here hx rfl (hb hby d12_0) rfl ?_
    refine XS.aloadN X0.here hx rfl (hb hby d12_1) rfl rfl ?_
    refine X0.arraylength hx (by rw [e0]; exact Ar1.1) (State.isArrayOf_alike hZ.alike Ar1.2.1) (g := (mkF m 2 #[.val (.ref a1), .val (.int p2)] [(.ref a1), (.int p2)])) rfl rfl (hb hby d12_2) _ ?_
    rw [len_of Sz1 Nn1]
    refine XS.isub X0.here hx rfl (hb hby d12_3) rfl ?_
    refine XS.bipush X0.here hx rfl (hb hby d12_4) ?_
    refine XS.iushr X0.here hx rfl (hb hby d12_6) rfl ?_
    refine XS.i2b X0.here hx rfl (hb hby d12_7) rfl ?_
    exact retN X0 hx (t := .byte) Bd.returns (by simp) (hb hby d12_8) hr
  · show QrK0 Z a1 p2 k n vs h0 n0 _ s₁.heap _
    exact ⟨_, by rw [hp]; exact own_cf0 hn, rfl, N0, e0⟩
theorem ef_rK1 (m : MethodId) (a1 : Addr) (p2 : Int32) : entryFrame m #[(.ref a1), (.int p2)] 2 = mkF m 0 #[.val (.ref a1), .val (.int p2)] [] := by first | (simp [entryFrame, mkF, argsToLocals, Value.category]; done) | rfl
def QrK1 (Z : State) (a1 : Addr) (p2 : Int32) (k : ClassId) (n : Nat) (vs : List Value) (h0 : Heap) (n0 : Nat) (v : Option Value) (h : Heap) (L : List Loc) : Prop := ∃ z : Int32, z = ((1 : Int32)) ∧ v = some (.int z) ∧ Fr n0 L ∧ h = h0
set_option maxRecDepth 65536 in
set_option maxHeartbeats 40000000 in
theorem rK1 (l : Launch) (Z : State) (a0 : Array Value) (hw : ∀ d ∈ tables_1, d.before a0 Z = true) (ws : List Jvm.Cond) (a1 : Addr) (p2 : Int32) (k : ClassId) (n : Nat) (vs : List Value) (h0 : Heap) (n0 : Nat) (Z0 : n0 ≤ h0.size) (AV : Arv Z h0 a1 k .byte (Int32.ofNat (2 * n)) (vs) (.int (0 : Int32))) (hp : p2 = Int32.ofNat n) (hn : n < 8) (hn0 : 0 < n) :
    MetFree l (⟨"java/lang/StringUTF16", "coderFromArrayLen", "([BI)B"⟩ : MethodName) (head1 (Jvm.Cond.code (⟨"java/lang/StringUTF16", "coderFromArrayLen", "([BI)B"⟩ : MethodName) jdk_52_method_15_code 2 (some .byte) :: ws) ({ frames := 0, cells := 0, slots := 0, locals := 0 } : Room)) (fun a U => a = #[(.ref a1), (.int p2)] ∧ Z.Warmed39 U.vm ∧ U.heap = h0) (fun _ _ _ _ _ => True) (fun _ U o U' => ∃ v L, o = .returned v ∧ QrK1 Z a1 p2 k n vs h0 n0 v U'.heap L ∧ FrameEnd U o U' L ({ frames := 0, cells := 0, slots := 0, locals := 0 } : Room).cells ({ frames := 0, cells := 0, slots := 0, locals := 0 } : Room).slots) := by
  refine MetFree.of_bodySF (plainFor_of_name pn_12) hisR ?_
  intro p e s m args below meth c s₁ Bd hml0 hP hK
  obtain ⟨rfl, hZ, hh⟩ := hP
  have hx := Bd.exec
  have hby := Bd.bytes
  have hml : c.maxLocals = 2 := hml0
  have hown : s.vm.findClass "java/lang/StringUTF16" = some m.cls := findClass_of_methodNamed Bd.named
  have hnm := (name_of_methodNamed Bd.named Bd.method).1
  have X0 : Stand p l e ({ frames := 0, cells := 0, slots := 0, locals := 0 } : Room) s m #[(.ref a1), (.int p2)] below meth c s₁ [] 0 0 := Stand.of_body Bd
  have e0 : s₁.heap = h0 := by rw [← hh, Bd.state]; rfl
  have N0 := Fr.nil n0
  have pre0 : ∀ t, Steps p.tables e below (s₁.setTop (mkF m 0 #[.val (.ref a1), .val (.int p2)] [])) t → Steps p.tables e below (s₁.setTop (entryFrame m #[(.ref a1), (.int p2)] 2)) t := fun t k => castTop (ef_rK1 m a1 p2) k
  obtain ⟨cl1, Ar1, qk1, Sz1, Nn1, Hh1, Gg1⟩ := id (AV)
  obtain ⟨fs, hr, hrun, hended, hW, hsame⟩ := X0.leave (v := some (.int (nar .byte ((((p2 - (Int32.ofNat (2 * n))).toUInt32 >>> ((31 : Int32) &&& 31).toUInt32).toInt32).toInt8.toInt32)))) (fun h => by rw [Bd.returns] at h; cases h) (BodyLoose.notSynchronized Bd)
  refine ⟨_, _, pre0 _ ?_, hrun, hended, _, _, rfl, ?_, ⟨_, rfl⟩, hW, hsame.mono (by decide) (by decide)⟩
  · show Steps p.tables e below (s₁.setTop (mkF m 0 #[.val (.ref a1), .val (.int p2)] [])) _
    refine XS.iloadN X0.here hx rfl (hb hby d12_0) rfl ?_
    refine XS.aloadN X0.here hx rfl (hb hby d12_1) rfl rfl ?_
    refine X0.arraylength hx (by rw [e0]; exact Ar1.1) (State.isArrayOf_alike hZ.alike Ar1.2.1) (g := (mkF m 2 #[.val (.ref a1), .val (.int p2)] [(.ref a1), (.int p2)])) rfl rfl (hb hby d12_2) _ ?_
    rw [len_of Sz1 Nn1]
    refine XS.isub X0.here hx rfl (hb hby d12_3) rfl ?_
    refine XS.bipush X0.here hx rfl (hb hby d12_4) ?_
    refine XS.iushr X0.here hx rfl (hb hby d12_6) rfl ?_
    refine XS.i2b X0.here hx rfl (hb hby d12_7) rfl ?_
    exact retN X0 hx (t := .byte) Bd.returns (by simp) (hb hby d12_8) hr
  · show QrK1 Z a1 p2 k n vs h0 n0 _ s₁.heap _
    exact ⟨_, by rw [hp]; exact own_cf1 hn hn0, rfl, N0, e0⟩
theorem pd_13 : parseMethodDescriptor "([BI)B" = some ⟨[(.array .byte), .int], some .byte⟩ := by decide +kernel
theorem d3_0 : decode jdk_42_method_149_code 0 = .ok (.aload_n 0, 1) := by decide +kernel
theorem d3_1 : decode jdk_42_method_149_code 1 = .ok (.invokespecial 1, 3) := by decide +kernel
theorem d3_4 : decode jdk_42_method_149_code 4 = .ok (.iload_n 3, 1) := by decide +kernel
theorem d3_5 : decode jdk_42_method_149_code 5 = .ok (.ifCond .ne 22, 3) := by decide +kernel
theorem d3_27 : decode jdk_42_method_149_code 27 = .ok (.getstatic 38, 3) := by decide +kernel
theorem d3_30 : decode jdk_42_method_149_code 30 = .ok (.ifCond .eq 28, 3) := by decide +kernel
theorem d3_33 : decode jdk_42_method_149_code 33 = .ok (.aload_n 1, 1) := by decide +kernel
theorem d3_34 : decode jdk_42_method_149_code 34 = .ok (.iload_n 2, 1) := by decide +kernel
theorem d3_35 : decode jdk_42_method_149_code 35 = .ok (.iload_n 3, 1) := by decide +kernel
theorem d3_36 : decode jdk_42_method_149_code 36 = .ok (.invokestatic 177, 3) := by decide +kernel
theorem d3_39 : decode jdk_42_method_149_code 39 = .ok (.astore 5, 2) := by decide +kernel
theorem d3_41 : decode jdk_42_method_149_code 41 = .ok (.aload_n 0, 1) := by decide +kernel
theorem d3_42 : decode jdk_42_method_149_code 42 = .ok (.aload 5, 2) := by decide +kernel
theorem d3_44 : decode jdk_42_method_149_code 44 = .ok (.iload_n 3, 1) := by decide +kernel
theorem d3_45 : decode jdk_42_method_149_code 45 = .ok (.invokestatic 47, 3) := by decide +kernel
theorem d3_48 : decode jdk_42_method_149_code 48 = .ok (.putfield 15, 3) := by decide +kernel
theorem d3_51 : decode jdk_42_method_149_code 51 = .ok (.aload_n 0, 1) := by decide +kernel
theorem d3_52 : decode jdk_42_method_149_code 52 = .ok (.aload 5, 2) := by decide +kernel
theorem d3_54 : decode jdk_42_method_149_code 54 = .ok (.putfield 9, 3) := by decide +kernel
theorem d3_57 : decode jdk_42_method_149_code 57 = .ok (.return_, 1) := by decide +kernel
theorem pn_3 : plainName "java/lang/String" = true := by first | (simp [plainName, overriddenIn]; done) | decide +kernel
theorem ef_rI4 (m : MethodId) (a1 : Addr) (a2 : Addr) (p4 : Int32) : entryFrame m #[(.ref a1), (.ref a2), (.int (0 : Int32)), (.int p4), .null] 6 = mkF m 0 #[.val (.ref a1), .val (.ref a2), .val (.int (0 : Int32)), .val (.int p4), .val .null, .unset] [] := by first | (simp [entryFrame, mkF, argsToLocals, Value.category]; done) | rfl
def QrI4 (Z : State) (a1 : Addr) (a2 : Addr) (p4 : Int32) (cs : List Int32) (ka : ClassId) (G1 : Int32) (h0 : Heap) (n0 : Nat) (v : Option Value) (h : Heap) (L : List Loc) : Prop := v = none ∧ Fr n0 L ∧ Keep h0 h [a1] ∧ own_S Z h a1 cs
set_option maxRecDepth 65536 in
set_option maxHeartbeats 40000000 in
theorem rI4 (l : Launch) (Z : State) (a0 : Array Value) (hw : ∀ d ∈ tables_1, d.before a0 Z = true) (ws : List Jvm.Cond) (a1 : Addr) (a2 : Addr) (p4 : Int32) (cs : List Int32) (ka : ClassId) (G1 : Int32) (h0 : Heap) (n0 : Nat) (Z0 : n0 ≤ h0.size) (E : Exa Z h0 a1 "java/lang/String") (FV : Fld Z h0 a1 "java/lang/String" "value" "[B" .null) (FC : Fld Z h0 a1 "java/lang/String" "coder" "B" (.int (0 : Int32))) (ga : n0 ≤ a1) (X00 : Old Z n0 h0) (O_2 : Sta Z Z.heap "java/lang/String" "COMPACT_STRINGS" "Z" (.int G1)) (P5 : ¬ (G1 = (0 : Int32))) (O_A : Sta Z Z.heap "java/lang/StringUTF16" "$assertionsDisabled" "Z" (.int (1 : Int32))) (O_H : Sta Z Z.heap "java/lang/StringUTF16" "HI_BYTE_SHIFT" "I" (.int (0 : Int32))) (O_W : Sta Z Z.heap "java/lang/StringUTF16" "LO_BYTE_SHIFT" "I" (.int (8 : Int32))) (AC : Arv Z h0 a2 ka .char (Int32.ofNat cs.length) (cs.map Value.int) (.int (0 : Int32))) (hL : cs.length < 8) (hps : 0 < cs.length) (hcs : ∀ c ∈ cs, own_ch c) (n12 : a1 ≠ a2) (hp : p4 = Int32.ofNat cs.length) :
    MetFree l (⟨"java/lang/String", "<init>", "([CIILjava/lang/Void;)V"⟩ : MethodName) (head1 (Jvm.Cond.code (⟨"java/lang/String", "<init>", "([CIILjava/lang/Void;)V"⟩ : MethodName) jdk_42_method_149_code 6 none :: ws) ({ frames := 6, cells := 2, slots := 24, locals := 133 } : Room)) (fun a U => a = #[(.ref a1), (.ref a2), (.int (0 : Int32)), (.int p4), .null] ∧ Z.Warmed39 U.vm ∧ U.heap = h0) (fun _ _ _ _ _ => True) (fun _ U o U' => ∃ v L, o = .returned v ∧ QrI4 Z a1 a2 p4 cs ka G1 h0 n0 v U'.heap L ∧ FrameEnd U o U' L ({ frames := 6, cells := 2, slots := 24, locals := 133 } : Room).cells ({ frames := 6, cells := 2, slots := 24, locals := 133 } : Room).slots) := by
  refine MetFree.of_bodySF (plainFor_of_name pn_3) hisR ?_
  intro p e s m args below meth c s₁ Bd hml0 hP hK
  obtain ⟨rfl, hZ, hh⟩ := hP
  have hx := Bd.exec
  have hby := Bd.bytes
  have hml : c.maxLocals = 6 := hml0
  have hown : s.vm.findClass "java/lang/String" = some m.cls := findClass_of_methodNamed Bd.named
  have hnm := (name_of_methodNamed Bd.named Bd.method).1
  have X0 : Stand p l e ({ frames := 6, cells := 2, slots := 24, locals := 133 } : Room) s m #[(.ref a1), (.ref a2), (.int (0 : Int32)), (.int p4), .null] below meth c s₁ [] 0 0 := Stand.of_body Bd
  have e0 : s₁.heap = h0 := by rw [← hh, Bd.state]; rfl
  have N0 := Fr.nil n0
  have pre0 : ∀ t, Steps p.tables e below (s₁.setTop (mkF m 0 #[.val (.ref a1), .val (.ref a2), .val (.int (0 : Int32)), .val (.int p4), .val .null, .unset] [])) t → Steps p.tables e below (s₁.setTop (entryFrame m #[(.ref a1), (.ref a2), (.int (0 : Int32)), (.int p4), .null] 6)) t := fun t k => castTop (ef_rI4 m a1 a2 p4) k
  obtain ⟨T1, X1, e1, st1⟩ := initO X0 hx hZ hown (hw _ (own_w 16 rfl)) (hw _ (own_w 17 rfl)) (hw _ (own_w 18 rfl)) e0 (g := (mkF m 1 #[.val (.ref a1), .val (.ref a2), .val (.int (0 : Int32)), .val (.int p4), .val .null, .unset] [(.ref a1)])) rfl (by rw [hml]; rfl) rfl (hb hby d3_1) (by decide) (W := 0) (by show 2 * 0 + _ ≤ _; exact Nat.le_of_eq rfl) (by decide)
  obtain ⟨T2, X2, e2, st2⟩ := getS2 X1 hx hZ hown (host := "") (Or.inl (hw _ (own_w 41 rfl))) Via.refl e1 (O_2.ext X00.2) (g := (mkF m 27 #[.val (.ref a1), .val (.ref a2), .val (.int (0 : Int32)), .val (.int p4), .val .null, .unset] [])) rfl (hb hby d3_27)
  obtain ⟨_, _, ⟨T3, Lq3, kq3, nq3⟩, -, X3, ⟨Lc3, hQ3, lq3, yq3, zq3⟩, st3⟩ := Jvm.LawKit.callS X2 hx (y := (⟨"java/lang/StringUTF16", "compress", "([CII)[B"⟩ : MethodName)) hown (mvT hZ (hw _ (own_w 54 rfl))) (mvT hZ (hw _ (own_w 55 rfl))) (mvT hZ (hw _ (own_w 56 rfl))) (mvT hZ (hw _ (own_w 57 rfl))) (by decide) (backOf (W := 0) (rC2 l Z a0 hw [] a2 p4 cs ka h0 n0 Z0 X00 O_A O_H O_W AC hp hL hcs) hZ (hw _ (own_w 57 rfl)) (hw _ (own_w 56 rfl)) (by decide) (by decide)) (g := (mkF m 36 #[.val (.ref a1), .val (.ref a2), .val (.int (0 : Int32)), .val (.int p4), .val .null, .unset] [(.int p4), (.int (0 : Int32)), (.ref a2)])) rfl (by rw [hml]; rfl) (argsL := [(.ref a2), (.int (0 : Int32)), (.int p4)]) (rest := []) (lenOf pd_12 rfl) rfl (by show 2 * 0 + _ ≤ _; exact Nat.le_of_eq rfl) (hb hby d3_36) (fun _ _ => ⟨rfl, e2, (by decide : 0 + 2 ≤ _), (by decide : 0 + 24 ≤ _)⟩)
  dsimp only [Pt.U, Pt.locs, Pt.cells, Pt.slots] at X3 lq3 yq3 zq3 st3 hQ3
  subst lq3 yq3 zq3
  obtain ⟨o3, ok3, rfl, N3q, KC3, go3, gk3, hB3⟩ := hQ3
  have N3 := Fr.app N0 N3q
  have Z3 : n0 ≤ T3.heap.size := Nat.le_trans Z0 KC3.1
  have ne4 : a1 ≠ o3 := Nat.ne_of_lt (Nat.lt_of_lt_of_le FC.lt gk3)
  have ne5 : a2 ≠ o3 := Nat.ne_of_lt (Nat.lt_of_lt_of_le AC.lt gk3)
  have K3 : Keep h0 T3.heap [a1] := (Keep.refl h0 [a1]).trans KC3 all0
  rcases hB3 with ⟨VB, hal⟩ | VB
  · skip
    obtain ⟨_, _, ⟨T6, Lq6, kq6, nq6⟩, -, X6, ⟨Lc6, hQ6, lq6, yq6, zq6⟩, st6⟩ := Jvm.LawKit.callS X3 hx (y := (⟨"java/lang/StringUTF16", "coderFromArrayLen", "([BI)B"⟩ : MethodName)) hown (mvT hZ (hw _ (own_w 61 rfl))) (mvT hZ (hw _ (own_w 62 rfl))) (mvT hZ (hw _ (own_w 56 rfl))) (mvT hZ (hw _ (own_w 63 rfl))) (by decide) (backOf (W := 1) (rK0 l Z a0 hw [] o3 p4 ok3 cs.length (own_lat cs) T3.heap n0 Z3 VB hp hL hps) hZ (hw _ (own_w 63 rfl)) (hw _ (own_w 56 rfl)) (by decide) (by decide)) (g := (mkF m 45 #[.val (.ref a1), .val (.ref a2), .val (.int (0 : Int32)), .val (.int p4), .val .null, .val (.ref o3)] [(.int p4), (.ref o3), (.ref a1)])) rfl (by rw [hml]; rfl) (argsL := [(.ref o3), (.int p4)]) (rest := [(.ref a1)]) (lenOf pd_13 rfl) rfl (by show 2 * 0 + _ ≤ _; exact Nat.le_of_eq rfl) (hb hby d3_45) (fun _ _ => ⟨rfl, rfl, (by decide : 2 + 0 ≤ _), (by decide : 24 + 0 ≤ _)⟩)
    dsimp only [Pt.U, Pt.locs, Pt.cells, Pt.slots] at X6 lq6 yq6 zq6 st6 hQ6
    subst lq6 yq6 zq6
    obtain ⟨r6, hr6, rfl, N6q, e6⟩ := hQ6
    have N6 := Fr.app N3 N6q
    subst hr6
    have f7 := (E.keep KC3)
    have f8 := (FC.keep KC3 nin0)
    obtain ⟨T9, h9, X9, e9, W9, st9⟩ := putFN X6 hx hZ hown (hw _ (own_w 26 rfl)) Via.refl e6 f8 f7 (Or.inr ⟨(hw _ (own_w 22 rfl)), rfl, hnm⟩) (hw _ (own_w 7 rfl)) (ty := .byte) (v' := (.int (nar .byte (0 : Int32)))) (by decide) rfl (fits_nar_byte _) (g := (mkF m 48 #[.val (.ref a1), .val (.ref a2), .val (.int (0 : Int32)), .val (.int p4), .val .null, .val (.ref o3)] [(.int (0 : Int32)), (.ref a1)])) rfl rfl (hb hby d3_48)
    have N9 := Fr.snoc X9 N6 ga
    have Z9 : n0 ≤ h9.size := by rw [W9.size]; exact Z3
    have K9 : Keep h0 h9 [a1] := K3.wr W9 (Or.inl (own_w 0 rfl))
    have Fw9 := f8.same W9
    have f10 := (f7.wr W9)
    have f11 := ((FV.keep KC3 nin0).other W9 (Or.inr (slot_ne (Or.inr (hw _ (own_w 21 rfl))) (Or.inr (hw _ (own_w 22 rfl))) (by decide) (t := (.array .byte)) (t' := .byte) (by decide) (by decide))))
    obtain ⟨T12, h12, X12, e12, W12, st12⟩ := putF X9 hx hZ hown (host := "") (Or.inl (hw _ (own_w 25 rfl))) Via.refl e9 f11 f10 (Or.inr ⟨(hw _ (own_w 21 rfl)), rfl, hnm⟩) (hw _ (own_w 7 rfl)) (ty := (.array .byte)) (by decide) rfl rfl (g := (mkF m 54 #[.val (.ref a1), .val (.ref a2), .val (.int (0 : Int32)), .val (.int p4), .val .null, .val (.ref o3)] [(.ref o3), (.ref a1)])) rfl rfl (hb hby d3_54)
    have N12 := Fr.snoc X12 N9 ga
    have Z12 : n0 ≤ h12.size := by rw [W12.size]; exact Z9
    have K12 : Keep h0 h12 [a1] := K9.wr W12 (Or.inl (own_w 0 rfl))
    have Fw12 := f11.same W12
    obtain ⟨fs, hr, hrun, hended, hW, hsame⟩ := X12.leave (v := none) (fun _ => rfl) (BodyLoose.notSynchronized Bd)
    refine ⟨_, _, pre0 _ ?_, hrun, hended, _, _, rfl, ?_, ⟨_, rfl⟩, hW, hsame.mono (by decide) (by decide)⟩
    · show Steps p.tables e below (s₁.setTop (mkF m 0 #[.val (.ref a1), .val (.ref a2), .val (.int (0 : Int32)), .val (.int p4), .val .null, .unset] [])) _
      refine XS.aloadN X0.here hx rfl (hb hby d3_0) rfl rfl ?_
      refine st1 _ ?_
      refine XS.iloadN X1.here hx rfl (hb hby d3_4) rfl ?_
      refine XS.ifYes X1.here hx rfl (pc0 := 5) (pc' := 27) rfl (hb hby d3_5) rfl ((if0 _ _).trans (feq (by rw [hp]; exact own_xne (by omega) hps)).2) (by decide) (by decide) ?_
      refine st2 _ ?_
      refine XS.ifNo X2.here hx rfl (hb hby d3_30) rfl ((if0 _ _).trans (feq P5).1) ?_
      refine XS.aloadN X2.here hx rfl (hb hby d3_33) rfl rfl ?_
      refine XS.iloadN X2.here hx rfl (hb hby d3_34) rfl ?_
      refine XS.iloadN X2.here hx rfl (hb hby d3_35) rfl ?_
      refine st3 _ ?_
      refine XS.astore X3.here hx rfl (hb hby d3_39) rfl rfl (l' := #[.val (.ref a1), .val (.ref a2), .val (.int (0 : Int32)), .val (.int p4), .val .null, .val (.ref o3)]) rfl ?_
      refine XS.aloadN X3.here hx rfl (hb hby d3_41) rfl rfl ?_
      refine XS.aload X3.here hx rfl (hb hby d3_42) rfl rfl ?_
      refine XS.iloadN X3.here hx rfl (hb hby d3_44) rfl ?_
      refine st6 _ ?_
      refine st9 _ ?_
      refine XS.aloadN X9.here hx rfl (hb hby d3_51) rfl rfl ?_
      refine XS.aload X9.here hx rfl (hb hby d3_52) rfl rfl ?_
      refine st12 _ ?_
      exact X12.returnOut hx Bd.returns (hb hby d3_57) hr
    · show QrI4 Z a1 a2 p4 cs ka G1 h0 n0 _ T12.heap _
      have f13 := (Fw9.other W12 (Or.inr (slot_ne (Or.inr (hw _ (own_w 22 rfl))) (Or.inr (hw _ (own_w 21 rfl))) (by decide) (t := .byte) (t' := (.array .byte)) (by decide) (by decide))))
      have f14 := (f10.wr W12)
      have f15 := ((VB.other W9 (Ne.symm ne4)).other W12 (Ne.symm ne4))
      have fc := f13
      rw [own_nb0] at fc
      have os : own_S Z h12 a1 cs := ⟨o3, _, f14, Fw12, Or.inl ⟨fc, f15, hal⟩⟩
      rw [e12]
      exact ⟨rfl, N12, K12, os⟩
  · skip
    obtain ⟨_, _, ⟨T16, Lq16, kq16, nq16⟩, -, X16, ⟨Lc16, hQ16, lq16, yq16, zq16⟩, st16⟩ := Jvm.LawKit.callS X3 hx (y := (⟨"java/lang/StringUTF16", "coderFromArrayLen", "([BI)B"⟩ : MethodName)) hown (mvT hZ (hw _ (own_w 61 rfl))) (mvT hZ (hw _ (own_w 62 rfl))) (mvT hZ (hw _ (own_w 56 rfl))) (mvT hZ (hw _ (own_w 63 rfl))) (by decide) (backOf (W := 1) (rK1 l Z a0 hw [] o3 p4 ok3 cs.length (own_utf cs) T3.heap n0 Z3 VB hp hL hps) hZ (hw _ (own_w 63 rfl)) (hw _ (own_w 56 rfl)) (by decide) (by decide)) (g := (mkF m 45 #[.val (.ref a1), .val (.ref a2), .val (.int (0 : Int32)), .val (.int p4), .val .null, .val (.ref o3)] [(.int p4), (.ref o3), (.ref a1)])) rfl (by rw [hml]; rfl) (argsL := [(.ref o3), (.int p4)]) (rest := [(.ref a1)]) (lenOf pd_13 rfl) rfl (by show 2 * 0 + _ ≤ _; exact Nat.le_of_eq rfl) (hb hby d3_45) (fun _ _ => ⟨rfl, rfl, (by decide : 2 + 0 ≤ _), (by decide : 24 + 0 ≤ _)⟩)
    dsimp only [Pt.U, Pt.locs, Pt.cells, Pt.slots] at X16 lq16 yq16 zq16 st16 hQ16
    subst lq16 yq16 zq16
    obtain ⟨r16, hr16, rfl, N16q, e16⟩ := hQ16
    have N16 := Fr.app N3 N16q
    subst hr16
    have f17 := (E.keep KC3)
    have f18 := (FC.keep KC3 nin0)
    obtain ⟨T19, h19, X19, e19, W19, st19⟩ := putFN X16 hx hZ hown (hw _ (own_w 26 rfl)) Via.refl e16 f18 f17 (Or.inr ⟨(hw _ (own_w 22 rfl)), rfl, hnm⟩) (hw _ (own_w 7 rfl)) (ty := .byte) (v' := (.int (nar .byte (1 : Int32)))) (by decide) rfl (fits_nar_byte _) (g := (mkF m 48 #[.val (.ref a1), .val (.ref a2), .val (.int (0 : Int32)), .val (.int p4), .val .null, .val (.ref o3)] [(.int (1 : Int32)), (.ref a1)])) rfl rfl (hb hby d3_48)
    have N19 := Fr.snoc X19 N16 ga
    have Z19 : n0 ≤ h19.size := by rw [W19.size]; exact Z3
    have K19 : Keep h0 h19 [a1] := K3.wr W19 (Or.inl (own_w 0 rfl))
    have Fw19 := f18.same W19
    have f20 := (f17.wr W19)
    have f21 := ((FV.keep KC3 nin0).other W19 (Or.inr (slot_ne (Or.inr (hw _ (own_w 21 rfl))) (Or.inr (hw _ (own_w 22 rfl))) (by decide) (t := (.array .byte)) (t' := .byte) (by decide) (by decide))))
    obtain ⟨T22, h22, X22, e22, W22, st22⟩ := putF X19 hx hZ hown (host := "") (Or.inl (hw _ (own_w 25 rfl))) Via.refl e19 f21 f20 (Or.inr ⟨(hw _ (own_w 21 rfl)), rfl, hnm⟩) (hw _ (own_w 7 rfl)) (ty := (.array .byte)) (by decide) rfl rfl (g := (mkF m 54 #[.val (.ref a1), .val (.ref a2), .val (.int (0 : Int32)), .val (.int p4), .val .null, .val (.ref o3)] [(.ref o3), (.ref a1)])) rfl rfl (hb hby d3_54)
    have N22 := Fr.snoc X22 N19 ga
    have Z22 : n0 ≤ h22.size := by rw [W22.size]; exact Z19
    have K22 : Keep h0 h22 [a1] := K19.wr W22 (Or.inl (own_w 0 rfl))
    have Fw22 := f21.same W22
    obtain ⟨fs, hr, hrun, hended, hW, hsame⟩ := X22.leave (v := none) (fun _ => rfl) (BodyLoose.notSynchronized Bd)
    refine ⟨_, _, pre0 _ ?_, hrun, hended, _, _, rfl, ?_, ⟨_, rfl⟩, hW, hsame.mono (by decide) (by decide)⟩
    · show Steps p.tables e below (s₁.setTop (mkF m 0 #[.val (.ref a1), .val (.ref a2), .val (.int (0 : Int32)), .val (.int p4), .val .null, .unset] [])) _
      refine XS.aloadN X0.here hx rfl (hb hby d3_0) rfl rfl ?_
      refine st1 _ ?_
      refine XS.iloadN X1.here hx rfl (hb hby d3_4) rfl ?_
      refine XS.ifYes X1.here hx rfl (pc0 := 5) (pc' := 27) rfl (hb hby d3_5) rfl ((if0 _ _).trans (feq (by rw [hp]; exact own_xne (by omega) hps)).2) (by decide) (by decide) ?_
      refine st2 _ ?_
      refine XS.ifNo X2.here hx rfl (hb hby d3_30) rfl ((if0 _ _).trans (feq P5).1) ?_
      refine XS.aloadN X2.here hx rfl (hb hby d3_33) rfl rfl ?_
      refine XS.iloadN X2.here hx rfl (hb hby d3_34) rfl ?_
      refine XS.iloadN X2.here hx rfl (hb hby d3_35) rfl ?_
      refine st3 _ ?_
      refine XS.astore X3.here hx rfl (hb hby d3_39) rfl rfl (l' := #[.val (.ref a1), .val (.ref a2), .val (.int (0 : Int32)), .val (.int p4), .val .null, .val (.ref o3)]) rfl ?_
      refine XS.aloadN X3.here hx rfl (hb hby d3_41) rfl rfl ?_
      refine XS.aload X3.here hx rfl (hb hby d3_42) rfl rfl ?_
      refine XS.iloadN X3.here hx rfl (hb hby d3_44) rfl ?_
      refine st16 _ ?_
      refine st19 _ ?_
      refine XS.aloadN X19.here hx rfl (hb hby d3_51) rfl rfl ?_
      refine XS.aload X19.here hx rfl (hb hby d3_52) rfl rfl ?_
      refine st22 _ ?_
      exact X22.returnOut hx Bd.returns (hb hby d3_57) hr
    · show QrI4 Z a1 a2 p4 cs ka G1 h0 n0 _ T22.heap _
      have f23 := (Fw19.other W22 (Or.inr (slot_ne (Or.inr (hw _ (own_w 22 rfl))) (Or.inr (hw _ (own_w 21 rfl))) (by decide) (t := .byte) (t' := (.array .byte)) (by decide) (by decide))))
      have f24 := (f20.wr W22)
      have f25 := ((VB.other W19 (Ne.symm ne4)).other W22 (Ne.symm ne4))
      have fc := f23
      rw [own_nb1] at fc
      have os : own_S Z h22 a1 cs := ⟨o3, _, f24, Fw22, Or.inr ⟨fc, f25⟩⟩
      rw [e22]
      exact ⟨rfl, N22, K22, os⟩
theorem pd_14 : parseMethodDescriptor "([CIILjava/lang/Void;)V" = some ⟨[(.array .char), .int, .int, (.object "java/lang/Void")], none⟩ := by decide +kernel
theorem d2_0 : decode jdk_42_method_3_code 0 = .ok (.aload_n 0, 1) := by decide +kernel
theorem d2_1 : decode jdk_42_method_3_code 1 = .ok (.aload_n 1, 1) := by decide +kernel
theorem d2_2 : decode jdk_42_method_3_code 2 = .ok (.iconst 0, 1) := by decide +kernel
theorem d2_3 : decode jdk_42_method_3_code 3 = .ok (.aload_n 1, 1) := by decide +kernel
theorem d2_4 : decode jdk_42_method_3_code 4 = .ok (.arraylength, 1) := by decide +kernel
theorem d2_5 : decode jdk_42_method_3_code 5 = .ok (.aconst_null, 1) := by decide +kernel
theorem d2_6 : decode jdk_42_method_3_code 6 = .ok (.invokespecial 27, 3) := by decide +kernel
theorem d2_9 : decode jdk_42_method_3_code 9 = .ok (.return_, 1) := by decide +kernel
theorem pn_2 : plainName "java/lang/String" = true := by first | (simp [plainName, overriddenIn]; done) | decide +kernel
theorem ef_rI1 (m : MethodId) (a1 : Addr) (a2 : Addr) : entryFrame m #[(.ref a1), (.ref a2)] 2 = mkF m 0 #[.val (.ref a1), .val (.ref a2)] [] := by first | (simp [entryFrame, mkF, argsToLocals, Value.category]; done) | rfl
def QrI1 (Z : State) (a1 : Addr) (a2 : Addr) (cs : List Int32) (ka : ClassId) (G1 : Int32) (h0 : Heap) (n0 : Nat) (v : Option Value) (h : Heap) (L : List Loc) : Prop := v = none ∧ Fr n0 L ∧ Keep h0 h [a1] ∧ own_S Z h a1 cs
set_option maxRecDepth 65536 in
set_option maxHeartbeats 40000000 in
theorem rI1 (l : Launch) (Z : State) (a0 : Array Value) (hw : ∀ d ∈ tables_1, d.before a0 Z = true) (ws : List Jvm.Cond) (a1 : Addr) (a2 : Addr) (cs : List Int32) (ka : ClassId) (G1 : Int32) (h0 : Heap) (n0 : Nat) (Z0 : n0 ≤ h0.size) (E : Exa Z h0 a1 "java/lang/String") (FV : Fld Z h0 a1 "java/lang/String" "value" "[B" .null) (FC : Fld Z h0 a1 "java/lang/String" "coder" "B" (.int (0 : Int32))) (ga : n0 ≤ a1) (X00 : Old Z n0 h0) (O_2 : Sta Z Z.heap "java/lang/String" "COMPACT_STRINGS" "Z" (.int G1)) (P5 : ¬ (G1 = (0 : Int32))) (O_A : Sta Z Z.heap "java/lang/StringUTF16" "$assertionsDisabled" "Z" (.int (1 : Int32))) (O_H : Sta Z Z.heap "java/lang/StringUTF16" "HI_BYTE_SHIFT" "I" (.int (0 : Int32))) (O_W : Sta Z Z.heap "java/lang/StringUTF16" "LO_BYTE_SHIFT" "I" (.int (8 : Int32))) (AC : Arv Z h0 a2 ka .char (Int32.ofNat cs.length) (cs.map Value.int) (.int (0 : Int32))) (hL : cs.length < 8) (hps : 0 < cs.length) (hcs : ∀ c ∈ cs, own_ch c) (n12 : a1 ≠ a2) :
    MetFree l (⟨"java/lang/String", "<init>", "([C)V"⟩ : MethodName) (head1 (Jvm.Cond.code (⟨"java/lang/String", "<init>", "([C)V"⟩ : MethodName) jdk_42_method_3_code 2 none :: ws) ({ frames := 7, cells := 2, slots := 24, locals := 150 } : Room)) (fun a U => a = #[(.ref a1), (.ref a2)] ∧ Z.Warmed39 U.vm ∧ U.heap = h0) (fun _ _ _ _ _ => True) (fun _ U o U' => ∃ v L, o = .returned v ∧ QrI1 Z a1 a2 cs ka G1 h0 n0 v U'.heap L ∧ FrameEnd U o U' L ({ frames := 7, cells := 2, slots := 24, locals := 150 } : Room).cells ({ frames := 7, cells := 2, slots := 24, locals := 150 } : Room).slots) := by
  refine MetFree.of_bodySF (plainFor_of_name pn_2) hisR ?_
  intro p e s m args below meth c s₁ Bd hml0 hP hK
  obtain ⟨rfl, hZ, hh⟩ := hP
  have hx := Bd.exec
  have hby := Bd.bytes
  have hml : c.maxLocals = 2 := hml0
  have hown : s.vm.findClass "java/lang/String" = some m.cls := findClass_of_methodNamed Bd.named
  have hnm := (name_of_methodNamed Bd.named Bd.method).1
  have X0 : Stand p l e ({ frames := 7, cells := 2, slots := 24, locals := 150 } : Room) s m #[(.ref a1), (.ref a2)] below meth c s₁ [] 0 0 := Stand.of_body Bd
  have e0 : s₁.heap = h0 := by rw [← hh, Bd.state]; rfl
  have N0 := Fr.nil n0
  have pre0 : ∀ t, Steps p.tables e below (s₁.setTop (mkF m 0 #[.val (.ref a1), .val (.ref a2)] [])) t → Steps p.tables e below (s₁.setTop (entryFrame m #[(.ref a1), (.ref a2)] 2)) t := fun t k => castTop (ef_rI1 m a1 a2) k
  obtain ⟨cl1, Ar1, qk1, Sz1, Nn1, Hh1, Gg1⟩ := id (AC)
  obtain ⟨_, _, ⟨T2, Lq2, kq2, nq2⟩, -, X2, ⟨Lc2, hQ2, lq2, yq2, zq2⟩, st2⟩ := X0.specialBack hx (y := (⟨"java/lang/String", "<init>", "([CIILjava/lang/Void;)V"⟩ : MethodName)) rfl hown (mvT hZ (hw _ (own_w 12 rfl))) (mvT hZ (hw _ (own_w 13 rfl))) (mvT hZ (hw _ (own_w 15 rfl))) (by decide) (backOf (W := 0) (rI4 l Z a0 hw [] a1 a2 (Int32.ofNat cs.length) cs ka G1 h0 n0 Z0 E FV FC ga X00 O_2 P5 O_A O_H O_W AC hL hps hcs n12 rfl) hZ (hw _ (own_w 15 rfl)) (hw _ (own_w 8 rfl)) (by decide) (by decide)) (g := (mkF m 6 #[.val (.ref a1), .val (.ref a2)] [.null, (.int (Int32.ofNat cs.length)), (.int (0 : Int32)), (.ref a2), (.ref a1)])) rfl (by rw [hml]; rfl) (Steps.refl _) (a := a1) (argsL := [(.ref a2), (.int (0 : Int32)), (.int (Int32.ofNat cs.length)), .null]) (rest := []) (lenOf pd_14 rfl) rfl (by show 2 * 0 + _ ≤ _; exact Nat.le_of_eq rfl) (hb hby d2_6) (fun _ _ => ⟨rfl, e0, (by decide : 0 + 2 ≤ _), (by decide : 0 + 24 ≤ _)⟩)
  dsimp only [Pt.U, Pt.locs, Pt.cells, Pt.slots] at X2 lq2 yq2 zq2 st2 hQ2
  subst lq2 yq2 zq2
  obtain ⟨rfl, N2q, KC2, TS2⟩ := hQ2
  have N2 := Fr.app N0 N2q
  have Z2 : n0 ≤ T2.heap.size := Nat.le_trans Z0 KC2.1
  have K2 : Keep h0 T2.heap [a1] := (Keep.refl h0 [a1]).trans KC2 (allS (Or.inl (own_w 0 rfl)) all0)
  obtain ⟨fs, hr, hrun, hended, hW, hsame⟩ := X2.leave (v := none) (fun _ => rfl) (BodyLoose.notSynchronized Bd)
  refine ⟨_, _, pre0 _ ?_, hrun, hended, _, _, rfl, ?_, ⟨_, rfl⟩, hW, hsame.mono (by decide) (by decide)⟩
  · show Steps p.tables e below (s₁.setTop (mkF m 0 #[.val (.ref a1), .val (.ref a2)] [])) _
    refine XS.aloadN X0.here hx rfl (hb hby d2_0) rfl rfl ?_
    refine XS.aloadN X0.here hx rfl (hb hby d2_1) rfl rfl ?_
    refine XS.iconst X0.here hx rfl (hb hby d2_2) ?_
    refine XS.aloadN X0.here hx rfl (hb hby d2_3) rfl rfl ?_
    refine X0.arraylength hx (by rw [e0]; exact Ar1.1) (State.isArrayOf_alike hZ.alike Ar1.2.1) (g := (mkF m 4 #[.val (.ref a1), .val (.ref a2)] [(.ref a2), (.int (0 : Int32)), (.ref a2), (.ref a1)])) rfl rfl (hb hby d2_4) _ ?_
    rw [len_of Sz1 Nn1]
    refine XS.aconstNull X0.here hx rfl (hb hby d2_5) ?_
    refine st2.trans ?_
    exact X2.returnOut hx Bd.returns (hb hby d2_9) hr
  · show QrI1 Z a1 a2 cs ka G1 h0 n0 _ T2.heap _
    exact ⟨rfl, N2, K2, TS2⟩
theorem d26_0 : decode jdk_65_method_131_code 0 = .ok (.iload_n 1, 1) := by decide +kernel
theorem d26_1 : decode jdk_65_method_131_code 1 = .ok (.iload_n 0, 1) := by decide +kernel
theorem d26_2 : decode jdk_65_method_131_code 2 = .ok (.if_icmp .ge 35, 3) := by decide +kernel
theorem d26_37 : decode jdk_65_method_131_code 37 = .ok (.return_, 1) := by decide +kernel
theorem pn_26 : plainName "java/util/Arrays" = true := by first | (simp [plainName, overriddenIn]; done) | decide +kernel
theorem ef_rCL (m : MethodId) (p1 : Int32) (p2 : Int32) : entryFrame m #[(.int p1), (.int p2)] 2 = mkF m 0 #[.val (.int p1), .val (.int p2)] [] := by first | (simp [entryFrame, mkF, argsToLocals, Value.category]; done) | rfl
def QrCL (Z : State) (p1 : Int32) (p2 : Int32) (h0 : Heap) (n0 : Nat) (v : Option Value) (h : Heap) (L : List Loc) : Prop := v = none ∧ Fr n0 L ∧ h = h0
set_option maxRecDepth 65536 in
set_option maxHeartbeats 40000000 in
theorem rCL (l : Launch) (Z : State) (a0 : Array Value) (hw : ∀ d ∈ tables_1, d.before a0 Z = true) (ws : List Jvm.Cond) (p1 : Int32) (p2 : Int32) (h0 : Heap) (n0 : Nat) (Z0 : n0 ≤ h0.size) (hm : ¬ p2 < p1) :
    MetFree l (⟨"java/util/Arrays", "checkLength", "(II)V"⟩ : MethodName) (head1 (Jvm.Cond.code (⟨"java/util/Arrays", "checkLength", "(II)V"⟩ : MethodName) jdk_65_method_131_code 2 none :: ws) ({ frames := 0, cells := 0, slots := 0, locals := 0 } : Room)) (fun a U => a = #[(.int p1), (.int p2)] ∧ Z.Warmed39 U.vm ∧ U.heap = h0) (fun _ _ _ _ _ => True) (fun _ U o U' => ∃ v L, o = .returned v ∧ QrCL Z p1 p2 h0 n0 v U'.heap L ∧ FrameEnd U o U' L ({ frames := 0, cells := 0, slots := 0, locals := 0 } : Room).cells ({ frames := 0, cells := 0, slots := 0, locals := 0 } : Room).slots) := by
  refine MetFree.of_bodySF (plainFor_of_name pn_26) hisR ?_
  intro p e s m args below meth c s₁ Bd hml0 hP hK
  obtain ⟨rfl, hZ, hh⟩ := hP
  have hx := Bd.exec
  have hby := Bd.bytes
  have hml : c.maxLocals = 2 := hml0
  have hown : s.vm.findClass "java/util/Arrays" = some m.cls := findClass_of_methodNamed Bd.named
  have hnm := (name_of_methodNamed Bd.named Bd.method).1
  have X0 : Stand p l e ({ frames := 0, cells := 0, slots := 0, locals := 0 } : Room) s m #[(.int p1), (.int p2)] below meth c s₁ [] 0 0 := Stand.of_body Bd
  have e0 : s₁.heap = h0 := by rw [← hh, Bd.state]; rfl
  have N0 := Fr.nil n0
  have pre0 : ∀ t, Steps p.tables e below (s₁.setTop (mkF m 0 #[.val (.int p1), .val (.int p2)] [])) t → Steps p.tables e below (s₁.setTop (entryFrame m #[(.int p1), (.int p2)] 2)) t := fun t k => castTop (ef_rCL m p1 p2) k
  obtain ⟨fs, hr, hrun, hended, hW, hsame⟩ := X0.leave (v := none) (fun _ => rfl) (BodyLoose.notSynchronized Bd)
  refine ⟨_, _, pre0 _ ?_, hrun, hended, _, _, rfl, ?_, ⟨_, rfl⟩, hW, hsame.mono (by decide) (by decide)⟩
  · show Steps p.tables e below (s₁.setTop (mkF m 0 #[.val (.int p1), .val (.int p2)] [])) _
    refine XS.iloadN X0.here hx rfl (hb hby d26_0) rfl ?_
    refine XS.iloadN X0.here hx rfl (hb hby d26_1) rfl ?_
    refine XS.icmpYes X0.here hx rfl (pc0 := 2) (pc' := 37) rfl (hb hby d26_2) rfl (flt hm).2.1 (by decide) (by decide) ?_
    exact X0.returnOut hx Bd.returns (hb hby d26_37) hr
  · show QrCL Z p1 p2 h0 n0 _ s₁.heap _
    exact ⟨rfl, N0, e0⟩
theorem d27_0 : decode jdk_29_method_69_code 0 = .ok (.iload_n 0, 1) := by decide +kernel
theorem d27_1 : decode jdk_29_method_69_code 1 = .ok (.iload_n 1, 1) := by decide +kernel
theorem d27_2 : decode jdk_29_method_69_code 2 = .ok (.if_icmp .gt 7, 3) := by decide +kernel
theorem d27_5 : decode jdk_29_method_69_code 5 = .ok (.iload_n 0, 1) := by decide +kernel
theorem d27_6 : decode jdk_29_method_69_code 6 = .ok (.goto 4, 3) := by decide +kernel
theorem d27_9 : decode jdk_29_method_69_code 9 = .ok (.iload_n 1, 1) := by decide +kernel
theorem d27_10 : decode jdk_29_method_69_code 10 = .ok (.ireturn, 1) := by decide +kernel
theorem ef_rMn (m : MethodId) (p1 : Int32) (p2 : Int32) : entryFrame m #[(.int p1), (.int p2)] 2 = mkF m 0 #[.val (.int p1), .val (.int p2)] [] := by first | (simp [entryFrame, mkF, argsToLocals, Value.category]; done) | rfl
def QrMn (Z : State) (p1 : Int32) (p2 : Int32) (h0 : Heap) (n0 : Nat) (v : Option Value) (h : Heap) (L : List Loc) : Prop := ∃ z : Int32, z = (if p2 < p1 then p2 else p1) ∧ v = some (.int z) ∧ Fr n0 L ∧ h = h0
set_option maxRecDepth 65536 in
set_option maxHeartbeats 40000000 in
theorem rMn (l : Launch) (Z : State) (a0 : Array Value) (hw : ∀ d ∈ tables_1, d.before a0 Z = true) (ws : List Jvm.Cond) (p1 : Int32) (p2 : Int32) (h0 : Heap) (n0 : Nat) (Z0 : n0 ≤ h0.size) :
    MetFree l (⟨"java/lang/Math", "min", "(II)I"⟩ : MethodName) (head1 (Jvm.Cond.code (⟨"java/lang/Math", "min", "(II)I"⟩ : MethodName) jdk_29_method_69_code 2 (some .int) :: ws) ({ frames := 0, cells := 0, slots := 0, locals := 0 } : Room)) (fun a U => a = #[(.int p1), (.int p2)] ∧ Z.Warmed39 U.vm ∧ U.heap = h0) (fun _ _ _ _ _ => True) (fun _ U o U' => ∃ v L, o = .returned v ∧ QrMn Z p1 p2 h0 n0 v U'.heap L ∧ FrameEnd U o U' L ({ frames := 0, cells := 0, slots := 0, locals := 0 } : Room).cells ({ frames := 0, cells := 0, slots := 0, locals := 0 } : Room).slots) := by
  refine MetFree.of_bodySF (Jvm.Free.JP.mathPlain rfl (by decide +kernel)) hisR ?_
  intro p e s m args below meth c s₁ Bd hml0 hP hK
  obtain ⟨rfl, hZ, hh⟩ := hP
  have hx := Bd.exec
  have hby := Bd.bytes
  have hml : c.maxLocals = 2 := hml0
  have hown : s.vm.findClass "java/lang/Math" = some m.cls := findClass_of_methodNamed Bd.named
  have hnm := (name_of_methodNamed Bd.named Bd.method).1
  have X0 : Stand p l e ({ frames := 0, cells := 0, slots := 0, locals := 0 } : Room) s m #[(.int p1), (.int p2)] below meth c s₁ [] 0 0 := Stand.of_body Bd
  have e0 : s₁.heap = h0 := by rw [← hh, Bd.state]; rfl
  have N0 := Fr.nil n0
  have pre0 : ∀ t, Steps p.tables e below (s₁.setTop (mkF m 0 #[.val (.int p1), .val (.int p2)] [])) t → Steps p.tables e below (s₁.setTop (entryFrame m #[(.int p1), (.int p2)] 2)) t := fun t k => castTop (ef_rMn m p1 p2) k
  by_cases hc2 : p2 < p1
  · obtain ⟨fs, hr, hrun, hended, hW, hsame⟩ := X0.leave (v := some (.int p2)) (fun h => by rw [Bd.returns] at h; cases h) (BodyLoose.notSynchronized Bd)
    refine ⟨_, _, pre0 _ ?_, hrun, hended, _, _, rfl, ?_, ⟨_, rfl⟩, hW, hsame.mono (by decide) (by decide)⟩
    · show Steps p.tables e below (s₁.setTop (mkF m 0 #[.val (.int p1), .val (.int p2)] [])) _
      refine XS.iloadN X0.here hx rfl (hb hby d27_0) rfl ?_
      refine XS.iloadN X0.here hx rfl (hb hby d27_1) rfl ?_
      refine XS.icmpYes X0.here hx rfl (pc0 := 2) (pc' := 9) rfl (hb hby d27_2) rfl (tlt hc2).2.2.1 (by decide) (by decide) ?_
      refine XS.iloadN X0.here hx rfl (hb hby d27_9) rfl ?_
      exact retI X0 hx Bd.returns (hb hby d27_10) hr
    · show QrMn Z p1 p2 h0 n0 _ s₁.heap _
      exact ⟨_, by simp [*], rfl, N0, e0⟩
  · obtain ⟨fs, hr, hrun, hended, hW, hsame⟩ := X0.leave (v := some (.int p1)) (fun h => by rw [Bd.returns] at h; cases h) (BodyLoose.notSynchronized Bd)
    refine ⟨_, _, pre0 _ ?_, hrun, hended, _, _, rfl, ?_, ⟨_, rfl⟩, hW, hsame.mono (by decide) (by decide)⟩
    · show Steps p.tables e below (s₁.setTop (mkF m 0 #[.val (.int p1), .val (.int p2)] [])) _
      refine XS.iloadN X0.here hx rfl (hb hby d27_0) rfl ?_
      refine XS.iloadN X0.here hx rfl (hb hby d27_1) rfl ?_
      refine XS.icmpNo X0.here hx rfl (hb hby d27_2) rfl (flt hc2).2.2.1 ?_
      refine XS.iloadN X0.here hx rfl (hb hby d27_5) rfl ?_
      refine XS.goto X0.here hx rfl (pc0 := 6) (pc' := 10) rfl (hb hby d27_6) (by decide) (by decide) ?_
      exact retI X0 hx Bd.returns (hb hby d27_10) hr
    · show QrMn Z p1 p2 h0 n0 _ s₁.heap _
      exact ⟨_, by simp [*], rfl, N0, e0⟩
theorem pd_15 : parseMethodDescriptor "(II)I" = some ⟨[.int, .int], some .int⟩ := by decide +kernel
theorem d25_0 : decode jdk_65_method_133_code 0 = .ok (.iload_n 1, 1) := by decide +kernel
theorem d25_1 : decode jdk_65_method_133_code 1 = .ok (.iload_n 2, 1) := by decide +kernel
theorem d25_2 : decode jdk_65_method_133_code 2 = .ok (.invokestatic 343, 3) := by decide +kernel
theorem d25_5 : decode jdk_65_method_133_code 5 = .ok (.iload_n 2, 1) := by decide +kernel
theorem d25_6 : decode jdk_65_method_133_code 6 = .ok (.iload_n 1, 1) := by decide +kernel
theorem d25_7 : decode jdk_65_method_133_code 7 = .ok (.isub, 1) := by decide +kernel
theorem d25_8 : decode jdk_65_method_133_code 8 = .ok (.istore_n 3, 1) := by decide +kernel
theorem d25_9 : decode jdk_65_method_133_code 9 = .ok (.iload_n 3, 1) := by decide +kernel
theorem d25_10 : decode jdk_65_method_133_code 10 = .ok (.newarray .byte, 2) := by decide +kernel
theorem d25_12 : decode jdk_65_method_133_code 12 = .ok (.astore 4, 2) := by decide +kernel
theorem d25_14 : decode jdk_65_method_133_code 14 = .ok (.aload_n 0, 1) := by decide +kernel
theorem d25_15 : decode jdk_65_method_133_code 15 = .ok (.iload_n 1, 1) := by decide +kernel
theorem d25_16 : decode jdk_65_method_133_code 16 = .ok (.aload 4, 2) := by decide +kernel
theorem d25_18 : decode jdk_65_method_133_code 18 = .ok (.iconst 0, 1) := by decide +kernel
theorem d25_19 : decode jdk_65_method_133_code 19 = .ok (.aload_n 0, 1) := by decide +kernel
theorem d25_20 : decode jdk_65_method_133_code 20 = .ok (.arraylength, 1) := by decide +kernel
theorem d25_21 : decode jdk_65_method_133_code 21 = .ok (.iload_n 1, 1) := by decide +kernel
theorem d25_22 : decode jdk_65_method_133_code 22 = .ok (.isub, 1) := by decide +kernel
theorem d25_23 : decode jdk_65_method_133_code 23 = .ok (.iload_n 3, 1) := by decide +kernel
theorem d25_24 : decode jdk_65_method_133_code 24 = .ok (.invokestatic 304, 3) := by decide +kernel
theorem d25_27 : decode jdk_65_method_133_code 27 = .ok (.invokestatic 150, 3) := by decide +kernel
theorem d25_30 : decode jdk_65_method_133_code 30 = .ok (.aload 4, 2) := by decide +kernel
theorem d25_32 : decode jdk_65_method_133_code 32 = .ok (.areturn, 1) := by decide +kernel
theorem pn_25 : plainName "java/util/Arrays" = true := by first | (simp [plainName, overriddenIn]; done) | decide +kernel
theorem ef_rRb (m : MethodId) (a1 : Addr) (p2 : Int32) (p3 : Int32) : entryFrame m #[(.ref a1), (.int p2), (.int p3)] 5 = mkF m 0 #[.val (.ref a1), .val (.int p2), .val (.int p3), .unset, .unset] [] := by first | (simp [entryFrame, mkF, argsToLocals, Value.category]; done) | rfl
def QrRb (Z : State) (a1 : Addr) (p2 : Int32) (p3 : Int32) (k : ClassId) (nn : Nat) (f : Nat) (w : Nat) (vs : List Value) (h0 : Heap) (n0 : Nat) (v : Option Value) (h : Heap) (L : List Loc) : Prop := ∃ (o : Addr) (ok : ClassId), v = some (.ref o) ∧ Fr n0 L ∧ Keep h0 h [] ∧ n0 ≤ o ∧ h0.size ≤ o ∧ Arv Z h o ok .byte (Int32.ofNat w) ((List.range w).map fun i => vs.getD (f + i) (.int (0 : Int32))) (.int (0 : Int32))
set_option maxRecDepth 65536 in
set_option maxHeartbeats 40000000 in
theorem rRb (l : Launch) (Z : State) (a0 : Array Value) (hw : ∀ d ∈ tables_1, d.before a0 Z = true) (ws : List Jvm.Cond) (a1 : Addr) (p2 : Int32) (p3 : Int32) (k : ClassId) (nn : Nat) (f : Nat) (w : Nat) (vs : List Value) (h0 : Heap) (n0 : Nat) (Z0 : n0 ≤ h0.size) (AV : Arv Z h0 a1 k .byte (Int32.ofNat nn) (vs) (.int (0 : Int32))) (hp2 : p2 = Int32.ofNat f) (hp3 : p3 = Int32.ofNat (f + w)) (hfw : f + w ≤ nn) (hN : nn < 16) :
    MetFree l (⟨"java/util/Arrays", "copyOfRangeByte", "([BII)[B"⟩ : MethodName) (head1 (Jvm.Cond.code (⟨"java/util/Arrays", "copyOfRangeByte", "([BII)[B"⟩ : MethodName) jdk_65_method_133_code 5 (some (.array .byte)) :: ws) ({ frames := 1, cells := 1, slots := 16, locals := 18 } : Room)) (fun a U => a = #[(.ref a1), (.int p2), (.int p3)] ∧ Z.Warmed39 U.vm ∧ U.heap = h0) (fun _ _ _ _ _ => True) (fun _ U o U' => ∃ v L, o = .returned v ∧ QrRb Z a1 p2 p3 k nn f w vs h0 n0 v U'.heap L ∧ FrameEnd U o U' L ({ frames := 1, cells := 1, slots := 16, locals := 18 } : Room).cells ({ frames := 1, cells := 1, slots := 16, locals := 18 } : Room).slots) := by
  refine MetFree.of_bodySF (plainFor_of_name pn_25) hisR ?_
  intro p e s m args below meth c s₁ Bd hml0 hP hK
  obtain ⟨rfl, hZ, hh⟩ := hP
  have hx := Bd.exec
  have hby := Bd.bytes
  have hml : c.maxLocals = 5 := hml0
  have hown : s.vm.findClass "java/util/Arrays" = some m.cls := findClass_of_methodNamed Bd.named
  have hnm := (name_of_methodNamed Bd.named Bd.method).1
  have X0 : Stand p l e ({ frames := 1, cells := 1, slots := 16, locals := 18 } : Room) s m #[(.ref a1), (.int p2), (.int p3)] below meth c s₁ [] 0 0 := Stand.of_body Bd
  have e0 : s₁.heap = h0 := by rw [← hh, Bd.state]; rfl
  have N0 := Fr.nil n0
  have pre0 : ∀ t, Steps p.tables e below (s₁.setTop (mkF m 0 #[.val (.ref a1), .val (.int p2), .val (.int p3), .unset, .unset] [])) t → Steps p.tables e below (s₁.setTop (entryFrame m #[(.ref a1), (.int p2), (.int p3)] 5)) t := fun t k => castTop (ef_rRb m a1 p2 p3) k
  obtain ⟨_, _, ⟨T1, Lq1, kq1, nq1⟩, -, X1, ⟨Lc1, hQ1, lq1, yq1, zq1⟩, st1⟩ := Jvm.LawKit.callS X0 hx (y := (⟨"java/util/Arrays", "checkLength", "(II)V"⟩ : MethodName)) hown (mvT hZ (hw _ (own_w 115 rfl))) (mvT hZ (hw _ (own_w 116 rfl))) (mvT hZ (hw _ (own_w 110 rfl))) (mvT hZ (hw _ (own_w 117 rfl))) (by decide) (backOf (W := 0) (rCL l Z a0 hw [] (Int32.ofNat f) (Int32.ofNat (f + w))  h0 n0 Z0 (own_xle (by omega) (by omega))) hZ (hw _ (own_w 117 rfl)) (hw _ (own_w 110 rfl)) (by decide) (by decide)) (g := (mkF m 2 #[.val (.ref a1), .val (.int (Int32.ofNat f)), .val (.int (Int32.ofNat (f + w))), .unset, .unset] [(.int (Int32.ofNat (f + w))), (.int (Int32.ofNat f))])) rfl (by rw [hml]; rfl) (argsL := [(.int (Int32.ofNat f)), (.int (Int32.ofNat (f + w)))]) (rest := []) (lenOf pd_3 rfl) rfl (by show 2 * 0 + _ ≤ _; exact Nat.le_of_eq rfl) (hb hby d25_2) (fun _ _ => ⟨rfl, e0, (by decide : 0 + 0 ≤ _), (by decide : 0 + 0 ≤ _)⟩)
  dsimp only [Pt.U, Pt.locs, Pt.cells, Pt.slots] at X1 lq1 yq1 zq1 st1 hQ1
  subst lq1 yq1 zq1
  obtain ⟨rfl, N1q, e1⟩ := hQ1
  have N1 := Fr.app N0 N1q
  obtain ⟨T2, h2, ck2, X2, e2, E2, A2, st2⟩ := newP X1 hx hZ (hw _ (own_w 20 rfl)) e1 (g := (mkF m 10 #[.val (.ref a1), .val (.int (Int32.ofNat f)), .val (.int (Int32.ofNat (f + w))), .val (.int (Int32.ofNat w)), .unset] [(.int (Int32.ofNat w))])) rfl (hb hby d25_10) rfl (own_x0 (by omega)) (cap := 16) (by rw [own_xN (by omega)]; omega) (by decide) (by decide) (by decide)
  obtain ⟨b2o, g2⟩ : ∃ z, z = h0.size := ⟨_, rfl⟩
  have b2 : n0 ≤ b2o := Nat.le_trans Z0 (Nat.le_of_eq g2.symm)
  have bk2 : h0.size ≤ b2o := Nat.le_trans (Keep.refl h0 []).1 (Nat.le_of_eq g2.symm)
  have ne3 : a1 ≠ b2o := Nat.ne_of_lt (Nat.lt_of_lt_of_le AV.lt (Nat.le_of_eq g2.symm))
  rw [← g2] at A2 st2
  have Z2 : n0 ≤ h2.size := Nat.le_trans Z0 E2.1
  have K2 : Keep h0 h2 [] := (Keep.refl h0 []).ext E2
  have V2 : Arv Z h2 b2o ck2 .byte (Int32.ofNat w) (List.replicate (w) (.int (0 : Int32))) (.int (0 : Int32)) := (Arv.new A2 (own_x0 (by omega))).pad (pad_rep [] (.int (0 : Int32)) (w))
  have f4 := (AV.ext E2)
  obtain ⟨cl5, Ar5, qk5, Sz5, Nn5, Hh5, Gg5⟩ := id (f4)
  obtain ⟨_, _, ⟨T6, Lq6, kq6, nq6⟩, -, X6, ⟨Lc6, hQ6, lq6, yq6, zq6⟩, st6⟩ := Jvm.LawKit.callS X2 hx (y := (⟨"java/lang/Math", "min", "(II)I"⟩ : MethodName)) hown (mvT hZ (hw _ (own_w 118 rfl))) (mvT hZ (hw _ (own_w 119 rfl))) (mvT hZ (hw _ (own_w 120 rfl))) (mvT hZ (hw _ (own_w 121 rfl))) (by decide) (backOf (W := 4) (rMn l Z a0 hw [] (Int32.ofNat (nn - f)) (Int32.ofNat w)  h2 n0 Z2 ) hZ (hw _ (own_w 121 rfl)) (hw _ (own_w 120 rfl)) (by decide) (by decide)) (g := (mkF m 24 #[.val (.ref a1), .val (.int (Int32.ofNat f)), .val (.int (Int32.ofNat (f + w))), .val (.int (Int32.ofNat w)), .val (.ref b2o)] [(.int (Int32.ofNat w)), (.int (Int32.ofNat (nn - f))), (.int (0 : Int32)), (.ref b2o), (.int (Int32.ofNat f)), (.ref a1)])) rfl (by rw [hml]; rfl) (argsL := [(.int (Int32.ofNat (nn - f))), (.int (Int32.ofNat w))]) (rest := [(.int (0 : Int32)), (.ref b2o), (.int (Int32.ofNat f)), (.ref a1)]) (lenOf pd_15 rfl) rfl (by show 2 * 0 + _ ≤ _; exact Nat.le_of_eq rfl) (hb hby d25_24) (fun _ _ => ⟨rfl, e2, (by decide : 1 + 0 ≤ _), (by decide : 16 + 0 ≤ _)⟩)
  dsimp only [Pt.U, Pt.locs, Pt.cells, Pt.slots] at X6 lq6 yq6 zq6 st6 hQ6
  subst lq6 yq6 zq6
  obtain ⟨r6, hr6, rfl, N6q, e6⟩ := hQ6
  have N6 := Fr.app N1 N6q
  obtain ⟨T7, h7, L7, X7, e7, N7, KC7, V7, st7⟩ := cpA X6 hx hZ hown (hw _ (own_w 122 rfl)) (hw _ (own_w 125 rfl)) (hw _ (own_w 123 rfl)) (hw _ (own_w 124 rfl)) e6 (sp := (Int32.ofNat f)) (dp := (0 : Int32)) (nn := (Int32.ofNat w)) (us := (List.range w).map fun i => vs.getD (f + i) (.int (0 : Int32))) f4 V2 (Or.inl ⟨rfl, rfl⟩) (own_x0 (by omega)) (by decide) (own_x0 (by omega)) (by rw [own_xN (by omega), own_xN (by omega), own_xN (by omega)]; omega) (by rw [own_xN (by omega), show (0 : Int32).toNatClampNeg = 0 from by decide]; omega) (by rw [own_xN (by omega : f < 16), own_xN (by omega : w < 16)]) (by rw [own_xN (by omega), show (0 : Int32).toNatClampNeg = 0 from by decide, List.length_replicate]; omega) N6 b2 (g := (mkF m 27 #[.val (.ref a1), .val (.int (Int32.ofNat f)), .val (.int (Int32.ofNat (f + w))), .val (.int (Int32.ofNat w)), .val (.ref b2o)] [(.int (Int32.ofNat w)), (.int (0 : Int32)), (.ref b2o), (.int (Int32.ofNat f)), (.ref a1)])) rfl (by rw [hml]; rfl) rfl (hb hby d25_27) (by decide) (W := 0) (by show 2 * 0 + _ ≤ _; exact Nat.le_of_eq rfl) (by decide)
  rw [own_cpL (by omega)] at V7
  have Z7 : n0 ≤ h7.size := Nat.le_trans Z2 KC7.1
  have K7 : Keep h0 h7 [] := K2.trans KC7 (allS (Or.inr bk2) all0)
  obtain ⟨fs, hr, hrun, hended, hW, hsame⟩ := X7.leave (v := some (.ref b2o)) (fun h => by rw [Bd.returns] at h; cases h) (BodyLoose.notSynchronized Bd)
  refine ⟨_, _, pre0 _ ?_, hrun, hended, _, _, rfl, ?_, ⟨_, rfl⟩, hW, hsame.mono (by decide) (by decide)⟩
  · show Steps p.tables e below (s₁.setTop (mkF m 0 #[.val (.ref a1), .val (.int p2), .val (.int p3), .unset, .unset] [])) _
    rw [hp2]
    show Steps p.tables e below (s₁.setTop (mkF m 0 #[.val (.ref a1), .val (.int (Int32.ofNat f)), .val (.int p3), .unset, .unset] [])) _
    rw [hp3]
    refine XS.iloadN X0.here hx rfl (hb hby d25_0) rfl ?_
    refine XS.iloadN X0.here hx rfl (hb hby d25_1) rfl ?_
    refine st1 _ ?_
    refine XS.iloadN X1.here hx rfl (hb hby d25_5) rfl ?_
    refine XS.iloadN X1.here hx rfl (hb hby d25_6) rfl ?_
    refine XS.isub X1.here hx rfl (hb hby d25_7) rfl ?_
    show Steps p.tables e below (T1.setTop (mkF m 8 #[.val (.ref a1), .val (.int (Int32.ofNat f)), .val (.int (Int32.ofNat (f + w))), .unset, .unset] [(.int ((Int32.ofNat (f + w)) - (Int32.ofNat f)))])) _
    rw [(own_xsubw (show f + w < 16 by omega))]
    refine XS.istoreN X1.here hx rfl (hb hby d25_8) rfl (l' := #[.val (.ref a1), .val (.int (Int32.ofNat f)), .val (.int (Int32.ofNat (f + w))), .val (.int (Int32.ofNat w)), .unset]) rfl ?_
    refine XS.iloadN X1.here hx rfl (hb hby d25_9) rfl ?_
    refine st2 _ ?_
    refine XS.astore X2.here hx rfl (hb hby d25_12) rfl rfl (l' := #[.val (.ref a1), .val (.int (Int32.ofNat f)), .val (.int (Int32.ofNat (f + w))), .val (.int (Int32.ofNat w)), .val (.ref b2o)]) rfl ?_
    refine XS.aloadN X2.here hx rfl (hb hby d25_14) rfl rfl ?_
    refine XS.iloadN X2.here hx rfl (hb hby d25_15) rfl ?_
    refine XS.aload X2.here hx rfl (hb hby d25_16) rfl rfl ?_
    refine XS.iconst X2.here hx rfl (hb hby d25_18) ?_
    refine XS.aloadN X2.here hx rfl (hb hby d25_19) rfl rfl ?_
    refine X2.arraylength hx (by rw [e2]; exact Ar5.1) (State.isArrayOf_alike hZ.alike Ar5.2.1) (g := (mkF m 20 #[.val (.ref a1), .val (.int (Int32.ofNat f)), .val (.int (Int32.ofNat (f + w))), .val (.int (Int32.ofNat w)), .val (.ref b2o)] [(.ref a1), (.int (0 : Int32)), (.ref b2o), (.int (Int32.ofNat f)), (.ref a1)])) rfl rfl (hb hby d25_20) _ ?_
    rw [len_of Sz5 Nn5]
    refine XS.iloadN X2.here hx rfl (hb hby d25_21) rfl ?_
    refine XS.isub X2.here hx rfl (hb hby d25_22) rfl ?_
    show Steps p.tables e below (T2.setTop (mkF m 23 #[.val (.ref a1), .val (.int (Int32.ofNat f)), .val (.int (Int32.ofNat (f + w))), .val (.int (Int32.ofNat w)), .val (.ref b2o)] [(.int ((Int32.ofNat nn) - (Int32.ofNat f))), (.int (0 : Int32)), (.ref b2o), (.int (Int32.ofNat f)), (.ref a1)])) _
    rw [(own_xsub hN (by omega))]
    refine XS.iloadN X2.here hx rfl (hb hby d25_23) rfl ?_
    refine st6 _ ?_
    show Steps p.tables e below (T6.setTop (mkF m 27 #[.val (.ref a1), .val (.int (Int32.ofNat f)), .val (.int (Int32.ofNat (f + w))), .val (.int (Int32.ofNat w)), .val (.ref b2o)] [(.int r6), (.int (0 : Int32)), (.ref b2o), (.int (Int32.ofNat f)), (.ref a1)])) _
    rw [(hr6.trans (own_xmin (by omega) (by omega)))]
    refine st7 _ ?_
    refine XS.aload X7.here hx rfl (hb hby d25_30) rfl rfl ?_
    exact X7.areturnOut hx rfl Bd.returns rfl (hb hby d25_32) hr
  · show QrRb Z a1 p2 p3 k nn f w vs h0 n0 _ T7.heap _
    rw [e7]
    exact ⟨b2o, _, rfl, N7, K7, b2, bk2, V7⟩
theorem pd_16 : parseMethodDescriptor "([BII)[B" = some ⟨[(.array .byte), .int, .int], some (.array .byte)⟩ := by decide +kernel
theorem d24_0 : decode jdk_65_method_132_code 0 = .ok (.iload_n 1, 1) := by decide +kernel
theorem d24_1 : decode jdk_65_method_132_code 1 = .ok (.ifCond .ne 9, 3) := by decide +kernel
theorem d24_4 : decode jdk_65_method_132_code 4 = .ok (.iload_n 2, 1) := by decide +kernel
theorem d24_5 : decode jdk_65_method_132_code 5 = .ok (.aload_n 0, 1) := by decide +kernel
theorem d24_6 : decode jdk_65_method_132_code 6 = .ok (.arraylength, 1) := by decide +kernel
theorem d24_7 : decode jdk_65_method_132_code 7 = .ok (.if_icmp .eq 10, 3) := by decide +kernel
theorem d24_10 : decode jdk_65_method_132_code 10 = .ok (.aload_n 0, 1) := by decide +kernel
theorem d24_11 : decode jdk_65_method_132_code 11 = .ok (.iload_n 1, 1) := by decide +kernel
theorem d24_12 : decode jdk_65_method_132_code 12 = .ok (.iload_n 2, 1) := by decide +kernel
theorem d24_13 : decode jdk_65_method_132_code 13 = .ok (.invokestatic 339, 3) := by decide +kernel
theorem d24_16 : decode jdk_65_method_132_code 16 = .ok (.areturn, 1) := by decide +kernel
theorem pn_24 : plainName "java/util/Arrays" = true := by first | (simp [plainName, overriddenIn]; done) | decide +kernel
theorem ef_rCr (m : MethodId) (a1 : Addr) (p2 : Int32) (p3 : Int32) : entryFrame m #[(.ref a1), (.int p2), (.int p3)] 3 = mkF m 0 #[.val (.ref a1), .val (.int p2), .val (.int p3)] [] := by first | (simp [entryFrame, mkF, argsToLocals, Value.category]; done) | rfl
def QrCr (Z : State) (a1 : Addr) (p2 : Int32) (p3 : Int32) (k : ClassId) (nn : Nat) (f : Nat) (w : Nat) (vs : List Value) (h0 : Heap) (n0 : Nat) (v : Option Value) (h : Heap) (L : List Loc) : Prop := ∃ (o : Addr) (ok : ClassId), v = some (.ref o) ∧ Fr n0 L ∧ Keep h0 h [] ∧ n0 ≤ o ∧ h0.size ≤ o ∧ Arv Z h o ok .byte (Int32.ofNat w) ((List.range w).map fun i => vs.getD (f + i) (.int (0 : Int32))) (.int (0 : Int32))
set_option maxRecDepth 65536 in
set_option maxHeartbeats 40000000 in
theorem rCr (l : Launch) (Z : State) (a0 : Array Value) (hw : ∀ d ∈ tables_1, d.before a0 Z = true) (ws : List Jvm.Cond) (a1 : Addr) (p2 : Int32) (p3 : Int32) (k : ClassId) (nn : Nat) (f : Nat) (w : Nat) (vs : List Value) (h0 : Heap) (n0 : Nat) (Z0 : n0 ≤ h0.size) (AV : Arv Z h0 a1 k .byte (Int32.ofNat nn) (vs) (.int (0 : Int32))) (hp2 : p2 = Int32.ofNat f) (hp3 : p3 = Int32.ofNat (f + w)) (hfw : f + w ≤ nn) (hN : nn < 16) (hne : ¬ (p2 = (0 : Int32) ∧ p3 = Int32.ofNat nn)) :
    MetFree l (⟨"java/util/Arrays", "copyOfRange", "([BII)[B"⟩ : MethodName) (head1 (Jvm.Cond.code (⟨"java/util/Arrays", "copyOfRange", "([BII)[B"⟩ : MethodName) jdk_65_method_132_code 3 (some (.array .byte)) :: ws) ({ frames := 2, cells := 1, slots := 16, locals := 34 } : Room)) (fun a U => a = #[(.ref a1), (.int p2), (.int p3)] ∧ Z.Warmed39 U.vm ∧ U.heap = h0) (fun _ _ _ _ _ => True) (fun _ U o U' => ∃ v L, o = .returned v ∧ QrCr Z a1 p2 p3 k nn f w vs h0 n0 v U'.heap L ∧ FrameEnd U o U' L ({ frames := 2, cells := 1, slots := 16, locals := 34 } : Room).cells ({ frames := 2, cells := 1, slots := 16, locals := 34 } : Room).slots) := by
  refine MetFree.of_bodySF (plainFor_of_name pn_24) hisR ?_
  intro p e s m args below meth c s₁ Bd hml0 hP hK
  obtain ⟨rfl, hZ, hh⟩ := hP
  have hx := Bd.exec
  have hby := Bd.bytes
  have hml : c.maxLocals = 3 := hml0
  have hown : s.vm.findClass "java/util/Arrays" = some m.cls := findClass_of_methodNamed Bd.named
  have hnm := (name_of_methodNamed Bd.named Bd.method).1
  have X0 : Stand p l e ({ frames := 2, cells := 1, slots := 16, locals := 34 } : Room) s m #[(.ref a1), (.int p2), (.int p3)] below meth c s₁ [] 0 0 := Stand.of_body Bd
  have e0 : s₁.heap = h0 := by rw [← hh, Bd.state]; rfl
  have N0 := Fr.nil n0
  have pre0 : ∀ t, Steps p.tables e below (s₁.setTop (mkF m 0 #[.val (.ref a1), .val (.int p2), .val (.int p3)] [])) t → Steps p.tables e below (s₁.setTop (entryFrame m #[(.ref a1), (.int p2), (.int p3)] 3)) t := fun t k => castTop (ef_rCr m a1 p2 p3) k
  by_cases hc1 : p2 = (0 : Int32)
  · obtain ⟨cl1, Ar1, qk1, Sz1, Nn1, Hh1, Gg1⟩ := id (AV)
    obtain ⟨_, _, ⟨T2, Lq2, kq2, nq2⟩, -, X2, ⟨Lc2, hQ2, lq2, yq2, zq2⟩, st2⟩ := Jvm.LawKit.callS X0 hx (y := (⟨"java/util/Arrays", "copyOfRangeByte", "([BII)[B"⟩ : MethodName)) hown (mvT hZ (hw _ (own_w 112 rfl))) (mvT hZ (hw _ (own_w 113 rfl))) (mvT hZ (hw _ (own_w 110 rfl))) (mvT hZ (hw _ (own_w 114 rfl))) (by decide) (backOf (W := 0) (rRb l Z a0 hw [] a1 p2 p3 k (nn) (f) (w) (vs) h0 n0 Z0 AV hp2 hp3 hfw hN) hZ (hw _ (own_w 114 rfl)) (hw _ (own_w 110 rfl)) (by decide) (by decide)) (g := (mkF m 13 #[.val (.ref a1), .val (.int p2), .val (.int p3)] [(.int p3), (.int p2), (.ref a1)])) rfl (by rw [hml]; rfl) (argsL := [(.ref a1), (.int p2), (.int p3)]) (rest := []) (lenOf pd_16 rfl) rfl (by show 2 * 0 + _ ≤ _; exact Nat.le_of_eq rfl) (hb hby d24_13) (fun _ _ => ⟨rfl, e0, (by decide : 0 + 1 ≤ _), (by decide : 0 + 16 ≤ _)⟩)
    dsimp only [Pt.U, Pt.locs, Pt.cells, Pt.slots] at X2 lq2 yq2 zq2 st2 hQ2
    subst lq2 yq2 zq2
    obtain ⟨o2, ok2, rfl, N2q, KC2, go2, gk2, V2⟩ := hQ2
    have N2 := Fr.app N0 N2q
    have Z2 : n0 ≤ T2.heap.size := Nat.le_trans Z0 KC2.1
    have ne3 : a1 ≠ o2 := Nat.ne_of_lt (Nat.lt_of_lt_of_le AV.lt gk2)
    have K2 : Keep h0 T2.heap [] := (Keep.refl h0 []).trans KC2 all0
    obtain ⟨fs, hr, hrun, hended, hW, hsame⟩ := X2.leave (v := some (.ref o2)) (fun h => by rw [Bd.returns] at h; cases h) (BodyLoose.notSynchronized Bd)
    refine ⟨_, _, pre0 _ ?_, hrun, hended, _, _, rfl, ?_, ⟨_, rfl⟩, hW, hsame.mono (by decide) (by decide)⟩
    · show Steps p.tables e below (s₁.setTop (mkF m 0 #[.val (.ref a1), .val (.int p2), .val (.int p3)] [])) _
      refine XS.iloadN X0.here hx rfl (hb hby d24_0) rfl ?_
      refine XS.ifNo X0.here hx rfl (hb hby d24_1) rfl ((if0 _ _).trans (teq hc1).2) ?_
      refine XS.iloadN X0.here hx rfl (hb hby d24_4) rfl ?_
      refine XS.aloadN X0.here hx rfl (hb hby d24_5) rfl rfl ?_
      refine X0.arraylength hx (by rw [e0]; exact Ar1.1) (State.isArrayOf_alike hZ.alike Ar1.2.1) (g := (mkF m 6 #[.val (.ref a1), .val (.int p2), .val (.int p3)] [(.ref a1), (.int p3)])) rfl rfl (hb hby d24_6) _ ?_
      rw [len_of Sz1 Nn1]
      refine XS.icmpNo X0.here hx rfl (hb hby d24_7) rfl (feq (fun q => hne ⟨hc1, q⟩)).1 ?_
      refine XS.aloadN X0.here hx rfl (hb hby d24_10) rfl rfl ?_
      refine XS.iloadN X0.here hx rfl (hb hby d24_11) rfl ?_
      refine XS.iloadN X0.here hx rfl (hb hby d24_12) rfl ?_
      refine st2 _ ?_
      exact X2.areturnOut hx rfl Bd.returns rfl (hb hby d24_16) hr
    · show QrCr Z a1 p2 p3 k nn f w vs h0 n0 _ T2.heap _
      exact ⟨o2, _, rfl, N2, K2, go2, (Nat.le_trans (Keep.refl h0 []).1 gk2), V2⟩
  · obtain ⟨_, _, ⟨T4, Lq4, kq4, nq4⟩, -, X4, ⟨Lc4, hQ4, lq4, yq4, zq4⟩, st4⟩ := Jvm.LawKit.callS X0 hx (y := (⟨"java/util/Arrays", "copyOfRangeByte", "([BII)[B"⟩ : MethodName)) hown (mvT hZ (hw _ (own_w 112 rfl))) (mvT hZ (hw _ (own_w 113 rfl))) (mvT hZ (hw _ (own_w 110 rfl))) (mvT hZ (hw _ (own_w 114 rfl))) (by decide) (backOf (W := 0) (rRb l Z a0 hw [] a1 p2 p3 k (nn) (f) (w) (vs) h0 n0 Z0 AV hp2 hp3 hfw hN) hZ (hw _ (own_w 114 rfl)) (hw _ (own_w 110 rfl)) (by decide) (by decide)) (g := (mkF m 13 #[.val (.ref a1), .val (.int p2), .val (.int p3)] [(.int p3), (.int p2), (.ref a1)])) rfl (by rw [hml]; rfl) (argsL := [(.ref a1), (.int p2), (.int p3)]) (rest := []) (lenOf pd_16 rfl) rfl (by show 2 * 0 + _ ≤ _; exact Nat.le_of_eq rfl) (hb hby d24_13) (fun _ _ => ⟨rfl, e0, (by decide : 0 + 1 ≤ _), (by decide : 0 + 16 ≤ _)⟩)
    dsimp only [Pt.U, Pt.locs, Pt.cells, Pt.slots] at X4 lq4 yq4 zq4 st4 hQ4
    subst lq4 yq4 zq4
    obtain ⟨o4, ok4, rfl, N4q, KC4, go4, gk4, V4⟩ := hQ4
    have N4 := Fr.app N0 N4q
    have Z4 : n0 ≤ T4.heap.size := Nat.le_trans Z0 KC4.1
    have ne5 : a1 ≠ o4 := Nat.ne_of_lt (Nat.lt_of_lt_of_le AV.lt gk4)
    have K4 : Keep h0 T4.heap [] := (Keep.refl h0 []).trans KC4 all0
    obtain ⟨fs, hr, hrun, hended, hW, hsame⟩ := X4.leave (v := some (.ref o4)) (fun h => by rw [Bd.returns] at h; cases h) (BodyLoose.notSynchronized Bd)
    refine ⟨_, _, pre0 _ ?_, hrun, hended, _, _, rfl, ?_, ⟨_, rfl⟩, hW, hsame.mono (by decide) (by decide)⟩
    · show Steps p.tables e below (s₁.setTop (mkF m 0 #[.val (.ref a1), .val (.int p2), .val (.int p3)] [])) _
      refine XS.iloadN X0.here hx rfl (hb hby d24_0) rfl ?_
      refine XS.ifYes X0.here hx rfl (pc0 := 1) (pc' := 10) rfl (hb hby d24_1) rfl ((if0 _ _).trans (feq hc1).2) (by decide) (by decide) ?_
      refine XS.aloadN X0.here hx rfl (hb hby d24_10) rfl rfl ?_
      refine XS.iloadN X0.here hx rfl (hb hby d24_11) rfl ?_
      refine XS.iloadN X0.here hx rfl (hb hby d24_12) rfl ?_
      refine st4 _ ?_
      exact X4.areturnOut hx rfl Bd.returns rfl (hb hby d24_16) hr
    · show QrCr Z a1 p2 p3 k nn f w vs h0 n0 _ T4.heap _
      exact ⟨o4, _, rfl, N4, K4, go4, (Nat.le_trans (Keep.refl h0 []).1 gk4), V4⟩
theorem d28_0 : decode jdk_42_method_151_code 0 = .ok (.aload_n 0, 1) := by decide +kernel
theorem d28_1 : decode jdk_42_method_151_code 1 = .ok (.invokespecial 1, 3) := by decide +kernel
theorem d28_4 : decode jdk_42_method_151_code 4 = .ok (.aload_n 0, 1) := by decide +kernel
theorem d28_5 : decode jdk_42_method_151_code 5 = .ok (.aload_n 1, 1) := by decide +kernel
theorem d28_6 : decode jdk_42_method_151_code 6 = .ok (.putfield 9, 3) := by decide +kernel
theorem d28_9 : decode jdk_42_method_151_code 9 = .ok (.aload_n 0, 1) := by decide +kernel
theorem d28_10 : decode jdk_42_method_151_code 10 = .ok (.iload_n 2, 1) := by decide +kernel
theorem d28_11 : decode jdk_42_method_151_code 11 = .ok (.putfield 15, 3) := by decide +kernel
theorem d28_14 : decode jdk_42_method_151_code 14 = .ok (.return_, 1) := by decide +kernel
theorem pn_28 : plainName "java/lang/String" = true := by first | (simp [plainName, overriddenIn]; done) | decide +kernel
theorem ef_rT0 (m : MethodId) (a1 : Addr) (a2 : Addr) : entryFrame m #[(.ref a1), (.ref a2), (.int (0 : Int32))] 3 = mkF m 0 #[.val (.ref a1), .val (.ref a2), .val (.int (0 : Int32))] [] := by first | (simp [entryFrame, mkF, argsToLocals, Value.category]; done) | rfl
def QrT0 (Z : State) (a1 : Addr) (a2 : Addr) (h0 : Heap) (n0 : Nat) (v : Option Value) (h : Heap) (L : List Loc) : Prop := v = none ∧ Fr n0 L ∧ Keep h0 h [a1] ∧ Exa Z h a1 "java/lang/String" ∧ Fld Z h a1 "java/lang/String" "value" "[B" (.ref a2) ∧ Fld Z h a1 "java/lang/String" "coder" "B" (.int (0 : Int32))
set_option maxRecDepth 65536 in
set_option maxHeartbeats 40000000 in
theorem rT0 (l : Launch) (Z : State) (a0 : Array Value) (hw : ∀ d ∈ tables_1, d.before a0 Z = true) (ws : List Jvm.Cond) (a1 : Addr) (a2 : Addr) (h0 : Heap) (n0 : Nat) (Z0 : n0 ≤ h0.size) (E : Exa Z h0 a1 "java/lang/String") (FV : Fld Z h0 a1 "java/lang/String" "value" "[B" .null) (FC : Fld Z h0 a1 "java/lang/String" "coder" "B" (.int (0 : Int32))) (ga : n0 ≤ a1) :
    MetFree l (⟨"java/lang/String", "<init>", "([BB)V"⟩ : MethodName) (head1 (Jvm.Cond.code (⟨"java/lang/String", "<init>", "([BB)V"⟩ : MethodName) jdk_42_method_151_code 3 none :: ws) ({ frames := 1, cells := 0, slots := 0, locals := 12 } : Room)) (fun a U => a = #[(.ref a1), (.ref a2), (.int (0 : Int32))] ∧ Z.Warmed39 U.vm ∧ U.heap = h0) (fun _ _ _ _ _ => True) (fun _ U o U' => ∃ v L, o = .returned v ∧ QrT0 Z a1 a2 h0 n0 v U'.heap L ∧ FrameEnd U o U' L ({ frames := 1, cells := 0, slots := 0, locals := 12 } : Room).cells ({ frames := 1, cells := 0, slots := 0, locals := 12 } : Room).slots) := by
  refine MetFree.of_bodySF (plainFor_of_name pn_28) hisR ?_
  intro p e s m args below meth c s₁ Bd hml0 hP hK
  obtain ⟨rfl, hZ, hh⟩ := hP
  have hx := Bd.exec
  have hby := Bd.bytes
  have hml : c.maxLocals = 3 := hml0
  have hown : s.vm.findClass "java/lang/String" = some m.cls := findClass_of_methodNamed Bd.named
  have hnm := (name_of_methodNamed Bd.named Bd.method).1
  have X0 : Stand p l e ({ frames := 1, cells := 0, slots := 0, locals := 12 } : Room) s m #[(.ref a1), (.ref a2), (.int (0 : Int32))] below meth c s₁ [] 0 0 := Stand.of_body Bd
  have e0 : s₁.heap = h0 := by rw [← hh, Bd.state]; rfl
  have N0 := Fr.nil n0
  have pre0 : ∀ t, Steps p.tables e below (s₁.setTop (mkF m 0 #[.val (.ref a1), .val (.ref a2), .val (.int (0 : Int32))] [])) t → Steps p.tables e below (s₁.setTop (entryFrame m #[(.ref a1), (.ref a2), (.int (0 : Int32))] 3)) t := fun t k => castTop (ef_rT0 m a1 a2) k
  obtain ⟨T1, X1, e1, st1⟩ := initO X0 hx hZ hown (hw _ (own_w 16 rfl)) (hw _ (own_w 17 rfl)) (hw _ (own_w 18 rfl)) e0 (g := (mkF m 1 #[.val (.ref a1), .val (.ref a2), .val (.int (0 : Int32))] [(.ref a1)])) rfl (by rw [hml]; rfl) rfl (hb hby d28_1) (by decide) (W := 0) (by show 2 * 0 + _ ≤ _; exact Nat.le_of_eq rfl) (by decide)
  obtain ⟨T2, h2, X2, e2, W2, st2⟩ := putF X1 hx hZ hown (host := "") (Or.inl (hw _ (own_w 25 rfl))) Via.refl e1 FV E (Or.inr ⟨(hw _ (own_w 21 rfl)), rfl, hnm⟩) (hw _ (own_w 7 rfl)) (ty := (.array .byte)) (by decide) rfl rfl (g := (mkF m 6 #[.val (.ref a1), .val (.ref a2), .val (.int (0 : Int32))] [(.ref a2), (.ref a1)])) rfl rfl (hb hby d28_6)
  have N2 := Fr.snoc X2 N0 ga
  have Z2 : n0 ≤ h2.size := by rw [W2.size]; exact Z0
  have K2 : Keep h0 h2 [a1] := (Keep.refl h0 [a1]).wr W2 (Or.inl (own_w 0 rfl))
  have Fw2 := FV.same W2
  have f3 := (E.wr W2)
  have f4 := (FC.other W2 (Or.inr (slot_ne (Or.inr (hw _ (own_w 22 rfl))) (Or.inr (hw _ (own_w 21 rfl))) (by decide) (t := .byte) (t' := (.array .byte)) (by decide) (by decide))))
  obtain ⟨T5, h5, X5, e5, W5, st5⟩ := putFN X2 hx hZ hown (hw _ (own_w 26 rfl)) Via.refl e2 f4 f3 (Or.inr ⟨(hw _ (own_w 22 rfl)), rfl, hnm⟩) (hw _ (own_w 7 rfl)) (ty := .byte) (v' := (.int (nar .byte (0 : Int32)))) (by decide) rfl (fits_nar_byte _) (g := (mkF m 11 #[.val (.ref a1), .val (.ref a2), .val (.int (0 : Int32))] [(.int (0 : Int32)), (.ref a1)])) rfl rfl (hb hby d28_11)
  have N5 := Fr.snoc X5 N2 ga
  have Z5 : n0 ≤ h5.size := by rw [W5.size]; exact Z2
  have K5 : Keep h0 h5 [a1] := K2.wr W5 (Or.inl (own_w 0 rfl))
  have Fw5 := f4.same W5
  obtain ⟨fs, hr, hrun, hended, hW, hsame⟩ := X5.leave (v := none) (fun _ => rfl) (BodyLoose.notSynchronized Bd)
  refine ⟨_, _, pre0 _ ?_, hrun, hended, _, _, rfl, ?_, ⟨_, rfl⟩, hW, hsame.mono (by decide) (by decide)⟩
  · show Steps p.tables e below (s₁.setTop (mkF m 0 #[.val (.ref a1), .val (.ref a2), .val (.int (0 : Int32))] [])) _
    refine XS.aloadN X0.here hx rfl (hb hby d28_0) rfl rfl ?_
    refine st1 _ ?_
    refine XS.aloadN X1.here hx rfl (hb hby d28_4) rfl rfl ?_
    refine XS.aloadN X1.here hx rfl (hb hby d28_5) rfl rfl ?_
    refine st2 _ ?_
    refine XS.aloadN X2.here hx rfl (hb hby d28_9) rfl rfl ?_
    refine XS.iloadN X2.here hx rfl (hb hby d28_10) rfl ?_
    refine st5 _ ?_
    exact X5.returnOut hx Bd.returns (hb hby d28_14) hr
  · show QrT0 Z a1 a2 h0 n0 _ T5.heap _
    have f6 := (f3.wr W5)
    have f7 := (Fw2.other W5 (Or.inr (slot_ne (Or.inr (hw _ (own_w 21 rfl))) (Or.inr (hw _ (own_w 22 rfl))) (by decide) (t := (.array .byte)) (t' := .byte) (by decide) (by decide))))
    have fc := Fw5
    rw [own_nb0] at fc
    rw [e5]
    exact ⟨rfl, N5, K5, f6, f7, fc⟩
theorem ef_rT1 (m : MethodId) (a1 : Addr) (a2 : Addr) : entryFrame m #[(.ref a1), (.ref a2), (.int (1 : Int32))] 3 = mkF m 0 #[.val (.ref a1), .val (.ref a2), .val (.int (1 : Int32))] [] := by first | (simp [entryFrame, mkF, argsToLocals, Value.category]; done) | rfl
def QrT1 (Z : State) (a1 : Addr) (a2 : Addr) (h0 : Heap) (n0 : Nat) (v : Option Value) (h : Heap) (L : List Loc) : Prop := v = none ∧ Fr n0 L ∧ Keep h0 h [a1] ∧ Exa Z h a1 "java/lang/String" ∧ Fld Z h a1 "java/lang/String" "value" "[B" (.ref a2) ∧ Fld Z h a1 "java/lang/String" "coder" "B" (.int (1 : Int32))
set_option maxRecDepth 65536 in
set_option maxHeartbeats 40000000 in
theorem rT1 (l : Launch) (Z : State) (a0 : Array Value) (hw : ∀ d ∈ tables_1, d.before a0 Z = true) (ws : List Jvm.Cond) (a1 : Addr) (a2 : Addr) (h0 : Heap) (n0 : Nat) (Z0 : n0 ≤ h0.size) (E : Exa Z h0 a1 "java/lang/String") (FV : Fld Z h0 a1 "java/lang/String" "value" "[B" .null) (FC : Fld Z h0 a1 "java/lang/String" "coder" "B" (.int (0 : Int32))) (ga : n0 ≤ a1) :
    MetFree l (⟨"java/lang/String", "<init>", "([BB)V"⟩ : MethodName) (head1 (Jvm.Cond.code (⟨"java/lang/String", "<init>", "([BB)V"⟩ : MethodName) jdk_42_method_151_code 3 none :: ws) ({ frames := 1, cells := 0, slots := 0, locals := 12 } : Room)) (fun a U => a = #[(.ref a1), (.ref a2), (.int (1 : Int32))] ∧ Z.Warmed39 U.vm ∧ U.heap = h0) (fun _ _ _ _ _ => True) (fun _ U o U' => ∃ v L, o = .returned v ∧ QrT1 Z a1 a2 h0 n0 v U'.heap L ∧ FrameEnd U o U' L ({ frames := 1, cells := 0, slots := 0, locals := 12 } : Room).cells ({ frames := 1, cells := 0, slots := 0, locals := 12 } : Room).slots) := by
  refine MetFree.of_bodySF (plainFor_of_name pn_28) hisR ?_
  intro p e s m args below meth c s₁ Bd hml0 hP hK
  obtain ⟨rfl, hZ, hh⟩ := hP
  have hx := Bd.exec
  have hby := Bd.bytes
  have hml : c.maxLocals = 3 := hml0
  have hown : s.vm.findClass "java/lang/String" = some m.cls := findClass_of_methodNamed Bd.named
  have hnm := (name_of_methodNamed Bd.named Bd.method).1
  have X0 : Stand p l e ({ frames := 1, cells := 0, slots := 0, locals := 12 } : Room) s m #[(.ref a1), (.ref a2), (.int (1 : Int32))] below meth c s₁ [] 0 0 := Stand.of_body Bd
  have e0 : s₁.heap = h0 := by rw [← hh, Bd.state]; rfl
  have N0 := Fr.nil n0
  have pre0 : ∀ t, Steps p.tables e below (s₁.setTop (mkF m 0 #[.val (.ref a1), .val (.ref a2), .val (.int (1 : Int32))] [])) t → Steps p.tables e below (s₁.setTop (entryFrame m #[(.ref a1), (.ref a2), (.int (1 : Int32))] 3)) t := fun t k => castTop (ef_rT1 m a1 a2) k
  obtain ⟨T1, X1, e1, st1⟩ := initO X0 hx hZ hown (hw _ (own_w 16 rfl)) (hw _ (own_w 17 rfl)) (hw _ (own_w 18 rfl)) e0 (g := (mkF m 1 #[.val (.ref a1), .val (.ref a2), .val (.int (1 : Int32))] [(.ref a1)])) rfl (by rw [hml]; rfl) rfl (hb hby d28_1) (by decide) (W := 0) (by show 2 * 0 + _ ≤ _; exact Nat.le_of_eq rfl) (by decide)
  obtain ⟨T2, h2, X2, e2, W2, st2⟩ := putF X1 hx hZ hown (host := "") (Or.inl (hw _ (own_w 25 rfl))) Via.refl e1 FV E (Or.inr ⟨(hw _ (own_w 21 rfl)), rfl, hnm⟩) (hw _ (own_w 7 rfl)) (ty := (.array .byte)) (by decide) rfl rfl (g := (mkF m 6 #[.val (.ref a1), .val (.ref a2), .val (.int (1 : Int32))] [(.ref a2), (.ref a1)])) rfl rfl (hb hby d28_6)
  have N2 := Fr.snoc X2 N0 ga
  have Z2 : n0 ≤ h2.size := by rw [W2.size]; exact Z0
  have K2 : Keep h0 h2 [a1] := (Keep.refl h0 [a1]).wr W2 (Or.inl (own_w 0 rfl))
  have Fw2 := FV.same W2
  have f3 := (E.wr W2)
  have f4 := (FC.other W2 (Or.inr (slot_ne (Or.inr (hw _ (own_w 22 rfl))) (Or.inr (hw _ (own_w 21 rfl))) (by decide) (t := .byte) (t' := (.array .byte)) (by decide) (by decide))))
  obtain ⟨T5, h5, X5, e5, W5, st5⟩ := putFN X2 hx hZ hown (hw _ (own_w 26 rfl)) Via.refl e2 f4 f3 (Or.inr ⟨(hw _ (own_w 22 rfl)), rfl, hnm⟩) (hw _ (own_w 7 rfl)) (ty := .byte) (v' := (.int (nar .byte (1 : Int32)))) (by decide) rfl (fits_nar_byte _) (g := (mkF m 11 #[.val (.ref a1), .val (.ref a2), .val (.int (1 : Int32))] [(.int (1 : Int32)), (.ref a1)])) rfl rfl (hb hby d28_11)
  have N5 := Fr.snoc X5 N2 ga
  have Z5 : n0 ≤ h5.size := by rw [W5.size]; exact Z2
  have K5 : Keep h0 h5 [a1] := K2.wr W5 (Or.inl (own_w 0 rfl))
  have Fw5 := f4.same W5
  obtain ⟨fs, hr, hrun, hended, hW, hsame⟩ := X5.leave (v := none) (fun _ => rfl) (BodyLoose.notSynchronized Bd)
  refine ⟨_, _, pre0 _ ?_, hrun, hended, _, _, rfl, ?_, ⟨_, rfl⟩, hW, hsame.mono (by decide) (by decide)⟩
  · show Steps p.tables e below (s₁.setTop (mkF m 0 #[.val (.ref a1), .val (.ref a2), .val (.int (1 : Int32))] [])) _
    refine XS.aloadN X0.here hx rfl (hb hby d28_0) rfl rfl ?_
    refine st1 _ ?_
    refine XS.aloadN X1.here hx rfl (hb hby d28_4) rfl rfl ?_
    refine XS.aloadN X1.here hx rfl (hb hby d28_5) rfl rfl ?_
    refine st2 _ ?_
    refine XS.aloadN X2.here hx rfl (hb hby d28_9) rfl rfl ?_
    refine XS.iloadN X2.here hx rfl (hb hby d28_10) rfl ?_
    refine st5 _ ?_
    exact X5.returnOut hx Bd.returns (hb hby d28_14) hr
  · show QrT1 Z a1 a2 h0 n0 _ T5.heap _
    have f6 := (f3.wr W5)
    have f7 := (Fw2.other W5 (Or.inr (slot_ne (Or.inr (hw _ (own_w 21 rfl))) (Or.inr (hw _ (own_w 22 rfl))) (by decide) (t := (.array .byte)) (t' := .byte) (by decide) (by decide))))
    have fc := Fw5
    rw [own_nb1] at fc
    rw [e5]
    exact ⟨rfl, N5, K5, f6, f7, fc⟩
theorem pd_17 : parseMethodDescriptor "([BB)V" = some ⟨[(.array .byte), .byte], none⟩ := by decide +kernel
theorem d23_0 : decode jdk_43_method_47_code 0 = .ok (.iload_n 2, 1) := by decide +kernel
theorem d23_1 : decode jdk_43_method_47_code 1 = .ok (.ifCond .ne 6, 3) := by decide +kernel
theorem d23_7 : decode jdk_43_method_47_code 7 = .ok (.new 1, 3) := by decide +kernel
theorem d23_10 : decode jdk_43_method_47_code 10 = .ok (.dup, 1) := by decide +kernel
theorem d23_11 : decode jdk_43_method_47_code 11 = .ok (.aload_n 0, 1) := by decide +kernel
theorem d23_12 : decode jdk_43_method_47_code 12 = .ok (.iload_n 1, 1) := by decide +kernel
theorem d23_13 : decode jdk_43_method_47_code 13 = .ok (.iload_n 1, 1) := by decide +kernel
theorem d23_14 : decode jdk_43_method_47_code 14 = .ok (.iload_n 2, 1) := by decide +kernel
theorem d23_15 : decode jdk_43_method_47_code 15 = .ok (.iadd, 1) := by decide +kernel
theorem d23_16 : decode jdk_43_method_47_code 16 = .ok (.invokestatic 232, 3) := by decide +kernel
theorem d23_19 : decode jdk_43_method_47_code 19 = .ok (.iconst 0, 1) := by decide +kernel
theorem d23_20 : decode jdk_43_method_47_code 20 = .ok (.invokespecial 112, 3) := by decide +kernel
theorem d23_23 : decode jdk_43_method_47_code 23 = .ok (.areturn, 1) := by decide +kernel
theorem pn_23 : plainName "java/lang/StringLatin1" = true := by first | (simp [plainName, overriddenIn]; done) | decide +kernel
theorem ef_rLn (m : MethodId) (a1 : Addr) (p2 : Int32) (p3 : Int32) : entryFrame m #[(.ref a1), (.int p2), (.int p3)] 3 = mkF m 0 #[.val (.ref a1), .val (.int p2), .val (.int p3)] [] := by first | (simp [entryFrame, mkF, argsToLocals, Value.category]; done) | rfl
def QrLn (Z : State) (a1 : Addr) (p2 : Int32) (p3 : Int32) (k : ClassId) (cs : List Int32) (ct : List Int32) (b : Nat) (h0 : Heap) (n0 : Nat) (v : Option Value) (h : Heap) (L : List Loc) : Prop := ∃ o : Addr, v = some (.ref o) ∧ Fr n0 L ∧ Keep h0 h [] ∧ own_S Z h o ct
set_option maxRecDepth 65536 in
set_option maxHeartbeats 40000000 in
theorem rLn (l : Launch) (Z : State) (a0 : Array Value) (hw : ∀ d ∈ tables_1, d.before a0 Z = true) (ws : List Jvm.Cond) (a1 : Addr) (p2 : Int32) (p3 : Int32) (k : ClassId) (cs : List Int32) (ct : List Int32) (b : Nat) (h0 : Heap) (n0 : Nat) (Z0 : n0 ≤ h0.size) (AV : Arv Z h0 a1 k .byte (Int32.ofNat cs.length) (own_lat cs) (.int (0 : Int32))) (hp2 : p2 = Int32.ofNat b) (hp3 : p3 = Int32.ofNat ct.length) (hs : own_sub cs b ct) (hps : 0 < ct.length) (hne : ¬ (b = 0 ∧ b + ct.length = cs.length)) (hL : cs.length < 8) (hl : ∀ c ∈ cs, c.toInt < 256) :
    MetFree l (⟨"java/lang/StringLatin1", "newString", "([BII)Ljava/lang/String;"⟩ : MethodName) (head1 (Jvm.Cond.code (⟨"java/lang/StringLatin1", "newString", "([BII)Ljava/lang/String;"⟩ : MethodName) jdk_43_method_47_code 3 (some (.object "java/lang/String")) :: ws) ({ frames := 3, cells := 2, slots := 20, locals := 50 } : Room)) (fun a U => a = #[(.ref a1), (.int p2), (.int p3)] ∧ Z.Warmed39 U.vm ∧ U.heap = h0) (fun _ _ _ _ _ => True) (fun _ U o U' => ∃ v L, o = .returned v ∧ QrLn Z a1 p2 p3 k cs ct b h0 n0 v U'.heap L ∧ FrameEnd U o U' L ({ frames := 3, cells := 2, slots := 20, locals := 50 } : Room).cells ({ frames := 3, cells := 2, slots := 20, locals := 50 } : Room).slots) := by
  refine MetFree.of_bodySF (plainFor_of_name pn_23) hisR ?_
  intro p e s m args below meth c s₁ Bd hml0 hP hK
  obtain ⟨rfl, hZ, hh⟩ := hP
  have hx := Bd.exec
  have hby := Bd.bytes
  have hml : c.maxLocals = 3 := hml0
  have hown : s.vm.findClass "java/lang/StringLatin1" = some m.cls := findClass_of_methodNamed Bd.named
  have hnm := (name_of_methodNamed Bd.named Bd.method).1
  have X0 : Stand p l e ({ frames := 3, cells := 2, slots := 20, locals := 50 } : Room) s m #[(.ref a1), (.int p2), (.int p3)] below meth c s₁ [] 0 0 := Stand.of_body Bd
  have e0 : s₁.heap = h0 := by rw [← hh, Bd.state]; rfl
  have N0 := Fr.nil n0
  have pre0 : ∀ t, Steps p.tables e below (s₁.setTop (mkF m 0 #[.val (.ref a1), .val (.int p2), .val (.int p3)] [])) t → Steps p.tables e below (s₁.setTop (entryFrame m #[(.ref a1), (.int p2), (.int p3)] 3)) t := fun t k => castTop (ef_rLn m a1 p2 p3) k
  obtain ⟨T1, h1, X1, e1, E1, A1, D1, -, st1⟩ := newO X0 hx hZ hown (hw _ (own_w 107 rfl)) (hw _ (own_w 7 rfl)) (hw _ (own_w 8 rfl)) e0 (g := (mkF m 7 #[.val (.ref a1), .val (.int (Int32.ofNat b)), .val (.int (Int32.ofNat ct.length))] [])) rfl (hb hby d23_7) (by decide) (by decide)
  obtain ⟨b1o, g1⟩ : ∃ z, z = h0.size := ⟨_, rfl⟩
  have b1 : n0 ≤ b1o := Nat.le_trans Z0 (Nat.le_of_eq g1.symm)
  have bk1 : h0.size ≤ b1o := Nat.le_trans (Keep.refl h0 []).1 (Nat.le_of_eq g1.symm)
  have ne2 : a1 ≠ b1o := Nat.ne_of_lt (Nat.lt_of_lt_of_le AV.lt (Nat.le_of_eq g1.symm))
  rw [← g1] at A1 D1 st1
  have Z1 : n0 ≤ h1.size := Nat.le_trans Z0 E1.1
  have K1 : Keep h0 h1 [] := (Keep.refl h0 []).ext E1
  have F1_21 : Fld Z h1 b1o "java/lang/String" "value" "[B" .null := D1 (Or.inr (hw _ (own_w 21 rfl))) (ty := (.array .byte)) (by decide)
  have F1_22 : Fld Z h1 b1o "java/lang/String" "coder" "B" (.int (0 : Int32)) := D1 (Or.inr (hw _ (own_w 22 rfl))) (ty := .byte) (by decide)
  have f4 := (AV.ext E1)
  obtain ⟨_, _, ⟨T3, Lq3, kq3, nq3⟩, -, X3, ⟨Lc3, hQ3, lq3, yq3, zq3⟩, st3⟩ := Jvm.LawKit.callS X1 hx (y := (⟨"java/util/Arrays", "copyOfRange", "([BII)[B"⟩ : MethodName)) hown (mvT hZ (hw _ (own_w 108 rfl))) (mvT hZ (hw _ (own_w 109 rfl))) (mvT hZ (hw _ (own_w 110 rfl))) (mvT hZ (hw _ (own_w 111 rfl))) (by decide) (backOf (W := 2) (rCr l Z a0 hw [] a1 (Int32.ofNat b) (Int32.ofNat (b + ct.length)) k (cs.length) (b) (ct.length) (own_lat cs) h1 n0 Z1 f4 rfl rfl hs.1 (by omega) (fun q => hne ⟨(own_xeq (by have := hs.1; omega) (by omega : 0 < 16)).mp q.1, (own_xeq (by have := hs.1; omega) (by omega)).mp q.2⟩)) hZ (hw _ (own_w 111 rfl)) (hw _ (own_w 110 rfl)) (by decide) (by decide)) (g := (mkF m 16 #[.val (.ref a1), .val (.int (Int32.ofNat b)), .val (.int (Int32.ofNat ct.length))] [(.int (Int32.ofNat (b + ct.length))), (.int (Int32.ofNat b)), (.ref a1), (.ref b1o), (.ref b1o)])) rfl (by rw [hml]; rfl) (argsL := [(.ref a1), (.int (Int32.ofNat b)), (.int (Int32.ofNat (b + ct.length)))]) (rest := [(.ref b1o), (.ref b1o)]) (lenOf pd_16 rfl) rfl (by show 2 * 0 + _ ≤ _; exact Nat.le_of_eq rfl) (hb hby d23_16) (fun _ _ => ⟨rfl, e1, (by decide : 1 + 1 ≤ _), (by decide : 4 + 16 ≤ _)⟩)
  dsimp only [Pt.U, Pt.locs, Pt.cells, Pt.slots] at X3 lq3 yq3 zq3 st3 hQ3
  subst lq3 yq3 zq3
  obtain ⟨o3, ok3, rfl, N3q, KC3, go3, gk3, V3⟩ := hQ3
  have N3 := Fr.app N0 N3q
  have Z3 : n0 ≤ T3.heap.size := Nat.le_trans Z1 KC3.1
  have ne5 : a1 ≠ o3 := Nat.ne_of_lt (Nat.lt_of_lt_of_le f4.lt gk3)
  have ne6 : b1o ≠ o3 := Nat.ne_of_lt (Nat.lt_of_lt_of_le F1_22.lt gk3)
  have K3 : Keep h0 T3.heap [] := K1.trans KC3 all0
  have f8 := (A1.keep KC3)
  have f9 := (F1_21.keep KC3 nin0)
  have f10 := (F1_22.keep KC3 nin0)
  obtain ⟨_, _, ⟨T7, Lq7, kq7, nq7⟩, -, X7, ⟨Lc7, hQ7, lq7, yq7, zq7⟩, st7⟩ := X3.specialBack hx (y := (⟨"java/lang/String", "<init>", "([BB)V"⟩ : MethodName)) rfl hown (mvT hZ (hw _ (own_w 126 rfl))) (mvT hZ (hw _ (own_w 127 rfl))) (mvT hZ (hw _ (own_w 128 rfl))) (by decide) (backOf (W := 1) (rT0 l Z a0 hw [] b1o o3  T3.heap n0 Z3 f8 f9 f10 b1) hZ (hw _ (own_w 128 rfl)) (hw _ (own_w 8 rfl)) (by decide) (by decide)) (g := (mkF m 20 #[.val (.ref a1), .val (.int (Int32.ofNat b)), .val (.int (Int32.ofNat ct.length))] [(.int (0 : Int32)), (.ref o3), (.ref b1o), (.ref b1o)])) rfl (by rw [hml]; rfl) (Steps.refl _) (a := b1o) (argsL := [(.ref o3), (.int (0 : Int32))]) (rest := [(.ref b1o)]) (lenOf pd_17 rfl) rfl (by show 2 * 0 + _ ≤ _; exact Nat.le_of_eq rfl) (hb hby d23_20) (fun _ _ => ⟨rfl, rfl, (by decide : 2 + 0 ≤ _), (by decide : 20 + 0 ≤ _)⟩)
  dsimp only [Pt.U, Pt.locs, Pt.cells, Pt.slots] at X7 lq7 yq7 zq7 st7 hQ7
  subst lq7 yq7 zq7
  obtain ⟨rfl, N7q, KC7, u7⟩ := hQ7
  have N7 := Fr.app N3 N7q
  have Z7 : n0 ≤ T7.heap.size := Nat.le_trans Z3 KC7.1
  have K7 : Keep h0 T7.heap [] := K3.trans KC7 (allS (Or.inr bk1) all0)
  obtain ⟨uE7, uV7, uC7⟩ := u7
  obtain ⟨fs, hr, hrun, hended, hW, hsame⟩ := X7.leave (v := some (.ref b1o)) (fun h => by rw [Bd.returns] at h; cases h) (BodyLoose.notSynchronized Bd)
  refine ⟨_, _, pre0 _ ?_, hrun, hended, _, _, rfl, ?_, ⟨_, rfl⟩, hW, hsame.mono (by decide) (by decide)⟩
  · show Steps p.tables e below (s₁.setTop (mkF m 0 #[.val (.ref a1), .val (.int p2), .val (.int p3)] [])) _
    rw [hp2]
    show Steps p.tables e below (s₁.setTop (mkF m 0 #[.val (.ref a1), .val (.int (Int32.ofNat b)), .val (.int p3)] [])) _
    rw [hp3]
    refine XS.iloadN X0.here hx rfl (hb hby d23_0) rfl ?_
    refine XS.ifYes X0.here hx rfl (pc0 := 1) (pc' := 7) rfl (hb hby d23_1) rfl ((if0 _ _).trans (feq (own_xne (by have := hs.1; omega) hps)).2) (by decide) (by decide) ?_
    refine st1 _ ?_
    refine XS.dup X1.here hx rfl (hb hby d23_10) rfl rfl ?_
    refine XS.aloadN X1.here hx rfl (hb hby d23_11) rfl rfl ?_
    refine XS.iloadN X1.here hx rfl (hb hby d23_12) rfl ?_
    refine XS.iloadN X1.here hx rfl (hb hby d23_13) rfl ?_
    refine XS.iloadN X1.here hx rfl (hb hby d23_14) rfl ?_
    refine XS.iadd X1.here hx rfl (hb hby d23_15) rfl ?_
    show Steps p.tables e below (T1.setTop (mkF m 16 #[.val (.ref a1), .val (.int (Int32.ofNat b)), .val (.int (Int32.ofNat ct.length))] [(.int ((Int32.ofNat b) + (Int32.ofNat ct.length))), (.int (Int32.ofNat b)), (.ref a1), (.ref b1o), (.ref b1o)])) _
    rw [(own_xadd (i := b) (j := ct.length) (by have := hs.1; omega) (by have := hs.1; omega))]
    refine st3 _ ?_
    refine XS.iconst X3.here hx rfl (hb hby d23_19) ?_
    refine st7.trans ?_
    exact X7.areturnOut hx rfl Bd.returns rfl (hb hby d23_23) hr
  · show QrLn Z a1 p2 p3 k cs ct b h0 n0 _ T7.heap _
    have f11 := (V3.keep KC7 (ninS (Ne.symm ne6) nin0))
    have qa := f11
    rw [own_subLat hs] at qa
    exact ⟨b1o, rfl, N7, K7, o3, _, uE7, uV7, Or.inl ⟨uC7, qa, (own_subLt hs hl)⟩⟩
theorem pd_18 : parseMethodDescriptor "(III)I" = some ⟨[.int, .int, .int], some .int⟩ := by decide +kernel
theorem d44_0 : decode jdk_52_method_94_code 0 = .ok (.iload_n 0, 1) := by decide +kernel
theorem d44_1 : decode jdk_52_method_94_code 1 = .ok (.iload_n 1, 1) := by decide +kernel
theorem d44_2 : decode jdk_52_method_94_code 2 = .ok (.aload_n 2, 1) := by decide +kernel
theorem d44_3 : decode jdk_52_method_94_code 3 = .ok (.invokestatic 48, 3) := by decide +kernel
theorem d44_6 : decode jdk_52_method_94_code 6 = .ok (.invokestatic 419, 3) := by decide +kernel
theorem d44_9 : decode jdk_52_method_94_code 9 = .ok (.pop, 1) := by decide +kernel
theorem d44_10 : decode jdk_52_method_94_code 10 = .ok (.return_, 1) := by decide +kernel
theorem pn_44 : plainName "java/lang/StringUTF16" = true := by first | (simp [plainName, overriddenIn]; done) | decide +kernel
theorem ef_rUo (m : MethodId) (p1 : Int32) (p2 : Int32) (a3 : Addr) : entryFrame m #[(.int p1), (.int p2), (.ref a3)] 3 = mkF m 0 #[.val (.int p1), .val (.int p2), .val (.ref a3)] [] := by first | (simp [entryFrame, mkF, argsToLocals, Value.category]; done) | rfl
def QrUo (Z : State) (p1 : Int32) (p2 : Int32) (a3 : Addr) (k : ClassId) (cs : List Int32) (b : Nat) (w : Nat) (gv : Value) (h0 : Heap) (n0 : Nat) (v : Option Value) (h : Heap) (L : List Loc) : Prop := v = none ∧ Fr n0 L ∧ h = h0
set_option maxRecDepth 65536 in
set_option maxHeartbeats 40000000 in
theorem rUo (l : Launch) (Z : State) (a0 : Array Value) (hw : ∀ d ∈ tables_1, d.before a0 Z = true) (ws : List Jvm.Cond) (p1 : Int32) (p2 : Int32) (a3 : Addr) (k : ClassId) (cs : List Int32) (b : Nat) (w : Nat) (gv : Value) (h0 : Heap) (n0 : Nat) (Z0 : n0 ≤ h0.size) (X00 : Old Z n0 h0) (O_S : Sta Z Z.heap "jdk/internal/util/Preconditions" "SIOOBE_FORMATTER" "Ljava/util/function/BiFunction;" gv) (hgv : gv.isRef = true) (AV : Arv Z h0 a3 k .byte (Int32.ofNat (2 * cs.length)) (own_utf cs) (.int (0 : Int32))) (hp1 : p1 = Int32.ofNat b) (hp2 : p2 = Int32.ofNat w) (hbw : b + w ≤ cs.length) (hL : cs.length < 8) :
    MetFree l (⟨"java/lang/StringUTF16", "checkBoundsOffCount", "(II[B)V"⟩ : MethodName) (head1 (Jvm.Cond.code (⟨"java/lang/StringUTF16", "checkBoundsOffCount", "(II[B)V"⟩ : MethodName) jdk_52_method_94_code 3 none :: ws) ({ frames := 2, cells := 0, slots := 0, locals := 29 } : Room)) (fun a U => a = #[(.int p1), (.int p2), (.ref a3)] ∧ Z.Warmed39 U.vm ∧ U.heap = h0) (fun _ _ _ _ _ => True) (fun _ U o U' => ∃ v L, o = .returned v ∧ QrUo Z p1 p2 a3 k cs b w gv h0 n0 v U'.heap L ∧ FrameEnd U o U' L ({ frames := 2, cells := 0, slots := 0, locals := 29 } : Room).cells ({ frames := 2, cells := 0, slots := 0, locals := 29 } : Room).slots) := by
  refine MetFree.of_bodySF (plainFor_of_name pn_44) hisR ?_
  intro p e s m args below meth c s₁ Bd hml0 hP hK
  obtain ⟨rfl, hZ, hh⟩ := hP
  have hx := Bd.exec
  have hby := Bd.bytes
  have hml : c.maxLocals = 3 := hml0
  have hown : s.vm.findClass "java/lang/StringUTF16" = some m.cls := findClass_of_methodNamed Bd.named
  have hnm := (name_of_methodNamed Bd.named Bd.method).1
  have X0 : Stand p l e ({ frames := 2, cells := 0, slots := 0, locals := 29 } : Room) s m #[(.int p1), (.int p2), (.ref a3)] below meth c s₁ [] 0 0 := Stand.of_body Bd
  have e0 : s₁.heap = h0 := by rw [← hh, Bd.state]; rfl
  have N0 := Fr.nil n0
  have pre0 : ∀ t, Steps p.tables e below (s₁.setTop (mkF m 0 #[.val (.int p1), .val (.int p2), .val (.ref a3)] [])) t → Steps p.tables e below (s₁.setTop (entryFrame m #[(.int p1), (.int p2), (.ref a3)] 3)) t := fun t k => castTop (ef_rUo m p1 p2 a3) k
  obtain ⟨_, _, ⟨T1, Lq1, kq1, nq1⟩, -, X1, ⟨Lc1, hQ1, lq1, yq1, zq1⟩, st1⟩ := Jvm.LawKit.callS X0 hx (y := (⟨"java/lang/StringUTF16", "length", "([B)I"⟩ : MethodName)) hown (mvT hZ (hw _ (own_w 175 rfl))) (mvT hZ (hw _ (own_w 176 rfl))) (mvT hZ (hw _ (own_w 56 rfl))) (mvT hZ (hw _ (own_w 177 rfl))) (by decide) (backOf (W := 2) (rUl l Z a0 hw [] a3 k (cs.length) (own_utf cs) h0 n0 Z0 AV hL) hZ (hw _ (own_w 177 rfl)) (hw _ (own_w 56 rfl)) (by decide) (by decide)) (g := (mkF m 3 #[.val (.int p1), .val (.int p2), .val (.ref a3)] [(.ref a3), (.int p2), (.int p1)])) rfl (by rw [hml]; rfl) (argsL := [(.ref a3)]) (rest := [(.int p2), (.int p1)]) (lenOf pd_4 rfl) rfl (by show 2 * 0 + _ ≤ _; exact Nat.le_of_eq rfl) (hb hby d44_3) (fun _ _ => ⟨rfl, e0, (by decide : 0 + 0 ≤ _), (by decide : 0 + 0 ≤ _)⟩)
  dsimp only [Pt.U, Pt.locs, Pt.cells, Pt.slots] at X1 lq1 yq1 zq1 st1 hQ1
  subst lq1 yq1 zq1
  obtain ⟨r1, hr1, rfl, N1q, e1⟩ := hQ1
  have N1 := Fr.app N0 N1q
  obtain ⟨_, _, ⟨T2, Lq2, kq2, nq2⟩, -, X2, ⟨Lc2, hQ2, lq2, yq2, zq2⟩, st2⟩ := Jvm.LawKit.callS X1 hx (y := (⟨"java/lang/String", "checkBoundsOffCount", "(III)I"⟩ : MethodName)) hown (mvT hZ (hw _ (own_w 192 rfl))) (mvT hZ (hw _ (own_w 193 rfl))) (mvT hZ (hw _ (own_w 8 rfl))) (mvT hZ (hw _ (own_w 194 rfl))) (by decide) (backOf (W := 0) (rSo l Z a0 hw [] p1 p2 r1 gv h0 n0 Z0 X00 O_S hgv (by rw [hp1, hp2, hr1]; exact (own_off hL hbw).1) (by rw [hp1, hp2, hr1]; exact (own_off hL hbw).2)) hZ (hw _ (own_w 194 rfl)) (hw _ (own_w 8 rfl)) (by decide) (by decide)) (g := (mkF m 6 #[.val (.int p1), .val (.int p2), .val (.ref a3)] [(.int r1), (.int p2), (.int p1)])) rfl (by rw [hml]; rfl) (argsL := [(.int p1), (.int p2), (.int r1)]) (rest := []) (lenOf pd_18 rfl) rfl (by show 2 * 0 + _ ≤ _; exact Nat.le_of_eq rfl) (hb hby d44_6) (fun _ _ => ⟨rfl, e1, (by decide : 0 + 0 ≤ _), (by decide : 0 + 0 ≤ _)⟩)
  dsimp only [Pt.U, Pt.locs, Pt.cells, Pt.slots] at X2 lq2 yq2 zq2 st2 hQ2
  subst lq2 yq2 zq2
  obtain ⟨r2, hr2, rfl, N2q, e2⟩ := hQ2
  have N2 := Fr.app N1 N2q
  obtain ⟨fs, hr, hrun, hended, hW, hsame⟩ := X2.leave (v := none) (fun _ => rfl) (BodyLoose.notSynchronized Bd)
  refine ⟨_, _, pre0 _ ?_, hrun, hended, _, _, rfl, ?_, ⟨_, rfl⟩, hW, hsame.mono (by decide) (by decide)⟩
  · show Steps p.tables e below (s₁.setTop (mkF m 0 #[.val (.int p1), .val (.int p2), .val (.ref a3)] [])) _
    refine XS.iloadN X0.here hx rfl (hb hby d44_0) rfl ?_
    refine XS.iloadN X0.here hx rfl (hb hby d44_1) rfl ?_
    refine XS.aloadN X0.here hx rfl (hb hby d44_2) rfl rfl ?_
    refine st1 _ ?_
    refine st2 _ ?_
    refine XS.pop X2.here hx rfl (hb hby d44_9) rfl rfl ?_
    exact X2.returnOut hx Bd.returns (hb hby d44_10) hr
  · show QrUo Z p1 p2 a3 k cs b w gv h0 n0 _ T2.heap _
    exact ⟨rfl, N2, e2⟩
theorem d43_10 : decode jdk_52_method_22_code 10 = .ok (.iload 5, 2) := by decide +kernel
theorem d43_12 : decode jdk_52_method_22_code 12 = .ok (.iload 4, 2) := by decide +kernel
theorem d43_14 : decode jdk_52_method_22_code 14 = .ok (.if_icmp .ge 39, 3) := by decide +kernel
theorem d43_17 : decode jdk_52_method_22_code 17 = .ok (.aload_n 0, 1) := by decide +kernel
theorem d43_18 : decode jdk_52_method_22_code 18 = .ok (.iload_n 1, 1) := by decide +kernel
theorem d43_19 : decode jdk_52_method_22_code 19 = .ok (.invokestatic 71, 3) := by decide +kernel
theorem d43_22 : decode jdk_52_method_22_code 22 = .ok (.istore 6, 2) := by decide +kernel
theorem d43_24 : decode jdk_52_method_22_code 24 = .ok (.iload 6, 2) := by decide +kernel
theorem d43_26 : decode jdk_52_method_22_code 26 = .ok (.sipush 255, 3) := by decide +kernel
theorem d43_29 : decode jdk_52_method_22_code 29 = .ok (.if_icmp .le 6, 3) := by decide +kernel
theorem d43_35 : decode jdk_52_method_22_code 35 = .ok (.aload_n 2, 1) := by decide +kernel
theorem d43_36 : decode jdk_52_method_22_code 36 = .ok (.iload_n 3, 1) := by decide +kernel
theorem d43_37 : decode jdk_52_method_22_code 37 = .ok (.iload 6, 2) := by decide +kernel
theorem d43_39 : decode jdk_52_method_22_code 39 = .ok (.i2b, 1) := by decide +kernel
theorem d43_40 : decode jdk_52_method_22_code 40 = .ok (.bastore, 1) := by decide +kernel
theorem d43_41 : decode jdk_52_method_22_code 41 = .ok (.iinc 1 1, 3) := by decide +kernel
theorem d43_44 : decode jdk_52_method_22_code 44 = .ok (.iinc 3 1, 3) := by decide +kernel
theorem d43_47 : decode jdk_52_method_22_code 47 = .ok (.iinc 5 1, 3) := by decide +kernel
theorem d43_50 : decode jdk_52_method_22_code 50 = .ok (.goto (-40), 3) := by decide +kernel
set_option maxRecDepth 65536 in
set_option maxHeartbeats 40000000 in
theorem own_cm {p : Program} {l : Launch} {e : Env} {R : Room} {s : State} {m : MethodId} {args : Array Value} {below : List Frame} {meth : Method} {c : Code} {cells slots : Nat} {Z : State} {a0 : Array Value} {n0 : Nat} {cs : List Int32} {a1 dd : Addr} {ka kd : ClassId} {ct : List Int32} {b : Nat} (hRf : 1 ≤ R.frames) (hRl : 13 ≤ R.locals) (hRc : cells ≤ R.cells) (hRs : slots ≤ R.slots) (hx : p.tables.exec = Jvm.exec) (hZ : Z.Warmed39 s.vm) (hw : ∀ d ∈ tables_1, d.before a0 Z = true) (hby : c.code = jdk_52_method_22_code) (hml : c.maxLocals = 7) (hown : s.vm.findClass "java/lang/StringUTF16" = some m.cls) (hL : cs.length < 8) (O_A : Sta Z Z.heap "java/lang/StringUTF16" "$assertionsDisabled" "Z" (.int (1 : Int32))) (O_H : Sta Z Z.heap "java/lang/StringUTF16" "HI_BYTE_SHIFT" "I" (.int (0 : Int32))) (O_W : Sta Z Z.heap "java/lang/StringUTF16" "LO_BYTE_SHIFT" "I" (.int (8 : Int32))) (hs : own_sub cs b ct) (hLt : ct.length < 8) (hcs : ∀ c ∈ cs, own_ch c)  (nad : a1 ≠ dd) (gd : n0 ≤ dd) (f : Nat) :
    ∀ (i : Nat), i + f = ct.length → (∀ k, k < i → (ct.getD k 0).toInt < 256) → ∀ (x6 : Slot), (x6 = .unset ∨ ∃ z : Int32, x6 = .val (.int z)) → ∀ (T0 : State) (h0 : Heap) (L0 : List Loc), Stand p l e R s m args below meth c T0 L0 cells slots → T0.heap = h0 → Fr n0 L0 → n0 ≤ h0.size → Old Z n0 h0 → Arv Z h0 a1 ka .byte (Int32.ofNat (2 * cs.length)) (own_utf cs) (.int (0 : Int32)) → Arv Z h0 dd kd .byte (Int32.ofNat ct.length) (own_mix own_mf (.int (0 : Int32)) ct i) (.int (0 : Int32)) →
    ∃ (T' : State) (h' : Heap) (L' : List Loc) (j pc : Nat) (y6 : Slot), Stand p l e R s m args below meth c T' L' cells slots ∧ T'.heap = h' ∧ Fr n0 L' ∧ n0 ≤ h'.size ∧ Keep h0 h' [dd] ∧ Arv Z h' dd kd .byte (Int32.ofNat ct.length) (own_mix own_mf (.int (0 : Int32)) ct j) (.int (0 : Int32)) ∧ ((j = ct.length ∧ pc = 53 ∧ ∀ c ∈ ct, c.toInt < 256) ∨ (j < ct.length ∧ pc = 32 ∧ ¬ (ct.getD j 0).toInt < 256)) ∧ ∀ target, Steps p.tables e below (T'.setTop (mkF m pc #[.val (.ref a1), .val (.int (Int32.ofNat (b + j))), .val (.ref dd), .val (.int (Int32.ofNat j)), .val (.int (Int32.ofNat ct.length)), .val (.int (Int32.ofNat j)), y6] [])) target → Steps p.tables e below (T0.setTop (mkF m 10 #[.val (.ref a1), .val (.int (Int32.ofNat (b + i))), .val (.ref dd), .val (.int (Int32.ofNat i)), .val (.int (Int32.ofNat ct.length)), .val (.int (Int32.ofNat i)), x6] [])) target := by
  induction f with
  | zero =>
    intro i hin hsm x6 hx6 T0 h0 L0 X0 e0 N0 Z0 X00 AC AD
    have hs1 := hs.1
    have hie : ct.length = i := by omega
    refine ⟨T0, _, _, i, 53, (x6), X0, e0, N0, Z0, Keep.refl _ _, AD, Or.inl ⟨hie.symm, rfl, own_allGet (by rw [hie]; exact hsm)⟩, fun target kt => ?_⟩
    refine XS.iload X0.here hx rfl (hb hby d43_10) rfl ?_
    refine XS.iload X0.here hx rfl (hb hby d43_12) rfl ?_
    refine XS.icmpYes X0.here hx rfl (pc0 := 14) (pc' := 53) rfl (hb hby d43_14) rfl (flt (by rw [hie]; exact fun w => absurd ((own_xlt (by omega) (by omega)).mp w) (Nat.lt_irrefl _))).2.1 (by decide) (by decide) ?_
    exact kt
  | succ f ih =>
    intro i hin hsm x6 hx6 T0 h0 L0 X0 e0 N0 Z0 X00 AC AD
    have hs1 := hs.1
    have hi : i < ct.length := by omega
    rcases hx6 with rfl | ⟨z6, rfl⟩
    · skip
      obtain ⟨_, _, ⟨T1, Lq1, kq1, nq1⟩, -, X1, ⟨Lc1, hQ1, lq1, yq1, zq1⟩, st1⟩ := Jvm.LawKit.callS X0 hx (y := (⟨"java/lang/StringUTF16", "getChar", "([BI)C"⟩ : MethodName)) hown (mvT hZ (hw _ (own_w 166 rfl))) (mvT hZ (hw _ (own_w 167 rfl))) (mvT hZ (hw _ (own_w 56 rfl))) (mvT hZ (hw _ (own_w 168 rfl))) (by decide) (backOf (W := 0) (rGc l Z a0 hw [] a1 (Int32.ofNat (b + i)) ka (cs).length (own_utf (cs)) (b + i) _ _ h0 n0 Z0 X00 O_A O_H O_W AC rfl (by have := hs.1; omega) hL (own_utf_at (cs) (b + i) _ (by have := hs.1; omega)).1 (own_utf_at (cs) (b + i) _ (by have := hs.1; omega)).2) hZ (hw _ (own_w 168 rfl)) (hw _ (own_w 56 rfl)) (Nat.le_trans (by decide) hRf) (Nat.le_trans (by decide) hRl)) (g := (mkF m 19 #[.val (.ref a1), .val (.int (Int32.ofNat (b + i))), .val (.ref dd), .val (.int (Int32.ofNat i)), .val (.int (Int32.ofNat ct.length)), .val (.int (Int32.ofNat i)), .unset] [(.int (Int32.ofNat (b + i))), (.ref a1)])) rfl (by rw [hml]; rfl) (argsL := [(.ref a1), (.int (Int32.ofNat (b + i)))]) (rest := []) (lenOf pd_6 rfl) rfl (by show 2 * 0 + _ ≤ _; exact Nat.le_of_eq rfl) (hb hby d43_19) (fun _ _ => ⟨rfl, e0, hRc, hRs⟩)
      dsimp only [Pt.U, Pt.locs, Pt.cells, Pt.slots] at X1 lq1 yq1 zq1 st1 hQ1
      subst lq1 yq1 zq1
      obtain ⟨r1, hr1, rfl, N1q, e1⟩ := hQ1
      have N1 := Fr.app N0 N1q
      by_cases hc29 : (255 : Int32) < (ct.getD i 0)
      · refine ⟨T1, _, _, i, 32, (.val (.int (ct.getD i 0))), X1, e1, N1, Z0, Keep.refl _ _, AD, Or.inr ⟨hi, rfl, (own_255 _).mp hc29⟩, fun target kt => ?_⟩
        show Steps p.tables e below (T0.setTop (mkF m 10 #[.val (.ref a1), .val (.int (Int32.ofNat (b + i))), .val (.ref dd), .val (.int (Int32.ofNat i)), .val (.int (Int32.ofNat ct.length)), .val (.int (Int32.ofNat i)), .unset] [])) _
        refine XS.iload X0.here hx rfl (hb hby d43_10) rfl ?_
        refine XS.iload X0.here hx rfl (hb hby d43_12) rfl ?_
        refine XS.icmpNo X0.here hx rfl (hb hby d43_14) rfl (tlt ((own_xlt (by omega) (by omega)).mpr hi)).2.1 ?_
        refine XS.aloadN X0.here hx rfl (hb hby d43_17) rfl rfl ?_
        refine XS.iloadN X0.here hx rfl (hb hby d43_18) rfl ?_
        refine st1 _ ?_
        show Steps p.tables e below (T1.setTop (mkF m 22 #[.val (.ref a1), .val (.int (Int32.ofNat (b + i))), .val (.ref dd), .val (.int (Int32.ofNat i)), .val (.int (Int32.ofNat ct.length)), .val (.int (Int32.ofNat i)), .unset] [(.int r1)])) _
        rw [(hr1.trans ((own_gc_eq (own_getCh hcs _)).trans (own_subGet hs hi).symm))]
        refine XS.istore X1.here hx rfl (hb hby d43_22) rfl (l' := #[.val (.ref a1), .val (.int (Int32.ofNat (b + i))), .val (.ref dd), .val (.int (Int32.ofNat i)), .val (.int (Int32.ofNat ct.length)), .val (.int (Int32.ofNat i)), .val (.int (ct.getD i 0))]) rfl ?_
        refine XS.iload X1.here hx rfl (hb hby d43_24) rfl ?_
        refine XS.sipush X1.here hx rfl (hb hby d43_26) ?_
        refine XS.icmpNo X1.here hx rfl (hb hby d43_29) rfl (tlt hc29).2.2.2 ?_
        exact kt
      · obtain ⟨cl2, Ar2, qk2, Sz2, Nn2, Hh2, Gg2⟩ := id (AD)
        have hin3 : ¬ ((Int32.ofNat i) < 0 ∨ cl2.slots.size ≤ ((Int32.ofNat i)).toNatClampNeg) := inb_of Sz2 ⟨own_x0 (by omega), (own_xlt (by omega) (by omega)).mpr hi⟩
        obtain ⟨T3, h3, X3, e3, W3, st3⟩ := stB X1 hx hZ e1 Ar2 (j := (Int32.ofNat i)) hin3 (g := (mkF m 40 #[.val (.ref a1), .val (.int (Int32.ofNat (b + i))), .val (.ref dd), .val (.int (Int32.ofNat i)), .val (.int (Int32.ofNat ct.length)), .val (.int (Int32.ofNat i)), .val (.int (ct.getD i 0))] [(.int ((ct.getD i 0).toInt8.toInt32)), (.int (Int32.ofNat i)), (.ref dd)])) rfl rfl (hb hby d43_40)
        have N3 := Fr.snoc X3 N1 gd
        have Z3 : n0 ≤ h3.size := by rw [W3.size]; exact Z0
        have K3 : Keep h0 h3 [dd] := (Keep.refl h0 [dd]).wr W3 (Or.inl (own_w 0 rfl))
        have V3 : Arv Z h3 dd kd .byte (Int32.ofNat ct.length) (own_mix own_mf (.int (0 : Int32)) ct (i + 1)) (.int (0 : Int32)) := by
          have q := Arv.set Ar2 qk2 Sz2 Nn2 Hh2 Gg2 (fits_nar_byte _) W3 (i) (own_xN (by omega)) (by rw [own_mixL]; exact hi)
          rw [← own_mixS own_mf (.int (0 : Int32)) ct i hi]; exact q
        have f4 := (X00.wr W3 gd)
        have f5 := (AC.other W3 nad)
        obtain ⟨T', h', L', j', pc', y', X', e', N', Z', K', A', hj', st'⟩ := ih (i + 1) (by omega) (own_smS hsm hc29) (.val (.int (ct.getD i 0))) (Or.inr ⟨_, rfl⟩) T3 _ _ X3 e3 N3 Z3 f4 f5 V3
        refine ⟨T', h', L', j', pc', y', X', e', N', Z', K3.trans K' (allS (Or.inl (own_w 0 rfl)) all0), A', hj', fun target kt => ?_⟩
        have kq := st' target kt
        rw [show Int32.ofNat (b + (i + 1)) = Int32.ofNat (b + i) + 1 from (own_xs (i := (b + i)) (by omega)).symm] at kq
        rw [← own_xs (show i < 16 by omega)] at kq
        refine XS.iload X0.here hx rfl (hb hby d43_10) rfl ?_
        refine XS.iload X0.here hx rfl (hb hby d43_12) rfl ?_
        refine XS.icmpNo X0.here hx rfl (hb hby d43_14) rfl (tlt ((own_xlt (by omega) (by omega)).mpr hi)).2.1 ?_
        refine XS.aloadN X0.here hx rfl (hb hby d43_17) rfl rfl ?_
        refine XS.iloadN X0.here hx rfl (hb hby d43_18) rfl ?_
        refine st1 _ ?_
        show Steps p.tables e below (T1.setTop (mkF m 22 #[.val (.ref a1), .val (.int (Int32.ofNat (b + i))), .val (.ref dd), .val (.int (Int32.ofNat i)), .val (.int (Int32.ofNat ct.length)), .val (.int (Int32.ofNat i)), .unset] [(.int r1)])) _
        rw [(hr1.trans ((own_gc_eq (own_getCh hcs _)).trans (own_subGet hs hi).symm))]
        refine XS.istore X1.here hx rfl (hb hby d43_22) rfl (l' := #[.val (.ref a1), .val (.int (Int32.ofNat (b + i))), .val (.ref dd), .val (.int (Int32.ofNat i)), .val (.int (Int32.ofNat ct.length)), .val (.int (Int32.ofNat i)), .val (.int (ct.getD i 0))]) rfl ?_
        refine XS.iload X1.here hx rfl (hb hby d43_24) rfl ?_
        refine XS.sipush X1.here hx rfl (hb hby d43_26) ?_
        refine XS.icmpYes X1.here hx rfl (pc0 := 29) (pc' := 35) rfl (hb hby d43_29) rfl (flt hc29).2.2.2 (by decide) (by decide) ?_
        refine XS.aloadN X1.here hx rfl (hb hby d43_35) rfl rfl ?_
        refine XS.iloadN X1.here hx rfl (hb hby d43_36) rfl ?_
        refine XS.iload X1.here hx rfl (hb hby d43_37) rfl ?_
        refine XS.i2b X1.here hx rfl (hb hby d43_39) rfl ?_
        refine st3 _ ?_
        refine XS.iinc X3.here hx rfl (hb hby d43_41) rfl (l' := #[.val (.ref a1), .val (.int ((Int32.ofNat (b + i)) + (1 : Int32))), .val (.ref dd), .val (.int (Int32.ofNat i)), .val (.int (Int32.ofNat ct.length)), .val (.int (Int32.ofNat i)), .val (.int (ct.getD i 0))]) rfl ?_
        refine XS.iinc X3.here hx rfl (hb hby d43_44) rfl (l' := #[.val (.ref a1), .val (.int ((Int32.ofNat (b + i)) + (1 : Int32))), .val (.ref dd), .val (.int ((Int32.ofNat i) + (1 : Int32))), .val (.int (Int32.ofNat ct.length)), .val (.int (Int32.ofNat i)), .val (.int (ct.getD i 0))]) rfl ?_
        refine XS.iinc X3.here hx rfl (hb hby d43_47) rfl (l' := #[.val (.ref a1), .val (.int ((Int32.ofNat (b + i)) + (1 : Int32))), .val (.ref dd), .val (.int ((Int32.ofNat i) + (1 : Int32))), .val (.int (Int32.ofNat ct.length)), .val (.int ((Int32.ofNat i) + (1 : Int32))), .val (.int (ct.getD i 0))]) rfl ?_
        refine XS.goto X3.here hx rfl (pc0 := 50) (pc' := 10) rfl (hb hby d43_50) (by decide) (by decide) ?_
        exact kq
    · skip
      obtain ⟨_, _, ⟨T1, Lq1, kq1, nq1⟩, -, X1, ⟨Lc1, hQ1, lq1, yq1, zq1⟩, st1⟩ := Jvm.LawKit.callS X0 hx (y := (⟨"java/lang/StringUTF16", "getChar", "([BI)C"⟩ : MethodName)) hown (mvT hZ (hw _ (own_w 166 rfl))) (mvT hZ (hw _ (own_w 167 rfl))) (mvT hZ (hw _ (own_w 56 rfl))) (mvT hZ (hw _ (own_w 168 rfl))) (by decide) (backOf (W := 0) (rGc l Z a0 hw [] a1 (Int32.ofNat (b + i)) ka (cs).length (own_utf (cs)) (b + i) _ _ h0 n0 Z0 X00 O_A O_H O_W AC rfl (by have := hs.1; omega) hL (own_utf_at (cs) (b + i) _ (by have := hs.1; omega)).1 (own_utf_at (cs) (b + i) _ (by have := hs.1; omega)).2) hZ (hw _ (own_w 168 rfl)) (hw _ (own_w 56 rfl)) (Nat.le_trans (by decide) hRf) (Nat.le_trans (by decide) hRl)) (g := (mkF m 19 #[.val (.ref a1), .val (.int (Int32.ofNat (b + i))), .val (.ref dd), .val (.int (Int32.ofNat i)), .val (.int (Int32.ofNat ct.length)), .val (.int (Int32.ofNat i)), .val (.int z6)] [(.int (Int32.ofNat (b + i))), (.ref a1)])) rfl (by rw [hml]; rfl) (argsL := [(.ref a1), (.int (Int32.ofNat (b + i)))]) (rest := []) (lenOf pd_6 rfl) rfl (by show 2 * 0 + _ ≤ _; exact Nat.le_of_eq rfl) (hb hby d43_19) (fun _ _ => ⟨rfl, e0, hRc, hRs⟩)
      dsimp only [Pt.U, Pt.locs, Pt.cells, Pt.slots] at X1 lq1 yq1 zq1 st1 hQ1
      subst lq1 yq1 zq1
      obtain ⟨r1, hr1, rfl, N1q, e1⟩ := hQ1
      have N1 := Fr.app N0 N1q
      by_cases hc29 : (255 : Int32) < (ct.getD i 0)
      · refine ⟨T1, _, _, i, 32, (.val (.int (ct.getD i 0))), X1, e1, N1, Z0, Keep.refl _ _, AD, Or.inr ⟨hi, rfl, (own_255 _).mp hc29⟩, fun target kt => ?_⟩
        show Steps p.tables e below (T0.setTop (mkF m 10 #[.val (.ref a1), .val (.int (Int32.ofNat (b + i))), .val (.ref dd), .val (.int (Int32.ofNat i)), .val (.int (Int32.ofNat ct.length)), .val (.int (Int32.ofNat i)), .val (.int z6)] [])) _
        refine XS.iload X0.here hx rfl (hb hby d43_10) rfl ?_
        refine XS.iload X0.here hx rfl (hb hby d43_12) rfl ?_
        refine XS.icmpNo X0.here hx rfl (hb hby d43_14) rfl (tlt ((own_xlt (by omega) (by omega)).mpr hi)).2.1 ?_
        refine XS.aloadN X0.here hx rfl (hb hby d43_17) rfl rfl ?_
        refine XS.iloadN X0.here hx rfl (hb hby d43_18) rfl ?_
        refine st1 _ ?_
        show Steps p.tables e below (T1.setTop (mkF m 22 #[.val (.ref a1), .val (.int (Int32.ofNat (b + i))), .val (.ref dd), .val (.int (Int32.ofNat i)), .val (.int (Int32.ofNat ct.length)), .val (.int (Int32.ofNat i)), .val (.int z6)] [(.int r1)])) _
        rw [(hr1.trans ((own_gc_eq (own_getCh hcs _)).trans (own_subGet hs hi).symm))]
        refine XS.istore X1.here hx rfl (hb hby d43_22) rfl (l' := #[.val (.ref a1), .val (.int (Int32.ofNat (b + i))), .val (.ref dd), .val (.int (Int32.ofNat i)), .val (.int (Int32.ofNat ct.length)), .val (.int (Int32.ofNat i)), .val (.int (ct.getD i 0))]) rfl ?_
        refine XS.iload X1.here hx rfl (hb hby d43_24) rfl ?_
        refine XS.sipush X1.here hx rfl (hb hby d43_26) ?_
        refine XS.icmpNo X1.here hx rfl (hb hby d43_29) rfl (tlt hc29).2.2.2 ?_
        exact kt
      · obtain ⟨cl2, Ar2, qk2, Sz2, Nn2, Hh2, Gg2⟩ := id (AD)
        have hin3 : ¬ ((Int32.ofNat i) < 0 ∨ cl2.slots.size ≤ ((Int32.ofNat i)).toNatClampNeg) := inb_of Sz2 ⟨own_x0 (by omega), (own_xlt (by omega) (by omega)).mpr hi⟩
        obtain ⟨T3, h3, X3, e3, W3, st3⟩ := stB X1 hx hZ e1 Ar2 (j := (Int32.ofNat i)) hin3 (g := (mkF m 40 #[.val (.ref a1), .val (.int (Int32.ofNat (b + i))), .val (.ref dd), .val (.int (Int32.ofNat i)), .val (.int (Int32.ofNat ct.length)), .val (.int (Int32.ofNat i)), .val (.int (ct.getD i 0))] [(.int ((ct.getD i 0).toInt8.toInt32)), (.int (Int32.ofNat i)), (.ref dd)])) rfl rfl (hb hby d43_40)
        have N3 := Fr.snoc X3 N1 gd
        have Z3 : n0 ≤ h3.size := by rw [W3.size]; exact Z0
        have K3 : Keep h0 h3 [dd] := (Keep.refl h0 [dd]).wr W3 (Or.inl (own_w 0 rfl))
        have V3 : Arv Z h3 dd kd .byte (Int32.ofNat ct.length) (own_mix own_mf (.int (0 : Int32)) ct (i + 1)) (.int (0 : Int32)) := by
          have q := Arv.set Ar2 qk2 Sz2 Nn2 Hh2 Gg2 (fits_nar_byte _) W3 (i) (own_xN (by omega)) (by rw [own_mixL]; exact hi)
          rw [← own_mixS own_mf (.int (0 : Int32)) ct i hi]; exact q
        have f4 := (X00.wr W3 gd)
        have f5 := (AC.other W3 nad)
        obtain ⟨T', h', L', j', pc', y', X', e', N', Z', K', A', hj', st'⟩ := ih (i + 1) (by omega) (own_smS hsm hc29) (.val (.int (ct.getD i 0))) (Or.inr ⟨_, rfl⟩) T3 _ _ X3 e3 N3 Z3 f4 f5 V3
        refine ⟨T', h', L', j', pc', y', X', e', N', Z', K3.trans K' (allS (Or.inl (own_w 0 rfl)) all0), A', hj', fun target kt => ?_⟩
        have kq := st' target kt
        rw [show Int32.ofNat (b + (i + 1)) = Int32.ofNat (b + i) + 1 from (own_xs (i := (b + i)) (by omega)).symm] at kq
        rw [← own_xs (show i < 16 by omega)] at kq
        refine XS.iload X0.here hx rfl (hb hby d43_10) rfl ?_
        refine XS.iload X0.here hx rfl (hb hby d43_12) rfl ?_
        refine XS.icmpNo X0.here hx rfl (hb hby d43_14) rfl (tlt ((own_xlt (by omega) (by omega)).mpr hi)).2.1 ?_
        refine XS.aloadN X0.here hx rfl (hb hby d43_17) rfl rfl ?_
        refine XS.iloadN X0.here hx rfl (hb hby d43_18) rfl ?_
        refine st1 _ ?_
        show Steps p.tables e below (T1.setTop (mkF m 22 #[.val (.ref a1), .val (.int (Int32.ofNat (b + i))), .val (.ref dd), .val (.int (Int32.ofNat i)), .val (.int (Int32.ofNat ct.length)), .val (.int (Int32.ofNat i)), .val (.int z6)] [(.int r1)])) _
        rw [(hr1.trans ((own_gc_eq (own_getCh hcs _)).trans (own_subGet hs hi).symm))]
        refine XS.istore X1.here hx rfl (hb hby d43_22) rfl (l' := #[.val (.ref a1), .val (.int (Int32.ofNat (b + i))), .val (.ref dd), .val (.int (Int32.ofNat i)), .val (.int (Int32.ofNat ct.length)), .val (.int (Int32.ofNat i)), .val (.int (ct.getD i 0))]) rfl ?_
        refine XS.iload X1.here hx rfl (hb hby d43_24) rfl ?_
        refine XS.sipush X1.here hx rfl (hb hby d43_26) ?_
        refine XS.icmpYes X1.here hx rfl (pc0 := 29) (pc' := 35) rfl (hb hby d43_29) rfl (flt hc29).2.2.2 (by decide) (by decide) ?_
        refine XS.aloadN X1.here hx rfl (hb hby d43_35) rfl rfl ?_
        refine XS.iloadN X1.here hx rfl (hb hby d43_36) rfl ?_
        refine XS.iload X1.here hx rfl (hb hby d43_37) rfl ?_
        refine XS.i2b X1.here hx rfl (hb hby d43_39) rfl ?_
        refine st3 _ ?_
        refine XS.iinc X3.here hx rfl (hb hby d43_41) rfl (l' := #[.val (.ref a1), .val (.int ((Int32.ofNat (b + i)) + (1 : Int32))), .val (.ref dd), .val (.int (Int32.ofNat i)), .val (.int (Int32.ofNat ct.length)), .val (.int (Int32.ofNat i)), .val (.int (ct.getD i 0))]) rfl ?_
        refine XS.iinc X3.here hx rfl (hb hby d43_44) rfl (l' := #[.val (.ref a1), .val (.int ((Int32.ofNat (b + i)) + (1 : Int32))), .val (.ref dd), .val (.int ((Int32.ofNat i) + (1 : Int32))), .val (.int (Int32.ofNat ct.length)), .val (.int (Int32.ofNat i)), .val (.int (ct.getD i 0))]) rfl ?_
        refine XS.iinc X3.here hx rfl (hb hby d43_47) rfl (l' := #[.val (.ref a1), .val (.int ((Int32.ofNat (b + i)) + (1 : Int32))), .val (.ref dd), .val (.int ((Int32.ofNat i) + (1 : Int32))), .val (.int (Int32.ofNat ct.length)), .val (.int ((Int32.ofNat i) + (1 : Int32))), .val (.int (ct.getD i 0))]) rfl ?_
        refine XS.goto X3.here hx rfl (pc0 := 50) (pc' := 10) rfl (hb hby d43_50) (by decide) (by decide) ?_
        exact kq
theorem pd_19 : parseMethodDescriptor "(II[B)V" = some ⟨[.int, .int, (.array .byte)], none⟩ := by decide +kernel
theorem d43_0 : decode jdk_52_method_22_code 0 = .ok (.iload_n 1, 1) := by decide +kernel
theorem d43_1 : decode jdk_52_method_22_code 1 = .ok (.iload 4, 2) := by decide +kernel
theorem d43_3 : decode jdk_52_method_22_code 3 = .ok (.aload_n 0, 1) := by decide +kernel
theorem d43_4 : decode jdk_52_method_22_code 4 = .ok (.invokestatic 173, 3) := by decide +kernel
theorem d43_7 : decode jdk_52_method_22_code 7 = .ok (.iconst 0, 1) := by decide +kernel
theorem d43_8 : decode jdk_52_method_22_code 8 = .ok (.istore 5, 2) := by decide +kernel
theorem d43_32 : decode jdk_52_method_22_code 32 = .ok (.iload 5, 2) := by decide +kernel
theorem d43_34 : decode jdk_52_method_22_code 34 = .ok (.ireturn, 1) := by decide +kernel
theorem d43_53 : decode jdk_52_method_22_code 53 = .ok (.iload 4, 2) := by decide +kernel
theorem d43_55 : decode jdk_52_method_22_code 55 = .ok (.ireturn, 1) := by decide +kernel
theorem pn_43 : plainName "java/lang/StringUTF16" = true := by first | (simp [plainName, overriddenIn]; done) | decide +kernel
theorem ef_rC3 (m : MethodId) (a1 : Addr) (p2 : Int32) (a3 : Addr) (p5 : Int32) : entryFrame m #[(.ref a1), (.int p2), (.ref a3), (.int (0 : Int32)), (.int p5)] 7 = mkF m 0 #[.val (.ref a1), .val (.int p2), .val (.ref a3), .val (.int (0 : Int32)), .val (.int p5), .unset, .unset] [] := by first | (simp [entryFrame, mkF, argsToLocals, Value.category]; done) | rfl
def QrC3 (Z : State) (a1 : Addr) (p2 : Int32) (a3 : Addr) (p5 : Int32) (cs : List Int32) (ct : List Int32) (b : Nat) (ka : ClassId) (kd : ClassId) (gv : Value) (h0 : Heap) (n0 : Nat) (v : Option Value) (h : Heap) (L : List Loc) : Prop := ∃ j : Nat, v = some (.int (Int32.ofNat j)) ∧ Fr n0 L ∧ Keep h0 h [a3] ∧ Arv Z h a3 kd .byte (Int32.ofNat ct.length) (own_mix own_mf (.int (0 : Int32)) ct j) (.int (0 : Int32)) ∧ ((j = ct.length ∧ ∀ c ∈ ct, c.toInt < 256) ∨ (j < ct.length ∧ ¬ (ct.getD j 0).toInt < 256))
set_option maxRecDepth 65536 in
set_option maxHeartbeats 40000000 in
theorem rC3 (l : Launch) (Z : State) (a0 : Array Value) (hw : ∀ d ∈ tables_1, d.before a0 Z = true) (ws : List Jvm.Cond) (a1 : Addr) (p2 : Int32) (a3 : Addr) (p5 : Int32) (cs : List Int32) (ct : List Int32) (b : Nat) (ka : ClassId) (kd : ClassId) (gv : Value) (h0 : Heap) (n0 : Nat) (Z0 : n0 ≤ h0.size) (X00 : Old Z n0 h0) (O_S : Sta Z Z.heap "jdk/internal/util/Preconditions" "SIOOBE_FORMATTER" "Ljava/util/function/BiFunction;" gv) (hgv : gv.isRef = true) (O_A : Sta Z Z.heap "java/lang/StringUTF16" "$assertionsDisabled" "Z" (.int (1 : Int32))) (O_H : Sta Z Z.heap "java/lang/StringUTF16" "HI_BYTE_SHIFT" "I" (.int (0 : Int32))) (O_W : Sta Z Z.heap "java/lang/StringUTF16" "LO_BYTE_SHIFT" "I" (.int (8 : Int32))) (AC : Arv Z h0 a1 ka .byte (Int32.ofNat (2 * cs.length)) (own_utf cs) (.int (0 : Int32))) (AD : Arv Z h0 a3 kd .byte (Int32.ofNat ct.length) (List.replicate ct.length (.int (0 : Int32))) (.int (0 : Int32))) (hp2 : p2 = Int32.ofNat b) (hp5 : p5 = Int32.ofNat ct.length) (hs : own_sub cs b ct) (hL : cs.length < 8) (hLt : ct.length < 8) (hcs : ∀ c ∈ cs, own_ch c) (nad : a1 ≠ a3) (gd : n0 ≤ a3) :
    MetFree l (⟨"java/lang/StringUTF16", "compress", "([BI[BII)I"⟩ : MethodName) (head1 (Jvm.Cond.code (⟨"java/lang/StringUTF16", "compress", "([BI[BII)I"⟩ : MethodName) jdk_52_method_22_code 7 (some .int) :: ws) ({ frames := 3, cells := 0, slots := 0, locals := 43 } : Room)) (fun a U => a = #[(.ref a1), (.int p2), (.ref a3), (.int (0 : Int32)), (.int p5)] ∧ Z.Warmed39 U.vm ∧ U.heap = h0) (fun _ _ _ _ _ => True) (fun _ U o U' => ∃ v L, o = .returned v ∧ QrC3 Z a1 p2 a3 p5 cs ct b ka kd gv h0 n0 v U'.heap L ∧ FrameEnd U o U' L ({ frames := 3, cells := 0, slots := 0, locals := 43 } : Room).cells ({ frames := 3, cells := 0, slots := 0, locals := 43 } : Room).slots) := by
  refine MetFree.of_bodySF (plainFor_of_name pn_43) hisR ?_
  intro p e s m args below meth c s₁ Bd hml0 hP hK
  obtain ⟨rfl, hZ, hh⟩ := hP
  have hx := Bd.exec
  have hby := Bd.bytes
  have hml : c.maxLocals = 7 := hml0
  have hown : s.vm.findClass "java/lang/StringUTF16" = some m.cls := findClass_of_methodNamed Bd.named
  have hnm := (name_of_methodNamed Bd.named Bd.method).1
  have X0 : Stand p l e ({ frames := 3, cells := 0, slots := 0, locals := 43 } : Room) s m #[(.ref a1), (.int p2), (.ref a3), (.int (0 : Int32)), (.int p5)] below meth c s₁ [] 0 0 := Stand.of_body Bd
  have e0 : s₁.heap = h0 := by rw [← hh, Bd.state]; rfl
  have N0 := Fr.nil n0
  have pre0 : ∀ t, Steps p.tables e below (s₁.setTop (mkF m 0 #[.val (.ref a1), .val (.int p2), .val (.ref a3), .val (.int (0 : Int32)), .val (.int p5), .unset, .unset] [])) t → Steps p.tables e below (s₁.setTop (entryFrame m #[(.ref a1), (.int p2), (.ref a3), (.int (0 : Int32)), (.int p5)] 7)) t := fun t k => castTop (ef_rC3 m a1 p2 a3 p5) k
  obtain ⟨_, _, ⟨T1, Lq1, kq1, nq1⟩, -, X1, ⟨Lc1, hQ1, lq1, yq1, zq1⟩, st1⟩ := Jvm.LawKit.callS X0 hx (y := (⟨"java/lang/StringUTF16", "checkBoundsOffCount", "(II[B)V"⟩ : MethodName)) hown (mvT hZ (hw _ (own_w 189 rfl))) (mvT hZ (hw _ (own_w 190 rfl))) (mvT hZ (hw _ (own_w 56 rfl))) (mvT hZ (hw _ (own_w 191 rfl))) (by decide) (backOf (W := 0) (rUo l Z a0 hw [] p2 p5 a1 ka cs b ct.length gv h0 n0 Z0 X00 O_S hgv AC hp2 hp5 hs.1 hL) hZ (hw _ (own_w 191 rfl)) (hw _ (own_w 56 rfl)) (by decide) (by decide)) (g := (mkF m 4 #[.val (.ref a1), .val (.int p2), .val (.ref a3), .val (.int (0 : Int32)), .val (.int p5), .unset, .unset] [(.ref a1), (.int p5), (.int p2)])) rfl (by rw [hml]; rfl) (argsL := [(.int p2), (.int p5), (.ref a1)]) (rest := []) (lenOf pd_19 rfl) rfl (by show 2 * 0 + _ ≤ _; exact Nat.le_of_eq rfl) (hb hby d43_4) (fun _ _ => ⟨rfl, e0, (by decide : 0 + 0 ≤ _), (by decide : 0 + 0 ≤ _)⟩)
  dsimp only [Pt.U, Pt.locs, Pt.cells, Pt.slots] at X1 lq1 yq1 zq1 st1 hQ1
  subst lq1 yq1 zq1
  obtain ⟨rfl, N1q, e1⟩ := hQ1
  have N1 := Fr.app N0 N1q
  have VM2 := AD
  rw [← own_mix0 own_mf (.int (0 : Int32)) ct] at VM2
  obtain ⟨T2, h2, L2, j2, pc2, y2, X2, e2, N2, Z2, KT2, V2, hj2, st2⟩ := own_cm (by decide) (by decide) (by decide) (by decide) hx hZ hw hby hml hown hL O_A O_H O_W hs hLt hcs nad gd ct.length 0 (by omega) (fun k hk => absurd hk (Nat.not_lt_zero k)) .unset (Or.inl rfl) _ _ _ X1 e1 N1 Z0 X00 AC VM2
  have K2 : Keep h0 h2 [a3] := (Keep.refl h0 [a3]).trans KT2 (allS (Or.inl (own_w 0 rfl)) all0)
  rcases hj2 with ⟨rfl, rfl, hal2⟩ | ⟨hlt2, rfl, hbg2⟩
  · skip
    obtain ⟨fs, hr, hrun, hended, hW, hsame⟩ := X2.leave (v := some (.int (Int32.ofNat ct.length))) (fun h => by rw [Bd.returns] at h; cases h) (BodyLoose.notSynchronized Bd)
    refine ⟨_, _, pre0 _ ?_, hrun, hended, _, _, rfl, ?_, ⟨_, rfl⟩, hW, hsame.mono (by decide) (by decide)⟩
    · show Steps p.tables e below (s₁.setTop (mkF m 0 #[.val (.ref a1), .val (.int p2), .val (.ref a3), .val (.int (0 : Int32)), .val (.int p5), .unset, .unset] [])) _
      refine XS.iloadN X0.here hx rfl (hb hby d43_0) rfl ?_
      refine XS.iload X0.here hx rfl (hb hby d43_1) rfl ?_
      refine XS.aloadN X0.here hx rfl (hb hby d43_3) rfl rfl ?_
      refine st1 _ ?_
      refine XS.iconst X1.here hx rfl (hb hby d43_7) ?_
      refine XS.istore X1.here hx rfl (hb hby d43_8) rfl (l' := #[.val (.ref a1), .val (.int p2), .val (.ref a3), .val (.int (0 : Int32)), .val (.int p5), .val (.int (0 : Int32)), .unset]) rfl ?_
      show Steps p.tables e below (T1.setTop (mkF m 10 #[.val (.ref a1), .val (.int p2), .val (.ref a3), .val (.int (0 : Int32)), .val (.int p5), .val (.int (0 : Int32)), .unset] [])) _
      rw [hp2, hp5]
      refine st2 _ ?_
      refine XS.iload X2.here hx rfl (hb hby d43_53) rfl ?_
      exact retI X2 hx Bd.returns (hb hby d43_55) hr
    · show QrC3 Z a1 p2 a3 p5 cs ct b ka kd gv h0 n0 _ T2.heap _
      rw [e2]
      exact ⟨_, rfl, N2, K2, V2, Or.inl ⟨rfl, hal2⟩⟩
  · skip
    obtain ⟨fs, hr, hrun, hended, hW, hsame⟩ := X2.leave (v := some (.int (Int32.ofNat j2))) (fun h => by rw [Bd.returns] at h; cases h) (BodyLoose.notSynchronized Bd)
    refine ⟨_, _, pre0 _ ?_, hrun, hended, _, _, rfl, ?_, ⟨_, rfl⟩, hW, hsame.mono (by decide) (by decide)⟩
    · show Steps p.tables e below (s₁.setTop (mkF m 0 #[.val (.ref a1), .val (.int p2), .val (.ref a3), .val (.int (0 : Int32)), .val (.int p5), .unset, .unset] [])) _
      refine XS.iloadN X0.here hx rfl (hb hby d43_0) rfl ?_
      refine XS.iload X0.here hx rfl (hb hby d43_1) rfl ?_
      refine XS.aloadN X0.here hx rfl (hb hby d43_3) rfl rfl ?_
      refine st1 _ ?_
      refine XS.iconst X1.here hx rfl (hb hby d43_7) ?_
      refine XS.istore X1.here hx rfl (hb hby d43_8) rfl (l' := #[.val (.ref a1), .val (.int p2), .val (.ref a3), .val (.int (0 : Int32)), .val (.int p5), .val (.int (0 : Int32)), .unset]) rfl ?_
      show Steps p.tables e below (T1.setTop (mkF m 10 #[.val (.ref a1), .val (.int p2), .val (.ref a3), .val (.int (0 : Int32)), .val (.int p5), .val (.int (0 : Int32)), .unset] [])) _
      rw [hp2, hp5]
      refine st2 _ ?_
      refine XS.iload X2.here hx rfl (hb hby d43_32) rfl ?_
      exact retI X2 hx Bd.returns (hb hby d43_34) hr
    · show QrC3 Z a1 p2 a3 p5 cs ct b ka kd gv h0 n0 _ T2.heap _
      rw [e2]
      exact ⟨_, rfl, N2, K2, V2, Or.inr ⟨hlt2, hbg2⟩⟩
theorem pd_20 : parseMethodDescriptor "([BI[BII)I" = some ⟨[(.array .byte), .int, (.array .byte), .int, .int], some .int⟩ := by decide +kernel
theorem d42_0 : decode jdk_52_method_17_code 0 = .ok (.iload_n 2, 1) := by decide +kernel
theorem d42_1 : decode jdk_52_method_17_code 1 = .ok (.newarray .byte, 2) := by decide +kernel
theorem d42_3 : decode jdk_52_method_17_code 3 = .ok (.astore_n 3, 1) := by decide +kernel
theorem d42_4 : decode jdk_52_method_17_code 4 = .ok (.aload_n 0, 1) := by decide +kernel
theorem d42_5 : decode jdk_52_method_17_code 5 = .ok (.iload_n 1, 1) := by decide +kernel
theorem d42_6 : decode jdk_52_method_17_code 6 = .ok (.aload_n 3, 1) := by decide +kernel
theorem d42_7 : decode jdk_52_method_17_code 7 = .ok (.iconst 0, 1) := by decide +kernel
theorem d42_8 : decode jdk_52_method_17_code 8 = .ok (.iload_n 2, 1) := by decide +kernel
theorem d42_9 : decode jdk_52_method_17_code 9 = .ok (.invokestatic 123, 3) := by decide +kernel
theorem d42_12 : decode jdk_52_method_17_code 12 = .ok (.istore 4, 2) := by decide +kernel
theorem d42_14 : decode jdk_52_method_17_code 14 = .ok (.iload 4, 2) := by decide +kernel
theorem d42_16 : decode jdk_52_method_17_code 16 = .ok (.iload_n 2, 1) := by decide +kernel
theorem d42_17 : decode jdk_52_method_17_code 17 = .ok (.if_icmp .eq 47, 3) := by decide +kernel
theorem d42_20 : decode jdk_52_method_17_code 20 = .ok (.aload_n 0, 1) := by decide +kernel
theorem d42_21 : decode jdk_52_method_17_code 21 = .ok (.iload_n 1, 1) := by decide +kernel
theorem d42_22 : decode jdk_52_method_17_code 22 = .ok (.iconst 1, 1) := by decide +kernel
theorem d42_23 : decode jdk_52_method_17_code 23 = .ok (.ishl, 1) := by decide +kernel
theorem d42_24 : decode jdk_52_method_17_code 24 = .ok (.iload_n 1, 1) := by decide +kernel
theorem d42_25 : decode jdk_52_method_17_code 25 = .ok (.iload_n 2, 1) := by decide +kernel
theorem d42_26 : decode jdk_52_method_17_code 26 = .ok (.iadd, 1) := by decide +kernel
theorem d42_27 : decode jdk_52_method_17_code 27 = .ok (.invokestatic 11, 3) := by decide +kernel
theorem d42_30 : decode jdk_52_method_17_code 30 = .ok (.invokestatic 126, 3) := by decide +kernel
theorem d42_33 : decode jdk_52_method_17_code 33 = .ok (.astore 5, 2) := by decide +kernel
theorem d42_35 : decode jdk_52_method_17_code 35 = .ok (.aload 5, 2) := by decide +kernel
theorem d42_37 : decode jdk_52_method_17_code 37 = .ok (.iload 4, 2) := by decide +kernel
theorem d42_39 : decode jdk_52_method_17_code 39 = .ok (.invokestatic 71, 3) := by decide +kernel
theorem d42_42 : decode jdk_52_method_17_code 42 = .ok (.sipush 255, 3) := by decide +kernel
theorem d42_45 : decode jdk_52_method_17_code 45 = .ok (.if_icmp .gt 16, 3) := by decide +kernel
theorem d42_61 : decode jdk_52_method_17_code 61 = .ok (.aload 5, 2) := by decide +kernel
theorem d42_63 : decode jdk_52_method_17_code 63 = .ok (.areturn, 1) := by decide +kernel
theorem d42_64 : decode jdk_52_method_17_code 64 = .ok (.aload_n 3, 1) := by decide +kernel
theorem d42_65 : decode jdk_52_method_17_code 65 = .ok (.areturn, 1) := by decide +kernel
theorem pn_42 : plainName "java/lang/StringUTF16" = true := by first | (simp [plainName, overriddenIn]; done) | decide +kernel
theorem ef_rC4 (m : MethodId) (a1 : Addr) (p2 : Int32) (p3 : Int32) : entryFrame m #[(.ref a1), (.int p2), (.int p3)] 6 = mkF m 0 #[.val (.ref a1), .val (.int p2), .val (.int p3), .unset, .unset, .unset] [] := by first | (simp [entryFrame, mkF, argsToLocals, Value.category]; done) | rfl
def QrC4 (Z : State) (a1 : Addr) (p2 : Int32) (p3 : Int32) (cs : List Int32) (ct : List Int32) (b : Nat) (ka : ClassId) (gv : Value) (h0 : Heap) (n0 : Nat) (v : Option Value) (h : Heap) (L : List Loc) : Prop := ∃ (o : Addr) (ok : ClassId), v = some (.ref o) ∧ Fr n0 L ∧ Keep h0 h [] ∧ n0 ≤ o ∧ h0.size ≤ o ∧ ((Arv Z h o ok .byte (Int32.ofNat ct.length) (own_lat ct) (.int (0 : Int32)) ∧ ∀ c ∈ ct, c.toInt < 256) ∨ Arv Z h o ok .byte (Int32.ofNat (2 * ct.length)) (own_utf ct) (.int (0 : Int32)))
set_option maxRecDepth 65536 in
set_option maxHeartbeats 40000000 in
theorem rC4 (l : Launch) (Z : State) (a0 : Array Value) (hw : ∀ d ∈ tables_1, d.before a0 Z = true) (ws : List Jvm.Cond) (a1 : Addr) (p2 : Int32) (p3 : Int32) (cs : List Int32) (ct : List Int32) (b : Nat) (ka : ClassId) (gv : Value) (h0 : Heap) (n0 : Nat) (Z0 : n0 ≤ h0.size) (X00 : Old Z n0 h0) (O_S : Sta Z Z.heap "jdk/internal/util/Preconditions" "SIOOBE_FORMATTER" "Ljava/util/function/BiFunction;" gv) (hgv : gv.isRef = true) (O_A : Sta Z Z.heap "java/lang/StringUTF16" "$assertionsDisabled" "Z" (.int (1 : Int32))) (O_H : Sta Z Z.heap "java/lang/StringUTF16" "HI_BYTE_SHIFT" "I" (.int (0 : Int32))) (O_W : Sta Z Z.heap "java/lang/StringUTF16" "LO_BYTE_SHIFT" "I" (.int (8 : Int32))) (AC : Arv Z h0 a1 ka .byte (Int32.ofNat (2 * cs.length)) (own_utf cs) (.int (0 : Int32))) (hp2 : p2 = Int32.ofNat b) (hp3 : p3 = Int32.ofNat ct.length) (hs : own_sub cs b ct) (hps : 0 < ct.length) (hne : ¬ (b = 0 ∧ b + ct.length = cs.length)) (hL : cs.length < 8) (hLt : ct.length < 8) (hcs : ∀ c ∈ cs, own_ch c) :
    MetFree l (⟨"java/lang/StringUTF16", "compress", "([BII)[B"⟩ : MethodName) (head1 (Jvm.Cond.code (⟨"java/lang/StringUTF16", "compress", "([BII)[B"⟩ : MethodName) jdk_52_method_17_code 6 (some (.array .byte)) :: ws) ({ frames := 4, cells := 2, slots := 24, locals := 61 } : Room)) (fun a U => a = #[(.ref a1), (.int p2), (.int p3)] ∧ Z.Warmed39 U.vm ∧ U.heap = h0) (fun _ _ _ _ _ => True) (fun _ U o U' => ∃ v L, o = .returned v ∧ QrC4 Z a1 p2 p3 cs ct b ka gv h0 n0 v U'.heap L ∧ FrameEnd U o U' L ({ frames := 4, cells := 2, slots := 24, locals := 61 } : Room).cells ({ frames := 4, cells := 2, slots := 24, locals := 61 } : Room).slots) := by
  refine MetFree.of_bodySF (plainFor_of_name pn_42) hisR ?_
  intro p e s m args below meth c s₁ Bd hml0 hP hK
  obtain ⟨rfl, hZ, hh⟩ := hP
  have hx := Bd.exec
  have hby := Bd.bytes
  have hml : c.maxLocals = 6 := hml0
  have hown : s.vm.findClass "java/lang/StringUTF16" = some m.cls := findClass_of_methodNamed Bd.named
  have hnm := (name_of_methodNamed Bd.named Bd.method).1
  have X0 : Stand p l e ({ frames := 4, cells := 2, slots := 24, locals := 61 } : Room) s m #[(.ref a1), (.int p2), (.int p3)] below meth c s₁ [] 0 0 := Stand.of_body Bd
  have e0 : s₁.heap = h0 := by rw [← hh, Bd.state]; rfl
  have N0 := Fr.nil n0
  have pre0 : ∀ t, Steps p.tables e below (s₁.setTop (mkF m 0 #[.val (.ref a1), .val (.int p2), .val (.int p3), .unset, .unset, .unset] [])) t → Steps p.tables e below (s₁.setTop (entryFrame m #[(.ref a1), (.int p2), (.int p3)] 6)) t := fun t k => castTop (ef_rC4 m a1 p2 p3) k
  obtain ⟨T1, h1, ck1, X1, e1, E1, A1, st1⟩ := newP X0 hx hZ (hw _ (own_w 20 rfl)) e0 (g := (mkF m 1 #[.val (.ref a1), .val (.int (Int32.ofNat b)), .val (.int (Int32.ofNat ct.length)), .unset, .unset, .unset] [(.int (Int32.ofNat ct.length))])) rfl (hb hby d42_1) rfl (own_x0 (by omega)) (cap := 8) (by rw [own_xN (by omega)]; omega) (by decide) (by decide) (by decide)
  obtain ⟨b1o, g1⟩ : ∃ z, z = h0.size := ⟨_, rfl⟩
  have b1 : n0 ≤ b1o := Nat.le_trans Z0 (Nat.le_of_eq g1.symm)
  have bk1 : h0.size ≤ b1o := Nat.le_trans (Keep.refl h0 []).1 (Nat.le_of_eq g1.symm)
  have ne2 : a1 ≠ b1o := Nat.ne_of_lt (Nat.lt_of_lt_of_le AC.lt (Nat.le_of_eq g1.symm))
  rw [← g1] at A1 st1
  have Z1 : n0 ≤ h1.size := Nat.le_trans Z0 E1.1
  have K1 : Keep h0 h1 [] := (Keep.refl h0 []).ext E1
  have V1 : Arv Z h1 b1o ck1 .byte (Int32.ofNat ct.length) (List.replicate (ct.length) (.int (0 : Int32))) (.int (0 : Int32)) := (Arv.new A1 (own_x0 (by omega))).pad (pad_rep [] (.int (0 : Int32)) (ct.length))
  have f4 := (X00.ext E1)
  have f5 := (AC.ext E1)
  obtain ⟨_, _, ⟨T3, Lq3, kq3, nq3⟩, -, X3, ⟨Lc3, hQ3, lq3, yq3, zq3⟩, st3⟩ := Jvm.LawKit.callS X1 hx (y := (⟨"java/lang/StringUTF16", "compress", "([BI[BII)I"⟩ : MethodName)) hown (mvT hZ (hw _ (own_w 186 rfl))) (mvT hZ (hw _ (own_w 187 rfl))) (mvT hZ (hw _ (own_w 56 rfl))) (mvT hZ (hw _ (own_w 188 rfl))) (by decide) (backOf (W := 0) (rC3 l Z a0 hw [] a1 (Int32.ofNat b) b1o (Int32.ofNat ct.length) cs ct b ka ck1 gv h1 n0 Z1 f4 O_S hgv O_A O_H O_W f5 V1 rfl rfl hs hL hLt hcs ne2 b1) hZ (hw _ (own_w 188 rfl)) (hw _ (own_w 56 rfl)) (by decide) (by decide)) (g := (mkF m 9 #[.val (.ref a1), .val (.int (Int32.ofNat b)), .val (.int (Int32.ofNat ct.length)), .val (.ref b1o), .unset, .unset] [(.int (Int32.ofNat ct.length)), (.int (0 : Int32)), (.ref b1o), (.int (Int32.ofNat b)), (.ref a1)])) rfl (by rw [hml]; rfl) (argsL := [(.ref a1), (.int (Int32.ofNat b)), (.ref b1o), (.int (0 : Int32)), (.int (Int32.ofNat ct.length))]) (rest := []) (lenOf pd_20 rfl) rfl (by show 2 * 0 + _ ≤ _; exact Nat.le_of_eq rfl) (hb hby d42_9) (fun _ _ => ⟨rfl, e1, (by decide : 1 + 0 ≤ _), (by decide : 8 + 0 ≤ _)⟩)
  dsimp only [Pt.U, Pt.locs, Pt.cells, Pt.slots] at X3 lq3 yq3 zq3 st3 hQ3
  subst lq3 yq3 zq3
  obtain ⟨j3, rfl, N3q, KC3, V3, hj3⟩ := hQ3
  have N3 := Fr.app N0 N3q
  have Z3 : n0 ≤ T3.heap.size := Nat.le_trans Z1 KC3.1
  have K3 : Keep h0 T3.heap [] := K1.trans KC3 (allS (Or.inr bk1) all0)
  rcases hj3 with ⟨rfl, hal⟩ | ⟨hlt, hbg⟩
  · skip
    obtain ⟨fs, hr, hrun, hended, hW, hsame⟩ := X3.leave (v := some (.ref b1o)) (fun h => by rw [Bd.returns] at h; cases h) (BodyLoose.notSynchronized Bd)
    refine ⟨_, _, pre0 _ ?_, hrun, hended, _, _, rfl, ?_, ⟨_, rfl⟩, hW, hsame.mono (by decide) (by decide)⟩
    · show Steps p.tables e below (s₁.setTop (mkF m 0 #[.val (.ref a1), .val (.int p2), .val (.int p3), .unset, .unset, .unset] [])) _
      rw [hp2]
      show Steps p.tables e below (s₁.setTop (mkF m 0 #[.val (.ref a1), .val (.int (Int32.ofNat b)), .val (.int p3), .unset, .unset, .unset] [])) _
      rw [hp3]
      refine XS.iloadN X0.here hx rfl (hb hby d42_0) rfl ?_
      refine st1 _ ?_
      refine XS.astoreN X1.here hx rfl (hb hby d42_3) rfl rfl (l' := #[.val (.ref a1), .val (.int (Int32.ofNat b)), .val (.int (Int32.ofNat ct.length)), .val (.ref b1o), .unset, .unset]) rfl ?_
      refine XS.aloadN X1.here hx rfl (hb hby d42_4) rfl rfl ?_
      refine XS.iloadN X1.here hx rfl (hb hby d42_5) rfl ?_
      refine XS.aloadN X1.here hx rfl (hb hby d42_6) rfl rfl ?_
      refine XS.iconst X1.here hx rfl (hb hby d42_7) ?_
      refine XS.iloadN X1.here hx rfl (hb hby d42_8) rfl ?_
      refine st3 _ ?_
      refine XS.istore X3.here hx rfl (hb hby d42_12) rfl (l' := #[.val (.ref a1), .val (.int (Int32.ofNat b)), .val (.int (Int32.ofNat ct.length)), .val (.ref b1o), .val (.int (Int32.ofNat ct.length)), .unset]) rfl ?_
      refine XS.iload X3.here hx rfl (hb hby d42_14) rfl ?_
      refine XS.iloadN X3.here hx rfl (hb hby d42_16) rfl ?_
      refine XS.icmpYes X3.here hx rfl (pc0 := 17) (pc' := 64) rfl (hb hby d42_17) rfl (teq rfl).1 (by decide) (by decide) ?_
      refine XS.aloadN X3.here hx rfl (hb hby d42_64) rfl rfl ?_
      exact X3.areturnOut hx rfl Bd.returns rfl (hb hby d42_65) hr
    · show QrC4 Z a1 p2 p3 cs ct b ka gv h0 n0 _ T3.heap _
      have qa := V3
      rw [own_mixLat] at qa
      exact ⟨b1o, _, rfl, N3, K3, b1, bk1, Or.inl ⟨qa, hal⟩⟩
  · skip
    obtain ⟨_, _, ⟨T6, Lq6, kq6, nq6⟩, -, X6, ⟨Lc6, hQ6, lq6, yq6, zq6⟩, st6⟩ := Jvm.LawKit.callS X3 hx (y := (⟨"java/lang/StringUTF16", "newBytesLength", "(I)I"⟩ : MethodName)) hown (mvT hZ (hw _ (own_w 156 rfl))) (mvT hZ (hw _ (own_w 157 rfl))) (mvT hZ (hw _ (own_w 56 rfl))) (mvT hZ (hw _ (own_w 158 rfl))) (by decide) (backOf (W := 2) (rNl l Z a0 hw [] (Int32.ofNat (b + ct.length)) (b + ct.length) T3.heap n0 Z3 rfl (by have := hs.1; omega)) hZ (hw _ (own_w 158 rfl)) (hw _ (own_w 56 rfl)) (by decide) (by decide)) (g := (mkF m 27 #[.val (.ref a1), .val (.int (Int32.ofNat b)), .val (.int (Int32.ofNat ct.length)), .val (.ref b1o), .val (.int (Int32.ofNat j3)), .unset] [(.int (Int32.ofNat (b + ct.length))), (.int (Int32.ofNat (2 * b))), (.ref a1)])) rfl (by rw [hml]; rfl) (argsL := [(.int (Int32.ofNat (b + ct.length)))]) (rest := [(.int (Int32.ofNat (2 * b))), (.ref a1)]) (lenOf pd_8 rfl) rfl (by show 2 * 0 + _ ≤ _; exact Nat.le_of_eq rfl) (hb hby d42_27) (fun _ _ => ⟨rfl, rfl, (by decide : 1 + 0 ≤ _), (by decide : 8 + 0 ≤ _)⟩)
    dsimp only [Pt.U, Pt.locs, Pt.cells, Pt.slots] at X6 lq6 yq6 zq6 st6 hQ6
    subst lq6 yq6 zq6
    obtain ⟨r6, hr6, rfl, N6q, e6⟩ := hQ6
    have N6 := Fr.app N3 N6q
    have f8 := (f5.keep KC3 (ninS ne2 nin0))
    obtain ⟨_, _, ⟨T7, Lq7, kq7, nq7⟩, -, X7, ⟨Lc7, hQ7, lq7, yq7, zq7⟩, st7⟩ := Jvm.LawKit.callS X6 hx (y := (⟨"java/util/Arrays", "copyOfRange", "([BII)[B"⟩ : MethodName)) hown (mvT hZ (hw _ (own_w 198 rfl))) (mvT hZ (hw _ (own_w 109 rfl))) (mvT hZ (hw _ (own_w 110 rfl))) (mvT hZ (hw _ (own_w 111 rfl))) (by decide) (backOf (W := 0) (rCr l Z a0 hw [] a1 (Int32.ofNat (2 * b)) (Int32.ofNat (2 * b + 2 * ct.length)) ka (2 * cs.length) (2 * b) (2 * ct.length) (own_utf cs) T3.heap n0 Z3 f8 rfl rfl (by have := hs.1; omega) (by omega) (fun q => hne ⟨by have := (own_xeq (by have := hs.1; omega) (by omega : 0 < 16)).mp q.1; omega, by have := (own_xeq (by have := hs.1; omega) (by omega)).mp q.2; omega⟩)) hZ (hw _ (own_w 111 rfl)) (hw _ (own_w 110 rfl)) (by decide) (by decide)) (g := (mkF m 30 #[.val (.ref a1), .val (.int (Int32.ofNat b)), .val (.int (Int32.ofNat ct.length)), .val (.ref b1o), .val (.int (Int32.ofNat j3)), .unset] [(.int (Int32.ofNat (2 * b + 2 * ct.length))), (.int (Int32.ofNat (2 * b))), (.ref a1)])) rfl (by rw [hml]; rfl) (argsL := [(.ref a1), (.int (Int32.ofNat (2 * b))), (.int (Int32.ofNat (2 * b + 2 * ct.length)))]) (rest := []) (lenOf pd_16 rfl) rfl (by show 2 * 0 + _ ≤ _; exact Nat.le_of_eq rfl) (hb hby d42_30) (fun _ _ => ⟨rfl, e6, (by decide : 1 + 1 ≤ _), (by decide : 8 + 16 ≤ _)⟩)
    dsimp only [Pt.U, Pt.locs, Pt.cells, Pt.slots] at X7 lq7 yq7 zq7 st7 hQ7
    subst lq7 yq7 zq7
    obtain ⟨o7, ok7, rfl, N7q, KC7, go7, gk7, V7⟩ := hQ7
    have N7 := Fr.app N6 N7q
    have Z7 : n0 ≤ T7.heap.size := Nat.le_trans Z3 KC7.1
    have ne9 : a1 ≠ o7 := Nat.ne_of_lt (Nat.lt_of_lt_of_le f8.lt gk7)
    have ne10 : b1o ≠ o7 := Nat.ne_of_lt (Nat.lt_of_lt_of_le V3.lt gk7)
    have K7 : Keep h0 T7.heap [] := K3.trans KC7 all0
    have VU11 := V7
    rw [own_subUtf hs] at VU11
    have f13 := ((f4.keep KC3 (allS b1 all0)).keep KC7 all0)
    obtain ⟨_, _, ⟨T12, Lq12, kq12, nq12⟩, -, X12, ⟨Lc12, hQ12, lq12, yq12, zq12⟩, st12⟩ := Jvm.LawKit.callS X7 hx (y := (⟨"java/lang/StringUTF16", "getChar", "([BI)C"⟩ : MethodName)) hown (mvT hZ (hw _ (own_w 166 rfl))) (mvT hZ (hw _ (own_w 167 rfl))) (mvT hZ (hw _ (own_w 56 rfl))) (mvT hZ (hw _ (own_w 168 rfl))) (by decide) (backOf (W := 0) (rGc l Z a0 hw [] o7 (Int32.ofNat j3) ok7 (ct).length (own_utf (ct)) (j3) _ _ T7.heap n0 Z7 f13 O_A O_H O_W VU11 rfl hlt hLt (own_utf_at (ct) (j3) _ hlt).1 (own_utf_at (ct) (j3) _ hlt).2) hZ (hw _ (own_w 168 rfl)) (hw _ (own_w 56 rfl)) (by decide) (by decide)) (g := (mkF m 39 #[.val (.ref a1), .val (.int (Int32.ofNat b)), .val (.int (Int32.ofNat ct.length)), .val (.ref b1o), .val (.int (Int32.ofNat j3)), .val (.ref o7)] [(.int (Int32.ofNat j3)), (.ref o7)])) rfl (by rw [hml]; rfl) (argsL := [(.ref o7), (.int (Int32.ofNat j3))]) (rest := []) (lenOf pd_6 rfl) rfl (by show 2 * 0 + _ ≤ _; exact Nat.le_of_eq rfl) (hb hby d42_39) (fun _ _ => ⟨rfl, rfl, (by decide : 2 + 0 ≤ _), (by decide : 24 + 0 ≤ _)⟩)
    dsimp only [Pt.U, Pt.locs, Pt.cells, Pt.slots] at X12 lq12 yq12 zq12 st12 hQ12
    subst lq12 yq12 zq12
    obtain ⟨r12, hr12, rfl, N12q, e12⟩ := hQ12
    have N12 := Fr.app N7 N12q
    obtain ⟨fs, hr, hrun, hended, hW, hsame⟩ := X12.leave (v := some (.ref o7)) (fun h => by rw [Bd.returns] at h; cases h) (BodyLoose.notSynchronized Bd)
    refine ⟨_, _, pre0 _ ?_, hrun, hended, _, _, rfl, ?_, ⟨_, rfl⟩, hW, hsame.mono (by decide) (by decide)⟩
    · show Steps p.tables e below (s₁.setTop (mkF m 0 #[.val (.ref a1), .val (.int p2), .val (.int p3), .unset, .unset, .unset] [])) _
      rw [hp2]
      show Steps p.tables e below (s₁.setTop (mkF m 0 #[.val (.ref a1), .val (.int (Int32.ofNat b)), .val (.int p3), .unset, .unset, .unset] [])) _
      rw [hp3]
      refine XS.iloadN X0.here hx rfl (hb hby d42_0) rfl ?_
      refine st1 _ ?_
      refine XS.astoreN X1.here hx rfl (hb hby d42_3) rfl rfl (l' := #[.val (.ref a1), .val (.int (Int32.ofNat b)), .val (.int (Int32.ofNat ct.length)), .val (.ref b1o), .unset, .unset]) rfl ?_
      refine XS.aloadN X1.here hx rfl (hb hby d42_4) rfl rfl ?_
      refine XS.iloadN X1.here hx rfl (hb hby d42_5) rfl ?_
      refine XS.aloadN X1.here hx rfl (hb hby d42_6) rfl rfl ?_
      refine XS.iconst X1.here hx rfl (hb hby d42_7) ?_
      refine XS.iloadN X1.here hx rfl (hb hby d42_8) rfl ?_
      refine st3 _ ?_
      refine XS.istore X3.here hx rfl (hb hby d42_12) rfl (l' := #[.val (.ref a1), .val (.int (Int32.ofNat b)), .val (.int (Int32.ofNat ct.length)), .val (.ref b1o), .val (.int (Int32.ofNat j3)), .unset]) rfl ?_
      refine XS.iload X3.here hx rfl (hb hby d42_14) rfl ?_
      refine XS.iloadN X3.here hx rfl (hb hby d42_16) rfl ?_
      refine XS.icmpNo X3.here hx rfl (hb hby d42_17) rfl (feq (fun w => absurd ((own_xeq (by omega) (by omega)).mp w) (Nat.ne_of_lt hlt))).1 ?_
      refine XS.aloadN X3.here hx rfl (hb hby d42_20) rfl rfl ?_
      refine XS.iloadN X3.here hx rfl (hb hby d42_21) rfl ?_
      refine XS.iconst X3.here hx rfl (hb hby d42_22) ?_
      refine XS.ishl X3.here hx rfl (hb hby d42_23) rfl ?_
      show Steps p.tables e below (T3.setTop (mkF m 24 #[.val (.ref a1), .val (.int (Int32.ofNat b)), .val (.int (Int32.ofNat ct.length)), .val (.ref b1o), .val (.int (Int32.ofNat j3)), .unset] [(.int ((Int32.ofNat b) <<< ((1 : Int32) &&& 31))), (.ref a1)])) _
      rw [(own_xsh (i := b) (by have := hs.1; omega))]
      refine XS.iloadN X3.here hx rfl (hb hby d42_24) rfl ?_
      refine XS.iloadN X3.here hx rfl (hb hby d42_25) rfl ?_
      refine XS.iadd X3.here hx rfl (hb hby d42_26) rfl ?_
      show Steps p.tables e below (T3.setTop (mkF m 27 #[.val (.ref a1), .val (.int (Int32.ofNat b)), .val (.int (Int32.ofNat ct.length)), .val (.ref b1o), .val (.int (Int32.ofNat j3)), .unset] [(.int ((Int32.ofNat b) + (Int32.ofNat ct.length))), (.int (Int32.ofNat (2 * b))), (.ref a1)])) _
      rw [(own_xadd (i := b) (j := ct.length) (by have := hs.1; omega) (by have := hs.1; omega))]
      refine st6 _ ?_
      show Steps p.tables e below (T6.setTop (mkF m 30 #[.val (.ref a1), .val (.int (Int32.ofNat b)), .val (.int (Int32.ofNat ct.length)), .val (.ref b1o), .val (.int (Int32.ofNat j3)), .unset] [(.int r6), (.int (Int32.ofNat (2 * b))), (.ref a1)])) _
      rw [(hr6.trans (congrArg Int32.ofNat (Nat.mul_add 2 b ct.length)))]
      refine st7 _ ?_
      refine XS.astore X7.here hx rfl (hb hby d42_33) rfl rfl (l' := #[.val (.ref a1), .val (.int (Int32.ofNat b)), .val (.int (Int32.ofNat ct.length)), .val (.ref b1o), .val (.int (Int32.ofNat j3)), .val (.ref o7)]) rfl ?_
      refine XS.aload X7.here hx rfl (hb hby d42_35) rfl rfl ?_
      refine XS.iload X7.here hx rfl (hb hby d42_37) rfl ?_
      refine st12 _ ?_
      refine XS.sipush X12.here hx rfl (hb hby d42_42) ?_
      refine XS.icmpYes X12.here hx rfl (pc0 := 45) (pc' := 61) rfl (hb hby d42_45) rfl (tlt (by rw [hr12, own_gc_eq (own_getCh (own_subCh hs hcs) _)]; exact (own_255 _).mpr hbg)).2.2.1 (by decide) (by decide) ?_
      refine XS.aload X12.here hx rfl (hb hby d42_61) rfl rfl ?_
      exact X12.areturnOut hx rfl Bd.returns rfl (hb hby d42_63) hr
    · show QrC4 Z a1 p2 p3 cs ct b ka gv h0 n0 _ T12.heap _
      rw [e12]
      exact ⟨o7, _, rfl, N12, K7, go7, (Nat.le_trans K3.1 gk7), Or.inr VU11⟩
theorem d41_0 : decode jdk_52_method_69_code 0 = .ok (.iload_n 2, 1) := by decide +kernel
theorem d41_1 : decode jdk_52_method_69_code 1 = .ok (.ifCond .ne 7, 3) := by decide +kernel
theorem d41_8 : decode jdk_52_method_69_code 8 = .ok (.getstatic 251, 3) := by decide +kernel
theorem d41_11 : decode jdk_52_method_69_code 11 = .ok (.ifCond .eq 28, 3) := by decide +kernel
theorem d41_14 : decode jdk_52_method_69_code 14 = .ok (.aload_n 0, 1) := by decide +kernel
theorem d41_15 : decode jdk_52_method_69_code 15 = .ok (.iload_n 1, 1) := by decide +kernel
theorem d41_16 : decode jdk_52_method_69_code 16 = .ok (.iload_n 2, 1) := by decide +kernel
theorem d41_17 : decode jdk_52_method_69_code 17 = .ok (.invokestatic 257, 3) := by decide +kernel
theorem d41_20 : decode jdk_52_method_69_code 20 = .ok (.astore_n 3, 1) := by decide +kernel
theorem d41_21 : decode jdk_52_method_69_code 21 = .ok (.aload_n 3, 1) := by decide +kernel
theorem d41_22 : decode jdk_52_method_69_code 22 = .ok (.iload_n 2, 1) := by decide +kernel
theorem d41_23 : decode jdk_52_method_69_code 23 = .ok (.invokestatic 259, 3) := by decide +kernel
theorem d41_26 : decode jdk_52_method_69_code 26 = .ok (.istore 4, 2) := by decide +kernel
theorem d41_28 : decode jdk_52_method_69_code 28 = .ok (.new 3, 3) := by decide +kernel
theorem d41_31 : decode jdk_52_method_69_code 31 = .ok (.dup, 1) := by decide +kernel
theorem d41_32 : decode jdk_52_method_69_code 32 = .ok (.aload_n 3, 1) := by decide +kernel
theorem d41_33 : decode jdk_52_method_69_code 33 = .ok (.iload 4, 2) := by decide +kernel
theorem d41_35 : decode jdk_52_method_69_code 35 = .ok (.invokespecial 263, 3) := by decide +kernel
theorem d41_38 : decode jdk_52_method_69_code 38 = .ok (.areturn, 1) := by decide +kernel
theorem pn_41 : plainName "java/lang/StringUTF16" = true := by first | (simp [plainName, overriddenIn]; done) | decide +kernel
theorem ef_rUn (m : MethodId) (a1 : Addr) (p2 : Int32) (p3 : Int32) : entryFrame m #[(.ref a1), (.int p2), (.int p3)] 5 = mkF m 0 #[.val (.ref a1), .val (.int p2), .val (.int p3), .unset, .unset] [] := by first | (simp [entryFrame, mkF, argsToLocals, Value.category]; done) | rfl
def QrUn (Z : State) (a1 : Addr) (p2 : Int32) (p3 : Int32) (cs : List Int32) (ct : List Int32) (b : Nat) (ka : ClassId) (G1 : Int32) (gv : Value) (h0 : Heap) (n0 : Nat) (v : Option Value) (h : Heap) (L : List Loc) : Prop := ∃ o : Addr, v = some (.ref o) ∧ Fr n0 L ∧ Keep h0 h [] ∧ own_S Z h o ct
set_option maxRecDepth 65536 in
set_option maxHeartbeats 40000000 in
theorem rUn (l : Launch) (Z : State) (a0 : Array Value) (hw : ∀ d ∈ tables_1, d.before a0 Z = true) (ws : List Jvm.Cond) (a1 : Addr) (p2 : Int32) (p3 : Int32) (cs : List Int32) (ct : List Int32) (b : Nat) (ka : ClassId) (G1 : Int32) (gv : Value) (h0 : Heap) (n0 : Nat) (Z0 : n0 ≤ h0.size) (X00 : Old Z n0 h0) (O_S : Sta Z Z.heap "jdk/internal/util/Preconditions" "SIOOBE_FORMATTER" "Ljava/util/function/BiFunction;" gv) (hgv : gv.isRef = true) (O_2 : Sta Z Z.heap "java/lang/String" "COMPACT_STRINGS" "Z" (.int G1)) (P5 : ¬ (G1 = (0 : Int32))) (O_A : Sta Z Z.heap "java/lang/StringUTF16" "$assertionsDisabled" "Z" (.int (1 : Int32))) (O_H : Sta Z Z.heap "java/lang/StringUTF16" "HI_BYTE_SHIFT" "I" (.int (0 : Int32))) (O_W : Sta Z Z.heap "java/lang/StringUTF16" "LO_BYTE_SHIFT" "I" (.int (8 : Int32))) (AC : Arv Z h0 a1 ka .byte (Int32.ofNat (2 * cs.length)) (own_utf cs) (.int (0 : Int32))) (hp2 : p2 = Int32.ofNat b) (hp3 : p3 = Int32.ofNat ct.length) (hs : own_sub cs b ct) (hps : 0 < ct.length) (hne : ¬ (b = 0 ∧ b + ct.length = cs.length)) (hL : cs.length < 8) (hLt : ct.length < 8) (hcs : ∀ c ∈ cs, own_ch c) :
    MetFree l (⟨"java/lang/StringUTF16", "newString", "([BII)Ljava/lang/String;"⟩ : MethodName) (head1 (Jvm.Cond.code (⟨"java/lang/StringUTF16", "newString", "([BII)Ljava/lang/String;"⟩ : MethodName) jdk_52_method_69_code 5 (some (.object "java/lang/String")) :: ws) ({ frames := 5, cells := 3, slots := 28, locals := 78 } : Room)) (fun a U => a = #[(.ref a1), (.int p2), (.int p3)] ∧ Z.Warmed39 U.vm ∧ U.heap = h0) (fun _ _ _ _ _ => True) (fun _ U o U' => ∃ v L, o = .returned v ∧ QrUn Z a1 p2 p3 cs ct b ka G1 gv h0 n0 v U'.heap L ∧ FrameEnd U o U' L ({ frames := 5, cells := 3, slots := 28, locals := 78 } : Room).cells ({ frames := 5, cells := 3, slots := 28, locals := 78 } : Room).slots) := by
  refine MetFree.of_bodySF (plainFor_of_name pn_41) hisR ?_
  intro p e s m args below meth c s₁ Bd hml0 hP hK
  obtain ⟨rfl, hZ, hh⟩ := hP
  have hx := Bd.exec
  have hby := Bd.bytes
  have hml : c.maxLocals = 5 := hml0
  have hown : s.vm.findClass "java/lang/StringUTF16" = some m.cls := findClass_of_methodNamed Bd.named
  have hnm := (name_of_methodNamed Bd.named Bd.method).1
  have X0 : Stand p l e ({ frames := 5, cells := 3, slots := 28, locals := 78 } : Room) s m #[(.ref a1), (.int p2), (.int p3)] below meth c s₁ [] 0 0 := Stand.of_body Bd
  have e0 : s₁.heap = h0 := by rw [← hh, Bd.state]; rfl
  have N0 := Fr.nil n0
  have pre0 : ∀ t, Steps p.tables e below (s₁.setTop (mkF m 0 #[.val (.ref a1), .val (.int p2), .val (.int p3), .unset, .unset] [])) t → Steps p.tables e below (s₁.setTop (entryFrame m #[(.ref a1), (.int p2), (.int p3)] 5)) t := fun t k => castTop (ef_rUn m a1 p2 p3) k
  obtain ⟨T1, X1, e1, st1⟩ := getS2 X0 hx hZ hown (host := "") (Or.inl (hw _ (own_w 182 rfl))) Via.refl e0 (O_2.ext X00.2) (g := (mkF m 8 #[.val (.ref a1), .val (.int (Int32.ofNat b)), .val (.int (Int32.ofNat ct.length)), .unset, .unset] [])) rfl (hb hby d41_8)
  obtain ⟨_, _, ⟨T2, Lq2, kq2, nq2⟩, -, X2, ⟨Lc2, hQ2, lq2, yq2, zq2⟩, st2⟩ := Jvm.LawKit.callS X1 hx (y := (⟨"java/lang/StringUTF16", "compress", "([BII)[B"⟩ : MethodName)) hown (mvT hZ (hw _ (own_w 183 rfl))) (mvT hZ (hw _ (own_w 184 rfl))) (mvT hZ (hw _ (own_w 56 rfl))) (mvT hZ (hw _ (own_w 185 rfl))) (by decide) (backOf (W := 0) (rC4 l Z a0 hw [] a1 (Int32.ofNat b) (Int32.ofNat ct.length) cs ct b ka gv h0 n0 Z0 X00 O_S hgv O_A O_H O_W AC rfl rfl hs hps hne hL hLt hcs) hZ (hw _ (own_w 185 rfl)) (hw _ (own_w 56 rfl)) (by decide) (by decide)) (g := (mkF m 17 #[.val (.ref a1), .val (.int (Int32.ofNat b)), .val (.int (Int32.ofNat ct.length)), .unset, .unset] [(.int (Int32.ofNat ct.length)), (.int (Int32.ofNat b)), (.ref a1)])) rfl (by rw [hml]; rfl) (argsL := [(.ref a1), (.int (Int32.ofNat b)), (.int (Int32.ofNat ct.length))]) (rest := []) (lenOf pd_16 rfl) rfl (by show 2 * 0 + _ ≤ _; exact Nat.le_of_eq rfl) (hb hby d41_17) (fun _ _ => ⟨rfl, e1, (by decide : 0 + 2 ≤ _), (by decide : 0 + 24 ≤ _)⟩)
  dsimp only [Pt.U, Pt.locs, Pt.cells, Pt.slots] at X2 lq2 yq2 zq2 st2 hQ2
  subst lq2 yq2 zq2
  obtain ⟨o2, ok2, rfl, N2q, KC2, go2, gk2, hB2⟩ := hQ2
  have N2 := Fr.app N0 N2q
  have Z2 : n0 ≤ T2.heap.size := Nat.le_trans Z0 KC2.1
  have ne3 : a1 ≠ o2 := Nat.ne_of_lt (Nat.lt_of_lt_of_le AC.lt gk2)
  have K2 : Keep h0 T2.heap [] := (Keep.refl h0 []).trans KC2 all0
  rcases hB2 with ⟨VB, hal⟩ | VB
  · skip
    obtain ⟨_, _, ⟨T4, Lq4, kq4, nq4⟩, -, X4, ⟨Lc4, hQ4, lq4, yq4, zq4⟩, st4⟩ := Jvm.LawKit.callS X2 hx (y := (⟨"java/lang/StringUTF16", "coderFromArrayLen", "([BI)B"⟩ : MethodName)) hown (mvT hZ (hw _ (own_w 199 rfl))) (mvT hZ (hw _ (own_w 62 rfl))) (mvT hZ (hw _ (own_w 56 rfl))) (mvT hZ (hw _ (own_w 63 rfl))) (by decide) (backOf (W := 0) (rK0 l Z a0 hw [] o2 (Int32.ofNat ct.length) ok2 ct.length (own_lat ct) T2.heap n0 Z2 VB rfl hLt hps) hZ (hw _ (own_w 63 rfl)) (hw _ (own_w 56 rfl)) (by decide) (by decide)) (g := (mkF m 23 #[.val (.ref a1), .val (.int (Int32.ofNat b)), .val (.int (Int32.ofNat ct.length)), .val (.ref o2), .unset] [(.int (Int32.ofNat ct.length)), (.ref o2)])) rfl (by rw [hml]; rfl) (argsL := [(.ref o2), (.int (Int32.ofNat ct.length))]) (rest := []) (lenOf pd_13 rfl) rfl (by show 2 * 0 + _ ≤ _; exact Nat.le_of_eq rfl) (hb hby d41_23) (fun _ _ => ⟨rfl, rfl, (by decide : 2 + 0 ≤ _), (by decide : 24 + 0 ≤ _)⟩)
    dsimp only [Pt.U, Pt.locs, Pt.cells, Pt.slots] at X4 lq4 yq4 zq4 st4 hQ4
    subst lq4 yq4 zq4
    obtain ⟨r4, hr4, rfl, N4q, e4⟩ := hQ4
    have N4 := Fr.app N2 N4q
    subst hr4
    obtain ⟨T5, h5, X5, e5, E5, A5, D5, -, st5⟩ := newO X4 hx hZ hown (hw _ (own_w 200 rfl)) (hw _ (own_w 7 rfl)) (hw _ (own_w 8 rfl)) e4 (g := (mkF m 28 #[.val (.ref a1), .val (.int (Int32.ofNat b)), .val (.int (Int32.ofNat ct.length)), .val (.ref o2), .val (.int (0 : Int32))] [])) rfl (hb hby d41_28) (by decide) (by decide)
    obtain ⟨b5o, g5⟩ : ∃ z, z = T2.heap.size := ⟨_, rfl⟩
    have b5 : n0 ≤ b5o := Nat.le_trans Z2 (Nat.le_of_eq g5.symm)
    have bk5 : h0.size ≤ b5o := Nat.le_trans K2.1 (Nat.le_of_eq g5.symm)
    have f6 := (AC.keep KC2 nin0)
    have ne7 : a1 ≠ b5o := Nat.ne_of_lt (Nat.lt_of_lt_of_le f6.lt (Nat.le_of_eq g5.symm))
    have ne8 : o2 ≠ b5o := Nat.ne_of_lt (Nat.lt_of_lt_of_le VB.lt (Nat.le_of_eq g5.symm))
    rw [← g5] at A5 D5 st5
    have Z5 : n0 ≤ h5.size := Nat.le_trans Z2 E5.1
    have K5 : Keep h0 h5 [] := K2.ext E5
    have F5_21 : Fld Z h5 b5o "java/lang/String" "value" "[B" .null := D5 (Or.inr (hw _ (own_w 21 rfl))) (ty := (.array .byte)) (by decide)
    have F5_22 : Fld Z h5 b5o "java/lang/String" "coder" "B" (.int (0 : Int32)) := D5 (Or.inr (hw _ (own_w 22 rfl))) (ty := .byte) (by decide)
    obtain ⟨_, _, ⟨T9, Lq9, kq9, nq9⟩, -, X9, ⟨Lc9, hQ9, lq9, yq9, zq9⟩, st9⟩ := X5.specialBack hx (y := (⟨"java/lang/String", "<init>", "([BB)V"⟩ : MethodName)) rfl hown (mvT hZ (hw _ (own_w 201 rfl))) (mvT hZ (hw _ (own_w 127 rfl))) (mvT hZ (hw _ (own_w 128 rfl))) (by decide) (backOf (W := 1) (rT0 l Z a0 hw [] b5o o2  h5 n0 Z5 A5 F5_21 F5_22 b5) hZ (hw _ (own_w 128 rfl)) (hw _ (own_w 8 rfl)) (by decide) (by decide)) (g := (mkF m 35 #[.val (.ref a1), .val (.int (Int32.ofNat b)), .val (.int (Int32.ofNat ct.length)), .val (.ref o2), .val (.int (0 : Int32))] [(.int (0 : Int32)), (.ref o2), (.ref b5o), (.ref b5o)])) rfl (by rw [hml]; rfl) (Steps.refl _) (a := b5o) (argsL := [(.ref o2), (.int (0 : Int32))]) (rest := [(.ref b5o)]) (lenOf pd_17 rfl) rfl (by show 2 * 0 + _ ≤ _; exact Nat.le_of_eq rfl) (hb hby d41_35) (fun _ _ => ⟨rfl, e5, (by decide : 3 + 0 ≤ _), (by decide : 28 + 0 ≤ _)⟩)
    dsimp only [Pt.U, Pt.locs, Pt.cells, Pt.slots] at X9 lq9 yq9 zq9 st9 hQ9
    subst lq9 yq9 zq9
    obtain ⟨rfl, N9q, KC9, u9⟩ := hQ9
    have N9 := Fr.app N4 N9q
    have Z9 : n0 ≤ T9.heap.size := Nat.le_trans Z5 KC9.1
    have K9 : Keep h0 T9.heap [] := K5.trans KC9 (allS (Or.inr bk5) all0)
    obtain ⟨uE9, uV9, uC9⟩ := u9
    obtain ⟨fs, hr, hrun, hended, hW, hsame⟩ := X9.leave (v := some (.ref b5o)) (fun h => by rw [Bd.returns] at h; cases h) (BodyLoose.notSynchronized Bd)
    refine ⟨_, _, pre0 _ ?_, hrun, hended, _, _, rfl, ?_, ⟨_, rfl⟩, hW, hsame.mono (by decide) (by decide)⟩
    · show Steps p.tables e below (s₁.setTop (mkF m 0 #[.val (.ref a1), .val (.int p2), .val (.int p3), .unset, .unset] [])) _
      rw [hp2]
      show Steps p.tables e below (s₁.setTop (mkF m 0 #[.val (.ref a1), .val (.int (Int32.ofNat b)), .val (.int p3), .unset, .unset] [])) _
      rw [hp3]
      refine XS.iloadN X0.here hx rfl (hb hby d41_0) rfl ?_
      refine XS.ifYes X0.here hx rfl (pc0 := 1) (pc' := 8) rfl (hb hby d41_1) rfl ((if0 _ _).trans (feq (own_xne (by omega) hps)).2) (by decide) (by decide) ?_
      refine st1 _ ?_
      refine XS.ifNo X1.here hx rfl (hb hby d41_11) rfl ((if0 _ _).trans (feq P5).1) ?_
      refine XS.aloadN X1.here hx rfl (hb hby d41_14) rfl rfl ?_
      refine XS.iloadN X1.here hx rfl (hb hby d41_15) rfl ?_
      refine XS.iloadN X1.here hx rfl (hb hby d41_16) rfl ?_
      refine st2 _ ?_
      refine XS.astoreN X2.here hx rfl (hb hby d41_20) rfl rfl (l' := #[.val (.ref a1), .val (.int (Int32.ofNat b)), .val (.int (Int32.ofNat ct.length)), .val (.ref o2), .unset]) rfl ?_
      refine XS.aloadN X2.here hx rfl (hb hby d41_21) rfl rfl ?_
      refine XS.iloadN X2.here hx rfl (hb hby d41_22) rfl ?_
      refine st4 _ ?_
      refine XS.istore X4.here hx rfl (hb hby d41_26) rfl (l' := #[.val (.ref a1), .val (.int (Int32.ofNat b)), .val (.int (Int32.ofNat ct.length)), .val (.ref o2), .val (.int (0 : Int32))]) rfl ?_
      refine st5 _ ?_
      refine XS.dup X5.here hx rfl (hb hby d41_31) rfl rfl ?_
      refine XS.aloadN X5.here hx rfl (hb hby d41_32) rfl rfl ?_
      refine XS.iload X5.here hx rfl (hb hby d41_33) rfl ?_
      refine st9.trans ?_
      exact X9.areturnOut hx rfl Bd.returns rfl (hb hby d41_38) hr
    · show QrUn Z a1 p2 p3 cs ct b ka G1 gv h0 n0 _ T9.heap _
      have f10 := ((VB.ext E5).keep KC9 (ninS ne8 nin0))
      have qa := f10
      exact ⟨b5o, rfl, N9, K9, o2, _, uE9, uV9, Or.inl ⟨uC9, qa, hal⟩⟩
  · skip
    obtain ⟨_, _, ⟨T11, Lq11, kq11, nq11⟩, -, X11, ⟨Lc11, hQ11, lq11, yq11, zq11⟩, st11⟩ := Jvm.LawKit.callS X2 hx (y := (⟨"java/lang/StringUTF16", "coderFromArrayLen", "([BI)B"⟩ : MethodName)) hown (mvT hZ (hw _ (own_w 199 rfl))) (mvT hZ (hw _ (own_w 62 rfl))) (mvT hZ (hw _ (own_w 56 rfl))) (mvT hZ (hw _ (own_w 63 rfl))) (by decide) (backOf (W := 0) (rK1 l Z a0 hw [] o2 (Int32.ofNat ct.length) ok2 ct.length (own_utf ct) T2.heap n0 Z2 VB rfl hLt hps) hZ (hw _ (own_w 63 rfl)) (hw _ (own_w 56 rfl)) (by decide) (by decide)) (g := (mkF m 23 #[.val (.ref a1), .val (.int (Int32.ofNat b)), .val (.int (Int32.ofNat ct.length)), .val (.ref o2), .unset] [(.int (Int32.ofNat ct.length)), (.ref o2)])) rfl (by rw [hml]; rfl) (argsL := [(.ref o2), (.int (Int32.ofNat ct.length))]) (rest := []) (lenOf pd_13 rfl) rfl (by show 2 * 0 + _ ≤ _; exact Nat.le_of_eq rfl) (hb hby d41_23) (fun _ _ => ⟨rfl, rfl, (by decide : 2 + 0 ≤ _), (by decide : 24 + 0 ≤ _)⟩)
    dsimp only [Pt.U, Pt.locs, Pt.cells, Pt.slots] at X11 lq11 yq11 zq11 st11 hQ11
    subst lq11 yq11 zq11
    obtain ⟨r11, hr11, rfl, N11q, e11⟩ := hQ11
    have N11 := Fr.app N2 N11q
    subst hr11
    obtain ⟨T12, h12, X12, e12, E12, A12, D12, -, st12⟩ := newO X11 hx hZ hown (hw _ (own_w 200 rfl)) (hw _ (own_w 7 rfl)) (hw _ (own_w 8 rfl)) e11 (g := (mkF m 28 #[.val (.ref a1), .val (.int (Int32.ofNat b)), .val (.int (Int32.ofNat ct.length)), .val (.ref o2), .val (.int (1 : Int32))] [])) rfl (hb hby d41_28) (by decide) (by decide)
    obtain ⟨b12o, g12⟩ : ∃ z, z = T2.heap.size := ⟨_, rfl⟩
    have b12 : n0 ≤ b12o := Nat.le_trans Z2 (Nat.le_of_eq g12.symm)
    have bk12 : h0.size ≤ b12o := Nat.le_trans K2.1 (Nat.le_of_eq g12.symm)
    have f13 := (AC.keep KC2 nin0)
    have ne14 : a1 ≠ b12o := Nat.ne_of_lt (Nat.lt_of_lt_of_le f13.lt (Nat.le_of_eq g12.symm))
    have ne15 : o2 ≠ b12o := Nat.ne_of_lt (Nat.lt_of_lt_of_le VB.lt (Nat.le_of_eq g12.symm))
    rw [← g12] at A12 D12 st12
    have Z12 : n0 ≤ h12.size := Nat.le_trans Z2 E12.1
    have K12 : Keep h0 h12 [] := K2.ext E12
    have F12_21 : Fld Z h12 b12o "java/lang/String" "value" "[B" .null := D12 (Or.inr (hw _ (own_w 21 rfl))) (ty := (.array .byte)) (by decide)
    have F12_22 : Fld Z h12 b12o "java/lang/String" "coder" "B" (.int (0 : Int32)) := D12 (Or.inr (hw _ (own_w 22 rfl))) (ty := .byte) (by decide)
    obtain ⟨_, _, ⟨T16, Lq16, kq16, nq16⟩, -, X16, ⟨Lc16, hQ16, lq16, yq16, zq16⟩, st16⟩ := X12.specialBack hx (y := (⟨"java/lang/String", "<init>", "([BB)V"⟩ : MethodName)) rfl hown (mvT hZ (hw _ (own_w 201 rfl))) (mvT hZ (hw _ (own_w 127 rfl))) (mvT hZ (hw _ (own_w 128 rfl))) (by decide) (backOf (W := 1) (rT1 l Z a0 hw [] b12o o2  h12 n0 Z12 A12 F12_21 F12_22 b12) hZ (hw _ (own_w 128 rfl)) (hw _ (own_w 8 rfl)) (by decide) (by decide)) (g := (mkF m 35 #[.val (.ref a1), .val (.int (Int32.ofNat b)), .val (.int (Int32.ofNat ct.length)), .val (.ref o2), .val (.int (1 : Int32))] [(.int (1 : Int32)), (.ref o2), (.ref b12o), (.ref b12o)])) rfl (by rw [hml]; rfl) (Steps.refl _) (a := b12o) (argsL := [(.ref o2), (.int (1 : Int32))]) (rest := [(.ref b12o)]) (lenOf pd_17 rfl) rfl (by show 2 * 0 + _ ≤ _; exact Nat.le_of_eq rfl) (hb hby d41_35) (fun _ _ => ⟨rfl, e12, (by decide : 3 + 0 ≤ _), (by decide : 28 + 0 ≤ _)⟩)
    dsimp only [Pt.U, Pt.locs, Pt.cells, Pt.slots] at X16 lq16 yq16 zq16 st16 hQ16
    subst lq16 yq16 zq16
    obtain ⟨rfl, N16q, KC16, u16⟩ := hQ16
    have N16 := Fr.app N11 N16q
    have Z16 : n0 ≤ T16.heap.size := Nat.le_trans Z12 KC16.1
    have K16 : Keep h0 T16.heap [] := K12.trans KC16 (allS (Or.inr bk12) all0)
    obtain ⟨uE16, uV16, uC16⟩ := u16
    obtain ⟨fs, hr, hrun, hended, hW, hsame⟩ := X16.leave (v := some (.ref b12o)) (fun h => by rw [Bd.returns] at h; cases h) (BodyLoose.notSynchronized Bd)
    refine ⟨_, _, pre0 _ ?_, hrun, hended, _, _, rfl, ?_, ⟨_, rfl⟩, hW, hsame.mono (by decide) (by decide)⟩
    · show Steps p.tables e below (s₁.setTop (mkF m 0 #[.val (.ref a1), .val (.int p2), .val (.int p3), .unset, .unset] [])) _
      rw [hp2]
      show Steps p.tables e below (s₁.setTop (mkF m 0 #[.val (.ref a1), .val (.int (Int32.ofNat b)), .val (.int p3), .unset, .unset] [])) _
      rw [hp3]
      refine XS.iloadN X0.here hx rfl (hb hby d41_0) rfl ?_
      refine XS.ifYes X0.here hx rfl (pc0 := 1) (pc' := 8) rfl (hb hby d41_1) rfl ((if0 _ _).trans (feq (own_xne (by omega) hps)).2) (by decide) (by decide) ?_
      refine st1 _ ?_
      refine XS.ifNo X1.here hx rfl (hb hby d41_11) rfl ((if0 _ _).trans (feq P5).1) ?_
      refine XS.aloadN X1.here hx rfl (hb hby d41_14) rfl rfl ?_
      refine XS.iloadN X1.here hx rfl (hb hby d41_15) rfl ?_
      refine XS.iloadN X1.here hx rfl (hb hby d41_16) rfl ?_
      refine st2 _ ?_
      refine XS.astoreN X2.here hx rfl (hb hby d41_20) rfl rfl (l' := #[.val (.ref a1), .val (.int (Int32.ofNat b)), .val (.int (Int32.ofNat ct.length)), .val (.ref o2), .unset]) rfl ?_
      refine XS.aloadN X2.here hx rfl (hb hby d41_21) rfl rfl ?_
      refine XS.iloadN X2.here hx rfl (hb hby d41_22) rfl ?_
      refine st11 _ ?_
      refine XS.istore X11.here hx rfl (hb hby d41_26) rfl (l' := #[.val (.ref a1), .val (.int (Int32.ofNat b)), .val (.int (Int32.ofNat ct.length)), .val (.ref o2), .val (.int (1 : Int32))]) rfl ?_
      refine st12 _ ?_
      refine XS.dup X12.here hx rfl (hb hby d41_31) rfl rfl ?_
      refine XS.aloadN X12.here hx rfl (hb hby d41_32) rfl rfl ?_
      refine XS.iload X12.here hx rfl (hb hby d41_33) rfl ?_
      refine st16.trans ?_
      exact X16.areturnOut hx rfl Bd.returns rfl (hb hby d41_38) hr
    · show QrUn Z a1 p2 p3 cs ct b ka G1 gv h0 n0 _ T16.heap _
      have f17 := ((VB.ext E12).keep KC16 (ninS ne15 nin0))
      have qa := f17
      exact ⟨b12o, rfl, N16, K16, o2, _, uE16, uV16, Or.inr ⟨uC16, qa⟩⟩
theorem pd_21 : parseMethodDescriptor "()I" = some ⟨[], some .int⟩ := by decide +kernel
theorem pd_22 : parseMethodDescriptor "(III)V" = some ⟨[.int, .int, .int], none⟩ := by decide +kernel
theorem pd_23 : parseMethodDescriptor "([BII)Ljava/lang/String;" = some ⟨[(.array .byte), .int, .int], some (.object "java/lang/String")⟩ := by decide +kernel
theorem d20_0 : decode jdk_42_method_92_code 0 = .ok (.aload_n 0, 1) := by decide +kernel
theorem d20_1 : decode jdk_42_method_92_code 1 = .ok (.invokevirtual 505, 3) := by decide +kernel
theorem d20_4 : decode jdk_42_method_92_code 4 = .ok (.istore_n 3, 1) := by decide +kernel
theorem d20_5 : decode jdk_42_method_92_code 5 = .ok (.iload_n 1, 1) := by decide +kernel
theorem d20_6 : decode jdk_42_method_92_code 6 = .ok (.iload_n 2, 1) := by decide +kernel
theorem d20_7 : decode jdk_42_method_92_code 7 = .ok (.iload_n 3, 1) := by decide +kernel
theorem d20_8 : decode jdk_42_method_92_code 8 = .ok (.invokestatic 521, 3) := by decide +kernel
theorem d20_11 : decode jdk_42_method_92_code 11 = .ok (.iload_n 1, 1) := by decide +kernel
theorem d20_12 : decode jdk_42_method_92_code 12 = .ok (.ifCond .ne 10, 3) := by decide +kernel
theorem d20_15 : decode jdk_42_method_92_code 15 = .ok (.iload_n 2, 1) := by decide +kernel
theorem d20_16 : decode jdk_42_method_92_code 16 = .ok (.iload_n 3, 1) := by decide +kernel
theorem d20_17 : decode jdk_42_method_92_code 17 = .ok (.if_icmp .ne 5, 3) := by decide +kernel
theorem d20_20 : decode jdk_42_method_92_code 20 = .ok (.aload_n 0, 1) := by decide +kernel
theorem d20_21 : decode jdk_42_method_92_code 21 = .ok (.areturn, 1) := by decide +kernel
theorem d20_22 : decode jdk_42_method_92_code 22 = .ok (.iload_n 2, 1) := by decide +kernel
theorem d20_23 : decode jdk_42_method_92_code 23 = .ok (.iload_n 1, 1) := by decide +kernel
theorem d20_24 : decode jdk_42_method_92_code 24 = .ok (.isub, 1) := by decide +kernel
theorem d20_25 : decode jdk_42_method_92_code 25 = .ok (.istore 4, 2) := by decide +kernel
theorem d20_27 : decode jdk_42_method_92_code 27 = .ok (.aload_n 0, 1) := by decide +kernel
theorem d20_28 : decode jdk_42_method_92_code 28 = .ok (.invokevirtual 492, 3) := by decide +kernel
theorem d20_31 : decode jdk_42_method_92_code 31 = .ok (.ifCond .eq 16, 3) := by decide +kernel
theorem d20_34 : decode jdk_42_method_92_code 34 = .ok (.aload_n 0, 1) := by decide +kernel
theorem d20_35 : decode jdk_42_method_92_code 35 = .ok (.getfield 9, 3) := by decide +kernel
theorem d20_38 : decode jdk_42_method_92_code 38 = .ok (.iload_n 1, 1) := by decide +kernel
theorem d20_39 : decode jdk_42_method_92_code 39 = .ok (.iload 4, 2) := by decide +kernel
theorem d20_41 : decode jdk_42_method_92_code 41 = .ok (.invokestatic 685, 3) := by decide +kernel
theorem d20_44 : decode jdk_42_method_92_code 44 = .ok (.goto 13, 3) := by decide +kernel
theorem d20_47 : decode jdk_42_method_92_code 47 = .ok (.aload_n 0, 1) := by decide +kernel
theorem d20_48 : decode jdk_42_method_92_code 48 = .ok (.getfield 9, 3) := by decide +kernel
theorem d20_51 : decode jdk_42_method_92_code 51 = .ok (.iload_n 1, 1) := by decide +kernel
theorem d20_52 : decode jdk_42_method_92_code 52 = .ok (.iload 4, 2) := by decide +kernel
theorem d20_54 : decode jdk_42_method_92_code 54 = .ok (.invokestatic 689, 3) := by decide +kernel
theorem d20_57 : decode jdk_42_method_92_code 57 = .ok (.areturn, 1) := by decide +kernel
theorem pn_20 : plainName "java/lang/String" = true := by first | (simp [plainName, overriddenIn]; done) | decide +kernel
theorem ef_rS2 (m : MethodId) (a1 : Addr) (p2 : Int32) (p3 : Int32) : entryFrame m #[(.ref a1), (.int p2), (.int p3)] 5 = mkF m 0 #[.val (.ref a1), .val (.int p2), .val (.int p3), .unset, .unset] [] := by first | (simp [entryFrame, mkF, argsToLocals, Value.category]; done) | rfl
def QrS2 (Z : State) (a1 : Addr) (p2 : Int32) (p3 : Int32) (cs : List Int32) (ct : List Int32) (b : Nat) (G1 : Int32) (gv : Value) (h0 : Heap) (n0 : Nat) (v : Option Value) (h : Heap) (L : List Loc) : Prop := ∃ o : Addr, v = some (.ref o) ∧ Fr n0 L ∧ Keep h0 h [] ∧ own_S Z h o ct
set_option maxRecDepth 65536 in
set_option maxHeartbeats 40000000 in
theorem rS2 (l : Launch) (Z : State) (a0 : Array Value) (hw : ∀ d ∈ tables_1, d.before a0 Z = true) (ws : List Jvm.Cond) (a1 : Addr) (p2 : Int32) (p3 : Int32) (cs : List Int32) (ct : List Int32) (b : Nat) (G1 : Int32) (gv : Value) (h0 : Heap) (n0 : Nat) (Z0 : n0 ≤ h0.size) (X00 : Old Z n0 h0) (O_S : Sta Z Z.heap "jdk/internal/util/Preconditions" "SIOOBE_FORMATTER" "Ljava/util/function/BiFunction;" gv) (hgv : gv.isRef = true) (O_2 : Sta Z Z.heap "java/lang/String" "COMPACT_STRINGS" "Z" (.int G1)) (P5 : ¬ (G1 = (0 : Int32))) (O_A : Sta Z Z.heap "java/lang/StringUTF16" "$assertionsDisabled" "Z" (.int (1 : Int32))) (O_H : Sta Z Z.heap "java/lang/StringUTF16" "HI_BYTE_SHIFT" "I" (.int (0 : Int32))) (O_W : Sta Z Z.heap "java/lang/StringUTF16" "LO_BYTE_SHIFT" "I" (.int (8 : Int32))) (T : own_S Z h0 a1 cs) (hs : own_sub cs b ct) (hps : 0 < ct.length) (hL : cs.length < 8) (hcs : ∀ c ∈ cs, own_ch c) (hp2 : p2 = Int32.ofNat b) (hp3 : p3 = Int32.ofNat (b + ct.length)) :
    MetFree l (⟨"java/lang/String", "substring", "(II)Ljava/lang/String;"⟩ : MethodName) (head1 (Jvm.Cond.code (⟨"java/lang/String", "substring", "(II)Ljava/lang/String;"⟩ : MethodName) jdk_42_method_92_code 5 (some (.object "java/lang/String")) :: ws) ({ frames := 6, cells := 3, slots := 28, locals := 94 } : Room)) (fun a U => a = #[(.ref a1), (.int p2), (.int p3)] ∧ Z.Warmed39 U.vm ∧ U.heap = h0) (fun _ _ _ _ _ => True) (fun _ U o U' => ∃ v L, o = .returned v ∧ QrS2 Z a1 p2 p3 cs ct b G1 gv h0 n0 v U'.heap L ∧ FrameEnd U o U' L ({ frames := 6, cells := 3, slots := 28, locals := 94 } : Room).cells ({ frames := 6, cells := 3, slots := 28, locals := 94 } : Room).slots) := by
  refine MetFree.of_bodySF (plainFor_of_name pn_20) hisR ?_
  intro p e s m args below meth c s₁ Bd hml0 hP hK
  obtain ⟨rfl, hZ, hh⟩ := hP
  have hx := Bd.exec
  have hby := Bd.bytes
  have hml : c.maxLocals = 5 := hml0
  have hown : s.vm.findClass "java/lang/String" = some m.cls := findClass_of_methodNamed Bd.named
  have hnm := (name_of_methodNamed Bd.named Bd.method).1
  have X0 : Stand p l e ({ frames := 6, cells := 3, slots := 28, locals := 94 } : Room) s m #[(.ref a1), (.int p2), (.int p3)] below meth c s₁ [] 0 0 := Stand.of_body Bd
  have e0 : s₁.heap = h0 := by rw [← hh, Bd.state]; rfl
  have N0 := Fr.nil n0
  have pre0 : ∀ t, Steps p.tables e below (s₁.setTop (mkF m 0 #[.val (.ref a1), .val (.int p2), .val (.int p3), .unset, .unset] [])) t → Steps p.tables e below (s₁.setTop (entryFrame m #[(.ref a1), (.int p2), (.int p3)] 5)) t := fun t k => castTop (ef_rS2 m a1 p2 p3) k
  have hLt : ct.length < 8 := by have := hs.1; omega
  obtain ⟨cq1, kz1, q1a, q1b, q1c⟩ := isOf hZ e0 (own_Sexa T)
  obtain ⟨_, _, ⟨T1, Lq1, kq1, nq1⟩, -, X1, ⟨Lc1, hQ1, lq1, yq1, zq1⟩, st1⟩ := X0.virtualBack hx (y := (⟨"java/lang/String", "length", "()I"⟩ : MethodName)) (z := (⟨"java/lang/String", "length", "()I"⟩ : MethodName)) hown (mvT hZ (hw _ (own_w 97 rfl))) (mvT hZ (hw _ (own_w 32 rfl))) (notFace_of_selects (args := #[]) (mvT hZ (hw _ (own_w 34 rfl)))) (mvT hZ (hw _ (own_w 34 rfl))) (mvT hZ (hw _ (own_w 33 rfl))) (by decide) (backOf (W := 0) (rLe l Z a0 hw [] a1 cs G1 h0 n0 Z0 X00 O_2 P5 T hL) hZ (hw _ (own_w 35 rfl)) (hw _ (own_w 8 rfl)) (by decide) (by decide)) q1a q1c (g := (mkF m 1 #[.val (.ref a1), .val (.int (Int32.ofNat b)), .val (.int (Int32.ofNat (b + ct.length))), .unset, .unset] [(.ref a1)])) rfl (by rw [hml]; rfl) (Steps.refl _) (argsL := []) (rest := []) (lenOf pd_21 rfl) rfl (by show 2 * 0 + _ ≤ _; exact Nat.le_of_eq rfl) (hb hby d20_1) (fun _ _ => ⟨rfl, e0, (by decide : 0 + 0 ≤ _), (by decide : 0 + 0 ≤ _)⟩)
  dsimp only [Pt.U, Pt.locs, Pt.cells, Pt.slots] at X1 lq1 yq1 zq1 st1 hQ1
  subst lq1 yq1 zq1
  obtain ⟨r1, hr1, rfl, N1q, e1⟩ := hQ1
  have N1 := Fr.app N0 N1q
  obtain ⟨_, _, ⟨T2, Lq2, kq2, nq2⟩, -, X2, ⟨Lc2, hQ2, lq2, yq2, zq2⟩, st2⟩ := Jvm.LawKit.callS X1 hx (y := (⟨"java/lang/String", "checkBoundsBeginEnd", "(III)V"⟩ : MethodName)) hown (mvT hZ (hw _ (own_w 98 rfl))) (mvT hZ (hw _ (own_w 99 rfl))) (mvT hZ (hw _ (own_w 8 rfl))) (mvT hZ (hw _ (own_w 100 rfl))) (by decide) (backOf (W := 0) (rSb l Z a0 hw [] (Int32.ofNat b) (Int32.ofNat (b + ct.length)) (Int32.ofNat cs.length) gv h0 n0 Z0 X00 O_S hgv (own_x0 (by have := hs.1; omega)) (own_xle (by have := hs.1; omega) (by omega)) (own_xle (by omega) hs.1)) hZ (hw _ (own_w 100 rfl)) (hw _ (own_w 8 rfl)) (by decide) (by decide)) (g := (mkF m 8 #[.val (.ref a1), .val (.int (Int32.ofNat b)), .val (.int (Int32.ofNat (b + ct.length))), .val (.int (Int32.ofNat cs.length)), .unset] [(.int (Int32.ofNat cs.length)), (.int (Int32.ofNat (b + ct.length))), (.int (Int32.ofNat b))])) rfl (by rw [hml]; rfl) (argsL := [(.int (Int32.ofNat b)), (.int (Int32.ofNat (b + ct.length))), (.int (Int32.ofNat cs.length))]) (rest := []) (lenOf pd_22 rfl) rfl (by show 2 * 0 + _ ≤ _; exact Nat.le_of_eq rfl) (hb hby d20_8) (fun _ _ => ⟨rfl, e1, (by decide : 0 + 0 ≤ _), (by decide : 0 + 0 ≤ _)⟩)
  dsimp only [Pt.U, Pt.locs, Pt.cells, Pt.slots] at X2 lq2 yq2 zq2 st2 hQ2
  subst lq2 yq2 zq2
  obtain ⟨rfl, N2q, e2⟩ := hQ2
  have N2 := Fr.app N1 N2q
  by_cases hc12 : (Int32.ofNat b) = (0 : Int32)
  · by_cases hc17 : (Int32.ofNat (b + ct.length)) = (Int32.ofNat cs.length)
    · obtain ⟨fs, hr, hrun, hended, hW, hsame⟩ := X2.leave (v := some (.ref a1)) (fun h => by rw [Bd.returns] at h; cases h) (BodyLoose.notSynchronized Bd)
      refine ⟨_, _, pre0 _ ?_, hrun, hended, _, _, rfl, ?_, ⟨_, rfl⟩, hW, hsame.mono (by decide) (by decide)⟩
      · show Steps p.tables e below (s₁.setTop (mkF m 0 #[.val (.ref a1), .val (.int p2), .val (.int p3), .unset, .unset] [])) _
        rw [hp2]
        show Steps p.tables e below (s₁.setTop (mkF m 0 #[.val (.ref a1), .val (.int (Int32.ofNat b)), .val (.int p3), .unset, .unset] [])) _
        rw [hp3]
        refine XS.aloadN X0.here hx rfl (hb hby d20_0) rfl rfl ?_
        refine st1.trans ?_
        show Steps p.tables e below (T1.setTop (mkF m 4 #[.val (.ref a1), .val (.int (Int32.ofNat b)), .val (.int (Int32.ofNat (b + ct.length))), .unset, .unset] [(.int r1)])) _
        rw [hr1]
        refine XS.istoreN X1.here hx rfl (hb hby d20_4) rfl (l' := #[.val (.ref a1), .val (.int (Int32.ofNat b)), .val (.int (Int32.ofNat (b + ct.length))), .val (.int (Int32.ofNat cs.length)), .unset]) rfl ?_
        refine XS.iloadN X1.here hx rfl (hb hby d20_5) rfl ?_
        refine XS.iloadN X1.here hx rfl (hb hby d20_6) rfl ?_
        refine XS.iloadN X1.here hx rfl (hb hby d20_7) rfl ?_
        refine st2 _ ?_
        refine XS.iloadN X2.here hx rfl (hb hby d20_11) rfl ?_
        refine XS.ifNo X2.here hx rfl (hb hby d20_12) rfl ((if0 _ _).trans (teq hc12).2) ?_
        refine XS.iloadN X2.here hx rfl (hb hby d20_15) rfl ?_
        refine XS.iloadN X2.here hx rfl (hb hby d20_16) rfl ?_
        refine XS.icmpNo X2.here hx rfl (hb hby d20_17) rfl (teq hc17).2 ?_
        refine XS.aloadN X2.here hx rfl (hb hby d20_20) rfl rfl ?_
        exact X2.areturnOut hx rfl Bd.returns rfl (hb hby d20_21) hr
      · show QrS2 Z a1 p2 p3 cs ct b G1 gv h0 n0 _ T2.heap _
        have eb : b = 0 := (own_xeq (by have := hs.1; omega) (by omega : 0 < 16)).mp hc12
        have en : b + ct.length = cs.length := (own_xeq (by have := hs.1; omega) (by omega)).mp hc17
        have ec := own_subAll hs eb en
        have qt := T
        rw [e2]
        exact ⟨a1, rfl, N2, (Keep.refl h0 []), by rw [ec]; exact qt⟩
    · have hne : ¬ (b = 0 ∧ b + ct.length = cs.length) := fun q => hc17 (by rw [q.2])
      obtain ⟨vb, kb, E, FV, hcd⟩ := id T
      rcases hcd with ⟨FC, AV, hl⟩ | ⟨FC, AV⟩
      · skip
        obtain ⟨cq3, kz3, q3a, q3b, q3c⟩ := isOf hZ e2 E
        obtain ⟨_, _, ⟨T3, Lq3, kq3, nq3⟩, -, X3, ⟨Lc3, hQ3, lq3, yq3, zq3⟩, st3⟩ := X2.virtualBack hx (y := (⟨"java/lang/String", "isLatin1", "()Z"⟩ : MethodName)) (z := (⟨"java/lang/String", "isLatin1", "()Z"⟩ : MethodName)) hown (mvT hZ (hw _ (own_w 72 rfl))) (mvT hZ (hw _ (own_w 73 rfl))) (notFace_of_selects (args := #[]) (mvT hZ (hw _ (own_w 75 rfl)))) (mvT hZ (hw _ (own_w 75 rfl))) (mvT hZ (hw _ (own_w 74 rfl))) (by decide) (backOf (W := 0) (rIs0 l Z a0 hw [] a1 G1 h0 n0 Z0 X00 O_2 P5 FC) hZ (hw _ (own_w 76 rfl)) (hw _ (own_w 8 rfl)) (by decide) (by decide)) q3a q3c (g := (mkF m 28 #[.val (.ref a1), .val (.int (Int32.ofNat b)), .val (.int (Int32.ofNat (b + ct.length))), .val (.int (Int32.ofNat cs.length)), .val (.int (Int32.ofNat ct.length))] [(.ref a1)])) rfl (by rw [hml]; rfl) (Steps.refl _) (argsL := []) (rest := []) (lenOf pd_7 rfl) rfl (by show 2 * 0 + _ ≤ _; exact Nat.le_of_eq rfl) (hb hby d20_28) (fun _ _ => ⟨rfl, e2, (by decide : 0 + 0 ≤ _), (by decide : 0 + 0 ≤ _)⟩)
        dsimp only [Pt.U, Pt.locs, Pt.cells, Pt.slots] at X3 lq3 yq3 zq3 st3 hQ3
        subst lq3 yq3 zq3
        obtain ⟨r3, hr3, rfl, N3q, e3⟩ := hQ3
        have N3 := Fr.app N2 N3q
        subst hr3
        obtain ⟨T4, X4, e4, st4⟩ := getF X3 hx hZ hown (host := "") (Or.inl (hw _ (own_w 25 rfl))) Via.refl e3 FV (g := (mkF m 35 #[.val (.ref a1), .val (.int (Int32.ofNat b)), .val (.int (Int32.ofNat (b + ct.length))), .val (.int (Int32.ofNat cs.length)), .val (.int (Int32.ofNat ct.length))] [(.ref a1)])) rfl rfl (hb hby d20_35)
        obtain ⟨_, _, ⟨T5, Lq5, kq5, nq5⟩, -, X5, ⟨Lc5, hQ5, lq5, yq5, zq5⟩, st5⟩ := Jvm.LawKit.callS X4 hx (y := (⟨"java/lang/StringLatin1", "newString", "([BII)Ljava/lang/String;"⟩ : MethodName)) hown (mvT hZ (hw _ (own_w 104 rfl))) (mvT hZ (hw _ (own_w 105 rfl))) (mvT hZ (hw _ (own_w 79 rfl))) (mvT hZ (hw _ (own_w 106 rfl))) (by decide) (backOf (W := 0) (rLn l Z a0 hw [] vb (Int32.ofNat b) (Int32.ofNat ct.length) kb cs ct b h0 n0 Z0 AV rfl rfl hs hps hne hL hl) hZ (hw _ (own_w 106 rfl)) (hw _ (own_w 79 rfl)) (by decide) (by decide)) (g := (mkF m 41 #[.val (.ref a1), .val (.int (Int32.ofNat b)), .val (.int (Int32.ofNat (b + ct.length))), .val (.int (Int32.ofNat cs.length)), .val (.int (Int32.ofNat ct.length))] [(.int (Int32.ofNat ct.length)), (.int (Int32.ofNat b)), (.ref vb)])) rfl (by rw [hml]; rfl) (argsL := [(.ref vb), (.int (Int32.ofNat b)), (.int (Int32.ofNat ct.length))]) (rest := []) (lenOf pd_23 rfl) rfl (by show 2 * 0 + _ ≤ _; exact Nat.le_of_eq rfl) (hb hby d20_41) (fun _ _ => ⟨rfl, e4, (by decide : 0 + 2 ≤ _), (by decide : 0 + 20 ≤ _)⟩)
        dsimp only [Pt.U, Pt.locs, Pt.cells, Pt.slots] at X5 lq5 yq5 zq5 st5 hQ5
        subst lq5 yq5 zq5
        obtain ⟨o5, rfl, N5q, KC5, TS5⟩ := hQ5
        have N5 := Fr.app N3 N5q
        have Z5 : n0 ≤ T5.heap.size := Nat.le_trans Z0 KC5.1
        have K5 : Keep h0 T5.heap [] := (Keep.refl h0 []).trans KC5 all0
        obtain ⟨fs, hr, hrun, hended, hW, hsame⟩ := X5.leave (v := some (.ref o5)) (fun h => by rw [Bd.returns] at h; cases h) (BodyLoose.notSynchronized Bd)
        refine ⟨_, _, pre0 _ ?_, hrun, hended, _, _, rfl, ?_, ⟨_, rfl⟩, hW, hsame.mono (by decide) (by decide)⟩
        · show Steps p.tables e below (s₁.setTop (mkF m 0 #[.val (.ref a1), .val (.int p2), .val (.int p3), .unset, .unset] [])) _
          rw [hp2]
          show Steps p.tables e below (s₁.setTop (mkF m 0 #[.val (.ref a1), .val (.int (Int32.ofNat b)), .val (.int p3), .unset, .unset] [])) _
          rw [hp3]
          refine XS.aloadN X0.here hx rfl (hb hby d20_0) rfl rfl ?_
          refine st1.trans ?_
          show Steps p.tables e below (T1.setTop (mkF m 4 #[.val (.ref a1), .val (.int (Int32.ofNat b)), .val (.int (Int32.ofNat (b + ct.length))), .unset, .unset] [(.int r1)])) _
          rw [hr1]
          refine XS.istoreN X1.here hx rfl (hb hby d20_4) rfl (l' := #[.val (.ref a1), .val (.int (Int32.ofNat b)), .val (.int (Int32.ofNat (b + ct.length))), .val (.int (Int32.ofNat cs.length)), .unset]) rfl ?_
          refine XS.iloadN X1.here hx rfl (hb hby d20_5) rfl ?_
          refine XS.iloadN X1.here hx rfl (hb hby d20_6) rfl ?_
          refine XS.iloadN X1.here hx rfl (hb hby d20_7) rfl ?_
          refine st2 _ ?_
          refine XS.iloadN X2.here hx rfl (hb hby d20_11) rfl ?_
          refine XS.ifNo X2.here hx rfl (hb hby d20_12) rfl ((if0 _ _).trans (teq hc12).2) ?_
          refine XS.iloadN X2.here hx rfl (hb hby d20_15) rfl ?_
          refine XS.iloadN X2.here hx rfl (hb hby d20_16) rfl ?_
          refine XS.icmpYes X2.here hx rfl (pc0 := 17) (pc' := 22) rfl (hb hby d20_17) rfl (feq hc17).2 (by decide) (by decide) ?_
          refine XS.iloadN X2.here hx rfl (hb hby d20_22) rfl ?_
          refine XS.iloadN X2.here hx rfl (hb hby d20_23) rfl ?_
          refine XS.isub X2.here hx rfl (hb hby d20_24) rfl ?_
          show Steps p.tables e below (T2.setTop (mkF m 25 #[.val (.ref a1), .val (.int (Int32.ofNat b)), .val (.int (Int32.ofNat (b + ct.length))), .val (.int (Int32.ofNat cs.length)), .unset] [(.int ((Int32.ofNat (b + ct.length)) - (Int32.ofNat b)))])) _
          rw [(own_xsubw (show b + ct.length < 16 by have := hs.1; omega))]
          refine XS.istore X2.here hx rfl (hb hby d20_25) rfl (l' := #[.val (.ref a1), .val (.int (Int32.ofNat b)), .val (.int (Int32.ofNat (b + ct.length))), .val (.int (Int32.ofNat cs.length)), .val (.int (Int32.ofNat ct.length))]) rfl ?_
          refine XS.aloadN X2.here hx rfl (hb hby d20_27) rfl rfl ?_
          refine st3.trans ?_
          refine XS.ifNo X3.here hx rfl (hb hby d20_31) rfl ((if0 _ _).trans (feq (by decide)).1) ?_
          refine XS.aloadN X3.here hx rfl (hb hby d20_34) rfl rfl ?_
          refine st4 _ ?_
          refine XS.iloadN X4.here hx rfl (hb hby d20_38) rfl ?_
          refine XS.iload X4.here hx rfl (hb hby d20_39) rfl ?_
          refine st5 _ ?_
          refine XS.goto X5.here hx rfl (pc0 := 44) (pc' := 57) rfl (hb hby d20_44) (by decide) (by decide) ?_
          exact X5.areturnOut hx rfl Bd.returns rfl (hb hby d20_57) hr
        · show QrS2 Z a1 p2 p3 cs ct b G1 gv h0 n0 _ T5.heap _
          exact ⟨o5, rfl, N5, K5, TS5⟩
      · skip
        obtain ⟨cq6, kz6, q6a, q6b, q6c⟩ := isOf hZ e2 E
        obtain ⟨_, _, ⟨T6, Lq6, kq6, nq6⟩, -, X6, ⟨Lc6, hQ6, lq6, yq6, zq6⟩, st6⟩ := X2.virtualBack hx (y := (⟨"java/lang/String", "isLatin1", "()Z"⟩ : MethodName)) (z := (⟨"java/lang/String", "isLatin1", "()Z"⟩ : MethodName)) hown (mvT hZ (hw _ (own_w 72 rfl))) (mvT hZ (hw _ (own_w 73 rfl))) (notFace_of_selects (args := #[]) (mvT hZ (hw _ (own_w 75 rfl)))) (mvT hZ (hw _ (own_w 75 rfl))) (mvT hZ (hw _ (own_w 74 rfl))) (by decide) (backOf (W := 0) (rIs1 l Z a0 hw [] a1 G1 h0 n0 Z0 X00 O_2 P5 FC) hZ (hw _ (own_w 76 rfl)) (hw _ (own_w 8 rfl)) (by decide) (by decide)) q6a q6c (g := (mkF m 28 #[.val (.ref a1), .val (.int (Int32.ofNat b)), .val (.int (Int32.ofNat (b + ct.length))), .val (.int (Int32.ofNat cs.length)), .val (.int (Int32.ofNat ct.length))] [(.ref a1)])) rfl (by rw [hml]; rfl) (Steps.refl _) (argsL := []) (rest := []) (lenOf pd_7 rfl) rfl (by show 2 * 0 + _ ≤ _; exact Nat.le_of_eq rfl) (hb hby d20_28) (fun _ _ => ⟨rfl, e2, (by decide : 0 + 0 ≤ _), (by decide : 0 + 0 ≤ _)⟩)
        dsimp only [Pt.U, Pt.locs, Pt.cells, Pt.slots] at X6 lq6 yq6 zq6 st6 hQ6
        subst lq6 yq6 zq6
        obtain ⟨r6, hr6, rfl, N6q, e6⟩ := hQ6
        have N6 := Fr.app N2 N6q
        subst hr6
        obtain ⟨T7, X7, e7, st7⟩ := getF X6 hx hZ hown (host := "") (Or.inl (hw _ (own_w 25 rfl))) Via.refl e6 FV (g := (mkF m 48 #[.val (.ref a1), .val (.int (Int32.ofNat b)), .val (.int (Int32.ofNat (b + ct.length))), .val (.int (Int32.ofNat cs.length)), .val (.int (Int32.ofNat ct.length))] [(.ref a1)])) rfl rfl (hb hby d20_48)
        obtain ⟨_, _, ⟨T8, Lq8, kq8, nq8⟩, -, X8, ⟨Lc8, hQ8, lq8, yq8, zq8⟩, st8⟩ := Jvm.LawKit.callS X7 hx (y := (⟨"java/lang/StringUTF16", "newString", "([BII)Ljava/lang/String;"⟩ : MethodName)) hown (mvT hZ (hw _ (own_w 179 rfl))) (mvT hZ (hw _ (own_w 180 rfl))) (mvT hZ (hw _ (own_w 56 rfl))) (mvT hZ (hw _ (own_w 181 rfl))) (by decide) (backOf (W := 0) (rUn l Z a0 hw [] vb (Int32.ofNat b) (Int32.ofNat ct.length) cs ct b kb G1 gv h0 n0 Z0 X00 O_S hgv O_2 P5 O_A O_H O_W AV rfl rfl hs hps hne hL hLt hcs) hZ (hw _ (own_w 181 rfl)) (hw _ (own_w 56 rfl)) (by decide) (by decide)) (g := (mkF m 54 #[.val (.ref a1), .val (.int (Int32.ofNat b)), .val (.int (Int32.ofNat (b + ct.length))), .val (.int (Int32.ofNat cs.length)), .val (.int (Int32.ofNat ct.length))] [(.int (Int32.ofNat ct.length)), (.int (Int32.ofNat b)), (.ref vb)])) rfl (by rw [hml]; rfl) (argsL := [(.ref vb), (.int (Int32.ofNat b)), (.int (Int32.ofNat ct.length))]) (rest := []) (lenOf pd_23 rfl) rfl (by show 2 * 0 + _ ≤ _; exact Nat.le_of_eq rfl) (hb hby d20_54) (fun _ _ => ⟨rfl, e7, (by decide : 0 + 3 ≤ _), (by decide : 0 + 28 ≤ _)⟩)
        dsimp only [Pt.U, Pt.locs, Pt.cells, Pt.slots] at X8 lq8 yq8 zq8 st8 hQ8
        subst lq8 yq8 zq8
        obtain ⟨o8, rfl, N8q, KC8, TS8⟩ := hQ8
        have N8 := Fr.app N6 N8q
        have Z8 : n0 ≤ T8.heap.size := Nat.le_trans Z0 KC8.1
        have K8 : Keep h0 T8.heap [] := (Keep.refl h0 []).trans KC8 all0
        obtain ⟨fs, hr, hrun, hended, hW, hsame⟩ := X8.leave (v := some (.ref o8)) (fun h => by rw [Bd.returns] at h; cases h) (BodyLoose.notSynchronized Bd)
        refine ⟨_, _, pre0 _ ?_, hrun, hended, _, _, rfl, ?_, ⟨_, rfl⟩, hW, hsame.mono (by decide) (by decide)⟩
        · show Steps p.tables e below (s₁.setTop (mkF m 0 #[.val (.ref a1), .val (.int p2), .val (.int p3), .unset, .unset] [])) _
          rw [hp2]
          show Steps p.tables e below (s₁.setTop (mkF m 0 #[.val (.ref a1), .val (.int (Int32.ofNat b)), .val (.int p3), .unset, .unset] [])) _
          rw [hp3]
          refine XS.aloadN X0.here hx rfl (hb hby d20_0) rfl rfl ?_
          refine st1.trans ?_
          show Steps p.tables e below (T1.setTop (mkF m 4 #[.val (.ref a1), .val (.int (Int32.ofNat b)), .val (.int (Int32.ofNat (b + ct.length))), .unset, .unset] [(.int r1)])) _
          rw [hr1]
          refine XS.istoreN X1.here hx rfl (hb hby d20_4) rfl (l' := #[.val (.ref a1), .val (.int (Int32.ofNat b)), .val (.int (Int32.ofNat (b + ct.length))), .val (.int (Int32.ofNat cs.length)), .unset]) rfl ?_
          refine XS.iloadN X1.here hx rfl (hb hby d20_5) rfl ?_
          refine XS.iloadN X1.here hx rfl (hb hby d20_6) rfl ?_
          refine XS.iloadN X1.here hx rfl (hb hby d20_7) rfl ?_
          refine st2 _ ?_
          refine XS.iloadN X2.here hx rfl (hb hby d20_11) rfl ?_
          refine XS.ifNo X2.here hx rfl (hb hby d20_12) rfl ((if0 _ _).trans (teq hc12).2) ?_
          refine XS.iloadN X2.here hx rfl (hb hby d20_15) rfl ?_
          refine XS.iloadN X2.here hx rfl (hb hby d20_16) rfl ?_
          refine XS.icmpYes X2.here hx rfl (pc0 := 17) (pc' := 22) rfl (hb hby d20_17) rfl (feq hc17).2 (by decide) (by decide) ?_
          refine XS.iloadN X2.here hx rfl (hb hby d20_22) rfl ?_
          refine XS.iloadN X2.here hx rfl (hb hby d20_23) rfl ?_
          refine XS.isub X2.here hx rfl (hb hby d20_24) rfl ?_
          show Steps p.tables e below (T2.setTop (mkF m 25 #[.val (.ref a1), .val (.int (Int32.ofNat b)), .val (.int (Int32.ofNat (b + ct.length))), .val (.int (Int32.ofNat cs.length)), .unset] [(.int ((Int32.ofNat (b + ct.length)) - (Int32.ofNat b)))])) _
          rw [(own_xsubw (show b + ct.length < 16 by have := hs.1; omega))]
          refine XS.istore X2.here hx rfl (hb hby d20_25) rfl (l' := #[.val (.ref a1), .val (.int (Int32.ofNat b)), .val (.int (Int32.ofNat (b + ct.length))), .val (.int (Int32.ofNat cs.length)), .val (.int (Int32.ofNat ct.length))]) rfl ?_
          refine XS.aloadN X2.here hx rfl (hb hby d20_27) rfl rfl ?_
          refine st6.trans ?_
          refine XS.ifYes X6.here hx rfl (pc0 := 31) (pc' := 47) rfl (hb hby d20_31) rfl ((if0 _ _).trans (teq (by decide)).1) (by decide) (by decide) ?_
          refine XS.aloadN X6.here hx rfl (hb hby d20_47) rfl rfl ?_
          refine st7 _ ?_
          refine XS.iloadN X7.here hx rfl (hb hby d20_51) rfl ?_
          refine XS.iload X7.here hx rfl (hb hby d20_52) rfl ?_
          refine st8 _ ?_
          exact X8.areturnOut hx rfl Bd.returns rfl (hb hby d20_57) hr
        · show QrS2 Z a1 p2 p3 cs ct b G1 gv h0 n0 _ T8.heap _
          exact ⟨o8, rfl, N8, K8, TS8⟩
  · have hne : ¬ (b = 0 ∧ b + ct.length = cs.length) := fun q => hc12 (by rw [q.1]; rfl)
    obtain ⟨vb, kb, E, FV, hcd⟩ := id T
    rcases hcd with ⟨FC, AV, hl⟩ | ⟨FC, AV⟩
    · skip
      obtain ⟨cq9, kz9, q9a, q9b, q9c⟩ := isOf hZ e2 E
      obtain ⟨_, _, ⟨T9, Lq9, kq9, nq9⟩, -, X9, ⟨Lc9, hQ9, lq9, yq9, zq9⟩, st9⟩ := X2.virtualBack hx (y := (⟨"java/lang/String", "isLatin1", "()Z"⟩ : MethodName)) (z := (⟨"java/lang/String", "isLatin1", "()Z"⟩ : MethodName)) hown (mvT hZ (hw _ (own_w 72 rfl))) (mvT hZ (hw _ (own_w 73 rfl))) (notFace_of_selects (args := #[]) (mvT hZ (hw _ (own_w 75 rfl)))) (mvT hZ (hw _ (own_w 75 rfl))) (mvT hZ (hw _ (own_w 74 rfl))) (by decide) (backOf (W := 0) (rIs0 l Z a0 hw [] a1 G1 h0 n0 Z0 X00 O_2 P5 FC) hZ (hw _ (own_w 76 rfl)) (hw _ (own_w 8 rfl)) (by decide) (by decide)) q9a q9c (g := (mkF m 28 #[.val (.ref a1), .val (.int (Int32.ofNat b)), .val (.int (Int32.ofNat (b + ct.length))), .val (.int (Int32.ofNat cs.length)), .val (.int (Int32.ofNat ct.length))] [(.ref a1)])) rfl (by rw [hml]; rfl) (Steps.refl _) (argsL := []) (rest := []) (lenOf pd_7 rfl) rfl (by show 2 * 0 + _ ≤ _; exact Nat.le_of_eq rfl) (hb hby d20_28) (fun _ _ => ⟨rfl, e2, (by decide : 0 + 0 ≤ _), (by decide : 0 + 0 ≤ _)⟩)
      dsimp only [Pt.U, Pt.locs, Pt.cells, Pt.slots] at X9 lq9 yq9 zq9 st9 hQ9
      subst lq9 yq9 zq9
      obtain ⟨r9, hr9, rfl, N9q, e9⟩ := hQ9
      have N9 := Fr.app N2 N9q
      subst hr9
      obtain ⟨T10, X10, e10, st10⟩ := getF X9 hx hZ hown (host := "") (Or.inl (hw _ (own_w 25 rfl))) Via.refl e9 FV (g := (mkF m 35 #[.val (.ref a1), .val (.int (Int32.ofNat b)), .val (.int (Int32.ofNat (b + ct.length))), .val (.int (Int32.ofNat cs.length)), .val (.int (Int32.ofNat ct.length))] [(.ref a1)])) rfl rfl (hb hby d20_35)
      obtain ⟨_, _, ⟨T11, Lq11, kq11, nq11⟩, -, X11, ⟨Lc11, hQ11, lq11, yq11, zq11⟩, st11⟩ := Jvm.LawKit.callS X10 hx (y := (⟨"java/lang/StringLatin1", "newString", "([BII)Ljava/lang/String;"⟩ : MethodName)) hown (mvT hZ (hw _ (own_w 104 rfl))) (mvT hZ (hw _ (own_w 105 rfl))) (mvT hZ (hw _ (own_w 79 rfl))) (mvT hZ (hw _ (own_w 106 rfl))) (by decide) (backOf (W := 0) (rLn l Z a0 hw [] vb (Int32.ofNat b) (Int32.ofNat ct.length) kb cs ct b h0 n0 Z0 AV rfl rfl hs hps hne hL hl) hZ (hw _ (own_w 106 rfl)) (hw _ (own_w 79 rfl)) (by decide) (by decide)) (g := (mkF m 41 #[.val (.ref a1), .val (.int (Int32.ofNat b)), .val (.int (Int32.ofNat (b + ct.length))), .val (.int (Int32.ofNat cs.length)), .val (.int (Int32.ofNat ct.length))] [(.int (Int32.ofNat ct.length)), (.int (Int32.ofNat b)), (.ref vb)])) rfl (by rw [hml]; rfl) (argsL := [(.ref vb), (.int (Int32.ofNat b)), (.int (Int32.ofNat ct.length))]) (rest := []) (lenOf pd_23 rfl) rfl (by show 2 * 0 + _ ≤ _; exact Nat.le_of_eq rfl) (hb hby d20_41) (fun _ _ => ⟨rfl, e10, (by decide : 0 + 2 ≤ _), (by decide : 0 + 20 ≤ _)⟩)
      dsimp only [Pt.U, Pt.locs, Pt.cells, Pt.slots] at X11 lq11 yq11 zq11 st11 hQ11
      subst lq11 yq11 zq11
      obtain ⟨o11, rfl, N11q, KC11, TS11⟩ := hQ11
      have N11 := Fr.app N9 N11q
      have Z11 : n0 ≤ T11.heap.size := Nat.le_trans Z0 KC11.1
      have K11 : Keep h0 T11.heap [] := (Keep.refl h0 []).trans KC11 all0
      obtain ⟨fs, hr, hrun, hended, hW, hsame⟩ := X11.leave (v := some (.ref o11)) (fun h => by rw [Bd.returns] at h; cases h) (BodyLoose.notSynchronized Bd)
      refine ⟨_, _, pre0 _ ?_, hrun, hended, _, _, rfl, ?_, ⟨_, rfl⟩, hW, hsame.mono (by decide) (by decide)⟩
      · show Steps p.tables e below (s₁.setTop (mkF m 0 #[.val (.ref a1), .val (.int p2), .val (.int p3), .unset, .unset] [])) _
        rw [hp2]
        show Steps p.tables e below (s₁.setTop (mkF m 0 #[.val (.ref a1), .val (.int (Int32.ofNat b)), .val (.int p3), .unset, .unset] [])) _
        rw [hp3]
        refine XS.aloadN X0.here hx rfl (hb hby d20_0) rfl rfl ?_
        refine st1.trans ?_
        show Steps p.tables e below (T1.setTop (mkF m 4 #[.val (.ref a1), .val (.int (Int32.ofNat b)), .val (.int (Int32.ofNat (b + ct.length))), .unset, .unset] [(.int r1)])) _
        rw [hr1]
        refine XS.istoreN X1.here hx rfl (hb hby d20_4) rfl (l' := #[.val (.ref a1), .val (.int (Int32.ofNat b)), .val (.int (Int32.ofNat (b + ct.length))), .val (.int (Int32.ofNat cs.length)), .unset]) rfl ?_
        refine XS.iloadN X1.here hx rfl (hb hby d20_5) rfl ?_
        refine XS.iloadN X1.here hx rfl (hb hby d20_6) rfl ?_
        refine XS.iloadN X1.here hx rfl (hb hby d20_7) rfl ?_
        refine st2 _ ?_
        refine XS.iloadN X2.here hx rfl (hb hby d20_11) rfl ?_
        refine XS.ifYes X2.here hx rfl (pc0 := 12) (pc' := 22) rfl (hb hby d20_12) rfl ((if0 _ _).trans (feq hc12).2) (by decide) (by decide) ?_
        refine XS.iloadN X2.here hx rfl (hb hby d20_22) rfl ?_
        refine XS.iloadN X2.here hx rfl (hb hby d20_23) rfl ?_
        refine XS.isub X2.here hx rfl (hb hby d20_24) rfl ?_
        show Steps p.tables e below (T2.setTop (mkF m 25 #[.val (.ref a1), .val (.int (Int32.ofNat b)), .val (.int (Int32.ofNat (b + ct.length))), .val (.int (Int32.ofNat cs.length)), .unset] [(.int ((Int32.ofNat (b + ct.length)) - (Int32.ofNat b)))])) _
        rw [(own_xsubw (show b + ct.length < 16 by have := hs.1; omega))]
        refine XS.istore X2.here hx rfl (hb hby d20_25) rfl (l' := #[.val (.ref a1), .val (.int (Int32.ofNat b)), .val (.int (Int32.ofNat (b + ct.length))), .val (.int (Int32.ofNat cs.length)), .val (.int (Int32.ofNat ct.length))]) rfl ?_
        refine XS.aloadN X2.here hx rfl (hb hby d20_27) rfl rfl ?_
        refine st9.trans ?_
        refine XS.ifNo X9.here hx rfl (hb hby d20_31) rfl ((if0 _ _).trans (feq (by decide)).1) ?_
        refine XS.aloadN X9.here hx rfl (hb hby d20_34) rfl rfl ?_
        refine st10 _ ?_
        refine XS.iloadN X10.here hx rfl (hb hby d20_38) rfl ?_
        refine XS.iload X10.here hx rfl (hb hby d20_39) rfl ?_
        refine st11 _ ?_
        refine XS.goto X11.here hx rfl (pc0 := 44) (pc' := 57) rfl (hb hby d20_44) (by decide) (by decide) ?_
        exact X11.areturnOut hx rfl Bd.returns rfl (hb hby d20_57) hr
      · show QrS2 Z a1 p2 p3 cs ct b G1 gv h0 n0 _ T11.heap _
        exact ⟨o11, rfl, N11, K11, TS11⟩
    · skip
      obtain ⟨cq12, kz12, q12a, q12b, q12c⟩ := isOf hZ e2 E
      obtain ⟨_, _, ⟨T12, Lq12, kq12, nq12⟩, -, X12, ⟨Lc12, hQ12, lq12, yq12, zq12⟩, st12⟩ := X2.virtualBack hx (y := (⟨"java/lang/String", "isLatin1", "()Z"⟩ : MethodName)) (z := (⟨"java/lang/String", "isLatin1", "()Z"⟩ : MethodName)) hown (mvT hZ (hw _ (own_w 72 rfl))) (mvT hZ (hw _ (own_w 73 rfl))) (notFace_of_selects (args := #[]) (mvT hZ (hw _ (own_w 75 rfl)))) (mvT hZ (hw _ (own_w 75 rfl))) (mvT hZ (hw _ (own_w 74 rfl))) (by decide) (backOf (W := 0) (rIs1 l Z a0 hw [] a1 G1 h0 n0 Z0 X00 O_2 P5 FC) hZ (hw _ (own_w 76 rfl)) (hw _ (own_w 8 rfl)) (by decide) (by decide)) q12a q12c (g := (mkF m 28 #[.val (.ref a1), .val (.int (Int32.ofNat b)), .val (.int (Int32.ofNat (b + ct.length))), .val (.int (Int32.ofNat cs.length)), .val (.int (Int32.ofNat ct.length))] [(.ref a1)])) rfl (by rw [hml]; rfl) (Steps.refl _) (argsL := []) (rest := []) (lenOf pd_7 rfl) rfl (by show 2 * 0 + _ ≤ _; exact Nat.le_of_eq rfl) (hb hby d20_28) (fun _ _ => ⟨rfl, e2, (by decide : 0 + 0 ≤ _), (by decide : 0 + 0 ≤ _)⟩)
      dsimp only [Pt.U, Pt.locs, Pt.cells, Pt.slots] at X12 lq12 yq12 zq12 st12 hQ12
      subst lq12 yq12 zq12
      obtain ⟨r12, hr12, rfl, N12q, e12⟩ := hQ12
      have N12 := Fr.app N2 N12q
      subst hr12
      obtain ⟨T13, X13, e13, st13⟩ := getF X12 hx hZ hown (host := "") (Or.inl (hw _ (own_w 25 rfl))) Via.refl e12 FV (g := (mkF m 48 #[.val (.ref a1), .val (.int (Int32.ofNat b)), .val (.int (Int32.ofNat (b + ct.length))), .val (.int (Int32.ofNat cs.length)), .val (.int (Int32.ofNat ct.length))] [(.ref a1)])) rfl rfl (hb hby d20_48)
      obtain ⟨_, _, ⟨T14, Lq14, kq14, nq14⟩, -, X14, ⟨Lc14, hQ14, lq14, yq14, zq14⟩, st14⟩ := Jvm.LawKit.callS X13 hx (y := (⟨"java/lang/StringUTF16", "newString", "([BII)Ljava/lang/String;"⟩ : MethodName)) hown (mvT hZ (hw _ (own_w 179 rfl))) (mvT hZ (hw _ (own_w 180 rfl))) (mvT hZ (hw _ (own_w 56 rfl))) (mvT hZ (hw _ (own_w 181 rfl))) (by decide) (backOf (W := 0) (rUn l Z a0 hw [] vb (Int32.ofNat b) (Int32.ofNat ct.length) cs ct b kb G1 gv h0 n0 Z0 X00 O_S hgv O_2 P5 O_A O_H O_W AV rfl rfl hs hps hne hL hLt hcs) hZ (hw _ (own_w 181 rfl)) (hw _ (own_w 56 rfl)) (by decide) (by decide)) (g := (mkF m 54 #[.val (.ref a1), .val (.int (Int32.ofNat b)), .val (.int (Int32.ofNat (b + ct.length))), .val (.int (Int32.ofNat cs.length)), .val (.int (Int32.ofNat ct.length))] [(.int (Int32.ofNat ct.length)), (.int (Int32.ofNat b)), (.ref vb)])) rfl (by rw [hml]; rfl) (argsL := [(.ref vb), (.int (Int32.ofNat b)), (.int (Int32.ofNat ct.length))]) (rest := []) (lenOf pd_23 rfl) rfl (by show 2 * 0 + _ ≤ _; exact Nat.le_of_eq rfl) (hb hby d20_54) (fun _ _ => ⟨rfl, e13, (by decide : 0 + 3 ≤ _), (by decide : 0 + 28 ≤ _)⟩)
      dsimp only [Pt.U, Pt.locs, Pt.cells, Pt.slots] at X14 lq14 yq14 zq14 st14 hQ14
      subst lq14 yq14 zq14
      obtain ⟨o14, rfl, N14q, KC14, TS14⟩ := hQ14
      have N14 := Fr.app N12 N14q
      have Z14 : n0 ≤ T14.heap.size := Nat.le_trans Z0 KC14.1
      have K14 : Keep h0 T14.heap [] := (Keep.refl h0 []).trans KC14 all0
      obtain ⟨fs, hr, hrun, hended, hW, hsame⟩ := X14.leave (v := some (.ref o14)) (fun h => by rw [Bd.returns] at h; cases h) (BodyLoose.notSynchronized Bd)
      refine ⟨_, _, pre0 _ ?_, hrun, hended, _, _, rfl, ?_, ⟨_, rfl⟩, hW, hsame.mono (by decide) (by decide)⟩
      · show Steps p.tables e below (s₁.setTop (mkF m 0 #[.val (.ref a1), .val (.int p2), .val (.int p3), .unset, .unset] [])) _
        rw [hp2]
        show Steps p.tables e below (s₁.setTop (mkF m 0 #[.val (.ref a1), .val (.int (Int32.ofNat b)), .val (.int p3), .unset, .unset] [])) _
        rw [hp3]
        refine XS.aloadN X0.here hx rfl (hb hby d20_0) rfl rfl ?_
        refine st1.trans ?_
        show Steps p.tables e below (T1.setTop (mkF m 4 #[.val (.ref a1), .val (.int (Int32.ofNat b)), .val (.int (Int32.ofNat (b + ct.length))), .unset, .unset] [(.int r1)])) _
        rw [hr1]
        refine XS.istoreN X1.here hx rfl (hb hby d20_4) rfl (l' := #[.val (.ref a1), .val (.int (Int32.ofNat b)), .val (.int (Int32.ofNat (b + ct.length))), .val (.int (Int32.ofNat cs.length)), .unset]) rfl ?_
        refine XS.iloadN X1.here hx rfl (hb hby d20_5) rfl ?_
        refine XS.iloadN X1.here hx rfl (hb hby d20_6) rfl ?_
        refine XS.iloadN X1.here hx rfl (hb hby d20_7) rfl ?_
        refine st2 _ ?_
        refine XS.iloadN X2.here hx rfl (hb hby d20_11) rfl ?_
        refine XS.ifYes X2.here hx rfl (pc0 := 12) (pc' := 22) rfl (hb hby d20_12) rfl ((if0 _ _).trans (feq hc12).2) (by decide) (by decide) ?_
        refine XS.iloadN X2.here hx rfl (hb hby d20_22) rfl ?_
        refine XS.iloadN X2.here hx rfl (hb hby d20_23) rfl ?_
        refine XS.isub X2.here hx rfl (hb hby d20_24) rfl ?_
        show Steps p.tables e below (T2.setTop (mkF m 25 #[.val (.ref a1), .val (.int (Int32.ofNat b)), .val (.int (Int32.ofNat (b + ct.length))), .val (.int (Int32.ofNat cs.length)), .unset] [(.int ((Int32.ofNat (b + ct.length)) - (Int32.ofNat b)))])) _
        rw [(own_xsubw (show b + ct.length < 16 by have := hs.1; omega))]
        refine XS.istore X2.here hx rfl (hb hby d20_25) rfl (l' := #[.val (.ref a1), .val (.int (Int32.ofNat b)), .val (.int (Int32.ofNat (b + ct.length))), .val (.int (Int32.ofNat cs.length)), .val (.int (Int32.ofNat ct.length))]) rfl ?_
        refine XS.aloadN X2.here hx rfl (hb hby d20_27) rfl rfl ?_
        refine st12.trans ?_
        refine XS.ifYes X12.here hx rfl (pc0 := 31) (pc' := 47) rfl (hb hby d20_31) rfl ((if0 _ _).trans (teq (by decide)).1) (by decide) (by decide) ?_
        refine XS.aloadN X12.here hx rfl (hb hby d20_47) rfl rfl ?_
        refine st13 _ ?_
        refine XS.iloadN X13.here hx rfl (hb hby d20_51) rfl ?_
        refine XS.iload X13.here hx rfl (hb hby d20_52) rfl ?_
        refine st14 _ ?_
        exact X14.areturnOut hx rfl Bd.returns rfl (hb hby d20_57) hr
      · show QrS2 Z a1 p2 p3 cs ct b G1 gv h0 n0 _ T14.heap _
        exact ⟨o14, rfl, N14, K14, TS14⟩
theorem d30_0 : decode jdk_31_method_10_code 0 = .ok (.aload_n 0, 1) := by decide +kernel
theorem d30_1 : decode jdk_31_method_10_code 1 = .ok (.ifnonnull 11, 3) := by decide +kernel
theorem d30_12 : decode jdk_31_method_10_code 12 = .ok (.aload_n 0, 1) := by decide +kernel
theorem d30_13 : decode jdk_31_method_10_code 13 = .ok (.areturn, 1) := by decide +kernel
theorem pn_30 : plainName "java/util/Objects" = true := by first | (simp [plainName, overriddenIn]; done) | decide +kernel
theorem ef_rRN (m : MethodId) (a1 : Addr) : entryFrame m #[(.ref a1)] 1 = mkF m 0 #[.val (.ref a1)] [] := by first | (simp [entryFrame, mkF, argsToLocals, Value.category]; done) | rfl
def QrRN (Z : State) (a1 : Addr) (h0 : Heap) (n0 : Nat) (v : Option Value) (h : Heap) (L : List Loc) : Prop := v = some (.ref a1) ∧ Fr n0 L ∧ h = h0
set_option maxRecDepth 65536 in
set_option maxHeartbeats 40000000 in
theorem rRN (l : Launch) (Z : State) (a0 : Array Value) (hw : ∀ d ∈ tables_1, d.before a0 Z = true) (ws : List Jvm.Cond) (a1 : Addr) (h0 : Heap) (n0 : Nat) (Z0 : n0 ≤ h0.size) :
    MetFree l (⟨"java/util/Objects", "requireNonNull", "(Ljava/lang/Object;)Ljava/lang/Object;"⟩ : MethodName) (head1 (Jvm.Cond.code (⟨"java/util/Objects", "requireNonNull", "(Ljava/lang/Object;)Ljava/lang/Object;"⟩ : MethodName) jdk_31_method_10_code 1 (some (.object "java/lang/Object")) :: ws) ({ frames := 0, cells := 0, slots := 0, locals := 0 } : Room)) (fun a U => a = #[(.ref a1)] ∧ Z.Warmed39 U.vm ∧ U.heap = h0) (fun _ _ _ _ _ => True) (fun _ U o U' => ∃ v L, o = .returned v ∧ QrRN Z a1 h0 n0 v U'.heap L ∧ FrameEnd U o U' L ({ frames := 0, cells := 0, slots := 0, locals := 0 } : Room).cells ({ frames := 0, cells := 0, slots := 0, locals := 0 } : Room).slots) := by
  refine MetFree.of_bodySF (plainFor_of_name pn_30) hisR ?_
  intro p e s m args below meth c s₁ Bd hml0 hP hK
  obtain ⟨rfl, hZ, hh⟩ := hP
  have hx := Bd.exec
  have hby := Bd.bytes
  have hml : c.maxLocals = 1 := hml0
  have hown : s.vm.findClass "java/util/Objects" = some m.cls := findClass_of_methodNamed Bd.named
  have hnm := (name_of_methodNamed Bd.named Bd.method).1
  have X0 : Stand p l e ({ frames := 0, cells := 0, slots := 0, locals := 0 } : Room) s m #[(.ref a1)] below meth c s₁ [] 0 0 := Stand.of_body Bd
  have e0 : s₁.heap = h0 := by rw [← hh, Bd.state]; rfl
  have N0 := Fr.nil n0
  have pre0 : ∀ t, Steps p.tables e below (s₁.setTop (mkF m 0 #[.val (.ref a1)] [])) t → Steps p.tables e below (s₁.setTop (entryFrame m #[(.ref a1)] 1)) t := fun t k => castTop (ef_rRN m a1) k
  obtain ⟨fs, hr, hrun, hended, hW, hsame⟩ := X0.leave (v := some (.ref a1)) (fun h => by rw [Bd.returns] at h; cases h) (BodyLoose.notSynchronized Bd)
  refine ⟨_, _, pre0 _ ?_, hrun, hended, _, _, rfl, ?_, ⟨_, rfl⟩, hW, hsame.mono (by decide) (by decide)⟩
  · show Steps p.tables e below (s₁.setTop (mkF m 0 #[.val (.ref a1)] [])) _
    refine XS.aloadN X0.here hx rfl (hb hby d30_0) rfl rfl ?_
    refine XS.ifnonnullYes X0.here hx rfl (pc0 := 1) (pc' := 12) rfl (hb hby d30_1) rfl (by decide) (by decide) ?_
    refine XS.aloadN X0.here hx rfl (hb hby d30_12) rfl rfl ?_
    exact X0.areturnOut hx rfl Bd.returns rfl (hb hby d30_13) hr
  · show QrRN Z a1 h0 n0 _ s₁.heap _
    exact ⟨rfl, N0, e0⟩
theorem d31_0 : decode jdk_32_method_2_code 0 = .ok (.aload_n 0, 1) := by decide +kernel
theorem d31_1 : decode jdk_32_method_2_code 1 = .ok (.invokespecial 7, 3) := by decide +kernel
theorem d31_4 : decode jdk_32_method_2_code 4 = .ok (.aload_n 0, 1) := by decide +kernel
theorem d31_5 : decode jdk_32_method_2_code 5 = .ok (.aload_n 1, 1) := by decide +kernel
theorem d31_6 : decode jdk_32_method_2_code 6 = .ok (.putfield 13, 3) := by decide +kernel
theorem d31_9 : decode jdk_32_method_2_code 9 = .ok (.return_, 1) := by decide +kernel
theorem pn_31 : plainName "java/util/Optional" = true := by first | (simp [plainName, overriddenIn]; done) | decide +kernel
theorem ef_rOi (m : MethodId) (a1 : Addr) (a2 : Addr) : entryFrame m #[(.ref a1), (.ref a2)] 2 = mkF m 0 #[.val (.ref a1), .val (.ref a2)] [] := by first | (simp [entryFrame, mkF, argsToLocals, Value.category]; done) | rfl
def QrOi (Z : State) (a1 : Addr) (a2 : Addr) (h0 : Heap) (n0 : Nat) (v : Option Value) (h : Heap) (L : List Loc) : Prop := v = none ∧ Fr n0 L ∧ Keep h0 h [a1] ∧ Exa Z h a1 "java/util/Optional" ∧ Fld Z h a1 "java/util/Optional" "value" "Ljava/lang/Object;" (.ref a2)
set_option maxRecDepth 65536 in
set_option maxHeartbeats 40000000 in
theorem rOi (l : Launch) (Z : State) (a0 : Array Value) (hw : ∀ d ∈ tables_1, d.before a0 Z = true) (ws : List Jvm.Cond) (a1 : Addr) (a2 : Addr) (h0 : Heap) (n0 : Nat) (Z0 : n0 ≤ h0.size) (E : Exa Z h0 a1 "java/util/Optional") (FV : Fld Z h0 a1 "java/util/Optional" "value" "Ljava/lang/Object;" .null) (ga : n0 ≤ a1) :
    MetFree l (⟨"java/util/Optional", "<init>", "(Ljava/lang/Object;)V"⟩ : MethodName) (head1 (Jvm.Cond.code (⟨"java/util/Optional", "<init>", "(Ljava/lang/Object;)V"⟩ : MethodName) jdk_32_method_2_code 2 none :: ws) ({ frames := 1, cells := 0, slots := 0, locals := 12 } : Room)) (fun a U => a = #[(.ref a1), (.ref a2)] ∧ Z.Warmed39 U.vm ∧ U.heap = h0) (fun _ _ _ _ _ => True) (fun _ U o U' => ∃ v L, o = .returned v ∧ QrOi Z a1 a2 h0 n0 v U'.heap L ∧ FrameEnd U o U' L ({ frames := 1, cells := 0, slots := 0, locals := 12 } : Room).cells ({ frames := 1, cells := 0, slots := 0, locals := 12 } : Room).slots) := by
  refine MetFree.of_bodySF (plainFor_of_name pn_31) hisR ?_
  intro p e s m args below meth c s₁ Bd hml0 hP hK
  obtain ⟨rfl, hZ, hh⟩ := hP
  have hx := Bd.exec
  have hby := Bd.bytes
  have hml : c.maxLocals = 2 := hml0
  have hown : s.vm.findClass "java/util/Optional" = some m.cls := findClass_of_methodNamed Bd.named
  have hnm := (name_of_methodNamed Bd.named Bd.method).1
  have X0 : Stand p l e ({ frames := 1, cells := 0, slots := 0, locals := 12 } : Room) s m #[(.ref a1), (.ref a2)] below meth c s₁ [] 0 0 := Stand.of_body Bd
  have e0 : s₁.heap = h0 := by rw [← hh, Bd.state]; rfl
  have N0 := Fr.nil n0
  have pre0 : ∀ t, Steps p.tables e below (s₁.setTop (mkF m 0 #[.val (.ref a1), .val (.ref a2)] [])) t → Steps p.tables e below (s₁.setTop (entryFrame m #[(.ref a1), (.ref a2)] 2)) t := fun t k => castTop (ef_rOi m a1 a2) k
  obtain ⟨T1, X1, e1, st1⟩ := initO X0 hx hZ hown (hw _ (own_w 142 rfl)) (hw _ (own_w 17 rfl)) (hw _ (own_w 18 rfl)) e0 (g := (mkF m 1 #[.val (.ref a1), .val (.ref a2)] [(.ref a1)])) rfl (by rw [hml]; rfl) rfl (hb hby d31_1) (by decide) (W := 0) (by show 2 * 0 + _ ≤ _; exact Nat.le_of_eq rfl) (by decide)
  obtain ⟨T2, h2, X2, e2, W2, st2⟩ := putF X1 hx hZ hown (host := "") (Or.inl (hw _ (own_w 52 rfl))) Via.refl e1 FV E (Or.inr ⟨(hw _ (own_w 53 rfl)), rfl, hnm⟩) (hw _ (own_w 133 rfl)) (ty := (.object "java/lang/Object")) (by decide) rfl rfl (g := (mkF m 6 #[.val (.ref a1), .val (.ref a2)] [(.ref a2), (.ref a1)])) rfl rfl (hb hby d31_6)
  have N2 := Fr.snoc X2 N0 ga
  have Z2 : n0 ≤ h2.size := by rw [W2.size]; exact Z0
  have K2 : Keep h0 h2 [a1] := (Keep.refl h0 [a1]).wr W2 (Or.inl (own_w 0 rfl))
  have Fw2 := FV.same W2
  obtain ⟨fs, hr, hrun, hended, hW, hsame⟩ := X2.leave (v := none) (fun _ => rfl) (BodyLoose.notSynchronized Bd)
  refine ⟨_, _, pre0 _ ?_, hrun, hended, _, _, rfl, ?_, ⟨_, rfl⟩, hW, hsame.mono (by decide) (by decide)⟩
  · show Steps p.tables e below (s₁.setTop (mkF m 0 #[.val (.ref a1), .val (.ref a2)] [])) _
    refine XS.aloadN X0.here hx rfl (hb hby d31_0) rfl rfl ?_
    refine st1 _ ?_
    refine XS.aloadN X1.here hx rfl (hb hby d31_4) rfl rfl ?_
    refine XS.aloadN X1.here hx rfl (hb hby d31_5) rfl rfl ?_
    refine st2 _ ?_
    exact X2.returnOut hx Bd.returns (hb hby d31_9) hr
  · show QrOi Z a1 a2 h0 n0 _ T2.heap _
    have f3 := (E.wr W2)
    rw [e2]
    exact ⟨rfl, N2, K2, f3, Fw2⟩
theorem pd_24 : parseMethodDescriptor "(Ljava/lang/Object;)Ljava/lang/Object;" = some ⟨[(.object "java/lang/Object")], some (.object "java/lang/Object")⟩ := by decide +kernel
theorem pd_25 : parseMethodDescriptor "(Ljava/lang/Object;)V" = some ⟨[(.object "java/lang/Object")], none⟩ := by decide +kernel
theorem d29_0 : decode jdk_32_method_3_code 0 = .ok (.new 2, 3) := by decide +kernel
theorem d29_3 : decode jdk_32_method_3_code 3 = .ok (.dup, 1) := by decide +kernel
theorem d29_4 : decode jdk_32_method_3_code 4 = .ok (.aload_n 0, 1) := by decide +kernel
theorem d29_5 : decode jdk_32_method_3_code 5 = .ok (.invokestatic 17, 3) := by decide +kernel
theorem d29_8 : decode jdk_32_method_3_code 8 = .ok (.invokespecial 23, 3) := by decide +kernel
theorem d29_11 : decode jdk_32_method_3_code 11 = .ok (.areturn, 1) := by decide +kernel
theorem pn_29 : plainName "java/util/Optional" = true := by first | (simp [plainName, overriddenIn]; done) | decide +kernel
theorem ef_rOo (m : MethodId) (a1 : Addr) : entryFrame m #[(.ref a1)] 1 = mkF m 0 #[.val (.ref a1)] [] := by first | (simp [entryFrame, mkF, argsToLocals, Value.category]; done) | rfl
def QrOo (Z : State) (a1 : Addr) (h0 : Heap) (n0 : Nat) (v : Option Value) (h : Heap) (L : List Loc) : Prop := ∃ o : Addr, v = some (.ref o) ∧ Fr n0 L ∧ Keep h0 h [] ∧ Exa Z h o "java/util/Optional" ∧ Fld Z h o "java/util/Optional" "value" "Ljava/lang/Object;" (.ref a1)
set_option maxRecDepth 65536 in
set_option maxHeartbeats 40000000 in
theorem rOo (l : Launch) (Z : State) (a0 : Array Value) (hw : ∀ d ∈ tables_1, d.before a0 Z = true) (ws : List Jvm.Cond) (a1 : Addr) (h0 : Heap) (n0 : Nat) (Z0 : n0 ≤ h0.size) :
    MetFree l (⟨"java/util/Optional", "of", "(Ljava/lang/Object;)Ljava/util/Optional;"⟩ : MethodName) (head1 (Jvm.Cond.code (⟨"java/util/Optional", "of", "(Ljava/lang/Object;)Ljava/util/Optional;"⟩ : MethodName) jdk_32_method_3_code 1 (some (.object "java/util/Optional")) :: ws) ({ frames := 2, cells := 1, slots := 1, locals := 26 } : Room)) (fun a U => a = #[(.ref a1)] ∧ Z.Warmed39 U.vm ∧ U.heap = h0) (fun _ _ _ _ _ => True) (fun _ U o U' => ∃ v L, o = .returned v ∧ QrOo Z a1 h0 n0 v U'.heap L ∧ FrameEnd U o U' L ({ frames := 2, cells := 1, slots := 1, locals := 26 } : Room).cells ({ frames := 2, cells := 1, slots := 1, locals := 26 } : Room).slots) := by
  refine MetFree.of_bodySF (plainFor_of_name pn_29) hisR ?_
  intro p e s m args below meth c s₁ Bd hml0 hP hK
  obtain ⟨rfl, hZ, hh⟩ := hP
  have hx := Bd.exec
  have hby := Bd.bytes
  have hml : c.maxLocals = 1 := hml0
  have hown : s.vm.findClass "java/util/Optional" = some m.cls := findClass_of_methodNamed Bd.named
  have hnm := (name_of_methodNamed Bd.named Bd.method).1
  have X0 : Stand p l e ({ frames := 2, cells := 1, slots := 1, locals := 26 } : Room) s m #[(.ref a1)] below meth c s₁ [] 0 0 := Stand.of_body Bd
  have e0 : s₁.heap = h0 := by rw [← hh, Bd.state]; rfl
  have N0 := Fr.nil n0
  have pre0 : ∀ t, Steps p.tables e below (s₁.setTop (mkF m 0 #[.val (.ref a1)] [])) t → Steps p.tables e below (s₁.setTop (entryFrame m #[(.ref a1)] 1)) t := fun t k => castTop (ef_rOo m a1) k
  obtain ⟨T1, h1, X1, e1, E1, A1, D1, -, st1⟩ := newO X0 hx hZ hown (hw _ (own_w 132 rfl)) (hw _ (own_w 133 rfl)) (hw _ (own_w 44 rfl)) e0 (g := (mkF m 0 #[.val (.ref a1)] [])) rfl (hb hby d29_0) (by decide) (by decide)
  obtain ⟨b1o, g1⟩ : ∃ z, z = h0.size := ⟨_, rfl⟩
  have b1 : n0 ≤ b1o := Nat.le_trans Z0 (Nat.le_of_eq g1.symm)
  have bk1 : h0.size ≤ b1o := Nat.le_trans (Keep.refl h0 []).1 (Nat.le_of_eq g1.symm)
  rw [← g1] at A1 D1 st1
  have Z1 : n0 ≤ h1.size := Nat.le_trans Z0 E1.1
  have K1 : Keep h0 h1 [] := (Keep.refl h0 []).ext E1
  have F1_53 : Fld Z h1 b1o "java/util/Optional" "value" "Ljava/lang/Object;" .null := D1 (Or.inr (hw _ (own_w 53 rfl))) (ty := (.object "java/lang/Object")) (by decide)
  obtain ⟨_, _, ⟨T2, Lq2, kq2, nq2⟩, -, X2, ⟨Lc2, hQ2, lq2, yq2, zq2⟩, st2⟩ := Jvm.LawKit.callS X1 hx (y := (⟨"java/util/Objects", "requireNonNull", "(Ljava/lang/Object;)Ljava/lang/Object;"⟩ : MethodName)) hown (mvT hZ (hw _ (own_w 134 rfl))) (mvT hZ (hw _ (own_w 135 rfl))) (mvT hZ (hw _ (own_w 136 rfl))) (mvT hZ (hw _ (own_w 137 rfl))) (by decide) (backOf (W := 2) (rRN l Z a0 hw [] a1  h1 n0 Z1 ) hZ (hw _ (own_w 137 rfl)) (hw _ (own_w 136 rfl)) (by decide) (by decide)) (g := (mkF m 5 #[.val (.ref a1)] [(.ref a1), (.ref b1o), (.ref b1o)])) rfl (by rw [hml]; rfl) (argsL := [(.ref a1)]) (rest := [(.ref b1o), (.ref b1o)]) (lenOf pd_24 rfl) rfl (by show 2 * 0 + _ ≤ _; exact Nat.le_of_eq rfl) (hb hby d29_5) (fun _ _ => ⟨rfl, e1, (by decide : 1 + 0 ≤ _), (by decide : 1 + 0 ≤ _)⟩)
  dsimp only [Pt.U, Pt.locs, Pt.cells, Pt.slots] at X2 lq2 yq2 zq2 st2 hQ2
  subst lq2 yq2 zq2
  obtain ⟨rfl, N2q, e2⟩ := hQ2
  have N2 := Fr.app N0 N2q
  obtain ⟨_, _, ⟨T3, Lq3, kq3, nq3⟩, -, X3, ⟨Lc3, hQ3, lq3, yq3, zq3⟩, st3⟩ := X2.specialBack hx (y := (⟨"java/util/Optional", "<init>", "(Ljava/lang/Object;)V"⟩ : MethodName)) rfl hown (mvT hZ (hw _ (own_w 138 rfl))) (mvT hZ (hw _ (own_w 139 rfl))) (mvT hZ (hw _ (own_w 141 rfl))) (by decide) (backOf (W := 1) (rOi l Z a0 hw [] b1o a1  h1 n0 Z1 A1 F1_53 b1) hZ (hw _ (own_w 141 rfl)) (hw _ (own_w 44 rfl)) (by decide) (by decide)) (g := (mkF m 8 #[.val (.ref a1)] [(.ref a1), (.ref b1o), (.ref b1o)])) rfl (by rw [hml]; rfl) (Steps.refl _) (a := b1o) (argsL := [(.ref a1)]) (rest := [(.ref b1o)]) (lenOf pd_25 rfl) rfl (by show 2 * 0 + _ ≤ _; exact Nat.le_of_eq rfl) (hb hby d29_8) (fun _ _ => ⟨rfl, e2, (by decide : 1 + 0 ≤ _), (by decide : 1 + 0 ≤ _)⟩)
  dsimp only [Pt.U, Pt.locs, Pt.cells, Pt.slots] at X3 lq3 yq3 zq3 st3 hQ3
  subst lq3 yq3 zq3
  obtain ⟨rfl, N3q, KC3, u3⟩ := hQ3
  have N3 := Fr.app N2 N3q
  have Z3 : n0 ≤ T3.heap.size := Nat.le_trans Z1 KC3.1
  have K3 : Keep h0 T3.heap [] := K1.trans KC3 (allS (Or.inr bk1) all0)
  obtain ⟨uE3, uV3⟩ := u3
  obtain ⟨fs, hr, hrun, hended, hW, hsame⟩ := X3.leave (v := some (.ref b1o)) (fun h => by rw [Bd.returns] at h; cases h) (BodyLoose.notSynchronized Bd)
  refine ⟨_, _, pre0 _ ?_, hrun, hended, _, _, rfl, ?_, ⟨_, rfl⟩, hW, hsame.mono (by decide) (by decide)⟩
  · show Steps p.tables e below (s₁.setTop (mkF m 0 #[.val (.ref a1)] [])) _
    refine st1 _ ?_
    refine XS.dup X1.here hx rfl (hb hby d29_3) rfl rfl ?_
    refine XS.aloadN X1.here hx rfl (hb hby d29_4) rfl rfl ?_
    refine st2 _ ?_
    refine st3.trans ?_
    exact X3.areturnOut hx rfl Bd.returns rfl (hb hby d29_11) hr
  · show QrOo Z a1 h0 n0 _ T3.heap _
    exact ⟨b1o, rfl, N3, K3, uE3, uV3⟩
theorem d8_0 : decode jdk_32_method_1_code 0 = .ok (.getstatic 1, 3) := by decide +kernel
theorem d8_3 : decode jdk_32_method_1_code 3 = .ok (.astore_n 0, 1) := by decide +kernel
theorem d8_4 : decode jdk_32_method_1_code 4 = .ok (.aload_n 0, 1) := by decide +kernel
theorem d8_5 : decode jdk_32_method_1_code 5 = .ok (.areturn, 1) := by decide +kernel
theorem pn_8 : plainName "java/util/Optional" = true := by first | (simp [plainName, overriddenIn]; done) | decide +kernel
theorem ef_rOe (m : MethodId)  : entryFrame m #[] 1 = mkF m 0 #[.unset] [] := by first | (simp [entryFrame, mkF, argsToLocals, Value.category]; done) | rfl
def QrOe (Z : State) (eo : Addr) (h0 : Heap) (n0 : Nat) (v : Option Value) (h : Heap) (L : List Loc) : Prop := v = some (.ref eo) ∧ Fr n0 L ∧ h = h0
set_option maxRecDepth 65536 in
set_option maxHeartbeats 40000000 in
theorem rOe (l : Launch) (Z : State) (a0 : Array Value) (hw : ∀ d ∈ tables_1, d.before a0 Z = true) (ws : List Jvm.Cond) (eo : Addr) (h0 : Heap) (n0 : Nat) (Z0 : n0 ≤ h0.size) (X00 : Old Z n0 h0) (O_E : Sta Z Z.heap "java/util/Optional" "EMPTY" "Ljava/util/Optional;" (.ref eo)) :
    MetFree l (⟨"java/util/Optional", "empty", "()Ljava/util/Optional;"⟩ : MethodName) (head1 (Jvm.Cond.code (⟨"java/util/Optional", "empty", "()Ljava/util/Optional;"⟩ : MethodName) jdk_32_method_1_code 1 (some (.object "java/util/Optional")) :: ws) ({ frames := 0, cells := 0, slots := 0, locals := 0 } : Room)) (fun a U => a = #[] ∧ Z.Warmed39 U.vm ∧ U.heap = h0) (fun _ _ _ _ _ => True) (fun _ U o U' => ∃ v L, o = .returned v ∧ QrOe Z eo h0 n0 v U'.heap L ∧ FrameEnd U o U' L ({ frames := 0, cells := 0, slots := 0, locals := 0 } : Room).cells ({ frames := 0, cells := 0, slots := 0, locals := 0 } : Room).slots) := by
  refine MetFree.of_bodySF (plainFor_of_name pn_8) hisR ?_
  intro p e s m args below meth c s₁ Bd hml0 hP hK
  obtain ⟨rfl, hZ, hh⟩ := hP
  have hx := Bd.exec
  have hby := Bd.bytes
  have hml : c.maxLocals = 1 := hml0
  have hown : s.vm.findClass "java/util/Optional" = some m.cls := findClass_of_methodNamed Bd.named
  have hnm := (name_of_methodNamed Bd.named Bd.method).1
  have X0 : Stand p l e ({ frames := 0, cells := 0, slots := 0, locals := 0 } : Room) s m #[] below meth c s₁ [] 0 0 := Stand.of_body Bd
  have e0 : s₁.heap = h0 := by rw [← hh, Bd.state]; rfl
  have N0 := Fr.nil n0
  have pre0 : ∀ t, Steps p.tables e below (s₁.setTop (mkF m 0 #[.unset] [])) t → Steps p.tables e below (s₁.setTop (entryFrame m #[] 1)) t := fun t k => castTop (ef_rOe m ) k
  obtain ⟨T1, X1, e1, st1⟩ := getS2 X0 hx hZ hown (host := "") (Or.inl (hw _ (own_w 46 rfl))) Via.refl e0 (O_E.ext X00.2) (g := (mkF m 0 #[.unset] [])) rfl (hb hby d8_0)
  obtain ⟨fs, hr, hrun, hended, hW, hsame⟩ := X1.leave (v := some (.ref eo)) (fun h => by rw [Bd.returns] at h; cases h) (BodyLoose.notSynchronized Bd)
  refine ⟨_, _, pre0 _ ?_, hrun, hended, _, _, rfl, ?_, ⟨_, rfl⟩, hW, hsame.mono (by decide) (by decide)⟩
  · show Steps p.tables e below (s₁.setTop (mkF m 0 #[.unset] [])) _
    refine st1 _ ?_
    refine XS.astoreN X1.here hx rfl (hb hby d8_3) rfl rfl (l' := #[.val (.ref eo)]) rfl ?_
    refine XS.aloadN X1.here hx rfl (hb hby d8_4) rfl rfl ?_
    exact X1.areturnOut hx rfl Bd.returns rfl (hb hby d8_5) hr
  · show QrOe Z eo h0 n0 _ T1.heap _
    exact ⟨rfl, N0, e1⟩
theorem d9_0 : decode jdk_32_method_6_code 0 = .ok (.aload_n 0, 1) := by decide +kernel
theorem d9_1 : decode jdk_32_method_6_code 1 = .ok (.getfield 13, 3) := by decide +kernel
theorem d9_4 : decode jdk_32_method_6_code 4 = .ok (.ifnull 7, 3) := by decide +kernel
theorem d9_11 : decode jdk_32_method_6_code 11 = .ok (.iconst 0, 1) := by decide +kernel
theorem d9_12 : decode jdk_32_method_6_code 12 = .ok (.ireturn, 1) := by decide +kernel
theorem pn_9 : plainName "java/util/Optional" = true := by first | (simp [plainName, overriddenIn]; done) | decide +kernel
theorem ef_rOp0 (m : MethodId) (a1 : Addr) : entryFrame m #[(.ref a1)] 1 = mkF m 0 #[.val (.ref a1)] [] := by first | (simp [entryFrame, mkF, argsToLocals, Value.category]; done) | rfl
def QrOp0 (Z : State) (a1 : Addr) (h0 : Heap) (n0 : Nat) (v : Option Value) (h : Heap) (L : List Loc) : Prop := ∃ z : Int32, z = ((0 : Int32)) ∧ v = some (.int z) ∧ Fr n0 L ∧ h = h0
set_option maxRecDepth 65536 in
set_option maxHeartbeats 40000000 in
theorem rOp0 (l : Launch) (Z : State) (a0 : Array Value) (hw : ∀ d ∈ tables_1, d.before a0 Z = true) (ws : List Jvm.Cond) (a1 : Addr) (h0 : Heap) (n0 : Nat) (Z0 : n0 ≤ h0.size) (FV : Fld Z h0 a1 "java/util/Optional" "value" "Ljava/lang/Object;" .null) :
    MetFree l (⟨"java/util/Optional", "isPresent", "()Z"⟩ : MethodName) (head1 (Jvm.Cond.code (⟨"java/util/Optional", "isPresent", "()Z"⟩ : MethodName) jdk_32_method_6_code 1 (some .boolean) :: ws) ({ frames := 0, cells := 0, slots := 0, locals := 0 } : Room)) (fun a U => a = #[(.ref a1)] ∧ Z.Warmed39 U.vm ∧ U.heap = h0) (fun _ _ _ _ _ => True) (fun _ U o U' => ∃ v L, o = .returned v ∧ QrOp0 Z a1 h0 n0 v U'.heap L ∧ FrameEnd U o U' L ({ frames := 0, cells := 0, slots := 0, locals := 0 } : Room).cells ({ frames := 0, cells := 0, slots := 0, locals := 0 } : Room).slots) := by
  refine MetFree.of_bodySF (plainFor_of_name pn_9) hisR ?_
  intro p e s m args below meth c s₁ Bd hml0 hP hK
  obtain ⟨rfl, hZ, hh⟩ := hP
  have hx := Bd.exec
  have hby := Bd.bytes
  have hml : c.maxLocals = 1 := hml0
  have hown : s.vm.findClass "java/util/Optional" = some m.cls := findClass_of_methodNamed Bd.named
  have hnm := (name_of_methodNamed Bd.named Bd.method).1
  have X0 : Stand p l e ({ frames := 0, cells := 0, slots := 0, locals := 0 } : Room) s m #[(.ref a1)] below meth c s₁ [] 0 0 := Stand.of_body Bd
  have e0 : s₁.heap = h0 := by rw [← hh, Bd.state]; rfl
  have N0 := Fr.nil n0
  have pre0 : ∀ t, Steps p.tables e below (s₁.setTop (mkF m 0 #[.val (.ref a1)] [])) t → Steps p.tables e below (s₁.setTop (entryFrame m #[(.ref a1)] 1)) t := fun t k => castTop (ef_rOp0 m a1) k
  obtain ⟨T1, X1, e1, st1⟩ := getF X0 hx hZ hown (host := "") (Or.inl (hw _ (own_w 52 rfl))) Via.refl e0 FV (g := (mkF m 1 #[.val (.ref a1)] [(.ref a1)])) rfl rfl (hb hby d9_1)
  obtain ⟨fs, hr, hrun, hended, hW, hsame⟩ := X1.leave (v := some (.int (0 : Int32))) (fun h => by rw [Bd.returns] at h; cases h) (BodyLoose.notSynchronized Bd)
  refine ⟨_, _, pre0 _ ?_, hrun, hended, _, _, rfl, ?_, ⟨_, rfl⟩, hW, hsame.mono (by decide) (by decide)⟩
  · show Steps p.tables e below (s₁.setTop (mkF m 0 #[.val (.ref a1)] [])) _
    refine XS.aloadN X0.here hx rfl (hb hby d9_0) rfl rfl ?_
    refine st1 _ ?_
    refine XS.ifnullYes X1.here hx rfl (pc0 := 4) (pc' := 11) rfl (hb hby d9_4) rfl (by decide) (by decide) ?_
    refine XS.iconst X1.here hx rfl (hb hby d9_11) ?_
    exact retN X1 hx (t := .boolean) Bd.returns (by simp) (hb hby d9_12) hr
  · show QrOp0 Z a1 h0 n0 _ T1.heap _
    exact ⟨_, rfl, rfl, N0, e1⟩
theorem d9_7 : decode jdk_32_method_6_code 7 = .ok (.iconst 1, 1) := by decide +kernel
theorem d9_8 : decode jdk_32_method_6_code 8 = .ok (.goto 4, 3) := by decide +kernel
theorem ef_rOp1 (m : MethodId) (a1 : Addr) : entryFrame m #[(.ref a1)] 1 = mkF m 0 #[.val (.ref a1)] [] := by first | (simp [entryFrame, mkF, argsToLocals, Value.category]; done) | rfl
def QrOp1 (Z : State) (a1 : Addr) (x : Addr) (h0 : Heap) (n0 : Nat) (v : Option Value) (h : Heap) (L : List Loc) : Prop := ∃ z : Int32, z = ((1 : Int32)) ∧ v = some (.int z) ∧ Fr n0 L ∧ h = h0
set_option maxRecDepth 65536 in
set_option maxHeartbeats 40000000 in
theorem rOp1 (l : Launch) (Z : State) (a0 : Array Value) (hw : ∀ d ∈ tables_1, d.before a0 Z = true) (ws : List Jvm.Cond) (a1 : Addr) (x : Addr) (h0 : Heap) (n0 : Nat) (Z0 : n0 ≤ h0.size) (FV : Fld Z h0 a1 "java/util/Optional" "value" "Ljava/lang/Object;" (.ref x)) :
    MetFree l (⟨"java/util/Optional", "isPresent", "()Z"⟩ : MethodName) (head1 (Jvm.Cond.code (⟨"java/util/Optional", "isPresent", "()Z"⟩ : MethodName) jdk_32_method_6_code 1 (some .boolean) :: ws) ({ frames := 0, cells := 0, slots := 0, locals := 0 } : Room)) (fun a U => a = #[(.ref a1)] ∧ Z.Warmed39 U.vm ∧ U.heap = h0) (fun _ _ _ _ _ => True) (fun _ U o U' => ∃ v L, o = .returned v ∧ QrOp1 Z a1 x h0 n0 v U'.heap L ∧ FrameEnd U o U' L ({ frames := 0, cells := 0, slots := 0, locals := 0 } : Room).cells ({ frames := 0, cells := 0, slots := 0, locals := 0 } : Room).slots) := by
  refine MetFree.of_bodySF (plainFor_of_name pn_9) hisR ?_
  intro p e s m args below meth c s₁ Bd hml0 hP hK
  obtain ⟨rfl, hZ, hh⟩ := hP
  have hx := Bd.exec
  have hby := Bd.bytes
  have hml : c.maxLocals = 1 := hml0
  have hown : s.vm.findClass "java/util/Optional" = some m.cls := findClass_of_methodNamed Bd.named
  have hnm := (name_of_methodNamed Bd.named Bd.method).1
  have X0 : Stand p l e ({ frames := 0, cells := 0, slots := 0, locals := 0 } : Room) s m #[(.ref a1)] below meth c s₁ [] 0 0 := Stand.of_body Bd
  have e0 : s₁.heap = h0 := by rw [← hh, Bd.state]; rfl
  have N0 := Fr.nil n0
  have pre0 : ∀ t, Steps p.tables e below (s₁.setTop (mkF m 0 #[.val (.ref a1)] [])) t → Steps p.tables e below (s₁.setTop (entryFrame m #[(.ref a1)] 1)) t := fun t k => castTop (ef_rOp1 m a1) k
  obtain ⟨T1, X1, e1, st1⟩ := getF X0 hx hZ hown (host := "") (Or.inl (hw _ (own_w 52 rfl))) Via.refl e0 FV (g := (mkF m 1 #[.val (.ref a1)] [(.ref a1)])) rfl rfl (hb hby d9_1)
  obtain ⟨fs, hr, hrun, hended, hW, hsame⟩ := X1.leave (v := some (.int (1 : Int32))) (fun h => by rw [Bd.returns] at h; cases h) (BodyLoose.notSynchronized Bd)
  refine ⟨_, _, pre0 _ ?_, hrun, hended, _, _, rfl, ?_, ⟨_, rfl⟩, hW, hsame.mono (by decide) (by decide)⟩
  · show Steps p.tables e below (s₁.setTop (mkF m 0 #[.val (.ref a1)] [])) _
    refine XS.aloadN X0.here hx rfl (hb hby d9_0) rfl rfl ?_
    refine st1 _ ?_
    refine XS.ifnullNo X1.here hx rfl (hb hby d9_4) rfl ?_
    refine XS.iconst X1.here hx rfl (hb hby d9_7) ?_
    refine XS.goto X1.here hx rfl (pc0 := 8) (pc' := 12) rfl (hb hby d9_8) (by decide) (by decide) ?_
    exact retN X1 hx (t := .boolean) Bd.returns (by simp) (hb hby d9_12) hr
  · show QrOp1 Z a1 x h0 n0 _ T1.heap _
    exact ⟨_, rfl, rfl, N0, e1⟩
theorem d32_0 : decode jdk_32_method_5_code 0 = .ok (.aload_n 0, 1) := by decide +kernel
theorem d32_1 : decode jdk_32_method_5_code 1 = .ok (.getfield 13, 3) := by decide +kernel
theorem d32_4 : decode jdk_32_method_5_code 4 = .ok (.ifnonnull 13, 3) := by decide +kernel
theorem d32_17 : decode jdk_32_method_5_code 17 = .ok (.aload_n 0, 1) := by decide +kernel
theorem d32_18 : decode jdk_32_method_5_code 18 = .ok (.getfield 13, 3) := by decide +kernel
theorem d32_21 : decode jdk_32_method_5_code 21 = .ok (.areturn, 1) := by decide +kernel
theorem pn_32 : plainName "java/util/Optional" = true := by first | (simp [plainName, overriddenIn]; done) | decide +kernel
theorem ef_rOg (m : MethodId) (a1 : Addr) : entryFrame m #[(.ref a1)] 1 = mkF m 0 #[.val (.ref a1)] [] := by first | (simp [entryFrame, mkF, argsToLocals, Value.category]; done) | rfl
def QrOg (Z : State) (a1 : Addr) (x : Addr) (h0 : Heap) (n0 : Nat) (v : Option Value) (h : Heap) (L : List Loc) : Prop := v = some (.ref x) ∧ Fr n0 L ∧ h = h0
set_option maxRecDepth 65536 in
set_option maxHeartbeats 40000000 in
theorem rOg (l : Launch) (Z : State) (a0 : Array Value) (hw : ∀ d ∈ tables_1, d.before a0 Z = true) (ws : List Jvm.Cond) (a1 : Addr) (x : Addr) (h0 : Heap) (n0 : Nat) (Z0 : n0 ≤ h0.size) (FV : Fld Z h0 a1 "java/util/Optional" "value" "Ljava/lang/Object;" (.ref x)) :
    MetFree l (⟨"java/util/Optional", "get", "()Ljava/lang/Object;"⟩ : MethodName) (head1 (Jvm.Cond.code (⟨"java/util/Optional", "get", "()Ljava/lang/Object;"⟩ : MethodName) jdk_32_method_5_code 1 (some (.object "java/lang/Object")) :: ws) ({ frames := 0, cells := 0, slots := 0, locals := 0 } : Room)) (fun a U => a = #[(.ref a1)] ∧ Z.Warmed39 U.vm ∧ U.heap = h0) (fun _ _ _ _ _ => True) (fun _ U o U' => ∃ v L, o = .returned v ∧ QrOg Z a1 x h0 n0 v U'.heap L ∧ FrameEnd U o U' L ({ frames := 0, cells := 0, slots := 0, locals := 0 } : Room).cells ({ frames := 0, cells := 0, slots := 0, locals := 0 } : Room).slots) := by
  refine MetFree.of_bodySF (plainFor_of_name pn_32) hisR ?_
  intro p e s m args below meth c s₁ Bd hml0 hP hK
  obtain ⟨rfl, hZ, hh⟩ := hP
  have hx := Bd.exec
  have hby := Bd.bytes
  have hml : c.maxLocals = 1 := hml0
  have hown : s.vm.findClass "java/util/Optional" = some m.cls := findClass_of_methodNamed Bd.named
  have hnm := (name_of_methodNamed Bd.named Bd.method).1
  have X0 : Stand p l e ({ frames := 0, cells := 0, slots := 0, locals := 0 } : Room) s m #[(.ref a1)] below meth c s₁ [] 0 0 := Stand.of_body Bd
  have e0 : s₁.heap = h0 := by rw [← hh, Bd.state]; rfl
  have N0 := Fr.nil n0
  have pre0 : ∀ t, Steps p.tables e below (s₁.setTop (mkF m 0 #[.val (.ref a1)] [])) t → Steps p.tables e below (s₁.setTop (entryFrame m #[(.ref a1)] 1)) t := fun t k => castTop (ef_rOg m a1) k
  obtain ⟨T1, X1, e1, st1⟩ := getF X0 hx hZ hown (host := "") (Or.inl (hw _ (own_w 52 rfl))) Via.refl e0 FV (g := (mkF m 1 #[.val (.ref a1)] [(.ref a1)])) rfl rfl (hb hby d32_1)
  obtain ⟨T2, X2, e2, st2⟩ := getF X1 hx hZ hown (host := "") (Or.inl (hw _ (own_w 52 rfl))) Via.refl e1 FV (g := (mkF m 18 #[.val (.ref a1)] [(.ref a1)])) rfl rfl (hb hby d32_18)
  obtain ⟨fs, hr, hrun, hended, hW, hsame⟩ := X2.leave (v := some (.ref x)) (fun h => by rw [Bd.returns] at h; cases h) (BodyLoose.notSynchronized Bd)
  refine ⟨_, _, pre0 _ ?_, hrun, hended, _, _, rfl, ?_, ⟨_, rfl⟩, hW, hsame.mono (by decide) (by decide)⟩
  · show Steps p.tables e below (s₁.setTop (mkF m 0 #[.val (.ref a1)] [])) _
    refine XS.aloadN X0.here hx rfl (hb hby d32_0) rfl rfl ?_
    refine st1 _ ?_
    refine XS.ifnonnullYes X1.here hx rfl (pc0 := 4) (pc' := 17) rfl (hb hby d32_4) rfl (by decide) (by decide) ?_
    refine XS.aloadN X1.here hx rfl (hb hby d32_17) rfl rfl ?_
    refine st2 _ ?_
    exact X2.areturnOut hx rfl Bd.returns rfl (hb hby d32_21) hr
  · show QrOg Z a1 x h0 n0 _ T2.heap _
    exact ⟨rfl, N0, e2⟩
theorem own_backS {p : Program} {l : Launch} {e : Env} {R : Room} {s : State} {args : Array Value} {below : List Frame} {Z : State} {a0 : Array Value} {h : Heap} {y : MethodName} {bytes : ByteArray} {maxL : Nat} {ret : Option FieldType} {rm : Room} {len W : Nat} {as' : Array Value} {Q : Option Value → Heap → List Loc → Prop}
    (hM : MetFree l y (head1 [Cond.code y bytes maxL ret] rm) (fun a U => a = as' ∧ Z.Warmed39 U.vm ∧ U.heap = h ∧ U.vm.interned = Z.vm.interned) (fun _ _ _ _ _ => True) (fun _ U o U' => ∃ v L, o = .returned v ∧ Q v U'.heap L ∧ ReturnedEndW U o U' L rm.cells rm.slots))
    (hZ : Z.Warmed39 s.vm) (hI : s.vm.interned = Z.vm.interned) (wc : (Cond.code y bytes maxL ret).before a0 Z = true) (wz : (Cond.initialized y.cls).before a0 Z = true) (hf : rm.frames + 1 ≤ R.frames) (hl : W + (maxL + 11) + rm.locals ≤ R.locals) :
    BackS l R p e below s args y len W (fun A a => a = as' ∧ A.U.heap = h ∧ A.cells + rm.cells ≤ R.cells ∧ A.slots + rm.slots ≤ R.slots)
      (fun A _ v B => ∃ L, Q v B.U.heap L ∧ B.locs = A.locs ++ L ∧ B.cells = A.cells + rm.cells ∧ B.slots = A.slots + rm.slots) :=
  BackS.of_freeW (bytes := bytes) (maxL := maxL) (ret := ret) (E := fun _ _ o t L k n => k = rm.cells ∧ n = rm.slots ∧ ∃ v, o = .returned v ∧ Q v t.heap L) hM hf hl
    (fun m meth c A a Y hp => have hU : Z.Warmed39 A.U.vm := wtrans hZ Y.warmed
      ⟨by show (Cond.and _ .tt).before a A.U = true; rw [Cond.before_and, mv hU wc]; rfl, mv hU wc, mv hU wz, hp.2.2.1, hp.2.2.2⟩)
    (fun m meth c A a g mk Y hp => ⟨hp.1, wtrans hZ Y.warmed, hp.2.1, (State.WarmedH.interned_eq Y.warmed).trans hI⟩) (fun _ _ _ _ _ _ _ _ _ => trivial)
    (fun _ _ _ _ ⟨v, L, hps, h2, h3⟩ => ⟨L, _, _, h3, rfl, rfl, v, hps, h2⟩)
    (fun m meth c A a g mk v t L k n Y hp _ _ ⟨e1, e2, v', e3, e4⟩ => by cases e3; subst e1 e2; exact ⟨L, e4, rfl, rfl, rfl⟩)
theorem d3_8 : decode jdk_42_method_149_code 8 = .ok (.aload_n 0, 1) := by decide +kernel
theorem d3_9 : decode jdk_42_method_149_code 9 = .ok (.ldc 7, 2) := by decide +kernel
theorem d3_11 : decode jdk_42_method_149_code 11 = .ok (.getfield 9, 3) := by decide +kernel
theorem d3_14 : decode jdk_42_method_149_code 14 = .ok (.putfield 9, 3) := by decide +kernel
theorem d3_17 : decode jdk_42_method_149_code 17 = .ok (.aload_n 0, 1) := by decide +kernel
theorem d3_18 : decode jdk_42_method_149_code 18 = .ok (.ldc 7, 2) := by decide +kernel
theorem d3_20 : decode jdk_42_method_149_code 20 = .ok (.getfield 15, 3) := by decide +kernel
theorem d3_23 : decode jdk_42_method_149_code 23 = .ok (.putfield 15, 3) := by decide +kernel
theorem d3_26 : decode jdk_42_method_149_code 26 = .ok (.return_, 1) := by decide +kernel
theorem ef_rW4 (m : MethodId) (a1 : Addr) (a2 : Addr) : entryFrame m #[(.ref a1), (.ref a2), (.int (0 : Int32)), (.int (0 : Int32)), .null] 6 = mkF m 0 #[.val (.ref a1), .val (.ref a2), .val (.int (0 : Int32)), .val (.int (0 : Int32)), .val .null, .unset] [] := by first | (simp [entryFrame, mkF, argsToLocals, Value.category]; done) | rfl
def QrW4 (Z : State) (a1 : Addr) (a2 : Addr) (h0 : Heap) (n0 : Nat) (v : Option Value) (h : Heap) (L : List Loc) : Prop := v = none ∧ Fr n0 L ∧ Keep h0 h [a1] ∧ own_S Z h a1 []
set_option maxRecDepth 65536 in
set_option maxHeartbeats 40000000 in
theorem rW4 (l : Launch) (Z : State) (a0 : Array Value) (hw : ∀ d ∈ tables_1, d.before a0 Z = true) (ws : List Jvm.Cond) (a1 : Addr) (a2 : Addr) (h0 : Heap) (n0 : Nat) (Z0 : n0 ≤ h0.size) (E : Exa Z h0 a1 "java/lang/String") (FV : Fld Z h0 a1 "java/lang/String" "value" "[B" .null) (FC : Fld Z h0 a1 "java/lang/String" "coder" "B" (.int (0 : Int32))) (ga : n0 ≤ a1) (X00 : Old Z n0 h0) (hheld : Jvm.Lit.constHeld Z "java/lang/String" 7) (hcw : Jvm.Lit.compactW.before a0 Z = true) :
    MetFree l (⟨"java/lang/String", "<init>", "([CIILjava/lang/Void;)V"⟩ : MethodName) (head1 (Jvm.Cond.code (⟨"java/lang/String", "<init>", "([CIILjava/lang/Void;)V"⟩ : MethodName) jdk_42_method_149_code 6 none :: ws) ({ frames := 1, cells := 2, slots := 4, locals := 12 } : Room)) (fun a U => a = #[(.ref a1), (.ref a2), (.int (0 : Int32)), (.int (0 : Int32)), .null] ∧ Z.Warmed39 U.vm ∧ U.heap = h0 ∧ U.vm.interned = Z.vm.interned) (fun _ _ _ _ _ => True) (fun _ U o U' => ∃ v L, o = .returned v ∧ QrW4 Z a1 a2 h0 n0 v U'.heap L ∧ ReturnedEndW U o U' L ({ frames := 1, cells := 2, slots := 4, locals := 12 } : Room).cells ({ frames := 1, cells := 2, slots := 4, locals := 12 } : Room).slots) := by
  refine MetFree.of_bodySF (plainFor_of_name pn_3) hisR ?_
  intro p e s m args below meth c s₁ Bd hml0 hP hK
  obtain ⟨rfl, hZ, hh, hUZ⟩ := hP
  have hx := Bd.exec
  have hby := Bd.bytes
  have hml : c.maxLocals = 6 := hml0
  have hown : s.vm.findClass "java/lang/String" = some m.cls := findClass_of_methodNamed Bd.named
  have hnm := (name_of_methodNamed Bd.named Bd.method).1
  have X0 : Stand p l e ({ frames := 1, cells := 2, slots := 4, locals := 12 } : Room) s m #[(.ref a1), (.ref a2), (.int (0 : Int32)), (.int (0 : Int32)), .null] below meth c s₁ [] 0 0 := Stand.of_body Bd
  have e0 : s₁.heap = h0 := by rw [← hh, Bd.state]; rfl
  have N0 := Fr.nil n0
  have pre0 : ∀ t, Steps p.tables e below (s₁.setTop (mkF m 0 #[.val (.ref a1), .val (.ref a2), .val (.int (0 : Int32)), .val (.int (0 : Int32)), .val .null, .unset] [])) t → Steps p.tables e below (s₁.setTop (entryFrame m #[(.ref a1), (.ref a2), (.int (0 : Int32)), (.int (0 : Int32)), .null] 6)) t := fun t k => castTop (ef_rW4 m a1 a2) k
  have hS0 : s.Since s.vm s.heap.size := (State.WarmedH.refl s).since _
  obtain ⟨T1, X1, e1, st1⟩ := initO X0 hx hZ hown (hw _ (own_w 16 rfl)) (hw _ (own_w 17 rfl)) (hw _ (own_w 18 rfl)) e0 (g := (mkF m 1 #[.val (.ref a1), .val (.ref a2), .val (.int (0 : Int32)), .val (.int (0 : Int32)), .val .null, .unset] [(.ref a1)])) rfl (by rw [hml]; rfl) rfl (hb hby d3_1) (by decide) (W := 0) (by show 2 * 0 + _ ≤ _; exact Nat.le_of_eq rfl) (by decide)
  have I0 : IB Z s.vm [] := ⟨#[], by simp [hUZ], fun q hq => by simp at hq⟩
  have hkp : ∀ (b : Addr) (cl : Cell), Z.heap[b]? = some cl → s.heap[b]? = some cl := by rw [hh]; exact X00.2.2
  have wS : ∀ a ∈ Bundle.stringAtoms, a.before a0 Z = true := fun d hd => hw d ((by decide +kernel : ∀ d ∈ Bundle.stringAtoms, d ∈ tables_1) d hd)
  obtain ⟨sa2, T2, h2, k12, sb2, sk2, X2, e2, E2, hS2, hk2, hZ2, ho2, SE2, SC2, SV2, SA2, -, -, I2, Li2, st2⟩ := ldcSVL (s := s) (vm0 := s.vm) (Z := Z) (h := h0) X1 hx hZ hown (hw _ (own_w 19 rfl)) wS e1 hS0 (Nat.le_of_eq (congrArg Array.size hh)) (Fr.nil _) hkp I0 (by decide) hheld hcw (vs := []) (z := (0 : Int32)) ⟨by decide +kernel, by decide +kernel⟩ (by decide) (by decide) (g := (mkF m 9 #[.val (.ref a1), .val (.ref a2), .val (.int (0 : Int32)), .val (.int (0 : Int32)), .val .null, .unset] [(.ref a1)])) rfl (hb hby d3_9) (n := 0) (by decide +kernel) (by decide) (by decide) (by decide)
  have Z2 : n0 ≤ h2.size := Nat.le_trans Z0 E2.1
  have K2 : Keep h0 h2 [a1] := (Keep.refl h0 [a1]).ext E2
  have f3 := (FV.ext E2)
  have f4 := (E.ext E2)
  have nes2 : sa2 ≠ a1 := Fld.ne SV2 f3 (fun q => by cases q)
  have neb2 : a1 ≠ sb2 := Exa.neArv f4 SA2 (hw _ (own_w 7 rfl))
  obtain ⟨T5, X5, e5, st5⟩ := getF X2 hx hZ2 ho2 (host := "") (Or.inl (hw _ (own_w 25 rfl))) Via.refl e2 SV2 (g := (mkF m 11 #[.val (.ref a1), .val (.ref a2), .val (.int (0 : Int32)), .val (.int (0 : Int32)), .val .null, .unset] [(.ref sa2), (.ref a1)])) rfl rfl (hb hby d3_11)
  obtain ⟨T6, h6, X6, e6, W6, st6⟩ := putF X5 hx hZ2 ho2 (host := "") (Or.inl (hw _ (own_w 25 rfl))) Via.refl e5 f3 f4 (Or.inr ⟨(hw _ (own_w 21 rfl)), rfl, hnm⟩) (hw _ (own_w 7 rfl)) (ty := (.array .byte)) (by decide) rfl rfl (g := (mkF m 14 #[.val (.ref a1), .val (.ref a2), .val (.int (0 : Int32)), .val (.int (0 : Int32)), .val .null, .unset] [(.ref sb2), (.ref a1)])) rfl rfl (hb hby d3_14)
  have N6 := Fr.snoc X6 N0 ga
  have Z6 : n0 ≤ h6.size := by rw [W6.size]; exact Z2
  have K6 : Keep h0 h6 [a1] := K2.wr W6 (Or.inl (own_w 0 rfl))
  have Fw6 := f3.same W6
  have f7 := (SC2.other W6 (Or.inl nes2))
  obtain ⟨T8, X8, e8, st8⟩ := getF X6 hx hZ2 ho2 (host := "") (Or.inl (hw _ (own_w 26 rfl))) Via.refl e6 f7 (g := (mkF m 20 #[.val (.ref a1), .val (.ref a2), .val (.int (0 : Int32)), .val (.int (0 : Int32)), .val .null, .unset] [(.ref sa2), (.ref a1)])) rfl rfl (hb hby d3_20)
  have f9 := (f4.wr W6)
  have f10 := ((FC.ext E2).other W6 (Or.inr (slot_ne (Or.inr (hw _ (own_w 22 rfl))) (Or.inr (hw _ (own_w 21 rfl))) (by decide) (t := .byte) (t' := (.array .byte)) (by decide) (by decide))))
  obtain ⟨T11, h11, X11, e11, W11, st11⟩ := putFN X8 hx hZ2 ho2 (hw _ (own_w 26 rfl)) Via.refl e8 f10 f9 (Or.inr ⟨(hw _ (own_w 22 rfl)), rfl, hnm⟩) (hw _ (own_w 7 rfl)) (ty := .byte) (v' := (.int (nar .byte (0 : Int32)))) (by decide) rfl (fits_nar_byte _) (g := (mkF m 23 #[.val (.ref a1), .val (.ref a2), .val (.int (0 : Int32)), .val (.int (0 : Int32)), .val .null, .unset] [(.int (0 : Int32)), (.ref a1)])) rfl rfl (hb hby d3_23)
  have N11 := Fr.snoc X11 N6 ga
  have Z11 : n0 ≤ h11.size := by rw [W11.size]; exact Z6
  have K11 : Keep h0 h11 [a1] := K6.wr W11 (Or.inl (own_w 0 rfl))
  have Fw11 := f10.same W11
  obtain ⟨fs, hr, hrun, hended, hwd⟩ := Jvm.Stand.leaveW (s := s) (vm₁ := T2.vm) X11 hS2 (Nat.le_trans (Nat.le_trans (Nat.le_trans hk2 (Nat.le_of_eq W6.size.symm)) (Nat.le_of_eq W11.size.symm)) (Nat.le_of_eq (congrArg Array.size e11).symm)) (v := none) (fun _ => rfl)
  refine ⟨_, _, pre0 _ ?_, hrun, hended, _, _, rfl, ?_, hwd.1, hwd.2.1, hwd.2.2.1, hwd.2.2.2.mono (by decide) (by decide)⟩
  · show Steps p.tables e below (s₁.setTop (mkF m 0 #[.val (.ref a1), .val (.ref a2), .val (.int (0 : Int32)), .val (.int (0 : Int32)), .val .null, .unset] [])) _
    refine XS.aloadN X0.here hx rfl (hb hby d3_0) rfl rfl ?_
    refine st1 _ ?_
    refine XS.iloadN X1.here hx rfl (hb hby d3_4) rfl ?_
    refine XS.ifNo X1.here hx rfl (hb hby d3_5) rfl ((if0 _ _).trans (teq (by decide)).2) ?_
    refine XS.aloadN X1.here hx rfl (hb hby d3_8) rfl rfl ?_
    refine st2 _ ?_
    refine st5 _ ?_
    refine st6 _ ?_
    refine XS.aloadN X6.here hx rfl (hb hby d3_17) rfl rfl ?_
    refine ldcAgain X6 hx hZ2 ho2 (hw _ (own_w 19 rfl)) Li2 (g := (mkF m 18 #[.val (.ref a1), .val (.ref a2), .val (.int (0 : Int32)), .val (.int (0 : Int32)), .val .null, .unset] [(.ref a1)])) rfl (hb hby d3_18) _ ?_
    refine st8 _ ?_
    refine st11 _ ?_
    exact X11.returnOut hx Bd.returns (hb hby d3_26) hr
  · show QrW4 Z a1 a2 h0 n0 _ T11.heap _
    have f12 := (f9.wr W11)
    have f13 := (Fw6.other W11 (Or.inr (slot_ne (Or.inr (hw _ (own_w 21 rfl))) (Or.inr (hw _ (own_w 22 rfl))) (by decide) (t := (.array .byte)) (t' := .byte) (by decide) (by decide))))
    have f14 := ((SA2.other W6 (Ne.symm neb2)).other W11 (Ne.symm neb2))
    have fc := Fw11
    rw [own_nb0] at fc
    have os : own_S Z h11 a1 [] := ⟨sb2, _, f12, f13, Or.inl ⟨fc, f14, fun c hc => by cases hc⟩⟩
    rw [e11]
    exact ⟨rfl, N11, K11, os⟩
theorem ef_rW1 (m : MethodId) (a1 : Addr) (a2 : Addr) : entryFrame m #[(.ref a1), (.ref a2)] 2 = mkF m 0 #[.val (.ref a1), .val (.ref a2)] [] := by first | (simp [entryFrame, mkF, argsToLocals, Value.category]; done) | rfl
def QrW1 (Z : State) (a1 : Addr) (a2 : Addr) (ka : ClassId) (h0 : Heap) (n0 : Nat) (v : Option Value) (h : Heap) (L : List Loc) : Prop := v = none ∧ Fr n0 L ∧ Keep h0 h [a1] ∧ own_S Z h a1 []
set_option maxRecDepth 65536 in
set_option maxHeartbeats 40000000 in
theorem rW1 (l : Launch) (Z : State) (a0 : Array Value) (hw : ∀ d ∈ tables_1, d.before a0 Z = true) (ws : List Jvm.Cond) (a1 : Addr) (a2 : Addr) (ka : ClassId) (h0 : Heap) (n0 : Nat) (Z0 : n0 ≤ h0.size) (E : Exa Z h0 a1 "java/lang/String") (FV : Fld Z h0 a1 "java/lang/String" "value" "[B" .null) (FC : Fld Z h0 a1 "java/lang/String" "coder" "B" (.int (0 : Int32))) (ga : n0 ≤ a1) (X00 : Old Z n0 h0) (hheld : Jvm.Lit.constHeld Z "java/lang/String" 7) (hcw : Jvm.Lit.compactW.before a0 Z = true) (AC : Arv Z h0 a2 ka .char (0 : Int32) [] (.int (0 : Int32))) :
    MetFree l (⟨"java/lang/String", "<init>", "([C)V"⟩ : MethodName) (head1 (Jvm.Cond.code (⟨"java/lang/String", "<init>", "([C)V"⟩ : MethodName) jdk_42_method_3_code 2 none :: ws) ({ frames := 2, cells := 2, slots := 4, locals := 29 } : Room)) (fun a U => a = #[(.ref a1), (.ref a2)] ∧ Z.Warmed39 U.vm ∧ U.heap = h0 ∧ U.vm.interned = Z.vm.interned) (fun _ _ _ _ _ => True) (fun _ U o U' => ∃ v L, o = .returned v ∧ QrW1 Z a1 a2 ka h0 n0 v U'.heap L ∧ ReturnedEndW U o U' L ({ frames := 2, cells := 2, slots := 4, locals := 29 } : Room).cells ({ frames := 2, cells := 2, slots := 4, locals := 29 } : Room).slots) := by
  refine MetFree.of_bodySF (plainFor_of_name pn_2) hisR ?_
  intro p e s m args below meth c s₁ Bd hml0 hP hK
  obtain ⟨rfl, hZ, hh, hUZ⟩ := hP
  have hx := Bd.exec
  have hby := Bd.bytes
  have hml : c.maxLocals = 2 := hml0
  have hown : s.vm.findClass "java/lang/String" = some m.cls := findClass_of_methodNamed Bd.named
  have hnm := (name_of_methodNamed Bd.named Bd.method).1
  have X0 : Stand p l e ({ frames := 2, cells := 2, slots := 4, locals := 29 } : Room) s m #[(.ref a1), (.ref a2)] below meth c s₁ [] 0 0 := Stand.of_body Bd
  have e0 : s₁.heap = h0 := by rw [← hh, Bd.state]; rfl
  have N0 := Fr.nil n0
  have pre0 : ∀ t, Steps p.tables e below (s₁.setTop (mkF m 0 #[.val (.ref a1), .val (.ref a2)] [])) t → Steps p.tables e below (s₁.setTop (entryFrame m #[(.ref a1), (.ref a2)] 2)) t := fun t k => castTop (ef_rW1 m a1 a2) k
  have hS0 : s.Since s.vm s.heap.size := (State.WarmedH.refl s).since _
  obtain ⟨cl1, Ar1, qk1, Sz1, Nn1, Hh1, Gg1⟩ := id (AC)
  obtain ⟨_, _, ⟨T2, Lq2, kq2, nq2⟩, -, X2, hS2, hgr2, ⟨Lc2, hQ2, lq2, yq2, zq2⟩, st2⟩ := X0.specialBackS hx (y := (⟨"java/lang/String", "<init>", "([CIILjava/lang/Void;)V"⟩ : MethodName)) rfl hown (mvT hZ (hw _ (own_w 12 rfl))) (mvT hZ (hw _ (own_w 13 rfl))) (mvT hZ (hw _ (own_w 15 rfl))) (by decide) (own_backS (W := 0) (rW4 l Z a0 hw [] a1 a2  h0 n0 Z0 E FV FC ga X00 hheld hcw) hZ hUZ (hw _ (own_w 15 rfl)) (hw _ (own_w 8 rfl)) (by decide) (by decide)) (g := (mkF m 6 #[.val (.ref a1), .val (.ref a2)] [.null, (.int (0 : Int32)), (.int (0 : Int32)), (.ref a2), (.ref a1)])) rfl (by rw [hml]; rfl) (Steps.refl _) (a := a1) (argsL := [(.ref a2), (.int (0 : Int32)), (.int (0 : Int32)), .null]) (rest := []) (lenOf pd_14 rfl) rfl (by show 2 * 0 + _ ≤ _; exact Nat.le_of_eq rfl) (hb hby d2_6) (fun _ _ => ⟨rfl, e0, (by decide : 0 + 2 ≤ _), (by decide : 0 + 4 ≤ _)⟩)
  dsimp only [Pt.U, Pt.locs, Pt.cells, Pt.slots] at X2 lq2 yq2 zq2 st2 hQ2 hS2
  subst lq2 yq2 zq2
  have hZ2 : Z.Warmed39 (s.setVm T2.vm).vm := State.Warmed39.trans (t := s) hZ hS2.1
  have ho2 : (s.setVm T2.vm).vm.findClass "java/lang/String" = some m.cls := by rw [show (s.setVm T2.vm).vm = T2.vm from rfl, hS2.1.alike.findClass]; exact hown
  obtain ⟨rfl, N2q, KC2, TS2⟩ := hQ2
  have N2 := Fr.app N0 N2q
  have Z2 : n0 ≤ T2.heap.size := Nat.le_trans Z0 KC2.1
  have K2 : Keep h0 T2.heap [a1] := (Keep.refl h0 [a1]).trans KC2 (allS (Or.inl (own_w 0 rfl)) all0)
  obtain ⟨fs, hr, hrun, hended, hwd⟩ := Jvm.Stand.leaveW (s := s) (vm₁ := T2.vm) X2 hS2 (Nat.le_trans (Nat.le_refl _) (Nat.le_of_eq (congrArg Array.size rfl).symm)) (v := none) (fun _ => rfl)
  refine ⟨_, _, pre0 _ ?_, hrun, hended, _, _, rfl, ?_, hwd.1, hwd.2.1, hwd.2.2.1, hwd.2.2.2.mono (by decide) (by decide)⟩
  · show Steps p.tables e below (s₁.setTop (mkF m 0 #[.val (.ref a1), .val (.ref a2)] [])) _
    refine XS.aloadN X0.here hx rfl (hb hby d2_0) rfl rfl ?_
    refine XS.aloadN X0.here hx rfl (hb hby d2_1) rfl rfl ?_
    refine XS.iconst X0.here hx rfl (hb hby d2_2) ?_
    refine XS.aloadN X0.here hx rfl (hb hby d2_3) rfl rfl ?_
    refine X0.arraylength hx (by rw [e0]; exact Ar1.1) (State.isArrayOf_alike hZ.alike Ar1.2.1) (g := (mkF m 4 #[.val (.ref a1), .val (.ref a2)] [(.ref a2), (.int (0 : Int32)), (.ref a2), (.ref a1)])) rfl rfl (hb hby d2_4) _ ?_
    rw [len_of Sz1 Nn1]
    refine XS.aconstNull X0.here hx rfl (hb hby d2_5) ?_
    refine st2.trans ?_
    exact X2.returnOut hx Bd.returns (hb hby d2_9) hr
  · show QrW1 Z a1 a2 ka h0 n0 _ T2.heap _
    exact ⟨rfl, N2, K2, TS2⟩
theorem own_bef0 {P : Nat → Prop} : ∀ k, k < 0 → P k := fun k hk => absurd hk (Nat.not_lt_zero k)
theorem own_befS {P : Nat → Prop} {j : Nat} (h : ∀ k, k < j → P k) (q : P j) : ∀ k, k < j + 1 → P k := fun k hk => by
  by_cases e : k = j
  · subst e; exact q
  · exact h k (by omega)
theorem own_aft0 {P : Nat → Prop} {n : Nat} : ∀ k, n ≤ k → k < n → P k := fun k a b => absurd a (Nat.not_le.mpr b)
theorem own_aftS {P : Nat → Prop} {e n : Nat} (h : ∀ k, e + 1 ≤ k → k < n → P k) (q : P e) : ∀ k, e ≤ k → k < n → P k := fun k a b => by
  by_cases w : k = e
  · subst w; exact q
  · exact h k (by omega) b
theorem own_n75 (x : Int32) : ((x &&& (7 : Int32)) % (5 : Int32)) = (0 : Int32) ∨ ((x &&& (7 : Int32)) % (5 : Int32)) = (1 : Int32) ∨ ((x &&& (7 : Int32)) % (5 : Int32)) = (2 : Int32) ∨ ((x &&& (7 : Int32)) % (5 : Int32)) = (3 : Int32) ∨ ((x &&& (7 : Int32)) % (5 : Int32)) = (4 : Int32) := by
  have h := c_and x 7 (by decide)
  have r := (c_irem (x &&& (7 : Int32)) (5 : Int32) 5 rfl).1 h.1
  simp only [← Int32.toInt_inj, r, show (0 : Int32).toInt = 0 from rfl, show (1 : Int32).toInt = 1 from rfl, show (2 : Int32).toInt = 2 from rfl, show (3 : Int32).toInt = 3 from rfl, show (4 : Int32).toInt = 4 from rfl]
  omega
theorem own_nbT {r b : Int32} {P : Prop} [Decidable P] (h : r = if P then (1 : Int32) else (0 : Int32)) (p : P) (q : b = if r = (0 : Int32) then (1 : Int32) else (0 : Int32)) : b = (0 : Int32) := by
  rw [if_pos p] at h; subst h; rw [q]; decide
theorem own_nbF {r b : Int32} {P : Prop} [Decidable P] (h : r = if P then (1 : Int32) else (0 : Int32)) (p : ¬ P) (q : b = if r = (0 : Int32) then (1 : Int32) else (0 : Int32)) : b = (1 : Int32) := by
  rw [if_neg p] at h; subst h; rw [q]; decide
theorem own_xd1 {i : Nat} (h : i < 16) : Int32.ofNat (i + 1) - 1 = Int32.ofNat i := (by decide : ∀ i, i < 16 → Int32.ofNat (i + 1) - 1 = Int32.ofNat i) i h
theorem own_xm1 {i : Nat} (h : i < 16) : Int32.ofNat (i + 1) + (-1 : Int32) = Int32.ofNat i := (by decide : ∀ i, i < 16 → Int32.ofNat (i + 1) + (-1 : Int32) = Int32.ofNat i) i h

theorem d1_0 : decode method_2_code 0 = .ok (.iload_n 0, 1) := by decide +kernel
theorem d1_1 : decode method_2_code 1 = .ok (.iconst 3, 1) := by decide +kernel
theorem d1_2 : decode method_2_code 2 = .ok (.iand, 1) := by decide +kernel
theorem d1_3 : decode method_2_code 3 = .ok (.istore_n 1, 1) := by decide +kernel
theorem d1_4 : decode method_2_code 4 = .ok (.iload_n 1, 1) := by decide +kernel
theorem d1_5 : decode method_2_code 5 = .ok (.ifCond .ne 6, 3) := by decide +kernel
theorem d1_8 : decode method_2_code 8 = .ok (.bipush 32, 2) := by decide +kernel
theorem d1_10 : decode method_2_code 10 = .ok (.ireturn, 1) := by decide +kernel
theorem d1_11 : decode method_2_code 11 = .ok (.iload_n 1, 1) := by decide +kernel
theorem d1_12 : decode method_2_code 12 = .ok (.iconst 1, 1) := by decide +kernel
theorem d1_13 : decode method_2_code 13 = .ok (.if_icmp .ne 6, 3) := by decide +kernel
theorem d1_16 : decode method_2_code 16 = .ok (.bipush 9, 2) := by decide +kernel
theorem d1_18 : decode method_2_code 18 = .ok (.ireturn, 1) := by decide +kernel
theorem d1_19 : decode method_2_code 19 = .ok (.iload_n 1, 1) := by decide +kernel
theorem d1_20 : decode method_2_code 20 = .ok (.iconst 2, 1) := by decide +kernel
theorem d1_21 : decode method_2_code 21 = .ok (.if_icmp .ne 6, 3) := by decide +kernel
theorem d1_24 : decode method_2_code 24 = .ok (.bipush 13, 2) := by decide +kernel
theorem d1_26 : decode method_2_code 26 = .ok (.ireturn, 1) := by decide +kernel
theorem d1_27 : decode method_2_code 27 = .ok (.iload_n 0, 1) := by decide +kernel
theorem d1_28 : decode method_2_code 28 = .ok (.iconst 2, 1) := by decide +kernel
theorem d1_29 : decode method_2_code 29 = .ok (.iushr, 1) := by decide +kernel
theorem d1_30 : decode method_2_code 30 = .ok (.ldc 7, 2) := by decide +kernel
theorem d1_32 : decode method_2_code 32 = .ok (.iand, 1) := by decide +kernel
theorem d1_33 : decode method_2_code 33 = .ok (.i2c, 1) := by decide +kernel
theorem d1_34 : decode method_2_code 34 = .ok (.ireturn, 1) := by decide +kernel
theorem pn_1 : plainName "com/example/wrasse/wrasse/io/CorrectionFormatWordOfPinLaw" = true := by first | (simp [plainName, overriddenIn]; done) | decide +kernel
theorem ef_rPk (m : MethodId) (p1 : Int32) : entryFrame m #[(.int p1)] 2 = mkF m 0 #[.val (.int p1), .unset] [] := by first | (simp [entryFrame, mkF, argsToLocals, Value.category]; done) | rfl
def QrPk (Z : State) (p1 : Int32) (h0 : Heap) (n0 : Nat) (v : Option Value) (h : Heap) (L : List Loc) : Prop := ∃ z : Int32, own_ch z ∧ v = some (.int z) ∧ Fr n0 L ∧ h = h0
set_option maxRecDepth 65536 in
set_option maxHeartbeats 40000000 in
theorem rPk (l : Launch) (Z : State) (a0 : Array Value) (hw : ∀ d ∈ tables_1, d.before a0 Z = true) (ws : List Jvm.Cond) (p1 : Int32) (h0 : Heap) (n0 : Nat) (Z0 : n0 ≤ h0.size) :
    MetFree l (⟨"com/example/wrasse/wrasse/io/CorrectionFormatWordOfPinLaw", "ch", "(I)C"⟩ : MethodName) (head1 (Jvm.Cond.code (⟨"com/example/wrasse/wrasse/io/CorrectionFormatWordOfPinLaw", "ch", "(I)C"⟩ : MethodName) method_2_code 2 (some .char) :: ws) ({ frames := 0, cells := 0, slots := 0, locals := 0 } : Room)) (fun a U => a = #[(.int p1)] ∧ Z.Warmed39 U.vm ∧ U.heap = h0) (fun _ _ _ _ _ => True) (fun _ U o U' => ∃ v L, o = .returned v ∧ QrPk Z p1 h0 n0 v U'.heap L ∧ FrameEnd U o U' L ({ frames := 0, cells := 0, slots := 0, locals := 0 } : Room).cells ({ frames := 0, cells := 0, slots := 0, locals := 0 } : Room).slots) := by
  refine MetFree.of_bodySF (plainFor_of_name pn_1) hisR ?_
  intro p e s m args below meth c s₁ Bd hml0 hP hK
  obtain ⟨rfl, hZ, hh⟩ := hP
  have hx := Bd.exec
  have hby := Bd.bytes
  have hml : c.maxLocals = 2 := hml0
  have hown : s.vm.findClass "com/example/wrasse/wrasse/io/CorrectionFormatWordOfPinLaw" = some m.cls := findClass_of_methodNamed Bd.named
  have hnm := (name_of_methodNamed Bd.named Bd.method).1
  have X0 : Stand p l e ({ frames := 0, cells := 0, slots := 0, locals := 0 } : Room) s m #[(.int p1)] below meth c s₁ [] 0 0 := Stand.of_body Bd
  have e0 : s₁.heap = h0 := by rw [← hh, Bd.state]; rfl
  have N0 := Fr.nil n0
  have pre0 : ∀ t, Steps p.tables e below (s₁.setTop (mkF m 0 #[.val (.int p1), .unset] [])) t → Steps p.tables e below (s₁.setTop (entryFrame m #[(.int p1)] 2)) t := fun t k => castTop (ef_rPk m p1) k
  by_cases hc5 : (p1 &&& (3 : Int32)) = (0 : Int32)
  · obtain ⟨fs, hr, hrun, hended, hW, hsame⟩ := X0.leave (v := some (.int (32 : Int32))) (fun h => by rw [Bd.returns] at h; cases h) (BodyLoose.notSynchronized Bd)
    refine ⟨_, _, pre0 _ ?_, hrun, hended, _, _, rfl, ?_, ⟨_, rfl⟩, hW, hsame.mono (by decide) (by decide)⟩
    · show Steps p.tables e below (s₁.setTop (mkF m 0 #[.val (.int p1), .unset] [])) _
      refine XS.iloadN X0.here hx rfl (hb hby d1_0) rfl ?_
      refine XS.iconst X0.here hx rfl (hb hby d1_1) ?_
      refine XS.iand X0.here hx rfl (hb hby d1_2) rfl ?_
      refine XS.istoreN X0.here hx rfl (hb hby d1_3) rfl (l' := #[.val (.int p1), .val (.int (p1 &&& (3 : Int32)))]) rfl ?_
      refine XS.iloadN X0.here hx rfl (hb hby d1_4) rfl ?_
      refine XS.ifNo X0.here hx rfl (hb hby d1_5) rfl ((if0 _ _).trans (teq hc5).2) ?_
      refine XS.bipush X0.here hx rfl (hb hby d1_8) ?_
      exact retN X0 hx (t := .char) Bd.returns (by simp) (hb hby d1_10) hr
    · show QrPk Z p1 h0 n0 _ s₁.heap _
      exact ⟨_, ⟨by decide, by decide⟩, rfl, N0, e0⟩
  · by_cases hc13 : (p1 &&& (3 : Int32)) = (1 : Int32)
    · obtain ⟨fs, hr, hrun, hended, hW, hsame⟩ := X0.leave (v := some (.int (9 : Int32))) (fun h => by rw [Bd.returns] at h; cases h) (BodyLoose.notSynchronized Bd)
      refine ⟨_, _, pre0 _ ?_, hrun, hended, _, _, rfl, ?_, ⟨_, rfl⟩, hW, hsame.mono (by decide) (by decide)⟩
      · show Steps p.tables e below (s₁.setTop (mkF m 0 #[.val (.int p1), .unset] [])) _
        refine XS.iloadN X0.here hx rfl (hb hby d1_0) rfl ?_
        refine XS.iconst X0.here hx rfl (hb hby d1_1) ?_
        refine XS.iand X0.here hx rfl (hb hby d1_2) rfl ?_
        refine XS.istoreN X0.here hx rfl (hb hby d1_3) rfl (l' := #[.val (.int p1), .val (.int (p1 &&& (3 : Int32)))]) rfl ?_
        refine XS.iloadN X0.here hx rfl (hb hby d1_4) rfl ?_
        refine XS.ifYes X0.here hx rfl (pc0 := 5) (pc' := 11) rfl (hb hby d1_5) rfl ((if0 _ _).trans (feq hc5).2) (by decide) (by decide) ?_
        refine XS.iloadN X0.here hx rfl (hb hby d1_11) rfl ?_
        refine XS.iconst X0.here hx rfl (hb hby d1_12) ?_
        refine XS.icmpNo X0.here hx rfl (hb hby d1_13) rfl (teq hc13).2 ?_
        refine XS.bipush X0.here hx rfl (hb hby d1_16) ?_
        exact retN X0 hx (t := .char) Bd.returns (by simp) (hb hby d1_18) hr
      · show QrPk Z p1 h0 n0 _ s₁.heap _
        exact ⟨_, ⟨by decide, by decide⟩, rfl, N0, e0⟩
    · by_cases hc21 : (p1 &&& (3 : Int32)) = (2 : Int32)
      · obtain ⟨fs, hr, hrun, hended, hW, hsame⟩ := X0.leave (v := some (.int (13 : Int32))) (fun h => by rw [Bd.returns] at h; cases h) (BodyLoose.notSynchronized Bd)
        refine ⟨_, _, pre0 _ ?_, hrun, hended, _, _, rfl, ?_, ⟨_, rfl⟩, hW, hsame.mono (by decide) (by decide)⟩
        · show Steps p.tables e below (s₁.setTop (mkF m 0 #[.val (.int p1), .unset] [])) _
          refine XS.iloadN X0.here hx rfl (hb hby d1_0) rfl ?_
          refine XS.iconst X0.here hx rfl (hb hby d1_1) ?_
          refine XS.iand X0.here hx rfl (hb hby d1_2) rfl ?_
          refine XS.istoreN X0.here hx rfl (hb hby d1_3) rfl (l' := #[.val (.int p1), .val (.int (p1 &&& (3 : Int32)))]) rfl ?_
          refine XS.iloadN X0.here hx rfl (hb hby d1_4) rfl ?_
          refine XS.ifYes X0.here hx rfl (pc0 := 5) (pc' := 11) rfl (hb hby d1_5) rfl ((if0 _ _).trans (feq hc5).2) (by decide) (by decide) ?_
          refine XS.iloadN X0.here hx rfl (hb hby d1_11) rfl ?_
          refine XS.iconst X0.here hx rfl (hb hby d1_12) ?_
          refine XS.icmpYes X0.here hx rfl (pc0 := 13) (pc' := 19) rfl (hb hby d1_13) rfl (feq hc13).2 (by decide) (by decide) ?_
          refine XS.iloadN X0.here hx rfl (hb hby d1_19) rfl ?_
          refine XS.iconst X0.here hx rfl (hb hby d1_20) ?_
          refine XS.icmpNo X0.here hx rfl (hb hby d1_21) rfl (teq hc21).2 ?_
          refine XS.bipush X0.here hx rfl (hb hby d1_24) ?_
          exact retN X0 hx (t := .char) Bd.returns (by simp) (hb hby d1_26) hr
        · show QrPk Z p1 h0 n0 _ s₁.heap _
          exact ⟨_, ⟨by decide, by decide⟩, rfl, N0, e0⟩
      · obtain ⟨fs, hr, hrun, hended, hW, hsame⟩ := X0.leave (v := some (.int (nar .char ((((p1.toUInt32 >>> ((2 : Int32) &&& 31).toUInt32).toInt32) &&& (65535 : Int32)).toUInt32.toUInt16.toUInt32.toInt32)))) (fun h => by rw [Bd.returns] at h; cases h) (BodyLoose.notSynchronized Bd)
        refine ⟨_, _, pre0 _ ?_, hrun, hended, _, _, rfl, ?_, ⟨_, rfl⟩, hW, hsame.mono (by decide) (by decide)⟩
        · show Steps p.tables e below (s₁.setTop (mkF m 0 #[.val (.int p1), .unset] [])) _
          refine XS.iloadN X0.here hx rfl (hb hby d1_0) rfl ?_
          refine XS.iconst X0.here hx rfl (hb hby d1_1) ?_
          refine XS.iand X0.here hx rfl (hb hby d1_2) rfl ?_
          refine XS.istoreN X0.here hx rfl (hb hby d1_3) rfl (l' := #[.val (.int p1), .val (.int (p1 &&& (3 : Int32)))]) rfl ?_
          refine XS.iloadN X0.here hx rfl (hb hby d1_4) rfl ?_
          refine XS.ifYes X0.here hx rfl (pc0 := 5) (pc' := 11) rfl (hb hby d1_5) rfl ((if0 _ _).trans (feq hc5).2) (by decide) (by decide) ?_
          refine XS.iloadN X0.here hx rfl (hb hby d1_11) rfl ?_
          refine XS.iconst X0.here hx rfl (hb hby d1_12) ?_
          refine XS.icmpYes X0.here hx rfl (pc0 := 13) (pc' := 19) rfl (hb hby d1_13) rfl (feq hc13).2 (by decide) (by decide) ?_
          refine XS.iloadN X0.here hx rfl (hb hby d1_19) rfl ?_
          refine XS.iconst X0.here hx rfl (hb hby d1_20) ?_
          refine XS.icmpYes X0.here hx rfl (pc0 := 21) (pc' := 27) rfl (hb hby d1_21) rfl (feq hc21).2 (by decide) (by decide) ?_
          refine XS.iloadN X0.here hx rfl (hb hby d1_27) rfl ?_
          refine XS.iconst X0.here hx rfl (hb hby d1_28) ?_
          refine XS.iushr X0.here hx rfl (hb hby d1_29) rfl ?_
          refine X0.ldcInt hx hown (mvT hZ (hw _ (own_w 5 rfl))) (g := (mkF m 30 #[.val (.int p1), .val (.int (p1 &&& (3 : Int32)))] [(.int ((p1.toUInt32 >>> ((2 : Int32) &&& 31).toUInt32).toInt32))])) rfl (hb hby d1_30) _ ?_
          refine XS.iand X0.here hx rfl (hb hby d1_32) rfl ?_
          refine XS.i2c X0.here hx rfl (hb hby d1_33) rfl ?_
          exact retN X0 hx (t := .char) Bd.returns (by simp) (hb hby d1_34) hr
        · show QrPk Z p1 h0 n0 _ s₁.heap _
          exact ⟨_, own_gchar _, rfl, N0, e0⟩
theorem d13_0 : decode method_3_code 0 = .ok (.iload_n 0, 1) := by decide +kernel
theorem d13_1 : decode method_3_code 1 = .ok (.bipush 32, 2) := by decide +kernel
theorem d13_3 : decode method_3_code 3 = .ok (.if_icmp .eq 15, 3) := by decide +kernel
theorem d13_6 : decode method_3_code 6 = .ok (.iload_n 0, 1) := by decide +kernel
theorem d13_7 : decode method_3_code 7 = .ok (.bipush 9, 2) := by decide +kernel
theorem d13_9 : decode method_3_code 9 = .ok (.if_icmp .eq 9, 3) := by decide +kernel
theorem d13_12 : decode method_3_code 12 = .ok (.iload_n 0, 1) := by decide +kernel
theorem d13_13 : decode method_3_code 13 = .ok (.bipush 13, 2) := by decide +kernel
theorem d13_15 : decode method_3_code 15 = .ok (.if_icmp .ne 7, 3) := by decide +kernel
theorem d13_18 : decode method_3_code 18 = .ok (.iconst 1, 1) := by decide +kernel
theorem d13_19 : decode method_3_code 19 = .ok (.goto 4, 3) := by decide +kernel
theorem d13_22 : decode method_3_code 22 = .ok (.iconst 0, 1) := by decide +kernel
theorem d13_23 : decode method_3_code 23 = .ok (.ireturn, 1) := by decide +kernel
theorem pn_13 : plainName "com/example/wrasse/wrasse/io/CorrectionFormatWordOfPinLaw" = true := by first | (simp [plainName, overriddenIn]; done) | decide +kernel
theorem ef_rBl (m : MethodId) (p1 : Int32) : entryFrame m #[(.int p1)] 1 = mkF m 0 #[.val (.int p1)] [] := by first | (simp [entryFrame, mkF, argsToLocals, Value.category]; done) | rfl
def QrBl (Z : State) (p1 : Int32) (h0 : Heap) (n0 : Nat) (v : Option Value) (h : Heap) (L : List Loc) : Prop := ∃ z : Int32, z = (if (p1 = (32 : Int32) ∨ p1 = (9 : Int32) ∨ p1 = (13 : Int32)) then (1 : Int32) else (0 : Int32)) ∧ v = some (.int z) ∧ Fr n0 L ∧ h = h0
set_option maxRecDepth 65536 in
set_option maxHeartbeats 40000000 in
theorem rBl (l : Launch) (Z : State) (a0 : Array Value) (hw : ∀ d ∈ tables_1, d.before a0 Z = true) (ws : List Jvm.Cond) (p1 : Int32) (h0 : Heap) (n0 : Nat) (Z0 : n0 ≤ h0.size) :
    MetFree l (⟨"com/example/wrasse/wrasse/io/CorrectionFormatWordOfPinLaw", "bl", "(C)Z"⟩ : MethodName) (head1 (Jvm.Cond.code (⟨"com/example/wrasse/wrasse/io/CorrectionFormatWordOfPinLaw", "bl", "(C)Z"⟩ : MethodName) method_3_code 1 (some .boolean) :: ws) ({ frames := 0, cells := 0, slots := 0, locals := 0 } : Room)) (fun a U => a = #[(.int p1)] ∧ Z.Warmed39 U.vm ∧ U.heap = h0) (fun _ _ _ _ _ => True) (fun _ U o U' => ∃ v L, o = .returned v ∧ QrBl Z p1 h0 n0 v U'.heap L ∧ FrameEnd U o U' L ({ frames := 0, cells := 0, slots := 0, locals := 0 } : Room).cells ({ frames := 0, cells := 0, slots := 0, locals := 0 } : Room).slots) := by
  refine MetFree.of_bodySF (plainFor_of_name pn_13) hisR ?_
  intro p e s m args below meth c s₁ Bd hml0 hP hK
  obtain ⟨rfl, hZ, hh⟩ := hP
  have hx := Bd.exec
  have hby := Bd.bytes
  have hml : c.maxLocals = 1 := hml0
  have hown : s.vm.findClass "com/example/wrasse/wrasse/io/CorrectionFormatWordOfPinLaw" = some m.cls := findClass_of_methodNamed Bd.named
  have hnm := (name_of_methodNamed Bd.named Bd.method).1
  have X0 : Stand p l e ({ frames := 0, cells := 0, slots := 0, locals := 0 } : Room) s m #[(.int p1)] below meth c s₁ [] 0 0 := Stand.of_body Bd
  have e0 : s₁.heap = h0 := by rw [← hh, Bd.state]; rfl
  have N0 := Fr.nil n0
  have pre0 : ∀ t, Steps p.tables e below (s₁.setTop (mkF m 0 #[.val (.int p1)] [])) t → Steps p.tables e below (s₁.setTop (entryFrame m #[(.int p1)] 1)) t := fun t k => castTop (ef_rBl m p1) k
  by_cases hc3 : p1 = (32 : Int32)
  · obtain ⟨fs, hr, hrun, hended, hW, hsame⟩ := X0.leave (v := some (.int (1 : Int32))) (fun h => by rw [Bd.returns] at h; cases h) (BodyLoose.notSynchronized Bd)
    refine ⟨_, _, pre0 _ ?_, hrun, hended, _, _, rfl, ?_, ⟨_, rfl⟩, hW, hsame.mono (by decide) (by decide)⟩
    · show Steps p.tables e below (s₁.setTop (mkF m 0 #[.val (.int p1)] [])) _
      refine XS.iloadN X0.here hx rfl (hb hby d13_0) rfl ?_
      refine XS.bipush X0.here hx rfl (hb hby d13_1) ?_
      refine XS.icmpYes X0.here hx rfl (pc0 := 3) (pc' := 18) rfl (hb hby d13_3) rfl (teq hc3).1 (by decide) (by decide) ?_
      refine XS.iconst X0.here hx rfl (hb hby d13_18) ?_
      refine XS.goto X0.here hx rfl (pc0 := 19) (pc' := 23) rfl (hb hby d13_19) (by decide) (by decide) ?_
      exact retN X0 hx (t := .boolean) Bd.returns (by simp) (hb hby d13_23) hr
    · show QrBl Z p1 h0 n0 _ s₁.heap _
      exact ⟨_, by simp [*], rfl, N0, e0⟩
  · by_cases hc9 : p1 = (9 : Int32)
    · obtain ⟨fs, hr, hrun, hended, hW, hsame⟩ := X0.leave (v := some (.int (1 : Int32))) (fun h => by rw [Bd.returns] at h; cases h) (BodyLoose.notSynchronized Bd)
      refine ⟨_, _, pre0 _ ?_, hrun, hended, _, _, rfl, ?_, ⟨_, rfl⟩, hW, hsame.mono (by decide) (by decide)⟩
      · show Steps p.tables e below (s₁.setTop (mkF m 0 #[.val (.int p1)] [])) _
        refine XS.iloadN X0.here hx rfl (hb hby d13_0) rfl ?_
        refine XS.bipush X0.here hx rfl (hb hby d13_1) ?_
        refine XS.icmpNo X0.here hx rfl (hb hby d13_3) rfl (feq hc3).1 ?_
        refine XS.iloadN X0.here hx rfl (hb hby d13_6) rfl ?_
        refine XS.bipush X0.here hx rfl (hb hby d13_7) ?_
        refine XS.icmpYes X0.here hx rfl (pc0 := 9) (pc' := 18) rfl (hb hby d13_9) rfl (teq hc9).1 (by decide) (by decide) ?_
        refine XS.iconst X0.here hx rfl (hb hby d13_18) ?_
        refine XS.goto X0.here hx rfl (pc0 := 19) (pc' := 23) rfl (hb hby d13_19) (by decide) (by decide) ?_
        exact retN X0 hx (t := .boolean) Bd.returns (by simp) (hb hby d13_23) hr
      · show QrBl Z p1 h0 n0 _ s₁.heap _
        exact ⟨_, by simp [*], rfl, N0, e0⟩
    · by_cases hc15 : p1 = (13 : Int32)
      · obtain ⟨fs, hr, hrun, hended, hW, hsame⟩ := X0.leave (v := some (.int (1 : Int32))) (fun h => by rw [Bd.returns] at h; cases h) (BodyLoose.notSynchronized Bd)
        refine ⟨_, _, pre0 _ ?_, hrun, hended, _, _, rfl, ?_, ⟨_, rfl⟩, hW, hsame.mono (by decide) (by decide)⟩
        · show Steps p.tables e below (s₁.setTop (mkF m 0 #[.val (.int p1)] [])) _
          refine XS.iloadN X0.here hx rfl (hb hby d13_0) rfl ?_
          refine XS.bipush X0.here hx rfl (hb hby d13_1) ?_
          refine XS.icmpNo X0.here hx rfl (hb hby d13_3) rfl (feq hc3).1 ?_
          refine XS.iloadN X0.here hx rfl (hb hby d13_6) rfl ?_
          refine XS.bipush X0.here hx rfl (hb hby d13_7) ?_
          refine XS.icmpNo X0.here hx rfl (hb hby d13_9) rfl (feq hc9).1 ?_
          refine XS.iloadN X0.here hx rfl (hb hby d13_12) rfl ?_
          refine XS.bipush X0.here hx rfl (hb hby d13_13) ?_
          refine XS.icmpNo X0.here hx rfl (hb hby d13_15) rfl (teq hc15).2 ?_
          refine XS.iconst X0.here hx rfl (hb hby d13_18) ?_
          refine XS.goto X0.here hx rfl (pc0 := 19) (pc' := 23) rfl (hb hby d13_19) (by decide) (by decide) ?_
          exact retN X0 hx (t := .boolean) Bd.returns (by simp) (hb hby d13_23) hr
        · show QrBl Z p1 h0 n0 _ s₁.heap _
          exact ⟨_, by simp [*], rfl, N0, e0⟩
      · obtain ⟨fs, hr, hrun, hended, hW, hsame⟩ := X0.leave (v := some (.int (0 : Int32))) (fun h => by rw [Bd.returns] at h; cases h) (BodyLoose.notSynchronized Bd)
        refine ⟨_, _, pre0 _ ?_, hrun, hended, _, _, rfl, ?_, ⟨_, rfl⟩, hW, hsame.mono (by decide) (by decide)⟩
        · show Steps p.tables e below (s₁.setTop (mkF m 0 #[.val (.int p1)] [])) _
          refine XS.iloadN X0.here hx rfl (hb hby d13_0) rfl ?_
          refine XS.bipush X0.here hx rfl (hb hby d13_1) ?_
          refine XS.icmpNo X0.here hx rfl (hb hby d13_3) rfl (feq hc3).1 ?_
          refine XS.iloadN X0.here hx rfl (hb hby d13_6) rfl ?_
          refine XS.bipush X0.here hx rfl (hb hby d13_7) ?_
          refine XS.icmpNo X0.here hx rfl (hb hby d13_9) rfl (feq hc9).1 ?_
          refine XS.iloadN X0.here hx rfl (hb hby d13_12) rfl ?_
          refine XS.bipush X0.here hx rfl (hb hby d13_13) ?_
          refine XS.icmpYes X0.here hx rfl (pc0 := 15) (pc' := 22) rfl (hb hby d13_15) rfl (feq hc15).2 (by decide) (by decide) ?_
          refine XS.iconst X0.here hx rfl (hb hby d13_22) ?_
          exact retN X0 hx (t := .boolean) Bd.returns (by simp) (hb hby d13_23) hr
        · show QrBl Z p1 h0 n0 _ s₁.heap _
          exact ⟨_, by simp [*], rfl, N0, e0⟩
theorem d19_0 : decode prog_8_method_4_code 0 = .ok (.iload_n 0, 1) := by decide +kernel
theorem d19_1 : decode prog_8_method_4_code 1 = .ok (.bipush 32, 2) := by decide +kernel
theorem d19_3 : decode prog_8_method_4_code 3 = .ok (.if_icmp .eq 15, 3) := by decide +kernel
theorem d19_6 : decode prog_8_method_4_code 6 = .ok (.iload_n 0, 1) := by decide +kernel
theorem d19_7 : decode prog_8_method_4_code 7 = .ok (.bipush 9, 2) := by decide +kernel
theorem d19_9 : decode prog_8_method_4_code 9 = .ok (.if_icmp .eq 9, 3) := by decide +kernel
theorem d19_12 : decode prog_8_method_4_code 12 = .ok (.iload_n 0, 1) := by decide +kernel
theorem d19_13 : decode prog_8_method_4_code 13 = .ok (.bipush 13, 2) := by decide +kernel
theorem d19_15 : decode prog_8_method_4_code 15 = .ok (.if_icmp .ne 7, 3) := by decide +kernel
theorem d19_18 : decode prog_8_method_4_code 18 = .ok (.iconst 1, 1) := by decide +kernel
theorem d19_19 : decode prog_8_method_4_code 19 = .ok (.goto 4, 3) := by decide +kernel
theorem d19_22 : decode prog_8_method_4_code 22 = .ok (.iconst 0, 1) := by decide +kernel
theorem d19_23 : decode prog_8_method_4_code 23 = .ok (.ireturn, 1) := by decide +kernel
theorem pn_19 : plainName "com/example/wrasse/wrasse/io/CorrectionFormat" = true := by first | (simp [plainName, overriddenIn]; done) | decide +kernel
theorem ef_rIb (m : MethodId) (p1 : Int32) : entryFrame m #[(.int p1)] 1 = mkF m 0 #[.val (.int p1)] [] := by first | (simp [entryFrame, mkF, argsToLocals, Value.category]; done) | rfl
def QrIb (Z : State) (p1 : Int32) (h0 : Heap) (n0 : Nat) (v : Option Value) (h : Heap) (L : List Loc) : Prop := ∃ z : Int32, z = (if (p1 = (32 : Int32) ∨ p1 = (9 : Int32) ∨ p1 = (13 : Int32)) then (1 : Int32) else (0 : Int32)) ∧ v = some (.int z) ∧ Fr n0 L ∧ h = h0
set_option maxRecDepth 65536 in
set_option maxHeartbeats 40000000 in
theorem rIb (l : Launch) (Z : State) (a0 : Array Value) (hw : ∀ d ∈ tables_1, d.before a0 Z = true) (ws : List Jvm.Cond) (p1 : Int32) (h0 : Heap) (n0 : Nat) (Z0 : n0 ≤ h0.size) :
    MetFree l (⟨"com/example/wrasse/wrasse/io/CorrectionFormat", "isBlank", "(C)Z"⟩ : MethodName) (head1 (Jvm.Cond.code (⟨"com/example/wrasse/wrasse/io/CorrectionFormat", "isBlank", "(C)Z"⟩ : MethodName) prog_8_method_4_code 1 (some .boolean) :: ws) ({ frames := 0, cells := 0, slots := 0, locals := 0 } : Room)) (fun a U => a = #[(.int p1)] ∧ Z.Warmed39 U.vm ∧ U.heap = h0) (fun _ _ _ _ _ => True) (fun _ U o U' => ∃ v L, o = .returned v ∧ QrIb Z p1 h0 n0 v U'.heap L ∧ FrameEnd U o U' L ({ frames := 0, cells := 0, slots := 0, locals := 0 } : Room).cells ({ frames := 0, cells := 0, slots := 0, locals := 0 } : Room).slots) := by
  refine MetFree.of_bodySF (plainFor_of_name pn_19) hisR ?_
  intro p e s m args below meth c s₁ Bd hml0 hP hK
  obtain ⟨rfl, hZ, hh⟩ := hP
  have hx := Bd.exec
  have hby := Bd.bytes
  have hml : c.maxLocals = 1 := hml0
  have hown : s.vm.findClass "com/example/wrasse/wrasse/io/CorrectionFormat" = some m.cls := findClass_of_methodNamed Bd.named
  have hnm := (name_of_methodNamed Bd.named Bd.method).1
  have X0 : Stand p l e ({ frames := 0, cells := 0, slots := 0, locals := 0 } : Room) s m #[(.int p1)] below meth c s₁ [] 0 0 := Stand.of_body Bd
  have e0 : s₁.heap = h0 := by rw [← hh, Bd.state]; rfl
  have N0 := Fr.nil n0
  have pre0 : ∀ t, Steps p.tables e below (s₁.setTop (mkF m 0 #[.val (.int p1)] [])) t → Steps p.tables e below (s₁.setTop (entryFrame m #[(.int p1)] 1)) t := fun t k => castTop (ef_rIb m p1) k
  by_cases hc3 : p1 = (32 : Int32)
  · obtain ⟨fs, hr, hrun, hended, hW, hsame⟩ := X0.leave (v := some (.int (1 : Int32))) (fun h => by rw [Bd.returns] at h; cases h) (BodyLoose.notSynchronized Bd)
    refine ⟨_, _, pre0 _ ?_, hrun, hended, _, _, rfl, ?_, ⟨_, rfl⟩, hW, hsame.mono (by decide) (by decide)⟩
    · show Steps p.tables e below (s₁.setTop (mkF m 0 #[.val (.int p1)] [])) _
      refine XS.iloadN X0.here hx rfl (hb hby d19_0) rfl ?_
      refine XS.bipush X0.here hx rfl (hb hby d19_1) ?_
      refine XS.icmpYes X0.here hx rfl (pc0 := 3) (pc' := 18) rfl (hb hby d19_3) rfl (teq hc3).1 (by decide) (by decide) ?_
      refine XS.iconst X0.here hx rfl (hb hby d19_18) ?_
      refine XS.goto X0.here hx rfl (pc0 := 19) (pc' := 23) rfl (hb hby d19_19) (by decide) (by decide) ?_
      exact retN X0 hx (t := .boolean) Bd.returns (by simp) (hb hby d19_23) hr
    · show QrIb Z p1 h0 n0 _ s₁.heap _
      exact ⟨_, by simp [*], rfl, N0, e0⟩
  · by_cases hc9 : p1 = (9 : Int32)
    · obtain ⟨fs, hr, hrun, hended, hW, hsame⟩ := X0.leave (v := some (.int (1 : Int32))) (fun h => by rw [Bd.returns] at h; cases h) (BodyLoose.notSynchronized Bd)
      refine ⟨_, _, pre0 _ ?_, hrun, hended, _, _, rfl, ?_, ⟨_, rfl⟩, hW, hsame.mono (by decide) (by decide)⟩
      · show Steps p.tables e below (s₁.setTop (mkF m 0 #[.val (.int p1)] [])) _
        refine XS.iloadN X0.here hx rfl (hb hby d19_0) rfl ?_
        refine XS.bipush X0.here hx rfl (hb hby d19_1) ?_
        refine XS.icmpNo X0.here hx rfl (hb hby d19_3) rfl (feq hc3).1 ?_
        refine XS.iloadN X0.here hx rfl (hb hby d19_6) rfl ?_
        refine XS.bipush X0.here hx rfl (hb hby d19_7) ?_
        refine XS.icmpYes X0.here hx rfl (pc0 := 9) (pc' := 18) rfl (hb hby d19_9) rfl (teq hc9).1 (by decide) (by decide) ?_
        refine XS.iconst X0.here hx rfl (hb hby d19_18) ?_
        refine XS.goto X0.here hx rfl (pc0 := 19) (pc' := 23) rfl (hb hby d19_19) (by decide) (by decide) ?_
        exact retN X0 hx (t := .boolean) Bd.returns (by simp) (hb hby d19_23) hr
      · show QrIb Z p1 h0 n0 _ s₁.heap _
        exact ⟨_, by simp [*], rfl, N0, e0⟩
    · by_cases hc15 : p1 = (13 : Int32)
      · obtain ⟨fs, hr, hrun, hended, hW, hsame⟩ := X0.leave (v := some (.int (1 : Int32))) (fun h => by rw [Bd.returns] at h; cases h) (BodyLoose.notSynchronized Bd)
        refine ⟨_, _, pre0 _ ?_, hrun, hended, _, _, rfl, ?_, ⟨_, rfl⟩, hW, hsame.mono (by decide) (by decide)⟩
        · show Steps p.tables e below (s₁.setTop (mkF m 0 #[.val (.int p1)] [])) _
          refine XS.iloadN X0.here hx rfl (hb hby d19_0) rfl ?_
          refine XS.bipush X0.here hx rfl (hb hby d19_1) ?_
          refine XS.icmpNo X0.here hx rfl (hb hby d19_3) rfl (feq hc3).1 ?_
          refine XS.iloadN X0.here hx rfl (hb hby d19_6) rfl ?_
          refine XS.bipush X0.here hx rfl (hb hby d19_7) ?_
          refine XS.icmpNo X0.here hx rfl (hb hby d19_9) rfl (feq hc9).1 ?_
          refine XS.iloadN X0.here hx rfl (hb hby d19_12) rfl ?_
          refine XS.bipush X0.here hx rfl (hb hby d19_13) ?_
          refine XS.icmpNo X0.here hx rfl (hb hby d19_15) rfl (teq hc15).2 ?_
          refine XS.iconst X0.here hx rfl (hb hby d19_18) ?_
          refine XS.goto X0.here hx rfl (pc0 := 19) (pc' := 23) rfl (hb hby d19_19) (by decide) (by decide) ?_
          exact retN X0 hx (t := .boolean) Bd.returns (by simp) (hb hby d19_23) hr
        · show QrIb Z p1 h0 n0 _ s₁.heap _
          exact ⟨_, by simp [*], rfl, N0, e0⟩
      · obtain ⟨fs, hr, hrun, hended, hW, hsame⟩ := X0.leave (v := some (.int (0 : Int32))) (fun h => by rw [Bd.returns] at h; cases h) (BodyLoose.notSynchronized Bd)
        refine ⟨_, _, pre0 _ ?_, hrun, hended, _, _, rfl, ?_, ⟨_, rfl⟩, hW, hsame.mono (by decide) (by decide)⟩
        · show Steps p.tables e below (s₁.setTop (mkF m 0 #[.val (.int p1)] [])) _
          refine XS.iloadN X0.here hx rfl (hb hby d19_0) rfl ?_
          refine XS.bipush X0.here hx rfl (hb hby d19_1) ?_
          refine XS.icmpNo X0.here hx rfl (hb hby d19_3) rfl (feq hc3).1 ?_
          refine XS.iloadN X0.here hx rfl (hb hby d19_6) rfl ?_
          refine XS.bipush X0.here hx rfl (hb hby d19_7) ?_
          refine XS.icmpNo X0.here hx rfl (hb hby d19_9) rfl (feq hc9).1 ?_
          refine XS.iloadN X0.here hx rfl (hb hby d19_12) rfl ?_
          refine XS.bipush X0.here hx rfl (hb hby d19_13) ?_
          refine XS.icmpYes X0.here hx rfl (pc0 := 15) (pc' := 22) rfl (hb hby d19_15) rfl (feq hc15).2 (by decide) (by decide) ?_
          refine XS.iconst X0.here hx rfl (hb hby d19_22) ?_
          exact retN X0 hx (t := .boolean) Bd.returns (by simp) (hb hby d19_23) hr
        · show QrIb Z p1 h0 n0 _ s₁.heap _
          exact ⟨_, by simp [*], rfl, N0, e0⟩
theorem pd_26 : parseMethodDescriptor "(I)C" = some ⟨[.int], some .char⟩ := by decide +kernel
theorem pd_27 : parseMethodDescriptor "(C)Z" = some ⟨[.char], some .boolean⟩ := by decide +kernel
theorem d5_7 : decode prog_8_method_2_code 7 = .ok (.iload_n 1, 1) := by decide +kernel
theorem d5_8 : decode prog_8_method_2_code 8 = .ok (.iload_n 2, 1) := by decide +kernel
theorem d5_9 : decode prog_8_method_2_code 9 = .ok (.if_icmp .ge 20, 3) := by decide +kernel
theorem d5_12 : decode prog_8_method_2_code 12 = .ok (.aload_n 0, 1) := by decide +kernel
theorem d5_13 : decode prog_8_method_2_code 13 = .ok (.iload_n 1, 1) := by decide +kernel
theorem d5_14 : decode prog_8_method_2_code 14 = .ok (.invokevirtual 20, 3) := by decide +kernel
theorem d5_17 : decode prog_8_method_2_code 17 = .ok (.invokestatic 24, 3) := by decide +kernel
theorem d5_20 : decode prog_8_method_2_code 20 = .ok (.ifCond .eq 9, 3) := by decide +kernel
theorem d5_23 : decode prog_8_method_2_code 23 = .ok (.iinc 1 1, 3) := by decide +kernel
theorem d5_26 : decode prog_8_method_2_code 26 = .ok (.goto (-19), 3) := by decide +kernel
set_option maxRecDepth 65536 in
set_option maxHeartbeats 40000000 in
theorem own_w1 {p : Program} {l : Launch} {e : Env} {R : Room} {s : State} {m : MethodId} {args : Array Value} {below : List Frame} {meth : Method} {c : Code} {cells slots : Nat} {Z : State} {a0 : Array Value} {n0 : Nat} {cs : List Int32} {a1 : Addr} {j : Nat} {G1 : Int32} {gv : Value} {h0 : Heap} (hRf : 5 ≤ R.frames) (hRl : 66 ≤ R.locals) (hRc : cells ≤ R.cells) (hRs : slots ≤ R.slots) (hx : p.tables.exec = Jvm.exec) (hZ : Z.Warmed39 s.vm) (hw : ∀ d ∈ tables_1, d.before a0 Z = true) (hby : c.code = prog_8_method_2_code) (hml : c.maxLocals = 3) (hown : s.vm.findClass "com/example/wrasse/wrasse/io/CorrectionFormat" = some m.cls) (hL : cs.length < 8) (X00 : Old Z n0 h0) (O_S : Sta Z Z.heap "jdk/internal/util/Preconditions" "SIOOBE_FORMATTER" "Ljava/util/function/BiFunction;" gv) (hgv : gv.isRef = true) (O_2 : Sta Z Z.heap "java/lang/String" "COMPACT_STRINGS" "Z" (.int G1)) (P5 : ¬ (G1 = (0 : Int32))) (O_A : Sta Z Z.heap "java/lang/StringUTF16" "$assertionsDisabled" "Z" (.int (1 : Int32))) (O_H : Sta Z Z.heap "java/lang/StringUTF16" "HI_BYTE_SHIFT" "I" (.int (0 : Int32))) (O_W : Sta Z Z.heap "java/lang/StringUTF16" "LO_BYTE_SHIFT" "I" (.int (8 : Int32)))  (Z0 : n0 ≤ h0.size) (T : own_S Z h0 a1 cs) (hcs : ∀ c ∈ cs, own_ch c) (hbf : ∀ k, k < j → (cs.getD k 0 = (32 : Int32) ∨ cs.getD k 0 = (9 : Int32) ∨ cs.getD k 0 = (13 : Int32))) (hst : j = cs.length ∨ (j < cs.length ∧ ¬ (cs.getD j 0 = (32 : Int32) ∨ cs.getD j 0 = (9 : Int32) ∨ cs.getD j 0 = (13 : Int32)))) (f : Nat) :
    ∀ (i : Nat), i + f = j → ∀ (T0 : State) (L0 : List Loc), Stand p l e R s m args below meth c T0 L0 cells slots → T0.heap = h0 → Fr n0 L0 →
    ∃ (T' : State) (L' : List Loc), Stand p l e R s m args below meth c T' L' cells slots ∧ T'.heap = h0 ∧ Fr n0 L' ∧ ∀ target, Steps p.tables e below (T'.setTop (mkF m 29 #[.val (.ref a1), .val (.int (Int32.ofNat j)), .val (.int (Int32.ofNat cs.length))] [])) target → Steps p.tables e below (T0.setTop (mkF m 7 #[.val (.ref a1), .val (.int (Int32.ofNat i)), .val (.int (Int32.ofNat cs.length))] [])) target := by
  have hjl : j ≤ cs.length := by rcases hst with q | q <;> omega
  induction f with
  | zero =>
    intro i hin T0 L0 X0 e0 N0
    have hie : j = i := by omega
    rcases hst with hn | ⟨hi', hnb'⟩
    · have hn2 : i = cs.length := by omega
      refine ⟨T0, _, X0, e0, N0, fun target kt => ?_⟩
      have kq : Steps p.tables e below (T0.setTop (mkF m 29 #[.val (.ref a1), .val (.int (Int32.ofNat i)), .val (.int (Int32.ofNat cs.length))] [])) target := by rw [← hie]; exact kt
      show Steps p.tables e below (T0.setTop (mkF m 7 #[.val (.ref a1), .val (.int (Int32.ofNat i)), .val (.int (Int32.ofNat cs.length))] [])) _
      refine XS.iloadN X0.here hx rfl (hb hby d5_7) rfl ?_
      refine XS.iloadN X0.here hx rfl (hb hby d5_8) rfl ?_
      refine XS.icmpYes X0.here hx rfl (pc0 := 9) (pc' := 29) rfl (hb hby d5_9) rfl (flt (own_xle (by omega) (by omega))).2.1 (by decide) (by decide) ?_
      exact kq
    · have hi : i < cs.length := by omega
      have hnb : ¬ (cs.getD i 0 = (32 : Int32) ∨ cs.getD i 0 = (9 : Int32) ∨ cs.getD i 0 = (13 : Int32)) := by rw [← hie]; exact hnb'
      obtain ⟨cq1, kz1, q1a, q1b, q1c⟩ := isOf hZ e0 (own_Sexa T)
      obtain ⟨_, _, ⟨T1, Lq1, kq1, nq1⟩, -, X1, ⟨Lc1, hQ1, lq1, yq1, zq1⟩, st1⟩ := X0.virtualBack hx (y := (⟨"java/lang/String", "charAt", "(I)C"⟩ : MethodName)) (z := (⟨"java/lang/String", "charAt", "(I)C"⟩ : MethodName)) hown (mvT hZ (hw _ (own_w 67 rfl))) (mvT hZ (hw _ (own_w 68 rfl))) (notFace_of_selects (args := #[]) (mvT hZ (hw _ (own_w 70 rfl)))) (mvT hZ (hw _ (own_w 70 rfl))) (mvT hZ (hw _ (own_w 69 rfl))) (by decide) (backOf (W := 0) (rCh l Z a0 hw [] a1 (Int32.ofNat i) cs (i) G1 gv h0 n0 Z0 X00 O_S hgv O_2 P5 O_A O_H O_W T rfl hi hL hcs) hZ (hw _ (own_w 71 rfl)) (hw _ (own_w 8 rfl)) (Nat.le_trans (by decide) hRf) (Nat.le_trans (by decide) hRl)) q1a q1c (g := (mkF m 14 #[.val (.ref a1), .val (.int (Int32.ofNat i)), .val (.int (Int32.ofNat cs.length))] [(.int (Int32.ofNat i)), (.ref a1)])) rfl (by rw [hml]; rfl) (Steps.refl _) (argsL := [(.int (Int32.ofNat i))]) (rest := []) (lenOf pd_26 rfl) rfl (by show 2 * 0 + _ ≤ _; exact Nat.le_of_eq rfl) (hb hby d5_14) (fun _ _ => ⟨rfl, e0, hRc, hRs⟩)
      dsimp only [Pt.U, Pt.locs, Pt.cells, Pt.slots] at X1 lq1 yq1 zq1 st1 hQ1
      subst lq1 yq1 zq1
      obtain ⟨r1, hr1, rfl, N1q, e1⟩ := hQ1
      have N1 := Fr.app N0 N1q
      obtain ⟨_, _, ⟨T2, Lq2, kq2, nq2⟩, -, X2, ⟨Lc2, hQ2, lq2, yq2, zq2⟩, st2⟩ := Jvm.LawKit.callS X1 hx (y := (⟨"com/example/wrasse/wrasse/io/CorrectionFormat", "isBlank", "(C)Z"⟩ : MethodName)) hown (mvT hZ (hw _ (own_w 89 rfl))) (mvT hZ (hw _ (own_w 90 rfl))) (mvT hZ (hw _ (own_w 29 rfl))) (mvT hZ (hw _ (own_w 91 rfl))) (by decide) (backOf (W := 0) (rIb l Z a0 hw [] r1  h0 n0 Z0 ) hZ (hw _ (own_w 91 rfl)) (hw _ (own_w 29 rfl)) (Nat.le_trans (by decide) hRf) (Nat.le_trans (by decide) hRl)) (g := (mkF m 17 #[.val (.ref a1), .val (.int (Int32.ofNat i)), .val (.int (Int32.ofNat cs.length))] [(.int r1)])) rfl (by rw [hml]; rfl) (argsL := [(.int r1)]) (rest := []) (lenOf pd_27 rfl) rfl (by show 2 * 0 + _ ≤ _; exact Nat.le_of_eq rfl) (hb hby d5_17) (fun _ _ => ⟨rfl, e1, hRc, hRs⟩)
      dsimp only [Pt.U, Pt.locs, Pt.cells, Pt.slots] at X2 lq2 yq2 zq2 st2 hQ2
      subst lq2 yq2 zq2
      obtain ⟨r2, hr2, rfl, N2q, e2⟩ := hQ2
      have N2 := Fr.app N1 N2q
      refine ⟨T2, _, X2, e2, N2, fun target kt => ?_⟩
      have kq : Steps p.tables e below (T2.setTop (mkF m 29 #[.val (.ref a1), .val (.int (Int32.ofNat i)), .val (.int (Int32.ofNat cs.length))] [])) target := by rw [← hie]; exact kt
      show Steps p.tables e below (T0.setTop (mkF m 7 #[.val (.ref a1), .val (.int (Int32.ofNat i)), .val (.int (Int32.ofNat cs.length))] [])) _
      refine XS.iloadN X0.here hx rfl (hb hby d5_7) rfl ?_
      refine XS.iloadN X0.here hx rfl (hb hby d5_8) rfl ?_
      refine XS.icmpNo X0.here hx rfl (hb hby d5_9) rfl (tlt ((own_xlt (by omega) (by omega)).mpr hi)).2.1 ?_
      refine XS.aloadN X0.here hx rfl (hb hby d5_12) rfl rfl ?_
      refine XS.iloadN X0.here hx rfl (hb hby d5_13) rfl ?_
      refine st1.trans ?_
      refine st2 _ ?_
      refine XS.ifYes X2.here hx rfl (pc0 := 20) (pc' := 29) rfl (hb hby d5_20) rfl ((if0 _ _).trans (teq (by rw [hr2, hr1]; exact if_neg hnb)).1) (by decide) (by decide) ?_
      exact kq
  | succ f ih =>
    intro i hin T0 L0 X0 e0 N0
    have hi : i < cs.length := by omega
    have hbl := hbf i (by omega)
    obtain ⟨cq1, kz1, q1a, q1b, q1c⟩ := isOf hZ e0 (own_Sexa T)
    obtain ⟨_, _, ⟨T1, Lq1, kq1, nq1⟩, -, X1, ⟨Lc1, hQ1, lq1, yq1, zq1⟩, st1⟩ := X0.virtualBack hx (y := (⟨"java/lang/String", "charAt", "(I)C"⟩ : MethodName)) (z := (⟨"java/lang/String", "charAt", "(I)C"⟩ : MethodName)) hown (mvT hZ (hw _ (own_w 67 rfl))) (mvT hZ (hw _ (own_w 68 rfl))) (notFace_of_selects (args := #[]) (mvT hZ (hw _ (own_w 70 rfl)))) (mvT hZ (hw _ (own_w 70 rfl))) (mvT hZ (hw _ (own_w 69 rfl))) (by decide) (backOf (W := 0) (rCh l Z a0 hw [] a1 (Int32.ofNat i) cs (i) G1 gv h0 n0 Z0 X00 O_S hgv O_2 P5 O_A O_H O_W T rfl hi hL hcs) hZ (hw _ (own_w 71 rfl)) (hw _ (own_w 8 rfl)) (Nat.le_trans (by decide) hRf) (Nat.le_trans (by decide) hRl)) q1a q1c (g := (mkF m 14 #[.val (.ref a1), .val (.int (Int32.ofNat i)), .val (.int (Int32.ofNat cs.length))] [(.int (Int32.ofNat i)), (.ref a1)])) rfl (by rw [hml]; rfl) (Steps.refl _) (argsL := [(.int (Int32.ofNat i))]) (rest := []) (lenOf pd_26 rfl) rfl (by show 2 * 0 + _ ≤ _; exact Nat.le_of_eq rfl) (hb hby d5_14) (fun _ _ => ⟨rfl, e0, hRc, hRs⟩)
    dsimp only [Pt.U, Pt.locs, Pt.cells, Pt.slots] at X1 lq1 yq1 zq1 st1 hQ1
    subst lq1 yq1 zq1
    obtain ⟨r1, hr1, rfl, N1q, e1⟩ := hQ1
    have N1 := Fr.app N0 N1q
    obtain ⟨_, _, ⟨T2, Lq2, kq2, nq2⟩, -, X2, ⟨Lc2, hQ2, lq2, yq2, zq2⟩, st2⟩ := Jvm.LawKit.callS X1 hx (y := (⟨"com/example/wrasse/wrasse/io/CorrectionFormat", "isBlank", "(C)Z"⟩ : MethodName)) hown (mvT hZ (hw _ (own_w 89 rfl))) (mvT hZ (hw _ (own_w 90 rfl))) (mvT hZ (hw _ (own_w 29 rfl))) (mvT hZ (hw _ (own_w 91 rfl))) (by decide) (backOf (W := 0) (rIb l Z a0 hw [] r1  h0 n0 Z0 ) hZ (hw _ (own_w 91 rfl)) (hw _ (own_w 29 rfl)) (Nat.le_trans (by decide) hRf) (Nat.le_trans (by decide) hRl)) (g := (mkF m 17 #[.val (.ref a1), .val (.int (Int32.ofNat i)), .val (.int (Int32.ofNat cs.length))] [(.int r1)])) rfl (by rw [hml]; rfl) (argsL := [(.int r1)]) (rest := []) (lenOf pd_27 rfl) rfl (by show 2 * 0 + _ ≤ _; exact Nat.le_of_eq rfl) (hb hby d5_17) (fun _ _ => ⟨rfl, e1, hRc, hRs⟩)
    dsimp only [Pt.U, Pt.locs, Pt.cells, Pt.slots] at X2 lq2 yq2 zq2 st2 hQ2
    subst lq2 yq2 zq2
    obtain ⟨r2, hr2, rfl, N2q, e2⟩ := hQ2
    have N2 := Fr.app N1 N2q
    obtain ⟨T', L', X', e', N', st'⟩ := ih (i + 1) (by omega) T2 _ X2 e2 N2
    refine ⟨T', L', X', e', N', fun target kt => ?_⟩
    have kq := st' target kt
    rw [← own_xs (show i < 16 by omega)] at kq
    refine XS.iloadN X0.here hx rfl (hb hby d5_7) rfl ?_
    refine XS.iloadN X0.here hx rfl (hb hby d5_8) rfl ?_
    refine XS.icmpNo X0.here hx rfl (hb hby d5_9) rfl (tlt ((own_xlt (by omega) (by omega)).mpr hi)).2.1 ?_
    refine XS.aloadN X0.here hx rfl (hb hby d5_12) rfl rfl ?_
    refine XS.iloadN X0.here hx rfl (hb hby d5_13) rfl ?_
    refine st1.trans ?_
    refine st2 _ ?_
    refine XS.ifNo X2.here hx rfl (hb hby d5_20) rfl ((if0 _ _).trans (feq (by rw [hr2, hr1, if_pos hbl]; decide)).1) ?_
    refine XS.iinc X2.here hx rfl (hb hby d5_23) rfl (l' := #[.val (.ref a1), .val (.int ((Int32.ofNat i) + (1 : Int32))), .val (.int (Int32.ofNat cs.length))]) rfl ?_
    refine XS.goto X2.here hx rfl (pc0 := 26) (pc' := 7) rfl (hb hby d5_26) (by decide) (by decide) ?_
    exact kq
theorem d5_29 : decode prog_8_method_2_code 29 = .ok (.iload_n 2, 1) := by decide +kernel
theorem d5_30 : decode prog_8_method_2_code 30 = .ok (.iload_n 1, 1) := by decide +kernel
theorem d5_31 : decode prog_8_method_2_code 31 = .ok (.if_icmp .le 22, 3) := by decide +kernel
theorem d5_34 : decode prog_8_method_2_code 34 = .ok (.aload_n 0, 1) := by decide +kernel
theorem d5_35 : decode prog_8_method_2_code 35 = .ok (.iload_n 2, 1) := by decide +kernel
theorem d5_36 : decode prog_8_method_2_code 36 = .ok (.iconst 1, 1) := by decide +kernel
theorem d5_37 : decode prog_8_method_2_code 37 = .ok (.isub, 1) := by decide +kernel
theorem d5_38 : decode prog_8_method_2_code 38 = .ok (.invokevirtual 20, 3) := by decide +kernel
theorem d5_41 : decode prog_8_method_2_code 41 = .ok (.invokestatic 24, 3) := by decide +kernel
theorem d5_44 : decode prog_8_method_2_code 44 = .ok (.ifCond .eq 9, 3) := by decide +kernel
theorem d5_47 : decode prog_8_method_2_code 47 = .ok (.iinc 2 (-1), 3) := by decide +kernel
theorem d5_50 : decode prog_8_method_2_code 50 = .ok (.goto (-21), 3) := by decide +kernel
set_option maxRecDepth 65536 in
set_option maxHeartbeats 40000000 in
theorem own_w2 {p : Program} {l : Launch} {e : Env} {R : Room} {s : State} {m : MethodId} {args : Array Value} {below : List Frame} {meth : Method} {c : Code} {cells slots : Nat} {Z : State} {a0 : Array Value} {n0 : Nat} {cs : List Int32} {a1 : Addr} {j en : Nat} {G1 : Int32} {gv : Value} {h0 : Heap} (hRf : 5 ≤ R.frames) (hRl : 66 ≤ R.locals) (hRc : cells ≤ R.cells) (hRs : slots ≤ R.slots) (hx : p.tables.exec = Jvm.exec) (hZ : Z.Warmed39 s.vm) (hw : ∀ d ∈ tables_1, d.before a0 Z = true) (hby : c.code = prog_8_method_2_code) (hml : c.maxLocals = 3) (hown : s.vm.findClass "com/example/wrasse/wrasse/io/CorrectionFormat" = some m.cls) (hL : cs.length < 8) (X00 : Old Z n0 h0) (O_S : Sta Z Z.heap "jdk/internal/util/Preconditions" "SIOOBE_FORMATTER" "Ljava/util/function/BiFunction;" gv) (hgv : gv.isRef = true) (O_2 : Sta Z Z.heap "java/lang/String" "COMPACT_STRINGS" "Z" (.int G1)) (P5 : ¬ (G1 = (0 : Int32))) (O_A : Sta Z Z.heap "java/lang/StringUTF16" "$assertionsDisabled" "Z" (.int (1 : Int32))) (O_H : Sta Z Z.heap "java/lang/StringUTF16" "HI_BYTE_SHIFT" "I" (.int (0 : Int32))) (O_W : Sta Z Z.heap "java/lang/StringUTF16" "LO_BYTE_SHIFT" "I" (.int (8 : Int32)))  (Z0 : n0 ≤ h0.size) (T : own_S Z h0 a1 cs) (hcs : ∀ c ∈ cs, own_ch c) (hje : j ≤ en) (hst : j = en ∨ (j < en ∧ ¬ (cs.getD (en - 1) 0 = (32 : Int32) ∨ cs.getD (en - 1) 0 = (9 : Int32) ∨ cs.getD (en - 1) 0 = (13 : Int32)))) (hbf : ∀ k, en ≤ k → k < cs.length → (cs.getD k 0 = (32 : Int32) ∨ cs.getD k 0 = (9 : Int32) ∨ cs.getD k 0 = (13 : Int32))) (f : Nat) :
    en + f ≤ cs.length → ∀ (T0 : State) (L0 : List Loc), Stand p l e R s m args below meth c T0 L0 cells slots → T0.heap = h0 → Fr n0 L0 →
    ∃ (T' : State) (L' : List Loc), Stand p l e R s m args below meth c T' L' cells slots ∧ T'.heap = h0 ∧ Fr n0 L' ∧ ∀ target, Steps p.tables e below (T'.setTop (mkF m 53 #[.val (.ref a1), .val (.int (Int32.ofNat j)), .val (.int (Int32.ofNat en))] [])) target → Steps p.tables e below (T0.setTop (mkF m 29 #[.val (.ref a1), .val (.int (Int32.ofNat j)), .val (.int (Int32.ofNat (en + f)))] [])) target := by
  induction f with
  | zero =>
    intro hin T0 L0 X0 e0 N0
    rcases hst with hn | ⟨hi, hnb⟩
    · skip
      refine ⟨T0, _, X0, e0, N0, fun target kt => ?_⟩
      refine XS.iloadN X0.here hx rfl (hb hby d5_29) rfl ?_
      refine XS.iloadN X0.here hx rfl (hb hby d5_30) rfl ?_
      refine XS.icmpYes X0.here hx rfl (pc0 := 31) (pc' := 53) rfl (hb hby d5_31) rfl (flt (own_xle (by omega) (by omega))).2.2.2 (by decide) (by decide) ?_
      exact kt
    · skip
      obtain ⟨cq1, kz1, q1a, q1b, q1c⟩ := isOf hZ e0 (own_Sexa T)
      obtain ⟨_, _, ⟨T1, Lq1, kq1, nq1⟩, -, X1, ⟨Lc1, hQ1, lq1, yq1, zq1⟩, st1⟩ := X0.virtualBack hx (y := (⟨"java/lang/String", "charAt", "(I)C"⟩ : MethodName)) (z := (⟨"java/lang/String", "charAt", "(I)C"⟩ : MethodName)) hown (mvT hZ (hw _ (own_w 67 rfl))) (mvT hZ (hw _ (own_w 68 rfl))) (notFace_of_selects (args := #[]) (mvT hZ (hw _ (own_w 70 rfl)))) (mvT hZ (hw _ (own_w 70 rfl))) (mvT hZ (hw _ (own_w 69 rfl))) (by decide) (backOf (W := 0) (rCh l Z a0 hw [] a1 (Int32.ofNat (en - 1)) cs (en - 1) G1 gv h0 n0 Z0 X00 O_S hgv O_2 P5 O_A O_H O_W T rfl (by omega) hL hcs) hZ (hw _ (own_w 71 rfl)) (hw _ (own_w 8 rfl)) (Nat.le_trans (by decide) hRf) (Nat.le_trans (by decide) hRl)) q1a q1c (g := (mkF m 38 #[.val (.ref a1), .val (.int (Int32.ofNat j)), .val (.int (Int32.ofNat en))] [(.int (Int32.ofNat (en - 1))), (.ref a1)])) rfl (by rw [hml]; rfl) (Steps.refl _) (argsL := [(.int (Int32.ofNat (en - 1)))]) (rest := []) (lenOf pd_26 rfl) rfl (by show 2 * 0 + _ ≤ _; exact Nat.le_of_eq rfl) (hb hby d5_38) (fun _ _ => ⟨rfl, e0, hRc, hRs⟩)
      dsimp only [Pt.U, Pt.locs, Pt.cells, Pt.slots] at X1 lq1 yq1 zq1 st1 hQ1
      subst lq1 yq1 zq1
      obtain ⟨r1, hr1, rfl, N1q, e1⟩ := hQ1
      have N1 := Fr.app N0 N1q
      obtain ⟨_, _, ⟨T2, Lq2, kq2, nq2⟩, -, X2, ⟨Lc2, hQ2, lq2, yq2, zq2⟩, st2⟩ := Jvm.LawKit.callS X1 hx (y := (⟨"com/example/wrasse/wrasse/io/CorrectionFormat", "isBlank", "(C)Z"⟩ : MethodName)) hown (mvT hZ (hw _ (own_w 89 rfl))) (mvT hZ (hw _ (own_w 90 rfl))) (mvT hZ (hw _ (own_w 29 rfl))) (mvT hZ (hw _ (own_w 91 rfl))) (by decide) (backOf (W := 0) (rIb l Z a0 hw [] r1  h0 n0 Z0 ) hZ (hw _ (own_w 91 rfl)) (hw _ (own_w 29 rfl)) (Nat.le_trans (by decide) hRf) (Nat.le_trans (by decide) hRl)) (g := (mkF m 41 #[.val (.ref a1), .val (.int (Int32.ofNat j)), .val (.int (Int32.ofNat en))] [(.int r1)])) rfl (by rw [hml]; rfl) (argsL := [(.int r1)]) (rest := []) (lenOf pd_27 rfl) rfl (by show 2 * 0 + _ ≤ _; exact Nat.le_of_eq rfl) (hb hby d5_41) (fun _ _ => ⟨rfl, e1, hRc, hRs⟩)
      dsimp only [Pt.U, Pt.locs, Pt.cells, Pt.slots] at X2 lq2 yq2 zq2 st2 hQ2
      subst lq2 yq2 zq2
      obtain ⟨r2, hr2, rfl, N2q, e2⟩ := hQ2
      have N2 := Fr.app N1 N2q
      refine ⟨T2, _, X2, e2, N2, fun target kt => ?_⟩
      refine XS.iloadN X0.here hx rfl (hb hby d5_29) rfl ?_
      refine XS.iloadN X0.here hx rfl (hb hby d5_30) rfl ?_
      refine XS.icmpNo X0.here hx rfl (hb hby d5_31) rfl (tlt ((own_xlt (by omega) (by omega)).mpr (by omega))).2.2.2 ?_
      refine XS.aloadN X0.here hx rfl (hb hby d5_34) rfl rfl ?_
      refine XS.iloadN X0.here hx rfl (hb hby d5_35) rfl ?_
      refine XS.iconst X0.here hx rfl (hb hby d5_36) ?_
      refine XS.isub X0.here hx rfl (hb hby d5_37) rfl ?_
      show Steps p.tables e below (T0.setTop (mkF m 38 #[.val (.ref a1), .val (.int (Int32.ofNat j)), .val (.int (Int32.ofNat en))] [(.int ((Int32.ofNat en) - (1 : Int32))), (.ref a1)])) _
      rw [(own_xd (by omega) (by omega))]
      refine st1.trans ?_
      refine st2 _ ?_
      refine XS.ifYes X2.here hx rfl (pc0 := 44) (pc' := 53) rfl (hb hby d5_44) rfl ((if0 _ _).trans (teq (by rw [hr2, hr1]; exact if_neg hnb)).1) (by decide) (by decide) ?_
      exact kt
  | succ f ih =>
    intro hin T0 L0 X0 e0 N0
    have hbl := hbf (en + f) (by omega) (by omega)
    obtain ⟨cq1, kz1, q1a, q1b, q1c⟩ := isOf hZ e0 (own_Sexa T)
    obtain ⟨_, _, ⟨T1, Lq1, kq1, nq1⟩, -, X1, ⟨Lc1, hQ1, lq1, yq1, zq1⟩, st1⟩ := X0.virtualBack hx (y := (⟨"java/lang/String", "charAt", "(I)C"⟩ : MethodName)) (z := (⟨"java/lang/String", "charAt", "(I)C"⟩ : MethodName)) hown (mvT hZ (hw _ (own_w 67 rfl))) (mvT hZ (hw _ (own_w 68 rfl))) (notFace_of_selects (args := #[]) (mvT hZ (hw _ (own_w 70 rfl)))) (mvT hZ (hw _ (own_w 70 rfl))) (mvT hZ (hw _ (own_w 69 rfl))) (by decide) (backOf (W := 0) (rCh l Z a0 hw [] a1 (Int32.ofNat (en + f)) cs (en + f) G1 gv h0 n0 Z0 X00 O_S hgv O_2 P5 O_A O_H O_W T rfl (by omega) hL hcs) hZ (hw _ (own_w 71 rfl)) (hw _ (own_w 8 rfl)) (Nat.le_trans (by decide) hRf) (Nat.le_trans (by decide) hRl)) q1a q1c (g := (mkF m 38 #[.val (.ref a1), .val (.int (Int32.ofNat j)), .val (.int (Int32.ofNat (en + (f + 1))))] [(.int (Int32.ofNat (en + f))), (.ref a1)])) rfl (by rw [hml]; rfl) (Steps.refl _) (argsL := [(.int (Int32.ofNat (en + f)))]) (rest := []) (lenOf pd_26 rfl) rfl (by show 2 * 0 + _ ≤ _; exact Nat.le_of_eq rfl) (hb hby d5_38) (fun _ _ => ⟨rfl, e0, hRc, hRs⟩)
    dsimp only [Pt.U, Pt.locs, Pt.cells, Pt.slots] at X1 lq1 yq1 zq1 st1 hQ1
    subst lq1 yq1 zq1
    obtain ⟨r1, hr1, rfl, N1q, e1⟩ := hQ1
    have N1 := Fr.app N0 N1q
    obtain ⟨_, _, ⟨T2, Lq2, kq2, nq2⟩, -, X2, ⟨Lc2, hQ2, lq2, yq2, zq2⟩, st2⟩ := Jvm.LawKit.callS X1 hx (y := (⟨"com/example/wrasse/wrasse/io/CorrectionFormat", "isBlank", "(C)Z"⟩ : MethodName)) hown (mvT hZ (hw _ (own_w 89 rfl))) (mvT hZ (hw _ (own_w 90 rfl))) (mvT hZ (hw _ (own_w 29 rfl))) (mvT hZ (hw _ (own_w 91 rfl))) (by decide) (backOf (W := 0) (rIb l Z a0 hw [] r1  h0 n0 Z0 ) hZ (hw _ (own_w 91 rfl)) (hw _ (own_w 29 rfl)) (Nat.le_trans (by decide) hRf) (Nat.le_trans (by decide) hRl)) (g := (mkF m 41 #[.val (.ref a1), .val (.int (Int32.ofNat j)), .val (.int (Int32.ofNat (en + (f + 1))))] [(.int r1)])) rfl (by rw [hml]; rfl) (argsL := [(.int r1)]) (rest := []) (lenOf pd_27 rfl) rfl (by show 2 * 0 + _ ≤ _; exact Nat.le_of_eq rfl) (hb hby d5_41) (fun _ _ => ⟨rfl, e1, hRc, hRs⟩)
    dsimp only [Pt.U, Pt.locs, Pt.cells, Pt.slots] at X2 lq2 yq2 zq2 st2 hQ2
    subst lq2 yq2 zq2
    obtain ⟨r2, hr2, rfl, N2q, e2⟩ := hQ2
    have N2 := Fr.app N1 N2q
    obtain ⟨T', L', X', e', N', st'⟩ := ih (by omega) T2 _ X2 e2 N2
    refine ⟨T', L', X', e', N', fun target kt => ?_⟩
    have kq := st' target kt
    rw [← own_xm1 (show en + f < 16 by omega)] at kq
    refine XS.iloadN X0.here hx rfl (hb hby d5_29) rfl ?_
    refine XS.iloadN X0.here hx rfl (hb hby d5_30) rfl ?_
    refine XS.icmpNo X0.here hx rfl (hb hby d5_31) rfl (tlt ((own_xlt (by omega) (by omega)).mpr (by omega))).2.2.2 ?_
    refine XS.aloadN X0.here hx rfl (hb hby d5_34) rfl rfl ?_
    refine XS.iloadN X0.here hx rfl (hb hby d5_35) rfl ?_
    refine XS.iconst X0.here hx rfl (hb hby d5_36) ?_
    refine XS.isub X0.here hx rfl (hb hby d5_37) rfl ?_
    show Steps p.tables e below (T0.setTop (mkF m 38 #[.val (.ref a1), .val (.int (Int32.ofNat j)), .val (.int (Int32.ofNat (en + (f + 1))))] [(.int ((Int32.ofNat (en + (f + 1))) - (1 : Int32))), (.ref a1)])) _
    rw [(show Int32.ofNat (en + (f + 1)) - (1 : Int32) = Int32.ofNat (en + f) from own_xd1 (i := en + f) (by omega))]
    refine st1.trans ?_
    refine st2 _ ?_
    refine XS.ifNo X2.here hx rfl (hb hby d5_44) rfl ((if0 _ _).trans (feq (by rw [hr2, hr1, if_pos hbl]; decide)).1) ?_
    refine XS.iinc X2.here hx rfl (hb hby d5_47) rfl (l' := #[.val (.ref a1), .val (.int (Int32.ofNat j)), .val (.int ((Int32.ofNat (en + (f + 1))) + (-1 : Int32)))]) rfl ?_
    refine XS.goto X2.here hx rfl (pc0 := 50) (pc' := 29) rfl (hb hby d5_50) (by decide) (by decide) ?_
    exact kq
theorem pd_28 : parseMethodDescriptor "()Ljava/util/Optional;" = some ⟨[], some (.object "java/util/Optional")⟩ := by decide +kernel
theorem d5_0 : decode prog_8_method_2_code 0 = .ok (.iconst 0, 1) := by decide +kernel
theorem d5_1 : decode prog_8_method_2_code 1 = .ok (.istore_n 1, 1) := by decide +kernel
theorem d5_2 : decode prog_8_method_2_code 2 = .ok (.aload_n 0, 1) := by decide +kernel
theorem d5_3 : decode prog_8_method_2_code 3 = .ok (.invokevirtual 14, 3) := by decide +kernel
theorem d5_6 : decode prog_8_method_2_code 6 = .ok (.istore_n 2, 1) := by decide +kernel
theorem d5_53 : decode prog_8_method_2_code 53 = .ok (.iload_n 1, 1) := by decide +kernel
theorem d5_54 : decode prog_8_method_2_code 54 = .ok (.iload_n 2, 1) := by decide +kernel
theorem d5_55 : decode prog_8_method_2_code 55 = .ok (.if_icmp .ne 9, 3) := by decide +kernel
theorem d5_58 : decode prog_8_method_2_code 58 = .ok (.invokestatic 30, 3) := by decide +kernel
theorem d5_61 : decode prog_8_method_2_code 61 = .ok (.goto 12, 3) := by decide +kernel
theorem d5_73 : decode prog_8_method_2_code 73 = .ok (.areturn, 1) := by decide +kernel
theorem pn_5 : plainName "com/example/wrasse/wrasse/io/CorrectionFormat" = true := by first | (simp [plainName, overriddenIn]; done) | decide +kernel
theorem ef_rWe (m : MethodId) (a1 : Addr) : entryFrame m #[(.ref a1)] 3 = mkF m 0 #[.val (.ref a1), .unset, .unset] [] := by first | (simp [entryFrame, mkF, argsToLocals, Value.category]; done) | rfl
def QrWe (Z : State) (a1 : Addr) (cs : List Int32) (G1 : Int32) (gv : Value) (eo : Addr) (h0 : Heap) (n0 : Nat) (v : Option Value) (h : Heap) (L : List Loc) : Prop := v = some (.ref eo) ∧ Fr n0 L ∧ h = h0
set_option maxRecDepth 65536 in
set_option maxHeartbeats 40000000 in
theorem rWe (l : Launch) (Z : State) (a0 : Array Value) (hw : ∀ d ∈ tables_1, d.before a0 Z = true) (ws : List Jvm.Cond) (a1 : Addr) (cs : List Int32) (G1 : Int32) (gv : Value) (eo : Addr) (h0 : Heap) (n0 : Nat) (Z0 : n0 ≤ h0.size) (X00 : Old Z n0 h0) (O_S : Sta Z Z.heap "jdk/internal/util/Preconditions" "SIOOBE_FORMATTER" "Ljava/util/function/BiFunction;" gv) (hgv : gv.isRef = true) (O_2 : Sta Z Z.heap "java/lang/String" "COMPACT_STRINGS" "Z" (.int G1)) (P5 : ¬ (G1 = (0 : Int32))) (O_A : Sta Z Z.heap "java/lang/StringUTF16" "$assertionsDisabled" "Z" (.int (1 : Int32))) (O_H : Sta Z Z.heap "java/lang/StringUTF16" "HI_BYTE_SHIFT" "I" (.int (0 : Int32))) (O_W : Sta Z Z.heap "java/lang/StringUTF16" "LO_BYTE_SHIFT" "I" (.int (8 : Int32))) (T : own_S Z h0 a1 cs) (hL : cs.length < 8) (hcs : ∀ c ∈ cs, own_ch c) (hbf : ∀ k, k < cs.length → (cs.getD k 0 = (32 : Int32) ∨ cs.getD k 0 = (9 : Int32) ∨ cs.getD k 0 = (13 : Int32))) (O_E : Sta Z Z.heap "java/util/Optional" "EMPTY" "Ljava/util/Optional;" (.ref eo)) :
    MetFree l (⟨"com/example/wrasse/wrasse/io/CorrectionFormat", "wordOf", "(Ljava/lang/String;)Ljava/util/Optional;"⟩ : MethodName) (head1 (Jvm.Cond.code (⟨"com/example/wrasse/wrasse/io/CorrectionFormat", "wordOf", "(Ljava/lang/String;)Ljava/util/Optional;"⟩ : MethodName) prog_8_method_2_code 3 (some (.object "java/util/Optional")) :: ws) ({ frames := 5, cells := 0, slots := 0, locals := 66 } : Room)) (fun a U => a = #[(.ref a1)] ∧ Z.Warmed39 U.vm ∧ U.heap = h0) (fun _ _ _ _ _ => True) (fun _ U o U' => ∃ v L, o = .returned v ∧ QrWe Z a1 cs G1 gv eo h0 n0 v U'.heap L ∧ FrameEnd U o U' L ({ frames := 5, cells := 0, slots := 0, locals := 66 } : Room).cells ({ frames := 5, cells := 0, slots := 0, locals := 66 } : Room).slots) := by
  refine MetFree.of_bodySF (plainFor_of_name pn_5) hisR ?_
  intro p e s m args below meth c s₁ Bd hml0 hP hK
  obtain ⟨rfl, hZ, hh⟩ := hP
  have hx := Bd.exec
  have hby := Bd.bytes
  have hml : c.maxLocals = 3 := hml0
  have hown : s.vm.findClass "com/example/wrasse/wrasse/io/CorrectionFormat" = some m.cls := findClass_of_methodNamed Bd.named
  have hnm := (name_of_methodNamed Bd.named Bd.method).1
  have X0 : Stand p l e ({ frames := 5, cells := 0, slots := 0, locals := 66 } : Room) s m #[(.ref a1)] below meth c s₁ [] 0 0 := Stand.of_body Bd
  have e0 : s₁.heap = h0 := by rw [← hh, Bd.state]; rfl
  have N0 := Fr.nil n0
  have pre0 : ∀ t, Steps p.tables e below (s₁.setTop (mkF m 0 #[.val (.ref a1), .unset, .unset] [])) t → Steps p.tables e below (s₁.setTop (entryFrame m #[(.ref a1)] 3)) t := fun t k => castTop (ef_rWe m a1) k
  obtain ⟨cq1, kz1, q1a, q1b, q1c⟩ := isOf hZ e0 (own_Sexa T)
  obtain ⟨_, _, ⟨T1, Lq1, kq1, nq1⟩, -, X1, ⟨Lc1, hQ1, lq1, yq1, zq1⟩, st1⟩ := X0.virtualBack hx (y := (⟨"java/lang/String", "length", "()I"⟩ : MethodName)) (z := (⟨"java/lang/String", "length", "()I"⟩ : MethodName)) hown (mvT hZ (hw _ (own_w 31 rfl))) (mvT hZ (hw _ (own_w 32 rfl))) (notFace_of_selects (args := #[]) (mvT hZ (hw _ (own_w 34 rfl)))) (mvT hZ (hw _ (own_w 34 rfl))) (mvT hZ (hw _ (own_w 33 rfl))) (by decide) (backOf (W := 0) (rLe l Z a0 hw [] a1 cs G1 h0 n0 Z0 X00 O_2 P5 T hL) hZ (hw _ (own_w 35 rfl)) (hw _ (own_w 8 rfl)) (by decide) (by decide)) q1a q1c (g := (mkF m 3 #[.val (.ref a1), .val (.int (0 : Int32)), .unset] [(.ref a1)])) rfl (by rw [hml]; rfl) (Steps.refl _) (argsL := []) (rest := []) (lenOf pd_21 rfl) rfl (by show 2 * 0 + _ ≤ _; exact Nat.le_of_eq rfl) (hb hby d5_3) (fun _ _ => ⟨rfl, e0, (by decide : 0 + 0 ≤ _), (by decide : 0 + 0 ≤ _)⟩)
  dsimp only [Pt.U, Pt.locs, Pt.cells, Pt.slots] at X1 lq1 yq1 zq1 st1 hQ1
  subst lq1 yq1 zq1
  obtain ⟨r1, hr1, rfl, N1q, e1⟩ := hQ1
  have N1 := Fr.app N0 N1q
  obtain ⟨T2, L2, X2, e2, N2, st2⟩ := own_w1 (by decide) (by decide) (by decide) (by decide) hx hZ hw hby hml hown hL X00 O_S hgv O_2 P5 O_A O_H O_W Z0 T hcs hbf (Or.inl rfl) (cs.length) 0 (by omega) _ _ X1 e1 N1
  obtain ⟨_, _, ⟨T3, Lq3, kq3, nq3⟩, -, X3, ⟨Lc3, hQ3, lq3, yq3, zq3⟩, st3⟩ := Jvm.LawKit.callS X2 hx (y := (⟨"java/util/Optional", "empty", "()Ljava/util/Optional;"⟩ : MethodName)) hown (mvT hZ (hw _ (own_w 42 rfl))) (mvT hZ (hw _ (own_w 43 rfl))) (mvT hZ (hw _ (own_w 44 rfl))) (mvT hZ (hw _ (own_w 45 rfl))) (by decide) (backOf (W := 0) (rOe l Z a0 hw []  eo h0 n0 Z0 X00 O_E) hZ (hw _ (own_w 45 rfl)) (hw _ (own_w 44 rfl)) (by decide) (by decide)) (g := (mkF m 58 #[.val (.ref a1), .val (.int (Int32.ofNat cs.length)), .val (.int (Int32.ofNat cs.length))] [])) rfl (by rw [hml]; rfl) (argsL := []) (rest := []) (lenOf pd_28 rfl) rfl (by show 2 * 0 + _ ≤ _; exact Nat.le_of_eq rfl) (hb hby d5_58) (fun _ _ => ⟨rfl, e2, (by decide : 0 + 0 ≤ _), (by decide : 0 + 0 ≤ _)⟩)
  dsimp only [Pt.U, Pt.locs, Pt.cells, Pt.slots] at X3 lq3 yq3 zq3 st3 hQ3
  subst lq3 yq3 zq3
  obtain ⟨rfl, N3q, e3⟩ := hQ3
  have N3 := Fr.app N2 N3q
  obtain ⟨fs, hr, hrun, hended, hW, hsame⟩ := X3.leave (v := some (.ref eo)) (fun h => by rw [Bd.returns] at h; cases h) (BodyLoose.notSynchronized Bd)
  refine ⟨_, _, pre0 _ ?_, hrun, hended, _, _, rfl, ?_, ⟨_, rfl⟩, hW, hsame.mono (by decide) (by decide)⟩
  · show Steps p.tables e below (s₁.setTop (mkF m 0 #[.val (.ref a1), .unset, .unset] [])) _
    refine XS.iconst X0.here hx rfl (hb hby d5_0) ?_
    refine XS.istoreN X0.here hx rfl (hb hby d5_1) rfl (l' := #[.val (.ref a1), .val (.int (0 : Int32)), .unset]) rfl ?_
    refine XS.aloadN X0.here hx rfl (hb hby d5_2) rfl rfl ?_
    refine st1.trans ?_
    refine XS.istoreN X1.here hx rfl (hb hby d5_6) rfl (l' := #[.val (.ref a1), .val (.int (0 : Int32)), .val (.int r1)]) rfl ?_
    show Steps p.tables e below (T1.setTop (mkF m 7 #[.val (.ref a1), .val (.int (0 : Int32)), .val (.int r1)] [])) _
    rw [hr1]
    refine st2 _ ?_
    refine XS.iloadN X2.here hx rfl (hb hby d5_29) rfl ?_
    refine XS.iloadN X2.here hx rfl (hb hby d5_30) rfl ?_
    refine XS.icmpYes X2.here hx rfl (pc0 := 31) (pc' := 53) rfl (hb hby d5_31) rfl (flt (own_xle (by omega) (by omega))).2.2.2 (by decide) (by decide) ?_
    refine XS.iloadN X2.here hx rfl (hb hby d5_53) rfl ?_
    refine XS.iloadN X2.here hx rfl (hb hby d5_54) rfl ?_
    refine XS.icmpNo X2.here hx rfl (hb hby d5_55) rfl (teq rfl).2 ?_
    refine st3 _ ?_
    refine XS.goto X3.here hx rfl (pc0 := 61) (pc' := 73) rfl (hb hby d5_61) (by decide) (by decide) ?_
    exact X3.areturnOut hx rfl Bd.returns rfl (hb hby d5_73) hr
  · show QrWe Z a1 cs G1 gv eo h0 n0 _ T3.heap _
    exact ⟨rfl, N3, e3⟩
theorem pd_29 : parseMethodDescriptor "(II)Ljava/lang/String;" = some ⟨[.int, .int], some (.object "java/lang/String")⟩ := by decide +kernel
theorem pd_30 : parseMethodDescriptor "(Ljava/lang/Object;)Ljava/util/Optional;" = some ⟨[(.object "java/lang/Object")], some (.object "java/util/Optional")⟩ := by decide +kernel
theorem d5_64 : decode prog_8_method_2_code 64 = .ok (.aload_n 0, 1) := by decide +kernel
theorem d5_65 : decode prog_8_method_2_code 65 = .ok (.iload_n 1, 1) := by decide +kernel
theorem d5_66 : decode prog_8_method_2_code 66 = .ok (.iload_n 2, 1) := by decide +kernel
theorem d5_67 : decode prog_8_method_2_code 67 = .ok (.invokevirtual 36, 3) := by decide +kernel
theorem d5_70 : decode prog_8_method_2_code 70 = .ok (.invokestatic 40, 3) := by decide +kernel
theorem ef_rWp (m : MethodId) (a1 : Addr) : entryFrame m #[(.ref a1)] 3 = mkF m 0 #[.val (.ref a1), .unset, .unset] [] := by first | (simp [entryFrame, mkF, argsToLocals, Value.category]; done) | rfl
def QrWp (Z : State) (a1 : Addr) (cs : List Int32) (G1 : Int32) (gv : Value) (j : Nat) (ct : List Int32) (h0 : Heap) (n0 : Nat) (v : Option Value) (h : Heap) (L : List Loc) : Prop := ∃ (o x : Addr), v = some (.ref o) ∧ Fr n0 L ∧ Keep h0 h [] ∧ Exa Z h o "java/util/Optional" ∧ Fld Z h o "java/util/Optional" "value" "Ljava/lang/Object;" (.ref x) ∧ own_S Z h x ct
set_option maxRecDepth 65536 in
set_option maxHeartbeats 40000000 in
theorem rWp (l : Launch) (Z : State) (a0 : Array Value) (hw : ∀ d ∈ tables_1, d.before a0 Z = true) (ws : List Jvm.Cond) (a1 : Addr) (cs : List Int32) (G1 : Int32) (gv : Value) (j : Nat) (ct : List Int32) (h0 : Heap) (n0 : Nat) (Z0 : n0 ≤ h0.size) (X00 : Old Z n0 h0) (O_S : Sta Z Z.heap "jdk/internal/util/Preconditions" "SIOOBE_FORMATTER" "Ljava/util/function/BiFunction;" gv) (hgv : gv.isRef = true) (O_2 : Sta Z Z.heap "java/lang/String" "COMPACT_STRINGS" "Z" (.int G1)) (P5 : ¬ (G1 = (0 : Int32))) (O_A : Sta Z Z.heap "java/lang/StringUTF16" "$assertionsDisabled" "Z" (.int (1 : Int32))) (O_H : Sta Z Z.heap "java/lang/StringUTF16" "HI_BYTE_SHIFT" "I" (.int (0 : Int32))) (O_W : Sta Z Z.heap "java/lang/StringUTF16" "LO_BYTE_SHIFT" "I" (.int (8 : Int32))) (T : own_S Z h0 a1 cs) (hL : cs.length < 8) (hcs : ∀ c ∈ cs, own_ch c) (hbf : ∀ k, k < j → (cs.getD k 0 = (32 : Int32) ∨ cs.getD k 0 = (9 : Int32) ∨ cs.getD k 0 = (13 : Int32))) (hs : own_sub cs j ct) (hps : 0 < ct.length) (hnb : ¬ (cs.getD j 0 = (32 : Int32) ∨ cs.getD j 0 = (9 : Int32) ∨ cs.getD j 0 = (13 : Int32))) (hnbE : ¬ (cs.getD (j + ct.length - 1) 0 = (32 : Int32) ∨ cs.getD (j + ct.length - 1) 0 = (9 : Int32) ∨ cs.getD (j + ct.length - 1) 0 = (13 : Int32))) (hae : ∀ k, j + ct.length ≤ k → k < cs.length → (cs.getD k 0 = (32 : Int32) ∨ cs.getD k 0 = (9 : Int32) ∨ cs.getD k 0 = (13 : Int32))) :
    MetFree l (⟨"com/example/wrasse/wrasse/io/CorrectionFormat", "wordOf", "(Ljava/lang/String;)Ljava/util/Optional;"⟩ : MethodName) (head1 (Jvm.Cond.code (⟨"com/example/wrasse/wrasse/io/CorrectionFormat", "wordOf", "(Ljava/lang/String;)Ljava/util/Optional;"⟩ : MethodName) prog_8_method_2_code 3 (some (.object "java/util/Optional")) :: ws) ({ frames := 7, cells := 4, slots := 29, locals := 110 } : Room)) (fun a U => a = #[(.ref a1)] ∧ Z.Warmed39 U.vm ∧ U.heap = h0) (fun _ _ _ _ _ => True) (fun _ U o U' => ∃ v L, o = .returned v ∧ QrWp Z a1 cs G1 gv j ct h0 n0 v U'.heap L ∧ FrameEnd U o U' L ({ frames := 7, cells := 4, slots := 29, locals := 110 } : Room).cells ({ frames := 7, cells := 4, slots := 29, locals := 110 } : Room).slots) := by
  refine MetFree.of_bodySF (plainFor_of_name pn_5) hisR ?_
  intro p e s m args below meth c s₁ Bd hml0 hP hK
  obtain ⟨rfl, hZ, hh⟩ := hP
  have hx := Bd.exec
  have hby := Bd.bytes
  have hml : c.maxLocals = 3 := hml0
  have hown : s.vm.findClass "com/example/wrasse/wrasse/io/CorrectionFormat" = some m.cls := findClass_of_methodNamed Bd.named
  have hnm := (name_of_methodNamed Bd.named Bd.method).1
  have X0 : Stand p l e ({ frames := 7, cells := 4, slots := 29, locals := 110 } : Room) s m #[(.ref a1)] below meth c s₁ [] 0 0 := Stand.of_body Bd
  have e0 : s₁.heap = h0 := by rw [← hh, Bd.state]; rfl
  have N0 := Fr.nil n0
  have pre0 : ∀ t, Steps p.tables e below (s₁.setTop (mkF m 0 #[.val (.ref a1), .unset, .unset] [])) t → Steps p.tables e below (s₁.setTop (entryFrame m #[(.ref a1)] 3)) t := fun t k => castTop (ef_rWp m a1) k
  have hi : j < cs.length := by have := hs.1; omega
  have hLt : ct.length < 8 := by have := hs.1; omega
  obtain ⟨cq1, kz1, q1a, q1b, q1c⟩ := isOf hZ e0 (own_Sexa T)
  obtain ⟨_, _, ⟨T1, Lq1, kq1, nq1⟩, -, X1, ⟨Lc1, hQ1, lq1, yq1, zq1⟩, st1⟩ := X0.virtualBack hx (y := (⟨"java/lang/String", "length", "()I"⟩ : MethodName)) (z := (⟨"java/lang/String", "length", "()I"⟩ : MethodName)) hown (mvT hZ (hw _ (own_w 31 rfl))) (mvT hZ (hw _ (own_w 32 rfl))) (notFace_of_selects (args := #[]) (mvT hZ (hw _ (own_w 34 rfl)))) (mvT hZ (hw _ (own_w 34 rfl))) (mvT hZ (hw _ (own_w 33 rfl))) (by decide) (backOf (W := 0) (rLe l Z a0 hw [] a1 cs G1 h0 n0 Z0 X00 O_2 P5 T hL) hZ (hw _ (own_w 35 rfl)) (hw _ (own_w 8 rfl)) (by decide) (by decide)) q1a q1c (g := (mkF m 3 #[.val (.ref a1), .val (.int (0 : Int32)), .unset] [(.ref a1)])) rfl (by rw [hml]; rfl) (Steps.refl _) (argsL := []) (rest := []) (lenOf pd_21 rfl) rfl (by show 2 * 0 + _ ≤ _; exact Nat.le_of_eq rfl) (hb hby d5_3) (fun _ _ => ⟨rfl, e0, (by decide : 0 + 0 ≤ _), (by decide : 0 + 0 ≤ _)⟩)
  dsimp only [Pt.U, Pt.locs, Pt.cells, Pt.slots] at X1 lq1 yq1 zq1 st1 hQ1
  subst lq1 yq1 zq1
  obtain ⟨r1, hr1, rfl, N1q, e1⟩ := hQ1
  have N1 := Fr.app N0 N1q
  obtain ⟨T2, L2, X2, e2, N2, st2⟩ := own_w1 (by decide) (by decide) (by decide) (by decide) hx hZ hw hby hml hown hL X00 O_S hgv O_2 P5 O_A O_H O_W Z0 T hcs hbf (Or.inr ⟨hi, hnb⟩) (j) 0 (by omega) _ _ X1 e1 N1
  obtain ⟨ff, hff⟩ := Nat.le.dest hs.1
  obtain ⟨T3, L3, X3, e3, N3, st3⟩ := own_w2 (by decide) (by decide) (by decide) (by decide) hx hZ hw hby hml hown hL X00 O_S hgv O_2 P5 O_A O_H O_W Z0 T hcs (j := j) (en := j + ct.length) (by omega) (Or.inr ⟨by omega, hnbE⟩) hae ff (by omega) _ _ X2 e2 N2
  obtain ⟨cq4, kz4, q4a, q4b, q4c⟩ := isOf hZ e3 (own_Sexa T)
  obtain ⟨_, _, ⟨T4, Lq4, kq4, nq4⟩, -, X4, ⟨Lc4, hQ4, lq4, yq4, zq4⟩, st4⟩ := X3.virtualBack hx (y := (⟨"java/lang/String", "substring", "(II)Ljava/lang/String;"⟩ : MethodName)) (z := (⟨"java/lang/String", "substring", "(II)Ljava/lang/String;"⟩ : MethodName)) hown (mvT hZ (hw _ (own_w 92 rfl))) (mvT hZ (hw _ (own_w 93 rfl))) (notFace_of_selects (args := #[]) (mvT hZ (hw _ (own_w 95 rfl)))) (mvT hZ (hw _ (own_w 95 rfl))) (mvT hZ (hw _ (own_w 94 rfl))) (by decide) (backOf (W := 0) (rS2 l Z a0 hw [] a1 (Int32.ofNat j) (Int32.ofNat (j + ct.length)) (cs) (ct) (j) G1 gv h0 n0 Z0 X00 O_S hgv O_2 P5 O_A O_H O_W T hs hps hL hcs rfl rfl) hZ (hw _ (own_w 96 rfl)) (hw _ (own_w 8 rfl)) (by decide) (by decide)) q4a q4c (g := (mkF m 67 #[.val (.ref a1), .val (.int (Int32.ofNat j)), .val (.int (Int32.ofNat (j + ct.length)))] [(.int (Int32.ofNat (j + ct.length))), (.int (Int32.ofNat j)), (.ref a1)])) rfl (by rw [hml]; rfl) (Steps.refl _) (argsL := [(.int (Int32.ofNat j)), (.int (Int32.ofNat (j + ct.length)))]) (rest := []) (lenOf pd_29 rfl) rfl (by show 2 * 0 + _ ≤ _; exact Nat.le_of_eq rfl) (hb hby d5_67) (fun _ _ => ⟨rfl, e3, (by decide : 0 + 3 ≤ _), (by decide : 0 + 28 ≤ _)⟩)
  dsimp only [Pt.U, Pt.locs, Pt.cells, Pt.slots] at X4 lq4 yq4 zq4 st4 hQ4
  subst lq4 yq4 zq4
  obtain ⟨o4, rfl, N4q, KC4, TS4⟩ := hQ4
  have N4 := Fr.app N3 N4q
  have Z4 : n0 ≤ T4.heap.size := Nat.le_trans Z0 KC4.1
  have K4 : Keep h0 T4.heap [] := (Keep.refl h0 []).trans KC4 all0
  obtain ⟨_, _, ⟨T5, Lq5, kq5, nq5⟩, -, X5, ⟨Lc5, hQ5, lq5, yq5, zq5⟩, st5⟩ := Jvm.LawKit.callS X4 hx (y := (⟨"java/util/Optional", "of", "(Ljava/lang/Object;)Ljava/util/Optional;"⟩ : MethodName)) hown (mvT hZ (hw _ (own_w 129 rfl))) (mvT hZ (hw _ (own_w 130 rfl))) (mvT hZ (hw _ (own_w 44 rfl))) (mvT hZ (hw _ (own_w 131 rfl))) (by decide) (backOf (W := 0) (rOo l Z a0 hw [] o4  T4.heap n0 Z4 ) hZ (hw _ (own_w 131 rfl)) (hw _ (own_w 44 rfl)) (by decide) (by decide)) (g := (mkF m 70 #[.val (.ref a1), .val (.int (Int32.ofNat j)), .val (.int (Int32.ofNat (j + ct.length)))] [(.ref o4)])) rfl (by rw [hml]; rfl) (argsL := [(.ref o4)]) (rest := []) (lenOf pd_30 rfl) rfl (by show 2 * 0 + _ ≤ _; exact Nat.le_of_eq rfl) (hb hby d5_70) (fun _ _ => ⟨rfl, rfl, (by decide : 3 + 1 ≤ _), (by decide : 28 + 1 ≤ _)⟩)
  dsimp only [Pt.U, Pt.locs, Pt.cells, Pt.slots] at X5 lq5 yq5 zq5 st5 hQ5
  subst lq5 yq5 zq5
  obtain ⟨o5, rfl, N5q, KC5, uE5, uV5⟩ := hQ5
  have N5 := Fr.app N4 N5q
  have Z5 : n0 ≤ T5.heap.size := Nat.le_trans Z4 KC5.1
  have K5 : Keep h0 T5.heap [] := K4.trans KC5 all0
  obtain ⟨fs, hr, hrun, hended, hW, hsame⟩ := X5.leave (v := some (.ref o5)) (fun h => by rw [Bd.returns] at h; cases h) (BodyLoose.notSynchronized Bd)
  refine ⟨_, _, pre0 _ ?_, hrun, hended, _, _, rfl, ?_, ⟨_, rfl⟩, hW, hsame.mono (by decide) (by decide)⟩
  · show Steps p.tables e below (s₁.setTop (mkF m 0 #[.val (.ref a1), .unset, .unset] [])) _
    refine XS.iconst X0.here hx rfl (hb hby d5_0) ?_
    refine XS.istoreN X0.here hx rfl (hb hby d5_1) rfl (l' := #[.val (.ref a1), .val (.int (0 : Int32)), .unset]) rfl ?_
    refine XS.aloadN X0.here hx rfl (hb hby d5_2) rfl rfl ?_
    refine st1.trans ?_
    refine XS.istoreN X1.here hx rfl (hb hby d5_6) rfl (l' := #[.val (.ref a1), .val (.int (0 : Int32)), .val (.int r1)]) rfl ?_
    show Steps p.tables e below (T1.setTop (mkF m 7 #[.val (.ref a1), .val (.int (0 : Int32)), .val (.int r1)] [])) _
    rw [hr1]
    refine st2 _ ?_
    show Steps p.tables e below (T2.setTop (mkF m 29 #[.val (.ref a1), .val (.int (Int32.ofNat j)), .val (.int (Int32.ofNat cs.length))] [])) _
    rw [← hff]
    refine st3 _ ?_
    refine XS.iloadN X3.here hx rfl (hb hby d5_53) rfl ?_
    refine XS.iloadN X3.here hx rfl (hb hby d5_54) rfl ?_
    refine XS.icmpYes X3.here hx rfl (pc0 := 55) (pc' := 64) rfl (hb hby d5_55) rfl (feq (fun q => absurd ((own_xeq (by have := hs.1; omega) (by have := hs.1; omega)).mp q) (by omega))).2 (by decide) (by decide) ?_
    refine XS.aloadN X3.here hx rfl (hb hby d5_64) rfl rfl ?_
    refine XS.iloadN X3.here hx rfl (hb hby d5_65) rfl ?_
    refine XS.iloadN X3.here hx rfl (hb hby d5_66) rfl ?_
    refine st4.trans ?_
    refine st5 _ ?_
    exact X5.areturnOut hx rfl Bd.returns rfl (hb hby d5_73) hr
  · show QrWp Z a1 cs G1 gv j ct h0 n0 _ T5.heap _
    have f6 := (own_Skeep TS4 KC5)
    exact ⟨o5, o4, rfl, N5, K5, uE5, uV5, f6⟩
theorem pd_31 : parseMethodDescriptor "()Ljava/lang/Object;" = some ⟨[], some (.object "java/lang/Object")⟩ := by decide +kernel
set_option maxRecDepth 65536 in
set_option maxHeartbeats 40000000 in
theorem own_tail {p : Program} {l : Launch} {e : Env} {R : Room} {s : State} {m : MethodId} {args : Array Value} {below : List Frame} {meth : Method} {c : Code} {cells slots : Nat} {Z : State} {a0 : Array Value} {n0 : Nat} {ca ar ln og x : Addr} {kc : ClassId} {ct : List Int32} {sq : Nat} {vs : List Value} {q1 q2 q3 q4 q5 q6 u9 u10 u11 u12 G1 : Int32} {gv : Value} {h0 : Heap} (hRf : 5 ≤ R.frames) (hRl : 66 ≤ R.locals) (hRc : cells ≤ R.cells) (hRs : slots ≤ R.slots) (hx : p.tables.exec = Jvm.exec) (hZ : Z.Warmed39 s.vm) (hw : ∀ d ∈ tables_1, d.before a0 Z = true) (hby : c.code = code) (hml : c.maxLocals = 18) (hown : s.vm.findClass "com/example/wrasse/wrasse/io/CorrectionFormatWordOfPinLaw" = some m.cls) (X00 : Old Z n0 h0) (O_S : Sta Z Z.heap "jdk/internal/util/Preconditions" "SIOOBE_FORMATTER" "Ljava/util/function/BiFunction;" gv) (hgv : gv.isRef = true) (O_2 : Sta Z Z.heap "java/lang/String" "COMPACT_STRINGS" "Z" (.int G1)) (P5 : ¬ (G1 = (0 : Int32))) (O_A : Sta Z Z.heap "java/lang/StringUTF16" "$assertionsDisabled" "Z" (.int (1 : Int32))) (O_H : Sta Z Z.heap "java/lang/StringUTF16" "HI_BYTE_SHIFT" "I" (.int (0 : Int32))) (O_W : Sta Z Z.heap "java/lang/StringUTF16" "LO_BYTE_SHIFT" "I" (.int (8 : Int32)))  (Z0 : n0 ≤ h0.size) (T : own_S Z h0 x ct) (hL : ct.length < 8) (hcs : ∀ c ∈ ct, own_ch c) (EO : Exa Z h0 og "java/util/Optional") (FV : Fld Z h0 og "java/util/Optional" "value" "Ljava/lang/Object;" (.ref x)) (AC : Arv Z h0 ca kc .char (4 : Int32) vs (.int (0 : Int32))) (hps : 0 < ct.length) (hq4 : sq + ct.length ≤ 4) (hv : ∀ k, k < ct.length → vs.getD (sq + k) (.int (0 : Int32)) = .int (ct.getD k 0))
    (T0 : State) (L0 : List Loc) (X0 : Stand p l e R s m args below meth c T0 L0 cells slots) (e0 : T0.heap = h0) (N0 : Fr n0 L0) :
    ∃ (T' : State) (L' : List Loc), Stand p l e R s m args below meth c T' L' cells slots ∧ T'.heap = h0 ∧ Fr n0 L' ∧ ∀ target, Steps p.tables e below (T'.setTop (mkF m 443 #[.val (.int q1), .val (.int q2), .val (.int q3), .val (.int q4), .val (.int q5), .val (.int q6), .val (.ref ca), .val (.ref ar), .val (.ref ln), .val (.int u9), .val (.int u10), .val (.int u11), .val (.int u12), .val (.int (Int32.ofNat sq)), .val (.int (Int32.ofNat (sq + ct.length))), .val (.ref og), .val (.ref x), .val (.int (Int32.ofNat ct.length))] [.int (1 : Int32)])) target → Steps p.tables e below (T0.setTop (mkF m 309 #[.val (.int q1), .val (.int q2), .val (.int q3), .val (.int q4), .val (.int q5), .val (.int q6), .val (.ref ca), .val (.ref ar), .val (.ref ln), .val (.int u9), .val (.int u10), .val (.int u11), .val (.int u12), .val (.int (Int32.ofNat sq)), .val (.int (Int32.ofNat (sq + ct.length))), .val (.ref og), .unset, .unset] [])) target := by
  obtain ⟨cq1, kz1, q1a, q1b, q1c⟩ := isOf hZ e0 EO
  obtain ⟨_, _, ⟨T1, Lq1, kq1, nq1⟩, -, X1, ⟨Lc1, hQ1, lq1, yq1, zq1⟩, st1⟩ := X0.virtualBack hx (y := (⟨"java/util/Optional", "isPresent", "()Z"⟩ : MethodName)) (z := (⟨"java/util/Optional", "isPresent", "()Z"⟩ : MethodName)) hown (mvT hZ (hw _ (own_w 47 rfl))) (mvT hZ (hw _ (own_w 48 rfl))) (notFace_of_selects (args := #[]) (mvT hZ (hw _ (own_w 50 rfl)))) (mvT hZ (hw _ (own_w 50 rfl))) (mvT hZ (hw _ (own_w 49 rfl))) (by decide) (backOf (W := 0) (rOp1 l Z a0 hw [] og x h0 n0 Z0 FV) hZ (hw _ (own_w 51 rfl)) (hw _ (own_w 44 rfl)) (Nat.le_trans (by decide) hRf) (Nat.le_trans (by decide) hRl)) q1a q1c (g := (mkF m 311 #[.val (.int q1), .val (.int q2), .val (.int q3), .val (.int q4), .val (.int q5), .val (.int q6), .val (.ref ca), .val (.ref ar), .val (.ref ln), .val (.int u9), .val (.int u10), .val (.int u11), .val (.int u12), .val (.int (Int32.ofNat sq)), .val (.int (Int32.ofNat (sq + ct.length))), .val (.ref og), .unset, .unset] [(.ref og)])) rfl (by rw [hml]; rfl) (Steps.refl _) (argsL := []) (rest := []) (lenOf pd_7 rfl) rfl (by show 2 * 0 + _ ≤ _; exact Nat.le_of_eq rfl) (hb hby at_311) (fun _ _ => ⟨rfl, e0, hRc, hRs⟩)
  dsimp only [Pt.U, Pt.locs, Pt.cells, Pt.slots] at X1 lq1 yq1 zq1 st1 hQ1
  subst lq1 yq1 zq1
  obtain ⟨r1, hr1, rfl, N1q, e1⟩ := hQ1
  have N1 := Fr.app N0 N1q
  subst hr1
  obtain ⟨cq2, kz2, q2a, q2b, q2c⟩ := isOf hZ e1 EO
  obtain ⟨_, _, ⟨T2, Lq2, kq2, nq2⟩, -, X2, ⟨Lc2, hQ2, lq2, yq2, zq2⟩, st2⟩ := X1.virtualBack hx (y := (⟨"java/util/Optional", "get", "()Ljava/lang/Object;"⟩ : MethodName)) (z := (⟨"java/util/Optional", "get", "()Ljava/lang/Object;"⟩ : MethodName)) hown (mvT hZ (hw _ (own_w 143 rfl))) (mvT hZ (hw _ (own_w 144 rfl))) (notFace_of_selects (args := #[]) (mvT hZ (hw _ (own_w 146 rfl)))) (mvT hZ (hw _ (own_w 146 rfl))) (mvT hZ (hw _ (own_w 145 rfl))) (by decide) (backOf (W := 0) (rOg l Z a0 hw [] og x h0 n0 Z0 FV) hZ (hw _ (own_w 147 rfl)) (hw _ (own_w 44 rfl)) (Nat.le_trans (by decide) hRf) (Nat.le_trans (by decide) hRl)) q2a q2c (g := (mkF m 321 #[.val (.int q1), .val (.int q2), .val (.int q3), .val (.int q4), .val (.int q5), .val (.int q6), .val (.ref ca), .val (.ref ar), .val (.ref ln), .val (.int u9), .val (.int u10), .val (.int u11), .val (.int u12), .val (.int (Int32.ofNat sq)), .val (.int (Int32.ofNat (sq + ct.length))), .val (.ref og), .unset, .unset] [(.ref og)])) rfl (by rw [hml]; rfl) (Steps.refl _) (argsL := []) (rest := []) (lenOf pd_31 rfl) rfl (by show 2 * 0 + _ ≤ _; exact Nat.le_of_eq rfl) (hb hby at_321) (fun _ _ => ⟨rfl, e1, hRc, hRs⟩)
  dsimp only [Pt.U, Pt.locs, Pt.cells, Pt.slots] at X2 lq2 yq2 zq2 st2 hQ2
  subst lq2 yq2 zq2
  obtain ⟨rfl, N2q, e2⟩ := hQ2
  have N2 := Fr.app N1 N2q
  obtain ⟨T3, X3, e3, st3⟩ := castY X2 hx hZ hown (hw _ (own_w 6 rfl)) e2 (Ins.self (own_Sexa T)) (g := (mkF m 324 #[.val (.int q1), .val (.int q2), .val (.int q3), .val (.int q4), .val (.int q5), .val (.int q6), .val (.ref ca), .val (.ref ar), .val (.ref ln), .val (.int u9), .val (.int u10), .val (.int u11), .val (.int u12), .val (.int (Int32.ofNat sq)), .val (.int (Int32.ofNat (sq + ct.length))), .val (.ref og), .unset, .unset] [(.ref x)])) rfl rfl (hb hby at_324)
  obtain ⟨cq4, kz4, q4a, q4b, q4c⟩ := isOf hZ e3 (own_Sexa T)
  obtain ⟨_, _, ⟨T4, Lq4, kq4, nq4⟩, -, X4, ⟨Lc4, hQ4, lq4, yq4, zq4⟩, st4⟩ := X3.virtualBack hx (y := (⟨"java/lang/String", "length", "()I"⟩ : MethodName)) (z := (⟨"java/lang/String", "length", "()I"⟩ : MethodName)) hown (mvT hZ (hw _ (own_w 148 rfl))) (mvT hZ (hw _ (own_w 32 rfl))) (notFace_of_selects (args := #[]) (mvT hZ (hw _ (own_w 34 rfl)))) (mvT hZ (hw _ (own_w 34 rfl))) (mvT hZ (hw _ (own_w 33 rfl))) (by decide) (backOf (W := 0) (rLe l Z a0 hw [] x ct G1 h0 n0 Z0 X00 O_2 P5 T hL) hZ (hw _ (own_w 35 rfl)) (hw _ (own_w 8 rfl)) (Nat.le_trans (by decide) hRf) (Nat.le_trans (by decide) hRl)) q4a q4c (g := (mkF m 338 #[.val (.int q1), .val (.int q2), .val (.int q3), .val (.int q4), .val (.int q5), .val (.int q6), .val (.ref ca), .val (.ref ar), .val (.ref ln), .val (.int u9), .val (.int u10), .val (.int u11), .val (.int u12), .val (.int (Int32.ofNat sq)), .val (.int (Int32.ofNat (sq + ct.length))), .val (.ref og), .val (.ref x), .val (.int (Int32.ofNat ct.length))] [(.ref x)])) rfl (by rw [hml]; rfl) (Steps.refl _) (argsL := []) (rest := []) (lenOf pd_21 rfl) rfl (by show 2 * 0 + _ ≤ _; exact Nat.le_of_eq rfl) (hb hby at_338) (fun _ _ => ⟨rfl, e3, hRc, hRs⟩)
  dsimp only [Pt.U, Pt.locs, Pt.cells, Pt.slots] at X4 lq4 yq4 zq4 st4 hQ4
  subst lq4 yq4 zq4
  obtain ⟨r4, hr4, rfl, N4q, e4⟩ := hQ4
  have N4 := Fr.app N2 N4q
  obtain ⟨cq5, kz5, q5a, q5b, q5c⟩ := isOf hZ e4 (own_Sexa T)
  obtain ⟨_, _, ⟨T5, Lq5, kq5, nq5⟩, -, X5, ⟨Lc5, hQ5, lq5, yq5, zq5⟩, st5⟩ := X4.virtualBack hx (y := (⟨"java/lang/String", "charAt", "(I)C"⟩ : MethodName)) (z := (⟨"java/lang/String", "charAt", "(I)C"⟩ : MethodName)) hown (mvT hZ (hw _ (own_w 149 rfl))) (mvT hZ (hw _ (own_w 68 rfl))) (notFace_of_selects (args := #[]) (mvT hZ (hw _ (own_w 70 rfl)))) (mvT hZ (hw _ (own_w 70 rfl))) (mvT hZ (hw _ (own_w 69 rfl))) (by decide) (backOf (W := 0) (rCh l Z a0 hw [] x (0 : Int32) ct (0) G1 gv h0 n0 Z0 X00 O_S hgv O_2 P5 O_A O_H O_W T rfl (by omega) hL hcs) hZ (hw _ (own_w 71 rfl)) (hw _ (own_w 8 rfl)) (Nat.le_trans (by decide) hRf) (Nat.le_trans (by decide) hRl)) q5a q5c (g := (mkF m 357 #[.val (.int q1), .val (.int q2), .val (.int q3), .val (.int q4), .val (.int q5), .val (.int q6), .val (.ref ca), .val (.ref ar), .val (.ref ln), .val (.int u9), .val (.int u10), .val (.int u11), .val (.int u12), .val (.int (Int32.ofNat sq)), .val (.int (Int32.ofNat (sq + ct.length))), .val (.ref og), .val (.ref x), .val (.int (Int32.ofNat ct.length))] [(.int (0 : Int32)), (.ref x)])) rfl (by rw [hml]; rfl) (Steps.refl _) (argsL := [(.int (0 : Int32))]) (rest := []) (lenOf pd_26 rfl) rfl (by show 2 * 0 + _ ≤ _; exact Nat.le_of_eq rfl) (hb hby at_357) (fun _ _ => ⟨rfl, e4, hRc, hRs⟩)
  dsimp only [Pt.U, Pt.locs, Pt.cells, Pt.slots] at X5 lq5 yq5 zq5 st5 hQ5
  subst lq5 yq5 zq5
  obtain ⟨r5, hr5, rfl, N5q, e5⟩ := hQ5
  have N5 := Fr.app N4 N5q
  obtain ⟨cl6, Ar6, qk6, Sz6, Nn6, Hh6, Gg6⟩ := id (AC)
  have hin7 : ¬ ((Int32.ofNat sq) < 0 ∨ cl6.slots.size ≤ ((Int32.ofNat sq)).toNatClampNeg) := inb_of Sz6 ⟨own_x0 (by omega), (own_xlt (n := 4) (by omega) (by omega)).mpr (by omega)⟩
  have hat7 : cl6.slots[((Int32.ofNat sq)).toNatClampNeg]? = some (.int (ct.getD 0 0)) := Has.at Hh6 hin7 (by rw [own_xN (by omega)]; exact hv 0 (by omega))
  by_cases hk1 : 1 < ct.length
  · skip
    obtain ⟨cq8, kz8, q8a, q8b, q8c⟩ := isOf hZ e5 (own_Sexa T)
    obtain ⟨_, _, ⟨T8, Lq8, kq8, nq8⟩, -, X8, ⟨Lc8, hQ8, lq8, yq8, zq8⟩, st8⟩ := X5.virtualBack hx (y := (⟨"java/lang/String", "charAt", "(I)C"⟩ : MethodName)) (z := (⟨"java/lang/String", "charAt", "(I)C"⟩ : MethodName)) hown (mvT hZ (hw _ (own_w 149 rfl))) (mvT hZ (hw _ (own_w 68 rfl))) (notFace_of_selects (args := #[]) (mvT hZ (hw _ (own_w 70 rfl)))) (mvT hZ (hw _ (own_w 70 rfl))) (mvT hZ (hw _ (own_w 69 rfl))) (by decide) (backOf (W := 0) (rCh l Z a0 hw [] x (1 : Int32) ct (1) G1 gv h0 n0 Z0 X00 O_S hgv O_2 P5 O_A O_H O_W T rfl (by omega) hL hcs) hZ (hw _ (own_w 71 rfl)) (hw _ (own_w 8 rfl)) (Nat.le_trans (by decide) hRf) (Nat.le_trans (by decide) hRl)) q8a q8c (g := (mkF m 379 #[.val (.int q1), .val (.int q2), .val (.int q3), .val (.int q4), .val (.int q5), .val (.int q6), .val (.ref ca), .val (.ref ar), .val (.ref ln), .val (.int u9), .val (.int u10), .val (.int u11), .val (.int u12), .val (.int (Int32.ofNat sq)), .val (.int (Int32.ofNat (sq + ct.length))), .val (.ref og), .val (.ref x), .val (.int (Int32.ofNat ct.length))] [(.int (1 : Int32)), (.ref x)])) rfl (by rw [hml]; rfl) (Steps.refl _) (argsL := [(.int (1 : Int32))]) (rest := []) (lenOf pd_26 rfl) rfl (by show 2 * 0 + _ ≤ _; exact Nat.le_of_eq rfl) (hb hby at_379) (fun _ _ => ⟨rfl, e5, hRc, hRs⟩)
    dsimp only [Pt.U, Pt.locs, Pt.cells, Pt.slots] at X8 lq8 yq8 zq8 st8 hQ8
    subst lq8 yq8 zq8
    obtain ⟨r8, hr8, rfl, N8q, e8⟩ := hQ8
    have N8 := Fr.app N5 N8q
    obtain ⟨cl9, Ar9, qk9, Sz9, Nn9, Hh9, Gg9⟩ := id (AC)
    have hin10 : ¬ ((Int32.ofNat (sq + 1)) < 0 ∨ cl9.slots.size ≤ ((Int32.ofNat (sq + 1))).toNatClampNeg) := inb_of Sz9 ⟨own_x0 (by omega), (own_xlt (n := 4) (by omega) (by omega)).mpr (by omega)⟩
    have hat10 : cl9.slots[((Int32.ofNat (sq + 1))).toNatClampNeg]? = some (.int (ct.getD 1 0)) := Has.at Hh9 hin10 (by rw [own_xN (by omega)]; exact hv 1 (by omega))
    by_cases hk2 : 2 < ct.length
    · skip
      obtain ⟨cq11, kz11, q11a, q11b, q11c⟩ := isOf hZ e8 (own_Sexa T)
      obtain ⟨_, _, ⟨T11, Lq11, kq11, nq11⟩, -, X11, ⟨Lc11, hQ11, lq11, yq11, zq11⟩, st11⟩ := X8.virtualBack hx (y := (⟨"java/lang/String", "charAt", "(I)C"⟩ : MethodName)) (z := (⟨"java/lang/String", "charAt", "(I)C"⟩ : MethodName)) hown (mvT hZ (hw _ (own_w 149 rfl))) (mvT hZ (hw _ (own_w 68 rfl))) (notFace_of_selects (args := #[]) (mvT hZ (hw _ (own_w 70 rfl)))) (mvT hZ (hw _ (own_w 70 rfl))) (mvT hZ (hw _ (own_w 69 rfl))) (by decide) (backOf (W := 0) (rCh l Z a0 hw [] x (2 : Int32) ct (2) G1 gv h0 n0 Z0 X00 O_S hgv O_2 P5 O_A O_H O_W T rfl (by omega) hL hcs) hZ (hw _ (own_w 71 rfl)) (hw _ (own_w 8 rfl)) (Nat.le_trans (by decide) hRf) (Nat.le_trans (by decide) hRl)) q11a q11c (g := (mkF m 403 #[.val (.int q1), .val (.int q2), .val (.int q3), .val (.int q4), .val (.int q5), .val (.int q6), .val (.ref ca), .val (.ref ar), .val (.ref ln), .val (.int u9), .val (.int u10), .val (.int u11), .val (.int u12), .val (.int (Int32.ofNat sq)), .val (.int (Int32.ofNat (sq + ct.length))), .val (.ref og), .val (.ref x), .val (.int (Int32.ofNat ct.length))] [(.int (2 : Int32)), (.ref x)])) rfl (by rw [hml]; rfl) (Steps.refl _) (argsL := [(.int (2 : Int32))]) (rest := []) (lenOf pd_26 rfl) rfl (by show 2 * 0 + _ ≤ _; exact Nat.le_of_eq rfl) (hb hby at_403) (fun _ _ => ⟨rfl, e8, hRc, hRs⟩)
      dsimp only [Pt.U, Pt.locs, Pt.cells, Pt.slots] at X11 lq11 yq11 zq11 st11 hQ11
      subst lq11 yq11 zq11
      obtain ⟨r11, hr11, rfl, N11q, e11⟩ := hQ11
      have N11 := Fr.app N8 N11q
      obtain ⟨cl12, Ar12, qk12, Sz12, Nn12, Hh12, Gg12⟩ := id (AC)
      have hin13 : ¬ ((Int32.ofNat (sq + 2)) < 0 ∨ cl12.slots.size ≤ ((Int32.ofNat (sq + 2))).toNatClampNeg) := inb_of Sz12 ⟨own_x0 (by omega), (own_xlt (n := 4) (by omega) (by omega)).mpr (by omega)⟩
      have hat13 : cl12.slots[((Int32.ofNat (sq + 2))).toNatClampNeg]? = some (.int (ct.getD 2 0)) := Has.at Hh12 hin13 (by rw [own_xN (by omega)]; exact hv 2 (by omega))
      by_cases hk3 : 3 < ct.length
      · skip
        obtain ⟨cq14, kz14, q14a, q14b, q14c⟩ := isOf hZ e11 (own_Sexa T)
        obtain ⟨_, _, ⟨T14, Lq14, kq14, nq14⟩, -, X14, ⟨Lc14, hQ14, lq14, yq14, zq14⟩, st14⟩ := X11.virtualBack hx (y := (⟨"java/lang/String", "charAt", "(I)C"⟩ : MethodName)) (z := (⟨"java/lang/String", "charAt", "(I)C"⟩ : MethodName)) hown (mvT hZ (hw _ (own_w 149 rfl))) (mvT hZ (hw _ (own_w 68 rfl))) (notFace_of_selects (args := #[]) (mvT hZ (hw _ (own_w 70 rfl)))) (mvT hZ (hw _ (own_w 70 rfl))) (mvT hZ (hw _ (own_w 69 rfl))) (by decide) (backOf (W := 0) (rCh l Z a0 hw [] x (3 : Int32) ct (3) G1 gv h0 n0 Z0 X00 O_S hgv O_2 P5 O_A O_H O_W T rfl (by omega) hL hcs) hZ (hw _ (own_w 71 rfl)) (hw _ (own_w 8 rfl)) (Nat.le_trans (by decide) hRf) (Nat.le_trans (by decide) hRl)) q14a q14c (g := (mkF m 427 #[.val (.int q1), .val (.int q2), .val (.int q3), .val (.int q4), .val (.int q5), .val (.int q6), .val (.ref ca), .val (.ref ar), .val (.ref ln), .val (.int u9), .val (.int u10), .val (.int u11), .val (.int u12), .val (.int (Int32.ofNat sq)), .val (.int (Int32.ofNat (sq + ct.length))), .val (.ref og), .val (.ref x), .val (.int (Int32.ofNat ct.length))] [(.int (3 : Int32)), (.ref x)])) rfl (by rw [hml]; rfl) (Steps.refl _) (argsL := [(.int (3 : Int32))]) (rest := []) (lenOf pd_26 rfl) rfl (by show 2 * 0 + _ ≤ _; exact Nat.le_of_eq rfl) (hb hby at_427) (fun _ _ => ⟨rfl, e11, hRc, hRs⟩)
        dsimp only [Pt.U, Pt.locs, Pt.cells, Pt.slots] at X14 lq14 yq14 zq14 st14 hQ14
        subst lq14 yq14 zq14
        obtain ⟨r14, hr14, rfl, N14q, e14⟩ := hQ14
        have N14 := Fr.app N11 N14q
        obtain ⟨cl15, Ar15, qk15, Sz15, Nn15, Hh15, Gg15⟩ := id (AC)
        have hin16 : ¬ ((Int32.ofNat (sq + 3)) < 0 ∨ cl15.slots.size ≤ ((Int32.ofNat (sq + 3))).toNatClampNeg) := inb_of Sz15 ⟨own_x0 (by omega), (own_xlt (n := 4) (by omega) (by omega)).mpr (by omega)⟩
        have hat16 : cl15.slots[((Int32.ofNat (sq + 3))).toNatClampNeg]? = some (.int (ct.getD 3 0)) := Has.at Hh15 hin16 (by rw [own_xN (by omega)]; exact hv 3 (by omega))
        refine ⟨T14, _, X14, e14, N14, fun target kt => ?_⟩
        refine XS.aload X0.here hx rfl (hb hby at_309) rfl rfl ?_
        refine st1.trans ?_
        refine XS.ifYes X1.here hx rfl (pc0 := 314) (pc' := 319) rfl (hb hby at_314) rfl ((if0 _ _).trans (feq (by decide)).2) (by decide) (by decide) ?_
        refine XS.aload X1.here hx rfl (hb hby at_319) rfl rfl ?_
        refine st2.trans ?_
        refine st3 _ ?_
        refine XS.astore X3.here hx rfl (hb hby at_327) rfl rfl (l' := #[.val (.int q1), .val (.int q2), .val (.int q3), .val (.int q4), .val (.int q5), .val (.int q6), .val (.ref ca), .val (.ref ar), .val (.ref ln), .val (.int u9), .val (.int u10), .val (.int u11), .val (.int u12), .val (.int (Int32.ofNat sq)), .val (.int (Int32.ofNat (sq + ct.length))), .val (.ref og), .val (.ref x), .unset]) rfl ?_
        refine XS.iload X3.here hx rfl (hb hby at_329) rfl ?_
        refine XS.iload X3.here hx rfl (hb hby at_331) rfl ?_
        refine XS.isub X3.here hx rfl (hb hby at_333) rfl ?_
        show Steps p.tables e below (T3.setTop (mkF m 334 #[.val (.int q1), .val (.int q2), .val (.int q3), .val (.int q4), .val (.int q5), .val (.int q6), .val (.ref ca), .val (.ref ar), .val (.ref ln), .val (.int u9), .val (.int u10), .val (.int u11), .val (.int u12), .val (.int (Int32.ofNat sq)), .val (.int (Int32.ofNat (sq + ct.length))), .val (.ref og), .val (.ref x), .unset] [(.int ((Int32.ofNat (sq + ct.length)) - (Int32.ofNat sq)))])) _
        rw [(own_xsubw (show sq + ct.length < 16 by omega))]
        refine XS.istore X3.here hx rfl (hb hby at_334) rfl (l' := #[.val (.int q1), .val (.int q2), .val (.int q3), .val (.int q4), .val (.int q5), .val (.int q6), .val (.ref ca), .val (.ref ar), .val (.ref ln), .val (.int u9), .val (.int u10), .val (.int u11), .val (.int u12), .val (.int (Int32.ofNat sq)), .val (.int (Int32.ofNat (sq + ct.length))), .val (.ref og), .val (.ref x), .val (.int (Int32.ofNat ct.length))]) rfl ?_
        refine XS.aload X3.here hx rfl (hb hby at_336) rfl rfl ?_
        refine st4.trans ?_
        refine XS.iload X4.here hx rfl (hb hby at_341) rfl ?_
        refine XS.icmpYes X4.here hx rfl (pc0 := 343) (pc' := 348) rfl (hb hby at_343) rfl (teq hr4).1 (by decide) (by decide) ?_
        refine XS.iconst X4.here hx rfl (hb hby at_348) ?_
        refine XS.iload X4.here hx rfl (hb hby at_349) rfl ?_
        refine XS.icmpNo X4.here hx rfl (hb hby at_351) rfl (tlt ((own_xlt (i := 0) (by decide) (by omega)).mpr (by omega))).2.1 ?_
        refine XS.aload X4.here hx rfl (hb hby at_354) rfl rfl ?_
        refine XS.iconst X4.here hx rfl (hb hby at_356) ?_
        refine st5.trans ?_
        refine XS.aload X5.here hx rfl (hb hby at_360) rfl rfl ?_
        refine XS.iload X5.here hx rfl (hb hby at_362) rfl ?_
        refine X5.caload hx (j := (Int32.ofNat sq)) (v := (.int (ct.getD 0 0))) (by rw [e5]; exact Ar6.1) (State.isArrayOf_alike hZ.alike Ar6.2.1) Ar6.2.2 hin7 hat7 (g := (mkF m 364 #[.val (.int q1), .val (.int q2), .val (.int q3), .val (.int q4), .val (.int q5), .val (.int q6), .val (.ref ca), .val (.ref ar), .val (.ref ln), .val (.int u9), .val (.int u10), .val (.int u11), .val (.int u12), .val (.int (Int32.ofNat sq)), .val (.int (Int32.ofNat (sq + ct.length))), .val (.ref og), .val (.ref x), .val (.int (Int32.ofNat ct.length))] [(.int (Int32.ofNat sq)), (.ref ca), (.int r5)])) rfl rfl (hb hby at_364) _ ?_
        refine XS.icmpYes X5.here hx rfl (pc0 := 365) (pc' := 370) rfl (hb hby at_365) rfl (teq hr5).1 (by decide) (by decide) ?_
        refine XS.iconst X5.here hx rfl (hb hby at_370) ?_
        refine XS.iload X5.here hx rfl (hb hby at_371) rfl ?_
        refine XS.icmpNo X5.here hx rfl (hb hby at_373) rfl (tlt ((own_xlt (i := 1) (by decide) (by omega)).mpr (by omega))).2.1 ?_
        refine XS.aload X5.here hx rfl (hb hby at_376) rfl rfl ?_
        refine XS.iconst X5.here hx rfl (hb hby at_378) ?_
        refine st8.trans ?_
        refine XS.aload X8.here hx rfl (hb hby at_382) rfl rfl ?_
        refine XS.iload X8.here hx rfl (hb hby at_384) rfl ?_
        refine XS.iconst X8.here hx rfl (hb hby at_386) ?_
        refine XS.iadd X8.here hx rfl (hb hby at_387) rfl ?_
        show Steps p.tables e below (T8.setTop (mkF m 388 #[.val (.int q1), .val (.int q2), .val (.int q3), .val (.int q4), .val (.int q5), .val (.int q6), .val (.ref ca), .val (.ref ar), .val (.ref ln), .val (.int u9), .val (.int u10), .val (.int u11), .val (.int u12), .val (.int (Int32.ofNat sq)), .val (.int (Int32.ofNat (sq + ct.length))), .val (.ref og), .val (.ref x), .val (.int (Int32.ofNat ct.length))] [(.int ((Int32.ofNat sq) + (1 : Int32))), (.ref ca), (.int r8)])) _
        rw [(show Int32.ofNat sq + (1 : Int32) = Int32.ofNat (sq + 1) from own_xadd (i := sq) (j := 1) (by omega) (by decide))]
        refine X8.caload hx (j := (Int32.ofNat (sq + 1))) (v := (.int (ct.getD 1 0))) (by rw [e8]; exact Ar9.1) (State.isArrayOf_alike hZ.alike Ar9.2.1) Ar9.2.2 hin10 hat10 (g := (mkF m 388 #[.val (.int q1), .val (.int q2), .val (.int q3), .val (.int q4), .val (.int q5), .val (.int q6), .val (.ref ca), .val (.ref ar), .val (.ref ln), .val (.int u9), .val (.int u10), .val (.int u11), .val (.int u12), .val (.int (Int32.ofNat sq)), .val (.int (Int32.ofNat (sq + ct.length))), .val (.ref og), .val (.ref x), .val (.int (Int32.ofNat ct.length))] [(.int (Int32.ofNat (sq + 1))), (.ref ca), (.int r8)])) rfl rfl (hb hby at_388) _ ?_
        refine XS.icmpYes X8.here hx rfl (pc0 := 389) (pc' := 394) rfl (hb hby at_389) rfl (teq hr8).1 (by decide) (by decide) ?_
        refine XS.iconst X8.here hx rfl (hb hby at_394) ?_
        refine XS.iload X8.here hx rfl (hb hby at_395) rfl ?_
        refine XS.icmpNo X8.here hx rfl (hb hby at_397) rfl (tlt ((own_xlt (i := 2) (by decide) (by omega)).mpr (by omega))).2.1 ?_
        refine XS.aload X8.here hx rfl (hb hby at_400) rfl rfl ?_
        refine XS.iconst X8.here hx rfl (hb hby at_402) ?_
        refine st11.trans ?_
        refine XS.aload X11.here hx rfl (hb hby at_406) rfl rfl ?_
        refine XS.iload X11.here hx rfl (hb hby at_408) rfl ?_
        refine XS.iconst X11.here hx rfl (hb hby at_410) ?_
        refine XS.iadd X11.here hx rfl (hb hby at_411) rfl ?_
        show Steps p.tables e below (T11.setTop (mkF m 412 #[.val (.int q1), .val (.int q2), .val (.int q3), .val (.int q4), .val (.int q5), .val (.int q6), .val (.ref ca), .val (.ref ar), .val (.ref ln), .val (.int u9), .val (.int u10), .val (.int u11), .val (.int u12), .val (.int (Int32.ofNat sq)), .val (.int (Int32.ofNat (sq + ct.length))), .val (.ref og), .val (.ref x), .val (.int (Int32.ofNat ct.length))] [(.int ((Int32.ofNat sq) + (2 : Int32))), (.ref ca), (.int r11)])) _
        rw [(show Int32.ofNat sq + (2 : Int32) = Int32.ofNat (sq + 2) from own_xadd (i := sq) (j := 2) (by omega) (by decide))]
        refine X11.caload hx (j := (Int32.ofNat (sq + 2))) (v := (.int (ct.getD 2 0))) (by rw [e11]; exact Ar12.1) (State.isArrayOf_alike hZ.alike Ar12.2.1) Ar12.2.2 hin13 hat13 (g := (mkF m 412 #[.val (.int q1), .val (.int q2), .val (.int q3), .val (.int q4), .val (.int q5), .val (.int q6), .val (.ref ca), .val (.ref ar), .val (.ref ln), .val (.int u9), .val (.int u10), .val (.int u11), .val (.int u12), .val (.int (Int32.ofNat sq)), .val (.int (Int32.ofNat (sq + ct.length))), .val (.ref og), .val (.ref x), .val (.int (Int32.ofNat ct.length))] [(.int (Int32.ofNat (sq + 2))), (.ref ca), (.int r11)])) rfl rfl (hb hby at_412) _ ?_
        refine XS.icmpYes X11.here hx rfl (pc0 := 413) (pc' := 418) rfl (hb hby at_413) rfl (teq hr11).1 (by decide) (by decide) ?_
        refine XS.iconst X11.here hx rfl (hb hby at_418) ?_
        refine XS.iload X11.here hx rfl (hb hby at_419) rfl ?_
        refine XS.icmpNo X11.here hx rfl (hb hby at_421) rfl (tlt ((own_xlt (i := 3) (by decide) (by omega)).mpr (by omega))).2.1 ?_
        refine XS.aload X11.here hx rfl (hb hby at_424) rfl rfl ?_
        refine XS.iconst X11.here hx rfl (hb hby at_426) ?_
        refine st14.trans ?_
        refine XS.aload X14.here hx rfl (hb hby at_430) rfl rfl ?_
        refine XS.iload X14.here hx rfl (hb hby at_432) rfl ?_
        refine XS.iconst X14.here hx rfl (hb hby at_434) ?_
        refine XS.iadd X14.here hx rfl (hb hby at_435) rfl ?_
        show Steps p.tables e below (T14.setTop (mkF m 436 #[.val (.int q1), .val (.int q2), .val (.int q3), .val (.int q4), .val (.int q5), .val (.int q6), .val (.ref ca), .val (.ref ar), .val (.ref ln), .val (.int u9), .val (.int u10), .val (.int u11), .val (.int u12), .val (.int (Int32.ofNat sq)), .val (.int (Int32.ofNat (sq + ct.length))), .val (.ref og), .val (.ref x), .val (.int (Int32.ofNat ct.length))] [(.int ((Int32.ofNat sq) + (3 : Int32))), (.ref ca), (.int r14)])) _
        rw [(show Int32.ofNat sq + (3 : Int32) = Int32.ofNat (sq + 3) from own_xadd (i := sq) (j := 3) (by omega) (by decide))]
        refine X14.caload hx (j := (Int32.ofNat (sq + 3))) (v := (.int (ct.getD 3 0))) (by rw [e14]; exact Ar15.1) (State.isArrayOf_alike hZ.alike Ar15.2.1) Ar15.2.2 hin16 hat16 (g := (mkF m 436 #[.val (.int q1), .val (.int q2), .val (.int q3), .val (.int q4), .val (.int q5), .val (.int q6), .val (.ref ca), .val (.ref ar), .val (.ref ln), .val (.int u9), .val (.int u10), .val (.int u11), .val (.int u12), .val (.int (Int32.ofNat sq)), .val (.int (Int32.ofNat (sq + ct.length))), .val (.ref og), .val (.ref x), .val (.int (Int32.ofNat ct.length))] [(.int (Int32.ofNat (sq + 3))), (.ref ca), (.int r14)])) rfl rfl (hb hby at_436) _ ?_
        refine XS.icmpYes X14.here hx rfl (pc0 := 437) (pc' := 442) rfl (hb hby at_437) rfl (teq hr14).1 (by decide) (by decide) ?_
        refine XS.iconst X14.here hx rfl (hb hby at_442) ?_
        exact kt
      · skip
        refine ⟨T11, _, X11, e11, N11, fun target kt => ?_⟩
        refine XS.aload X0.here hx rfl (hb hby at_309) rfl rfl ?_
        refine st1.trans ?_
        refine XS.ifYes X1.here hx rfl (pc0 := 314) (pc' := 319) rfl (hb hby at_314) rfl ((if0 _ _).trans (feq (by decide)).2) (by decide) (by decide) ?_
        refine XS.aload X1.here hx rfl (hb hby at_319) rfl rfl ?_
        refine st2.trans ?_
        refine st3 _ ?_
        refine XS.astore X3.here hx rfl (hb hby at_327) rfl rfl (l' := #[.val (.int q1), .val (.int q2), .val (.int q3), .val (.int q4), .val (.int q5), .val (.int q6), .val (.ref ca), .val (.ref ar), .val (.ref ln), .val (.int u9), .val (.int u10), .val (.int u11), .val (.int u12), .val (.int (Int32.ofNat sq)), .val (.int (Int32.ofNat (sq + ct.length))), .val (.ref og), .val (.ref x), .unset]) rfl ?_
        refine XS.iload X3.here hx rfl (hb hby at_329) rfl ?_
        refine XS.iload X3.here hx rfl (hb hby at_331) rfl ?_
        refine XS.isub X3.here hx rfl (hb hby at_333) rfl ?_
        show Steps p.tables e below (T3.setTop (mkF m 334 #[.val (.int q1), .val (.int q2), .val (.int q3), .val (.int q4), .val (.int q5), .val (.int q6), .val (.ref ca), .val (.ref ar), .val (.ref ln), .val (.int u9), .val (.int u10), .val (.int u11), .val (.int u12), .val (.int (Int32.ofNat sq)), .val (.int (Int32.ofNat (sq + ct.length))), .val (.ref og), .val (.ref x), .unset] [(.int ((Int32.ofNat (sq + ct.length)) - (Int32.ofNat sq)))])) _
        rw [(own_xsubw (show sq + ct.length < 16 by omega))]
        refine XS.istore X3.here hx rfl (hb hby at_334) rfl (l' := #[.val (.int q1), .val (.int q2), .val (.int q3), .val (.int q4), .val (.int q5), .val (.int q6), .val (.ref ca), .val (.ref ar), .val (.ref ln), .val (.int u9), .val (.int u10), .val (.int u11), .val (.int u12), .val (.int (Int32.ofNat sq)), .val (.int (Int32.ofNat (sq + ct.length))), .val (.ref og), .val (.ref x), .val (.int (Int32.ofNat ct.length))]) rfl ?_
        refine XS.aload X3.here hx rfl (hb hby at_336) rfl rfl ?_
        refine st4.trans ?_
        refine XS.iload X4.here hx rfl (hb hby at_341) rfl ?_
        refine XS.icmpYes X4.here hx rfl (pc0 := 343) (pc' := 348) rfl (hb hby at_343) rfl (teq hr4).1 (by decide) (by decide) ?_
        refine XS.iconst X4.here hx rfl (hb hby at_348) ?_
        refine XS.iload X4.here hx rfl (hb hby at_349) rfl ?_
        refine XS.icmpNo X4.here hx rfl (hb hby at_351) rfl (tlt ((own_xlt (i := 0) (by decide) (by omega)).mpr (by omega))).2.1 ?_
        refine XS.aload X4.here hx rfl (hb hby at_354) rfl rfl ?_
        refine XS.iconst X4.here hx rfl (hb hby at_356) ?_
        refine st5.trans ?_
        refine XS.aload X5.here hx rfl (hb hby at_360) rfl rfl ?_
        refine XS.iload X5.here hx rfl (hb hby at_362) rfl ?_
        refine X5.caload hx (j := (Int32.ofNat sq)) (v := (.int (ct.getD 0 0))) (by rw [e5]; exact Ar6.1) (State.isArrayOf_alike hZ.alike Ar6.2.1) Ar6.2.2 hin7 hat7 (g := (mkF m 364 #[.val (.int q1), .val (.int q2), .val (.int q3), .val (.int q4), .val (.int q5), .val (.int q6), .val (.ref ca), .val (.ref ar), .val (.ref ln), .val (.int u9), .val (.int u10), .val (.int u11), .val (.int u12), .val (.int (Int32.ofNat sq)), .val (.int (Int32.ofNat (sq + ct.length))), .val (.ref og), .val (.ref x), .val (.int (Int32.ofNat ct.length))] [(.int (Int32.ofNat sq)), (.ref ca), (.int r5)])) rfl rfl (hb hby at_364) _ ?_
        refine XS.icmpYes X5.here hx rfl (pc0 := 365) (pc' := 370) rfl (hb hby at_365) rfl (teq hr5).1 (by decide) (by decide) ?_
        refine XS.iconst X5.here hx rfl (hb hby at_370) ?_
        refine XS.iload X5.here hx rfl (hb hby at_371) rfl ?_
        refine XS.icmpNo X5.here hx rfl (hb hby at_373) rfl (tlt ((own_xlt (i := 1) (by decide) (by omega)).mpr (by omega))).2.1 ?_
        refine XS.aload X5.here hx rfl (hb hby at_376) rfl rfl ?_
        refine XS.iconst X5.here hx rfl (hb hby at_378) ?_
        refine st8.trans ?_
        refine XS.aload X8.here hx rfl (hb hby at_382) rfl rfl ?_
        refine XS.iload X8.here hx rfl (hb hby at_384) rfl ?_
        refine XS.iconst X8.here hx rfl (hb hby at_386) ?_
        refine XS.iadd X8.here hx rfl (hb hby at_387) rfl ?_
        show Steps p.tables e below (T8.setTop (mkF m 388 #[.val (.int q1), .val (.int q2), .val (.int q3), .val (.int q4), .val (.int q5), .val (.int q6), .val (.ref ca), .val (.ref ar), .val (.ref ln), .val (.int u9), .val (.int u10), .val (.int u11), .val (.int u12), .val (.int (Int32.ofNat sq)), .val (.int (Int32.ofNat (sq + ct.length))), .val (.ref og), .val (.ref x), .val (.int (Int32.ofNat ct.length))] [(.int ((Int32.ofNat sq) + (1 : Int32))), (.ref ca), (.int r8)])) _
        rw [(show Int32.ofNat sq + (1 : Int32) = Int32.ofNat (sq + 1) from own_xadd (i := sq) (j := 1) (by omega) (by decide))]
        refine X8.caload hx (j := (Int32.ofNat (sq + 1))) (v := (.int (ct.getD 1 0))) (by rw [e8]; exact Ar9.1) (State.isArrayOf_alike hZ.alike Ar9.2.1) Ar9.2.2 hin10 hat10 (g := (mkF m 388 #[.val (.int q1), .val (.int q2), .val (.int q3), .val (.int q4), .val (.int q5), .val (.int q6), .val (.ref ca), .val (.ref ar), .val (.ref ln), .val (.int u9), .val (.int u10), .val (.int u11), .val (.int u12), .val (.int (Int32.ofNat sq)), .val (.int (Int32.ofNat (sq + ct.length))), .val (.ref og), .val (.ref x), .val (.int (Int32.ofNat ct.length))] [(.int (Int32.ofNat (sq + 1))), (.ref ca), (.int r8)])) rfl rfl (hb hby at_388) _ ?_
        refine XS.icmpYes X8.here hx rfl (pc0 := 389) (pc' := 394) rfl (hb hby at_389) rfl (teq hr8).1 (by decide) (by decide) ?_
        refine XS.iconst X8.here hx rfl (hb hby at_394) ?_
        refine XS.iload X8.here hx rfl (hb hby at_395) rfl ?_
        refine XS.icmpNo X8.here hx rfl (hb hby at_397) rfl (tlt ((own_xlt (i := 2) (by decide) (by omega)).mpr (by omega))).2.1 ?_
        refine XS.aload X8.here hx rfl (hb hby at_400) rfl rfl ?_
        refine XS.iconst X8.here hx rfl (hb hby at_402) ?_
        refine st11.trans ?_
        refine XS.aload X11.here hx rfl (hb hby at_406) rfl rfl ?_
        refine XS.iload X11.here hx rfl (hb hby at_408) rfl ?_
        refine XS.iconst X11.here hx rfl (hb hby at_410) ?_
        refine XS.iadd X11.here hx rfl (hb hby at_411) rfl ?_
        show Steps p.tables e below (T11.setTop (mkF m 412 #[.val (.int q1), .val (.int q2), .val (.int q3), .val (.int q4), .val (.int q5), .val (.int q6), .val (.ref ca), .val (.ref ar), .val (.ref ln), .val (.int u9), .val (.int u10), .val (.int u11), .val (.int u12), .val (.int (Int32.ofNat sq)), .val (.int (Int32.ofNat (sq + ct.length))), .val (.ref og), .val (.ref x), .val (.int (Int32.ofNat ct.length))] [(.int ((Int32.ofNat sq) + (2 : Int32))), (.ref ca), (.int r11)])) _
        rw [(show Int32.ofNat sq + (2 : Int32) = Int32.ofNat (sq + 2) from own_xadd (i := sq) (j := 2) (by omega) (by decide))]
        refine X11.caload hx (j := (Int32.ofNat (sq + 2))) (v := (.int (ct.getD 2 0))) (by rw [e11]; exact Ar12.1) (State.isArrayOf_alike hZ.alike Ar12.2.1) Ar12.2.2 hin13 hat13 (g := (mkF m 412 #[.val (.int q1), .val (.int q2), .val (.int q3), .val (.int q4), .val (.int q5), .val (.int q6), .val (.ref ca), .val (.ref ar), .val (.ref ln), .val (.int u9), .val (.int u10), .val (.int u11), .val (.int u12), .val (.int (Int32.ofNat sq)), .val (.int (Int32.ofNat (sq + ct.length))), .val (.ref og), .val (.ref x), .val (.int (Int32.ofNat ct.length))] [(.int (Int32.ofNat (sq + 2))), (.ref ca), (.int r11)])) rfl rfl (hb hby at_412) _ ?_
        refine XS.icmpYes X11.here hx rfl (pc0 := 413) (pc' := 418) rfl (hb hby at_413) rfl (teq hr11).1 (by decide) (by decide) ?_
        refine XS.iconst X11.here hx rfl (hb hby at_418) ?_
        refine XS.iload X11.here hx rfl (hb hby at_419) rfl ?_
        refine XS.icmpYes X11.here hx rfl (pc0 := 421) (pc' := 442) rfl (hb hby at_421) rfl (flt (own_xle (b := 3) (by decide) (by omega))).2.1 (by decide) (by decide) ?_
        refine XS.iconst X11.here hx rfl (hb hby at_442) ?_
        exact kt
    · skip
      refine ⟨T8, _, X8, e8, N8, fun target kt => ?_⟩
      refine XS.aload X0.here hx rfl (hb hby at_309) rfl rfl ?_
      refine st1.trans ?_
      refine XS.ifYes X1.here hx rfl (pc0 := 314) (pc' := 319) rfl (hb hby at_314) rfl ((if0 _ _).trans (feq (by decide)).2) (by decide) (by decide) ?_
      refine XS.aload X1.here hx rfl (hb hby at_319) rfl rfl ?_
      refine st2.trans ?_
      refine st3 _ ?_
      refine XS.astore X3.here hx rfl (hb hby at_327) rfl rfl (l' := #[.val (.int q1), .val (.int q2), .val (.int q3), .val (.int q4), .val (.int q5), .val (.int q6), .val (.ref ca), .val (.ref ar), .val (.ref ln), .val (.int u9), .val (.int u10), .val (.int u11), .val (.int u12), .val (.int (Int32.ofNat sq)), .val (.int (Int32.ofNat (sq + ct.length))), .val (.ref og), .val (.ref x), .unset]) rfl ?_
      refine XS.iload X3.here hx rfl (hb hby at_329) rfl ?_
      refine XS.iload X3.here hx rfl (hb hby at_331) rfl ?_
      refine XS.isub X3.here hx rfl (hb hby at_333) rfl ?_
      show Steps p.tables e below (T3.setTop (mkF m 334 #[.val (.int q1), .val (.int q2), .val (.int q3), .val (.int q4), .val (.int q5), .val (.int q6), .val (.ref ca), .val (.ref ar), .val (.ref ln), .val (.int u9), .val (.int u10), .val (.int u11), .val (.int u12), .val (.int (Int32.ofNat sq)), .val (.int (Int32.ofNat (sq + ct.length))), .val (.ref og), .val (.ref x), .unset] [(.int ((Int32.ofNat (sq + ct.length)) - (Int32.ofNat sq)))])) _
      rw [(own_xsubw (show sq + ct.length < 16 by omega))]
      refine XS.istore X3.here hx rfl (hb hby at_334) rfl (l' := #[.val (.int q1), .val (.int q2), .val (.int q3), .val (.int q4), .val (.int q5), .val (.int q6), .val (.ref ca), .val (.ref ar), .val (.ref ln), .val (.int u9), .val (.int u10), .val (.int u11), .val (.int u12), .val (.int (Int32.ofNat sq)), .val (.int (Int32.ofNat (sq + ct.length))), .val (.ref og), .val (.ref x), .val (.int (Int32.ofNat ct.length))]) rfl ?_
      refine XS.aload X3.here hx rfl (hb hby at_336) rfl rfl ?_
      refine st4.trans ?_
      refine XS.iload X4.here hx rfl (hb hby at_341) rfl ?_
      refine XS.icmpYes X4.here hx rfl (pc0 := 343) (pc' := 348) rfl (hb hby at_343) rfl (teq hr4).1 (by decide) (by decide) ?_
      refine XS.iconst X4.here hx rfl (hb hby at_348) ?_
      refine XS.iload X4.here hx rfl (hb hby at_349) rfl ?_
      refine XS.icmpNo X4.here hx rfl (hb hby at_351) rfl (tlt ((own_xlt (i := 0) (by decide) (by omega)).mpr (by omega))).2.1 ?_
      refine XS.aload X4.here hx rfl (hb hby at_354) rfl rfl ?_
      refine XS.iconst X4.here hx rfl (hb hby at_356) ?_
      refine st5.trans ?_
      refine XS.aload X5.here hx rfl (hb hby at_360) rfl rfl ?_
      refine XS.iload X5.here hx rfl (hb hby at_362) rfl ?_
      refine X5.caload hx (j := (Int32.ofNat sq)) (v := (.int (ct.getD 0 0))) (by rw [e5]; exact Ar6.1) (State.isArrayOf_alike hZ.alike Ar6.2.1) Ar6.2.2 hin7 hat7 (g := (mkF m 364 #[.val (.int q1), .val (.int q2), .val (.int q3), .val (.int q4), .val (.int q5), .val (.int q6), .val (.ref ca), .val (.ref ar), .val (.ref ln), .val (.int u9), .val (.int u10), .val (.int u11), .val (.int u12), .val (.int (Int32.ofNat sq)), .val (.int (Int32.ofNat (sq + ct.length))), .val (.ref og), .val (.ref x), .val (.int (Int32.ofNat ct.length))] [(.int (Int32.ofNat sq)), (.ref ca), (.int r5)])) rfl rfl (hb hby at_364) _ ?_
      refine XS.icmpYes X5.here hx rfl (pc0 := 365) (pc' := 370) rfl (hb hby at_365) rfl (teq hr5).1 (by decide) (by decide) ?_
      refine XS.iconst X5.here hx rfl (hb hby at_370) ?_
      refine XS.iload X5.here hx rfl (hb hby at_371) rfl ?_
      refine XS.icmpNo X5.here hx rfl (hb hby at_373) rfl (tlt ((own_xlt (i := 1) (by decide) (by omega)).mpr (by omega))).2.1 ?_
      refine XS.aload X5.here hx rfl (hb hby at_376) rfl rfl ?_
      refine XS.iconst X5.here hx rfl (hb hby at_378) ?_
      refine st8.trans ?_
      refine XS.aload X8.here hx rfl (hb hby at_382) rfl rfl ?_
      refine XS.iload X8.here hx rfl (hb hby at_384) rfl ?_
      refine XS.iconst X8.here hx rfl (hb hby at_386) ?_
      refine XS.iadd X8.here hx rfl (hb hby at_387) rfl ?_
      show Steps p.tables e below (T8.setTop (mkF m 388 #[.val (.int q1), .val (.int q2), .val (.int q3), .val (.int q4), .val (.int q5), .val (.int q6), .val (.ref ca), .val (.ref ar), .val (.ref ln), .val (.int u9), .val (.int u10), .val (.int u11), .val (.int u12), .val (.int (Int32.ofNat sq)), .val (.int (Int32.ofNat (sq + ct.length))), .val (.ref og), .val (.ref x), .val (.int (Int32.ofNat ct.length))] [(.int ((Int32.ofNat sq) + (1 : Int32))), (.ref ca), (.int r8)])) _
      rw [(show Int32.ofNat sq + (1 : Int32) = Int32.ofNat (sq + 1) from own_xadd (i := sq) (j := 1) (by omega) (by decide))]
      refine X8.caload hx (j := (Int32.ofNat (sq + 1))) (v := (.int (ct.getD 1 0))) (by rw [e8]; exact Ar9.1) (State.isArrayOf_alike hZ.alike Ar9.2.1) Ar9.2.2 hin10 hat10 (g := (mkF m 388 #[.val (.int q1), .val (.int q2), .val (.int q3), .val (.int q4), .val (.int q5), .val (.int q6), .val (.ref ca), .val (.ref ar), .val (.ref ln), .val (.int u9), .val (.int u10), .val (.int u11), .val (.int u12), .val (.int (Int32.ofNat sq)), .val (.int (Int32.ofNat (sq + ct.length))), .val (.ref og), .val (.ref x), .val (.int (Int32.ofNat ct.length))] [(.int (Int32.ofNat (sq + 1))), (.ref ca), (.int r8)])) rfl rfl (hb hby at_388) _ ?_
      refine XS.icmpYes X8.here hx rfl (pc0 := 389) (pc' := 394) rfl (hb hby at_389) rfl (teq hr8).1 (by decide) (by decide) ?_
      refine XS.iconst X8.here hx rfl (hb hby at_394) ?_
      refine XS.iload X8.here hx rfl (hb hby at_395) rfl ?_
      refine XS.icmpYes X8.here hx rfl (pc0 := 397) (pc' := 418) rfl (hb hby at_397) rfl (flt (own_xle (b := 2) (by decide) (by omega))).2.1 (by decide) (by decide) ?_
      refine XS.iconst X8.here hx rfl (hb hby at_418) ?_
      refine XS.iload X8.here hx rfl (hb hby at_419) rfl ?_
      refine XS.icmpYes X8.here hx rfl (pc0 := 421) (pc' := 442) rfl (hb hby at_421) rfl (flt (own_xle (b := 3) (by decide) (by omega))).2.1 (by decide) (by decide) ?_
      refine XS.iconst X8.here hx rfl (hb hby at_442) ?_
      exact kt
  · skip
    refine ⟨T5, _, X5, e5, N5, fun target kt => ?_⟩
    refine XS.aload X0.here hx rfl (hb hby at_309) rfl rfl ?_
    refine st1.trans ?_
    refine XS.ifYes X1.here hx rfl (pc0 := 314) (pc' := 319) rfl (hb hby at_314) rfl ((if0 _ _).trans (feq (by decide)).2) (by decide) (by decide) ?_
    refine XS.aload X1.here hx rfl (hb hby at_319) rfl rfl ?_
    refine st2.trans ?_
    refine st3 _ ?_
    refine XS.astore X3.here hx rfl (hb hby at_327) rfl rfl (l' := #[.val (.int q1), .val (.int q2), .val (.int q3), .val (.int q4), .val (.int q5), .val (.int q6), .val (.ref ca), .val (.ref ar), .val (.ref ln), .val (.int u9), .val (.int u10), .val (.int u11), .val (.int u12), .val (.int (Int32.ofNat sq)), .val (.int (Int32.ofNat (sq + ct.length))), .val (.ref og), .val (.ref x), .unset]) rfl ?_
    refine XS.iload X3.here hx rfl (hb hby at_329) rfl ?_
    refine XS.iload X3.here hx rfl (hb hby at_331) rfl ?_
    refine XS.isub X3.here hx rfl (hb hby at_333) rfl ?_
    show Steps p.tables e below (T3.setTop (mkF m 334 #[.val (.int q1), .val (.int q2), .val (.int q3), .val (.int q4), .val (.int q5), .val (.int q6), .val (.ref ca), .val (.ref ar), .val (.ref ln), .val (.int u9), .val (.int u10), .val (.int u11), .val (.int u12), .val (.int (Int32.ofNat sq)), .val (.int (Int32.ofNat (sq + ct.length))), .val (.ref og), .val (.ref x), .unset] [(.int ((Int32.ofNat (sq + ct.length)) - (Int32.ofNat sq)))])) _
    rw [(own_xsubw (show sq + ct.length < 16 by omega))]
    refine XS.istore X3.here hx rfl (hb hby at_334) rfl (l' := #[.val (.int q1), .val (.int q2), .val (.int q3), .val (.int q4), .val (.int q5), .val (.int q6), .val (.ref ca), .val (.ref ar), .val (.ref ln), .val (.int u9), .val (.int u10), .val (.int u11), .val (.int u12), .val (.int (Int32.ofNat sq)), .val (.int (Int32.ofNat (sq + ct.length))), .val (.ref og), .val (.ref x), .val (.int (Int32.ofNat ct.length))]) rfl ?_
    refine XS.aload X3.here hx rfl (hb hby at_336) rfl rfl ?_
    refine st4.trans ?_
    refine XS.iload X4.here hx rfl (hb hby at_341) rfl ?_
    refine XS.icmpYes X4.here hx rfl (pc0 := 343) (pc' := 348) rfl (hb hby at_343) rfl (teq hr4).1 (by decide) (by decide) ?_
    refine XS.iconst X4.here hx rfl (hb hby at_348) ?_
    refine XS.iload X4.here hx rfl (hb hby at_349) rfl ?_
    refine XS.icmpNo X4.here hx rfl (hb hby at_351) rfl (tlt ((own_xlt (i := 0) (by decide) (by omega)).mpr (by omega))).2.1 ?_
    refine XS.aload X4.here hx rfl (hb hby at_354) rfl rfl ?_
    refine XS.iconst X4.here hx rfl (hb hby at_356) ?_
    refine st5.trans ?_
    refine XS.aload X5.here hx rfl (hb hby at_360) rfl rfl ?_
    refine XS.iload X5.here hx rfl (hb hby at_362) rfl ?_
    refine X5.caload hx (j := (Int32.ofNat sq)) (v := (.int (ct.getD 0 0))) (by rw [e5]; exact Ar6.1) (State.isArrayOf_alike hZ.alike Ar6.2.1) Ar6.2.2 hin7 hat7 (g := (mkF m 364 #[.val (.int q1), .val (.int q2), .val (.int q3), .val (.int q4), .val (.int q5), .val (.int q6), .val (.ref ca), .val (.ref ar), .val (.ref ln), .val (.int u9), .val (.int u10), .val (.int u11), .val (.int u12), .val (.int (Int32.ofNat sq)), .val (.int (Int32.ofNat (sq + ct.length))), .val (.ref og), .val (.ref x), .val (.int (Int32.ofNat ct.length))] [(.int (Int32.ofNat sq)), (.ref ca), (.int r5)])) rfl rfl (hb hby at_364) _ ?_
    refine XS.icmpYes X5.here hx rfl (pc0 := 365) (pc' := 370) rfl (hb hby at_365) rfl (teq hr5).1 (by decide) (by decide) ?_
    refine XS.iconst X5.here hx rfl (hb hby at_370) ?_
    refine XS.iload X5.here hx rfl (hb hby at_371) rfl ?_
    refine XS.icmpYes X5.here hx rfl (pc0 := 373) (pc' := 394) rfl (hb hby at_373) rfl (flt (own_xle (b := 1) (by decide) (by omega))).2.1 (by decide) (by decide) ?_
    refine XS.iconst X5.here hx rfl (hb hby at_394) ?_
    refine XS.iload X5.here hx rfl (hb hby at_395) rfl ?_
    refine XS.icmpYes X5.here hx rfl (pc0 := 397) (pc' := 418) rfl (hb hby at_397) rfl (flt (own_xle (b := 2) (by decide) (by omega))).2.1 (by decide) (by decide) ?_
    refine XS.iconst X5.here hx rfl (hb hby at_418) ?_
    refine XS.iload X5.here hx rfl (hb hby at_419) rfl ?_
    refine XS.icmpYes X5.here hx rfl (pc0 := 421) (pc' := 442) rfl (hb hby at_421) rfl (flt (own_xle (b := 3) (by decide) (by omega))).2.1 (by decide) (by decide) ?_
    refine XS.iconst X5.here hx rfl (hb hby at_442) ?_
    exact kt
set_option maxRecDepth 65536 in
set_option maxHeartbeats 40000000 in
theorem own_blk {p : Program} {l : Launch} {e : Env} {R : Room} {s : State} {m : MethodId} {args : Array Value} {below : List Frame} {meth : Method} {c : Code} {cells slots : Nat} {ca ar ln : Addr} {q1 q2 q3 q4 q5 q6 u9 u10 u11 u12 : Int32} {T0 : State} {L0 : List Loc} (X0 : Stand p l e R s m args below meth c T0 L0 cells slots) (hx : p.tables.exec = Jvm.exec) (hby : c.code = code) (sv ev : Int32) (hsv : sv = if u9 = (0 : Int32) then (if u10 = (0 : Int32) then (if u11 = (0 : Int32) then (if u12 = (0 : Int32) then q6 else (3 : Int32)) else (2 : Int32)) else (1 : Int32)) else (0 : Int32)) (hev : ev = if u12 = (0 : Int32) then (if u11 = (0 : Int32) then (if u10 = (0 : Int32) then (if u9 = (0 : Int32) then (0 : Int32) else (1 : Int32)) else (2 : Int32)) else (3 : Int32)) else (4 : Int32)) (target : State) (kt : Steps p.tables e below (T0.setTop (mkF m 281 #[.val (.int q1), .val (.int q2), .val (.int q3), .val (.int q4), .val (.int q5), .val (.int q6), .val (.ref ca), .val (.ref ar), .val (.ref ln), .val (.int u9), .val (.int u10), .val (.int u11), .val (.int u12), .val (.int sv), .val (.int ev), .unset, .unset, .unset] [])) target) : Steps p.tables e below (T0.setTop (mkF m 210 #[.val (.int q1), .val (.int q2), .val (.int q3), .val (.int q4), .val (.int q5), .val (.int q6), .val (.ref ca), .val (.ref ar), .val (.ref ln), .val (.int u9), .val (.int u10), .val (.int u11), .val (.int u12), .unset, .unset, .unset, .unset, .unset] [])) target := by
  obtain ⟨v0, hv0⟩ : ∃ z : Int32, z = (if u12 = (0 : Int32) then q6 else (3 : Int32)) := ⟨_, rfl⟩
  have sg1 : ∀ tg0, Steps p.tables e below (T0.setTop (mkF m 222 #[.val (.int q1), .val (.int q2), .val (.int q3), .val (.int q4), .val (.int q5), .val (.int q6), .val (.ref ca), .val (.ref ar), .val (.ref ln), .val (.int u9), .val (.int u10), .val (.int u11), .val (.int u12), .val (.int v0), .unset, .unset, .unset, .unset] [])) tg0 → Steps p.tables e below (T0.setTop (mkF m 210 #[.val (.int q1), .val (.int q2), .val (.int q3), .val (.int q4), .val (.int q5), .val (.int q6), .val (.ref ca), .val (.ref ar), .val (.ref ln), .val (.int u9), .val (.int u10), .val (.int u11), .val (.int u12), .unset, .unset, .unset, .unset, .unset] [])) tg0 := by
    intro tg0 kt
    by_cases hj1_216 : u12 = (0 : Int32)
    · rw [if_pos hj1_216] at hv0
      rw [hv0] at kt
      refine XS.iload X0.here hx rfl (hb hby at_210) rfl ?_
      refine XS.istore X0.here hx rfl (hb hby at_212) rfl (l' := #[.val (.int q1), .val (.int q2), .val (.int q3), .val (.int q4), .val (.int q5), .val (.int q6), .val (.ref ca), .val (.ref ar), .val (.ref ln), .val (.int u9), .val (.int u10), .val (.int u11), .val (.int u12), .val (.int q6), .unset, .unset, .unset, .unset]) rfl ?_
      refine XS.iload X0.here hx rfl (hb hby at_214) rfl ?_
      refine XS.ifYes X0.here hx rfl (pc0 := 216) (pc' := 222) rfl (hb hby at_216) rfl ((if0 _ _).trans (teq hj1_216).1) (by decide) (by decide) ?_
      exact kt
    · rw [if_neg hj1_216] at hv0
      rw [hv0] at kt
      refine XS.iload X0.here hx rfl (hb hby at_210) rfl ?_
      refine XS.istore X0.here hx rfl (hb hby at_212) rfl (l' := #[.val (.int q1), .val (.int q2), .val (.int q3), .val (.int q4), .val (.int q5), .val (.int q6), .val (.ref ca), .val (.ref ar), .val (.ref ln), .val (.int u9), .val (.int u10), .val (.int u11), .val (.int u12), .val (.int q6), .unset, .unset, .unset, .unset]) rfl ?_
      refine XS.iload X0.here hx rfl (hb hby at_214) rfl ?_
      refine XS.ifNo X0.here hx rfl (hb hby at_216) rfl ((if0 _ _).trans (feq hj1_216).1) ?_
      refine XS.iconst X0.here hx rfl (hb hby at_219) ?_
      refine XS.istore X0.here hx rfl (hb hby at_220) rfl (l' := #[.val (.int q1), .val (.int q2), .val (.int q3), .val (.int q4), .val (.int q5), .val (.int q6), .val (.ref ca), .val (.ref ar), .val (.ref ln), .val (.int u9), .val (.int u10), .val (.int u11), .val (.int u12), .val (.int (3 : Int32)), .unset, .unset, .unset, .unset]) rfl ?_
      exact kt
  obtain ⟨v1, hv1⟩ : ∃ z : Int32, z = (if u11 = (0 : Int32) then v0 else (2 : Int32)) := ⟨_, rfl⟩
  have sg2 : ∀ tg0, Steps p.tables e below (T0.setTop (mkF m 230 #[.val (.int q1), .val (.int q2), .val (.int q3), .val (.int q4), .val (.int q5), .val (.int q6), .val (.ref ca), .val (.ref ar), .val (.ref ln), .val (.int u9), .val (.int u10), .val (.int u11), .val (.int u12), .val (.int v1), .unset, .unset, .unset, .unset] [])) tg0 → Steps p.tables e below (T0.setTop (mkF m 222 #[.val (.int q1), .val (.int q2), .val (.int q3), .val (.int q4), .val (.int q5), .val (.int q6), .val (.ref ca), .val (.ref ar), .val (.ref ln), .val (.int u9), .val (.int u10), .val (.int u11), .val (.int u12), .val (.int v0), .unset, .unset, .unset, .unset] [])) tg0 := by
    intro tg0 kt
    by_cases hj2_224 : u11 = (0 : Int32)
    · rw [if_pos hj2_224] at hv1
      rw [hv1] at kt
      refine XS.iload X0.here hx rfl (hb hby at_222) rfl ?_
      refine XS.ifYes X0.here hx rfl (pc0 := 224) (pc' := 230) rfl (hb hby at_224) rfl ((if0 _ _).trans (teq hj2_224).1) (by decide) (by decide) ?_
      exact kt
    · rw [if_neg hj2_224] at hv1
      rw [hv1] at kt
      refine XS.iload X0.here hx rfl (hb hby at_222) rfl ?_
      refine XS.ifNo X0.here hx rfl (hb hby at_224) rfl ((if0 _ _).trans (feq hj2_224).1) ?_
      refine XS.iconst X0.here hx rfl (hb hby at_227) ?_
      refine XS.istore X0.here hx rfl (hb hby at_228) rfl (l' := #[.val (.int q1), .val (.int q2), .val (.int q3), .val (.int q4), .val (.int q5), .val (.int q6), .val (.ref ca), .val (.ref ar), .val (.ref ln), .val (.int u9), .val (.int u10), .val (.int u11), .val (.int u12), .val (.int (2 : Int32)), .unset, .unset, .unset, .unset]) rfl ?_
      exact kt
  obtain ⟨v2, hv2⟩ : ∃ z : Int32, z = (if u10 = (0 : Int32) then v1 else (1 : Int32)) := ⟨_, rfl⟩
  have sg3 : ∀ tg0, Steps p.tables e below (T0.setTop (mkF m 238 #[.val (.int q1), .val (.int q2), .val (.int q3), .val (.int q4), .val (.int q5), .val (.int q6), .val (.ref ca), .val (.ref ar), .val (.ref ln), .val (.int u9), .val (.int u10), .val (.int u11), .val (.int u12), .val (.int v2), .unset, .unset, .unset, .unset] [])) tg0 → Steps p.tables e below (T0.setTop (mkF m 230 #[.val (.int q1), .val (.int q2), .val (.int q3), .val (.int q4), .val (.int q5), .val (.int q6), .val (.ref ca), .val (.ref ar), .val (.ref ln), .val (.int u9), .val (.int u10), .val (.int u11), .val (.int u12), .val (.int v1), .unset, .unset, .unset, .unset] [])) tg0 := by
    intro tg0 kt
    by_cases hj3_232 : u10 = (0 : Int32)
    · rw [if_pos hj3_232] at hv2
      rw [hv2] at kt
      refine XS.iload X0.here hx rfl (hb hby at_230) rfl ?_
      refine XS.ifYes X0.here hx rfl (pc0 := 232) (pc' := 238) rfl (hb hby at_232) rfl ((if0 _ _).trans (teq hj3_232).1) (by decide) (by decide) ?_
      exact kt
    · rw [if_neg hj3_232] at hv2
      rw [hv2] at kt
      refine XS.iload X0.here hx rfl (hb hby at_230) rfl ?_
      refine XS.ifNo X0.here hx rfl (hb hby at_232) rfl ((if0 _ _).trans (feq hj3_232).1) ?_
      refine XS.iconst X0.here hx rfl (hb hby at_235) ?_
      refine XS.istore X0.here hx rfl (hb hby at_236) rfl (l' := #[.val (.int q1), .val (.int q2), .val (.int q3), .val (.int q4), .val (.int q5), .val (.int q6), .val (.ref ca), .val (.ref ar), .val (.ref ln), .val (.int u9), .val (.int u10), .val (.int u11), .val (.int u12), .val (.int (1 : Int32)), .unset, .unset, .unset, .unset]) rfl ?_
      exact kt
  obtain ⟨v3, hv3⟩ : ∃ z : Int32, z = (if u9 = (0 : Int32) then v2 else (0 : Int32)) := ⟨_, rfl⟩
  have sg4 : ∀ tg0, Steps p.tables e below (T0.setTop (mkF m 246 #[.val (.int q1), .val (.int q2), .val (.int q3), .val (.int q4), .val (.int q5), .val (.int q6), .val (.ref ca), .val (.ref ar), .val (.ref ln), .val (.int u9), .val (.int u10), .val (.int u11), .val (.int u12), .val (.int v3), .unset, .unset, .unset, .unset] [])) tg0 → Steps p.tables e below (T0.setTop (mkF m 238 #[.val (.int q1), .val (.int q2), .val (.int q3), .val (.int q4), .val (.int q5), .val (.int q6), .val (.ref ca), .val (.ref ar), .val (.ref ln), .val (.int u9), .val (.int u10), .val (.int u11), .val (.int u12), .val (.int v2), .unset, .unset, .unset, .unset] [])) tg0 := by
    intro tg0 kt
    by_cases hj4_240 : u9 = (0 : Int32)
    · rw [if_pos hj4_240] at hv3
      rw [hv3] at kt
      refine XS.iload X0.here hx rfl (hb hby at_238) rfl ?_
      refine XS.ifYes X0.here hx rfl (pc0 := 240) (pc' := 246) rfl (hb hby at_240) rfl ((if0 _ _).trans (teq hj4_240).1) (by decide) (by decide) ?_
      exact kt
    · rw [if_neg hj4_240] at hv3
      rw [hv3] at kt
      refine XS.iload X0.here hx rfl (hb hby at_238) rfl ?_
      refine XS.ifNo X0.here hx rfl (hb hby at_240) rfl ((if0 _ _).trans (feq hj4_240).1) ?_
      refine XS.iconst X0.here hx rfl (hb hby at_243) ?_
      refine XS.istore X0.here hx rfl (hb hby at_244) rfl (l' := #[.val (.int q1), .val (.int q2), .val (.int q3), .val (.int q4), .val (.int q5), .val (.int q6), .val (.ref ca), .val (.ref ar), .val (.ref ln), .val (.int u9), .val (.int u10), .val (.int u11), .val (.int u12), .val (.int (0 : Int32)), .unset, .unset, .unset, .unset]) rfl ?_
      exact kt
  obtain ⟨v4, hv4⟩ : ∃ z : Int32, z = (if u9 = (0 : Int32) then (0 : Int32) else (1 : Int32)) := ⟨_, rfl⟩
  have sg5 : ∀ tg0, Steps p.tables e below (T0.setTop (mkF m 257 #[.val (.int q1), .val (.int q2), .val (.int q3), .val (.int q4), .val (.int q5), .val (.int q6), .val (.ref ca), .val (.ref ar), .val (.ref ln), .val (.int u9), .val (.int u10), .val (.int u11), .val (.int u12), .val (.int v3), .val (.int v4), .unset, .unset, .unset] [])) tg0 → Steps p.tables e below (T0.setTop (mkF m 246 #[.val (.int q1), .val (.int q2), .val (.int q3), .val (.int q4), .val (.int q5), .val (.int q6), .val (.ref ca), .val (.ref ar), .val (.ref ln), .val (.int u9), .val (.int u10), .val (.int u11), .val (.int u12), .val (.int v3), .unset, .unset, .unset, .unset] [])) tg0 := by
    intro tg0 kt
    by_cases hj5_251 : u9 = (0 : Int32)
    · rw [if_pos hj5_251] at hv4
      rw [hv4] at kt
      refine XS.iconst X0.here hx rfl (hb hby at_246) ?_
      refine XS.istore X0.here hx rfl (hb hby at_247) rfl (l' := #[.val (.int q1), .val (.int q2), .val (.int q3), .val (.int q4), .val (.int q5), .val (.int q6), .val (.ref ca), .val (.ref ar), .val (.ref ln), .val (.int u9), .val (.int u10), .val (.int u11), .val (.int u12), .val (.int v3), .val (.int (0 : Int32)), .unset, .unset, .unset]) rfl ?_
      refine XS.iload X0.here hx rfl (hb hby at_249) rfl ?_
      refine XS.ifYes X0.here hx rfl (pc0 := 251) (pc' := 257) rfl (hb hby at_251) rfl ((if0 _ _).trans (teq hj5_251).1) (by decide) (by decide) ?_
      exact kt
    · rw [if_neg hj5_251] at hv4
      rw [hv4] at kt
      refine XS.iconst X0.here hx rfl (hb hby at_246) ?_
      refine XS.istore X0.here hx rfl (hb hby at_247) rfl (l' := #[.val (.int q1), .val (.int q2), .val (.int q3), .val (.int q4), .val (.int q5), .val (.int q6), .val (.ref ca), .val (.ref ar), .val (.ref ln), .val (.int u9), .val (.int u10), .val (.int u11), .val (.int u12), .val (.int v3), .val (.int (0 : Int32)), .unset, .unset, .unset]) rfl ?_
      refine XS.iload X0.here hx rfl (hb hby at_249) rfl ?_
      refine XS.ifNo X0.here hx rfl (hb hby at_251) rfl ((if0 _ _).trans (feq hj5_251).1) ?_
      refine XS.iconst X0.here hx rfl (hb hby at_254) ?_
      refine XS.istore X0.here hx rfl (hb hby at_255) rfl (l' := #[.val (.int q1), .val (.int q2), .val (.int q3), .val (.int q4), .val (.int q5), .val (.int q6), .val (.ref ca), .val (.ref ar), .val (.ref ln), .val (.int u9), .val (.int u10), .val (.int u11), .val (.int u12), .val (.int v3), .val (.int (1 : Int32)), .unset, .unset, .unset]) rfl ?_
      exact kt
  obtain ⟨v5, hv5⟩ : ∃ z : Int32, z = (if u10 = (0 : Int32) then v4 else (2 : Int32)) := ⟨_, rfl⟩
  have sg6 : ∀ tg0, Steps p.tables e below (T0.setTop (mkF m 265 #[.val (.int q1), .val (.int q2), .val (.int q3), .val (.int q4), .val (.int q5), .val (.int q6), .val (.ref ca), .val (.ref ar), .val (.ref ln), .val (.int u9), .val (.int u10), .val (.int u11), .val (.int u12), .val (.int v3), .val (.int v5), .unset, .unset, .unset] [])) tg0 → Steps p.tables e below (T0.setTop (mkF m 257 #[.val (.int q1), .val (.int q2), .val (.int q3), .val (.int q4), .val (.int q5), .val (.int q6), .val (.ref ca), .val (.ref ar), .val (.ref ln), .val (.int u9), .val (.int u10), .val (.int u11), .val (.int u12), .val (.int v3), .val (.int v4), .unset, .unset, .unset] [])) tg0 := by
    intro tg0 kt
    by_cases hj6_259 : u10 = (0 : Int32)
    · rw [if_pos hj6_259] at hv5
      rw [hv5] at kt
      refine XS.iload X0.here hx rfl (hb hby at_257) rfl ?_
      refine XS.ifYes X0.here hx rfl (pc0 := 259) (pc' := 265) rfl (hb hby at_259) rfl ((if0 _ _).trans (teq hj6_259).1) (by decide) (by decide) ?_
      exact kt
    · rw [if_neg hj6_259] at hv5
      rw [hv5] at kt
      refine XS.iload X0.here hx rfl (hb hby at_257) rfl ?_
      refine XS.ifNo X0.here hx rfl (hb hby at_259) rfl ((if0 _ _).trans (feq hj6_259).1) ?_
      refine XS.iconst X0.here hx rfl (hb hby at_262) ?_
      refine XS.istore X0.here hx rfl (hb hby at_263) rfl (l' := #[.val (.int q1), .val (.int q2), .val (.int q3), .val (.int q4), .val (.int q5), .val (.int q6), .val (.ref ca), .val (.ref ar), .val (.ref ln), .val (.int u9), .val (.int u10), .val (.int u11), .val (.int u12), .val (.int v3), .val (.int (2 : Int32)), .unset, .unset, .unset]) rfl ?_
      exact kt
  obtain ⟨v6, hv6⟩ : ∃ z : Int32, z = (if u11 = (0 : Int32) then v5 else (3 : Int32)) := ⟨_, rfl⟩
  have sg7 : ∀ tg0, Steps p.tables e below (T0.setTop (mkF m 273 #[.val (.int q1), .val (.int q2), .val (.int q3), .val (.int q4), .val (.int q5), .val (.int q6), .val (.ref ca), .val (.ref ar), .val (.ref ln), .val (.int u9), .val (.int u10), .val (.int u11), .val (.int u12), .val (.int v3), .val (.int v6), .unset, .unset, .unset] [])) tg0 → Steps p.tables e below (T0.setTop (mkF m 265 #[.val (.int q1), .val (.int q2), .val (.int q3), .val (.int q4), .val (.int q5), .val (.int q6), .val (.ref ca), .val (.ref ar), .val (.ref ln), .val (.int u9), .val (.int u10), .val (.int u11), .val (.int u12), .val (.int v3), .val (.int v5), .unset, .unset, .unset] [])) tg0 := by
    intro tg0 kt
    by_cases hj7_267 : u11 = (0 : Int32)
    · rw [if_pos hj7_267] at hv6
      rw [hv6] at kt
      refine XS.iload X0.here hx rfl (hb hby at_265) rfl ?_
      refine XS.ifYes X0.here hx rfl (pc0 := 267) (pc' := 273) rfl (hb hby at_267) rfl ((if0 _ _).trans (teq hj7_267).1) (by decide) (by decide) ?_
      exact kt
    · rw [if_neg hj7_267] at hv6
      rw [hv6] at kt
      refine XS.iload X0.here hx rfl (hb hby at_265) rfl ?_
      refine XS.ifNo X0.here hx rfl (hb hby at_267) rfl ((if0 _ _).trans (feq hj7_267).1) ?_
      refine XS.iconst X0.here hx rfl (hb hby at_270) ?_
      refine XS.istore X0.here hx rfl (hb hby at_271) rfl (l' := #[.val (.int q1), .val (.int q2), .val (.int q3), .val (.int q4), .val (.int q5), .val (.int q6), .val (.ref ca), .val (.ref ar), .val (.ref ln), .val (.int u9), .val (.int u10), .val (.int u11), .val (.int u12), .val (.int v3), .val (.int (3 : Int32)), .unset, .unset, .unset]) rfl ?_
      exact kt
  obtain ⟨v7, hv7⟩ : ∃ z : Int32, z = (if u12 = (0 : Int32) then v6 else (4 : Int32)) := ⟨_, rfl⟩
  have sg8 : ∀ tg0, Steps p.tables e below (T0.setTop (mkF m 281 #[.val (.int q1), .val (.int q2), .val (.int q3), .val (.int q4), .val (.int q5), .val (.int q6), .val (.ref ca), .val (.ref ar), .val (.ref ln), .val (.int u9), .val (.int u10), .val (.int u11), .val (.int u12), .val (.int v3), .val (.int v7), .unset, .unset, .unset] [])) tg0 → Steps p.tables e below (T0.setTop (mkF m 273 #[.val (.int q1), .val (.int q2), .val (.int q3), .val (.int q4), .val (.int q5), .val (.int q6), .val (.ref ca), .val (.ref ar), .val (.ref ln), .val (.int u9), .val (.int u10), .val (.int u11), .val (.int u12), .val (.int v3), .val (.int v6), .unset, .unset, .unset] [])) tg0 := by
    intro tg0 kt
    by_cases hj8_275 : u12 = (0 : Int32)
    · rw [if_pos hj8_275] at hv7
      rw [hv7] at kt
      refine XS.iload X0.here hx rfl (hb hby at_273) rfl ?_
      refine XS.ifYes X0.here hx rfl (pc0 := 275) (pc' := 281) rfl (hb hby at_275) rfl ((if0 _ _).trans (teq hj8_275).1) (by decide) (by decide) ?_
      exact kt
    · rw [if_neg hj8_275] at hv7
      rw [hv7] at kt
      refine XS.iload X0.here hx rfl (hb hby at_273) rfl ?_
      refine XS.ifNo X0.here hx rfl (hb hby at_275) rfl ((if0 _ _).trans (feq hj8_275).1) ?_
      refine XS.iconst X0.here hx rfl (hb hby at_278) ?_
      refine XS.istore X0.here hx rfl (hb hby at_279) rfl (l' := #[.val (.int q1), .val (.int q2), .val (.int q3), .val (.int q4), .val (.int q5), .val (.int q6), .val (.ref ca), .val (.ref ar), .val (.ref ln), .val (.int u9), .val (.int u10), .val (.int u11), .val (.int u12), .val (.int v3), .val (.int (4 : Int32)), .unset, .unset, .unset]) rfl ?_
      exact kt
  have es : v3 = sv := by rw [hsv, hv3, hv2, hv1, hv0]
  have ee : v7 = ev := by rw [hev, hv7, hv6, hv5, hv4]
  rw [← es, ← ee] at kt
  refine sg1 _ ?_
  refine sg2 _ ?_
  refine sg3 _ ?_
  refine sg4 _ ?_
  refine sg5 _ ?_
  refine sg6 _ ?_
  refine sg7 _ ?_
  refine sg8 _ ?_
  exact kt
theorem pd_32 : parseMethodDescriptor "([C)V" = some ⟨[(.array .char)], none⟩ := by decide +kernel
theorem pd_33 : parseMethodDescriptor "(Ljava/lang/String;)Ljava/util/Optional;" = some ⟨[(.object "java/lang/String")], some (.object "java/util/Optional")⟩ := by decide +kernel
theorem pn_0 : plainName "com/example/wrasse/wrasse/io/CorrectionFormatWordOfPinLaw" = true := by first | (simp [plainName, overriddenIn]; done) | decide +kernel
theorem ef_rm0 (m : MethodId) (p1 : Int32) (p2 : Int32) (p3 : Int32) (p4 : Int32) (p5 : Int32) : entryFrame m #[(.int p1), (.int p2), (.int p3), (.int p4), (.int p5)] maxLocals = mkF m 0 #[.val (.int p1), .val (.int p2), .val (.int p3), .val (.int p4), .val (.int p5), .unset, .unset, .unset, .unset, .unset, .unset, .unset, .unset, .unset, .unset, .unset, .unset, .unset] [] := by first | (simp [entryFrame, mkF, argsToLocals, Value.category, maxLocals]; done) | rfl
def Qrm0 (Z : State) (p1 : Int32) (p2 : Int32) (p3 : Int32) (p4 : Int32) (p5 : Int32) (G1 : Int32) (gv : Value) (eo : Addr) (h0 : Heap) (n0 : Nat) (v : Option Value) (h : Heap) (L : List Loc) : Prop := v = some (.int 1) ∧ Fr n0 L
set_option maxRecDepth 65536 in
set_option maxHeartbeats 40000000 in
theorem rm0 (l : Launch) (Z : State) (a0 : Array Value) (hw : ∀ d ∈ tables_1, d.before a0 Z = true) (ws : List Jvm.Cond) (p1 : Int32) (p2 : Int32) (p3 : Int32) (p4 : Int32) (p5 : Int32) (G1 : Int32) (gv : Value) (eo : Addr) (h0 : Heap) (n0 : Nat) (Z0 : n0 ≤ h0.size) (X00 : Old Z n0 h0) (O_S : Sta Z Z.heap "jdk/internal/util/Preconditions" "SIOOBE_FORMATTER" "Ljava/util/function/BiFunction;" gv) (hgv : gv.isRef = true) (O_2 : Sta Z Z.heap "java/lang/String" "COMPACT_STRINGS" "Z" (.int G1)) (P5 : ¬ (G1 = (0 : Int32))) (O_A : Sta Z Z.heap "java/lang/StringUTF16" "$assertionsDisabled" "Z" (.int (1 : Int32))) (O_H : Sta Z Z.heap "java/lang/StringUTF16" "HI_BYTE_SHIFT" "I" (.int (0 : Int32))) (O_W : Sta Z Z.heap "java/lang/StringUTF16" "LO_BYTE_SHIFT" "I" (.int (8 : Int32))) (O_E : Sta Z Z.heap "java/util/Optional" "EMPTY" "Ljava/util/Optional;" (.ref eo)) (O_EE : Exa Z Z.heap eo "java/util/Optional") (O_EV : Fld Z Z.heap eo "java/util/Optional" "value" "Ljava/lang/Object;" .null) (hheld : Jvm.Lit.constHeld Z "java/lang/String" 7) (hcw : Jvm.Lit.compactW.before a0 Z = true) :
    MetFree l x (head1 (Jvm.Cond.code x code maxLocals ret :: ws) room_1) (fun a U => a = #[(.int p1), (.int p2), (.int p3), (.int p4), (.int p5)] ∧ Z.Warmed39 U.vm ∧ U.heap = h0 ∧ U = Z) (fun _ _ _ _ _ => True) (fun _ U o U' => ∃ v L, o = .returned v ∧ Qrm0 Z p1 p2 p3 p4 p5 G1 gv eo h0 n0 v U'.heap L ∧ ReturnedEndW U o U' L room_1.cells room_1.slots) := by
  refine MetFree.of_bodySF (plainFor_of_name pn_0) hisR ?_
  intro p e s m args below meth c s₁ Bd hml0 hP hK
  obtain ⟨rfl, hZ, hh, hUZ⟩ := hP
  have hx := Bd.exec
  have hby := Bd.bytes
  have hml : c.maxLocals = 18 := hml0
  have hown : s.vm.findClass "com/example/wrasse/wrasse/io/CorrectionFormatWordOfPinLaw" = some m.cls := findClass_of_methodNamed Bd.named
  have hnm := (name_of_methodNamed Bd.named Bd.method).1
  have X0 : Stand p l e room_1 s m #[(.int p1), (.int p2), (.int p3), (.int p4), (.int p5)] below meth c s₁ [] 0 0 := Stand.of_body Bd
  have e0 : s₁.heap = h0 := by rw [← hh, Bd.state]; rfl
  have N0 := Fr.nil n0
  have pre0 : ∀ t, Steps p.tables e below (s₁.setTop (mkF m 0 #[.val (.int p1), .val (.int p2), .val (.int p3), .val (.int p4), .val (.int p5), .unset, .unset, .unset, .unset, .unset, .unset, .unset, .unset, .unset, .unset, .unset, .unset, .unset] [])) t → Steps p.tables e below (s₁.setTop (entryFrame m #[(.int p1), (.int p2), (.int p3), (.int p4), (.int p5)] maxLocals)) t := fun t k => castTop (ef_rm0 m p1 p2 p3 p4 p5) k
  have hS0 : s.Since s.vm s.heap.size := (State.WarmedH.refl s).since _
  have hUI : s.vm.interned = Z.vm.interned := by rw [hUZ]
  obtain ⟨T1, h1, ck1, X1, e1, E1, A1, st1⟩ := newP X0 hx hZ (hw _ (own_w 0 rfl)) e0 (g := (mkF m 10 #[.val (.int p1), .val (.int p2), .val (.int p3), .val (.int p4), .val (.int p5), .val (.int ((p5 &&& (7 : Int32)) % (5 : Int32))), .unset, .unset, .unset, .unset, .unset, .unset, .unset, .unset, .unset, .unset, .unset, .unset] [(.int (4 : Int32))])) rfl (hb hby at_10) rfl (by decide) (cap := 4) (by decide) (by decide) (by decide) (by decide)
  obtain ⟨b1o, g1⟩ : ∃ z, z = h0.size := ⟨_, rfl⟩
  have b1 : n0 ≤ b1o := Nat.le_trans Z0 (Nat.le_of_eq g1.symm)
  have ne2 : eo ≠ b1o := Nat.ne_of_lt (Nat.lt_of_lt_of_le (O_EE.ext X00.2).lt (Nat.le_of_eq g1.symm))
  rw [← g1] at A1 st1
  have Z1 : n0 ≤ h1.size := Nat.le_trans Z0 E1.1
  have V1 : Arv Z h1 b1o ck1 .char (4 : Int32) [(.int (0 : Int32)), (.int (0 : Int32)), (.int (0 : Int32)), (.int (0 : Int32))] (.int (0 : Int32)) := (Arv.new A1 (by decide)).pad (pad_rep [] (.int (0 : Int32)) 4)
  obtain ⟨_, _, ⟨T3, Lq3, kq3, nq3⟩, -, X3, ⟨Lc3, hQ3, lq3, yq3, zq3⟩, st3⟩ := Jvm.LawKit.callS X1 hx (y := (⟨"com/example/wrasse/wrasse/io/CorrectionFormatWordOfPinLaw", "ch", "(I)C"⟩ : MethodName)) hown (mvT hZ (hw _ (own_w 1 rfl))) (mvT hZ (hw _ (own_w 2 rfl))) (mvT hZ (hw _ (own_w 3 rfl))) (mvT hZ (hw _ (own_w 4 rfl))) (by decide) (backOf (W := 2) (rPk l Z a0 hw [] p1  h1 n0 Z1 ) hZ (hw _ (own_w 4 rfl)) (hw _ (own_w 3 rfl)) (by decide) (by decide)) (g := (mkF m 18 #[.val (.int p1), .val (.int p2), .val (.int p3), .val (.int p4), .val (.int p5), .val (.int ((p5 &&& (7 : Int32)) % (5 : Int32))), .val (.ref b1o), .unset, .unset, .unset, .unset, .unset, .unset, .unset, .unset, .unset, .unset, .unset] [(.int p1), (.int (0 : Int32)), (.ref b1o)])) rfl (by rw [hml]; rfl) (argsL := [(.int p1)]) (rest := [(.int (0 : Int32)), (.ref b1o)]) (lenOf pd_26 rfl) rfl (by show 2 * 0 + _ ≤ _; exact Nat.le_of_eq rfl) (hb hby at_18) (fun _ _ => ⟨rfl, e1, (by decide : 1 + 0 ≤ _), (by decide : 4 + 0 ≤ _)⟩)
  dsimp only [Pt.U, Pt.locs, Pt.cells, Pt.slots] at X3 lq3 yq3 zq3 st3 hQ3
  subst lq3 yq3 zq3
  obtain ⟨r3, hr3, rfl, N3q, e3⟩ := hQ3
  have N3 := Fr.app N0 N3q
  obtain ⟨cl4, Ar4, qk4, Sz4, Nn4, Hh4, Gg4⟩ := id (V1)
  have hin5 : ¬ ((0 : Int32) < 0 ∨ cl4.slots.size ≤ ((0 : Int32)).toNatClampNeg) := inb_of Sz4 ⟨by decide, by decide⟩
  obtain ⟨T5, h5, X5, e5, W5, st5⟩ := stC X3 hx hZ e3 Ar4 (j := (0 : Int32)) hin5  (g := (mkF m 21 #[.val (.int p1), .val (.int p2), .val (.int p3), .val (.int p4), .val (.int p5), .val (.int ((p5 &&& (7 : Int32)) % (5 : Int32))), .val (.ref b1o), .unset, .unset, .unset, .unset, .unset, .unset, .unset, .unset, .unset, .unset, .unset] [(.int r3), (.int (0 : Int32)), (.ref b1o)])) rfl rfl (hb hby at_21)
  have N5 := Fr.snoc X5 N3 b1
  have Z5 : n0 ≤ h5.size := by rw [W5.size]; exact Z1
  have V5 : Arv Z h5 b1o ck1 .char (4 : Int32) [(.int (nar .char r3)), (.int (0 : Int32)), (.int (0 : Int32)), (.int (0 : Int32))] (.int (0 : Int32)) := Arv.set Ar4 qk4 Sz4 Nn4 Hh4 Gg4 (fits_nar_char _) W5 0 rfl (Nat.le_of_ble_eq_true rfl)
  obtain ⟨_, _, ⟨T6, Lq6, kq6, nq6⟩, -, X6, ⟨Lc6, hQ6, lq6, yq6, zq6⟩, st6⟩ := Jvm.LawKit.callS X5 hx (y := (⟨"com/example/wrasse/wrasse/io/CorrectionFormatWordOfPinLaw", "ch", "(I)C"⟩ : MethodName)) hown (mvT hZ (hw _ (own_w 1 rfl))) (mvT hZ (hw _ (own_w 2 rfl))) (mvT hZ (hw _ (own_w 3 rfl))) (mvT hZ (hw _ (own_w 4 rfl))) (by decide) (backOf (W := 2) (rPk l Z a0 hw [] p2  h5 n0 Z5 ) hZ (hw _ (own_w 4 rfl)) (hw _ (own_w 3 rfl)) (by decide) (by decide)) (g := (mkF m 26 #[.val (.int p1), .val (.int p2), .val (.int p3), .val (.int p4), .val (.int p5), .val (.int ((p5 &&& (7 : Int32)) % (5 : Int32))), .val (.ref b1o), .unset, .unset, .unset, .unset, .unset, .unset, .unset, .unset, .unset, .unset, .unset] [(.int p2), (.int (1 : Int32)), (.ref b1o)])) rfl (by rw [hml]; rfl) (argsL := [(.int p2)]) (rest := [(.int (1 : Int32)), (.ref b1o)]) (lenOf pd_26 rfl) rfl (by show 2 * 0 + _ ≤ _; exact Nat.le_of_eq rfl) (hb hby at_26) (fun _ _ => ⟨rfl, e5, (by decide : 1 + 0 ≤ _), (by decide : 4 + 0 ≤ _)⟩)
  dsimp only [Pt.U, Pt.locs, Pt.cells, Pt.slots] at X6 lq6 yq6 zq6 st6 hQ6
  subst lq6 yq6 zq6
  obtain ⟨r6, hr6, rfl, N6q, e6⟩ := hQ6
  have N6 := Fr.app N5 N6q
  obtain ⟨cl7, Ar7, qk7, Sz7, Nn7, Hh7, Gg7⟩ := id (V5)
  have hin8 : ¬ ((1 : Int32) < 0 ∨ cl7.slots.size ≤ ((1 : Int32)).toNatClampNeg) := inb_of Sz7 ⟨by decide, by decide⟩
  obtain ⟨T8, h8, X8, e8, W8, st8⟩ := stC X6 hx hZ e6 Ar7 (j := (1 : Int32)) hin8  (g := (mkF m 29 #[.val (.int p1), .val (.int p2), .val (.int p3), .val (.int p4), .val (.int p5), .val (.int ((p5 &&& (7 : Int32)) % (5 : Int32))), .val (.ref b1o), .unset, .unset, .unset, .unset, .unset, .unset, .unset, .unset, .unset, .unset, .unset] [(.int r6), (.int (1 : Int32)), (.ref b1o)])) rfl rfl (hb hby at_29)
  have N8 := Fr.snoc X8 N6 b1
  have Z8 : n0 ≤ h8.size := by rw [W8.size]; exact Z5
  have V8 : Arv Z h8 b1o ck1 .char (4 : Int32) [(.int (nar .char r3)), (.int (nar .char r6)), (.int (0 : Int32)), (.int (0 : Int32))] (.int (0 : Int32)) := Arv.set Ar7 qk7 Sz7 Nn7 Hh7 Gg7 (fits_nar_char _) W8 1 rfl (Nat.le_of_ble_eq_true rfl)
  obtain ⟨_, _, ⟨T9, Lq9, kq9, nq9⟩, -, X9, ⟨Lc9, hQ9, lq9, yq9, zq9⟩, st9⟩ := Jvm.LawKit.callS X8 hx (y := (⟨"com/example/wrasse/wrasse/io/CorrectionFormatWordOfPinLaw", "ch", "(I)C"⟩ : MethodName)) hown (mvT hZ (hw _ (own_w 1 rfl))) (mvT hZ (hw _ (own_w 2 rfl))) (mvT hZ (hw _ (own_w 3 rfl))) (mvT hZ (hw _ (own_w 4 rfl))) (by decide) (backOf (W := 2) (rPk l Z a0 hw [] p3  h8 n0 Z8 ) hZ (hw _ (own_w 4 rfl)) (hw _ (own_w 3 rfl)) (by decide) (by decide)) (g := (mkF m 34 #[.val (.int p1), .val (.int p2), .val (.int p3), .val (.int p4), .val (.int p5), .val (.int ((p5 &&& (7 : Int32)) % (5 : Int32))), .val (.ref b1o), .unset, .unset, .unset, .unset, .unset, .unset, .unset, .unset, .unset, .unset, .unset] [(.int p3), (.int (2 : Int32)), (.ref b1o)])) rfl (by rw [hml]; rfl) (argsL := [(.int p3)]) (rest := [(.int (2 : Int32)), (.ref b1o)]) (lenOf pd_26 rfl) rfl (by show 2 * 0 + _ ≤ _; exact Nat.le_of_eq rfl) (hb hby at_34) (fun _ _ => ⟨rfl, e8, (by decide : 1 + 0 ≤ _), (by decide : 4 + 0 ≤ _)⟩)
  dsimp only [Pt.U, Pt.locs, Pt.cells, Pt.slots] at X9 lq9 yq9 zq9 st9 hQ9
  subst lq9 yq9 zq9
  obtain ⟨r9, hr9, rfl, N9q, e9⟩ := hQ9
  have N9 := Fr.app N8 N9q
  obtain ⟨cl10, Ar10, qk10, Sz10, Nn10, Hh10, Gg10⟩ := id (V8)
  have hin11 : ¬ ((2 : Int32) < 0 ∨ cl10.slots.size ≤ ((2 : Int32)).toNatClampNeg) := inb_of Sz10 ⟨by decide, by decide⟩
  obtain ⟨T11, h11, X11, e11, W11, st11⟩ := stC X9 hx hZ e9 Ar10 (j := (2 : Int32)) hin11  (g := (mkF m 37 #[.val (.int p1), .val (.int p2), .val (.int p3), .val (.int p4), .val (.int p5), .val (.int ((p5 &&& (7 : Int32)) % (5 : Int32))), .val (.ref b1o), .unset, .unset, .unset, .unset, .unset, .unset, .unset, .unset, .unset, .unset, .unset] [(.int r9), (.int (2 : Int32)), (.ref b1o)])) rfl rfl (hb hby at_37)
  have N11 := Fr.snoc X11 N9 b1
  have Z11 : n0 ≤ h11.size := by rw [W11.size]; exact Z8
  have V11 : Arv Z h11 b1o ck1 .char (4 : Int32) [(.int (nar .char r3)), (.int (nar .char r6)), (.int (nar .char r9)), (.int (0 : Int32))] (.int (0 : Int32)) := Arv.set Ar10 qk10 Sz10 Nn10 Hh10 Gg10 (fits_nar_char _) W11 2 rfl (Nat.le_of_ble_eq_true rfl)
  obtain ⟨_, _, ⟨T12, Lq12, kq12, nq12⟩, -, X12, ⟨Lc12, hQ12, lq12, yq12, zq12⟩, st12⟩ := Jvm.LawKit.callS X11 hx (y := (⟨"com/example/wrasse/wrasse/io/CorrectionFormatWordOfPinLaw", "ch", "(I)C"⟩ : MethodName)) hown (mvT hZ (hw _ (own_w 1 rfl))) (mvT hZ (hw _ (own_w 2 rfl))) (mvT hZ (hw _ (own_w 3 rfl))) (mvT hZ (hw _ (own_w 4 rfl))) (by decide) (backOf (W := 2) (rPk l Z a0 hw [] p4  h11 n0 Z11 ) hZ (hw _ (own_w 4 rfl)) (hw _ (own_w 3 rfl)) (by decide) (by decide)) (g := (mkF m 42 #[.val (.int p1), .val (.int p2), .val (.int p3), .val (.int p4), .val (.int p5), .val (.int ((p5 &&& (7 : Int32)) % (5 : Int32))), .val (.ref b1o), .unset, .unset, .unset, .unset, .unset, .unset, .unset, .unset, .unset, .unset, .unset] [(.int p4), (.int (3 : Int32)), (.ref b1o)])) rfl (by rw [hml]; rfl) (argsL := [(.int p4)]) (rest := [(.int (3 : Int32)), (.ref b1o)]) (lenOf pd_26 rfl) rfl (by show 2 * 0 + _ ≤ _; exact Nat.le_of_eq rfl) (hb hby at_42) (fun _ _ => ⟨rfl, e11, (by decide : 1 + 0 ≤ _), (by decide : 4 + 0 ≤ _)⟩)
  dsimp only [Pt.U, Pt.locs, Pt.cells, Pt.slots] at X12 lq12 yq12 zq12 st12 hQ12
  subst lq12 yq12 zq12
  obtain ⟨r12, hr12, rfl, N12q, e12⟩ := hQ12
  have N12 := Fr.app N11 N12q
  obtain ⟨cl13, Ar13, qk13, Sz13, Nn13, Hh13, Gg13⟩ := id (V11)
  have hin14 : ¬ ((3 : Int32) < 0 ∨ cl13.slots.size ≤ ((3 : Int32)).toNatClampNeg) := inb_of Sz13 ⟨by decide, by decide⟩
  obtain ⟨T14, h14, X14, e14, W14, st14⟩ := stC X12 hx hZ e12 Ar13 (j := (3 : Int32)) hin14  (g := (mkF m 45 #[.val (.int p1), .val (.int p2), .val (.int p3), .val (.int p4), .val (.int p5), .val (.int ((p5 &&& (7 : Int32)) % (5 : Int32))), .val (.ref b1o), .unset, .unset, .unset, .unset, .unset, .unset, .unset, .unset, .unset, .unset, .unset] [(.int r12), (.int (3 : Int32)), (.ref b1o)])) rfl rfl (hb hby at_45)
  have N14 := Fr.snoc X14 N12 b1
  have Z14 : n0 ≤ h14.size := by rw [W14.size]; exact Z11
  have V14 : Arv Z h14 b1o ck1 .char (4 : Int32) [(.int (nar .char r3)), (.int (nar .char r6)), (.int (nar .char r9)), (.int (nar .char r12))] (.int (0 : Int32)) := Arv.set Ar13 qk13 Sz13 Nn13 Hh13 Gg13 (fits_nar_char _) W14 3 rfl (Nat.le_of_ble_eq_true rfl)
  have VA := V14
  rw [own_ncc hr3, own_ncc hr6, own_ncc hr9, own_ncc hr12] at VA
  have pq15 : ∀ t, Steps p.tables e below (T14.setTop (mkF m 46 #[.val (.int p1), .val (.int p2), .val (.int p3), .val (.int p4), .val (.int p5), .val (.int ((p5 &&& (7 : Int32)) % (5 : Int32))), .val (.ref b1o), .unset, .unset, .unset, .unset, .unset, .unset, .unset, .unset, .unset, .unset, .unset] [])) t → Steps p.tables e below (s₁.setTop (mkF m 0 #[.val (.int p1), .val (.int p2), .val (.int p3), .val (.int p4), .val (.int p5), .unset, .unset, .unset, .unset, .unset, .unset, .unset, .unset, .unset, .unset, .unset, .unset, .unset] [])) t := by
    intro t kt
    show Steps p.tables e below (s₁.setTop (mkF m 0 #[.val (.int p1), .val (.int p2), .val (.int p3), .val (.int p4), .val (.int p5), .unset, .unset, .unset, .unset, .unset, .unset, .unset, .unset, .unset, .unset, .unset, .unset, .unset] [])) _
    refine XS.iload X0.here hx rfl (hb hby at_0) rfl ?_
    refine XS.bipush X0.here hx rfl (hb hby at_2) ?_
    refine XS.iand X0.here hx rfl (hb hby at_4) rfl ?_
    refine XS.iconst X0.here hx rfl (hb hby at_5) ?_
    refine iremM X0 hx rfl (hb hby at_6) rfl (by decide) ?_
    refine XS.istore X0.here hx rfl (hb hby at_7) rfl (l' := #[.val (.int p1), .val (.int p2), .val (.int p3), .val (.int p4), .val (.int p5), .val (.int ((p5 &&& (7 : Int32)) % (5 : Int32))), .unset, .unset, .unset, .unset, .unset, .unset, .unset, .unset, .unset, .unset, .unset, .unset]) rfl ?_
    refine XS.iconst X0.here hx rfl (hb hby at_9) ?_
    refine st1 _ ?_
    refine XS.astore X1.here hx rfl (hb hby at_12) rfl rfl (l' := #[.val (.int p1), .val (.int p2), .val (.int p3), .val (.int p4), .val (.int p5), .val (.int ((p5 &&& (7 : Int32)) % (5 : Int32))), .val (.ref b1o), .unset, .unset, .unset, .unset, .unset, .unset, .unset, .unset, .unset, .unset, .unset]) rfl ?_
    refine XS.aload X1.here hx rfl (hb hby at_14) rfl rfl ?_
    refine XS.iconst X1.here hx rfl (hb hby at_16) ?_
    refine XS.iloadN X1.here hx rfl (hb hby at_17) rfl ?_
    refine st3 _ ?_
    refine st5 _ ?_
    refine XS.aload X5.here hx rfl (hb hby at_22) rfl rfl ?_
    refine XS.iconst X5.here hx rfl (hb hby at_24) ?_
    refine XS.iloadN X5.here hx rfl (hb hby at_25) rfl ?_
    refine st6 _ ?_
    refine st8 _ ?_
    refine XS.aload X8.here hx rfl (hb hby at_30) rfl rfl ?_
    refine XS.iconst X8.here hx rfl (hb hby at_32) ?_
    refine XS.iloadN X8.here hx rfl (hb hby at_33) rfl ?_
    refine st9 _ ?_
    refine st11 _ ?_
    refine XS.aload X11.here hx rfl (hb hby at_38) rfl rfl ?_
    refine XS.iconst X11.here hx rfl (hb hby at_40) ?_
    refine XS.iloadN X11.here hx rfl (hb hby at_41) rfl ?_
    refine st12 _ ?_
    refine st14 _ ?_
    exact kt
  rcases own_n75 p5 with hI | hI | hI | hI | hI
  · skip
    obtain ⟨T16, h16, ck16, X16, e16, E16, A16, st16⟩ := newP X14 hx hZ (hw _ (own_w 0 rfl)) e14 (g := (mkF m 48 #[.val (.int p1), .val (.int p2), .val (.int p3), .val (.int p4), .val (.int p5), .val (.int (0 : Int32)), .val (.ref b1o), .unset, .unset, .unset, .unset, .unset, .unset, .unset, .unset, .unset, .unset, .unset] [(.int (0 : Int32))])) rfl (hb hby at_48) rfl (by decide) (cap := 0) (by decide) (by decide) (by decide) (by decide)
    obtain ⟨b16o, g16⟩ : ∃ z, z = h14.size := ⟨_, rfl⟩
    have b16 : n0 ≤ b16o := Nat.le_trans Z14 (Nat.le_of_eq g16.symm)
    have f17 := (((((X00.ext E1).wr W5 b1).wr W8 b1).wr W11 b1).wr W14 b1)
    have ne18 : eo ≠ b16o := Nat.ne_of_lt (Nat.lt_of_lt_of_le (O_EE.ext f17.2).lt (Nat.le_of_eq g16.symm))
    have ne19 : b1o ≠ b16o := Nat.ne_of_lt (Nat.lt_of_lt_of_le VA.lt (Nat.le_of_eq g16.symm))
    rw [← g16] at A16 st16
    have Z16 : n0 ≤ h16.size := Nat.le_trans Z14 E16.1
    have V16 : Arv Z h16 b16o ck16 .char (0 : Int32) [] (.int (0 : Int32)) := (Arv.new A16 (by decide)).pad (pad_rep [] (.int (0 : Int32)) 0)
    obtain ⟨T20, h20, X20, e20, E20, A20, D20, -, st20⟩ := newO X16 hx hZ hown (hw _ (own_w 6 rfl)) (hw _ (own_w 7 rfl)) (hw _ (own_w 8 rfl)) e16 (g := (mkF m 107 #[.val (.int p1), .val (.int p2), .val (.int p3), .val (.int p4), .val (.int p5), .val (.int (0 : Int32)), .val (.ref b1o), .val (.ref b16o), .unset, .unset, .unset, .unset, .unset, .unset, .unset, .unset, .unset, .unset] [])) rfl (hb hby at_107) (by decide) (by decide)
    obtain ⟨b20o, g20⟩ : ∃ z, z = h16.size := ⟨_, rfl⟩
    have b20 : n0 ≤ b20o := Nat.le_trans Z16 (Nat.le_of_eq g20.symm)
    have f21 := (f17.ext E16)
    have ne22 : eo ≠ b20o := Nat.ne_of_lt (Nat.lt_of_lt_of_le (O_EE.ext f21.2).lt (Nat.le_of_eq g20.symm))
    have f23 := (VA.ext E16)
    have ne24 : b1o ≠ b20o := Nat.ne_of_lt (Nat.lt_of_lt_of_le f23.lt (Nat.le_of_eq g20.symm))
    have ne25 : b16o ≠ b20o := Nat.ne_of_lt (Nat.lt_of_lt_of_le V16.lt (Nat.le_of_eq g20.symm))
    rw [← g20] at A20 D20 st20
    have Z20 : n0 ≤ h20.size := Nat.le_trans Z16 E20.1
    have F20_21 : Fld Z h20 b20o "java/lang/String" "value" "[B" .null := D20 (Or.inr (hw _ (own_w 21 rfl))) (ty := (.array .byte)) (by decide)
    have F20_22 : Fld Z h20 b20o "java/lang/String" "coder" "B" (.int (0 : Int32)) := D20 (Or.inr (hw _ (own_w 22 rfl))) (ty := .byte) (by decide)
    have f27 := (f21.ext E20)
    have f28 := (V16.ext E20)
    obtain ⟨_, _, ⟨T26, Lq26, kq26, nq26⟩, -, X26, hS26, hgr26, ⟨Lc26, hQ26, lq26, yq26, zq26⟩, st26⟩ := X20.specialBackS hx (y := (⟨"java/lang/String", "<init>", "([C)V"⟩ : MethodName)) rfl hown (mvT hZ (hw _ (own_w 9 rfl))) (mvT hZ (hw _ (own_w 10 rfl))) (mvT hZ (hw _ (own_w 11 rfl))) (by decide) (own_backS (W := 1) (rW1 l Z a0 hw [] b20o b16o ck16 h20 n0 Z20 A20 F20_21 F20_22 b20 f27 hheld hcw f28) hZ hUI (hw _ (own_w 11 rfl)) (hw _ (own_w 8 rfl)) (by decide) (by decide)) (g := (mkF m 113 #[.val (.int p1), .val (.int p2), .val (.int p3), .val (.int p4), .val (.int p5), .val (.int (0 : Int32)), .val (.ref b1o), .val (.ref b16o), .unset, .unset, .unset, .unset, .unset, .unset, .unset, .unset, .unset, .unset] [(.ref b16o), (.ref b20o), (.ref b20o)])) rfl (by rw [hml]; rfl) (Steps.refl _) (a := b20o) (argsL := [(.ref b16o)]) (rest := [(.ref b20o)]) (lenOf pd_32 rfl) rfl (by show 2 * 0 + _ ≤ _; exact Nat.le_of_eq rfl) (hb hby at_113) (fun _ _ => ⟨rfl, e20, (by decide : 3 + 2 ≤ _), (by decide : 8 + 4 ≤ _)⟩)
    dsimp only [Pt.U, Pt.locs, Pt.cells, Pt.slots] at X26 lq26 yq26 zq26 st26 hQ26 hS26
    subst lq26 yq26 zq26
    have hZ26 : Z.Warmed39 (s.setVm T26.vm).vm := State.Warmed39.trans (t := s) hZ hS26.1
    have ho26 : (s.setVm T26.vm).vm.findClass "com/example/wrasse/wrasse/io/CorrectionFormatWordOfPinLaw" = some m.cls := by rw [show (s.setVm T26.vm).vm = T26.vm from rfl, hS26.1.alike.findClass]; exact hown
    obtain ⟨rfl, N26q, KC26, TS26⟩ := hQ26
    have N26 := Fr.app N14 N26q
    have Z26 : n0 ≤ T26.heap.size := Nat.le_trans Z20 KC26.1
    have pq29 : ∀ t, Steps p.tables e below (T26.setTop (mkF m 210 #[.val (.int p1), .val (.int p2), .val (.int p3), .val (.int p4), .val (.int p5), .val (.int (0 : Int32)), .val (.ref b1o), .val (.ref b16o), .val (.ref b20o), .val (.int (0 : Int32)), .val (.int (0 : Int32)), .val (.int (0 : Int32)), .val (.int (0 : Int32)), .unset, .unset, .unset, .unset, .unset] [])) t → Steps p.tables e below (s₁.setTop (mkF m 0 #[.val (.int p1), .val (.int p2), .val (.int p3), .val (.int p4), .val (.int p5), .unset, .unset, .unset, .unset, .unset, .unset, .unset, .unset, .unset, .unset, .unset, .unset, .unset] [])) t := by
      intro t kt
      refine pq15 _ ?_
      show Steps p.tables e below (T14.setTop (mkF m 46 #[.val (.int p1), .val (.int p2), .val (.int p3), .val (.int p4), .val (.int p5), .val (.int ((p5 &&& (7 : Int32)) % (5 : Int32))), .val (.ref b1o), .unset, .unset, .unset, .unset, .unset, .unset, .unset, .unset, .unset, .unset, .unset] [])) _
      rw [hI]
      refine XS.iload X14.here hx rfl (hb hby at_46) rfl ?_
      refine st16 _ ?_
      refine XS.astore X16.here hx rfl (hb hby at_50) rfl rfl (l' := #[.val (.int p1), .val (.int p2), .val (.int p3), .val (.int p4), .val (.int p5), .val (.int (0 : Int32)), .val (.ref b1o), .val (.ref b16o), .unset, .unset, .unset, .unset, .unset, .unset, .unset, .unset, .unset, .unset]) rfl ?_
      refine XS.iload X16.here hx rfl (hb hby at_52) rfl ?_
      refine XS.ifYes X16.here hx rfl (pc0 := 54) (pc' := 65) rfl (hb hby at_54) rfl ((if0 _ _).trans (flt (by decide)).2.2.2) (by decide) (by decide) ?_
      refine XS.iload X16.here hx rfl (hb hby at_65) rfl ?_
      refine XS.iconst X16.here hx rfl (hb hby at_67) ?_
      refine XS.icmpYes X16.here hx rfl (pc0 := 68) (pc' := 79) rfl (hb hby at_68) rfl (flt (by decide)).2.2.2 (by decide) (by decide) ?_
      refine XS.iload X16.here hx rfl (hb hby at_79) rfl ?_
      refine XS.iconst X16.here hx rfl (hb hby at_81) ?_
      refine XS.icmpYes X16.here hx rfl (pc0 := 82) (pc' := 93) rfl (hb hby at_82) rfl (flt (by decide)).2.2.2 (by decide) (by decide) ?_
      refine XS.iload X16.here hx rfl (hb hby at_93) rfl ?_
      refine XS.iconst X16.here hx rfl (hb hby at_95) ?_
      refine XS.icmpYes X16.here hx rfl (pc0 := 96) (pc' := 107) rfl (hb hby at_96) rfl (flt (by decide)).2.2.2 (by decide) (by decide) ?_
      refine st20 _ ?_
      refine XS.dup X20.here hx rfl (hb hby at_110) rfl rfl ?_
      refine XS.aload X20.here hx rfl (hb hby at_111) rfl rfl ?_
      refine st26.trans ?_
      refine XS.astore X26.here hx rfl (hb hby at_116) rfl rfl (l' := #[.val (.int p1), .val (.int p2), .val (.int p3), .val (.int p4), .val (.int p5), .val (.int (0 : Int32)), .val (.ref b1o), .val (.ref b16o), .val (.ref b20o), .unset, .unset, .unset, .unset, .unset, .unset, .unset, .unset, .unset]) rfl ?_
      refine XS.iconst X26.here hx rfl (hb hby at_118) ?_
      refine XS.iload X26.here hx rfl (hb hby at_119) rfl ?_
      refine XS.icmpYes X26.here hx rfl (pc0 := 121) (pc' := 138) rfl (hb hby at_121) rfl (flt (by decide)).2.1 (by decide) (by decide) ?_
      refine XS.iconst X26.here hx rfl (hb hby at_138) ?_
      refine XS.istore X26.here hx rfl (hb hby at_139) rfl (l' := #[.val (.int p1), .val (.int p2), .val (.int p3), .val (.int p4), .val (.int p5), .val (.int (0 : Int32)), .val (.ref b1o), .val (.ref b16o), .val (.ref b20o), .val (.int (0 : Int32)), .unset, .unset, .unset, .unset, .unset, .unset, .unset, .unset]) rfl ?_
      refine XS.iconst X26.here hx rfl (hb hby at_141) ?_
      refine XS.iload X26.here hx rfl (hb hby at_142) rfl ?_
      refine XS.icmpYes X26.here hx rfl (pc0 := 144) (pc' := 161) rfl (hb hby at_144) rfl (flt (by decide)).2.1 (by decide) (by decide) ?_
      refine XS.iconst X26.here hx rfl (hb hby at_161) ?_
      refine XS.istore X26.here hx rfl (hb hby at_162) rfl (l' := #[.val (.int p1), .val (.int p2), .val (.int p3), .val (.int p4), .val (.int p5), .val (.int (0 : Int32)), .val (.ref b1o), .val (.ref b16o), .val (.ref b20o), .val (.int (0 : Int32)), .val (.int (0 : Int32)), .unset, .unset, .unset, .unset, .unset, .unset, .unset]) rfl ?_
      refine XS.iconst X26.here hx rfl (hb hby at_164) ?_
      refine XS.iload X26.here hx rfl (hb hby at_165) rfl ?_
      refine XS.icmpYes X26.here hx rfl (pc0 := 167) (pc' := 184) rfl (hb hby at_167) rfl (flt (by decide)).2.1 (by decide) (by decide) ?_
      refine XS.iconst X26.here hx rfl (hb hby at_184) ?_
      refine XS.istore X26.here hx rfl (hb hby at_185) rfl (l' := #[.val (.int p1), .val (.int p2), .val (.int p3), .val (.int p4), .val (.int p5), .val (.int (0 : Int32)), .val (.ref b1o), .val (.ref b16o), .val (.ref b20o), .val (.int (0 : Int32)), .val (.int (0 : Int32)), .val (.int (0 : Int32)), .unset, .unset, .unset, .unset, .unset, .unset]) rfl ?_
      refine XS.iconst X26.here hx rfl (hb hby at_187) ?_
      refine XS.iload X26.here hx rfl (hb hby at_188) rfl ?_
      refine XS.icmpYes X26.here hx rfl (pc0 := 190) (pc' := 207) rfl (hb hby at_190) rfl (flt (by decide)).2.1 (by decide) (by decide) ?_
      refine XS.iconst X26.here hx rfl (hb hby at_207) ?_
      refine XS.istore X26.here hx rfl (hb hby at_208) rfl (l' := #[.val (.int p1), .val (.int p2), .val (.int p3), .val (.int p4), .val (.int p5), .val (.int (0 : Int32)), .val (.ref b1o), .val (.ref b16o), .val (.ref b20o), .val (.int (0 : Int32)), .val (.int (0 : Int32)), .val (.int (0 : Int32)), .val (.int (0 : Int32)), .unset, .unset, .unset, .unset, .unset]) rfl ?_
      exact kt
    have f31 := (f27.keep KC26 (allS b20 all0))
    obtain ⟨_, _, ⟨T30, Lq30, kq30, nq30⟩, -, X30, ⟨Lc30, hQ30, lq30, yq30, zq30⟩, st30⟩ := Jvm.LawKit.callS X26 hx (y := (⟨"com/example/wrasse/wrasse/io/CorrectionFormat", "wordOf", "(Ljava/lang/String;)Ljava/util/Optional;"⟩ : MethodName)) ho26 (mvT hZ26 (hw _ (own_w 27 rfl))) (mvT hZ26 (hw _ (own_w 28 rfl))) (mvT hZ26 (hw _ (own_w 29 rfl))) (mvT hZ26 (hw _ (own_w 30 rfl))) (by decide) (backOf (W := 0) (rWe l Z a0 hw [] b20o [] G1 gv eo T26.heap n0 Z26 f31 O_S hgv O_2 P5 O_A O_H O_W TS26 (by decide) own_nil own_bef0 O_E) hZ26 (hw _ (own_w 30 rfl)) (hw _ (own_w 29 rfl)) (by decide) (by decide)) (g := (mkF m 283 #[.val (.int p1), .val (.int p2), .val (.int p3), .val (.int p4), .val (.int p5), .val (.int (0 : Int32)), .val (.ref b1o), .val (.ref b16o), .val (.ref b20o), .val (.int (0 : Int32)), .val (.int (0 : Int32)), .val (.int (0 : Int32)), .val (.int (0 : Int32)), .val (.int (0 : Int32)), .val (.int (0 : Int32)), .unset, .unset, .unset] [(.ref b20o)])) rfl (by rw [hml]; rfl) (argsL := [(.ref b20o)]) (rest := []) (lenOf pd_33 rfl) rfl (by show 2 * 0 + _ ≤ _; exact Nat.le_of_eq rfl) (hb hby at_283) (fun _ _ => ⟨rfl, rfl, (by decide : 5 + 0 ≤ _), (by decide : 12 + 0 ≤ _)⟩)
    dsimp only [Pt.U, Pt.locs, Pt.cells, Pt.slots] at X30 lq30 yq30 zq30 st30 hQ30
    subst lq30 yq30 zq30
    obtain ⟨rfl, N30q, e30⟩ := hQ30
    have N30 := Fr.app N26 N30q
    obtain ⟨cq32, kz32, q32a, q32b, q32c⟩ := isOf hZ26 e30 (O_EE.ext f31.2)
    obtain ⟨_, _, ⟨T32, Lq32, kq32, nq32⟩, -, X32, ⟨Lc32, hQ32, lq32, yq32, zq32⟩, st32⟩ := X30.virtualBack hx (y := (⟨"java/util/Optional", "isPresent", "()Z"⟩ : MethodName)) (z := (⟨"java/util/Optional", "isPresent", "()Z"⟩ : MethodName)) ho26 (mvT hZ26 (hw _ (own_w 47 rfl))) (mvT hZ26 (hw _ (own_w 48 rfl))) (notFace_of_selects (args := #[]) (mvT hZ26 (hw _ (own_w 50 rfl)))) (mvT hZ26 (hw _ (own_w 50 rfl))) (mvT hZ26 (hw _ (own_w 49 rfl))) (by decide) (backOf (W := 0) (rOp0 l Z a0 hw [] eo  T26.heap n0 Z26 (O_EV.ext f31.2)) hZ26 (hw _ (own_w 51 rfl)) (hw _ (own_w 44 rfl)) (by decide) (by decide)) q32a q32c (g := (mkF m 297 #[.val (.int p1), .val (.int p2), .val (.int p3), .val (.int p4), .val (.int p5), .val (.int (0 : Int32)), .val (.ref b1o), .val (.ref b16o), .val (.ref b20o), .val (.int (0 : Int32)), .val (.int (0 : Int32)), .val (.int (0 : Int32)), .val (.int (0 : Int32)), .val (.int (0 : Int32)), .val (.int (0 : Int32)), .val (.ref eo), .unset, .unset] [(.ref eo)])) rfl (by rw [hml]; rfl) (Steps.refl _) (argsL := []) (rest := []) (lenOf pd_7 rfl) rfl (by show 2 * 0 + _ ≤ _; exact Nat.le_of_eq rfl) (hb hby at_297) (fun _ _ => ⟨rfl, e30, (by decide : 5 + 0 ≤ _), (by decide : 12 + 0 ≤ _)⟩)
    dsimp only [Pt.U, Pt.locs, Pt.cells, Pt.slots] at X32 lq32 yq32 zq32 st32 hQ32
    subst lq32 yq32 zq32
    obtain ⟨r32, hr32, rfl, N32q, e32⟩ := hQ32
    have N32 := Fr.app N30 N32q
    subst hr32
    obtain ⟨fs, hr, hrun, hended, hwd⟩ := Jvm.Stand.leaveW (s := s) (vm₁ := T26.vm) X32 hS26 (Nat.le_trans (Nat.le_refl _) (Nat.le_of_eq (congrArg Array.size e32).symm)) (v := some (.int (1 : Int32))) (fun h => by rw [Bd.returns] at h; cases h)
    refine ⟨_, _, pre0 _ ?_, hrun, hended, _, _, rfl, ?_, hwd.1, hwd.2.1, hwd.2.2.1, hwd.2.2.2.mono (by decide) (by decide)⟩
    · refine pq29 _ ?_
      refine own_blk X26 hx hby (0 : Int32) (0 : Int32) (by decide) (by decide) _ ?_
      refine XS.aload X26.here hx rfl (hb hby at_281) rfl rfl ?_
      refine st30 _ ?_
      refine XS.astore X30.here hx rfl (hb hby at_286) rfl rfl (l' := #[.val (.int p1), .val (.int p2), .val (.int p3), .val (.int p4), .val (.int p5), .val (.int (0 : Int32)), .val (.ref b1o), .val (.ref b16o), .val (.ref b20o), .val (.int (0 : Int32)), .val (.int (0 : Int32)), .val (.int (0 : Int32)), .val (.int (0 : Int32)), .val (.int (0 : Int32)), .val (.int (0 : Int32)), .val (.ref eo), .unset, .unset]) rfl ?_
      refine XS.iload X30.here hx rfl (hb hby at_288) rfl ?_
      refine XS.iload X30.here hx rfl (hb hby at_290) rfl ?_
      refine XS.icmpNo X30.here hx rfl (hb hby at_292) rfl (flt (by decide)).1 ?_
      refine XS.aload X30.here hx rfl (hb hby at_295) rfl rfl ?_
      refine st32.trans ?_
      refine XS.ifNo X32.here hx rfl (hb hby at_300) rfl ((if0 _ _).trans (teq (by decide)).2) ?_
      refine XS.iconst X32.here hx rfl (hb hby at_303) ?_
      refine XS.goto X32.here hx rfl (pc0 := 304) (pc' := 308) rfl (hb hby at_304) (by decide) (by decide) ?_
      exact retN X32 hx (t := .boolean) Bd.returns (by simp) (hb hby at_308) hr
    · show Qrm0 Z p1 p2 p3 p4 p5 G1 gv eo h0 n0 _ T32.heap _
      exact ⟨rfl, N32⟩
  · skip
    obtain ⟨T33, h33, ck33, X33, e33, E33, A33, st33⟩ := newP X14 hx hZ (hw _ (own_w 0 rfl)) e14 (g := (mkF m 48 #[.val (.int p1), .val (.int p2), .val (.int p3), .val (.int p4), .val (.int p5), .val (.int (1 : Int32)), .val (.ref b1o), .unset, .unset, .unset, .unset, .unset, .unset, .unset, .unset, .unset, .unset, .unset] [(.int (1 : Int32))])) rfl (hb hby at_48) rfl (by decide) (cap := 1) (by decide) (by decide) (by decide) (by decide)
    obtain ⟨b33o, g33⟩ : ∃ z, z = h14.size := ⟨_, rfl⟩
    have b33 : n0 ≤ b33o := Nat.le_trans Z14 (Nat.le_of_eq g33.symm)
    have f34 := (((((X00.ext E1).wr W5 b1).wr W8 b1).wr W11 b1).wr W14 b1)
    have ne35 : eo ≠ b33o := Nat.ne_of_lt (Nat.lt_of_lt_of_le (O_EE.ext f34.2).lt (Nat.le_of_eq g33.symm))
    have ne36 : b1o ≠ b33o := Nat.ne_of_lt (Nat.lt_of_lt_of_le VA.lt (Nat.le_of_eq g33.symm))
    rw [← g33] at A33 st33
    have Z33 : n0 ≤ h33.size := Nat.le_trans Z14 E33.1
    have V33 : Arv Z h33 b33o ck33 .char (1 : Int32) [(.int (0 : Int32))] (.int (0 : Int32)) := (Arv.new A33 (by decide)).pad (pad_rep [] (.int (0 : Int32)) 1)
    have f37 := (VA.ext E33)
    obtain ⟨cl38, Ar38, qk38, Sz38, Nn38, Hh38, Gg38⟩ := id (f37)
    have hin39 : ¬ ((0 : Int32) < 0 ∨ cl38.slots.size ≤ ((0 : Int32)).toNatClampNeg) := inb_of Sz38 ⟨by decide, by decide⟩
    have hat39 : cl38.slots[((0 : Int32)).toNatClampNeg]? = some (.int r3) := Has.at Hh38 hin39 rfl
    obtain ⟨cl40, Ar40, qk40, Sz40, Nn40, Hh40, Gg40⟩ := id (V33)
    have hin41 : ¬ ((0 : Int32) < 0 ∨ cl40.slots.size ≤ ((0 : Int32)).toNatClampNeg) := inb_of Sz40 ⟨by decide, by decide⟩
    obtain ⟨T41, h41, X41, e41, W41, st41⟩ := stC X33 hx hZ e33 Ar40 (j := (0 : Int32)) hin41  (g := (mkF m 64 #[.val (.int p1), .val (.int p2), .val (.int p3), .val (.int p4), .val (.int p5), .val (.int (1 : Int32)), .val (.ref b1o), .val (.ref b33o), .unset, .unset, .unset, .unset, .unset, .unset, .unset, .unset, .unset, .unset] [(.int r3), (.int (0 : Int32)), (.ref b33o)])) rfl rfl (hb hby at_64)
    have N41 := Fr.snoc X41 N14 b33
    have Z41 : n0 ≤ h41.size := by rw [W41.size]; exact Z33
    have V41 : Arv Z h41 b33o ck33 .char (1 : Int32) [(.int (nar .char r3))] (.int (0 : Int32)) := Arv.set Ar40 qk40 Sz40 Nn40 Hh40 Gg40 (fits_nar_char _) W41 0 rfl (Nat.le_of_ble_eq_true rfl)
    obtain ⟨T42, h42, X42, e42, E42, A42, D42, -, st42⟩ := newO X41 hx hZ hown (hw _ (own_w 6 rfl)) (hw _ (own_w 7 rfl)) (hw _ (own_w 8 rfl)) e41 (g := (mkF m 107 #[.val (.int p1), .val (.int p2), .val (.int p3), .val (.int p4), .val (.int p5), .val (.int (1 : Int32)), .val (.ref b1o), .val (.ref b33o), .unset, .unset, .unset, .unset, .unset, .unset, .unset, .unset, .unset, .unset] [])) rfl (hb hby at_107) (by decide) (by decide)
    obtain ⟨b42o, g42⟩ : ∃ z, z = h41.size := ⟨_, rfl⟩
    have b42 : n0 ≤ b42o := Nat.le_trans Z41 (Nat.le_of_eq g42.symm)
    have f43 := ((f34.ext E33).wr W41 b33)
    have ne44 : eo ≠ b42o := Nat.ne_of_lt (Nat.lt_of_lt_of_le (O_EE.ext f43.2).lt (Nat.le_of_eq g42.symm))
    have f45 := (f37.other W41 ne36)
    have ne46 : b1o ≠ b42o := Nat.ne_of_lt (Nat.lt_of_lt_of_le f45.lt (Nat.le_of_eq g42.symm))
    have ne47 : b33o ≠ b42o := Nat.ne_of_lt (Nat.lt_of_lt_of_le V41.lt (Nat.le_of_eq g42.symm))
    rw [← g42] at A42 D42 st42
    have Z42 : n0 ≤ h42.size := Nat.le_trans Z41 E42.1
    have F42_21 : Fld Z h42 b42o "java/lang/String" "value" "[B" .null := D42 (Or.inr (hw _ (own_w 21 rfl))) (ty := (.array .byte)) (by decide)
    have F42_22 : Fld Z h42 b42o "java/lang/String" "coder" "B" (.int (0 : Int32)) := D42 (Or.inr (hw _ (own_w 22 rfl))) (ty := .byte) (by decide)
    have f48 := (V41.ext E42)
    have VB49 := f48
    rw [own_ncc hr3] at VB49
    have f51 := (f43.ext E42)
    obtain ⟨_, _, ⟨T50, Lq50, kq50, nq50⟩, -, X50, ⟨Lc50, hQ50, lq50, yq50, zq50⟩, st50⟩ := X42.specialBack hx (y := (⟨"java/lang/String", "<init>", "([C)V"⟩ : MethodName)) rfl hown (mvT hZ (hw _ (own_w 9 rfl))) (mvT hZ (hw _ (own_w 10 rfl))) (mvT hZ (hw _ (own_w 11 rfl))) (by decide) (backOf (W := 1) (rI1 l Z a0 hw [] b42o b33o [r3] ck33 G1 h42 n0 Z42 A42 F42_21 F42_22 b42 f51 O_2 P5 O_A O_H O_W VB49 (Nat.le_of_ble_eq_true rfl) (Nat.le_of_ble_eq_true rfl) (own_cons hr3 own_nil) (Ne.symm ne47)) hZ (hw _ (own_w 11 rfl)) (hw _ (own_w 8 rfl)) (by decide) (by decide)) (g := (mkF m 113 #[.val (.int p1), .val (.int p2), .val (.int p3), .val (.int p4), .val (.int p5), .val (.int (1 : Int32)), .val (.ref b1o), .val (.ref b33o), .unset, .unset, .unset, .unset, .unset, .unset, .unset, .unset, .unset, .unset] [(.ref b33o), (.ref b42o), (.ref b42o)])) rfl (by rw [hml]; rfl) (Steps.refl _) (a := b42o) (argsL := [(.ref b33o)]) (rest := [(.ref b42o)]) (lenOf pd_32 rfl) rfl (by show 2 * 0 + _ ≤ _; exact Nat.le_of_eq rfl) (hb hby at_113) (fun _ _ => ⟨rfl, e42, (by decide : 3 + 2 ≤ _), (by decide : 9 + 24 ≤ _)⟩)
    dsimp only [Pt.U, Pt.locs, Pt.cells, Pt.slots] at X50 lq50 yq50 zq50 st50 hQ50
    subst lq50 yq50 zq50
    obtain ⟨rfl, N50q, KC50, TS50⟩ := hQ50
    have N50 := Fr.app N41 N50q
    have Z50 : n0 ≤ T50.heap.size := Nat.le_trans Z42 KC50.1
    have f52 := ((f45.ext E42).keep KC50 (ninS ne46 nin0))
    obtain ⟨cl53, Ar53, qk53, Sz53, Nn53, Hh53, Gg53⟩ := id (f52)
    have hin54 : ¬ ((0 : Int32) < 0 ∨ cl53.slots.size ≤ ((0 : Int32)).toNatClampNeg) := inb_of Sz53 ⟨by decide, by decide⟩
    have hat54 : cl53.slots[((0 : Int32)).toNatClampNeg]? = some (.int r3) := Has.at Hh53 hin54 rfl
    obtain ⟨_, _, ⟨T55, Lq55, kq55, nq55⟩, -, X55, ⟨Lc55, hQ55, lq55, yq55, zq55⟩, st55⟩ := Jvm.LawKit.callS X50 hx (y := (⟨"com/example/wrasse/wrasse/io/CorrectionFormatWordOfPinLaw", "bl", "(C)Z"⟩ : MethodName)) hown (mvT hZ (hw _ (own_w 64 rfl))) (mvT hZ (hw _ (own_w 65 rfl))) (mvT hZ (hw _ (own_w 3 rfl))) (mvT hZ (hw _ (own_w 66 rfl))) (by decide) (backOf (W := 0) (rBl l Z a0 hw [] r3  T50.heap n0 Z50 ) hZ (hw _ (own_w 66 rfl)) (hw _ (own_w 3 rfl)) (by decide) (by decide)) (g := (mkF m 128 #[.val (.int p1), .val (.int p2), .val (.int p3), .val (.int p4), .val (.int p5), .val (.int (1 : Int32)), .val (.ref b1o), .val (.ref b33o), .val (.ref b42o), .unset, .unset, .unset, .unset, .unset, .unset, .unset, .unset, .unset] [(.int r3)])) rfl (by rw [hml]; rfl) (argsL := [(.int r3)]) (rest := []) (lenOf pd_27 rfl) rfl (by show 2 * 0 + _ ≤ _; exact Nat.le_of_eq rfl) (hb hby at_128) (fun _ _ => ⟨rfl, rfl, (by decide : 5 + 0 ≤ _), (by decide : 33 + 0 ≤ _)⟩)
    dsimp only [Pt.U, Pt.locs, Pt.cells, Pt.slots] at X55 lq55 yq55 zq55 st55 hQ55
    subst lq55 yq55 zq55
    obtain ⟨r55, hr55, rfl, N55q, e55⟩ := hQ55
    have N55 := Fr.app N50 N55q
    obtain ⟨nb0_56, hnb0_56⟩ : ∃ z : Int32, z = (if r55 = (0 : Int32) then (1 : Int32) else (0 : Int32)) := ⟨_, rfl⟩
    have sg57 : ∀ tg0, Steps p.tables e below (T55.setTop (mkF m 139 #[.val (.int p1), .val (.int p2), .val (.int p3), .val (.int p4), .val (.int p5), .val (.int (1 : Int32)), .val (.ref b1o), .val (.ref b33o), .val (.ref b42o), .unset, .unset, .unset, .unset, .unset, .unset, .unset, .unset, .unset] [(.int nb0_56)])) tg0 → Steps p.tables e below (T55.setTop (mkF m 131 #[.val (.int p1), .val (.int p2), .val (.int p3), .val (.int p4), .val (.int p5), .val (.int (1 : Int32)), .val (.ref b1o), .val (.ref b33o), .val (.ref b42o), .unset, .unset, .unset, .unset, .unset, .unset, .unset, .unset, .unset] [(.int r55)])) tg0 := by
      intro tg0 kt
      by_cases hj57_131 : r55 = (0 : Int32)
      · rw [if_pos hj57_131] at hnb0_56
        rw [hnb0_56] at kt
        refine XS.ifNo X55.here hx rfl (hb hby at_131) rfl ((if0 _ _).trans (teq hj57_131).2) ?_
        refine XS.iconst X55.here hx rfl (hb hby at_134) ?_
        refine XS.goto X55.here hx rfl (pc0 := 135) (pc' := 139) rfl (hb hby at_135) (by decide) (by decide) ?_
        exact kt
      · rw [if_neg hj57_131] at hnb0_56
        rw [hnb0_56] at kt
        refine XS.ifYes X55.here hx rfl (pc0 := 131) (pc' := 138) rfl (hb hby at_131) rfl ((if0 _ _).trans (feq hj57_131).2) (by decide) (by decide) ?_
        refine XS.iconst X55.here hx rfl (hb hby at_138) ?_
        exact kt
    have pq58 : ∀ t, Steps p.tables e below (T55.setTop (mkF m 210 #[.val (.int p1), .val (.int p2), .val (.int p3), .val (.int p4), .val (.int p5), .val (.int (1 : Int32)), .val (.ref b1o), .val (.ref b33o), .val (.ref b42o), .val (.int nb0_56), .val (.int (0 : Int32)), .val (.int (0 : Int32)), .val (.int (0 : Int32)), .unset, .unset, .unset, .unset, .unset] [])) t → Steps p.tables e below (s₁.setTop (mkF m 0 #[.val (.int p1), .val (.int p2), .val (.int p3), .val (.int p4), .val (.int p5), .unset, .unset, .unset, .unset, .unset, .unset, .unset, .unset, .unset, .unset, .unset, .unset, .unset] [])) t := by
      intro t kt
      refine pq15 _ ?_
      show Steps p.tables e below (T14.setTop (mkF m 46 #[.val (.int p1), .val (.int p2), .val (.int p3), .val (.int p4), .val (.int p5), .val (.int ((p5 &&& (7 : Int32)) % (5 : Int32))), .val (.ref b1o), .unset, .unset, .unset, .unset, .unset, .unset, .unset, .unset, .unset, .unset, .unset] [])) _
      rw [hI]
      refine XS.iload X14.here hx rfl (hb hby at_46) rfl ?_
      refine st33 _ ?_
      refine XS.astore X33.here hx rfl (hb hby at_50) rfl rfl (l' := #[.val (.int p1), .val (.int p2), .val (.int p3), .val (.int p4), .val (.int p5), .val (.int (1 : Int32)), .val (.ref b1o), .val (.ref b33o), .unset, .unset, .unset, .unset, .unset, .unset, .unset, .unset, .unset, .unset]) rfl ?_
      refine XS.iload X33.here hx rfl (hb hby at_52) rfl ?_
      refine XS.ifNo X33.here hx rfl (hb hby at_54) rfl ((if0 _ _).trans (tlt (by decide)).2.2.2) ?_
      refine XS.aload X33.here hx rfl (hb hby at_57) rfl rfl ?_
      refine XS.iconst X33.here hx rfl (hb hby at_59) ?_
      refine XS.aload X33.here hx rfl (hb hby at_60) rfl rfl ?_
      refine XS.iconst X33.here hx rfl (hb hby at_62) ?_
      refine X33.caload hx (j := (0 : Int32)) (v := (.int r3)) (by rw [e33]; exact Ar38.1) (State.isArrayOf_alike hZ.alike Ar38.2.1) Ar38.2.2 hin39 hat39 (g := (mkF m 63 #[.val (.int p1), .val (.int p2), .val (.int p3), .val (.int p4), .val (.int p5), .val (.int (1 : Int32)), .val (.ref b1o), .val (.ref b33o), .unset, .unset, .unset, .unset, .unset, .unset, .unset, .unset, .unset, .unset] [(.int (0 : Int32)), (.ref b1o), (.int (0 : Int32)), (.ref b33o)])) rfl rfl (hb hby at_63) _ ?_
      refine st41 _ ?_
      refine XS.iload X41.here hx rfl (hb hby at_65) rfl ?_
      refine XS.iconst X41.here hx rfl (hb hby at_67) ?_
      refine XS.icmpYes X41.here hx rfl (pc0 := 68) (pc' := 79) rfl (hb hby at_68) rfl (flt (by decide)).2.2.2 (by decide) (by decide) ?_
      refine XS.iload X41.here hx rfl (hb hby at_79) rfl ?_
      refine XS.iconst X41.here hx rfl (hb hby at_81) ?_
      refine XS.icmpYes X41.here hx rfl (pc0 := 82) (pc' := 93) rfl (hb hby at_82) rfl (flt (by decide)).2.2.2 (by decide) (by decide) ?_
      refine XS.iload X41.here hx rfl (hb hby at_93) rfl ?_
      refine XS.iconst X41.here hx rfl (hb hby at_95) ?_
      refine XS.icmpYes X41.here hx rfl (pc0 := 96) (pc' := 107) rfl (hb hby at_96) rfl (flt (by decide)).2.2.2 (by decide) (by decide) ?_
      refine st42 _ ?_
      refine XS.dup X42.here hx rfl (hb hby at_110) rfl rfl ?_
      refine XS.aload X42.here hx rfl (hb hby at_111) rfl rfl ?_
      refine st50.trans ?_
      refine XS.astore X50.here hx rfl (hb hby at_116) rfl rfl (l' := #[.val (.int p1), .val (.int p2), .val (.int p3), .val (.int p4), .val (.int p5), .val (.int (1 : Int32)), .val (.ref b1o), .val (.ref b33o), .val (.ref b42o), .unset, .unset, .unset, .unset, .unset, .unset, .unset, .unset, .unset]) rfl ?_
      refine XS.iconst X50.here hx rfl (hb hby at_118) ?_
      refine XS.iload X50.here hx rfl (hb hby at_119) rfl ?_
      refine XS.icmpNo X50.here hx rfl (hb hby at_121) rfl (tlt (by decide)).2.1 ?_
      refine XS.aload X50.here hx rfl (hb hby at_124) rfl rfl ?_
      refine XS.iconst X50.here hx rfl (hb hby at_126) ?_
      refine X50.caload hx (j := (0 : Int32)) (v := (.int r3)) Ar53.1 (State.isArrayOf_alike hZ.alike Ar53.2.1) Ar53.2.2 hin54 hat54 (g := (mkF m 127 #[.val (.int p1), .val (.int p2), .val (.int p3), .val (.int p4), .val (.int p5), .val (.int (1 : Int32)), .val (.ref b1o), .val (.ref b33o), .val (.ref b42o), .unset, .unset, .unset, .unset, .unset, .unset, .unset, .unset, .unset] [(.int (0 : Int32)), (.ref b1o)])) rfl rfl (hb hby at_127) _ ?_
      refine st55 _ ?_
      refine sg57 _ ?_
      refine XS.istore X55.here hx rfl (hb hby at_139) rfl (l' := #[.val (.int p1), .val (.int p2), .val (.int p3), .val (.int p4), .val (.int p5), .val (.int (1 : Int32)), .val (.ref b1o), .val (.ref b33o), .val (.ref b42o), .val (.int nb0_56), .unset, .unset, .unset, .unset, .unset, .unset, .unset, .unset]) rfl ?_
      refine XS.iconst X55.here hx rfl (hb hby at_141) ?_
      refine XS.iload X55.here hx rfl (hb hby at_142) rfl ?_
      refine XS.icmpYes X55.here hx rfl (pc0 := 144) (pc' := 161) rfl (hb hby at_144) rfl (flt (by decide)).2.1 (by decide) (by decide) ?_
      refine XS.iconst X55.here hx rfl (hb hby at_161) ?_
      refine XS.istore X55.here hx rfl (hb hby at_162) rfl (l' := #[.val (.int p1), .val (.int p2), .val (.int p3), .val (.int p4), .val (.int p5), .val (.int (1 : Int32)), .val (.ref b1o), .val (.ref b33o), .val (.ref b42o), .val (.int nb0_56), .val (.int (0 : Int32)), .unset, .unset, .unset, .unset, .unset, .unset, .unset]) rfl ?_
      refine XS.iconst X55.here hx rfl (hb hby at_164) ?_
      show Steps p.tables e below (T55.setTop (mkF m 165 #[.val (.int p1), .val (.int p2), .val (.int p3), .val (.int p4), .val (.int p5), .val (.int (1 : Int32)), .val (.ref b1o), .val (.ref b33o), .val (.ref b42o), .val (.int nb0_56), .val (.int (0 : Int32)), .unset, .unset, .unset, .unset, .unset, .unset, .unset] [(.int (2 : Int32))])) _
      refine XS.iload X55.here hx rfl (hb hby at_165) rfl ?_
      refine XS.icmpYes X55.here hx rfl (pc0 := 167) (pc' := 184) rfl (hb hby at_167) rfl (flt (by decide)).2.1 (by decide) (by decide) ?_
      refine XS.iconst X55.here hx rfl (hb hby at_184) ?_
      refine XS.istore X55.here hx rfl (hb hby at_185) rfl (l' := #[.val (.int p1), .val (.int p2), .val (.int p3), .val (.int p4), .val (.int p5), .val (.int (1 : Int32)), .val (.ref b1o), .val (.ref b33o), .val (.ref b42o), .val (.int nb0_56), .val (.int (0 : Int32)), .val (.int (0 : Int32)), .unset, .unset, .unset, .unset, .unset, .unset]) rfl ?_
      refine XS.iconst X55.here hx rfl (hb hby at_187) ?_
      refine XS.iload X55.here hx rfl (hb hby at_188) rfl ?_
      refine XS.icmpYes X55.here hx rfl (pc0 := 190) (pc' := 207) rfl (hb hby at_190) rfl (flt (by decide)).2.1 (by decide) (by decide) ?_
      refine XS.iconst X55.here hx rfl (hb hby at_207) ?_
      refine XS.istore X55.here hx rfl (hb hby at_208) rfl (l' := #[.val (.int p1), .val (.int p2), .val (.int p3), .val (.int p4), .val (.int p5), .val (.int (1 : Int32)), .val (.ref b1o), .val (.ref b33o), .val (.ref b42o), .val (.int nb0_56), .val (.int (0 : Int32)), .val (.int (0 : Int32)), .val (.int (0 : Int32)), .unset, .unset, .unset, .unset, .unset]) rfl ?_
      exact kt
    by_cases hB0 : (r3 = (32 : Int32) ∨ r3 = (9 : Int32) ∨ r3 = (13 : Int32))
    · have f60 := (f51.keep KC50 (allS b42 all0))
      obtain ⟨_, _, ⟨T59, Lq59, kq59, nq59⟩, -, X59, ⟨Lc59, hQ59, lq59, yq59, zq59⟩, st59⟩ := Jvm.LawKit.callS X55 hx (y := (⟨"com/example/wrasse/wrasse/io/CorrectionFormat", "wordOf", "(Ljava/lang/String;)Ljava/util/Optional;"⟩ : MethodName)) hown (mvT hZ (hw _ (own_w 27 rfl))) (mvT hZ (hw _ (own_w 28 rfl))) (mvT hZ (hw _ (own_w 29 rfl))) (mvT hZ (hw _ (own_w 30 rfl))) (by decide) (backOf (W := 0) (rWe l Z a0 hw [] b42o [r3] G1 gv eo T50.heap n0 Z50 f60 O_S hgv O_2 P5 O_A O_H O_W TS50 (Nat.le_of_ble_eq_true rfl) (own_cons hr3 own_nil) (own_befS (P := fun k => (([r3] : List Int32).getD k 0 = (32 : Int32) ∨ ([r3] : List Int32).getD k 0 = (9 : Int32) ∨ ([r3] : List Int32).getD k 0 = (13 : Int32))) own_bef0 hB0) O_E) hZ (hw _ (own_w 30 rfl)) (hw _ (own_w 29 rfl)) (by decide) (by decide)) (g := (mkF m 283 #[.val (.int p1), .val (.int p2), .val (.int p3), .val (.int p4), .val (.int p5), .val (.int (1 : Int32)), .val (.ref b1o), .val (.ref b33o), .val (.ref b42o), .val (.int (0 : Int32)), .val (.int (0 : Int32)), .val (.int (0 : Int32)), .val (.int (0 : Int32)), .val (.int (1 : Int32)), .val (.int (0 : Int32)), .unset, .unset, .unset] [(.ref b42o)])) rfl (by rw [hml]; rfl) (argsL := [(.ref b42o)]) (rest := []) (lenOf pd_33 rfl) rfl (by show 2 * 0 + _ ≤ _; exact Nat.le_of_eq rfl) (hb hby at_283) (fun _ _ => ⟨rfl, e55, (by decide : 5 + 0 ≤ _), (by decide : 33 + 0 ≤ _)⟩)
      dsimp only [Pt.U, Pt.locs, Pt.cells, Pt.slots] at X59 lq59 yq59 zq59 st59 hQ59
      subst lq59 yq59 zq59
      obtain ⟨rfl, N59q, e59⟩ := hQ59
      have N59 := Fr.app N55 N59q
      obtain ⟨cq61, kz61, q61a, q61b, q61c⟩ := isOf hZ e59 (O_EE.ext f60.2)
      obtain ⟨_, _, ⟨T61, Lq61, kq61, nq61⟩, -, X61, ⟨Lc61, hQ61, lq61, yq61, zq61⟩, st61⟩ := X59.virtualBack hx (y := (⟨"java/util/Optional", "isPresent", "()Z"⟩ : MethodName)) (z := (⟨"java/util/Optional", "isPresent", "()Z"⟩ : MethodName)) hown (mvT hZ (hw _ (own_w 47 rfl))) (mvT hZ (hw _ (own_w 48 rfl))) (notFace_of_selects (args := #[]) (mvT hZ (hw _ (own_w 50 rfl)))) (mvT hZ (hw _ (own_w 50 rfl))) (mvT hZ (hw _ (own_w 49 rfl))) (by decide) (backOf (W := 0) (rOp0 l Z a0 hw [] eo  T50.heap n0 Z50 (O_EV.ext f60.2)) hZ (hw _ (own_w 51 rfl)) (hw _ (own_w 44 rfl)) (by decide) (by decide)) q61a q61c (g := (mkF m 297 #[.val (.int p1), .val (.int p2), .val (.int p3), .val (.int p4), .val (.int p5), .val (.int (1 : Int32)), .val (.ref b1o), .val (.ref b33o), .val (.ref b42o), .val (.int (0 : Int32)), .val (.int (0 : Int32)), .val (.int (0 : Int32)), .val (.int (0 : Int32)), .val (.int (1 : Int32)), .val (.int (0 : Int32)), .val (.ref eo), .unset, .unset] [(.ref eo)])) rfl (by rw [hml]; rfl) (Steps.refl _) (argsL := []) (rest := []) (lenOf pd_7 rfl) rfl (by show 2 * 0 + _ ≤ _; exact Nat.le_of_eq rfl) (hb hby at_297) (fun _ _ => ⟨rfl, e59, (by decide : 5 + 0 ≤ _), (by decide : 33 + 0 ≤ _)⟩)
      dsimp only [Pt.U, Pt.locs, Pt.cells, Pt.slots] at X61 lq61 yq61 zq61 st61 hQ61
      subst lq61 yq61 zq61
      obtain ⟨r61, hr61, rfl, N61q, e61⟩ := hQ61
      have N61 := Fr.app N59 N61q
      subst hr61
      obtain ⟨fs, hr, hrun, hended, hwd⟩ := Jvm.Stand.leaveW (s := s) (vm₁ := s.vm) X61 hS0 (Nat.le_trans (Nat.le_trans (Nat.le_trans (Nat.le_trans (Nat.le_trans (Nat.le_trans (Nat.le_trans (Nat.le_trans (Nat.le_trans (Nat.le_trans (Nat.le_of_eq (congrArg Array.size hh)) E1.1) (Nat.le_of_eq W5.size.symm)) (Nat.le_of_eq W8.size.symm)) (Nat.le_of_eq W11.size.symm)) (Nat.le_of_eq W14.size.symm)) E33.1) (Nat.le_of_eq W41.size.symm)) E42.1) KC50.1) (Nat.le_of_eq (congrArg Array.size e61).symm)) (v := some (.int (1 : Int32))) (fun h => by rw [Bd.returns] at h; cases h)
      refine ⟨_, _, pre0 _ ?_, hrun, hended, _, _, rfl, ?_, hwd.1, hwd.2.1, hwd.2.2.1, hwd.2.2.2.mono (by decide) (by decide)⟩
      · refine pq58 _ ?_
        rw [(own_nbT hr55 hB0 hnb0_56)]
        refine own_blk X55 hx hby (1 : Int32) (0 : Int32) (by decide) (by decide) _ ?_
        refine XS.aload X55.here hx rfl (hb hby at_281) rfl rfl ?_
        refine st59 _ ?_
        refine XS.astore X59.here hx rfl (hb hby at_286) rfl rfl (l' := #[.val (.int p1), .val (.int p2), .val (.int p3), .val (.int p4), .val (.int p5), .val (.int (1 : Int32)), .val (.ref b1o), .val (.ref b33o), .val (.ref b42o), .val (.int (0 : Int32)), .val (.int (0 : Int32)), .val (.int (0 : Int32)), .val (.int (0 : Int32)), .val (.int (1 : Int32)), .val (.int (0 : Int32)), .val (.ref eo), .unset, .unset]) rfl ?_
        refine XS.iload X59.here hx rfl (hb hby at_288) rfl ?_
        refine XS.iload X59.here hx rfl (hb hby at_290) rfl ?_
        refine XS.icmpNo X59.here hx rfl (hb hby at_292) rfl (flt (by decide)).1 ?_
        refine XS.aload X59.here hx rfl (hb hby at_295) rfl rfl ?_
        refine st61.trans ?_
        refine XS.ifNo X61.here hx rfl (hb hby at_300) rfl ((if0 _ _).trans (teq (by decide)).2) ?_
        refine XS.iconst X61.here hx rfl (hb hby at_303) ?_
        refine XS.goto X61.here hx rfl (pc0 := 304) (pc' := 308) rfl (hb hby at_304) (by decide) (by decide) ?_
        exact retN X61 hx (t := .boolean) Bd.returns (by simp) (hb hby at_308) hr
      · show Qrm0 Z p1 p2 p3 p4 p5 G1 gv eo h0 n0 _ T61.heap _
        exact ⟨rfl, N61⟩
    · have f63 := (f51.keep KC50 (allS b42 all0))
      obtain ⟨_, _, ⟨T62, Lq62, kq62, nq62⟩, -, X62, ⟨Lc62, hQ62, lq62, yq62, zq62⟩, st62⟩ := Jvm.LawKit.callS X55 hx (y := (⟨"com/example/wrasse/wrasse/io/CorrectionFormat", "wordOf", "(Ljava/lang/String;)Ljava/util/Optional;"⟩ : MethodName)) hown (mvT hZ (hw _ (own_w 27 rfl))) (mvT hZ (hw _ (own_w 28 rfl))) (mvT hZ (hw _ (own_w 29 rfl))) (mvT hZ (hw _ (own_w 30 rfl))) (by decide) (backOf (W := 0) (rWp l Z a0 hw [] b42o [r3] G1 gv 0 [r3] T50.heap n0 Z50 f63 O_S hgv O_2 P5 O_A O_H O_W TS50 (Nat.le_of_ble_eq_true rfl) (own_cons hr3 own_nil) own_bef0 ⟨(Nat.le_of_ble_eq_true rfl), rfl⟩ (Nat.le_of_ble_eq_true rfl) hB0 hB0 own_aft0) hZ (hw _ (own_w 30 rfl)) (hw _ (own_w 29 rfl)) (by decide) (by decide)) (g := (mkF m 283 #[.val (.int p1), .val (.int p2), .val (.int p3), .val (.int p4), .val (.int p5), .val (.int (1 : Int32)), .val (.ref b1o), .val (.ref b33o), .val (.ref b42o), .val (.int (1 : Int32)), .val (.int (0 : Int32)), .val (.int (0 : Int32)), .val (.int (0 : Int32)), .val (.int (0 : Int32)), .val (.int (1 : Int32)), .unset, .unset, .unset] [(.ref b42o)])) rfl (by rw [hml]; rfl) (argsL := [(.ref b42o)]) (rest := []) (lenOf pd_33 rfl) rfl (by show 2 * 0 + _ ≤ _; exact Nat.le_of_eq rfl) (hb hby at_283) (fun _ _ => ⟨rfl, e55, (by decide : 5 + 4 ≤ _), (by decide : 33 + 29 ≤ _)⟩)
      dsimp only [Pt.U, Pt.locs, Pt.cells, Pt.slots] at X62 lq62 yq62 zq62 st62 hQ62
      subst lq62 yq62 zq62
      obtain ⟨o62, x62, rfl, N62q, KC62, uE62, uV62, TS62⟩ := hQ62
      have N62 := Fr.app N55 N62q
      have Z62 : n0 ≤ T62.heap.size := Nat.le_trans Z50 KC62.1
      have f65 := (f63.keep KC62 all0)
      have f66 := (f52.keep KC62 nin0)
      obtain ⟨T64, L64, X64, e64, N64, st64⟩ := own_tail (ct := [r3]) (sq := 0) (vs := [(.int r3), (.int r6), (.int r9), (.int r12)]) (by decide) (by decide) (by decide) (by decide) hx hZ hw hby hml hown f65 O_S hgv O_2 P5 O_A O_H O_W Z62 TS62 (Nat.le_of_ble_eq_true rfl) (own_cons hr3 own_nil) uE62 uV62 f66 (Nat.le_of_ble_eq_true rfl) (by decide : 0 + 1 ≤ 4) (own_befS (P := fun k => ([.int r3, .int r6, .int r9, .int r12] : List Value).getD (0 + k) (.int (0 : Int32)) = .int (([r3] : List Int32).getD k 0)) own_bef0 rfl) _ _ X62 rfl N62
      obtain ⟨fs, hr, hrun, hended, hwd⟩ := Jvm.Stand.leaveW (s := s) (vm₁ := s.vm) X64 hS0 (Nat.le_trans (Nat.le_trans (Nat.le_trans (Nat.le_trans (Nat.le_trans (Nat.le_trans (Nat.le_trans (Nat.le_trans (Nat.le_trans (Nat.le_trans (Nat.le_trans (Nat.le_of_eq (congrArg Array.size hh)) E1.1) (Nat.le_of_eq W5.size.symm)) (Nat.le_of_eq W8.size.symm)) (Nat.le_of_eq W11.size.symm)) (Nat.le_of_eq W14.size.symm)) E33.1) (Nat.le_of_eq W41.size.symm)) E42.1) KC50.1) KC62.1) (Nat.le_of_eq (congrArg Array.size e64).symm)) (v := some (.int (1 : Int32))) (fun h => by rw [Bd.returns] at h; cases h)
      refine ⟨_, _, pre0 _ ?_, hrun, hended, _, _, rfl, ?_, hwd.1, hwd.2.1, hwd.2.2.1, hwd.2.2.2.mono (by decide) (by decide)⟩
      · refine pq58 _ ?_
        rw [(own_nbF hr55 hB0 hnb0_56)]
        refine own_blk X55 hx hby (0 : Int32) (1 : Int32) (by decide) (by decide) _ ?_
        refine XS.aload X55.here hx rfl (hb hby at_281) rfl rfl ?_
        refine st62 _ ?_
        refine XS.astore X62.here hx rfl (hb hby at_286) rfl rfl (l' := #[.val (.int p1), .val (.int p2), .val (.int p3), .val (.int p4), .val (.int p5), .val (.int (1 : Int32)), .val (.ref b1o), .val (.ref b33o), .val (.ref b42o), .val (.int (1 : Int32)), .val (.int (0 : Int32)), .val (.int (0 : Int32)), .val (.int (0 : Int32)), .val (.int (0 : Int32)), .val (.int (1 : Int32)), .val (.ref o62), .unset, .unset]) rfl ?_
        refine XS.iload X62.here hx rfl (hb hby at_288) rfl ?_
        refine XS.iload X62.here hx rfl (hb hby at_290) rfl ?_
        refine XS.icmpYes X62.here hx rfl (pc0 := 292) (pc' := 309) rfl (hb hby at_292) rfl (tlt (by decide)).1 (by decide) (by decide) ?_
        refine st64 _ ?_
        exact retN X64 hx (t := .boolean) Bd.returns (by simp) (hb hby at_443) hr
      · show Qrm0 Z p1 p2 p3 p4 p5 G1 gv eo h0 n0 _ T64.heap _
        exact ⟨rfl, N64⟩
  · skip
    obtain ⟨T67, h67, ck67, X67, e67, E67, A67, st67⟩ := newP X14 hx hZ (hw _ (own_w 0 rfl)) e14 (g := (mkF m 48 #[.val (.int p1), .val (.int p2), .val (.int p3), .val (.int p4), .val (.int p5), .val (.int (2 : Int32)), .val (.ref b1o), .unset, .unset, .unset, .unset, .unset, .unset, .unset, .unset, .unset, .unset, .unset] [(.int (2 : Int32))])) rfl (hb hby at_48) rfl (by decide) (cap := 2) (by decide) (by decide) (by decide) (by decide)
    obtain ⟨b67o, g67⟩ : ∃ z, z = h14.size := ⟨_, rfl⟩
    have b67 : n0 ≤ b67o := Nat.le_trans Z14 (Nat.le_of_eq g67.symm)
    have f68 := (((((X00.ext E1).wr W5 b1).wr W8 b1).wr W11 b1).wr W14 b1)
    have ne69 : eo ≠ b67o := Nat.ne_of_lt (Nat.lt_of_lt_of_le (O_EE.ext f68.2).lt (Nat.le_of_eq g67.symm))
    have ne70 : b1o ≠ b67o := Nat.ne_of_lt (Nat.lt_of_lt_of_le VA.lt (Nat.le_of_eq g67.symm))
    rw [← g67] at A67 st67
    have Z67 : n0 ≤ h67.size := Nat.le_trans Z14 E67.1
    have V67 : Arv Z h67 b67o ck67 .char (2 : Int32) [(.int (0 : Int32)), (.int (0 : Int32))] (.int (0 : Int32)) := (Arv.new A67 (by decide)).pad (pad_rep [] (.int (0 : Int32)) 2)
    have f71 := (VA.ext E67)
    obtain ⟨cl72, Ar72, qk72, Sz72, Nn72, Hh72, Gg72⟩ := id (f71)
    have hin73 : ¬ ((0 : Int32) < 0 ∨ cl72.slots.size ≤ ((0 : Int32)).toNatClampNeg) := inb_of Sz72 ⟨by decide, by decide⟩
    have hat73 : cl72.slots[((0 : Int32)).toNatClampNeg]? = some (.int r3) := Has.at Hh72 hin73 rfl
    obtain ⟨cl74, Ar74, qk74, Sz74, Nn74, Hh74, Gg74⟩ := id (V67)
    have hin75 : ¬ ((0 : Int32) < 0 ∨ cl74.slots.size ≤ ((0 : Int32)).toNatClampNeg) := inb_of Sz74 ⟨by decide, by decide⟩
    obtain ⟨T75, h75, X75, e75, W75, st75⟩ := stC X67 hx hZ e67 Ar74 (j := (0 : Int32)) hin75  (g := (mkF m 64 #[.val (.int p1), .val (.int p2), .val (.int p3), .val (.int p4), .val (.int p5), .val (.int (2 : Int32)), .val (.ref b1o), .val (.ref b67o), .unset, .unset, .unset, .unset, .unset, .unset, .unset, .unset, .unset, .unset] [(.int r3), (.int (0 : Int32)), (.ref b67o)])) rfl rfl (hb hby at_64)
    have N75 := Fr.snoc X75 N14 b67
    have Z75 : n0 ≤ h75.size := by rw [W75.size]; exact Z67
    have V75 : Arv Z h75 b67o ck67 .char (2 : Int32) [(.int (nar .char r3)), (.int (0 : Int32))] (.int (0 : Int32)) := Arv.set Ar74 qk74 Sz74 Nn74 Hh74 Gg74 (fits_nar_char _) W75 0 rfl (Nat.le_of_ble_eq_true rfl)
    have f76 := (f71.other W75 ne70)
    obtain ⟨cl77, Ar77, qk77, Sz77, Nn77, Hh77, Gg77⟩ := id (f76)
    have hin78 : ¬ ((1 : Int32) < 0 ∨ cl77.slots.size ≤ ((1 : Int32)).toNatClampNeg) := inb_of Sz77 ⟨by decide, by decide⟩
    have hat78 : cl77.slots[((1 : Int32)).toNatClampNeg]? = some (.int r6) := Has.at Hh77 hin78 rfl
    obtain ⟨cl79, Ar79, qk79, Sz79, Nn79, Hh79, Gg79⟩ := id (V75)
    have hin80 : ¬ ((1 : Int32) < 0 ∨ cl79.slots.size ≤ ((1 : Int32)).toNatClampNeg) := inb_of Sz79 ⟨by decide, by decide⟩
    obtain ⟨T80, h80, X80, e80, W80, st80⟩ := stC X75 hx hZ e75 Ar79 (j := (1 : Int32)) hin80  (g := (mkF m 78 #[.val (.int p1), .val (.int p2), .val (.int p3), .val (.int p4), .val (.int p5), .val (.int (2 : Int32)), .val (.ref b1o), .val (.ref b67o), .unset, .unset, .unset, .unset, .unset, .unset, .unset, .unset, .unset, .unset] [(.int r6), (.int (1 : Int32)), (.ref b67o)])) rfl rfl (hb hby at_78)
    have N80 := Fr.snoc X80 N75 b67
    have Z80 : n0 ≤ h80.size := by rw [W80.size]; exact Z75
    have V80 : Arv Z h80 b67o ck67 .char (2 : Int32) [(.int (nar .char r3)), (.int (nar .char r6))] (.int (0 : Int32)) := Arv.set Ar79 qk79 Sz79 Nn79 Hh79 Gg79 (fits_nar_char _) W80 1 rfl (Nat.le_of_ble_eq_true rfl)
    obtain ⟨T81, h81, X81, e81, E81, A81, D81, -, st81⟩ := newO X80 hx hZ hown (hw _ (own_w 6 rfl)) (hw _ (own_w 7 rfl)) (hw _ (own_w 8 rfl)) e80 (g := (mkF m 107 #[.val (.int p1), .val (.int p2), .val (.int p3), .val (.int p4), .val (.int p5), .val (.int (2 : Int32)), .val (.ref b1o), .val (.ref b67o), .unset, .unset, .unset, .unset, .unset, .unset, .unset, .unset, .unset, .unset] [])) rfl (hb hby at_107) (by decide) (by decide)
    obtain ⟨b81o, g81⟩ : ∃ z, z = h80.size := ⟨_, rfl⟩
    have b81 : n0 ≤ b81o := Nat.le_trans Z80 (Nat.le_of_eq g81.symm)
    have f82 := (((f68.ext E67).wr W75 b67).wr W80 b67)
    have ne83 : eo ≠ b81o := Nat.ne_of_lt (Nat.lt_of_lt_of_le (O_EE.ext f82.2).lt (Nat.le_of_eq g81.symm))
    have f84 := (f76.other W80 ne70)
    have ne85 : b1o ≠ b81o := Nat.ne_of_lt (Nat.lt_of_lt_of_le f84.lt (Nat.le_of_eq g81.symm))
    have ne86 : b67o ≠ b81o := Nat.ne_of_lt (Nat.lt_of_lt_of_le V80.lt (Nat.le_of_eq g81.symm))
    rw [← g81] at A81 D81 st81
    have Z81 : n0 ≤ h81.size := Nat.le_trans Z80 E81.1
    have F81_21 : Fld Z h81 b81o "java/lang/String" "value" "[B" .null := D81 (Or.inr (hw _ (own_w 21 rfl))) (ty := (.array .byte)) (by decide)
    have F81_22 : Fld Z h81 b81o "java/lang/String" "coder" "B" (.int (0 : Int32)) := D81 (Or.inr (hw _ (own_w 22 rfl))) (ty := .byte) (by decide)
    have f87 := (V80.ext E81)
    have VB88 := f87
    rw [own_ncc hr3, own_ncc hr6] at VB88
    have f90 := (f82.ext E81)
    obtain ⟨_, _, ⟨T89, Lq89, kq89, nq89⟩, -, X89, ⟨Lc89, hQ89, lq89, yq89, zq89⟩, st89⟩ := X81.specialBack hx (y := (⟨"java/lang/String", "<init>", "([C)V"⟩ : MethodName)) rfl hown (mvT hZ (hw _ (own_w 9 rfl))) (mvT hZ (hw _ (own_w 10 rfl))) (mvT hZ (hw _ (own_w 11 rfl))) (by decide) (backOf (W := 1) (rI1 l Z a0 hw [] b81o b67o [r3, r6] ck67 G1 h81 n0 Z81 A81 F81_21 F81_22 b81 f90 O_2 P5 O_A O_H O_W VB88 (Nat.le_of_ble_eq_true rfl) (Nat.le_of_ble_eq_true rfl) (own_cons hr3 (own_cons hr6 own_nil)) (Ne.symm ne86)) hZ (hw _ (own_w 11 rfl)) (hw _ (own_w 8 rfl)) (by decide) (by decide)) (g := (mkF m 113 #[.val (.int p1), .val (.int p2), .val (.int p3), .val (.int p4), .val (.int p5), .val (.int (2 : Int32)), .val (.ref b1o), .val (.ref b67o), .unset, .unset, .unset, .unset, .unset, .unset, .unset, .unset, .unset, .unset] [(.ref b67o), (.ref b81o), (.ref b81o)])) rfl (by rw [hml]; rfl) (Steps.refl _) (a := b81o) (argsL := [(.ref b67o)]) (rest := [(.ref b81o)]) (lenOf pd_32 rfl) rfl (by show 2 * 0 + _ ≤ _; exact Nat.le_of_eq rfl) (hb hby at_113) (fun _ _ => ⟨rfl, e81, (by decide : 3 + 2 ≤ _), (by decide : 10 + 24 ≤ _)⟩)
    dsimp only [Pt.U, Pt.locs, Pt.cells, Pt.slots] at X89 lq89 yq89 zq89 st89 hQ89
    subst lq89 yq89 zq89
    obtain ⟨rfl, N89q, KC89, TS89⟩ := hQ89
    have N89 := Fr.app N80 N89q
    have Z89 : n0 ≤ T89.heap.size := Nat.le_trans Z81 KC89.1
    have f91 := ((f84.ext E81).keep KC89 (ninS ne85 nin0))
    obtain ⟨cl92, Ar92, qk92, Sz92, Nn92, Hh92, Gg92⟩ := id (f91)
    have hin93 : ¬ ((0 : Int32) < 0 ∨ cl92.slots.size ≤ ((0 : Int32)).toNatClampNeg) := inb_of Sz92 ⟨by decide, by decide⟩
    have hat93 : cl92.slots[((0 : Int32)).toNatClampNeg]? = some (.int r3) := Has.at Hh92 hin93 rfl
    obtain ⟨_, _, ⟨T94, Lq94, kq94, nq94⟩, -, X94, ⟨Lc94, hQ94, lq94, yq94, zq94⟩, st94⟩ := Jvm.LawKit.callS X89 hx (y := (⟨"com/example/wrasse/wrasse/io/CorrectionFormatWordOfPinLaw", "bl", "(C)Z"⟩ : MethodName)) hown (mvT hZ (hw _ (own_w 64 rfl))) (mvT hZ (hw _ (own_w 65 rfl))) (mvT hZ (hw _ (own_w 3 rfl))) (mvT hZ (hw _ (own_w 66 rfl))) (by decide) (backOf (W := 0) (rBl l Z a0 hw [] r3  T89.heap n0 Z89 ) hZ (hw _ (own_w 66 rfl)) (hw _ (own_w 3 rfl)) (by decide) (by decide)) (g := (mkF m 128 #[.val (.int p1), .val (.int p2), .val (.int p3), .val (.int p4), .val (.int p5), .val (.int (2 : Int32)), .val (.ref b1o), .val (.ref b67o), .val (.ref b81o), .unset, .unset, .unset, .unset, .unset, .unset, .unset, .unset, .unset] [(.int r3)])) rfl (by rw [hml]; rfl) (argsL := [(.int r3)]) (rest := []) (lenOf pd_27 rfl) rfl (by show 2 * 0 + _ ≤ _; exact Nat.le_of_eq rfl) (hb hby at_128) (fun _ _ => ⟨rfl, rfl, (by decide : 5 + 0 ≤ _), (by decide : 34 + 0 ≤ _)⟩)
    dsimp only [Pt.U, Pt.locs, Pt.cells, Pt.slots] at X94 lq94 yq94 zq94 st94 hQ94
    subst lq94 yq94 zq94
    obtain ⟨r94, hr94, rfl, N94q, e94⟩ := hQ94
    have N94 := Fr.app N89 N94q
    obtain ⟨nb0_95, hnb0_95⟩ : ∃ z : Int32, z = (if r94 = (0 : Int32) then (1 : Int32) else (0 : Int32)) := ⟨_, rfl⟩
    have sg96 : ∀ tg0, Steps p.tables e below (T94.setTop (mkF m 139 #[.val (.int p1), .val (.int p2), .val (.int p3), .val (.int p4), .val (.int p5), .val (.int (2 : Int32)), .val (.ref b1o), .val (.ref b67o), .val (.ref b81o), .unset, .unset, .unset, .unset, .unset, .unset, .unset, .unset, .unset] [(.int nb0_95)])) tg0 → Steps p.tables e below (T94.setTop (mkF m 131 #[.val (.int p1), .val (.int p2), .val (.int p3), .val (.int p4), .val (.int p5), .val (.int (2 : Int32)), .val (.ref b1o), .val (.ref b67o), .val (.ref b81o), .unset, .unset, .unset, .unset, .unset, .unset, .unset, .unset, .unset] [(.int r94)])) tg0 := by
      intro tg0 kt
      by_cases hj96_131 : r94 = (0 : Int32)
      · rw [if_pos hj96_131] at hnb0_95
        rw [hnb0_95] at kt
        refine XS.ifNo X94.here hx rfl (hb hby at_131) rfl ((if0 _ _).trans (teq hj96_131).2) ?_
        refine XS.iconst X94.here hx rfl (hb hby at_134) ?_
        refine XS.goto X94.here hx rfl (pc0 := 135) (pc' := 139) rfl (hb hby at_135) (by decide) (by decide) ?_
        exact kt
      · rw [if_neg hj96_131] at hnb0_95
        rw [hnb0_95] at kt
        refine XS.ifYes X94.here hx rfl (pc0 := 131) (pc' := 138) rfl (hb hby at_131) rfl ((if0 _ _).trans (feq hj96_131).2) (by decide) (by decide) ?_
        refine XS.iconst X94.here hx rfl (hb hby at_138) ?_
        exact kt
    obtain ⟨cl97, Ar97, qk97, Sz97, Nn97, Hh97, Gg97⟩ := id (f91)
    have hin98 : ¬ ((1 : Int32) < 0 ∨ cl97.slots.size ≤ ((1 : Int32)).toNatClampNeg) := inb_of Sz97 ⟨by decide, by decide⟩
    have hat98 : cl97.slots[((1 : Int32)).toNatClampNeg]? = some (.int r6) := Has.at Hh97 hin98 rfl
    obtain ⟨_, _, ⟨T99, Lq99, kq99, nq99⟩, -, X99, ⟨Lc99, hQ99, lq99, yq99, zq99⟩, st99⟩ := Jvm.LawKit.callS X94 hx (y := (⟨"com/example/wrasse/wrasse/io/CorrectionFormatWordOfPinLaw", "bl", "(C)Z"⟩ : MethodName)) hown (mvT hZ (hw _ (own_w 64 rfl))) (mvT hZ (hw _ (own_w 65 rfl))) (mvT hZ (hw _ (own_w 3 rfl))) (mvT hZ (hw _ (own_w 66 rfl))) (by decide) (backOf (W := 0) (rBl l Z a0 hw [] r6  T89.heap n0 Z89 ) hZ (hw _ (own_w 66 rfl)) (hw _ (own_w 3 rfl)) (by decide) (by decide)) (g := (mkF m 151 #[.val (.int p1), .val (.int p2), .val (.int p3), .val (.int p4), .val (.int p5), .val (.int (2 : Int32)), .val (.ref b1o), .val (.ref b67o), .val (.ref b81o), .val (.int nb0_95), .unset, .unset, .unset, .unset, .unset, .unset, .unset, .unset] [(.int r6)])) rfl (by rw [hml]; rfl) (argsL := [(.int r6)]) (rest := []) (lenOf pd_27 rfl) rfl (by show 2 * 0 + _ ≤ _; exact Nat.le_of_eq rfl) (hb hby at_151) (fun _ _ => ⟨rfl, e94, (by decide : 5 + 0 ≤ _), (by decide : 34 + 0 ≤ _)⟩)
    dsimp only [Pt.U, Pt.locs, Pt.cells, Pt.slots] at X99 lq99 yq99 zq99 st99 hQ99
    subst lq99 yq99 zq99
    obtain ⟨r99, hr99, rfl, N99q, e99⟩ := hQ99
    have N99 := Fr.app N94 N99q
    obtain ⟨nb1_100, hnb1_100⟩ : ∃ z : Int32, z = (if r99 = (0 : Int32) then (1 : Int32) else (0 : Int32)) := ⟨_, rfl⟩
    have sg101 : ∀ tg0, Steps p.tables e below (T99.setTop (mkF m 162 #[.val (.int p1), .val (.int p2), .val (.int p3), .val (.int p4), .val (.int p5), .val (.int (2 : Int32)), .val (.ref b1o), .val (.ref b67o), .val (.ref b81o), .val (.int nb0_95), .unset, .unset, .unset, .unset, .unset, .unset, .unset, .unset] [(.int nb1_100)])) tg0 → Steps p.tables e below (T99.setTop (mkF m 154 #[.val (.int p1), .val (.int p2), .val (.int p3), .val (.int p4), .val (.int p5), .val (.int (2 : Int32)), .val (.ref b1o), .val (.ref b67o), .val (.ref b81o), .val (.int nb0_95), .unset, .unset, .unset, .unset, .unset, .unset, .unset, .unset] [(.int r99)])) tg0 := by
      intro tg0 kt
      by_cases hj101_154 : r99 = (0 : Int32)
      · rw [if_pos hj101_154] at hnb1_100
        rw [hnb1_100] at kt
        refine XS.ifNo X99.here hx rfl (hb hby at_154) rfl ((if0 _ _).trans (teq hj101_154).2) ?_
        refine XS.iconst X99.here hx rfl (hb hby at_157) ?_
        refine XS.goto X99.here hx rfl (pc0 := 158) (pc' := 162) rfl (hb hby at_158) (by decide) (by decide) ?_
        exact kt
      · rw [if_neg hj101_154] at hnb1_100
        rw [hnb1_100] at kt
        refine XS.ifYes X99.here hx rfl (pc0 := 154) (pc' := 161) rfl (hb hby at_154) rfl ((if0 _ _).trans (feq hj101_154).2) (by decide) (by decide) ?_
        refine XS.iconst X99.here hx rfl (hb hby at_161) ?_
        exact kt
    have pq102 : ∀ t, Steps p.tables e below (T99.setTop (mkF m 210 #[.val (.int p1), .val (.int p2), .val (.int p3), .val (.int p4), .val (.int p5), .val (.int (2 : Int32)), .val (.ref b1o), .val (.ref b67o), .val (.ref b81o), .val (.int nb0_95), .val (.int nb1_100), .val (.int (0 : Int32)), .val (.int (0 : Int32)), .unset, .unset, .unset, .unset, .unset] [])) t → Steps p.tables e below (s₁.setTop (mkF m 0 #[.val (.int p1), .val (.int p2), .val (.int p3), .val (.int p4), .val (.int p5), .unset, .unset, .unset, .unset, .unset, .unset, .unset, .unset, .unset, .unset, .unset, .unset, .unset] [])) t := by
      intro t kt
      refine pq15 _ ?_
      show Steps p.tables e below (T14.setTop (mkF m 46 #[.val (.int p1), .val (.int p2), .val (.int p3), .val (.int p4), .val (.int p5), .val (.int ((p5 &&& (7 : Int32)) % (5 : Int32))), .val (.ref b1o), .unset, .unset, .unset, .unset, .unset, .unset, .unset, .unset, .unset, .unset, .unset] [])) _
      rw [hI]
      refine XS.iload X14.here hx rfl (hb hby at_46) rfl ?_
      refine st67 _ ?_
      refine XS.astore X67.here hx rfl (hb hby at_50) rfl rfl (l' := #[.val (.int p1), .val (.int p2), .val (.int p3), .val (.int p4), .val (.int p5), .val (.int (2 : Int32)), .val (.ref b1o), .val (.ref b67o), .unset, .unset, .unset, .unset, .unset, .unset, .unset, .unset, .unset, .unset]) rfl ?_
      refine XS.iload X67.here hx rfl (hb hby at_52) rfl ?_
      refine XS.ifNo X67.here hx rfl (hb hby at_54) rfl ((if0 _ _).trans (tlt (by decide)).2.2.2) ?_
      refine XS.aload X67.here hx rfl (hb hby at_57) rfl rfl ?_
      refine XS.iconst X67.here hx rfl (hb hby at_59) ?_
      refine XS.aload X67.here hx rfl (hb hby at_60) rfl rfl ?_
      refine XS.iconst X67.here hx rfl (hb hby at_62) ?_
      refine X67.caload hx (j := (0 : Int32)) (v := (.int r3)) (by rw [e67]; exact Ar72.1) (State.isArrayOf_alike hZ.alike Ar72.2.1) Ar72.2.2 hin73 hat73 (g := (mkF m 63 #[.val (.int p1), .val (.int p2), .val (.int p3), .val (.int p4), .val (.int p5), .val (.int (2 : Int32)), .val (.ref b1o), .val (.ref b67o), .unset, .unset, .unset, .unset, .unset, .unset, .unset, .unset, .unset, .unset] [(.int (0 : Int32)), (.ref b1o), (.int (0 : Int32)), (.ref b67o)])) rfl rfl (hb hby at_63) _ ?_
      refine st75 _ ?_
      refine XS.iload X75.here hx rfl (hb hby at_65) rfl ?_
      refine XS.iconst X75.here hx rfl (hb hby at_67) ?_
      refine XS.icmpNo X75.here hx rfl (hb hby at_68) rfl (tlt (by decide)).2.2.2 ?_
      refine XS.aload X75.here hx rfl (hb hby at_71) rfl rfl ?_
      refine XS.iconst X75.here hx rfl (hb hby at_73) ?_
      refine XS.aload X75.here hx rfl (hb hby at_74) rfl rfl ?_
      refine XS.iconst X75.here hx rfl (hb hby at_76) ?_
      refine X75.caload hx (j := (1 : Int32)) (v := (.int r6)) (by rw [e75]; exact Ar77.1) (State.isArrayOf_alike hZ.alike Ar77.2.1) Ar77.2.2 hin78 hat78 (g := (mkF m 77 #[.val (.int p1), .val (.int p2), .val (.int p3), .val (.int p4), .val (.int p5), .val (.int (2 : Int32)), .val (.ref b1o), .val (.ref b67o), .unset, .unset, .unset, .unset, .unset, .unset, .unset, .unset, .unset, .unset] [(.int (1 : Int32)), (.ref b1o), (.int (1 : Int32)), (.ref b67o)])) rfl rfl (hb hby at_77) _ ?_
      refine st80 _ ?_
      refine XS.iload X80.here hx rfl (hb hby at_79) rfl ?_
      refine XS.iconst X80.here hx rfl (hb hby at_81) ?_
      refine XS.icmpYes X80.here hx rfl (pc0 := 82) (pc' := 93) rfl (hb hby at_82) rfl (flt (by decide)).2.2.2 (by decide) (by decide) ?_
      refine XS.iload X80.here hx rfl (hb hby at_93) rfl ?_
      refine XS.iconst X80.here hx rfl (hb hby at_95) ?_
      refine XS.icmpYes X80.here hx rfl (pc0 := 96) (pc' := 107) rfl (hb hby at_96) rfl (flt (by decide)).2.2.2 (by decide) (by decide) ?_
      refine st81 _ ?_
      refine XS.dup X81.here hx rfl (hb hby at_110) rfl rfl ?_
      refine XS.aload X81.here hx rfl (hb hby at_111) rfl rfl ?_
      refine st89.trans ?_
      refine XS.astore X89.here hx rfl (hb hby at_116) rfl rfl (l' := #[.val (.int p1), .val (.int p2), .val (.int p3), .val (.int p4), .val (.int p5), .val (.int (2 : Int32)), .val (.ref b1o), .val (.ref b67o), .val (.ref b81o), .unset, .unset, .unset, .unset, .unset, .unset, .unset, .unset, .unset]) rfl ?_
      refine XS.iconst X89.here hx rfl (hb hby at_118) ?_
      refine XS.iload X89.here hx rfl (hb hby at_119) rfl ?_
      refine XS.icmpNo X89.here hx rfl (hb hby at_121) rfl (tlt (by decide)).2.1 ?_
      refine XS.aload X89.here hx rfl (hb hby at_124) rfl rfl ?_
      refine XS.iconst X89.here hx rfl (hb hby at_126) ?_
      refine X89.caload hx (j := (0 : Int32)) (v := (.int r3)) Ar92.1 (State.isArrayOf_alike hZ.alike Ar92.2.1) Ar92.2.2 hin93 hat93 (g := (mkF m 127 #[.val (.int p1), .val (.int p2), .val (.int p3), .val (.int p4), .val (.int p5), .val (.int (2 : Int32)), .val (.ref b1o), .val (.ref b67o), .val (.ref b81o), .unset, .unset, .unset, .unset, .unset, .unset, .unset, .unset, .unset] [(.int (0 : Int32)), (.ref b1o)])) rfl rfl (hb hby at_127) _ ?_
      refine st94 _ ?_
      refine sg96 _ ?_
      refine XS.istore X94.here hx rfl (hb hby at_139) rfl (l' := #[.val (.int p1), .val (.int p2), .val (.int p3), .val (.int p4), .val (.int p5), .val (.int (2 : Int32)), .val (.ref b1o), .val (.ref b67o), .val (.ref b81o), .val (.int nb0_95), .unset, .unset, .unset, .unset, .unset, .unset, .unset, .unset]) rfl ?_
      show Steps p.tables e below (T94.setTop (mkF m 141 #[.val (.int p1), .val (.int p2), .val (.int p3), .val (.int p4), .val (.int p5), .val (.int (2 : Int32)), .val (.ref b1o), .val (.ref b67o), .val (.ref b81o), .val (.int nb0_95), .unset, .unset, .unset, .unset, .unset, .unset, .unset, .unset] [])) _
      refine XS.iconst X94.here hx rfl (hb hby at_141) ?_
      refine XS.iload X94.here hx rfl (hb hby at_142) rfl ?_
      refine XS.icmpNo X94.here hx rfl (hb hby at_144) rfl (tlt (by decide)).2.1 ?_
      refine XS.aload X94.here hx rfl (hb hby at_147) rfl rfl ?_
      refine XS.iconst X94.here hx rfl (hb hby at_149) ?_
      refine X94.caload hx (j := (1 : Int32)) (v := (.int r6)) (by rw [e94]; exact Ar97.1) (State.isArrayOf_alike hZ.alike Ar97.2.1) Ar97.2.2 hin98 hat98 (g := (mkF m 150 #[.val (.int p1), .val (.int p2), .val (.int p3), .val (.int p4), .val (.int p5), .val (.int (2 : Int32)), .val (.ref b1o), .val (.ref b67o), .val (.ref b81o), .val (.int nb0_95), .unset, .unset, .unset, .unset, .unset, .unset, .unset, .unset] [(.int (1 : Int32)), (.ref b1o)])) rfl rfl (hb hby at_150) _ ?_
      refine st99 _ ?_
      refine sg101 _ ?_
      refine XS.istore X99.here hx rfl (hb hby at_162) rfl (l' := #[.val (.int p1), .val (.int p2), .val (.int p3), .val (.int p4), .val (.int p5), .val (.int (2 : Int32)), .val (.ref b1o), .val (.ref b67o), .val (.ref b81o), .val (.int nb0_95), .val (.int nb1_100), .unset, .unset, .unset, .unset, .unset, .unset, .unset]) rfl ?_
      refine XS.iconst X99.here hx rfl (hb hby at_164) ?_
      refine XS.iload X99.here hx rfl (hb hby at_165) rfl ?_
      refine XS.icmpYes X99.here hx rfl (pc0 := 167) (pc' := 184) rfl (hb hby at_167) rfl (flt (by decide)).2.1 (by decide) (by decide) ?_
      refine XS.iconst X99.here hx rfl (hb hby at_184) ?_
      refine XS.istore X99.here hx rfl (hb hby at_185) rfl (l' := #[.val (.int p1), .val (.int p2), .val (.int p3), .val (.int p4), .val (.int p5), .val (.int (2 : Int32)), .val (.ref b1o), .val (.ref b67o), .val (.ref b81o), .val (.int nb0_95), .val (.int nb1_100), .val (.int (0 : Int32)), .unset, .unset, .unset, .unset, .unset, .unset]) rfl ?_
      refine XS.iconst X99.here hx rfl (hb hby at_187) ?_
      refine XS.iload X99.here hx rfl (hb hby at_188) rfl ?_
      refine XS.icmpYes X99.here hx rfl (pc0 := 190) (pc' := 207) rfl (hb hby at_190) rfl (flt (by decide)).2.1 (by decide) (by decide) ?_
      refine XS.iconst X99.here hx rfl (hb hby at_207) ?_
      refine XS.istore X99.here hx rfl (hb hby at_208) rfl (l' := #[.val (.int p1), .val (.int p2), .val (.int p3), .val (.int p4), .val (.int p5), .val (.int (2 : Int32)), .val (.ref b1o), .val (.ref b67o), .val (.ref b81o), .val (.int nb0_95), .val (.int nb1_100), .val (.int (0 : Int32)), .val (.int (0 : Int32)), .unset, .unset, .unset, .unset, .unset]) rfl ?_
      exact kt
    by_cases hB0 : (r3 = (32 : Int32) ∨ r3 = (9 : Int32) ∨ r3 = (13 : Int32))
    · by_cases hB1 : (r6 = (32 : Int32) ∨ r6 = (9 : Int32) ∨ r6 = (13 : Int32))
      · have f104 := (f90.keep KC89 (allS b81 all0))
        obtain ⟨_, _, ⟨T103, Lq103, kq103, nq103⟩, -, X103, ⟨Lc103, hQ103, lq103, yq103, zq103⟩, st103⟩ := Jvm.LawKit.callS X99 hx (y := (⟨"com/example/wrasse/wrasse/io/CorrectionFormat", "wordOf", "(Ljava/lang/String;)Ljava/util/Optional;"⟩ : MethodName)) hown (mvT hZ (hw _ (own_w 27 rfl))) (mvT hZ (hw _ (own_w 28 rfl))) (mvT hZ (hw _ (own_w 29 rfl))) (mvT hZ (hw _ (own_w 30 rfl))) (by decide) (backOf (W := 0) (rWe l Z a0 hw [] b81o [r3, r6] G1 gv eo T89.heap n0 Z89 f104 O_S hgv O_2 P5 O_A O_H O_W TS89 (Nat.le_of_ble_eq_true rfl) (own_cons hr3 (own_cons hr6 own_nil)) (own_befS (P := fun k => (([r3, r6] : List Int32).getD k 0 = (32 : Int32) ∨ ([r3, r6] : List Int32).getD k 0 = (9 : Int32) ∨ ([r3, r6] : List Int32).getD k 0 = (13 : Int32))) (own_befS (P := fun k => (([r3, r6] : List Int32).getD k 0 = (32 : Int32) ∨ ([r3, r6] : List Int32).getD k 0 = (9 : Int32) ∨ ([r3, r6] : List Int32).getD k 0 = (13 : Int32))) own_bef0 hB0) hB1) O_E) hZ (hw _ (own_w 30 rfl)) (hw _ (own_w 29 rfl)) (by decide) (by decide)) (g := (mkF m 283 #[.val (.int p1), .val (.int p2), .val (.int p3), .val (.int p4), .val (.int p5), .val (.int (2 : Int32)), .val (.ref b1o), .val (.ref b67o), .val (.ref b81o), .val (.int (0 : Int32)), .val (.int (0 : Int32)), .val (.int (0 : Int32)), .val (.int (0 : Int32)), .val (.int (2 : Int32)), .val (.int (0 : Int32)), .unset, .unset, .unset] [(.ref b81o)])) rfl (by rw [hml]; rfl) (argsL := [(.ref b81o)]) (rest := []) (lenOf pd_33 rfl) rfl (by show 2 * 0 + _ ≤ _; exact Nat.le_of_eq rfl) (hb hby at_283) (fun _ _ => ⟨rfl, e99, (by decide : 5 + 0 ≤ _), (by decide : 34 + 0 ≤ _)⟩)
        dsimp only [Pt.U, Pt.locs, Pt.cells, Pt.slots] at X103 lq103 yq103 zq103 st103 hQ103
        subst lq103 yq103 zq103
        obtain ⟨rfl, N103q, e103⟩ := hQ103
        have N103 := Fr.app N99 N103q
        obtain ⟨cq105, kz105, q105a, q105b, q105c⟩ := isOf hZ e103 (O_EE.ext f104.2)
        obtain ⟨_, _, ⟨T105, Lq105, kq105, nq105⟩, -, X105, ⟨Lc105, hQ105, lq105, yq105, zq105⟩, st105⟩ := X103.virtualBack hx (y := (⟨"java/util/Optional", "isPresent", "()Z"⟩ : MethodName)) (z := (⟨"java/util/Optional", "isPresent", "()Z"⟩ : MethodName)) hown (mvT hZ (hw _ (own_w 47 rfl))) (mvT hZ (hw _ (own_w 48 rfl))) (notFace_of_selects (args := #[]) (mvT hZ (hw _ (own_w 50 rfl)))) (mvT hZ (hw _ (own_w 50 rfl))) (mvT hZ (hw _ (own_w 49 rfl))) (by decide) (backOf (W := 0) (rOp0 l Z a0 hw [] eo  T89.heap n0 Z89 (O_EV.ext f104.2)) hZ (hw _ (own_w 51 rfl)) (hw _ (own_w 44 rfl)) (by decide) (by decide)) q105a q105c (g := (mkF m 297 #[.val (.int p1), .val (.int p2), .val (.int p3), .val (.int p4), .val (.int p5), .val (.int (2 : Int32)), .val (.ref b1o), .val (.ref b67o), .val (.ref b81o), .val (.int (0 : Int32)), .val (.int (0 : Int32)), .val (.int (0 : Int32)), .val (.int (0 : Int32)), .val (.int (2 : Int32)), .val (.int (0 : Int32)), .val (.ref eo), .unset, .unset] [(.ref eo)])) rfl (by rw [hml]; rfl) (Steps.refl _) (argsL := []) (rest := []) (lenOf pd_7 rfl) rfl (by show 2 * 0 + _ ≤ _; exact Nat.le_of_eq rfl) (hb hby at_297) (fun _ _ => ⟨rfl, e103, (by decide : 5 + 0 ≤ _), (by decide : 34 + 0 ≤ _)⟩)
        dsimp only [Pt.U, Pt.locs, Pt.cells, Pt.slots] at X105 lq105 yq105 zq105 st105 hQ105
        subst lq105 yq105 zq105
        obtain ⟨r105, hr105, rfl, N105q, e105⟩ := hQ105
        have N105 := Fr.app N103 N105q
        subst hr105
        obtain ⟨fs, hr, hrun, hended, hwd⟩ := Jvm.Stand.leaveW (s := s) (vm₁ := s.vm) X105 hS0 (Nat.le_trans (Nat.le_trans (Nat.le_trans (Nat.le_trans (Nat.le_trans (Nat.le_trans (Nat.le_trans (Nat.le_trans (Nat.le_trans (Nat.le_trans (Nat.le_trans (Nat.le_of_eq (congrArg Array.size hh)) E1.1) (Nat.le_of_eq W5.size.symm)) (Nat.le_of_eq W8.size.symm)) (Nat.le_of_eq W11.size.symm)) (Nat.le_of_eq W14.size.symm)) E67.1) (Nat.le_of_eq W75.size.symm)) (Nat.le_of_eq W80.size.symm)) E81.1) KC89.1) (Nat.le_of_eq (congrArg Array.size e105).symm)) (v := some (.int (1 : Int32))) (fun h => by rw [Bd.returns] at h; cases h)
        refine ⟨_, _, pre0 _ ?_, hrun, hended, _, _, rfl, ?_, hwd.1, hwd.2.1, hwd.2.2.1, hwd.2.2.2.mono (by decide) (by decide)⟩
        · refine pq102 _ ?_
          rw [(own_nbT hr94 hB0 hnb0_95), (own_nbT hr99 hB1 hnb1_100)]
          refine own_blk X99 hx hby (2 : Int32) (0 : Int32) (by decide) (by decide) _ ?_
          refine XS.aload X99.here hx rfl (hb hby at_281) rfl rfl ?_
          refine st103 _ ?_
          refine XS.astore X103.here hx rfl (hb hby at_286) rfl rfl (l' := #[.val (.int p1), .val (.int p2), .val (.int p3), .val (.int p4), .val (.int p5), .val (.int (2 : Int32)), .val (.ref b1o), .val (.ref b67o), .val (.ref b81o), .val (.int (0 : Int32)), .val (.int (0 : Int32)), .val (.int (0 : Int32)), .val (.int (0 : Int32)), .val (.int (2 : Int32)), .val (.int (0 : Int32)), .val (.ref eo), .unset, .unset]) rfl ?_
          refine XS.iload X103.here hx rfl (hb hby at_288) rfl ?_
          refine XS.iload X103.here hx rfl (hb hby at_290) rfl ?_
          refine XS.icmpNo X103.here hx rfl (hb hby at_292) rfl (flt (by decide)).1 ?_
          refine XS.aload X103.here hx rfl (hb hby at_295) rfl rfl ?_
          refine st105.trans ?_
          refine XS.ifNo X105.here hx rfl (hb hby at_300) rfl ((if0 _ _).trans (teq (by decide)).2) ?_
          refine XS.iconst X105.here hx rfl (hb hby at_303) ?_
          refine XS.goto X105.here hx rfl (pc0 := 304) (pc' := 308) rfl (hb hby at_304) (by decide) (by decide) ?_
          exact retN X105 hx (t := .boolean) Bd.returns (by simp) (hb hby at_308) hr
        · show Qrm0 Z p1 p2 p3 p4 p5 G1 gv eo h0 n0 _ T105.heap _
          exact ⟨rfl, N105⟩
      · have f107 := (f90.keep KC89 (allS b81 all0))
        obtain ⟨_, _, ⟨T106, Lq106, kq106, nq106⟩, -, X106, ⟨Lc106, hQ106, lq106, yq106, zq106⟩, st106⟩ := Jvm.LawKit.callS X99 hx (y := (⟨"com/example/wrasse/wrasse/io/CorrectionFormat", "wordOf", "(Ljava/lang/String;)Ljava/util/Optional;"⟩ : MethodName)) hown (mvT hZ (hw _ (own_w 27 rfl))) (mvT hZ (hw _ (own_w 28 rfl))) (mvT hZ (hw _ (own_w 29 rfl))) (mvT hZ (hw _ (own_w 30 rfl))) (by decide) (backOf (W := 0) (rWp l Z a0 hw [] b81o [r3, r6] G1 gv 1 [r6] T89.heap n0 Z89 f107 O_S hgv O_2 P5 O_A O_H O_W TS89 (Nat.le_of_ble_eq_true rfl) (own_cons hr3 (own_cons hr6 own_nil)) (own_befS (P := fun k => (([r3, r6] : List Int32).getD k 0 = (32 : Int32) ∨ ([r3, r6] : List Int32).getD k 0 = (9 : Int32) ∨ ([r3, r6] : List Int32).getD k 0 = (13 : Int32))) own_bef0 hB0) ⟨(Nat.le_of_ble_eq_true rfl), rfl⟩ (Nat.le_of_ble_eq_true rfl) hB1 hB1 own_aft0) hZ (hw _ (own_w 30 rfl)) (hw _ (own_w 29 rfl)) (by decide) (by decide)) (g := (mkF m 283 #[.val (.int p1), .val (.int p2), .val (.int p3), .val (.int p4), .val (.int p5), .val (.int (2 : Int32)), .val (.ref b1o), .val (.ref b67o), .val (.ref b81o), .val (.int (0 : Int32)), .val (.int (1 : Int32)), .val (.int (0 : Int32)), .val (.int (0 : Int32)), .val (.int (1 : Int32)), .val (.int (2 : Int32)), .unset, .unset, .unset] [(.ref b81o)])) rfl (by rw [hml]; rfl) (argsL := [(.ref b81o)]) (rest := []) (lenOf pd_33 rfl) rfl (by show 2 * 0 + _ ≤ _; exact Nat.le_of_eq rfl) (hb hby at_283) (fun _ _ => ⟨rfl, e99, (by decide : 5 + 4 ≤ _), (by decide : 34 + 29 ≤ _)⟩)
        dsimp only [Pt.U, Pt.locs, Pt.cells, Pt.slots] at X106 lq106 yq106 zq106 st106 hQ106
        subst lq106 yq106 zq106
        obtain ⟨o106, x106, rfl, N106q, KC106, uE106, uV106, TS106⟩ := hQ106
        have N106 := Fr.app N99 N106q
        have Z106 : n0 ≤ T106.heap.size := Nat.le_trans Z89 KC106.1
        have f109 := (f107.keep KC106 all0)
        have f110 := (f91.keep KC106 nin0)
        obtain ⟨T108, L108, X108, e108, N108, st108⟩ := own_tail (ct := [r6]) (sq := 1) (vs := [(.int r3), (.int r6), (.int r9), (.int r12)]) (by decide) (by decide) (by decide) (by decide) hx hZ hw hby hml hown f109 O_S hgv O_2 P5 O_A O_H O_W Z106 TS106 (Nat.le_of_ble_eq_true rfl) (own_cons hr6 own_nil) uE106 uV106 f110 (Nat.le_of_ble_eq_true rfl) (by decide : 1 + 1 ≤ 4) (own_befS (P := fun k => ([.int r3, .int r6, .int r9, .int r12] : List Value).getD (1 + k) (.int (0 : Int32)) = .int (([r6] : List Int32).getD k 0)) own_bef0 rfl) _ _ X106 rfl N106
        obtain ⟨fs, hr, hrun, hended, hwd⟩ := Jvm.Stand.leaveW (s := s) (vm₁ := s.vm) X108 hS0 (Nat.le_trans (Nat.le_trans (Nat.le_trans (Nat.le_trans (Nat.le_trans (Nat.le_trans (Nat.le_trans (Nat.le_trans (Nat.le_trans (Nat.le_trans (Nat.le_trans (Nat.le_trans (Nat.le_of_eq (congrArg Array.size hh)) E1.1) (Nat.le_of_eq W5.size.symm)) (Nat.le_of_eq W8.size.symm)) (Nat.le_of_eq W11.size.symm)) (Nat.le_of_eq W14.size.symm)) E67.1) (Nat.le_of_eq W75.size.symm)) (Nat.le_of_eq W80.size.symm)) E81.1) KC89.1) KC106.1) (Nat.le_of_eq (congrArg Array.size e108).symm)) (v := some (.int (1 : Int32))) (fun h => by rw [Bd.returns] at h; cases h)
        refine ⟨_, _, pre0 _ ?_, hrun, hended, _, _, rfl, ?_, hwd.1, hwd.2.1, hwd.2.2.1, hwd.2.2.2.mono (by decide) (by decide)⟩
        · refine pq102 _ ?_
          rw [(own_nbT hr94 hB0 hnb0_95), (own_nbF hr99 hB1 hnb1_100)]
          refine own_blk X99 hx hby (1 : Int32) (2 : Int32) (by decide) (by decide) _ ?_
          refine XS.aload X99.here hx rfl (hb hby at_281) rfl rfl ?_
          refine st106 _ ?_
          refine XS.astore X106.here hx rfl (hb hby at_286) rfl rfl (l' := #[.val (.int p1), .val (.int p2), .val (.int p3), .val (.int p4), .val (.int p5), .val (.int (2 : Int32)), .val (.ref b1o), .val (.ref b67o), .val (.ref b81o), .val (.int (0 : Int32)), .val (.int (1 : Int32)), .val (.int (0 : Int32)), .val (.int (0 : Int32)), .val (.int (1 : Int32)), .val (.int (2 : Int32)), .val (.ref o106), .unset, .unset]) rfl ?_
          refine XS.iload X106.here hx rfl (hb hby at_288) rfl ?_
          refine XS.iload X106.here hx rfl (hb hby at_290) rfl ?_
          refine XS.icmpYes X106.here hx rfl (pc0 := 292) (pc' := 309) rfl (hb hby at_292) rfl (tlt (by decide)).1 (by decide) (by decide) ?_
          refine st108 _ ?_
          exact retN X108 hx (t := .boolean) Bd.returns (by simp) (hb hby at_443) hr
        · show Qrm0 Z p1 p2 p3 p4 p5 G1 gv eo h0 n0 _ T108.heap _
          exact ⟨rfl, N108⟩
    · by_cases hB1 : (r6 = (32 : Int32) ∨ r6 = (9 : Int32) ∨ r6 = (13 : Int32))
      · have f112 := (f90.keep KC89 (allS b81 all0))
        obtain ⟨_, _, ⟨T111, Lq111, kq111, nq111⟩, -, X111, ⟨Lc111, hQ111, lq111, yq111, zq111⟩, st111⟩ := Jvm.LawKit.callS X99 hx (y := (⟨"com/example/wrasse/wrasse/io/CorrectionFormat", "wordOf", "(Ljava/lang/String;)Ljava/util/Optional;"⟩ : MethodName)) hown (mvT hZ (hw _ (own_w 27 rfl))) (mvT hZ (hw _ (own_w 28 rfl))) (mvT hZ (hw _ (own_w 29 rfl))) (mvT hZ (hw _ (own_w 30 rfl))) (by decide) (backOf (W := 0) (rWp l Z a0 hw [] b81o [r3, r6] G1 gv 0 [r3] T89.heap n0 Z89 f112 O_S hgv O_2 P5 O_A O_H O_W TS89 (Nat.le_of_ble_eq_true rfl) (own_cons hr3 (own_cons hr6 own_nil)) own_bef0 ⟨(Nat.le_of_ble_eq_true rfl), rfl⟩ (Nat.le_of_ble_eq_true rfl) hB0 hB0 (own_aftS (P := fun k => (([r3, r6] : List Int32).getD k 0 = (32 : Int32) ∨ ([r3, r6] : List Int32).getD k 0 = (9 : Int32) ∨ ([r3, r6] : List Int32).getD k 0 = (13 : Int32))) (e := 1) (n := 2) own_aft0 hB1)) hZ (hw _ (own_w 30 rfl)) (hw _ (own_w 29 rfl)) (by decide) (by decide)) (g := (mkF m 283 #[.val (.int p1), .val (.int p2), .val (.int p3), .val (.int p4), .val (.int p5), .val (.int (2 : Int32)), .val (.ref b1o), .val (.ref b67o), .val (.ref b81o), .val (.int (1 : Int32)), .val (.int (0 : Int32)), .val (.int (0 : Int32)), .val (.int (0 : Int32)), .val (.int (0 : Int32)), .val (.int (1 : Int32)), .unset, .unset, .unset] [(.ref b81o)])) rfl (by rw [hml]; rfl) (argsL := [(.ref b81o)]) (rest := []) (lenOf pd_33 rfl) rfl (by show 2 * 0 + _ ≤ _; exact Nat.le_of_eq rfl) (hb hby at_283) (fun _ _ => ⟨rfl, e99, (by decide : 5 + 4 ≤ _), (by decide : 34 + 29 ≤ _)⟩)
        dsimp only [Pt.U, Pt.locs, Pt.cells, Pt.slots] at X111 lq111 yq111 zq111 st111 hQ111
        subst lq111 yq111 zq111
        obtain ⟨o111, x111, rfl, N111q, KC111, uE111, uV111, TS111⟩ := hQ111
        have N111 := Fr.app N99 N111q
        have Z111 : n0 ≤ T111.heap.size := Nat.le_trans Z89 KC111.1
        have f114 := (f112.keep KC111 all0)
        have f115 := (f91.keep KC111 nin0)
        obtain ⟨T113, L113, X113, e113, N113, st113⟩ := own_tail (ct := [r3]) (sq := 0) (vs := [(.int r3), (.int r6), (.int r9), (.int r12)]) (by decide) (by decide) (by decide) (by decide) hx hZ hw hby hml hown f114 O_S hgv O_2 P5 O_A O_H O_W Z111 TS111 (Nat.le_of_ble_eq_true rfl) (own_cons hr3 own_nil) uE111 uV111 f115 (Nat.le_of_ble_eq_true rfl) (by decide : 0 + 1 ≤ 4) (own_befS (P := fun k => ([.int r3, .int r6, .int r9, .int r12] : List Value).getD (0 + k) (.int (0 : Int32)) = .int (([r3] : List Int32).getD k 0)) own_bef0 rfl) _ _ X111 rfl N111
        obtain ⟨fs, hr, hrun, hended, hwd⟩ := Jvm.Stand.leaveW (s := s) (vm₁ := s.vm) X113 hS0 (Nat.le_trans (Nat.le_trans (Nat.le_trans (Nat.le_trans (Nat.le_trans (Nat.le_trans (Nat.le_trans (Nat.le_trans (Nat.le_trans (Nat.le_trans (Nat.le_trans (Nat.le_trans (Nat.le_of_eq (congrArg Array.size hh)) E1.1) (Nat.le_of_eq W5.size.symm)) (Nat.le_of_eq W8.size.symm)) (Nat.le_of_eq W11.size.symm)) (Nat.le_of_eq W14.size.symm)) E67.1) (Nat.le_of_eq W75.size.symm)) (Nat.le_of_eq W80.size.symm)) E81.1) KC89.1) KC111.1) (Nat.le_of_eq (congrArg Array.size e113).symm)) (v := some (.int (1 : Int32))) (fun h => by rw [Bd.returns] at h; cases h)
        refine ⟨_, _, pre0 _ ?_, hrun, hended, _, _, rfl, ?_, hwd.1, hwd.2.1, hwd.2.2.1, hwd.2.2.2.mono (by decide) (by decide)⟩
        · refine pq102 _ ?_
          rw [(own_nbF hr94 hB0 hnb0_95), (own_nbT hr99 hB1 hnb1_100)]
          refine own_blk X99 hx hby (0 : Int32) (1 : Int32) (by decide) (by decide) _ ?_
          refine XS.aload X99.here hx rfl (hb hby at_281) rfl rfl ?_
          refine st111 _ ?_
          refine XS.astore X111.here hx rfl (hb hby at_286) rfl rfl (l' := #[.val (.int p1), .val (.int p2), .val (.int p3), .val (.int p4), .val (.int p5), .val (.int (2 : Int32)), .val (.ref b1o), .val (.ref b67o), .val (.ref b81o), .val (.int (1 : Int32)), .val (.int (0 : Int32)), .val (.int (0 : Int32)), .val (.int (0 : Int32)), .val (.int (0 : Int32)), .val (.int (1 : Int32)), .val (.ref o111), .unset, .unset]) rfl ?_
          refine XS.iload X111.here hx rfl (hb hby at_288) rfl ?_
          refine XS.iload X111.here hx rfl (hb hby at_290) rfl ?_
          refine XS.icmpYes X111.here hx rfl (pc0 := 292) (pc' := 309) rfl (hb hby at_292) rfl (tlt (by decide)).1 (by decide) (by decide) ?_
          refine st113 _ ?_
          exact retN X113 hx (t := .boolean) Bd.returns (by simp) (hb hby at_443) hr
        · show Qrm0 Z p1 p2 p3 p4 p5 G1 gv eo h0 n0 _ T113.heap _
          exact ⟨rfl, N113⟩
      · have f117 := (f90.keep KC89 (allS b81 all0))
        obtain ⟨_, _, ⟨T116, Lq116, kq116, nq116⟩, -, X116, ⟨Lc116, hQ116, lq116, yq116, zq116⟩, st116⟩ := Jvm.LawKit.callS X99 hx (y := (⟨"com/example/wrasse/wrasse/io/CorrectionFormat", "wordOf", "(Ljava/lang/String;)Ljava/util/Optional;"⟩ : MethodName)) hown (mvT hZ (hw _ (own_w 27 rfl))) (mvT hZ (hw _ (own_w 28 rfl))) (mvT hZ (hw _ (own_w 29 rfl))) (mvT hZ (hw _ (own_w 30 rfl))) (by decide) (backOf (W := 0) (rWp l Z a0 hw [] b81o [r3, r6] G1 gv 0 [r3, r6] T89.heap n0 Z89 f117 O_S hgv O_2 P5 O_A O_H O_W TS89 (Nat.le_of_ble_eq_true rfl) (own_cons hr3 (own_cons hr6 own_nil)) own_bef0 ⟨(Nat.le_of_ble_eq_true rfl), rfl⟩ (Nat.le_of_ble_eq_true rfl) hB0 hB1 own_aft0) hZ (hw _ (own_w 30 rfl)) (hw _ (own_w 29 rfl)) (by decide) (by decide)) (g := (mkF m 283 #[.val (.int p1), .val (.int p2), .val (.int p3), .val (.int p4), .val (.int p5), .val (.int (2 : Int32)), .val (.ref b1o), .val (.ref b67o), .val (.ref b81o), .val (.int (1 : Int32)), .val (.int (1 : Int32)), .val (.int (0 : Int32)), .val (.int (0 : Int32)), .val (.int (0 : Int32)), .val (.int (2 : Int32)), .unset, .unset, .unset] [(.ref b81o)])) rfl (by rw [hml]; rfl) (argsL := [(.ref b81o)]) (rest := []) (lenOf pd_33 rfl) rfl (by show 2 * 0 + _ ≤ _; exact Nat.le_of_eq rfl) (hb hby at_283) (fun _ _ => ⟨rfl, e99, (by decide : 5 + 4 ≤ _), (by decide : 34 + 29 ≤ _)⟩)
        dsimp only [Pt.U, Pt.locs, Pt.cells, Pt.slots] at X116 lq116 yq116 zq116 st116 hQ116
        subst lq116 yq116 zq116
        obtain ⟨o116, x116, rfl, N116q, KC116, uE116, uV116, TS116⟩ := hQ116
        have N116 := Fr.app N99 N116q
        have Z116 : n0 ≤ T116.heap.size := Nat.le_trans Z89 KC116.1
        have f119 := (f117.keep KC116 all0)
        have f120 := (f91.keep KC116 nin0)
        obtain ⟨T118, L118, X118, e118, N118, st118⟩ := own_tail (ct := [r3, r6]) (sq := 0) (vs := [(.int r3), (.int r6), (.int r9), (.int r12)]) (by decide) (by decide) (by decide) (by decide) hx hZ hw hby hml hown f119 O_S hgv O_2 P5 O_A O_H O_W Z116 TS116 (Nat.le_of_ble_eq_true rfl) (own_cons hr3 (own_cons hr6 own_nil)) uE116 uV116 f120 (Nat.le_of_ble_eq_true rfl) (by decide : 0 + 2 ≤ 4) (own_befS (P := fun k => ([.int r3, .int r6, .int r9, .int r12] : List Value).getD (0 + k) (.int (0 : Int32)) = .int (([r3, r6] : List Int32).getD k 0)) (own_befS (P := fun k => ([.int r3, .int r6, .int r9, .int r12] : List Value).getD (0 + k) (.int (0 : Int32)) = .int (([r3, r6] : List Int32).getD k 0)) own_bef0 rfl) rfl) _ _ X116 rfl N116
        obtain ⟨fs, hr, hrun, hended, hwd⟩ := Jvm.Stand.leaveW (s := s) (vm₁ := s.vm) X118 hS0 (Nat.le_trans (Nat.le_trans (Nat.le_trans (Nat.le_trans (Nat.le_trans (Nat.le_trans (Nat.le_trans (Nat.le_trans (Nat.le_trans (Nat.le_trans (Nat.le_trans (Nat.le_trans (Nat.le_of_eq (congrArg Array.size hh)) E1.1) (Nat.le_of_eq W5.size.symm)) (Nat.le_of_eq W8.size.symm)) (Nat.le_of_eq W11.size.symm)) (Nat.le_of_eq W14.size.symm)) E67.1) (Nat.le_of_eq W75.size.symm)) (Nat.le_of_eq W80.size.symm)) E81.1) KC89.1) KC116.1) (Nat.le_of_eq (congrArg Array.size e118).symm)) (v := some (.int (1 : Int32))) (fun h => by rw [Bd.returns] at h; cases h)
        refine ⟨_, _, pre0 _ ?_, hrun, hended, _, _, rfl, ?_, hwd.1, hwd.2.1, hwd.2.2.1, hwd.2.2.2.mono (by decide) (by decide)⟩
        · refine pq102 _ ?_
          rw [(own_nbF hr94 hB0 hnb0_95), (own_nbF hr99 hB1 hnb1_100)]
          refine own_blk X99 hx hby (0 : Int32) (2 : Int32) (by decide) (by decide) _ ?_
          refine XS.aload X99.here hx rfl (hb hby at_281) rfl rfl ?_
          refine st116 _ ?_
          refine XS.astore X116.here hx rfl (hb hby at_286) rfl rfl (l' := #[.val (.int p1), .val (.int p2), .val (.int p3), .val (.int p4), .val (.int p5), .val (.int (2 : Int32)), .val (.ref b1o), .val (.ref b67o), .val (.ref b81o), .val (.int (1 : Int32)), .val (.int (1 : Int32)), .val (.int (0 : Int32)), .val (.int (0 : Int32)), .val (.int (0 : Int32)), .val (.int (2 : Int32)), .val (.ref o116), .unset, .unset]) rfl ?_
          refine XS.iload X116.here hx rfl (hb hby at_288) rfl ?_
          refine XS.iload X116.here hx rfl (hb hby at_290) rfl ?_
          refine XS.icmpYes X116.here hx rfl (pc0 := 292) (pc' := 309) rfl (hb hby at_292) rfl (tlt (by decide)).1 (by decide) (by decide) ?_
          refine st118 _ ?_
          exact retN X118 hx (t := .boolean) Bd.returns (by simp) (hb hby at_443) hr
        · show Qrm0 Z p1 p2 p3 p4 p5 G1 gv eo h0 n0 _ T118.heap _
          exact ⟨rfl, N118⟩
  · skip
    obtain ⟨T121, h121, ck121, X121, e121, E121, A121, st121⟩ := newP X14 hx hZ (hw _ (own_w 0 rfl)) e14 (g := (mkF m 48 #[.val (.int p1), .val (.int p2), .val (.int p3), .val (.int p4), .val (.int p5), .val (.int (3 : Int32)), .val (.ref b1o), .unset, .unset, .unset, .unset, .unset, .unset, .unset, .unset, .unset, .unset, .unset] [(.int (3 : Int32))])) rfl (hb hby at_48) rfl (by decide) (cap := 3) (by decide) (by decide) (by decide) (by decide)
    obtain ⟨b121o, g121⟩ : ∃ z, z = h14.size := ⟨_, rfl⟩
    have b121 : n0 ≤ b121o := Nat.le_trans Z14 (Nat.le_of_eq g121.symm)
    have f122 := (((((X00.ext E1).wr W5 b1).wr W8 b1).wr W11 b1).wr W14 b1)
    have ne123 : eo ≠ b121o := Nat.ne_of_lt (Nat.lt_of_lt_of_le (O_EE.ext f122.2).lt (Nat.le_of_eq g121.symm))
    have ne124 : b1o ≠ b121o := Nat.ne_of_lt (Nat.lt_of_lt_of_le VA.lt (Nat.le_of_eq g121.symm))
    rw [← g121] at A121 st121
    have Z121 : n0 ≤ h121.size := Nat.le_trans Z14 E121.1
    have V121 : Arv Z h121 b121o ck121 .char (3 : Int32) [(.int (0 : Int32)), (.int (0 : Int32)), (.int (0 : Int32))] (.int (0 : Int32)) := (Arv.new A121 (by decide)).pad (pad_rep [] (.int (0 : Int32)) 3)
    have f125 := (VA.ext E121)
    obtain ⟨cl126, Ar126, qk126, Sz126, Nn126, Hh126, Gg126⟩ := id (f125)
    have hin127 : ¬ ((0 : Int32) < 0 ∨ cl126.slots.size ≤ ((0 : Int32)).toNatClampNeg) := inb_of Sz126 ⟨by decide, by decide⟩
    have hat127 : cl126.slots[((0 : Int32)).toNatClampNeg]? = some (.int r3) := Has.at Hh126 hin127 rfl
    obtain ⟨cl128, Ar128, qk128, Sz128, Nn128, Hh128, Gg128⟩ := id (V121)
    have hin129 : ¬ ((0 : Int32) < 0 ∨ cl128.slots.size ≤ ((0 : Int32)).toNatClampNeg) := inb_of Sz128 ⟨by decide, by decide⟩
    obtain ⟨T129, h129, X129, e129, W129, st129⟩ := stC X121 hx hZ e121 Ar128 (j := (0 : Int32)) hin129  (g := (mkF m 64 #[.val (.int p1), .val (.int p2), .val (.int p3), .val (.int p4), .val (.int p5), .val (.int (3 : Int32)), .val (.ref b1o), .val (.ref b121o), .unset, .unset, .unset, .unset, .unset, .unset, .unset, .unset, .unset, .unset] [(.int r3), (.int (0 : Int32)), (.ref b121o)])) rfl rfl (hb hby at_64)
    have N129 := Fr.snoc X129 N14 b121
    have Z129 : n0 ≤ h129.size := by rw [W129.size]; exact Z121
    have V129 : Arv Z h129 b121o ck121 .char (3 : Int32) [(.int (nar .char r3)), (.int (0 : Int32)), (.int (0 : Int32))] (.int (0 : Int32)) := Arv.set Ar128 qk128 Sz128 Nn128 Hh128 Gg128 (fits_nar_char _) W129 0 rfl (Nat.le_of_ble_eq_true rfl)
    have f130 := (f125.other W129 ne124)
    obtain ⟨cl131, Ar131, qk131, Sz131, Nn131, Hh131, Gg131⟩ := id (f130)
    have hin132 : ¬ ((1 : Int32) < 0 ∨ cl131.slots.size ≤ ((1 : Int32)).toNatClampNeg) := inb_of Sz131 ⟨by decide, by decide⟩
    have hat132 : cl131.slots[((1 : Int32)).toNatClampNeg]? = some (.int r6) := Has.at Hh131 hin132 rfl
    obtain ⟨cl133, Ar133, qk133, Sz133, Nn133, Hh133, Gg133⟩ := id (V129)
    have hin134 : ¬ ((1 : Int32) < 0 ∨ cl133.slots.size ≤ ((1 : Int32)).toNatClampNeg) := inb_of Sz133 ⟨by decide, by decide⟩
    obtain ⟨T134, h134, X134, e134, W134, st134⟩ := stC X129 hx hZ e129 Ar133 (j := (1 : Int32)) hin134  (g := (mkF m 78 #[.val (.int p1), .val (.int p2), .val (.int p3), .val (.int p4), .val (.int p5), .val (.int (3 : Int32)), .val (.ref b1o), .val (.ref b121o), .unset, .unset, .unset, .unset, .unset, .unset, .unset, .unset, .unset, .unset] [(.int r6), (.int (1 : Int32)), (.ref b121o)])) rfl rfl (hb hby at_78)
    have N134 := Fr.snoc X134 N129 b121
    have Z134 : n0 ≤ h134.size := by rw [W134.size]; exact Z129
    have V134 : Arv Z h134 b121o ck121 .char (3 : Int32) [(.int (nar .char r3)), (.int (nar .char r6)), (.int (0 : Int32))] (.int (0 : Int32)) := Arv.set Ar133 qk133 Sz133 Nn133 Hh133 Gg133 (fits_nar_char _) W134 1 rfl (Nat.le_of_ble_eq_true rfl)
    have f135 := (f130.other W134 ne124)
    obtain ⟨cl136, Ar136, qk136, Sz136, Nn136, Hh136, Gg136⟩ := id (f135)
    have hin137 : ¬ ((2 : Int32) < 0 ∨ cl136.slots.size ≤ ((2 : Int32)).toNatClampNeg) := inb_of Sz136 ⟨by decide, by decide⟩
    have hat137 : cl136.slots[((2 : Int32)).toNatClampNeg]? = some (.int r9) := Has.at Hh136 hin137 rfl
    obtain ⟨cl138, Ar138, qk138, Sz138, Nn138, Hh138, Gg138⟩ := id (V134)
    have hin139 : ¬ ((2 : Int32) < 0 ∨ cl138.slots.size ≤ ((2 : Int32)).toNatClampNeg) := inb_of Sz138 ⟨by decide, by decide⟩
    obtain ⟨T139, h139, X139, e139, W139, st139⟩ := stC X134 hx hZ e134 Ar138 (j := (2 : Int32)) hin139  (g := (mkF m 92 #[.val (.int p1), .val (.int p2), .val (.int p3), .val (.int p4), .val (.int p5), .val (.int (3 : Int32)), .val (.ref b1o), .val (.ref b121o), .unset, .unset, .unset, .unset, .unset, .unset, .unset, .unset, .unset, .unset] [(.int r9), (.int (2 : Int32)), (.ref b121o)])) rfl rfl (hb hby at_92)
    have N139 := Fr.snoc X139 N134 b121
    have Z139 : n0 ≤ h139.size := by rw [W139.size]; exact Z134
    have V139 : Arv Z h139 b121o ck121 .char (3 : Int32) [(.int (nar .char r3)), (.int (nar .char r6)), (.int (nar .char r9))] (.int (0 : Int32)) := Arv.set Ar138 qk138 Sz138 Nn138 Hh138 Gg138 (fits_nar_char _) W139 2 rfl (Nat.le_of_ble_eq_true rfl)
    obtain ⟨T140, h140, X140, e140, E140, A140, D140, -, st140⟩ := newO X139 hx hZ hown (hw _ (own_w 6 rfl)) (hw _ (own_w 7 rfl)) (hw _ (own_w 8 rfl)) e139 (g := (mkF m 107 #[.val (.int p1), .val (.int p2), .val (.int p3), .val (.int p4), .val (.int p5), .val (.int (3 : Int32)), .val (.ref b1o), .val (.ref b121o), .unset, .unset, .unset, .unset, .unset, .unset, .unset, .unset, .unset, .unset] [])) rfl (hb hby at_107) (by decide) (by decide)
    obtain ⟨b140o, g140⟩ : ∃ z, z = h139.size := ⟨_, rfl⟩
    have b140 : n0 ≤ b140o := Nat.le_trans Z139 (Nat.le_of_eq g140.symm)
    have f141 := ((((f122.ext E121).wr W129 b121).wr W134 b121).wr W139 b121)
    have ne142 : eo ≠ b140o := Nat.ne_of_lt (Nat.lt_of_lt_of_le (O_EE.ext f141.2).lt (Nat.le_of_eq g140.symm))
    have f143 := (f135.other W139 ne124)
    have ne144 : b1o ≠ b140o := Nat.ne_of_lt (Nat.lt_of_lt_of_le f143.lt (Nat.le_of_eq g140.symm))
    have ne145 : b121o ≠ b140o := Nat.ne_of_lt (Nat.lt_of_lt_of_le V139.lt (Nat.le_of_eq g140.symm))
    rw [← g140] at A140 D140 st140
    have Z140 : n0 ≤ h140.size := Nat.le_trans Z139 E140.1
    have F140_21 : Fld Z h140 b140o "java/lang/String" "value" "[B" .null := D140 (Or.inr (hw _ (own_w 21 rfl))) (ty := (.array .byte)) (by decide)
    have F140_22 : Fld Z h140 b140o "java/lang/String" "coder" "B" (.int (0 : Int32)) := D140 (Or.inr (hw _ (own_w 22 rfl))) (ty := .byte) (by decide)
    have f146 := (V139.ext E140)
    have VB147 := f146
    rw [own_ncc hr3, own_ncc hr6, own_ncc hr9] at VB147
    have f149 := (f141.ext E140)
    obtain ⟨_, _, ⟨T148, Lq148, kq148, nq148⟩, -, X148, ⟨Lc148, hQ148, lq148, yq148, zq148⟩, st148⟩ := X140.specialBack hx (y := (⟨"java/lang/String", "<init>", "([C)V"⟩ : MethodName)) rfl hown (mvT hZ (hw _ (own_w 9 rfl))) (mvT hZ (hw _ (own_w 10 rfl))) (mvT hZ (hw _ (own_w 11 rfl))) (by decide) (backOf (W := 1) (rI1 l Z a0 hw [] b140o b121o [r3, r6, r9] ck121 G1 h140 n0 Z140 A140 F140_21 F140_22 b140 f149 O_2 P5 O_A O_H O_W VB147 (Nat.le_of_ble_eq_true rfl) (Nat.le_of_ble_eq_true rfl) (own_cons hr3 (own_cons hr6 (own_cons hr9 own_nil))) (Ne.symm ne145)) hZ (hw _ (own_w 11 rfl)) (hw _ (own_w 8 rfl)) (by decide) (by decide)) (g := (mkF m 113 #[.val (.int p1), .val (.int p2), .val (.int p3), .val (.int p4), .val (.int p5), .val (.int (3 : Int32)), .val (.ref b1o), .val (.ref b121o), .unset, .unset, .unset, .unset, .unset, .unset, .unset, .unset, .unset, .unset] [(.ref b121o), (.ref b140o), (.ref b140o)])) rfl (by rw [hml]; rfl) (Steps.refl _) (a := b140o) (argsL := [(.ref b121o)]) (rest := [(.ref b140o)]) (lenOf pd_32 rfl) rfl (by show 2 * 0 + _ ≤ _; exact Nat.le_of_eq rfl) (hb hby at_113) (fun _ _ => ⟨rfl, e140, (by decide : 3 + 2 ≤ _), (by decide : 11 + 24 ≤ _)⟩)
    dsimp only [Pt.U, Pt.locs, Pt.cells, Pt.slots] at X148 lq148 yq148 zq148 st148 hQ148
    subst lq148 yq148 zq148
    obtain ⟨rfl, N148q, KC148, TS148⟩ := hQ148
    have N148 := Fr.app N139 N148q
    have Z148 : n0 ≤ T148.heap.size := Nat.le_trans Z140 KC148.1
    have f150 := ((f143.ext E140).keep KC148 (ninS ne144 nin0))
    obtain ⟨cl151, Ar151, qk151, Sz151, Nn151, Hh151, Gg151⟩ := id (f150)
    have hin152 : ¬ ((0 : Int32) < 0 ∨ cl151.slots.size ≤ ((0 : Int32)).toNatClampNeg) := inb_of Sz151 ⟨by decide, by decide⟩
    have hat152 : cl151.slots[((0 : Int32)).toNatClampNeg]? = some (.int r3) := Has.at Hh151 hin152 rfl
    obtain ⟨_, _, ⟨T153, Lq153, kq153, nq153⟩, -, X153, ⟨Lc153, hQ153, lq153, yq153, zq153⟩, st153⟩ := Jvm.LawKit.callS X148 hx (y := (⟨"com/example/wrasse/wrasse/io/CorrectionFormatWordOfPinLaw", "bl", "(C)Z"⟩ : MethodName)) hown (mvT hZ (hw _ (own_w 64 rfl))) (mvT hZ (hw _ (own_w 65 rfl))) (mvT hZ (hw _ (own_w 3 rfl))) (mvT hZ (hw _ (own_w 66 rfl))) (by decide) (backOf (W := 0) (rBl l Z a0 hw [] r3  T148.heap n0 Z148 ) hZ (hw _ (own_w 66 rfl)) (hw _ (own_w 3 rfl)) (by decide) (by decide)) (g := (mkF m 128 #[.val (.int p1), .val (.int p2), .val (.int p3), .val (.int p4), .val (.int p5), .val (.int (3 : Int32)), .val (.ref b1o), .val (.ref b121o), .val (.ref b140o), .unset, .unset, .unset, .unset, .unset, .unset, .unset, .unset, .unset] [(.int r3)])) rfl (by rw [hml]; rfl) (argsL := [(.int r3)]) (rest := []) (lenOf pd_27 rfl) rfl (by show 2 * 0 + _ ≤ _; exact Nat.le_of_eq rfl) (hb hby at_128) (fun _ _ => ⟨rfl, rfl, (by decide : 5 + 0 ≤ _), (by decide : 35 + 0 ≤ _)⟩)
    dsimp only [Pt.U, Pt.locs, Pt.cells, Pt.slots] at X153 lq153 yq153 zq153 st153 hQ153
    subst lq153 yq153 zq153
    obtain ⟨r153, hr153, rfl, N153q, e153⟩ := hQ153
    have N153 := Fr.app N148 N153q
    obtain ⟨nb0_154, hnb0_154⟩ : ∃ z : Int32, z = (if r153 = (0 : Int32) then (1 : Int32) else (0 : Int32)) := ⟨_, rfl⟩
    have sg155 : ∀ tg0, Steps p.tables e below (T153.setTop (mkF m 139 #[.val (.int p1), .val (.int p2), .val (.int p3), .val (.int p4), .val (.int p5), .val (.int (3 : Int32)), .val (.ref b1o), .val (.ref b121o), .val (.ref b140o), .unset, .unset, .unset, .unset, .unset, .unset, .unset, .unset, .unset] [(.int nb0_154)])) tg0 → Steps p.tables e below (T153.setTop (mkF m 131 #[.val (.int p1), .val (.int p2), .val (.int p3), .val (.int p4), .val (.int p5), .val (.int (3 : Int32)), .val (.ref b1o), .val (.ref b121o), .val (.ref b140o), .unset, .unset, .unset, .unset, .unset, .unset, .unset, .unset, .unset] [(.int r153)])) tg0 := by
      intro tg0 kt
      by_cases hj155_131 : r153 = (0 : Int32)
      · rw [if_pos hj155_131] at hnb0_154
        rw [hnb0_154] at kt
        refine XS.ifNo X153.here hx rfl (hb hby at_131) rfl ((if0 _ _).trans (teq hj155_131).2) ?_
        refine XS.iconst X153.here hx rfl (hb hby at_134) ?_
        refine XS.goto X153.here hx rfl (pc0 := 135) (pc' := 139) rfl (hb hby at_135) (by decide) (by decide) ?_
        exact kt
      · rw [if_neg hj155_131] at hnb0_154
        rw [hnb0_154] at kt
        refine XS.ifYes X153.here hx rfl (pc0 := 131) (pc' := 138) rfl (hb hby at_131) rfl ((if0 _ _).trans (feq hj155_131).2) (by decide) (by decide) ?_
        refine XS.iconst X153.here hx rfl (hb hby at_138) ?_
        exact kt
    obtain ⟨cl156, Ar156, qk156, Sz156, Nn156, Hh156, Gg156⟩ := id (f150)
    have hin157 : ¬ ((1 : Int32) < 0 ∨ cl156.slots.size ≤ ((1 : Int32)).toNatClampNeg) := inb_of Sz156 ⟨by decide, by decide⟩
    have hat157 : cl156.slots[((1 : Int32)).toNatClampNeg]? = some (.int r6) := Has.at Hh156 hin157 rfl
    obtain ⟨_, _, ⟨T158, Lq158, kq158, nq158⟩, -, X158, ⟨Lc158, hQ158, lq158, yq158, zq158⟩, st158⟩ := Jvm.LawKit.callS X153 hx (y := (⟨"com/example/wrasse/wrasse/io/CorrectionFormatWordOfPinLaw", "bl", "(C)Z"⟩ : MethodName)) hown (mvT hZ (hw _ (own_w 64 rfl))) (mvT hZ (hw _ (own_w 65 rfl))) (mvT hZ (hw _ (own_w 3 rfl))) (mvT hZ (hw _ (own_w 66 rfl))) (by decide) (backOf (W := 0) (rBl l Z a0 hw [] r6  T148.heap n0 Z148 ) hZ (hw _ (own_w 66 rfl)) (hw _ (own_w 3 rfl)) (by decide) (by decide)) (g := (mkF m 151 #[.val (.int p1), .val (.int p2), .val (.int p3), .val (.int p4), .val (.int p5), .val (.int (3 : Int32)), .val (.ref b1o), .val (.ref b121o), .val (.ref b140o), .val (.int nb0_154), .unset, .unset, .unset, .unset, .unset, .unset, .unset, .unset] [(.int r6)])) rfl (by rw [hml]; rfl) (argsL := [(.int r6)]) (rest := []) (lenOf pd_27 rfl) rfl (by show 2 * 0 + _ ≤ _; exact Nat.le_of_eq rfl) (hb hby at_151) (fun _ _ => ⟨rfl, e153, (by decide : 5 + 0 ≤ _), (by decide : 35 + 0 ≤ _)⟩)
    dsimp only [Pt.U, Pt.locs, Pt.cells, Pt.slots] at X158 lq158 yq158 zq158 st158 hQ158
    subst lq158 yq158 zq158
    obtain ⟨r158, hr158, rfl, N158q, e158⟩ := hQ158
    have N158 := Fr.app N153 N158q
    obtain ⟨nb1_159, hnb1_159⟩ : ∃ z : Int32, z = (if r158 = (0 : Int32) then (1 : Int32) else (0 : Int32)) := ⟨_, rfl⟩
    have sg160 : ∀ tg0, Steps p.tables e below (T158.setTop (mkF m 162 #[.val (.int p1), .val (.int p2), .val (.int p3), .val (.int p4), .val (.int p5), .val (.int (3 : Int32)), .val (.ref b1o), .val (.ref b121o), .val (.ref b140o), .val (.int nb0_154), .unset, .unset, .unset, .unset, .unset, .unset, .unset, .unset] [(.int nb1_159)])) tg0 → Steps p.tables e below (T158.setTop (mkF m 154 #[.val (.int p1), .val (.int p2), .val (.int p3), .val (.int p4), .val (.int p5), .val (.int (3 : Int32)), .val (.ref b1o), .val (.ref b121o), .val (.ref b140o), .val (.int nb0_154), .unset, .unset, .unset, .unset, .unset, .unset, .unset, .unset] [(.int r158)])) tg0 := by
      intro tg0 kt
      by_cases hj160_154 : r158 = (0 : Int32)
      · rw [if_pos hj160_154] at hnb1_159
        rw [hnb1_159] at kt
        refine XS.ifNo X158.here hx rfl (hb hby at_154) rfl ((if0 _ _).trans (teq hj160_154).2) ?_
        refine XS.iconst X158.here hx rfl (hb hby at_157) ?_
        refine XS.goto X158.here hx rfl (pc0 := 158) (pc' := 162) rfl (hb hby at_158) (by decide) (by decide) ?_
        exact kt
      · rw [if_neg hj160_154] at hnb1_159
        rw [hnb1_159] at kt
        refine XS.ifYes X158.here hx rfl (pc0 := 154) (pc' := 161) rfl (hb hby at_154) rfl ((if0 _ _).trans (feq hj160_154).2) (by decide) (by decide) ?_
        refine XS.iconst X158.here hx rfl (hb hby at_161) ?_
        exact kt
    obtain ⟨cl161, Ar161, qk161, Sz161, Nn161, Hh161, Gg161⟩ := id (f150)
    have hin162 : ¬ ((2 : Int32) < 0 ∨ cl161.slots.size ≤ ((2 : Int32)).toNatClampNeg) := inb_of Sz161 ⟨by decide, by decide⟩
    have hat162 : cl161.slots[((2 : Int32)).toNatClampNeg]? = some (.int r9) := Has.at Hh161 hin162 rfl
    obtain ⟨_, _, ⟨T163, Lq163, kq163, nq163⟩, -, X163, ⟨Lc163, hQ163, lq163, yq163, zq163⟩, st163⟩ := Jvm.LawKit.callS X158 hx (y := (⟨"com/example/wrasse/wrasse/io/CorrectionFormatWordOfPinLaw", "bl", "(C)Z"⟩ : MethodName)) hown (mvT hZ (hw _ (own_w 64 rfl))) (mvT hZ (hw _ (own_w 65 rfl))) (mvT hZ (hw _ (own_w 3 rfl))) (mvT hZ (hw _ (own_w 66 rfl))) (by decide) (backOf (W := 0) (rBl l Z a0 hw [] r9  T148.heap n0 Z148 ) hZ (hw _ (own_w 66 rfl)) (hw _ (own_w 3 rfl)) (by decide) (by decide)) (g := (mkF m 174 #[.val (.int p1), .val (.int p2), .val (.int p3), .val (.int p4), .val (.int p5), .val (.int (3 : Int32)), .val (.ref b1o), .val (.ref b121o), .val (.ref b140o), .val (.int nb0_154), .val (.int nb1_159), .unset, .unset, .unset, .unset, .unset, .unset, .unset] [(.int r9)])) rfl (by rw [hml]; rfl) (argsL := [(.int r9)]) (rest := []) (lenOf pd_27 rfl) rfl (by show 2 * 0 + _ ≤ _; exact Nat.le_of_eq rfl) (hb hby at_174) (fun _ _ => ⟨rfl, e158, (by decide : 5 + 0 ≤ _), (by decide : 35 + 0 ≤ _)⟩)
    dsimp only [Pt.U, Pt.locs, Pt.cells, Pt.slots] at X163 lq163 yq163 zq163 st163 hQ163
    subst lq163 yq163 zq163
    obtain ⟨r163, hr163, rfl, N163q, e163⟩ := hQ163
    have N163 := Fr.app N158 N163q
    obtain ⟨nb2_164, hnb2_164⟩ : ∃ z : Int32, z = (if r163 = (0 : Int32) then (1 : Int32) else (0 : Int32)) := ⟨_, rfl⟩
    have sg165 : ∀ tg0, Steps p.tables e below (T163.setTop (mkF m 185 #[.val (.int p1), .val (.int p2), .val (.int p3), .val (.int p4), .val (.int p5), .val (.int (3 : Int32)), .val (.ref b1o), .val (.ref b121o), .val (.ref b140o), .val (.int nb0_154), .val (.int nb1_159), .unset, .unset, .unset, .unset, .unset, .unset, .unset] [(.int nb2_164)])) tg0 → Steps p.tables e below (T163.setTop (mkF m 177 #[.val (.int p1), .val (.int p2), .val (.int p3), .val (.int p4), .val (.int p5), .val (.int (3 : Int32)), .val (.ref b1o), .val (.ref b121o), .val (.ref b140o), .val (.int nb0_154), .val (.int nb1_159), .unset, .unset, .unset, .unset, .unset, .unset, .unset] [(.int r163)])) tg0 := by
      intro tg0 kt
      by_cases hj165_177 : r163 = (0 : Int32)
      · rw [if_pos hj165_177] at hnb2_164
        rw [hnb2_164] at kt
        refine XS.ifNo X163.here hx rfl (hb hby at_177) rfl ((if0 _ _).trans (teq hj165_177).2) ?_
        refine XS.iconst X163.here hx rfl (hb hby at_180) ?_
        refine XS.goto X163.here hx rfl (pc0 := 181) (pc' := 185) rfl (hb hby at_181) (by decide) (by decide) ?_
        exact kt
      · rw [if_neg hj165_177] at hnb2_164
        rw [hnb2_164] at kt
        refine XS.ifYes X163.here hx rfl (pc0 := 177) (pc' := 184) rfl (hb hby at_177) rfl ((if0 _ _).trans (feq hj165_177).2) (by decide) (by decide) ?_
        refine XS.iconst X163.here hx rfl (hb hby at_184) ?_
        exact kt
    have pq166 : ∀ t, Steps p.tables e below (T163.setTop (mkF m 210 #[.val (.int p1), .val (.int p2), .val (.int p3), .val (.int p4), .val (.int p5), .val (.int (3 : Int32)), .val (.ref b1o), .val (.ref b121o), .val (.ref b140o), .val (.int nb0_154), .val (.int nb1_159), .val (.int nb2_164), .val (.int (0 : Int32)), .unset, .unset, .unset, .unset, .unset] [])) t → Steps p.tables e below (s₁.setTop (mkF m 0 #[.val (.int p1), .val (.int p2), .val (.int p3), .val (.int p4), .val (.int p5), .unset, .unset, .unset, .unset, .unset, .unset, .unset, .unset, .unset, .unset, .unset, .unset, .unset] [])) t := by
      intro t kt
      refine pq15 _ ?_
      show Steps p.tables e below (T14.setTop (mkF m 46 #[.val (.int p1), .val (.int p2), .val (.int p3), .val (.int p4), .val (.int p5), .val (.int ((p5 &&& (7 : Int32)) % (5 : Int32))), .val (.ref b1o), .unset, .unset, .unset, .unset, .unset, .unset, .unset, .unset, .unset, .unset, .unset] [])) _
      rw [hI]
      refine XS.iload X14.here hx rfl (hb hby at_46) rfl ?_
      refine st121 _ ?_
      refine XS.astore X121.here hx rfl (hb hby at_50) rfl rfl (l' := #[.val (.int p1), .val (.int p2), .val (.int p3), .val (.int p4), .val (.int p5), .val (.int (3 : Int32)), .val (.ref b1o), .val (.ref b121o), .unset, .unset, .unset, .unset, .unset, .unset, .unset, .unset, .unset, .unset]) rfl ?_
      refine XS.iload X121.here hx rfl (hb hby at_52) rfl ?_
      refine XS.ifNo X121.here hx rfl (hb hby at_54) rfl ((if0 _ _).trans (tlt (by decide)).2.2.2) ?_
      refine XS.aload X121.here hx rfl (hb hby at_57) rfl rfl ?_
      refine XS.iconst X121.here hx rfl (hb hby at_59) ?_
      refine XS.aload X121.here hx rfl (hb hby at_60) rfl rfl ?_
      refine XS.iconst X121.here hx rfl (hb hby at_62) ?_
      refine X121.caload hx (j := (0 : Int32)) (v := (.int r3)) (by rw [e121]; exact Ar126.1) (State.isArrayOf_alike hZ.alike Ar126.2.1) Ar126.2.2 hin127 hat127 (g := (mkF m 63 #[.val (.int p1), .val (.int p2), .val (.int p3), .val (.int p4), .val (.int p5), .val (.int (3 : Int32)), .val (.ref b1o), .val (.ref b121o), .unset, .unset, .unset, .unset, .unset, .unset, .unset, .unset, .unset, .unset] [(.int (0 : Int32)), (.ref b1o), (.int (0 : Int32)), (.ref b121o)])) rfl rfl (hb hby at_63) _ ?_
      refine st129 _ ?_
      refine XS.iload X129.here hx rfl (hb hby at_65) rfl ?_
      refine XS.iconst X129.here hx rfl (hb hby at_67) ?_
      refine XS.icmpNo X129.here hx rfl (hb hby at_68) rfl (tlt (by decide)).2.2.2 ?_
      refine XS.aload X129.here hx rfl (hb hby at_71) rfl rfl ?_
      refine XS.iconst X129.here hx rfl (hb hby at_73) ?_
      refine XS.aload X129.here hx rfl (hb hby at_74) rfl rfl ?_
      refine XS.iconst X129.here hx rfl (hb hby at_76) ?_
      refine X129.caload hx (j := (1 : Int32)) (v := (.int r6)) (by rw [e129]; exact Ar131.1) (State.isArrayOf_alike hZ.alike Ar131.2.1) Ar131.2.2 hin132 hat132 (g := (mkF m 77 #[.val (.int p1), .val (.int p2), .val (.int p3), .val (.int p4), .val (.int p5), .val (.int (3 : Int32)), .val (.ref b1o), .val (.ref b121o), .unset, .unset, .unset, .unset, .unset, .unset, .unset, .unset, .unset, .unset] [(.int (1 : Int32)), (.ref b1o), (.int (1 : Int32)), (.ref b121o)])) rfl rfl (hb hby at_77) _ ?_
      refine st134 _ ?_
      refine XS.iload X134.here hx rfl (hb hby at_79) rfl ?_
      refine XS.iconst X134.here hx rfl (hb hby at_81) ?_
      refine XS.icmpNo X134.here hx rfl (hb hby at_82) rfl (tlt (by decide)).2.2.2 ?_
      refine XS.aload X134.here hx rfl (hb hby at_85) rfl rfl ?_
      refine XS.iconst X134.here hx rfl (hb hby at_87) ?_
      refine XS.aload X134.here hx rfl (hb hby at_88) rfl rfl ?_
      refine XS.iconst X134.here hx rfl (hb hby at_90) ?_
      refine X134.caload hx (j := (2 : Int32)) (v := (.int r9)) (by rw [e134]; exact Ar136.1) (State.isArrayOf_alike hZ.alike Ar136.2.1) Ar136.2.2 hin137 hat137 (g := (mkF m 91 #[.val (.int p1), .val (.int p2), .val (.int p3), .val (.int p4), .val (.int p5), .val (.int (3 : Int32)), .val (.ref b1o), .val (.ref b121o), .unset, .unset, .unset, .unset, .unset, .unset, .unset, .unset, .unset, .unset] [(.int (2 : Int32)), (.ref b1o), (.int (2 : Int32)), (.ref b121o)])) rfl rfl (hb hby at_91) _ ?_
      refine st139 _ ?_
      refine XS.iload X139.here hx rfl (hb hby at_93) rfl ?_
      refine XS.iconst X139.here hx rfl (hb hby at_95) ?_
      refine XS.icmpYes X139.here hx rfl (pc0 := 96) (pc' := 107) rfl (hb hby at_96) rfl (flt (by decide)).2.2.2 (by decide) (by decide) ?_
      refine st140 _ ?_
      refine XS.dup X140.here hx rfl (hb hby at_110) rfl rfl ?_
      refine XS.aload X140.here hx rfl (hb hby at_111) rfl rfl ?_
      refine st148.trans ?_
      refine XS.astore X148.here hx rfl (hb hby at_116) rfl rfl (l' := #[.val (.int p1), .val (.int p2), .val (.int p3), .val (.int p4), .val (.int p5), .val (.int (3 : Int32)), .val (.ref b1o), .val (.ref b121o), .val (.ref b140o), .unset, .unset, .unset, .unset, .unset, .unset, .unset, .unset, .unset]) rfl ?_
      refine XS.iconst X148.here hx rfl (hb hby at_118) ?_
      refine XS.iload X148.here hx rfl (hb hby at_119) rfl ?_
      refine XS.icmpNo X148.here hx rfl (hb hby at_121) rfl (tlt (by decide)).2.1 ?_
      show Steps p.tables e below (T148.setTop (mkF m 124 #[.val (.int p1), .val (.int p2), .val (.int p3), .val (.int p4), .val (.int p5), .val (.int (3 : Int32)), .val (.ref b1o), .val (.ref b121o), .val (.ref b140o), .unset, .unset, .unset, .unset, .unset, .unset, .unset, .unset, .unset] [])) _
      refine XS.aload X148.here hx rfl (hb hby at_124) rfl rfl ?_
      refine XS.iconst X148.here hx rfl (hb hby at_126) ?_
      refine X148.caload hx (j := (0 : Int32)) (v := (.int r3)) Ar151.1 (State.isArrayOf_alike hZ.alike Ar151.2.1) Ar151.2.2 hin152 hat152 (g := (mkF m 127 #[.val (.int p1), .val (.int p2), .val (.int p3), .val (.int p4), .val (.int p5), .val (.int (3 : Int32)), .val (.ref b1o), .val (.ref b121o), .val (.ref b140o), .unset, .unset, .unset, .unset, .unset, .unset, .unset, .unset, .unset] [(.int (0 : Int32)), (.ref b1o)])) rfl rfl (hb hby at_127) _ ?_
      refine st153 _ ?_
      refine sg155 _ ?_
      refine XS.istore X153.here hx rfl (hb hby at_139) rfl (l' := #[.val (.int p1), .val (.int p2), .val (.int p3), .val (.int p4), .val (.int p5), .val (.int (3 : Int32)), .val (.ref b1o), .val (.ref b121o), .val (.ref b140o), .val (.int nb0_154), .unset, .unset, .unset, .unset, .unset, .unset, .unset, .unset]) rfl ?_
      refine XS.iconst X153.here hx rfl (hb hby at_141) ?_
      refine XS.iload X153.here hx rfl (hb hby at_142) rfl ?_
      refine XS.icmpNo X153.here hx rfl (hb hby at_144) rfl (tlt (by decide)).2.1 ?_
      refine XS.aload X153.here hx rfl (hb hby at_147) rfl rfl ?_
      refine XS.iconst X153.here hx rfl (hb hby at_149) ?_
      refine X153.caload hx (j := (1 : Int32)) (v := (.int r6)) (by rw [e153]; exact Ar156.1) (State.isArrayOf_alike hZ.alike Ar156.2.1) Ar156.2.2 hin157 hat157 (g := (mkF m 150 #[.val (.int p1), .val (.int p2), .val (.int p3), .val (.int p4), .val (.int p5), .val (.int (3 : Int32)), .val (.ref b1o), .val (.ref b121o), .val (.ref b140o), .val (.int nb0_154), .unset, .unset, .unset, .unset, .unset, .unset, .unset, .unset] [(.int (1 : Int32)), (.ref b1o)])) rfl rfl (hb hby at_150) _ ?_
      refine st158 _ ?_
      refine sg160 _ ?_
      refine XS.istore X158.here hx rfl (hb hby at_162) rfl (l' := #[.val (.int p1), .val (.int p2), .val (.int p3), .val (.int p4), .val (.int p5), .val (.int (3 : Int32)), .val (.ref b1o), .val (.ref b121o), .val (.ref b140o), .val (.int nb0_154), .val (.int nb1_159), .unset, .unset, .unset, .unset, .unset, .unset, .unset]) rfl ?_
      refine XS.iconst X158.here hx rfl (hb hby at_164) ?_
      refine XS.iload X158.here hx rfl (hb hby at_165) rfl ?_
      refine XS.icmpNo X158.here hx rfl (hb hby at_167) rfl (tlt (by decide)).2.1 ?_
      refine XS.aload X158.here hx rfl (hb hby at_170) rfl rfl ?_
      refine XS.iconst X158.here hx rfl (hb hby at_172) ?_
      refine X158.caload hx (j := (2 : Int32)) (v := (.int r9)) (by rw [e158]; exact Ar161.1) (State.isArrayOf_alike hZ.alike Ar161.2.1) Ar161.2.2 hin162 hat162 (g := (mkF m 173 #[.val (.int p1), .val (.int p2), .val (.int p3), .val (.int p4), .val (.int p5), .val (.int (3 : Int32)), .val (.ref b1o), .val (.ref b121o), .val (.ref b140o), .val (.int nb0_154), .val (.int nb1_159), .unset, .unset, .unset, .unset, .unset, .unset, .unset] [(.int (2 : Int32)), (.ref b1o)])) rfl rfl (hb hby at_173) _ ?_
      refine st163 _ ?_
      refine sg165 _ ?_
      refine XS.istore X163.here hx rfl (hb hby at_185) rfl (l' := #[.val (.int p1), .val (.int p2), .val (.int p3), .val (.int p4), .val (.int p5), .val (.int (3 : Int32)), .val (.ref b1o), .val (.ref b121o), .val (.ref b140o), .val (.int nb0_154), .val (.int nb1_159), .val (.int nb2_164), .unset, .unset, .unset, .unset, .unset, .unset]) rfl ?_
      refine XS.iconst X163.here hx rfl (hb hby at_187) ?_
      refine XS.iload X163.here hx rfl (hb hby at_188) rfl ?_
      refine XS.icmpYes X163.here hx rfl (pc0 := 190) (pc' := 207) rfl (hb hby at_190) rfl (flt (by decide)).2.1 (by decide) (by decide) ?_
      refine XS.iconst X163.here hx rfl (hb hby at_207) ?_
      refine XS.istore X163.here hx rfl (hb hby at_208) rfl (l' := #[.val (.int p1), .val (.int p2), .val (.int p3), .val (.int p4), .val (.int p5), .val (.int (3 : Int32)), .val (.ref b1o), .val (.ref b121o), .val (.ref b140o), .val (.int nb0_154), .val (.int nb1_159), .val (.int nb2_164), .val (.int (0 : Int32)), .unset, .unset, .unset, .unset, .unset]) rfl ?_
      exact kt
    by_cases hB0 : (r3 = (32 : Int32) ∨ r3 = (9 : Int32) ∨ r3 = (13 : Int32))
    · by_cases hB1 : (r6 = (32 : Int32) ∨ r6 = (9 : Int32) ∨ r6 = (13 : Int32))
      · by_cases hB2 : (r9 = (32 : Int32) ∨ r9 = (9 : Int32) ∨ r9 = (13 : Int32))
        · have f168 := (f149.keep KC148 (allS b140 all0))
          obtain ⟨_, _, ⟨T167, Lq167, kq167, nq167⟩, -, X167, ⟨Lc167, hQ167, lq167, yq167, zq167⟩, st167⟩ := Jvm.LawKit.callS X163 hx (y := (⟨"com/example/wrasse/wrasse/io/CorrectionFormat", "wordOf", "(Ljava/lang/String;)Ljava/util/Optional;"⟩ : MethodName)) hown (mvT hZ (hw _ (own_w 27 rfl))) (mvT hZ (hw _ (own_w 28 rfl))) (mvT hZ (hw _ (own_w 29 rfl))) (mvT hZ (hw _ (own_w 30 rfl))) (by decide) (backOf (W := 0) (rWe l Z a0 hw [] b140o [r3, r6, r9] G1 gv eo T148.heap n0 Z148 f168 O_S hgv O_2 P5 O_A O_H O_W TS148 (Nat.le_of_ble_eq_true rfl) (own_cons hr3 (own_cons hr6 (own_cons hr9 own_nil))) (own_befS (P := fun k => (([r3, r6, r9] : List Int32).getD k 0 = (32 : Int32) ∨ ([r3, r6, r9] : List Int32).getD k 0 = (9 : Int32) ∨ ([r3, r6, r9] : List Int32).getD k 0 = (13 : Int32))) (own_befS (P := fun k => (([r3, r6, r9] : List Int32).getD k 0 = (32 : Int32) ∨ ([r3, r6, r9] : List Int32).getD k 0 = (9 : Int32) ∨ ([r3, r6, r9] : List Int32).getD k 0 = (13 : Int32))) (own_befS (P := fun k => (([r3, r6, r9] : List Int32).getD k 0 = (32 : Int32) ∨ ([r3, r6, r9] : List Int32).getD k 0 = (9 : Int32) ∨ ([r3, r6, r9] : List Int32).getD k 0 = (13 : Int32))) own_bef0 hB0) hB1) hB2) O_E) hZ (hw _ (own_w 30 rfl)) (hw _ (own_w 29 rfl)) (by decide) (by decide)) (g := (mkF m 283 #[.val (.int p1), .val (.int p2), .val (.int p3), .val (.int p4), .val (.int p5), .val (.int (3 : Int32)), .val (.ref b1o), .val (.ref b121o), .val (.ref b140o), .val (.int (0 : Int32)), .val (.int (0 : Int32)), .val (.int (0 : Int32)), .val (.int (0 : Int32)), .val (.int (3 : Int32)), .val (.int (0 : Int32)), .unset, .unset, .unset] [(.ref b140o)])) rfl (by rw [hml]; rfl) (argsL := [(.ref b140o)]) (rest := []) (lenOf pd_33 rfl) rfl (by show 2 * 0 + _ ≤ _; exact Nat.le_of_eq rfl) (hb hby at_283) (fun _ _ => ⟨rfl, e163, (by decide : 5 + 0 ≤ _), (by decide : 35 + 0 ≤ _)⟩)
          dsimp only [Pt.U, Pt.locs, Pt.cells, Pt.slots] at X167 lq167 yq167 zq167 st167 hQ167
          subst lq167 yq167 zq167
          obtain ⟨rfl, N167q, e167⟩ := hQ167
          have N167 := Fr.app N163 N167q
          obtain ⟨cq169, kz169, q169a, q169b, q169c⟩ := isOf hZ e167 (O_EE.ext f168.2)
          obtain ⟨_, _, ⟨T169, Lq169, kq169, nq169⟩, -, X169, ⟨Lc169, hQ169, lq169, yq169, zq169⟩, st169⟩ := X167.virtualBack hx (y := (⟨"java/util/Optional", "isPresent", "()Z"⟩ : MethodName)) (z := (⟨"java/util/Optional", "isPresent", "()Z"⟩ : MethodName)) hown (mvT hZ (hw _ (own_w 47 rfl))) (mvT hZ (hw _ (own_w 48 rfl))) (notFace_of_selects (args := #[]) (mvT hZ (hw _ (own_w 50 rfl)))) (mvT hZ (hw _ (own_w 50 rfl))) (mvT hZ (hw _ (own_w 49 rfl))) (by decide) (backOf (W := 0) (rOp0 l Z a0 hw [] eo  T148.heap n0 Z148 (O_EV.ext f168.2)) hZ (hw _ (own_w 51 rfl)) (hw _ (own_w 44 rfl)) (by decide) (by decide)) q169a q169c (g := (mkF m 297 #[.val (.int p1), .val (.int p2), .val (.int p3), .val (.int p4), .val (.int p5), .val (.int (3 : Int32)), .val (.ref b1o), .val (.ref b121o), .val (.ref b140o), .val (.int (0 : Int32)), .val (.int (0 : Int32)), .val (.int (0 : Int32)), .val (.int (0 : Int32)), .val (.int (3 : Int32)), .val (.int (0 : Int32)), .val (.ref eo), .unset, .unset] [(.ref eo)])) rfl (by rw [hml]; rfl) (Steps.refl _) (argsL := []) (rest := []) (lenOf pd_7 rfl) rfl (by show 2 * 0 + _ ≤ _; exact Nat.le_of_eq rfl) (hb hby at_297) (fun _ _ => ⟨rfl, e167, (by decide : 5 + 0 ≤ _), (by decide : 35 + 0 ≤ _)⟩)
          dsimp only [Pt.U, Pt.locs, Pt.cells, Pt.slots] at X169 lq169 yq169 zq169 st169 hQ169
          subst lq169 yq169 zq169
          obtain ⟨r169, hr169, rfl, N169q, e169⟩ := hQ169
          have N169 := Fr.app N167 N169q
          subst hr169
          obtain ⟨fs, hr, hrun, hended, hwd⟩ := Jvm.Stand.leaveW (s := s) (vm₁ := s.vm) X169 hS0 (Nat.le_trans (Nat.le_trans (Nat.le_trans (Nat.le_trans (Nat.le_trans (Nat.le_trans (Nat.le_trans (Nat.le_trans (Nat.le_trans (Nat.le_trans (Nat.le_trans (Nat.le_trans (Nat.le_of_eq (congrArg Array.size hh)) E1.1) (Nat.le_of_eq W5.size.symm)) (Nat.le_of_eq W8.size.symm)) (Nat.le_of_eq W11.size.symm)) (Nat.le_of_eq W14.size.symm)) E121.1) (Nat.le_of_eq W129.size.symm)) (Nat.le_of_eq W134.size.symm)) (Nat.le_of_eq W139.size.symm)) E140.1) KC148.1) (Nat.le_of_eq (congrArg Array.size e169).symm)) (v := some (.int (1 : Int32))) (fun h => by rw [Bd.returns] at h; cases h)
          refine ⟨_, _, pre0 _ ?_, hrun, hended, _, _, rfl, ?_, hwd.1, hwd.2.1, hwd.2.2.1, hwd.2.2.2.mono (by decide) (by decide)⟩
          · refine pq166 _ ?_
            rw [(own_nbT hr153 hB0 hnb0_154), (own_nbT hr158 hB1 hnb1_159), (own_nbT hr163 hB2 hnb2_164)]
            refine own_blk X163 hx hby (3 : Int32) (0 : Int32) (by decide) (by decide) _ ?_
            refine XS.aload X163.here hx rfl (hb hby at_281) rfl rfl ?_
            refine st167 _ ?_
            refine XS.astore X167.here hx rfl (hb hby at_286) rfl rfl (l' := #[.val (.int p1), .val (.int p2), .val (.int p3), .val (.int p4), .val (.int p5), .val (.int (3 : Int32)), .val (.ref b1o), .val (.ref b121o), .val (.ref b140o), .val (.int (0 : Int32)), .val (.int (0 : Int32)), .val (.int (0 : Int32)), .val (.int (0 : Int32)), .val (.int (3 : Int32)), .val (.int (0 : Int32)), .val (.ref eo), .unset, .unset]) rfl ?_
            refine XS.iload X167.here hx rfl (hb hby at_288) rfl ?_
            refine XS.iload X167.here hx rfl (hb hby at_290) rfl ?_
            refine XS.icmpNo X167.here hx rfl (hb hby at_292) rfl (flt (by decide)).1 ?_
            refine XS.aload X167.here hx rfl (hb hby at_295) rfl rfl ?_
            refine st169.trans ?_
            refine XS.ifNo X169.here hx rfl (hb hby at_300) rfl ((if0 _ _).trans (teq (by decide)).2) ?_
            refine XS.iconst X169.here hx rfl (hb hby at_303) ?_
            refine XS.goto X169.here hx rfl (pc0 := 304) (pc' := 308) rfl (hb hby at_304) (by decide) (by decide) ?_
            exact retN X169 hx (t := .boolean) Bd.returns (by simp) (hb hby at_308) hr
          · show Qrm0 Z p1 p2 p3 p4 p5 G1 gv eo h0 n0 _ T169.heap _
            exact ⟨rfl, N169⟩
        · have f171 := (f149.keep KC148 (allS b140 all0))
          obtain ⟨_, _, ⟨T170, Lq170, kq170, nq170⟩, -, X170, ⟨Lc170, hQ170, lq170, yq170, zq170⟩, st170⟩ := Jvm.LawKit.callS X163 hx (y := (⟨"com/example/wrasse/wrasse/io/CorrectionFormat", "wordOf", "(Ljava/lang/String;)Ljava/util/Optional;"⟩ : MethodName)) hown (mvT hZ (hw _ (own_w 27 rfl))) (mvT hZ (hw _ (own_w 28 rfl))) (mvT hZ (hw _ (own_w 29 rfl))) (mvT hZ (hw _ (own_w 30 rfl))) (by decide) (backOf (W := 0) (rWp l Z a0 hw [] b140o [r3, r6, r9] G1 gv 2 [r9] T148.heap n0 Z148 f171 O_S hgv O_2 P5 O_A O_H O_W TS148 (Nat.le_of_ble_eq_true rfl) (own_cons hr3 (own_cons hr6 (own_cons hr9 own_nil))) (own_befS (P := fun k => (([r3, r6, r9] : List Int32).getD k 0 = (32 : Int32) ∨ ([r3, r6, r9] : List Int32).getD k 0 = (9 : Int32) ∨ ([r3, r6, r9] : List Int32).getD k 0 = (13 : Int32))) (own_befS (P := fun k => (([r3, r6, r9] : List Int32).getD k 0 = (32 : Int32) ∨ ([r3, r6, r9] : List Int32).getD k 0 = (9 : Int32) ∨ ([r3, r6, r9] : List Int32).getD k 0 = (13 : Int32))) own_bef0 hB0) hB1) ⟨(Nat.le_of_ble_eq_true rfl), rfl⟩ (Nat.le_of_ble_eq_true rfl) hB2 hB2 own_aft0) hZ (hw _ (own_w 30 rfl)) (hw _ (own_w 29 rfl)) (by decide) (by decide)) (g := (mkF m 283 #[.val (.int p1), .val (.int p2), .val (.int p3), .val (.int p4), .val (.int p5), .val (.int (3 : Int32)), .val (.ref b1o), .val (.ref b121o), .val (.ref b140o), .val (.int (0 : Int32)), .val (.int (0 : Int32)), .val (.int (1 : Int32)), .val (.int (0 : Int32)), .val (.int (2 : Int32)), .val (.int (3 : Int32)), .unset, .unset, .unset] [(.ref b140o)])) rfl (by rw [hml]; rfl) (argsL := [(.ref b140o)]) (rest := []) (lenOf pd_33 rfl) rfl (by show 2 * 0 + _ ≤ _; exact Nat.le_of_eq rfl) (hb hby at_283) (fun _ _ => ⟨rfl, e163, (by decide : 5 + 4 ≤ _), (by decide : 35 + 29 ≤ _)⟩)
          dsimp only [Pt.U, Pt.locs, Pt.cells, Pt.slots] at X170 lq170 yq170 zq170 st170 hQ170
          subst lq170 yq170 zq170
          obtain ⟨o170, x170, rfl, N170q, KC170, uE170, uV170, TS170⟩ := hQ170
          have N170 := Fr.app N163 N170q
          have Z170 : n0 ≤ T170.heap.size := Nat.le_trans Z148 KC170.1
          have f173 := (f171.keep KC170 all0)
          have f174 := (f150.keep KC170 nin0)
          obtain ⟨T172, L172, X172, e172, N172, st172⟩ := own_tail (ct := [r9]) (sq := 2) (vs := [(.int r3), (.int r6), (.int r9), (.int r12)]) (by decide) (by decide) (by decide) (by decide) hx hZ hw hby hml hown f173 O_S hgv O_2 P5 O_A O_H O_W Z170 TS170 (Nat.le_of_ble_eq_true rfl) (own_cons hr9 own_nil) uE170 uV170 f174 (Nat.le_of_ble_eq_true rfl) (by decide : 2 + 1 ≤ 4) (own_befS (P := fun k => ([.int r3, .int r6, .int r9, .int r12] : List Value).getD (2 + k) (.int (0 : Int32)) = .int (([r9] : List Int32).getD k 0)) own_bef0 rfl) _ _ X170 rfl N170
          obtain ⟨fs, hr, hrun, hended, hwd⟩ := Jvm.Stand.leaveW (s := s) (vm₁ := s.vm) X172 hS0 (Nat.le_trans (Nat.le_trans (Nat.le_trans (Nat.le_trans (Nat.le_trans (Nat.le_trans (Nat.le_trans (Nat.le_trans (Nat.le_trans (Nat.le_trans (Nat.le_trans (Nat.le_trans (Nat.le_trans (Nat.le_of_eq (congrArg Array.size hh)) E1.1) (Nat.le_of_eq W5.size.symm)) (Nat.le_of_eq W8.size.symm)) (Nat.le_of_eq W11.size.symm)) (Nat.le_of_eq W14.size.symm)) E121.1) (Nat.le_of_eq W129.size.symm)) (Nat.le_of_eq W134.size.symm)) (Nat.le_of_eq W139.size.symm)) E140.1) KC148.1) KC170.1) (Nat.le_of_eq (congrArg Array.size e172).symm)) (v := some (.int (1 : Int32))) (fun h => by rw [Bd.returns] at h; cases h)
          refine ⟨_, _, pre0 _ ?_, hrun, hended, _, _, rfl, ?_, hwd.1, hwd.2.1, hwd.2.2.1, hwd.2.2.2.mono (by decide) (by decide)⟩
          · refine pq166 _ ?_
            rw [(own_nbT hr153 hB0 hnb0_154), (own_nbT hr158 hB1 hnb1_159), (own_nbF hr163 hB2 hnb2_164)]
            refine own_blk X163 hx hby (2 : Int32) (3 : Int32) (by decide) (by decide) _ ?_
            refine XS.aload X163.here hx rfl (hb hby at_281) rfl rfl ?_
            refine st170 _ ?_
            refine XS.astore X170.here hx rfl (hb hby at_286) rfl rfl (l' := #[.val (.int p1), .val (.int p2), .val (.int p3), .val (.int p4), .val (.int p5), .val (.int (3 : Int32)), .val (.ref b1o), .val (.ref b121o), .val (.ref b140o), .val (.int (0 : Int32)), .val (.int (0 : Int32)), .val (.int (1 : Int32)), .val (.int (0 : Int32)), .val (.int (2 : Int32)), .val (.int (3 : Int32)), .val (.ref o170), .unset, .unset]) rfl ?_
            refine XS.iload X170.here hx rfl (hb hby at_288) rfl ?_
            refine XS.iload X170.here hx rfl (hb hby at_290) rfl ?_
            refine XS.icmpYes X170.here hx rfl (pc0 := 292) (pc' := 309) rfl (hb hby at_292) rfl (tlt (by decide)).1 (by decide) (by decide) ?_
            refine st172 _ ?_
            exact retN X172 hx (t := .boolean) Bd.returns (by simp) (hb hby at_443) hr
          · show Qrm0 Z p1 p2 p3 p4 p5 G1 gv eo h0 n0 _ T172.heap _
            exact ⟨rfl, N172⟩
      · by_cases hB2 : (r9 = (32 : Int32) ∨ r9 = (9 : Int32) ∨ r9 = (13 : Int32))
        · have f176 := (f149.keep KC148 (allS b140 all0))
          obtain ⟨_, _, ⟨T175, Lq175, kq175, nq175⟩, -, X175, ⟨Lc175, hQ175, lq175, yq175, zq175⟩, st175⟩ := Jvm.LawKit.callS X163 hx (y := (⟨"com/example/wrasse/wrasse/io/CorrectionFormat", "wordOf", "(Ljava/lang/String;)Ljava/util/Optional;"⟩ : MethodName)) hown (mvT hZ (hw _ (own_w 27 rfl))) (mvT hZ (hw _ (own_w 28 rfl))) (mvT hZ (hw _ (own_w 29 rfl))) (mvT hZ (hw _ (own_w 30 rfl))) (by decide) (backOf (W := 0) (rWp l Z a0 hw [] b140o [r3, r6, r9] G1 gv 1 [r6] T148.heap n0 Z148 f176 O_S hgv O_2 P5 O_A O_H O_W TS148 (Nat.le_of_ble_eq_true rfl) (own_cons hr3 (own_cons hr6 (own_cons hr9 own_nil))) (own_befS (P := fun k => (([r3, r6, r9] : List Int32).getD k 0 = (32 : Int32) ∨ ([r3, r6, r9] : List Int32).getD k 0 = (9 : Int32) ∨ ([r3, r6, r9] : List Int32).getD k 0 = (13 : Int32))) own_bef0 hB0) ⟨(Nat.le_of_ble_eq_true rfl), rfl⟩ (Nat.le_of_ble_eq_true rfl) hB1 hB1 (own_aftS (P := fun k => (([r3, r6, r9] : List Int32).getD k 0 = (32 : Int32) ∨ ([r3, r6, r9] : List Int32).getD k 0 = (9 : Int32) ∨ ([r3, r6, r9] : List Int32).getD k 0 = (13 : Int32))) (e := 2) (n := 3) own_aft0 hB2)) hZ (hw _ (own_w 30 rfl)) (hw _ (own_w 29 rfl)) (by decide) (by decide)) (g := (mkF m 283 #[.val (.int p1), .val (.int p2), .val (.int p3), .val (.int p4), .val (.int p5), .val (.int (3 : Int32)), .val (.ref b1o), .val (.ref b121o), .val (.ref b140o), .val (.int (0 : Int32)), .val (.int (1 : Int32)), .val (.int (0 : Int32)), .val (.int (0 : Int32)), .val (.int (1 : Int32)), .val (.int (2 : Int32)), .unset, .unset, .unset] [(.ref b140o)])) rfl (by rw [hml]; rfl) (argsL := [(.ref b140o)]) (rest := []) (lenOf pd_33 rfl) rfl (by show 2 * 0 + _ ≤ _; exact Nat.le_of_eq rfl) (hb hby at_283) (fun _ _ => ⟨rfl, e163, (by decide : 5 + 4 ≤ _), (by decide : 35 + 29 ≤ _)⟩)
          dsimp only [Pt.U, Pt.locs, Pt.cells, Pt.slots] at X175 lq175 yq175 zq175 st175 hQ175
          subst lq175 yq175 zq175
          obtain ⟨o175, x175, rfl, N175q, KC175, uE175, uV175, TS175⟩ := hQ175
          have N175 := Fr.app N163 N175q
          have Z175 : n0 ≤ T175.heap.size := Nat.le_trans Z148 KC175.1
          have f178 := (f176.keep KC175 all0)
          have f179 := (f150.keep KC175 nin0)
          obtain ⟨T177, L177, X177, e177, N177, st177⟩ := own_tail (ct := [r6]) (sq := 1) (vs := [(.int r3), (.int r6), (.int r9), (.int r12)]) (by decide) (by decide) (by decide) (by decide) hx hZ hw hby hml hown f178 O_S hgv O_2 P5 O_A O_H O_W Z175 TS175 (Nat.le_of_ble_eq_true rfl) (own_cons hr6 own_nil) uE175 uV175 f179 (Nat.le_of_ble_eq_true rfl) (by decide : 1 + 1 ≤ 4) (own_befS (P := fun k => ([.int r3, .int r6, .int r9, .int r12] : List Value).getD (1 + k) (.int (0 : Int32)) = .int (([r6] : List Int32).getD k 0)) own_bef0 rfl) _ _ X175 rfl N175
          obtain ⟨fs, hr, hrun, hended, hwd⟩ := Jvm.Stand.leaveW (s := s) (vm₁ := s.vm) X177 hS0 (Nat.le_trans (Nat.le_trans (Nat.le_trans (Nat.le_trans (Nat.le_trans (Nat.le_trans (Nat.le_trans (Nat.le_trans (Nat.le_trans (Nat.le_trans (Nat.le_trans (Nat.le_trans (Nat.le_trans (Nat.le_of_eq (congrArg Array.size hh)) E1.1) (Nat.le_of_eq W5.size.symm)) (Nat.le_of_eq W8.size.symm)) (Nat.le_of_eq W11.size.symm)) (Nat.le_of_eq W14.size.symm)) E121.1) (Nat.le_of_eq W129.size.symm)) (Nat.le_of_eq W134.size.symm)) (Nat.le_of_eq W139.size.symm)) E140.1) KC148.1) KC175.1) (Nat.le_of_eq (congrArg Array.size e177).symm)) (v := some (.int (1 : Int32))) (fun h => by rw [Bd.returns] at h; cases h)
          refine ⟨_, _, pre0 _ ?_, hrun, hended, _, _, rfl, ?_, hwd.1, hwd.2.1, hwd.2.2.1, hwd.2.2.2.mono (by decide) (by decide)⟩
          · refine pq166 _ ?_
            rw [(own_nbT hr153 hB0 hnb0_154), (own_nbF hr158 hB1 hnb1_159), (own_nbT hr163 hB2 hnb2_164)]
            refine own_blk X163 hx hby (1 : Int32) (2 : Int32) (by decide) (by decide) _ ?_
            refine XS.aload X163.here hx rfl (hb hby at_281) rfl rfl ?_
            refine st175 _ ?_
            refine XS.astore X175.here hx rfl (hb hby at_286) rfl rfl (l' := #[.val (.int p1), .val (.int p2), .val (.int p3), .val (.int p4), .val (.int p5), .val (.int (3 : Int32)), .val (.ref b1o), .val (.ref b121o), .val (.ref b140o), .val (.int (0 : Int32)), .val (.int (1 : Int32)), .val (.int (0 : Int32)), .val (.int (0 : Int32)), .val (.int (1 : Int32)), .val (.int (2 : Int32)), .val (.ref o175), .unset, .unset]) rfl ?_
            refine XS.iload X175.here hx rfl (hb hby at_288) rfl ?_
            refine XS.iload X175.here hx rfl (hb hby at_290) rfl ?_
            refine XS.icmpYes X175.here hx rfl (pc0 := 292) (pc' := 309) rfl (hb hby at_292) rfl (tlt (by decide)).1 (by decide) (by decide) ?_
            refine st177 _ ?_
            exact retN X177 hx (t := .boolean) Bd.returns (by simp) (hb hby at_443) hr
          · show Qrm0 Z p1 p2 p3 p4 p5 G1 gv eo h0 n0 _ T177.heap _
            exact ⟨rfl, N177⟩
        · have f181 := (f149.keep KC148 (allS b140 all0))
          obtain ⟨_, _, ⟨T180, Lq180, kq180, nq180⟩, -, X180, ⟨Lc180, hQ180, lq180, yq180, zq180⟩, st180⟩ := Jvm.LawKit.callS X163 hx (y := (⟨"com/example/wrasse/wrasse/io/CorrectionFormat", "wordOf", "(Ljava/lang/String;)Ljava/util/Optional;"⟩ : MethodName)) hown (mvT hZ (hw _ (own_w 27 rfl))) (mvT hZ (hw _ (own_w 28 rfl))) (mvT hZ (hw _ (own_w 29 rfl))) (mvT hZ (hw _ (own_w 30 rfl))) (by decide) (backOf (W := 0) (rWp l Z a0 hw [] b140o [r3, r6, r9] G1 gv 1 [r6, r9] T148.heap n0 Z148 f181 O_S hgv O_2 P5 O_A O_H O_W TS148 (Nat.le_of_ble_eq_true rfl) (own_cons hr3 (own_cons hr6 (own_cons hr9 own_nil))) (own_befS (P := fun k => (([r3, r6, r9] : List Int32).getD k 0 = (32 : Int32) ∨ ([r3, r6, r9] : List Int32).getD k 0 = (9 : Int32) ∨ ([r3, r6, r9] : List Int32).getD k 0 = (13 : Int32))) own_bef0 hB0) ⟨(Nat.le_of_ble_eq_true rfl), rfl⟩ (Nat.le_of_ble_eq_true rfl) hB1 hB2 own_aft0) hZ (hw _ (own_w 30 rfl)) (hw _ (own_w 29 rfl)) (by decide) (by decide)) (g := (mkF m 283 #[.val (.int p1), .val (.int p2), .val (.int p3), .val (.int p4), .val (.int p5), .val (.int (3 : Int32)), .val (.ref b1o), .val (.ref b121o), .val (.ref b140o), .val (.int (0 : Int32)), .val (.int (1 : Int32)), .val (.int (1 : Int32)), .val (.int (0 : Int32)), .val (.int (1 : Int32)), .val (.int (3 : Int32)), .unset, .unset, .unset] [(.ref b140o)])) rfl (by rw [hml]; rfl) (argsL := [(.ref b140o)]) (rest := []) (lenOf pd_33 rfl) rfl (by show 2 * 0 + _ ≤ _; exact Nat.le_of_eq rfl) (hb hby at_283) (fun _ _ => ⟨rfl, e163, (by decide : 5 + 4 ≤ _), (by decide : 35 + 29 ≤ _)⟩)
          dsimp only [Pt.U, Pt.locs, Pt.cells, Pt.slots] at X180 lq180 yq180 zq180 st180 hQ180
          subst lq180 yq180 zq180
          obtain ⟨o180, x180, rfl, N180q, KC180, uE180, uV180, TS180⟩ := hQ180
          have N180 := Fr.app N163 N180q
          have Z180 : n0 ≤ T180.heap.size := Nat.le_trans Z148 KC180.1
          have f183 := (f181.keep KC180 all0)
          have f184 := (f150.keep KC180 nin0)
          obtain ⟨T182, L182, X182, e182, N182, st182⟩ := own_tail (ct := [r6, r9]) (sq := 1) (vs := [(.int r3), (.int r6), (.int r9), (.int r12)]) (by decide) (by decide) (by decide) (by decide) hx hZ hw hby hml hown f183 O_S hgv O_2 P5 O_A O_H O_W Z180 TS180 (Nat.le_of_ble_eq_true rfl) (own_cons hr6 (own_cons hr9 own_nil)) uE180 uV180 f184 (Nat.le_of_ble_eq_true rfl) (by decide : 1 + 2 ≤ 4) (own_befS (P := fun k => ([.int r3, .int r6, .int r9, .int r12] : List Value).getD (1 + k) (.int (0 : Int32)) = .int (([r6, r9] : List Int32).getD k 0)) (own_befS (P := fun k => ([.int r3, .int r6, .int r9, .int r12] : List Value).getD (1 + k) (.int (0 : Int32)) = .int (([r6, r9] : List Int32).getD k 0)) own_bef0 rfl) rfl) _ _ X180 rfl N180
          obtain ⟨fs, hr, hrun, hended, hwd⟩ := Jvm.Stand.leaveW (s := s) (vm₁ := s.vm) X182 hS0 (Nat.le_trans (Nat.le_trans (Nat.le_trans (Nat.le_trans (Nat.le_trans (Nat.le_trans (Nat.le_trans (Nat.le_trans (Nat.le_trans (Nat.le_trans (Nat.le_trans (Nat.le_trans (Nat.le_trans (Nat.le_of_eq (congrArg Array.size hh)) E1.1) (Nat.le_of_eq W5.size.symm)) (Nat.le_of_eq W8.size.symm)) (Nat.le_of_eq W11.size.symm)) (Nat.le_of_eq W14.size.symm)) E121.1) (Nat.le_of_eq W129.size.symm)) (Nat.le_of_eq W134.size.symm)) (Nat.le_of_eq W139.size.symm)) E140.1) KC148.1) KC180.1) (Nat.le_of_eq (congrArg Array.size e182).symm)) (v := some (.int (1 : Int32))) (fun h => by rw [Bd.returns] at h; cases h)
          refine ⟨_, _, pre0 _ ?_, hrun, hended, _, _, rfl, ?_, hwd.1, hwd.2.1, hwd.2.2.1, hwd.2.2.2.mono (by decide) (by decide)⟩
          · refine pq166 _ ?_
            rw [(own_nbT hr153 hB0 hnb0_154), (own_nbF hr158 hB1 hnb1_159), (own_nbF hr163 hB2 hnb2_164)]
            refine own_blk X163 hx hby (1 : Int32) (3 : Int32) (by decide) (by decide) _ ?_
            refine XS.aload X163.here hx rfl (hb hby at_281) rfl rfl ?_
            refine st180 _ ?_
            refine XS.astore X180.here hx rfl (hb hby at_286) rfl rfl (l' := #[.val (.int p1), .val (.int p2), .val (.int p3), .val (.int p4), .val (.int p5), .val (.int (3 : Int32)), .val (.ref b1o), .val (.ref b121o), .val (.ref b140o), .val (.int (0 : Int32)), .val (.int (1 : Int32)), .val (.int (1 : Int32)), .val (.int (0 : Int32)), .val (.int (1 : Int32)), .val (.int (3 : Int32)), .val (.ref o180), .unset, .unset]) rfl ?_
            refine XS.iload X180.here hx rfl (hb hby at_288) rfl ?_
            refine XS.iload X180.here hx rfl (hb hby at_290) rfl ?_
            refine XS.icmpYes X180.here hx rfl (pc0 := 292) (pc' := 309) rfl (hb hby at_292) rfl (tlt (by decide)).1 (by decide) (by decide) ?_
            refine st182 _ ?_
            exact retN X182 hx (t := .boolean) Bd.returns (by simp) (hb hby at_443) hr
          · show Qrm0 Z p1 p2 p3 p4 p5 G1 gv eo h0 n0 _ T182.heap _
            exact ⟨rfl, N182⟩
    · by_cases hB1 : (r6 = (32 : Int32) ∨ r6 = (9 : Int32) ∨ r6 = (13 : Int32))
      · by_cases hB2 : (r9 = (32 : Int32) ∨ r9 = (9 : Int32) ∨ r9 = (13 : Int32))
        · have f186 := (f149.keep KC148 (allS b140 all0))
          obtain ⟨_, _, ⟨T185, Lq185, kq185, nq185⟩, -, X185, ⟨Lc185, hQ185, lq185, yq185, zq185⟩, st185⟩ := Jvm.LawKit.callS X163 hx (y := (⟨"com/example/wrasse/wrasse/io/CorrectionFormat", "wordOf", "(Ljava/lang/String;)Ljava/util/Optional;"⟩ : MethodName)) hown (mvT hZ (hw _ (own_w 27 rfl))) (mvT hZ (hw _ (own_w 28 rfl))) (mvT hZ (hw _ (own_w 29 rfl))) (mvT hZ (hw _ (own_w 30 rfl))) (by decide) (backOf (W := 0) (rWp l Z a0 hw [] b140o [r3, r6, r9] G1 gv 0 [r3] T148.heap n0 Z148 f186 O_S hgv O_2 P5 O_A O_H O_W TS148 (Nat.le_of_ble_eq_true rfl) (own_cons hr3 (own_cons hr6 (own_cons hr9 own_nil))) own_bef0 ⟨(Nat.le_of_ble_eq_true rfl), rfl⟩ (Nat.le_of_ble_eq_true rfl) hB0 hB0 (own_aftS (P := fun k => (([r3, r6, r9] : List Int32).getD k 0 = (32 : Int32) ∨ ([r3, r6, r9] : List Int32).getD k 0 = (9 : Int32) ∨ ([r3, r6, r9] : List Int32).getD k 0 = (13 : Int32))) (e := 1) (n := 3) (own_aftS (P := fun k => (([r3, r6, r9] : List Int32).getD k 0 = (32 : Int32) ∨ ([r3, r6, r9] : List Int32).getD k 0 = (9 : Int32) ∨ ([r3, r6, r9] : List Int32).getD k 0 = (13 : Int32))) (e := 2) (n := 3) own_aft0 hB2) hB1)) hZ (hw _ (own_w 30 rfl)) (hw _ (own_w 29 rfl)) (by decide) (by decide)) (g := (mkF m 283 #[.val (.int p1), .val (.int p2), .val (.int p3), .val (.int p4), .val (.int p5), .val (.int (3 : Int32)), .val (.ref b1o), .val (.ref b121o), .val (.ref b140o), .val (.int (1 : Int32)), .val (.int (0 : Int32)), .val (.int (0 : Int32)), .val (.int (0 : Int32)), .val (.int (0 : Int32)), .val (.int (1 : Int32)), .unset, .unset, .unset] [(.ref b140o)])) rfl (by rw [hml]; rfl) (argsL := [(.ref b140o)]) (rest := []) (lenOf pd_33 rfl) rfl (by show 2 * 0 + _ ≤ _; exact Nat.le_of_eq rfl) (hb hby at_283) (fun _ _ => ⟨rfl, e163, (by decide : 5 + 4 ≤ _), (by decide : 35 + 29 ≤ _)⟩)
          dsimp only [Pt.U, Pt.locs, Pt.cells, Pt.slots] at X185 lq185 yq185 zq185 st185 hQ185
          subst lq185 yq185 zq185
          obtain ⟨o185, x185, rfl, N185q, KC185, uE185, uV185, TS185⟩ := hQ185
          have N185 := Fr.app N163 N185q
          have Z185 : n0 ≤ T185.heap.size := Nat.le_trans Z148 KC185.1
          have f188 := (f186.keep KC185 all0)
          have f189 := (f150.keep KC185 nin0)
          obtain ⟨T187, L187, X187, e187, N187, st187⟩ := own_tail (ct := [r3]) (sq := 0) (vs := [(.int r3), (.int r6), (.int r9), (.int r12)]) (by decide) (by decide) (by decide) (by decide) hx hZ hw hby hml hown f188 O_S hgv O_2 P5 O_A O_H O_W Z185 TS185 (Nat.le_of_ble_eq_true rfl) (own_cons hr3 own_nil) uE185 uV185 f189 (Nat.le_of_ble_eq_true rfl) (by decide : 0 + 1 ≤ 4) (own_befS (P := fun k => ([.int r3, .int r6, .int r9, .int r12] : List Value).getD (0 + k) (.int (0 : Int32)) = .int (([r3] : List Int32).getD k 0)) own_bef0 rfl) _ _ X185 rfl N185
          obtain ⟨fs, hr, hrun, hended, hwd⟩ := Jvm.Stand.leaveW (s := s) (vm₁ := s.vm) X187 hS0 (Nat.le_trans (Nat.le_trans (Nat.le_trans (Nat.le_trans (Nat.le_trans (Nat.le_trans (Nat.le_trans (Nat.le_trans (Nat.le_trans (Nat.le_trans (Nat.le_trans (Nat.le_trans (Nat.le_trans (Nat.le_of_eq (congrArg Array.size hh)) E1.1) (Nat.le_of_eq W5.size.symm)) (Nat.le_of_eq W8.size.symm)) (Nat.le_of_eq W11.size.symm)) (Nat.le_of_eq W14.size.symm)) E121.1) (Nat.le_of_eq W129.size.symm)) (Nat.le_of_eq W134.size.symm)) (Nat.le_of_eq W139.size.symm)) E140.1) KC148.1) KC185.1) (Nat.le_of_eq (congrArg Array.size e187).symm)) (v := some (.int (1 : Int32))) (fun h => by rw [Bd.returns] at h; cases h)
          refine ⟨_, _, pre0 _ ?_, hrun, hended, _, _, rfl, ?_, hwd.1, hwd.2.1, hwd.2.2.1, hwd.2.2.2.mono (by decide) (by decide)⟩
          · refine pq166 _ ?_
            rw [(own_nbF hr153 hB0 hnb0_154), (own_nbT hr158 hB1 hnb1_159), (own_nbT hr163 hB2 hnb2_164)]
            refine own_blk X163 hx hby (0 : Int32) (1 : Int32) (by decide) (by decide) _ ?_
            refine XS.aload X163.here hx rfl (hb hby at_281) rfl rfl ?_
            refine st185 _ ?_
            refine XS.astore X185.here hx rfl (hb hby at_286) rfl rfl (l' := #[.val (.int p1), .val (.int p2), .val (.int p3), .val (.int p4), .val (.int p5), .val (.int (3 : Int32)), .val (.ref b1o), .val (.ref b121o), .val (.ref b140o), .val (.int (1 : Int32)), .val (.int (0 : Int32)), .val (.int (0 : Int32)), .val (.int (0 : Int32)), .val (.int (0 : Int32)), .val (.int (1 : Int32)), .val (.ref o185), .unset, .unset]) rfl ?_
            refine XS.iload X185.here hx rfl (hb hby at_288) rfl ?_
            refine XS.iload X185.here hx rfl (hb hby at_290) rfl ?_
            refine XS.icmpYes X185.here hx rfl (pc0 := 292) (pc' := 309) rfl (hb hby at_292) rfl (tlt (by decide)).1 (by decide) (by decide) ?_
            refine st187 _ ?_
            exact retN X187 hx (t := .boolean) Bd.returns (by simp) (hb hby at_443) hr
          · show Qrm0 Z p1 p2 p3 p4 p5 G1 gv eo h0 n0 _ T187.heap _
            exact ⟨rfl, N187⟩
        · have f191 := (f149.keep KC148 (allS b140 all0))
          obtain ⟨_, _, ⟨T190, Lq190, kq190, nq190⟩, -, X190, ⟨Lc190, hQ190, lq190, yq190, zq190⟩, st190⟩ := Jvm.LawKit.callS X163 hx (y := (⟨"com/example/wrasse/wrasse/io/CorrectionFormat", "wordOf", "(Ljava/lang/String;)Ljava/util/Optional;"⟩ : MethodName)) hown (mvT hZ (hw _ (own_w 27 rfl))) (mvT hZ (hw _ (own_w 28 rfl))) (mvT hZ (hw _ (own_w 29 rfl))) (mvT hZ (hw _ (own_w 30 rfl))) (by decide) (backOf (W := 0) (rWp l Z a0 hw [] b140o [r3, r6, r9] G1 gv 0 [r3, r6, r9] T148.heap n0 Z148 f191 O_S hgv O_2 P5 O_A O_H O_W TS148 (Nat.le_of_ble_eq_true rfl) (own_cons hr3 (own_cons hr6 (own_cons hr9 own_nil))) own_bef0 ⟨(Nat.le_of_ble_eq_true rfl), rfl⟩ (Nat.le_of_ble_eq_true rfl) hB0 hB2 own_aft0) hZ (hw _ (own_w 30 rfl)) (hw _ (own_w 29 rfl)) (by decide) (by decide)) (g := (mkF m 283 #[.val (.int p1), .val (.int p2), .val (.int p3), .val (.int p4), .val (.int p5), .val (.int (3 : Int32)), .val (.ref b1o), .val (.ref b121o), .val (.ref b140o), .val (.int (1 : Int32)), .val (.int (0 : Int32)), .val (.int (1 : Int32)), .val (.int (0 : Int32)), .val (.int (0 : Int32)), .val (.int (3 : Int32)), .unset, .unset, .unset] [(.ref b140o)])) rfl (by rw [hml]; rfl) (argsL := [(.ref b140o)]) (rest := []) (lenOf pd_33 rfl) rfl (by show 2 * 0 + _ ≤ _; exact Nat.le_of_eq rfl) (hb hby at_283) (fun _ _ => ⟨rfl, e163, (by decide : 5 + 4 ≤ _), (by decide : 35 + 29 ≤ _)⟩)
          dsimp only [Pt.U, Pt.locs, Pt.cells, Pt.slots] at X190 lq190 yq190 zq190 st190 hQ190
          subst lq190 yq190 zq190
          obtain ⟨o190, x190, rfl, N190q, KC190, uE190, uV190, TS190⟩ := hQ190
          have N190 := Fr.app N163 N190q
          have Z190 : n0 ≤ T190.heap.size := Nat.le_trans Z148 KC190.1
          have f193 := (f191.keep KC190 all0)
          have f194 := (f150.keep KC190 nin0)
          obtain ⟨T192, L192, X192, e192, N192, st192⟩ := own_tail (ct := [r3, r6, r9]) (sq := 0) (vs := [(.int r3), (.int r6), (.int r9), (.int r12)]) (by decide) (by decide) (by decide) (by decide) hx hZ hw hby hml hown f193 O_S hgv O_2 P5 O_A O_H O_W Z190 TS190 (Nat.le_of_ble_eq_true rfl) (own_cons hr3 (own_cons hr6 (own_cons hr9 own_nil))) uE190 uV190 f194 (Nat.le_of_ble_eq_true rfl) (by decide : 0 + 3 ≤ 4) (own_befS (P := fun k => ([.int r3, .int r6, .int r9, .int r12] : List Value).getD (0 + k) (.int (0 : Int32)) = .int (([r3, r6, r9] : List Int32).getD k 0)) (own_befS (P := fun k => ([.int r3, .int r6, .int r9, .int r12] : List Value).getD (0 + k) (.int (0 : Int32)) = .int (([r3, r6, r9] : List Int32).getD k 0)) (own_befS (P := fun k => ([.int r3, .int r6, .int r9, .int r12] : List Value).getD (0 + k) (.int (0 : Int32)) = .int (([r3, r6, r9] : List Int32).getD k 0)) own_bef0 rfl) rfl) rfl) _ _ X190 rfl N190
          obtain ⟨fs, hr, hrun, hended, hwd⟩ := Jvm.Stand.leaveW (s := s) (vm₁ := s.vm) X192 hS0 (Nat.le_trans (Nat.le_trans (Nat.le_trans (Nat.le_trans (Nat.le_trans (Nat.le_trans (Nat.le_trans (Nat.le_trans (Nat.le_trans (Nat.le_trans (Nat.le_trans (Nat.le_trans (Nat.le_trans (Nat.le_of_eq (congrArg Array.size hh)) E1.1) (Nat.le_of_eq W5.size.symm)) (Nat.le_of_eq W8.size.symm)) (Nat.le_of_eq W11.size.symm)) (Nat.le_of_eq W14.size.symm)) E121.1) (Nat.le_of_eq W129.size.symm)) (Nat.le_of_eq W134.size.symm)) (Nat.le_of_eq W139.size.symm)) E140.1) KC148.1) KC190.1) (Nat.le_of_eq (congrArg Array.size e192).symm)) (v := some (.int (1 : Int32))) (fun h => by rw [Bd.returns] at h; cases h)
          refine ⟨_, _, pre0 _ ?_, hrun, hended, _, _, rfl, ?_, hwd.1, hwd.2.1, hwd.2.2.1, hwd.2.2.2.mono (by decide) (by decide)⟩
          · refine pq166 _ ?_
            rw [(own_nbF hr153 hB0 hnb0_154), (own_nbT hr158 hB1 hnb1_159), (own_nbF hr163 hB2 hnb2_164)]
            refine own_blk X163 hx hby (0 : Int32) (3 : Int32) (by decide) (by decide) _ ?_
            refine XS.aload X163.here hx rfl (hb hby at_281) rfl rfl ?_
            refine st190 _ ?_
            refine XS.astore X190.here hx rfl (hb hby at_286) rfl rfl (l' := #[.val (.int p1), .val (.int p2), .val (.int p3), .val (.int p4), .val (.int p5), .val (.int (3 : Int32)), .val (.ref b1o), .val (.ref b121o), .val (.ref b140o), .val (.int (1 : Int32)), .val (.int (0 : Int32)), .val (.int (1 : Int32)), .val (.int (0 : Int32)), .val (.int (0 : Int32)), .val (.int (3 : Int32)), .val (.ref o190), .unset, .unset]) rfl ?_
            refine XS.iload X190.here hx rfl (hb hby at_288) rfl ?_
            refine XS.iload X190.here hx rfl (hb hby at_290) rfl ?_
            refine XS.icmpYes X190.here hx rfl (pc0 := 292) (pc' := 309) rfl (hb hby at_292) rfl (tlt (by decide)).1 (by decide) (by decide) ?_
            refine st192 _ ?_
            exact retN X192 hx (t := .boolean) Bd.returns (by simp) (hb hby at_443) hr
          · show Qrm0 Z p1 p2 p3 p4 p5 G1 gv eo h0 n0 _ T192.heap _
            exact ⟨rfl, N192⟩
      · by_cases hB2 : (r9 = (32 : Int32) ∨ r9 = (9 : Int32) ∨ r9 = (13 : Int32))
        · have f196 := (f149.keep KC148 (allS b140 all0))
          obtain ⟨_, _, ⟨T195, Lq195, kq195, nq195⟩, -, X195, ⟨Lc195, hQ195, lq195, yq195, zq195⟩, st195⟩ := Jvm.LawKit.callS X163 hx (y := (⟨"com/example/wrasse/wrasse/io/CorrectionFormat", "wordOf", "(Ljava/lang/String;)Ljava/util/Optional;"⟩ : MethodName)) hown (mvT hZ (hw _ (own_w 27 rfl))) (mvT hZ (hw _ (own_w 28 rfl))) (mvT hZ (hw _ (own_w 29 rfl))) (mvT hZ (hw _ (own_w 30 rfl))) (by decide) (backOf (W := 0) (rWp l Z a0 hw [] b140o [r3, r6, r9] G1 gv 0 [r3, r6] T148.heap n0 Z148 f196 O_S hgv O_2 P5 O_A O_H O_W TS148 (Nat.le_of_ble_eq_true rfl) (own_cons hr3 (own_cons hr6 (own_cons hr9 own_nil))) own_bef0 ⟨(Nat.le_of_ble_eq_true rfl), rfl⟩ (Nat.le_of_ble_eq_true rfl) hB0 hB1 (own_aftS (P := fun k => (([r3, r6, r9] : List Int32).getD k 0 = (32 : Int32) ∨ ([r3, r6, r9] : List Int32).getD k 0 = (9 : Int32) ∨ ([r3, r6, r9] : List Int32).getD k 0 = (13 : Int32))) (e := 2) (n := 3) own_aft0 hB2)) hZ (hw _ (own_w 30 rfl)) (hw _ (own_w 29 rfl)) (by decide) (by decide)) (g := (mkF m 283 #[.val (.int p1), .val (.int p2), .val (.int p3), .val (.int p4), .val (.int p5), .val (.int (3 : Int32)), .val (.ref b1o), .val (.ref b121o), .val (.ref b140o), .val (.int (1 : Int32)), .val (.int (1 : Int32)), .val (.int (0 : Int32)), .val (.int (0 : Int32)), .val (.int (0 : Int32)), .val (.int (2 : Int32)), .unset, .unset, .unset] [(.ref b140o)])) rfl (by rw [hml]; rfl) (argsL := [(.ref b140o)]) (rest := []) (lenOf pd_33 rfl) rfl (by show 2 * 0 + _ ≤ _; exact Nat.le_of_eq rfl) (hb hby at_283) (fun _ _ => ⟨rfl, e163, (by decide : 5 + 4 ≤ _), (by decide : 35 + 29 ≤ _)⟩)
          dsimp only [Pt.U, Pt.locs, Pt.cells, Pt.slots] at X195 lq195 yq195 zq195 st195 hQ195
          subst lq195 yq195 zq195
          obtain ⟨o195, x195, rfl, N195q, KC195, uE195, uV195, TS195⟩ := hQ195
          have N195 := Fr.app N163 N195q
          have Z195 : n0 ≤ T195.heap.size := Nat.le_trans Z148 KC195.1
          have f198 := (f196.keep KC195 all0)
          have f199 := (f150.keep KC195 nin0)
          obtain ⟨T197, L197, X197, e197, N197, st197⟩ := own_tail (ct := [r3, r6]) (sq := 0) (vs := [(.int r3), (.int r6), (.int r9), (.int r12)]) (by decide) (by decide) (by decide) (by decide) hx hZ hw hby hml hown f198 O_S hgv O_2 P5 O_A O_H O_W Z195 TS195 (Nat.le_of_ble_eq_true rfl) (own_cons hr3 (own_cons hr6 own_nil)) uE195 uV195 f199 (Nat.le_of_ble_eq_true rfl) (by decide : 0 + 2 ≤ 4) (own_befS (P := fun k => ([.int r3, .int r6, .int r9, .int r12] : List Value).getD (0 + k) (.int (0 : Int32)) = .int (([r3, r6] : List Int32).getD k 0)) (own_befS (P := fun k => ([.int r3, .int r6, .int r9, .int r12] : List Value).getD (0 + k) (.int (0 : Int32)) = .int (([r3, r6] : List Int32).getD k 0)) own_bef0 rfl) rfl) _ _ X195 rfl N195
          obtain ⟨fs, hr, hrun, hended, hwd⟩ := Jvm.Stand.leaveW (s := s) (vm₁ := s.vm) X197 hS0 (Nat.le_trans (Nat.le_trans (Nat.le_trans (Nat.le_trans (Nat.le_trans (Nat.le_trans (Nat.le_trans (Nat.le_trans (Nat.le_trans (Nat.le_trans (Nat.le_trans (Nat.le_trans (Nat.le_trans (Nat.le_of_eq (congrArg Array.size hh)) E1.1) (Nat.le_of_eq W5.size.symm)) (Nat.le_of_eq W8.size.symm)) (Nat.le_of_eq W11.size.symm)) (Nat.le_of_eq W14.size.symm)) E121.1) (Nat.le_of_eq W129.size.symm)) (Nat.le_of_eq W134.size.symm)) (Nat.le_of_eq W139.size.symm)) E140.1) KC148.1) KC195.1) (Nat.le_of_eq (congrArg Array.size e197).symm)) (v := some (.int (1 : Int32))) (fun h => by rw [Bd.returns] at h; cases h)
          refine ⟨_, _, pre0 _ ?_, hrun, hended, _, _, rfl, ?_, hwd.1, hwd.2.1, hwd.2.2.1, hwd.2.2.2.mono (by decide) (by decide)⟩
          · refine pq166 _ ?_
            rw [(own_nbF hr153 hB0 hnb0_154), (own_nbF hr158 hB1 hnb1_159), (own_nbT hr163 hB2 hnb2_164)]
            refine own_blk X163 hx hby (0 : Int32) (2 : Int32) (by decide) (by decide) _ ?_
            refine XS.aload X163.here hx rfl (hb hby at_281) rfl rfl ?_
            refine st195 _ ?_
            refine XS.astore X195.here hx rfl (hb hby at_286) rfl rfl (l' := #[.val (.int p1), .val (.int p2), .val (.int p3), .val (.int p4), .val (.int p5), .val (.int (3 : Int32)), .val (.ref b1o), .val (.ref b121o), .val (.ref b140o), .val (.int (1 : Int32)), .val (.int (1 : Int32)), .val (.int (0 : Int32)), .val (.int (0 : Int32)), .val (.int (0 : Int32)), .val (.int (2 : Int32)), .val (.ref o195), .unset, .unset]) rfl ?_
            refine XS.iload X195.here hx rfl (hb hby at_288) rfl ?_
            refine XS.iload X195.here hx rfl (hb hby at_290) rfl ?_
            refine XS.icmpYes X195.here hx rfl (pc0 := 292) (pc' := 309) rfl (hb hby at_292) rfl (tlt (by decide)).1 (by decide) (by decide) ?_
            refine st197 _ ?_
            exact retN X197 hx (t := .boolean) Bd.returns (by simp) (hb hby at_443) hr
          · show Qrm0 Z p1 p2 p3 p4 p5 G1 gv eo h0 n0 _ T197.heap _
            exact ⟨rfl, N197⟩
        · have f201 := (f149.keep KC148 (allS b140 all0))
          obtain ⟨_, _, ⟨T200, Lq200, kq200, nq200⟩, -, X200, ⟨Lc200, hQ200, lq200, yq200, zq200⟩, st200⟩ := Jvm.LawKit.callS X163 hx (y := (⟨"com/example/wrasse/wrasse/io/CorrectionFormat", "wordOf", "(Ljava/lang/String;)Ljava/util/Optional;"⟩ : MethodName)) hown (mvT hZ (hw _ (own_w 27 rfl))) (mvT hZ (hw _ (own_w 28 rfl))) (mvT hZ (hw _ (own_w 29 rfl))) (mvT hZ (hw _ (own_w 30 rfl))) (by decide) (backOf (W := 0) (rWp l Z a0 hw [] b140o [r3, r6, r9] G1 gv 0 [r3, r6, r9] T148.heap n0 Z148 f201 O_S hgv O_2 P5 O_A O_H O_W TS148 (Nat.le_of_ble_eq_true rfl) (own_cons hr3 (own_cons hr6 (own_cons hr9 own_nil))) own_bef0 ⟨(Nat.le_of_ble_eq_true rfl), rfl⟩ (Nat.le_of_ble_eq_true rfl) hB0 hB2 own_aft0) hZ (hw _ (own_w 30 rfl)) (hw _ (own_w 29 rfl)) (by decide) (by decide)) (g := (mkF m 283 #[.val (.int p1), .val (.int p2), .val (.int p3), .val (.int p4), .val (.int p5), .val (.int (3 : Int32)), .val (.ref b1o), .val (.ref b121o), .val (.ref b140o), .val (.int (1 : Int32)), .val (.int (1 : Int32)), .val (.int (1 : Int32)), .val (.int (0 : Int32)), .val (.int (0 : Int32)), .val (.int (3 : Int32)), .unset, .unset, .unset] [(.ref b140o)])) rfl (by rw [hml]; rfl) (argsL := [(.ref b140o)]) (rest := []) (lenOf pd_33 rfl) rfl (by show 2 * 0 + _ ≤ _; exact Nat.le_of_eq rfl) (hb hby at_283) (fun _ _ => ⟨rfl, e163, (by decide : 5 + 4 ≤ _), (by decide : 35 + 29 ≤ _)⟩)
          dsimp only [Pt.U, Pt.locs, Pt.cells, Pt.slots] at X200 lq200 yq200 zq200 st200 hQ200
          subst lq200 yq200 zq200
          obtain ⟨o200, x200, rfl, N200q, KC200, uE200, uV200, TS200⟩ := hQ200
          have N200 := Fr.app N163 N200q
          have Z200 : n0 ≤ T200.heap.size := Nat.le_trans Z148 KC200.1
          have f203 := (f201.keep KC200 all0)
          have f204 := (f150.keep KC200 nin0)
          obtain ⟨T202, L202, X202, e202, N202, st202⟩ := own_tail (ct := [r3, r6, r9]) (sq := 0) (vs := [(.int r3), (.int r6), (.int r9), (.int r12)]) (by decide) (by decide) (by decide) (by decide) hx hZ hw hby hml hown f203 O_S hgv O_2 P5 O_A O_H O_W Z200 TS200 (Nat.le_of_ble_eq_true rfl) (own_cons hr3 (own_cons hr6 (own_cons hr9 own_nil))) uE200 uV200 f204 (Nat.le_of_ble_eq_true rfl) (by decide : 0 + 3 ≤ 4) (own_befS (P := fun k => ([.int r3, .int r6, .int r9, .int r12] : List Value).getD (0 + k) (.int (0 : Int32)) = .int (([r3, r6, r9] : List Int32).getD k 0)) (own_befS (P := fun k => ([.int r3, .int r6, .int r9, .int r12] : List Value).getD (0 + k) (.int (0 : Int32)) = .int (([r3, r6, r9] : List Int32).getD k 0)) (own_befS (P := fun k => ([.int r3, .int r6, .int r9, .int r12] : List Value).getD (0 + k) (.int (0 : Int32)) = .int (([r3, r6, r9] : List Int32).getD k 0)) own_bef0 rfl) rfl) rfl) _ _ X200 rfl N200
          obtain ⟨fs, hr, hrun, hended, hwd⟩ := Jvm.Stand.leaveW (s := s) (vm₁ := s.vm) X202 hS0 (Nat.le_trans (Nat.le_trans (Nat.le_trans (Nat.le_trans (Nat.le_trans (Nat.le_trans (Nat.le_trans (Nat.le_trans (Nat.le_trans (Nat.le_trans (Nat.le_trans (Nat.le_trans (Nat.le_trans (Nat.le_of_eq (congrArg Array.size hh)) E1.1) (Nat.le_of_eq W5.size.symm)) (Nat.le_of_eq W8.size.symm)) (Nat.le_of_eq W11.size.symm)) (Nat.le_of_eq W14.size.symm)) E121.1) (Nat.le_of_eq W129.size.symm)) (Nat.le_of_eq W134.size.symm)) (Nat.le_of_eq W139.size.symm)) E140.1) KC148.1) KC200.1) (Nat.le_of_eq (congrArg Array.size e202).symm)) (v := some (.int (1 : Int32))) (fun h => by rw [Bd.returns] at h; cases h)
          refine ⟨_, _, pre0 _ ?_, hrun, hended, _, _, rfl, ?_, hwd.1, hwd.2.1, hwd.2.2.1, hwd.2.2.2.mono (by decide) (by decide)⟩
          · refine pq166 _ ?_
            rw [(own_nbF hr153 hB0 hnb0_154), (own_nbF hr158 hB1 hnb1_159), (own_nbF hr163 hB2 hnb2_164)]
            refine own_blk X163 hx hby (0 : Int32) (3 : Int32) (by decide) (by decide) _ ?_
            refine XS.aload X163.here hx rfl (hb hby at_281) rfl rfl ?_
            refine st200 _ ?_
            refine XS.astore X200.here hx rfl (hb hby at_286) rfl rfl (l' := #[.val (.int p1), .val (.int p2), .val (.int p3), .val (.int p4), .val (.int p5), .val (.int (3 : Int32)), .val (.ref b1o), .val (.ref b121o), .val (.ref b140o), .val (.int (1 : Int32)), .val (.int (1 : Int32)), .val (.int (1 : Int32)), .val (.int (0 : Int32)), .val (.int (0 : Int32)), .val (.int (3 : Int32)), .val (.ref o200), .unset, .unset]) rfl ?_
            refine XS.iload X200.here hx rfl (hb hby at_288) rfl ?_
            refine XS.iload X200.here hx rfl (hb hby at_290) rfl ?_
            refine XS.icmpYes X200.here hx rfl (pc0 := 292) (pc' := 309) rfl (hb hby at_292) rfl (tlt (by decide)).1 (by decide) (by decide) ?_
            refine st202 _ ?_
            exact retN X202 hx (t := .boolean) Bd.returns (by simp) (hb hby at_443) hr
          · show Qrm0 Z p1 p2 p3 p4 p5 G1 gv eo h0 n0 _ T202.heap _
            exact ⟨rfl, N202⟩
  · skip
    obtain ⟨T205, h205, ck205, X205, e205, E205, A205, st205⟩ := newP X14 hx hZ (hw _ (own_w 0 rfl)) e14 (g := (mkF m 48 #[.val (.int p1), .val (.int p2), .val (.int p3), .val (.int p4), .val (.int p5), .val (.int (4 : Int32)), .val (.ref b1o), .unset, .unset, .unset, .unset, .unset, .unset, .unset, .unset, .unset, .unset, .unset] [(.int (4 : Int32))])) rfl (hb hby at_48) rfl (by decide) (cap := 4) (by decide) (by decide) (by decide) (by decide)
    obtain ⟨b205o, g205⟩ : ∃ z, z = h14.size := ⟨_, rfl⟩
    have b205 : n0 ≤ b205o := Nat.le_trans Z14 (Nat.le_of_eq g205.symm)
    have f206 := (((((X00.ext E1).wr W5 b1).wr W8 b1).wr W11 b1).wr W14 b1)
    have ne207 : eo ≠ b205o := Nat.ne_of_lt (Nat.lt_of_lt_of_le (O_EE.ext f206.2).lt (Nat.le_of_eq g205.symm))
    have ne208 : b1o ≠ b205o := Nat.ne_of_lt (Nat.lt_of_lt_of_le VA.lt (Nat.le_of_eq g205.symm))
    rw [← g205] at A205 st205
    have Z205 : n0 ≤ h205.size := Nat.le_trans Z14 E205.1
    have V205 : Arv Z h205 b205o ck205 .char (4 : Int32) [(.int (0 : Int32)), (.int (0 : Int32)), (.int (0 : Int32)), (.int (0 : Int32))] (.int (0 : Int32)) := (Arv.new A205 (by decide)).pad (pad_rep [] (.int (0 : Int32)) 4)
    have f209 := (VA.ext E205)
    obtain ⟨cl210, Ar210, qk210, Sz210, Nn210, Hh210, Gg210⟩ := id (f209)
    have hin211 : ¬ ((0 : Int32) < 0 ∨ cl210.slots.size ≤ ((0 : Int32)).toNatClampNeg) := inb_of Sz210 ⟨by decide, by decide⟩
    have hat211 : cl210.slots[((0 : Int32)).toNatClampNeg]? = some (.int r3) := Has.at Hh210 hin211 rfl
    obtain ⟨cl212, Ar212, qk212, Sz212, Nn212, Hh212, Gg212⟩ := id (V205)
    have hin213 : ¬ ((0 : Int32) < 0 ∨ cl212.slots.size ≤ ((0 : Int32)).toNatClampNeg) := inb_of Sz212 ⟨by decide, by decide⟩
    obtain ⟨T213, h213, X213, e213, W213, st213⟩ := stC X205 hx hZ e205 Ar212 (j := (0 : Int32)) hin213  (g := (mkF m 64 #[.val (.int p1), .val (.int p2), .val (.int p3), .val (.int p4), .val (.int p5), .val (.int (4 : Int32)), .val (.ref b1o), .val (.ref b205o), .unset, .unset, .unset, .unset, .unset, .unset, .unset, .unset, .unset, .unset] [(.int r3), (.int (0 : Int32)), (.ref b205o)])) rfl rfl (hb hby at_64)
    have N213 := Fr.snoc X213 N14 b205
    have Z213 : n0 ≤ h213.size := by rw [W213.size]; exact Z205
    have V213 : Arv Z h213 b205o ck205 .char (4 : Int32) [(.int (nar .char r3)), (.int (0 : Int32)), (.int (0 : Int32)), (.int (0 : Int32))] (.int (0 : Int32)) := Arv.set Ar212 qk212 Sz212 Nn212 Hh212 Gg212 (fits_nar_char _) W213 0 rfl (Nat.le_of_ble_eq_true rfl)
    have f214 := (f209.other W213 ne208)
    obtain ⟨cl215, Ar215, qk215, Sz215, Nn215, Hh215, Gg215⟩ := id (f214)
    have hin216 : ¬ ((1 : Int32) < 0 ∨ cl215.slots.size ≤ ((1 : Int32)).toNatClampNeg) := inb_of Sz215 ⟨by decide, by decide⟩
    have hat216 : cl215.slots[((1 : Int32)).toNatClampNeg]? = some (.int r6) := Has.at Hh215 hin216 rfl
    obtain ⟨cl217, Ar217, qk217, Sz217, Nn217, Hh217, Gg217⟩ := id (V213)
    have hin218 : ¬ ((1 : Int32) < 0 ∨ cl217.slots.size ≤ ((1 : Int32)).toNatClampNeg) := inb_of Sz217 ⟨by decide, by decide⟩
    obtain ⟨T218, h218, X218, e218, W218, st218⟩ := stC X213 hx hZ e213 Ar217 (j := (1 : Int32)) hin218  (g := (mkF m 78 #[.val (.int p1), .val (.int p2), .val (.int p3), .val (.int p4), .val (.int p5), .val (.int (4 : Int32)), .val (.ref b1o), .val (.ref b205o), .unset, .unset, .unset, .unset, .unset, .unset, .unset, .unset, .unset, .unset] [(.int r6), (.int (1 : Int32)), (.ref b205o)])) rfl rfl (hb hby at_78)
    have N218 := Fr.snoc X218 N213 b205
    have Z218 : n0 ≤ h218.size := by rw [W218.size]; exact Z213
    have V218 : Arv Z h218 b205o ck205 .char (4 : Int32) [(.int (nar .char r3)), (.int (nar .char r6)), (.int (0 : Int32)), (.int (0 : Int32))] (.int (0 : Int32)) := Arv.set Ar217 qk217 Sz217 Nn217 Hh217 Gg217 (fits_nar_char _) W218 1 rfl (Nat.le_of_ble_eq_true rfl)
    have f219 := (f214.other W218 ne208)
    obtain ⟨cl220, Ar220, qk220, Sz220, Nn220, Hh220, Gg220⟩ := id (f219)
    have hin221 : ¬ ((2 : Int32) < 0 ∨ cl220.slots.size ≤ ((2 : Int32)).toNatClampNeg) := inb_of Sz220 ⟨by decide, by decide⟩
    have hat221 : cl220.slots[((2 : Int32)).toNatClampNeg]? = some (.int r9) := Has.at Hh220 hin221 rfl
    obtain ⟨cl222, Ar222, qk222, Sz222, Nn222, Hh222, Gg222⟩ := id (V218)
    have hin223 : ¬ ((2 : Int32) < 0 ∨ cl222.slots.size ≤ ((2 : Int32)).toNatClampNeg) := inb_of Sz222 ⟨by decide, by decide⟩
    obtain ⟨T223, h223, X223, e223, W223, st223⟩ := stC X218 hx hZ e218 Ar222 (j := (2 : Int32)) hin223  (g := (mkF m 92 #[.val (.int p1), .val (.int p2), .val (.int p3), .val (.int p4), .val (.int p5), .val (.int (4 : Int32)), .val (.ref b1o), .val (.ref b205o), .unset, .unset, .unset, .unset, .unset, .unset, .unset, .unset, .unset, .unset] [(.int r9), (.int (2 : Int32)), (.ref b205o)])) rfl rfl (hb hby at_92)
    have N223 := Fr.snoc X223 N218 b205
    have Z223 : n0 ≤ h223.size := by rw [W223.size]; exact Z218
    have V223 : Arv Z h223 b205o ck205 .char (4 : Int32) [(.int (nar .char r3)), (.int (nar .char r6)), (.int (nar .char r9)), (.int (0 : Int32))] (.int (0 : Int32)) := Arv.set Ar222 qk222 Sz222 Nn222 Hh222 Gg222 (fits_nar_char _) W223 2 rfl (Nat.le_of_ble_eq_true rfl)
    have f224 := (f219.other W223 ne208)
    obtain ⟨cl225, Ar225, qk225, Sz225, Nn225, Hh225, Gg225⟩ := id (f224)
    have hin226 : ¬ ((3 : Int32) < 0 ∨ cl225.slots.size ≤ ((3 : Int32)).toNatClampNeg) := inb_of Sz225 ⟨by decide, by decide⟩
    have hat226 : cl225.slots[((3 : Int32)).toNatClampNeg]? = some (.int r12) := Has.at Hh225 hin226 rfl
    obtain ⟨cl227, Ar227, qk227, Sz227, Nn227, Hh227, Gg227⟩ := id (V223)
    have hin228 : ¬ ((3 : Int32) < 0 ∨ cl227.slots.size ≤ ((3 : Int32)).toNatClampNeg) := inb_of Sz227 ⟨by decide, by decide⟩
    obtain ⟨T228, h228, X228, e228, W228, st228⟩ := stC X223 hx hZ e223 Ar227 (j := (3 : Int32)) hin228  (g := (mkF m 106 #[.val (.int p1), .val (.int p2), .val (.int p3), .val (.int p4), .val (.int p5), .val (.int (4 : Int32)), .val (.ref b1o), .val (.ref b205o), .unset, .unset, .unset, .unset, .unset, .unset, .unset, .unset, .unset, .unset] [(.int r12), (.int (3 : Int32)), (.ref b205o)])) rfl rfl (hb hby at_106)
    have N228 := Fr.snoc X228 N223 b205
    have Z228 : n0 ≤ h228.size := by rw [W228.size]; exact Z223
    have V228 : Arv Z h228 b205o ck205 .char (4 : Int32) [(.int (nar .char r3)), (.int (nar .char r6)), (.int (nar .char r9)), (.int (nar .char r12))] (.int (0 : Int32)) := Arv.set Ar227 qk227 Sz227 Nn227 Hh227 Gg227 (fits_nar_char _) W228 3 rfl (Nat.le_of_ble_eq_true rfl)
    obtain ⟨T229, h229, X229, e229, E229, A229, D229, -, st229⟩ := newO X228 hx hZ hown (hw _ (own_w 6 rfl)) (hw _ (own_w 7 rfl)) (hw _ (own_w 8 rfl)) e228 (g := (mkF m 107 #[.val (.int p1), .val (.int p2), .val (.int p3), .val (.int p4), .val (.int p5), .val (.int (4 : Int32)), .val (.ref b1o), .val (.ref b205o), .unset, .unset, .unset, .unset, .unset, .unset, .unset, .unset, .unset, .unset] [])) rfl (hb hby at_107) (by decide) (by decide)
    obtain ⟨b229o, g229⟩ : ∃ z, z = h228.size := ⟨_, rfl⟩
    have b229 : n0 ≤ b229o := Nat.le_trans Z228 (Nat.le_of_eq g229.symm)
    have f230 := (((((f206.ext E205).wr W213 b205).wr W218 b205).wr W223 b205).wr W228 b205)
    have ne231 : eo ≠ b229o := Nat.ne_of_lt (Nat.lt_of_lt_of_le (O_EE.ext f230.2).lt (Nat.le_of_eq g229.symm))
    have f232 := (f224.other W228 ne208)
    have ne233 : b1o ≠ b229o := Nat.ne_of_lt (Nat.lt_of_lt_of_le f232.lt (Nat.le_of_eq g229.symm))
    have ne234 : b205o ≠ b229o := Nat.ne_of_lt (Nat.lt_of_lt_of_le V228.lt (Nat.le_of_eq g229.symm))
    rw [← g229] at A229 D229 st229
    have Z229 : n0 ≤ h229.size := Nat.le_trans Z228 E229.1
    have F229_21 : Fld Z h229 b229o "java/lang/String" "value" "[B" .null := D229 (Or.inr (hw _ (own_w 21 rfl))) (ty := (.array .byte)) (by decide)
    have F229_22 : Fld Z h229 b229o "java/lang/String" "coder" "B" (.int (0 : Int32)) := D229 (Or.inr (hw _ (own_w 22 rfl))) (ty := .byte) (by decide)
    have f235 := (V228.ext E229)
    have VB236 := f235
    rw [own_ncc hr3, own_ncc hr6, own_ncc hr9, own_ncc hr12] at VB236
    have f238 := (f230.ext E229)
    obtain ⟨_, _, ⟨T237, Lq237, kq237, nq237⟩, -, X237, ⟨Lc237, hQ237, lq237, yq237, zq237⟩, st237⟩ := X229.specialBack hx (y := (⟨"java/lang/String", "<init>", "([C)V"⟩ : MethodName)) rfl hown (mvT hZ (hw _ (own_w 9 rfl))) (mvT hZ (hw _ (own_w 10 rfl))) (mvT hZ (hw _ (own_w 11 rfl))) (by decide) (backOf (W := 1) (rI1 l Z a0 hw [] b229o b205o [r3, r6, r9, r12] ck205 G1 h229 n0 Z229 A229 F229_21 F229_22 b229 f238 O_2 P5 O_A O_H O_W VB236 (Nat.le_of_ble_eq_true rfl) (Nat.le_of_ble_eq_true rfl) (own_cons hr3 (own_cons hr6 (own_cons hr9 (own_cons hr12 own_nil)))) (Ne.symm ne234)) hZ (hw _ (own_w 11 rfl)) (hw _ (own_w 8 rfl)) (by decide) (by decide)) (g := (mkF m 113 #[.val (.int p1), .val (.int p2), .val (.int p3), .val (.int p4), .val (.int p5), .val (.int (4 : Int32)), .val (.ref b1o), .val (.ref b205o), .unset, .unset, .unset, .unset, .unset, .unset, .unset, .unset, .unset, .unset] [(.ref b205o), (.ref b229o), (.ref b229o)])) rfl (by rw [hml]; rfl) (Steps.refl _) (a := b229o) (argsL := [(.ref b205o)]) (rest := [(.ref b229o)]) (lenOf pd_32 rfl) rfl (by show 2 * 0 + _ ≤ _; exact Nat.le_of_eq rfl) (hb hby at_113) (fun _ _ => ⟨rfl, e229, (by decide : 3 + 2 ≤ _), (by decide : 12 + 24 ≤ _)⟩)
    dsimp only [Pt.U, Pt.locs, Pt.cells, Pt.slots] at X237 lq237 yq237 zq237 st237 hQ237
    subst lq237 yq237 zq237
    obtain ⟨rfl, N237q, KC237, TS237⟩ := hQ237
    have N237 := Fr.app N228 N237q
    have Z237 : n0 ≤ T237.heap.size := Nat.le_trans Z229 KC237.1
    have f239 := ((f232.ext E229).keep KC237 (ninS ne233 nin0))
    obtain ⟨cl240, Ar240, qk240, Sz240, Nn240, Hh240, Gg240⟩ := id (f239)
    have hin241 : ¬ ((0 : Int32) < 0 ∨ cl240.slots.size ≤ ((0 : Int32)).toNatClampNeg) := inb_of Sz240 ⟨by decide, by decide⟩
    have hat241 : cl240.slots[((0 : Int32)).toNatClampNeg]? = some (.int r3) := Has.at Hh240 hin241 rfl
    obtain ⟨_, _, ⟨T242, Lq242, kq242, nq242⟩, -, X242, ⟨Lc242, hQ242, lq242, yq242, zq242⟩, st242⟩ := Jvm.LawKit.callS X237 hx (y := (⟨"com/example/wrasse/wrasse/io/CorrectionFormatWordOfPinLaw", "bl", "(C)Z"⟩ : MethodName)) hown (mvT hZ (hw _ (own_w 64 rfl))) (mvT hZ (hw _ (own_w 65 rfl))) (mvT hZ (hw _ (own_w 3 rfl))) (mvT hZ (hw _ (own_w 66 rfl))) (by decide) (backOf (W := 0) (rBl l Z a0 hw [] r3  T237.heap n0 Z237 ) hZ (hw _ (own_w 66 rfl)) (hw _ (own_w 3 rfl)) (by decide) (by decide)) (g := (mkF m 128 #[.val (.int p1), .val (.int p2), .val (.int p3), .val (.int p4), .val (.int p5), .val (.int (4 : Int32)), .val (.ref b1o), .val (.ref b205o), .val (.ref b229o), .unset, .unset, .unset, .unset, .unset, .unset, .unset, .unset, .unset] [(.int r3)])) rfl (by rw [hml]; rfl) (argsL := [(.int r3)]) (rest := []) (lenOf pd_27 rfl) rfl (by show 2 * 0 + _ ≤ _; exact Nat.le_of_eq rfl) (hb hby at_128) (fun _ _ => ⟨rfl, rfl, (by decide : 5 + 0 ≤ _), (by decide : 36 + 0 ≤ _)⟩)
    dsimp only [Pt.U, Pt.locs, Pt.cells, Pt.slots] at X242 lq242 yq242 zq242 st242 hQ242
    subst lq242 yq242 zq242
    obtain ⟨r242, hr242, rfl, N242q, e242⟩ := hQ242
    have N242 := Fr.app N237 N242q
    obtain ⟨nb0_243, hnb0_243⟩ : ∃ z : Int32, z = (if r242 = (0 : Int32) then (1 : Int32) else (0 : Int32)) := ⟨_, rfl⟩
    have sg244 : ∀ tg0, Steps p.tables e below (T242.setTop (mkF m 139 #[.val (.int p1), .val (.int p2), .val (.int p3), .val (.int p4), .val (.int p5), .val (.int (4 : Int32)), .val (.ref b1o), .val (.ref b205o), .val (.ref b229o), .unset, .unset, .unset, .unset, .unset, .unset, .unset, .unset, .unset] [(.int nb0_243)])) tg0 → Steps p.tables e below (T242.setTop (mkF m 131 #[.val (.int p1), .val (.int p2), .val (.int p3), .val (.int p4), .val (.int p5), .val (.int (4 : Int32)), .val (.ref b1o), .val (.ref b205o), .val (.ref b229o), .unset, .unset, .unset, .unset, .unset, .unset, .unset, .unset, .unset] [(.int r242)])) tg0 := by
      intro tg0 kt
      by_cases hj244_131 : r242 = (0 : Int32)
      · rw [if_pos hj244_131] at hnb0_243
        rw [hnb0_243] at kt
        refine XS.ifNo X242.here hx rfl (hb hby at_131) rfl ((if0 _ _).trans (teq hj244_131).2) ?_
        refine XS.iconst X242.here hx rfl (hb hby at_134) ?_
        refine XS.goto X242.here hx rfl (pc0 := 135) (pc' := 139) rfl (hb hby at_135) (by decide) (by decide) ?_
        exact kt
      · rw [if_neg hj244_131] at hnb0_243
        rw [hnb0_243] at kt
        refine XS.ifYes X242.here hx rfl (pc0 := 131) (pc' := 138) rfl (hb hby at_131) rfl ((if0 _ _).trans (feq hj244_131).2) (by decide) (by decide) ?_
        refine XS.iconst X242.here hx rfl (hb hby at_138) ?_
        exact kt
    obtain ⟨cl245, Ar245, qk245, Sz245, Nn245, Hh245, Gg245⟩ := id (f239)
    have hin246 : ¬ ((1 : Int32) < 0 ∨ cl245.slots.size ≤ ((1 : Int32)).toNatClampNeg) := inb_of Sz245 ⟨by decide, by decide⟩
    have hat246 : cl245.slots[((1 : Int32)).toNatClampNeg]? = some (.int r6) := Has.at Hh245 hin246 rfl
    obtain ⟨_, _, ⟨T247, Lq247, kq247, nq247⟩, -, X247, ⟨Lc247, hQ247, lq247, yq247, zq247⟩, st247⟩ := Jvm.LawKit.callS X242 hx (y := (⟨"com/example/wrasse/wrasse/io/CorrectionFormatWordOfPinLaw", "bl", "(C)Z"⟩ : MethodName)) hown (mvT hZ (hw _ (own_w 64 rfl))) (mvT hZ (hw _ (own_w 65 rfl))) (mvT hZ (hw _ (own_w 3 rfl))) (mvT hZ (hw _ (own_w 66 rfl))) (by decide) (backOf (W := 0) (rBl l Z a0 hw [] r6  T237.heap n0 Z237 ) hZ (hw _ (own_w 66 rfl)) (hw _ (own_w 3 rfl)) (by decide) (by decide)) (g := (mkF m 151 #[.val (.int p1), .val (.int p2), .val (.int p3), .val (.int p4), .val (.int p5), .val (.int (4 : Int32)), .val (.ref b1o), .val (.ref b205o), .val (.ref b229o), .val (.int nb0_243), .unset, .unset, .unset, .unset, .unset, .unset, .unset, .unset] [(.int r6)])) rfl (by rw [hml]; rfl) (argsL := [(.int r6)]) (rest := []) (lenOf pd_27 rfl) rfl (by show 2 * 0 + _ ≤ _; exact Nat.le_of_eq rfl) (hb hby at_151) (fun _ _ => ⟨rfl, e242, (by decide : 5 + 0 ≤ _), (by decide : 36 + 0 ≤ _)⟩)
    dsimp only [Pt.U, Pt.locs, Pt.cells, Pt.slots] at X247 lq247 yq247 zq247 st247 hQ247
    subst lq247 yq247 zq247
    obtain ⟨r247, hr247, rfl, N247q, e247⟩ := hQ247
    have N247 := Fr.app N242 N247q
    obtain ⟨nb1_248, hnb1_248⟩ : ∃ z : Int32, z = (if r247 = (0 : Int32) then (1 : Int32) else (0 : Int32)) := ⟨_, rfl⟩
    have sg249 : ∀ tg0, Steps p.tables e below (T247.setTop (mkF m 162 #[.val (.int p1), .val (.int p2), .val (.int p3), .val (.int p4), .val (.int p5), .val (.int (4 : Int32)), .val (.ref b1o), .val (.ref b205o), .val (.ref b229o), .val (.int nb0_243), .unset, .unset, .unset, .unset, .unset, .unset, .unset, .unset] [(.int nb1_248)])) tg0 → Steps p.tables e below (T247.setTop (mkF m 154 #[.val (.int p1), .val (.int p2), .val (.int p3), .val (.int p4), .val (.int p5), .val (.int (4 : Int32)), .val (.ref b1o), .val (.ref b205o), .val (.ref b229o), .val (.int nb0_243), .unset, .unset, .unset, .unset, .unset, .unset, .unset, .unset] [(.int r247)])) tg0 := by
      intro tg0 kt
      by_cases hj249_154 : r247 = (0 : Int32)
      · rw [if_pos hj249_154] at hnb1_248
        rw [hnb1_248] at kt
        refine XS.ifNo X247.here hx rfl (hb hby at_154) rfl ((if0 _ _).trans (teq hj249_154).2) ?_
        refine XS.iconst X247.here hx rfl (hb hby at_157) ?_
        refine XS.goto X247.here hx rfl (pc0 := 158) (pc' := 162) rfl (hb hby at_158) (by decide) (by decide) ?_
        exact kt
      · rw [if_neg hj249_154] at hnb1_248
        rw [hnb1_248] at kt
        refine XS.ifYes X247.here hx rfl (pc0 := 154) (pc' := 161) rfl (hb hby at_154) rfl ((if0 _ _).trans (feq hj249_154).2) (by decide) (by decide) ?_
        refine XS.iconst X247.here hx rfl (hb hby at_161) ?_
        exact kt
    obtain ⟨cl250, Ar250, qk250, Sz250, Nn250, Hh250, Gg250⟩ := id (f239)
    have hin251 : ¬ ((2 : Int32) < 0 ∨ cl250.slots.size ≤ ((2 : Int32)).toNatClampNeg) := inb_of Sz250 ⟨by decide, by decide⟩
    have hat251 : cl250.slots[((2 : Int32)).toNatClampNeg]? = some (.int r9) := Has.at Hh250 hin251 rfl
    obtain ⟨_, _, ⟨T252, Lq252, kq252, nq252⟩, -, X252, ⟨Lc252, hQ252, lq252, yq252, zq252⟩, st252⟩ := Jvm.LawKit.callS X247 hx (y := (⟨"com/example/wrasse/wrasse/io/CorrectionFormatWordOfPinLaw", "bl", "(C)Z"⟩ : MethodName)) hown (mvT hZ (hw _ (own_w 64 rfl))) (mvT hZ (hw _ (own_w 65 rfl))) (mvT hZ (hw _ (own_w 3 rfl))) (mvT hZ (hw _ (own_w 66 rfl))) (by decide) (backOf (W := 0) (rBl l Z a0 hw [] r9  T237.heap n0 Z237 ) hZ (hw _ (own_w 66 rfl)) (hw _ (own_w 3 rfl)) (by decide) (by decide)) (g := (mkF m 174 #[.val (.int p1), .val (.int p2), .val (.int p3), .val (.int p4), .val (.int p5), .val (.int (4 : Int32)), .val (.ref b1o), .val (.ref b205o), .val (.ref b229o), .val (.int nb0_243), .val (.int nb1_248), .unset, .unset, .unset, .unset, .unset, .unset, .unset] [(.int r9)])) rfl (by rw [hml]; rfl) (argsL := [(.int r9)]) (rest := []) (lenOf pd_27 rfl) rfl (by show 2 * 0 + _ ≤ _; exact Nat.le_of_eq rfl) (hb hby at_174) (fun _ _ => ⟨rfl, e247, (by decide : 5 + 0 ≤ _), (by decide : 36 + 0 ≤ _)⟩)
    dsimp only [Pt.U, Pt.locs, Pt.cells, Pt.slots] at X252 lq252 yq252 zq252 st252 hQ252
    subst lq252 yq252 zq252
    obtain ⟨r252, hr252, rfl, N252q, e252⟩ := hQ252
    have N252 := Fr.app N247 N252q
    obtain ⟨nb2_253, hnb2_253⟩ : ∃ z : Int32, z = (if r252 = (0 : Int32) then (1 : Int32) else (0 : Int32)) := ⟨_, rfl⟩
    have sg254 : ∀ tg0, Steps p.tables e below (T252.setTop (mkF m 185 #[.val (.int p1), .val (.int p2), .val (.int p3), .val (.int p4), .val (.int p5), .val (.int (4 : Int32)), .val (.ref b1o), .val (.ref b205o), .val (.ref b229o), .val (.int nb0_243), .val (.int nb1_248), .unset, .unset, .unset, .unset, .unset, .unset, .unset] [(.int nb2_253)])) tg0 → Steps p.tables e below (T252.setTop (mkF m 177 #[.val (.int p1), .val (.int p2), .val (.int p3), .val (.int p4), .val (.int p5), .val (.int (4 : Int32)), .val (.ref b1o), .val (.ref b205o), .val (.ref b229o), .val (.int nb0_243), .val (.int nb1_248), .unset, .unset, .unset, .unset, .unset, .unset, .unset] [(.int r252)])) tg0 := by
      intro tg0 kt
      by_cases hj254_177 : r252 = (0 : Int32)
      · rw [if_pos hj254_177] at hnb2_253
        rw [hnb2_253] at kt
        refine XS.ifNo X252.here hx rfl (hb hby at_177) rfl ((if0 _ _).trans (teq hj254_177).2) ?_
        refine XS.iconst X252.here hx rfl (hb hby at_180) ?_
        refine XS.goto X252.here hx rfl (pc0 := 181) (pc' := 185) rfl (hb hby at_181) (by decide) (by decide) ?_
        exact kt
      · rw [if_neg hj254_177] at hnb2_253
        rw [hnb2_253] at kt
        refine XS.ifYes X252.here hx rfl (pc0 := 177) (pc' := 184) rfl (hb hby at_177) rfl ((if0 _ _).trans (feq hj254_177).2) (by decide) (by decide) ?_
        refine XS.iconst X252.here hx rfl (hb hby at_184) ?_
        exact kt
    obtain ⟨cl255, Ar255, qk255, Sz255, Nn255, Hh255, Gg255⟩ := id (f239)
    have hin256 : ¬ ((3 : Int32) < 0 ∨ cl255.slots.size ≤ ((3 : Int32)).toNatClampNeg) := inb_of Sz255 ⟨by decide, by decide⟩
    have hat256 : cl255.slots[((3 : Int32)).toNatClampNeg]? = some (.int r12) := Has.at Hh255 hin256 rfl
    obtain ⟨_, _, ⟨T257, Lq257, kq257, nq257⟩, -, X257, ⟨Lc257, hQ257, lq257, yq257, zq257⟩, st257⟩ := Jvm.LawKit.callS X252 hx (y := (⟨"com/example/wrasse/wrasse/io/CorrectionFormatWordOfPinLaw", "bl", "(C)Z"⟩ : MethodName)) hown (mvT hZ (hw _ (own_w 64 rfl))) (mvT hZ (hw _ (own_w 65 rfl))) (mvT hZ (hw _ (own_w 3 rfl))) (mvT hZ (hw _ (own_w 66 rfl))) (by decide) (backOf (W := 0) (rBl l Z a0 hw [] r12  T237.heap n0 Z237 ) hZ (hw _ (own_w 66 rfl)) (hw _ (own_w 3 rfl)) (by decide) (by decide)) (g := (mkF m 197 #[.val (.int p1), .val (.int p2), .val (.int p3), .val (.int p4), .val (.int p5), .val (.int (4 : Int32)), .val (.ref b1o), .val (.ref b205o), .val (.ref b229o), .val (.int nb0_243), .val (.int nb1_248), .val (.int nb2_253), .unset, .unset, .unset, .unset, .unset, .unset] [(.int r12)])) rfl (by rw [hml]; rfl) (argsL := [(.int r12)]) (rest := []) (lenOf pd_27 rfl) rfl (by show 2 * 0 + _ ≤ _; exact Nat.le_of_eq rfl) (hb hby at_197) (fun _ _ => ⟨rfl, e252, (by decide : 5 + 0 ≤ _), (by decide : 36 + 0 ≤ _)⟩)
    dsimp only [Pt.U, Pt.locs, Pt.cells, Pt.slots] at X257 lq257 yq257 zq257 st257 hQ257
    subst lq257 yq257 zq257
    obtain ⟨r257, hr257, rfl, N257q, e257⟩ := hQ257
    have N257 := Fr.app N252 N257q
    obtain ⟨nb3_258, hnb3_258⟩ : ∃ z : Int32, z = (if r257 = (0 : Int32) then (1 : Int32) else (0 : Int32)) := ⟨_, rfl⟩
    have sg259 : ∀ tg0, Steps p.tables e below (T257.setTop (mkF m 208 #[.val (.int p1), .val (.int p2), .val (.int p3), .val (.int p4), .val (.int p5), .val (.int (4 : Int32)), .val (.ref b1o), .val (.ref b205o), .val (.ref b229o), .val (.int nb0_243), .val (.int nb1_248), .val (.int nb2_253), .unset, .unset, .unset, .unset, .unset, .unset] [(.int nb3_258)])) tg0 → Steps p.tables e below (T257.setTop (mkF m 200 #[.val (.int p1), .val (.int p2), .val (.int p3), .val (.int p4), .val (.int p5), .val (.int (4 : Int32)), .val (.ref b1o), .val (.ref b205o), .val (.ref b229o), .val (.int nb0_243), .val (.int nb1_248), .val (.int nb2_253), .unset, .unset, .unset, .unset, .unset, .unset] [(.int r257)])) tg0 := by
      intro tg0 kt
      by_cases hj259_200 : r257 = (0 : Int32)
      · rw [if_pos hj259_200] at hnb3_258
        rw [hnb3_258] at kt
        refine XS.ifNo X257.here hx rfl (hb hby at_200) rfl ((if0 _ _).trans (teq hj259_200).2) ?_
        refine XS.iconst X257.here hx rfl (hb hby at_203) ?_
        refine XS.goto X257.here hx rfl (pc0 := 204) (pc' := 208) rfl (hb hby at_204) (by decide) (by decide) ?_
        exact kt
      · rw [if_neg hj259_200] at hnb3_258
        rw [hnb3_258] at kt
        refine XS.ifYes X257.here hx rfl (pc0 := 200) (pc' := 207) rfl (hb hby at_200) rfl ((if0 _ _).trans (feq hj259_200).2) (by decide) (by decide) ?_
        refine XS.iconst X257.here hx rfl (hb hby at_207) ?_
        exact kt
    have pq260 : ∀ t, Steps p.tables e below (T257.setTop (mkF m 210 #[.val (.int p1), .val (.int p2), .val (.int p3), .val (.int p4), .val (.int p5), .val (.int (4 : Int32)), .val (.ref b1o), .val (.ref b205o), .val (.ref b229o), .val (.int nb0_243), .val (.int nb1_248), .val (.int nb2_253), .val (.int nb3_258), .unset, .unset, .unset, .unset, .unset] [])) t → Steps p.tables e below (s₁.setTop (mkF m 0 #[.val (.int p1), .val (.int p2), .val (.int p3), .val (.int p4), .val (.int p5), .unset, .unset, .unset, .unset, .unset, .unset, .unset, .unset, .unset, .unset, .unset, .unset, .unset] [])) t := by
      intro t kt
      refine pq15 _ ?_
      show Steps p.tables e below (T14.setTop (mkF m 46 #[.val (.int p1), .val (.int p2), .val (.int p3), .val (.int p4), .val (.int p5), .val (.int ((p5 &&& (7 : Int32)) % (5 : Int32))), .val (.ref b1o), .unset, .unset, .unset, .unset, .unset, .unset, .unset, .unset, .unset, .unset, .unset] [])) _
      rw [hI]
      refine XS.iload X14.here hx rfl (hb hby at_46) rfl ?_
      refine st205 _ ?_
      refine XS.astore X205.here hx rfl (hb hby at_50) rfl rfl (l' := #[.val (.int p1), .val (.int p2), .val (.int p3), .val (.int p4), .val (.int p5), .val (.int (4 : Int32)), .val (.ref b1o), .val (.ref b205o), .unset, .unset, .unset, .unset, .unset, .unset, .unset, .unset, .unset, .unset]) rfl ?_
      refine XS.iload X205.here hx rfl (hb hby at_52) rfl ?_
      refine XS.ifNo X205.here hx rfl (hb hby at_54) rfl ((if0 _ _).trans (tlt (by decide)).2.2.2) ?_
      refine XS.aload X205.here hx rfl (hb hby at_57) rfl rfl ?_
      refine XS.iconst X205.here hx rfl (hb hby at_59) ?_
      refine XS.aload X205.here hx rfl (hb hby at_60) rfl rfl ?_
      refine XS.iconst X205.here hx rfl (hb hby at_62) ?_
      refine X205.caload hx (j := (0 : Int32)) (v := (.int r3)) (by rw [e205]; exact Ar210.1) (State.isArrayOf_alike hZ.alike Ar210.2.1) Ar210.2.2 hin211 hat211 (g := (mkF m 63 #[.val (.int p1), .val (.int p2), .val (.int p3), .val (.int p4), .val (.int p5), .val (.int (4 : Int32)), .val (.ref b1o), .val (.ref b205o), .unset, .unset, .unset, .unset, .unset, .unset, .unset, .unset, .unset, .unset] [(.int (0 : Int32)), (.ref b1o), (.int (0 : Int32)), (.ref b205o)])) rfl rfl (hb hby at_63) _ ?_
      refine st213 _ ?_
      refine XS.iload X213.here hx rfl (hb hby at_65) rfl ?_
      refine XS.iconst X213.here hx rfl (hb hby at_67) ?_
      refine XS.icmpNo X213.here hx rfl (hb hby at_68) rfl (tlt (by decide)).2.2.2 ?_
      refine XS.aload X213.here hx rfl (hb hby at_71) rfl rfl ?_
      refine XS.iconst X213.here hx rfl (hb hby at_73) ?_
      refine XS.aload X213.here hx rfl (hb hby at_74) rfl rfl ?_
      refine XS.iconst X213.here hx rfl (hb hby at_76) ?_
      refine X213.caload hx (j := (1 : Int32)) (v := (.int r6)) (by rw [e213]; exact Ar215.1) (State.isArrayOf_alike hZ.alike Ar215.2.1) Ar215.2.2 hin216 hat216 (g := (mkF m 77 #[.val (.int p1), .val (.int p2), .val (.int p3), .val (.int p4), .val (.int p5), .val (.int (4 : Int32)), .val (.ref b1o), .val (.ref b205o), .unset, .unset, .unset, .unset, .unset, .unset, .unset, .unset, .unset, .unset] [(.int (1 : Int32)), (.ref b1o), (.int (1 : Int32)), (.ref b205o)])) rfl rfl (hb hby at_77) _ ?_
      refine st218 _ ?_
      refine XS.iload X218.here hx rfl (hb hby at_79) rfl ?_
      refine XS.iconst X218.here hx rfl (hb hby at_81) ?_
      refine XS.icmpNo X218.here hx rfl (hb hby at_82) rfl (tlt (by decide)).2.2.2 ?_
      refine XS.aload X218.here hx rfl (hb hby at_85) rfl rfl ?_
      refine XS.iconst X218.here hx rfl (hb hby at_87) ?_
      refine XS.aload X218.here hx rfl (hb hby at_88) rfl rfl ?_
      refine XS.iconst X218.here hx rfl (hb hby at_90) ?_
      refine X218.caload hx (j := (2 : Int32)) (v := (.int r9)) (by rw [e218]; exact Ar220.1) (State.isArrayOf_alike hZ.alike Ar220.2.1) Ar220.2.2 hin221 hat221 (g := (mkF m 91 #[.val (.int p1), .val (.int p2), .val (.int p3), .val (.int p4), .val (.int p5), .val (.int (4 : Int32)), .val (.ref b1o), .val (.ref b205o), .unset, .unset, .unset, .unset, .unset, .unset, .unset, .unset, .unset, .unset] [(.int (2 : Int32)), (.ref b1o), (.int (2 : Int32)), (.ref b205o)])) rfl rfl (hb hby at_91) _ ?_
      refine st223 _ ?_
      refine XS.iload X223.here hx rfl (hb hby at_93) rfl ?_
      refine XS.iconst X223.here hx rfl (hb hby at_95) ?_
      refine XS.icmpNo X223.here hx rfl (hb hby at_96) rfl (tlt (by decide)).2.2.2 ?_
      refine XS.aload X223.here hx rfl (hb hby at_99) rfl rfl ?_
      refine XS.iconst X223.here hx rfl (hb hby at_101) ?_
      refine XS.aload X223.here hx rfl (hb hby at_102) rfl rfl ?_
      refine XS.iconst X223.here hx rfl (hb hby at_104) ?_
      refine X223.caload hx (j := (3 : Int32)) (v := (.int r12)) (by rw [e223]; exact Ar225.1) (State.isArrayOf_alike hZ.alike Ar225.2.1) Ar225.2.2 hin226 hat226 (g := (mkF m 105 #[.val (.int p1), .val (.int p2), .val (.int p3), .val (.int p4), .val (.int p5), .val (.int (4 : Int32)), .val (.ref b1o), .val (.ref b205o), .unset, .unset, .unset, .unset, .unset, .unset, .unset, .unset, .unset, .unset] [(.int (3 : Int32)), (.ref b1o), (.int (3 : Int32)), (.ref b205o)])) rfl rfl (hb hby at_105) _ ?_
      refine st228 _ ?_
      refine st229 _ ?_
      refine XS.dup X229.here hx rfl (hb hby at_110) rfl rfl ?_
      show Steps p.tables e below (T229.setTop (mkF m 111 #[.val (.int p1), .val (.int p2), .val (.int p3), .val (.int p4), .val (.int p5), .val (.int (4 : Int32)), .val (.ref b1o), .val (.ref b205o), .unset, .unset, .unset, .unset, .unset, .unset, .unset, .unset, .unset, .unset] [(.ref b229o), (.ref b229o)])) _
      refine XS.aload X229.here hx rfl (hb hby at_111) rfl rfl ?_
      refine st237.trans ?_
      refine XS.astore X237.here hx rfl (hb hby at_116) rfl rfl (l' := #[.val (.int p1), .val (.int p2), .val (.int p3), .val (.int p4), .val (.int p5), .val (.int (4 : Int32)), .val (.ref b1o), .val (.ref b205o), .val (.ref b229o), .unset, .unset, .unset, .unset, .unset, .unset, .unset, .unset, .unset]) rfl ?_
      refine XS.iconst X237.here hx rfl (hb hby at_118) ?_
      refine XS.iload X237.here hx rfl (hb hby at_119) rfl ?_
      refine XS.icmpNo X237.here hx rfl (hb hby at_121) rfl (tlt (by decide)).2.1 ?_
      refine XS.aload X237.here hx rfl (hb hby at_124) rfl rfl ?_
      refine XS.iconst X237.here hx rfl (hb hby at_126) ?_
      refine X237.caload hx (j := (0 : Int32)) (v := (.int r3)) Ar240.1 (State.isArrayOf_alike hZ.alike Ar240.2.1) Ar240.2.2 hin241 hat241 (g := (mkF m 127 #[.val (.int p1), .val (.int p2), .val (.int p3), .val (.int p4), .val (.int p5), .val (.int (4 : Int32)), .val (.ref b1o), .val (.ref b205o), .val (.ref b229o), .unset, .unset, .unset, .unset, .unset, .unset, .unset, .unset, .unset] [(.int (0 : Int32)), (.ref b1o)])) rfl rfl (hb hby at_127) _ ?_
      refine st242 _ ?_
      refine sg244 _ ?_
      refine XS.istore X242.here hx rfl (hb hby at_139) rfl (l' := #[.val (.int p1), .val (.int p2), .val (.int p3), .val (.int p4), .val (.int p5), .val (.int (4 : Int32)), .val (.ref b1o), .val (.ref b205o), .val (.ref b229o), .val (.int nb0_243), .unset, .unset, .unset, .unset, .unset, .unset, .unset, .unset]) rfl ?_
      refine XS.iconst X242.here hx rfl (hb hby at_141) ?_
      refine XS.iload X242.here hx rfl (hb hby at_142) rfl ?_
      refine XS.icmpNo X242.here hx rfl (hb hby at_144) rfl (tlt (by decide)).2.1 ?_
      refine XS.aload X242.here hx rfl (hb hby at_147) rfl rfl ?_
      refine XS.iconst X242.here hx rfl (hb hby at_149) ?_
      refine X242.caload hx (j := (1 : Int32)) (v := (.int r6)) (by rw [e242]; exact Ar245.1) (State.isArrayOf_alike hZ.alike Ar245.2.1) Ar245.2.2 hin246 hat246 (g := (mkF m 150 #[.val (.int p1), .val (.int p2), .val (.int p3), .val (.int p4), .val (.int p5), .val (.int (4 : Int32)), .val (.ref b1o), .val (.ref b205o), .val (.ref b229o), .val (.int nb0_243), .unset, .unset, .unset, .unset, .unset, .unset, .unset, .unset] [(.int (1 : Int32)), (.ref b1o)])) rfl rfl (hb hby at_150) _ ?_
      refine st247 _ ?_
      refine sg249 _ ?_
      refine XS.istore X247.here hx rfl (hb hby at_162) rfl (l' := #[.val (.int p1), .val (.int p2), .val (.int p3), .val (.int p4), .val (.int p5), .val (.int (4 : Int32)), .val (.ref b1o), .val (.ref b205o), .val (.ref b229o), .val (.int nb0_243), .val (.int nb1_248), .unset, .unset, .unset, .unset, .unset, .unset, .unset]) rfl ?_
      refine XS.iconst X247.here hx rfl (hb hby at_164) ?_
      refine XS.iload X247.here hx rfl (hb hby at_165) rfl ?_
      refine XS.icmpNo X247.here hx rfl (hb hby at_167) rfl (tlt (by decide)).2.1 ?_
      refine XS.aload X247.here hx rfl (hb hby at_170) rfl rfl ?_
      refine XS.iconst X247.here hx rfl (hb hby at_172) ?_
      refine X247.caload hx (j := (2 : Int32)) (v := (.int r9)) (by rw [e247]; exact Ar250.1) (State.isArrayOf_alike hZ.alike Ar250.2.1) Ar250.2.2 hin251 hat251 (g := (mkF m 173 #[.val (.int p1), .val (.int p2), .val (.int p3), .val (.int p4), .val (.int p5), .val (.int (4 : Int32)), .val (.ref b1o), .val (.ref b205o), .val (.ref b229o), .val (.int nb0_243), .val (.int nb1_248), .unset, .unset, .unset, .unset, .unset, .unset, .unset] [(.int (2 : Int32)), (.ref b1o)])) rfl rfl (hb hby at_173) _ ?_
      refine st252 _ ?_
      refine sg254 _ ?_
      refine XS.istore X252.here hx rfl (hb hby at_185) rfl (l' := #[.val (.int p1), .val (.int p2), .val (.int p3), .val (.int p4), .val (.int p5), .val (.int (4 : Int32)), .val (.ref b1o), .val (.ref b205o), .val (.ref b229o), .val (.int nb0_243), .val (.int nb1_248), .val (.int nb2_253), .unset, .unset, .unset, .unset, .unset, .unset]) rfl ?_
      refine XS.iconst X252.here hx rfl (hb hby at_187) ?_
      refine XS.iload X252.here hx rfl (hb hby at_188) rfl ?_
      refine XS.icmpNo X252.here hx rfl (hb hby at_190) rfl (tlt (by decide)).2.1 ?_
      refine XS.aload X252.here hx rfl (hb hby at_193) rfl rfl ?_
      refine XS.iconst X252.here hx rfl (hb hby at_195) ?_
      refine X252.caload hx (j := (3 : Int32)) (v := (.int r12)) (by rw [e252]; exact Ar255.1) (State.isArrayOf_alike hZ.alike Ar255.2.1) Ar255.2.2 hin256 hat256 (g := (mkF m 196 #[.val (.int p1), .val (.int p2), .val (.int p3), .val (.int p4), .val (.int p5), .val (.int (4 : Int32)), .val (.ref b1o), .val (.ref b205o), .val (.ref b229o), .val (.int nb0_243), .val (.int nb1_248), .val (.int nb2_253), .unset, .unset, .unset, .unset, .unset, .unset] [(.int (3 : Int32)), (.ref b1o)])) rfl rfl (hb hby at_196) _ ?_
      refine st257 _ ?_
      refine sg259 _ ?_
      refine XS.istore X257.here hx rfl (hb hby at_208) rfl (l' := #[.val (.int p1), .val (.int p2), .val (.int p3), .val (.int p4), .val (.int p5), .val (.int (4 : Int32)), .val (.ref b1o), .val (.ref b205o), .val (.ref b229o), .val (.int nb0_243), .val (.int nb1_248), .val (.int nb2_253), .val (.int nb3_258), .unset, .unset, .unset, .unset, .unset]) rfl ?_
      exact kt
    by_cases hB0 : (r3 = (32 : Int32) ∨ r3 = (9 : Int32) ∨ r3 = (13 : Int32))
    · by_cases hB1 : (r6 = (32 : Int32) ∨ r6 = (9 : Int32) ∨ r6 = (13 : Int32))
      · by_cases hB2 : (r9 = (32 : Int32) ∨ r9 = (9 : Int32) ∨ r9 = (13 : Int32))
        · by_cases hB3 : (r12 = (32 : Int32) ∨ r12 = (9 : Int32) ∨ r12 = (13 : Int32))
          · have f262 := (f238.keep KC237 (allS b229 all0))
            obtain ⟨_, _, ⟨T261, Lq261, kq261, nq261⟩, -, X261, ⟨Lc261, hQ261, lq261, yq261, zq261⟩, st261⟩ := Jvm.LawKit.callS X257 hx (y := (⟨"com/example/wrasse/wrasse/io/CorrectionFormat", "wordOf", "(Ljava/lang/String;)Ljava/util/Optional;"⟩ : MethodName)) hown (mvT hZ (hw _ (own_w 27 rfl))) (mvT hZ (hw _ (own_w 28 rfl))) (mvT hZ (hw _ (own_w 29 rfl))) (mvT hZ (hw _ (own_w 30 rfl))) (by decide) (backOf (W := 0) (rWe l Z a0 hw [] b229o [r3, r6, r9, r12] G1 gv eo T237.heap n0 Z237 f262 O_S hgv O_2 P5 O_A O_H O_W TS237 (Nat.le_of_ble_eq_true rfl) (own_cons hr3 (own_cons hr6 (own_cons hr9 (own_cons hr12 own_nil)))) (own_befS (P := fun k => (([r3, r6, r9, r12] : List Int32).getD k 0 = (32 : Int32) ∨ ([r3, r6, r9, r12] : List Int32).getD k 0 = (9 : Int32) ∨ ([r3, r6, r9, r12] : List Int32).getD k 0 = (13 : Int32))) (own_befS (P := fun k => (([r3, r6, r9, r12] : List Int32).getD k 0 = (32 : Int32) ∨ ([r3, r6, r9, r12] : List Int32).getD k 0 = (9 : Int32) ∨ ([r3, r6, r9, r12] : List Int32).getD k 0 = (13 : Int32))) (own_befS (P := fun k => (([r3, r6, r9, r12] : List Int32).getD k 0 = (32 : Int32) ∨ ([r3, r6, r9, r12] : List Int32).getD k 0 = (9 : Int32) ∨ ([r3, r6, r9, r12] : List Int32).getD k 0 = (13 : Int32))) (own_befS (P := fun k => (([r3, r6, r9, r12] : List Int32).getD k 0 = (32 : Int32) ∨ ([r3, r6, r9, r12] : List Int32).getD k 0 = (9 : Int32) ∨ ([r3, r6, r9, r12] : List Int32).getD k 0 = (13 : Int32))) own_bef0 hB0) hB1) hB2) hB3) O_E) hZ (hw _ (own_w 30 rfl)) (hw _ (own_w 29 rfl)) (by decide) (by decide)) (g := (mkF m 283 #[.val (.int p1), .val (.int p2), .val (.int p3), .val (.int p4), .val (.int p5), .val (.int (4 : Int32)), .val (.ref b1o), .val (.ref b205o), .val (.ref b229o), .val (.int (0 : Int32)), .val (.int (0 : Int32)), .val (.int (0 : Int32)), .val (.int (0 : Int32)), .val (.int (4 : Int32)), .val (.int (0 : Int32)), .unset, .unset, .unset] [(.ref b229o)])) rfl (by rw [hml]; rfl) (argsL := [(.ref b229o)]) (rest := []) (lenOf pd_33 rfl) rfl (by show 2 * 0 + _ ≤ _; exact Nat.le_of_eq rfl) (hb hby at_283) (fun _ _ => ⟨rfl, e257, (by decide : 5 + 0 ≤ _), (by decide : 36 + 0 ≤ _)⟩)
            dsimp only [Pt.U, Pt.locs, Pt.cells, Pt.slots] at X261 lq261 yq261 zq261 st261 hQ261
            subst lq261 yq261 zq261
            obtain ⟨rfl, N261q, e261⟩ := hQ261
            have N261 := Fr.app N257 N261q
            obtain ⟨cq263, kz263, q263a, q263b, q263c⟩ := isOf hZ e261 (O_EE.ext f262.2)
            obtain ⟨_, _, ⟨T263, Lq263, kq263, nq263⟩, -, X263, ⟨Lc263, hQ263, lq263, yq263, zq263⟩, st263⟩ := X261.virtualBack hx (y := (⟨"java/util/Optional", "isPresent", "()Z"⟩ : MethodName)) (z := (⟨"java/util/Optional", "isPresent", "()Z"⟩ : MethodName)) hown (mvT hZ (hw _ (own_w 47 rfl))) (mvT hZ (hw _ (own_w 48 rfl))) (notFace_of_selects (args := #[]) (mvT hZ (hw _ (own_w 50 rfl)))) (mvT hZ (hw _ (own_w 50 rfl))) (mvT hZ (hw _ (own_w 49 rfl))) (by decide) (backOf (W := 0) (rOp0 l Z a0 hw [] eo  T237.heap n0 Z237 (O_EV.ext f262.2)) hZ (hw _ (own_w 51 rfl)) (hw _ (own_w 44 rfl)) (by decide) (by decide)) q263a q263c (g := (mkF m 297 #[.val (.int p1), .val (.int p2), .val (.int p3), .val (.int p4), .val (.int p5), .val (.int (4 : Int32)), .val (.ref b1o), .val (.ref b205o), .val (.ref b229o), .val (.int (0 : Int32)), .val (.int (0 : Int32)), .val (.int (0 : Int32)), .val (.int (0 : Int32)), .val (.int (4 : Int32)), .val (.int (0 : Int32)), .val (.ref eo), .unset, .unset] [(.ref eo)])) rfl (by rw [hml]; rfl) (Steps.refl _) (argsL := []) (rest := []) (lenOf pd_7 rfl) rfl (by show 2 * 0 + _ ≤ _; exact Nat.le_of_eq rfl) (hb hby at_297) (fun _ _ => ⟨rfl, e261, (by decide : 5 + 0 ≤ _), (by decide : 36 + 0 ≤ _)⟩)
            dsimp only [Pt.U, Pt.locs, Pt.cells, Pt.slots] at X263 lq263 yq263 zq263 st263 hQ263
            subst lq263 yq263 zq263
            obtain ⟨r263, hr263, rfl, N263q, e263⟩ := hQ263
            have N263 := Fr.app N261 N263q
            subst hr263
            obtain ⟨fs, hr, hrun, hended, hwd⟩ := Jvm.Stand.leaveW (s := s) (vm₁ := s.vm) X263 hS0 (Nat.le_trans (Nat.le_trans (Nat.le_trans (Nat.le_trans (Nat.le_trans (Nat.le_trans (Nat.le_trans (Nat.le_trans (Nat.le_trans (Nat.le_trans (Nat.le_trans (Nat.le_trans (Nat.le_trans (Nat.le_of_eq (congrArg Array.size hh)) E1.1) (Nat.le_of_eq W5.size.symm)) (Nat.le_of_eq W8.size.symm)) (Nat.le_of_eq W11.size.symm)) (Nat.le_of_eq W14.size.symm)) E205.1) (Nat.le_of_eq W213.size.symm)) (Nat.le_of_eq W218.size.symm)) (Nat.le_of_eq W223.size.symm)) (Nat.le_of_eq W228.size.symm)) E229.1) KC237.1) (Nat.le_of_eq (congrArg Array.size e263).symm)) (v := some (.int (1 : Int32))) (fun h => by rw [Bd.returns] at h; cases h)
            refine ⟨_, _, pre0 _ ?_, hrun, hended, _, _, rfl, ?_, hwd.1, hwd.2.1, hwd.2.2.1, hwd.2.2.2.mono (by decide) (by decide)⟩
            · refine pq260 _ ?_
              rw [(own_nbT hr242 hB0 hnb0_243), (own_nbT hr247 hB1 hnb1_248), (own_nbT hr252 hB2 hnb2_253), (own_nbT hr257 hB3 hnb3_258)]
              refine own_blk X257 hx hby (4 : Int32) (0 : Int32) (by decide) (by decide) _ ?_
              refine XS.aload X257.here hx rfl (hb hby at_281) rfl rfl ?_
              refine st261 _ ?_
              refine XS.astore X261.here hx rfl (hb hby at_286) rfl rfl (l' := #[.val (.int p1), .val (.int p2), .val (.int p3), .val (.int p4), .val (.int p5), .val (.int (4 : Int32)), .val (.ref b1o), .val (.ref b205o), .val (.ref b229o), .val (.int (0 : Int32)), .val (.int (0 : Int32)), .val (.int (0 : Int32)), .val (.int (0 : Int32)), .val (.int (4 : Int32)), .val (.int (0 : Int32)), .val (.ref eo), .unset, .unset]) rfl ?_
              refine XS.iload X261.here hx rfl (hb hby at_288) rfl ?_
              refine XS.iload X261.here hx rfl (hb hby at_290) rfl ?_
              refine XS.icmpNo X261.here hx rfl (hb hby at_292) rfl (flt (by decide)).1 ?_
              refine XS.aload X261.here hx rfl (hb hby at_295) rfl rfl ?_
              refine st263.trans ?_
              refine XS.ifNo X263.here hx rfl (hb hby at_300) rfl ((if0 _ _).trans (teq (by decide)).2) ?_
              refine XS.iconst X263.here hx rfl (hb hby at_303) ?_
              refine XS.goto X263.here hx rfl (pc0 := 304) (pc' := 308) rfl (hb hby at_304) (by decide) (by decide) ?_
              exact retN X263 hx (t := .boolean) Bd.returns (by simp) (hb hby at_308) hr
            · show Qrm0 Z p1 p2 p3 p4 p5 G1 gv eo h0 n0 _ T263.heap _
              exact ⟨rfl, N263⟩
          · have f265 := (f238.keep KC237 (allS b229 all0))
            obtain ⟨_, _, ⟨T264, Lq264, kq264, nq264⟩, -, X264, ⟨Lc264, hQ264, lq264, yq264, zq264⟩, st264⟩ := Jvm.LawKit.callS X257 hx (y := (⟨"com/example/wrasse/wrasse/io/CorrectionFormat", "wordOf", "(Ljava/lang/String;)Ljava/util/Optional;"⟩ : MethodName)) hown (mvT hZ (hw _ (own_w 27 rfl))) (mvT hZ (hw _ (own_w 28 rfl))) (mvT hZ (hw _ (own_w 29 rfl))) (mvT hZ (hw _ (own_w 30 rfl))) (by decide) (backOf (W := 0) (rWp l Z a0 hw [] b229o [r3, r6, r9, r12] G1 gv 3 [r12] T237.heap n0 Z237 f265 O_S hgv O_2 P5 O_A O_H O_W TS237 (Nat.le_of_ble_eq_true rfl) (own_cons hr3 (own_cons hr6 (own_cons hr9 (own_cons hr12 own_nil)))) (own_befS (P := fun k => (([r3, r6, r9, r12] : List Int32).getD k 0 = (32 : Int32) ∨ ([r3, r6, r9, r12] : List Int32).getD k 0 = (9 : Int32) ∨ ([r3, r6, r9, r12] : List Int32).getD k 0 = (13 : Int32))) (own_befS (P := fun k => (([r3, r6, r9, r12] : List Int32).getD k 0 = (32 : Int32) ∨ ([r3, r6, r9, r12] : List Int32).getD k 0 = (9 : Int32) ∨ ([r3, r6, r9, r12] : List Int32).getD k 0 = (13 : Int32))) (own_befS (P := fun k => (([r3, r6, r9, r12] : List Int32).getD k 0 = (32 : Int32) ∨ ([r3, r6, r9, r12] : List Int32).getD k 0 = (9 : Int32) ∨ ([r3, r6, r9, r12] : List Int32).getD k 0 = (13 : Int32))) own_bef0 hB0) hB1) hB2) ⟨(Nat.le_of_ble_eq_true rfl), rfl⟩ (Nat.le_of_ble_eq_true rfl) hB3 hB3 own_aft0) hZ (hw _ (own_w 30 rfl)) (hw _ (own_w 29 rfl)) (by decide) (by decide)) (g := (mkF m 283 #[.val (.int p1), .val (.int p2), .val (.int p3), .val (.int p4), .val (.int p5), .val (.int (4 : Int32)), .val (.ref b1o), .val (.ref b205o), .val (.ref b229o), .val (.int (0 : Int32)), .val (.int (0 : Int32)), .val (.int (0 : Int32)), .val (.int (1 : Int32)), .val (.int (3 : Int32)), .val (.int (4 : Int32)), .unset, .unset, .unset] [(.ref b229o)])) rfl (by rw [hml]; rfl) (argsL := [(.ref b229o)]) (rest := []) (lenOf pd_33 rfl) rfl (by show 2 * 0 + _ ≤ _; exact Nat.le_of_eq rfl) (hb hby at_283) (fun _ _ => ⟨rfl, e257, (by decide : 5 + 4 ≤ _), (by decide : 36 + 29 ≤ _)⟩)
            dsimp only [Pt.U, Pt.locs, Pt.cells, Pt.slots] at X264 lq264 yq264 zq264 st264 hQ264
            subst lq264 yq264 zq264
            obtain ⟨o264, x264, rfl, N264q, KC264, uE264, uV264, TS264⟩ := hQ264
            have N264 := Fr.app N257 N264q
            have Z264 : n0 ≤ T264.heap.size := Nat.le_trans Z237 KC264.1
            have f267 := (f265.keep KC264 all0)
            have f268 := (f239.keep KC264 nin0)
            obtain ⟨T266, L266, X266, e266, N266, st266⟩ := own_tail (ct := [r12]) (sq := 3) (vs := [(.int r3), (.int r6), (.int r9), (.int r12)]) (by decide) (by decide) (by decide) (by decide) hx hZ hw hby hml hown f267 O_S hgv O_2 P5 O_A O_H O_W Z264 TS264 (Nat.le_of_ble_eq_true rfl) (own_cons hr12 own_nil) uE264 uV264 f268 (Nat.le_of_ble_eq_true rfl) (by decide : 3 + 1 ≤ 4) (own_befS (P := fun k => ([.int r3, .int r6, .int r9, .int r12] : List Value).getD (3 + k) (.int (0 : Int32)) = .int (([r12] : List Int32).getD k 0)) own_bef0 rfl) _ _ X264 rfl N264
            obtain ⟨fs, hr, hrun, hended, hwd⟩ := Jvm.Stand.leaveW (s := s) (vm₁ := s.vm) X266 hS0 (Nat.le_trans (Nat.le_trans (Nat.le_trans (Nat.le_trans (Nat.le_trans (Nat.le_trans (Nat.le_trans (Nat.le_trans (Nat.le_trans (Nat.le_trans (Nat.le_trans (Nat.le_trans (Nat.le_trans (Nat.le_trans (Nat.le_of_eq (congrArg Array.size hh)) E1.1) (Nat.le_of_eq W5.size.symm)) (Nat.le_of_eq W8.size.symm)) (Nat.le_of_eq W11.size.symm)) (Nat.le_of_eq W14.size.symm)) E205.1) (Nat.le_of_eq W213.size.symm)) (Nat.le_of_eq W218.size.symm)) (Nat.le_of_eq W223.size.symm)) (Nat.le_of_eq W228.size.symm)) E229.1) KC237.1) KC264.1) (Nat.le_of_eq (congrArg Array.size e266).symm)) (v := some (.int (1 : Int32))) (fun h => by rw [Bd.returns] at h; cases h)
            refine ⟨_, _, pre0 _ ?_, hrun, hended, _, _, rfl, ?_, hwd.1, hwd.2.1, hwd.2.2.1, hwd.2.2.2.mono (by decide) (by decide)⟩
            · refine pq260 _ ?_
              rw [(own_nbT hr242 hB0 hnb0_243), (own_nbT hr247 hB1 hnb1_248), (own_nbT hr252 hB2 hnb2_253), (own_nbF hr257 hB3 hnb3_258)]
              refine own_blk X257 hx hby (3 : Int32) (4 : Int32) (by decide) (by decide) _ ?_
              refine XS.aload X257.here hx rfl (hb hby at_281) rfl rfl ?_
              refine st264 _ ?_
              refine XS.astore X264.here hx rfl (hb hby at_286) rfl rfl (l' := #[.val (.int p1), .val (.int p2), .val (.int p3), .val (.int p4), .val (.int p5), .val (.int (4 : Int32)), .val (.ref b1o), .val (.ref b205o), .val (.ref b229o), .val (.int (0 : Int32)), .val (.int (0 : Int32)), .val (.int (0 : Int32)), .val (.int (1 : Int32)), .val (.int (3 : Int32)), .val (.int (4 : Int32)), .val (.ref o264), .unset, .unset]) rfl ?_
              refine XS.iload X264.here hx rfl (hb hby at_288) rfl ?_
              refine XS.iload X264.here hx rfl (hb hby at_290) rfl ?_
              refine XS.icmpYes X264.here hx rfl (pc0 := 292) (pc' := 309) rfl (hb hby at_292) rfl (tlt (by decide)).1 (by decide) (by decide) ?_
              refine st266 _ ?_
              exact retN X266 hx (t := .boolean) Bd.returns (by simp) (hb hby at_443) hr
            · show Qrm0 Z p1 p2 p3 p4 p5 G1 gv eo h0 n0 _ T266.heap _
              exact ⟨rfl, N266⟩
        · by_cases hB3 : (r12 = (32 : Int32) ∨ r12 = (9 : Int32) ∨ r12 = (13 : Int32))
          · have f270 := (f238.keep KC237 (allS b229 all0))
            obtain ⟨_, _, ⟨T269, Lq269, kq269, nq269⟩, -, X269, ⟨Lc269, hQ269, lq269, yq269, zq269⟩, st269⟩ := Jvm.LawKit.callS X257 hx (y := (⟨"com/example/wrasse/wrasse/io/CorrectionFormat", "wordOf", "(Ljava/lang/String;)Ljava/util/Optional;"⟩ : MethodName)) hown (mvT hZ (hw _ (own_w 27 rfl))) (mvT hZ (hw _ (own_w 28 rfl))) (mvT hZ (hw _ (own_w 29 rfl))) (mvT hZ (hw _ (own_w 30 rfl))) (by decide) (backOf (W := 0) (rWp l Z a0 hw [] b229o [r3, r6, r9, r12] G1 gv 2 [r9] T237.heap n0 Z237 f270 O_S hgv O_2 P5 O_A O_H O_W TS237 (Nat.le_of_ble_eq_true rfl) (own_cons hr3 (own_cons hr6 (own_cons hr9 (own_cons hr12 own_nil)))) (own_befS (P := fun k => (([r3, r6, r9, r12] : List Int32).getD k 0 = (32 : Int32) ∨ ([r3, r6, r9, r12] : List Int32).getD k 0 = (9 : Int32) ∨ ([r3, r6, r9, r12] : List Int32).getD k 0 = (13 : Int32))) (own_befS (P := fun k => (([r3, r6, r9, r12] : List Int32).getD k 0 = (32 : Int32) ∨ ([r3, r6, r9, r12] : List Int32).getD k 0 = (9 : Int32) ∨ ([r3, r6, r9, r12] : List Int32).getD k 0 = (13 : Int32))) own_bef0 hB0) hB1) ⟨(Nat.le_of_ble_eq_true rfl), rfl⟩ (Nat.le_of_ble_eq_true rfl) hB2 hB2 (own_aftS (P := fun k => (([r3, r6, r9, r12] : List Int32).getD k 0 = (32 : Int32) ∨ ([r3, r6, r9, r12] : List Int32).getD k 0 = (9 : Int32) ∨ ([r3, r6, r9, r12] : List Int32).getD k 0 = (13 : Int32))) (e := 3) (n := 4) own_aft0 hB3)) hZ (hw _ (own_w 30 rfl)) (hw _ (own_w 29 rfl)) (by decide) (by decide)) (g := (mkF m 283 #[.val (.int p1), .val (.int p2), .val (.int p3), .val (.int p4), .val (.int p5), .val (.int (4 : Int32)), .val (.ref b1o), .val (.ref b205o), .val (.ref b229o), .val (.int (0 : Int32)), .val (.int (0 : Int32)), .val (.int (1 : Int32)), .val (.int (0 : Int32)), .val (.int (2 : Int32)), .val (.int (3 : Int32)), .unset, .unset, .unset] [(.ref b229o)])) rfl (by rw [hml]; rfl) (argsL := [(.ref b229o)]) (rest := []) (lenOf pd_33 rfl) rfl (by show 2 * 0 + _ ≤ _; exact Nat.le_of_eq rfl) (hb hby at_283) (fun _ _ => ⟨rfl, e257, (by decide : 5 + 4 ≤ _), (by decide : 36 + 29 ≤ _)⟩)
            dsimp only [Pt.U, Pt.locs, Pt.cells, Pt.slots] at X269 lq269 yq269 zq269 st269 hQ269
            subst lq269 yq269 zq269
            obtain ⟨o269, x269, rfl, N269q, KC269, uE269, uV269, TS269⟩ := hQ269
            have N269 := Fr.app N257 N269q
            have Z269 : n0 ≤ T269.heap.size := Nat.le_trans Z237 KC269.1
            have f272 := (f270.keep KC269 all0)
            have f273 := (f239.keep KC269 nin0)
            obtain ⟨T271, L271, X271, e271, N271, st271⟩ := own_tail (ct := [r9]) (sq := 2) (vs := [(.int r3), (.int r6), (.int r9), (.int r12)]) (by decide) (by decide) (by decide) (by decide) hx hZ hw hby hml hown f272 O_S hgv O_2 P5 O_A O_H O_W Z269 TS269 (Nat.le_of_ble_eq_true rfl) (own_cons hr9 own_nil) uE269 uV269 f273 (Nat.le_of_ble_eq_true rfl) (by decide : 2 + 1 ≤ 4) (own_befS (P := fun k => ([.int r3, .int r6, .int r9, .int r12] : List Value).getD (2 + k) (.int (0 : Int32)) = .int (([r9] : List Int32).getD k 0)) own_bef0 rfl) _ _ X269 rfl N269
            obtain ⟨fs, hr, hrun, hended, hwd⟩ := Jvm.Stand.leaveW (s := s) (vm₁ := s.vm) X271 hS0 (Nat.le_trans (Nat.le_trans (Nat.le_trans (Nat.le_trans (Nat.le_trans (Nat.le_trans (Nat.le_trans (Nat.le_trans (Nat.le_trans (Nat.le_trans (Nat.le_trans (Nat.le_trans (Nat.le_trans (Nat.le_trans (Nat.le_of_eq (congrArg Array.size hh)) E1.1) (Nat.le_of_eq W5.size.symm)) (Nat.le_of_eq W8.size.symm)) (Nat.le_of_eq W11.size.symm)) (Nat.le_of_eq W14.size.symm)) E205.1) (Nat.le_of_eq W213.size.symm)) (Nat.le_of_eq W218.size.symm)) (Nat.le_of_eq W223.size.symm)) (Nat.le_of_eq W228.size.symm)) E229.1) KC237.1) KC269.1) (Nat.le_of_eq (congrArg Array.size e271).symm)) (v := some (.int (1 : Int32))) (fun h => by rw [Bd.returns] at h; cases h)
            refine ⟨_, _, pre0 _ ?_, hrun, hended, _, _, rfl, ?_, hwd.1, hwd.2.1, hwd.2.2.1, hwd.2.2.2.mono (by decide) (by decide)⟩
            · refine pq260 _ ?_
              rw [(own_nbT hr242 hB0 hnb0_243), (own_nbT hr247 hB1 hnb1_248), (own_nbF hr252 hB2 hnb2_253), (own_nbT hr257 hB3 hnb3_258)]
              refine own_blk X257 hx hby (2 : Int32) (3 : Int32) (by decide) (by decide) _ ?_
              refine XS.aload X257.here hx rfl (hb hby at_281) rfl rfl ?_
              refine st269 _ ?_
              refine XS.astore X269.here hx rfl (hb hby at_286) rfl rfl (l' := #[.val (.int p1), .val (.int p2), .val (.int p3), .val (.int p4), .val (.int p5), .val (.int (4 : Int32)), .val (.ref b1o), .val (.ref b205o), .val (.ref b229o), .val (.int (0 : Int32)), .val (.int (0 : Int32)), .val (.int (1 : Int32)), .val (.int (0 : Int32)), .val (.int (2 : Int32)), .val (.int (3 : Int32)), .val (.ref o269), .unset, .unset]) rfl ?_
              refine XS.iload X269.here hx rfl (hb hby at_288) rfl ?_
              refine XS.iload X269.here hx rfl (hb hby at_290) rfl ?_
              refine XS.icmpYes X269.here hx rfl (pc0 := 292) (pc' := 309) rfl (hb hby at_292) rfl (tlt (by decide)).1 (by decide) (by decide) ?_
              refine st271 _ ?_
              exact retN X271 hx (t := .boolean) Bd.returns (by simp) (hb hby at_443) hr
            · show Qrm0 Z p1 p2 p3 p4 p5 G1 gv eo h0 n0 _ T271.heap _
              exact ⟨rfl, N271⟩
          · have f275 := (f238.keep KC237 (allS b229 all0))
            obtain ⟨_, _, ⟨T274, Lq274, kq274, nq274⟩, -, X274, ⟨Lc274, hQ274, lq274, yq274, zq274⟩, st274⟩ := Jvm.LawKit.callS X257 hx (y := (⟨"com/example/wrasse/wrasse/io/CorrectionFormat", "wordOf", "(Ljava/lang/String;)Ljava/util/Optional;"⟩ : MethodName)) hown (mvT hZ (hw _ (own_w 27 rfl))) (mvT hZ (hw _ (own_w 28 rfl))) (mvT hZ (hw _ (own_w 29 rfl))) (mvT hZ (hw _ (own_w 30 rfl))) (by decide) (backOf (W := 0) (rWp l Z a0 hw [] b229o [r3, r6, r9, r12] G1 gv 2 [r9, r12] T237.heap n0 Z237 f275 O_S hgv O_2 P5 O_A O_H O_W TS237 (Nat.le_of_ble_eq_true rfl) (own_cons hr3 (own_cons hr6 (own_cons hr9 (own_cons hr12 own_nil)))) (own_befS (P := fun k => (([r3, r6, r9, r12] : List Int32).getD k 0 = (32 : Int32) ∨ ([r3, r6, r9, r12] : List Int32).getD k 0 = (9 : Int32) ∨ ([r3, r6, r9, r12] : List Int32).getD k 0 = (13 : Int32))) (own_befS (P := fun k => (([r3, r6, r9, r12] : List Int32).getD k 0 = (32 : Int32) ∨ ([r3, r6, r9, r12] : List Int32).getD k 0 = (9 : Int32) ∨ ([r3, r6, r9, r12] : List Int32).getD k 0 = (13 : Int32))) own_bef0 hB0) hB1) ⟨(Nat.le_of_ble_eq_true rfl), rfl⟩ (Nat.le_of_ble_eq_true rfl) hB2 hB3 own_aft0) hZ (hw _ (own_w 30 rfl)) (hw _ (own_w 29 rfl)) (by decide) (by decide)) (g := (mkF m 283 #[.val (.int p1), .val (.int p2), .val (.int p3), .val (.int p4), .val (.int p5), .val (.int (4 : Int32)), .val (.ref b1o), .val (.ref b205o), .val (.ref b229o), .val (.int (0 : Int32)), .val (.int (0 : Int32)), .val (.int (1 : Int32)), .val (.int (1 : Int32)), .val (.int (2 : Int32)), .val (.int (4 : Int32)), .unset, .unset, .unset] [(.ref b229o)])) rfl (by rw [hml]; rfl) (argsL := [(.ref b229o)]) (rest := []) (lenOf pd_33 rfl) rfl (by show 2 * 0 + _ ≤ _; exact Nat.le_of_eq rfl) (hb hby at_283) (fun _ _ => ⟨rfl, e257, (by decide : 5 + 4 ≤ _), (by decide : 36 + 29 ≤ _)⟩)
            dsimp only [Pt.U, Pt.locs, Pt.cells, Pt.slots] at X274 lq274 yq274 zq274 st274 hQ274
            subst lq274 yq274 zq274
            obtain ⟨o274, x274, rfl, N274q, KC274, uE274, uV274, TS274⟩ := hQ274
            have N274 := Fr.app N257 N274q
            have Z274 : n0 ≤ T274.heap.size := Nat.le_trans Z237 KC274.1
            have f277 := (f275.keep KC274 all0)
            have f278 := (f239.keep KC274 nin0)
            obtain ⟨T276, L276, X276, e276, N276, st276⟩ := own_tail (ct := [r9, r12]) (sq := 2) (vs := [(.int r3), (.int r6), (.int r9), (.int r12)]) (by decide) (by decide) (by decide) (by decide) hx hZ hw hby hml hown f277 O_S hgv O_2 P5 O_A O_H O_W Z274 TS274 (Nat.le_of_ble_eq_true rfl) (own_cons hr9 (own_cons hr12 own_nil)) uE274 uV274 f278 (Nat.le_of_ble_eq_true rfl) (by decide : 2 + 2 ≤ 4) (own_befS (P := fun k => ([.int r3, .int r6, .int r9, .int r12] : List Value).getD (2 + k) (.int (0 : Int32)) = .int (([r9, r12] : List Int32).getD k 0)) (own_befS (P := fun k => ([.int r3, .int r6, .int r9, .int r12] : List Value).getD (2 + k) (.int (0 : Int32)) = .int (([r9, r12] : List Int32).getD k 0)) own_bef0 rfl) rfl) _ _ X274 rfl N274
            obtain ⟨fs, hr, hrun, hended, hwd⟩ := Jvm.Stand.leaveW (s := s) (vm₁ := s.vm) X276 hS0 (Nat.le_trans (Nat.le_trans (Nat.le_trans (Nat.le_trans (Nat.le_trans (Nat.le_trans (Nat.le_trans (Nat.le_trans (Nat.le_trans (Nat.le_trans (Nat.le_trans (Nat.le_trans (Nat.le_trans (Nat.le_trans (Nat.le_of_eq (congrArg Array.size hh)) E1.1) (Nat.le_of_eq W5.size.symm)) (Nat.le_of_eq W8.size.symm)) (Nat.le_of_eq W11.size.symm)) (Nat.le_of_eq W14.size.symm)) E205.1) (Nat.le_of_eq W213.size.symm)) (Nat.le_of_eq W218.size.symm)) (Nat.le_of_eq W223.size.symm)) (Nat.le_of_eq W228.size.symm)) E229.1) KC237.1) KC274.1) (Nat.le_of_eq (congrArg Array.size e276).symm)) (v := some (.int (1 : Int32))) (fun h => by rw [Bd.returns] at h; cases h)
            refine ⟨_, _, pre0 _ ?_, hrun, hended, _, _, rfl, ?_, hwd.1, hwd.2.1, hwd.2.2.1, hwd.2.2.2.mono (by decide) (by decide)⟩
            · refine pq260 _ ?_
              rw [(own_nbT hr242 hB0 hnb0_243), (own_nbT hr247 hB1 hnb1_248), (own_nbF hr252 hB2 hnb2_253), (own_nbF hr257 hB3 hnb3_258)]
              refine own_blk X257 hx hby (2 : Int32) (4 : Int32) (by decide) (by decide) _ ?_
              refine XS.aload X257.here hx rfl (hb hby at_281) rfl rfl ?_
              refine st274 _ ?_
              refine XS.astore X274.here hx rfl (hb hby at_286) rfl rfl (l' := #[.val (.int p1), .val (.int p2), .val (.int p3), .val (.int p4), .val (.int p5), .val (.int (4 : Int32)), .val (.ref b1o), .val (.ref b205o), .val (.ref b229o), .val (.int (0 : Int32)), .val (.int (0 : Int32)), .val (.int (1 : Int32)), .val (.int (1 : Int32)), .val (.int (2 : Int32)), .val (.int (4 : Int32)), .val (.ref o274), .unset, .unset]) rfl ?_
              refine XS.iload X274.here hx rfl (hb hby at_288) rfl ?_
              refine XS.iload X274.here hx rfl (hb hby at_290) rfl ?_
              refine XS.icmpYes X274.here hx rfl (pc0 := 292) (pc' := 309) rfl (hb hby at_292) rfl (tlt (by decide)).1 (by decide) (by decide) ?_
              refine st276 _ ?_
              exact retN X276 hx (t := .boolean) Bd.returns (by simp) (hb hby at_443) hr
            · show Qrm0 Z p1 p2 p3 p4 p5 G1 gv eo h0 n0 _ T276.heap _
              exact ⟨rfl, N276⟩
      · by_cases hB2 : (r9 = (32 : Int32) ∨ r9 = (9 : Int32) ∨ r9 = (13 : Int32))
        · by_cases hB3 : (r12 = (32 : Int32) ∨ r12 = (9 : Int32) ∨ r12 = (13 : Int32))
          · have f280 := (f238.keep KC237 (allS b229 all0))
            obtain ⟨_, _, ⟨T279, Lq279, kq279, nq279⟩, -, X279, ⟨Lc279, hQ279, lq279, yq279, zq279⟩, st279⟩ := Jvm.LawKit.callS X257 hx (y := (⟨"com/example/wrasse/wrasse/io/CorrectionFormat", "wordOf", "(Ljava/lang/String;)Ljava/util/Optional;"⟩ : MethodName)) hown (mvT hZ (hw _ (own_w 27 rfl))) (mvT hZ (hw _ (own_w 28 rfl))) (mvT hZ (hw _ (own_w 29 rfl))) (mvT hZ (hw _ (own_w 30 rfl))) (by decide) (backOf (W := 0) (rWp l Z a0 hw [] b229o [r3, r6, r9, r12] G1 gv 1 [r6] T237.heap n0 Z237 f280 O_S hgv O_2 P5 O_A O_H O_W TS237 (Nat.le_of_ble_eq_true rfl) (own_cons hr3 (own_cons hr6 (own_cons hr9 (own_cons hr12 own_nil)))) (own_befS (P := fun k => (([r3, r6, r9, r12] : List Int32).getD k 0 = (32 : Int32) ∨ ([r3, r6, r9, r12] : List Int32).getD k 0 = (9 : Int32) ∨ ([r3, r6, r9, r12] : List Int32).getD k 0 = (13 : Int32))) own_bef0 hB0) ⟨(Nat.le_of_ble_eq_true rfl), rfl⟩ (Nat.le_of_ble_eq_true rfl) hB1 hB1 (own_aftS (P := fun k => (([r3, r6, r9, r12] : List Int32).getD k 0 = (32 : Int32) ∨ ([r3, r6, r9, r12] : List Int32).getD k 0 = (9 : Int32) ∨ ([r3, r6, r9, r12] : List Int32).getD k 0 = (13 : Int32))) (e := 2) (n := 4) (own_aftS (P := fun k => (([r3, r6, r9, r12] : List Int32).getD k 0 = (32 : Int32) ∨ ([r3, r6, r9, r12] : List Int32).getD k 0 = (9 : Int32) ∨ ([r3, r6, r9, r12] : List Int32).getD k 0 = (13 : Int32))) (e := 3) (n := 4) own_aft0 hB3) hB2)) hZ (hw _ (own_w 30 rfl)) (hw _ (own_w 29 rfl)) (by decide) (by decide)) (g := (mkF m 283 #[.val (.int p1), .val (.int p2), .val (.int p3), .val (.int p4), .val (.int p5), .val (.int (4 : Int32)), .val (.ref b1o), .val (.ref b205o), .val (.ref b229o), .val (.int (0 : Int32)), .val (.int (1 : Int32)), .val (.int (0 : Int32)), .val (.int (0 : Int32)), .val (.int (1 : Int32)), .val (.int (2 : Int32)), .unset, .unset, .unset] [(.ref b229o)])) rfl (by rw [hml]; rfl) (argsL := [(.ref b229o)]) (rest := []) (lenOf pd_33 rfl) rfl (by show 2 * 0 + _ ≤ _; exact Nat.le_of_eq rfl) (hb hby at_283) (fun _ _ => ⟨rfl, e257, (by decide : 5 + 4 ≤ _), (by decide : 36 + 29 ≤ _)⟩)
            dsimp only [Pt.U, Pt.locs, Pt.cells, Pt.slots] at X279 lq279 yq279 zq279 st279 hQ279
            subst lq279 yq279 zq279
            obtain ⟨o279, x279, rfl, N279q, KC279, uE279, uV279, TS279⟩ := hQ279
            have N279 := Fr.app N257 N279q
            have Z279 : n0 ≤ T279.heap.size := Nat.le_trans Z237 KC279.1
            have f282 := (f280.keep KC279 all0)
            have f283 := (f239.keep KC279 nin0)
            obtain ⟨T281, L281, X281, e281, N281, st281⟩ := own_tail (ct := [r6]) (sq := 1) (vs := [(.int r3), (.int r6), (.int r9), (.int r12)]) (by decide) (by decide) (by decide) (by decide) hx hZ hw hby hml hown f282 O_S hgv O_2 P5 O_A O_H O_W Z279 TS279 (Nat.le_of_ble_eq_true rfl) (own_cons hr6 own_nil) uE279 uV279 f283 (Nat.le_of_ble_eq_true rfl) (by decide : 1 + 1 ≤ 4) (own_befS (P := fun k => ([.int r3, .int r6, .int r9, .int r12] : List Value).getD (1 + k) (.int (0 : Int32)) = .int (([r6] : List Int32).getD k 0)) own_bef0 rfl) _ _ X279 rfl N279
            obtain ⟨fs, hr, hrun, hended, hwd⟩ := Jvm.Stand.leaveW (s := s) (vm₁ := s.vm) X281 hS0 (Nat.le_trans (Nat.le_trans (Nat.le_trans (Nat.le_trans (Nat.le_trans (Nat.le_trans (Nat.le_trans (Nat.le_trans (Nat.le_trans (Nat.le_trans (Nat.le_trans (Nat.le_trans (Nat.le_trans (Nat.le_trans (Nat.le_of_eq (congrArg Array.size hh)) E1.1) (Nat.le_of_eq W5.size.symm)) (Nat.le_of_eq W8.size.symm)) (Nat.le_of_eq W11.size.symm)) (Nat.le_of_eq W14.size.symm)) E205.1) (Nat.le_of_eq W213.size.symm)) (Nat.le_of_eq W218.size.symm)) (Nat.le_of_eq W223.size.symm)) (Nat.le_of_eq W228.size.symm)) E229.1) KC237.1) KC279.1) (Nat.le_of_eq (congrArg Array.size e281).symm)) (v := some (.int (1 : Int32))) (fun h => by rw [Bd.returns] at h; cases h)
            refine ⟨_, _, pre0 _ ?_, hrun, hended, _, _, rfl, ?_, hwd.1, hwd.2.1, hwd.2.2.1, hwd.2.2.2.mono (by decide) (by decide)⟩
            · refine pq260 _ ?_
              rw [(own_nbT hr242 hB0 hnb0_243), (own_nbF hr247 hB1 hnb1_248), (own_nbT hr252 hB2 hnb2_253), (own_nbT hr257 hB3 hnb3_258)]
              refine own_blk X257 hx hby (1 : Int32) (2 : Int32) (by decide) (by decide) _ ?_
              refine XS.aload X257.here hx rfl (hb hby at_281) rfl rfl ?_
              refine st279 _ ?_
              refine XS.astore X279.here hx rfl (hb hby at_286) rfl rfl (l' := #[.val (.int p1), .val (.int p2), .val (.int p3), .val (.int p4), .val (.int p5), .val (.int (4 : Int32)), .val (.ref b1o), .val (.ref b205o), .val (.ref b229o), .val (.int (0 : Int32)), .val (.int (1 : Int32)), .val (.int (0 : Int32)), .val (.int (0 : Int32)), .val (.int (1 : Int32)), .val (.int (2 : Int32)), .val (.ref o279), .unset, .unset]) rfl ?_
              refine XS.iload X279.here hx rfl (hb hby at_288) rfl ?_
              refine XS.iload X279.here hx rfl (hb hby at_290) rfl ?_
              refine XS.icmpYes X279.here hx rfl (pc0 := 292) (pc' := 309) rfl (hb hby at_292) rfl (tlt (by decide)).1 (by decide) (by decide) ?_
              refine st281 _ ?_
              exact retN X281 hx (t := .boolean) Bd.returns (by simp) (hb hby at_443) hr
            · show Qrm0 Z p1 p2 p3 p4 p5 G1 gv eo h0 n0 _ T281.heap _
              exact ⟨rfl, N281⟩
          · have f285 := (f238.keep KC237 (allS b229 all0))
            obtain ⟨_, _, ⟨T284, Lq284, kq284, nq284⟩, -, X284, ⟨Lc284, hQ284, lq284, yq284, zq284⟩, st284⟩ := Jvm.LawKit.callS X257 hx (y := (⟨"com/example/wrasse/wrasse/io/CorrectionFormat", "wordOf", "(Ljava/lang/String;)Ljava/util/Optional;"⟩ : MethodName)) hown (mvT hZ (hw _ (own_w 27 rfl))) (mvT hZ (hw _ (own_w 28 rfl))) (mvT hZ (hw _ (own_w 29 rfl))) (mvT hZ (hw _ (own_w 30 rfl))) (by decide) (backOf (W := 0) (rWp l Z a0 hw [] b229o [r3, r6, r9, r12] G1 gv 1 [r6, r9, r12] T237.heap n0 Z237 f285 O_S hgv O_2 P5 O_A O_H O_W TS237 (Nat.le_of_ble_eq_true rfl) (own_cons hr3 (own_cons hr6 (own_cons hr9 (own_cons hr12 own_nil)))) (own_befS (P := fun k => (([r3, r6, r9, r12] : List Int32).getD k 0 = (32 : Int32) ∨ ([r3, r6, r9, r12] : List Int32).getD k 0 = (9 : Int32) ∨ ([r3, r6, r9, r12] : List Int32).getD k 0 = (13 : Int32))) own_bef0 hB0) ⟨(Nat.le_of_ble_eq_true rfl), rfl⟩ (Nat.le_of_ble_eq_true rfl) hB1 hB3 own_aft0) hZ (hw _ (own_w 30 rfl)) (hw _ (own_w 29 rfl)) (by decide) (by decide)) (g := (mkF m 283 #[.val (.int p1), .val (.int p2), .val (.int p3), .val (.int p4), .val (.int p5), .val (.int (4 : Int32)), .val (.ref b1o), .val (.ref b205o), .val (.ref b229o), .val (.int (0 : Int32)), .val (.int (1 : Int32)), .val (.int (0 : Int32)), .val (.int (1 : Int32)), .val (.int (1 : Int32)), .val (.int (4 : Int32)), .unset, .unset, .unset] [(.ref b229o)])) rfl (by rw [hml]; rfl) (argsL := [(.ref b229o)]) (rest := []) (lenOf pd_33 rfl) rfl (by show 2 * 0 + _ ≤ _; exact Nat.le_of_eq rfl) (hb hby at_283) (fun _ _ => ⟨rfl, e257, (by decide : 5 + 4 ≤ _), (by decide : 36 + 29 ≤ _)⟩)
            dsimp only [Pt.U, Pt.locs, Pt.cells, Pt.slots] at X284 lq284 yq284 zq284 st284 hQ284
            subst lq284 yq284 zq284
            obtain ⟨o284, x284, rfl, N284q, KC284, uE284, uV284, TS284⟩ := hQ284
            have N284 := Fr.app N257 N284q
            have Z284 : n0 ≤ T284.heap.size := Nat.le_trans Z237 KC284.1
            have f287 := (f285.keep KC284 all0)
            have f288 := (f239.keep KC284 nin0)
            obtain ⟨T286, L286, X286, e286, N286, st286⟩ := own_tail (ct := [r6, r9, r12]) (sq := 1) (vs := [(.int r3), (.int r6), (.int r9), (.int r12)]) (by decide) (by decide) (by decide) (by decide) hx hZ hw hby hml hown f287 O_S hgv O_2 P5 O_A O_H O_W Z284 TS284 (Nat.le_of_ble_eq_true rfl) (own_cons hr6 (own_cons hr9 (own_cons hr12 own_nil))) uE284 uV284 f288 (Nat.le_of_ble_eq_true rfl) (by decide : 1 + 3 ≤ 4) (own_befS (P := fun k => ([.int r3, .int r6, .int r9, .int r12] : List Value).getD (1 + k) (.int (0 : Int32)) = .int (([r6, r9, r12] : List Int32).getD k 0)) (own_befS (P := fun k => ([.int r3, .int r6, .int r9, .int r12] : List Value).getD (1 + k) (.int (0 : Int32)) = .int (([r6, r9, r12] : List Int32).getD k 0)) (own_befS (P := fun k => ([.int r3, .int r6, .int r9, .int r12] : List Value).getD (1 + k) (.int (0 : Int32)) = .int (([r6, r9, r12] : List Int32).getD k 0)) own_bef0 rfl) rfl) rfl) _ _ X284 rfl N284
            obtain ⟨fs, hr, hrun, hended, hwd⟩ := Jvm.Stand.leaveW (s := s) (vm₁ := s.vm) X286 hS0 (Nat.le_trans (Nat.le_trans (Nat.le_trans (Nat.le_trans (Nat.le_trans (Nat.le_trans (Nat.le_trans (Nat.le_trans (Nat.le_trans (Nat.le_trans (Nat.le_trans (Nat.le_trans (Nat.le_trans (Nat.le_trans (Nat.le_of_eq (congrArg Array.size hh)) E1.1) (Nat.le_of_eq W5.size.symm)) (Nat.le_of_eq W8.size.symm)) (Nat.le_of_eq W11.size.symm)) (Nat.le_of_eq W14.size.symm)) E205.1) (Nat.le_of_eq W213.size.symm)) (Nat.le_of_eq W218.size.symm)) (Nat.le_of_eq W223.size.symm)) (Nat.le_of_eq W228.size.symm)) E229.1) KC237.1) KC284.1) (Nat.le_of_eq (congrArg Array.size e286).symm)) (v := some (.int (1 : Int32))) (fun h => by rw [Bd.returns] at h; cases h)
            refine ⟨_, _, pre0 _ ?_, hrun, hended, _, _, rfl, ?_, hwd.1, hwd.2.1, hwd.2.2.1, hwd.2.2.2.mono (by decide) (by decide)⟩
            · refine pq260 _ ?_
              rw [(own_nbT hr242 hB0 hnb0_243), (own_nbF hr247 hB1 hnb1_248), (own_nbT hr252 hB2 hnb2_253), (own_nbF hr257 hB3 hnb3_258)]
              refine own_blk X257 hx hby (1 : Int32) (4 : Int32) (by decide) (by decide) _ ?_
              refine XS.aload X257.here hx rfl (hb hby at_281) rfl rfl ?_
              refine st284 _ ?_
              refine XS.astore X284.here hx rfl (hb hby at_286) rfl rfl (l' := #[.val (.int p1), .val (.int p2), .val (.int p3), .val (.int p4), .val (.int p5), .val (.int (4 : Int32)), .val (.ref b1o), .val (.ref b205o), .val (.ref b229o), .val (.int (0 : Int32)), .val (.int (1 : Int32)), .val (.int (0 : Int32)), .val (.int (1 : Int32)), .val (.int (1 : Int32)), .val (.int (4 : Int32)), .val (.ref o284), .unset, .unset]) rfl ?_
              refine XS.iload X284.here hx rfl (hb hby at_288) rfl ?_
              refine XS.iload X284.here hx rfl (hb hby at_290) rfl ?_
              refine XS.icmpYes X284.here hx rfl (pc0 := 292) (pc' := 309) rfl (hb hby at_292) rfl (tlt (by decide)).1 (by decide) (by decide) ?_
              refine st286 _ ?_
              exact retN X286 hx (t := .boolean) Bd.returns (by simp) (hb hby at_443) hr
            · show Qrm0 Z p1 p2 p3 p4 p5 G1 gv eo h0 n0 _ T286.heap _
              exact ⟨rfl, N286⟩
        · by_cases hB3 : (r12 = (32 : Int32) ∨ r12 = (9 : Int32) ∨ r12 = (13 : Int32))
          · have f290 := (f238.keep KC237 (allS b229 all0))
            obtain ⟨_, _, ⟨T289, Lq289, kq289, nq289⟩, -, X289, ⟨Lc289, hQ289, lq289, yq289, zq289⟩, st289⟩ := Jvm.LawKit.callS X257 hx (y := (⟨"com/example/wrasse/wrasse/io/CorrectionFormat", "wordOf", "(Ljava/lang/String;)Ljava/util/Optional;"⟩ : MethodName)) hown (mvT hZ (hw _ (own_w 27 rfl))) (mvT hZ (hw _ (own_w 28 rfl))) (mvT hZ (hw _ (own_w 29 rfl))) (mvT hZ (hw _ (own_w 30 rfl))) (by decide) (backOf (W := 0) (rWp l Z a0 hw [] b229o [r3, r6, r9, r12] G1 gv 1 [r6, r9] T237.heap n0 Z237 f290 O_S hgv O_2 P5 O_A O_H O_W TS237 (Nat.le_of_ble_eq_true rfl) (own_cons hr3 (own_cons hr6 (own_cons hr9 (own_cons hr12 own_nil)))) (own_befS (P := fun k => (([r3, r6, r9, r12] : List Int32).getD k 0 = (32 : Int32) ∨ ([r3, r6, r9, r12] : List Int32).getD k 0 = (9 : Int32) ∨ ([r3, r6, r9, r12] : List Int32).getD k 0 = (13 : Int32))) own_bef0 hB0) ⟨(Nat.le_of_ble_eq_true rfl), rfl⟩ (Nat.le_of_ble_eq_true rfl) hB1 hB2 (own_aftS (P := fun k => (([r3, r6, r9, r12] : List Int32).getD k 0 = (32 : Int32) ∨ ([r3, r6, r9, r12] : List Int32).getD k 0 = (9 : Int32) ∨ ([r3, r6, r9, r12] : List Int32).getD k 0 = (13 : Int32))) (e := 3) (n := 4) own_aft0 hB3)) hZ (hw _ (own_w 30 rfl)) (hw _ (own_w 29 rfl)) (by decide) (by decide)) (g := (mkF m 283 #[.val (.int p1), .val (.int p2), .val (.int p3), .val (.int p4), .val (.int p5), .val (.int (4 : Int32)), .val (.ref b1o), .val (.ref b205o), .val (.ref b229o), .val (.int (0 : Int32)), .val (.int (1 : Int32)), .val (.int (1 : Int32)), .val (.int (0 : Int32)), .val (.int (1 : Int32)), .val (.int (3 : Int32)), .unset, .unset, .unset] [(.ref b229o)])) rfl (by rw [hml]; rfl) (argsL := [(.ref b229o)]) (rest := []) (lenOf pd_33 rfl) rfl (by show 2 * 0 + _ ≤ _; exact Nat.le_of_eq rfl) (hb hby at_283) (fun _ _ => ⟨rfl, e257, (by decide : 5 + 4 ≤ _), (by decide : 36 + 29 ≤ _)⟩)
            dsimp only [Pt.U, Pt.locs, Pt.cells, Pt.slots] at X289 lq289 yq289 zq289 st289 hQ289
            subst lq289 yq289 zq289
            obtain ⟨o289, x289, rfl, N289q, KC289, uE289, uV289, TS289⟩ := hQ289
            have N289 := Fr.app N257 N289q
            have Z289 : n0 ≤ T289.heap.size := Nat.le_trans Z237 KC289.1
            have f292 := (f290.keep KC289 all0)
            have f293 := (f239.keep KC289 nin0)
            obtain ⟨T291, L291, X291, e291, N291, st291⟩ := own_tail (ct := [r6, r9]) (sq := 1) (vs := [(.int r3), (.int r6), (.int r9), (.int r12)]) (by decide) (by decide) (by decide) (by decide) hx hZ hw hby hml hown f292 O_S hgv O_2 P5 O_A O_H O_W Z289 TS289 (Nat.le_of_ble_eq_true rfl) (own_cons hr6 (own_cons hr9 own_nil)) uE289 uV289 f293 (Nat.le_of_ble_eq_true rfl) (by decide : 1 + 2 ≤ 4) (own_befS (P := fun k => ([.int r3, .int r6, .int r9, .int r12] : List Value).getD (1 + k) (.int (0 : Int32)) = .int (([r6, r9] : List Int32).getD k 0)) (own_befS (P := fun k => ([.int r3, .int r6, .int r9, .int r12] : List Value).getD (1 + k) (.int (0 : Int32)) = .int (([r6, r9] : List Int32).getD k 0)) own_bef0 rfl) rfl) _ _ X289 rfl N289
            obtain ⟨fs, hr, hrun, hended, hwd⟩ := Jvm.Stand.leaveW (s := s) (vm₁ := s.vm) X291 hS0 (Nat.le_trans (Nat.le_trans (Nat.le_trans (Nat.le_trans (Nat.le_trans (Nat.le_trans (Nat.le_trans (Nat.le_trans (Nat.le_trans (Nat.le_trans (Nat.le_trans (Nat.le_trans (Nat.le_trans (Nat.le_trans (Nat.le_of_eq (congrArg Array.size hh)) E1.1) (Nat.le_of_eq W5.size.symm)) (Nat.le_of_eq W8.size.symm)) (Nat.le_of_eq W11.size.symm)) (Nat.le_of_eq W14.size.symm)) E205.1) (Nat.le_of_eq W213.size.symm)) (Nat.le_of_eq W218.size.symm)) (Nat.le_of_eq W223.size.symm)) (Nat.le_of_eq W228.size.symm)) E229.1) KC237.1) KC289.1) (Nat.le_of_eq (congrArg Array.size e291).symm)) (v := some (.int (1 : Int32))) (fun h => by rw [Bd.returns] at h; cases h)
            refine ⟨_, _, pre0 _ ?_, hrun, hended, _, _, rfl, ?_, hwd.1, hwd.2.1, hwd.2.2.1, hwd.2.2.2.mono (by decide) (by decide)⟩
            · refine pq260 _ ?_
              rw [(own_nbT hr242 hB0 hnb0_243), (own_nbF hr247 hB1 hnb1_248), (own_nbF hr252 hB2 hnb2_253), (own_nbT hr257 hB3 hnb3_258)]
              refine own_blk X257 hx hby (1 : Int32) (3 : Int32) (by decide) (by decide) _ ?_
              refine XS.aload X257.here hx rfl (hb hby at_281) rfl rfl ?_
              refine st289 _ ?_
              refine XS.astore X289.here hx rfl (hb hby at_286) rfl rfl (l' := #[.val (.int p1), .val (.int p2), .val (.int p3), .val (.int p4), .val (.int p5), .val (.int (4 : Int32)), .val (.ref b1o), .val (.ref b205o), .val (.ref b229o), .val (.int (0 : Int32)), .val (.int (1 : Int32)), .val (.int (1 : Int32)), .val (.int (0 : Int32)), .val (.int (1 : Int32)), .val (.int (3 : Int32)), .val (.ref o289), .unset, .unset]) rfl ?_
              refine XS.iload X289.here hx rfl (hb hby at_288) rfl ?_
              refine XS.iload X289.here hx rfl (hb hby at_290) rfl ?_
              refine XS.icmpYes X289.here hx rfl (pc0 := 292) (pc' := 309) rfl (hb hby at_292) rfl (tlt (by decide)).1 (by decide) (by decide) ?_
              refine st291 _ ?_
              exact retN X291 hx (t := .boolean) Bd.returns (by simp) (hb hby at_443) hr
            · show Qrm0 Z p1 p2 p3 p4 p5 G1 gv eo h0 n0 _ T291.heap _
              exact ⟨rfl, N291⟩
          · have f295 := (f238.keep KC237 (allS b229 all0))
            obtain ⟨_, _, ⟨T294, Lq294, kq294, nq294⟩, -, X294, ⟨Lc294, hQ294, lq294, yq294, zq294⟩, st294⟩ := Jvm.LawKit.callS X257 hx (y := (⟨"com/example/wrasse/wrasse/io/CorrectionFormat", "wordOf", "(Ljava/lang/String;)Ljava/util/Optional;"⟩ : MethodName)) hown (mvT hZ (hw _ (own_w 27 rfl))) (mvT hZ (hw _ (own_w 28 rfl))) (mvT hZ (hw _ (own_w 29 rfl))) (mvT hZ (hw _ (own_w 30 rfl))) (by decide) (backOf (W := 0) (rWp l Z a0 hw [] b229o [r3, r6, r9, r12] G1 gv 1 [r6, r9, r12] T237.heap n0 Z237 f295 O_S hgv O_2 P5 O_A O_H O_W TS237 (Nat.le_of_ble_eq_true rfl) (own_cons hr3 (own_cons hr6 (own_cons hr9 (own_cons hr12 own_nil)))) (own_befS (P := fun k => (([r3, r6, r9, r12] : List Int32).getD k 0 = (32 : Int32) ∨ ([r3, r6, r9, r12] : List Int32).getD k 0 = (9 : Int32) ∨ ([r3, r6, r9, r12] : List Int32).getD k 0 = (13 : Int32))) own_bef0 hB0) ⟨(Nat.le_of_ble_eq_true rfl), rfl⟩ (Nat.le_of_ble_eq_true rfl) hB1 hB3 own_aft0) hZ (hw _ (own_w 30 rfl)) (hw _ (own_w 29 rfl)) (by decide) (by decide)) (g := (mkF m 283 #[.val (.int p1), .val (.int p2), .val (.int p3), .val (.int p4), .val (.int p5), .val (.int (4 : Int32)), .val (.ref b1o), .val (.ref b205o), .val (.ref b229o), .val (.int (0 : Int32)), .val (.int (1 : Int32)), .val (.int (1 : Int32)), .val (.int (1 : Int32)), .val (.int (1 : Int32)), .val (.int (4 : Int32)), .unset, .unset, .unset] [(.ref b229o)])) rfl (by rw [hml]; rfl) (argsL := [(.ref b229o)]) (rest := []) (lenOf pd_33 rfl) rfl (by show 2 * 0 + _ ≤ _; exact Nat.le_of_eq rfl) (hb hby at_283) (fun _ _ => ⟨rfl, e257, (by decide : 5 + 4 ≤ _), (by decide : 36 + 29 ≤ _)⟩)
            dsimp only [Pt.U, Pt.locs, Pt.cells, Pt.slots] at X294 lq294 yq294 zq294 st294 hQ294
            subst lq294 yq294 zq294
            obtain ⟨o294, x294, rfl, N294q, KC294, uE294, uV294, TS294⟩ := hQ294
            have N294 := Fr.app N257 N294q
            have Z294 : n0 ≤ T294.heap.size := Nat.le_trans Z237 KC294.1
            have f297 := (f295.keep KC294 all0)
            have f298 := (f239.keep KC294 nin0)
            obtain ⟨T296, L296, X296, e296, N296, st296⟩ := own_tail (ct := [r6, r9, r12]) (sq := 1) (vs := [(.int r3), (.int r6), (.int r9), (.int r12)]) (by decide) (by decide) (by decide) (by decide) hx hZ hw hby hml hown f297 O_S hgv O_2 P5 O_A O_H O_W Z294 TS294 (Nat.le_of_ble_eq_true rfl) (own_cons hr6 (own_cons hr9 (own_cons hr12 own_nil))) uE294 uV294 f298 (Nat.le_of_ble_eq_true rfl) (by decide : 1 + 3 ≤ 4) (own_befS (P := fun k => ([.int r3, .int r6, .int r9, .int r12] : List Value).getD (1 + k) (.int (0 : Int32)) = .int (([r6, r9, r12] : List Int32).getD k 0)) (own_befS (P := fun k => ([.int r3, .int r6, .int r9, .int r12] : List Value).getD (1 + k) (.int (0 : Int32)) = .int (([r6, r9, r12] : List Int32).getD k 0)) (own_befS (P := fun k => ([.int r3, .int r6, .int r9, .int r12] : List Value).getD (1 + k) (.int (0 : Int32)) = .int (([r6, r9, r12] : List Int32).getD k 0)) own_bef0 rfl) rfl) rfl) _ _ X294 rfl N294
            obtain ⟨fs, hr, hrun, hended, hwd⟩ := Jvm.Stand.leaveW (s := s) (vm₁ := s.vm) X296 hS0 (Nat.le_trans (Nat.le_trans (Nat.le_trans (Nat.le_trans (Nat.le_trans (Nat.le_trans (Nat.le_trans (Nat.le_trans (Nat.le_trans (Nat.le_trans (Nat.le_trans (Nat.le_trans (Nat.le_trans (Nat.le_trans (Nat.le_of_eq (congrArg Array.size hh)) E1.1) (Nat.le_of_eq W5.size.symm)) (Nat.le_of_eq W8.size.symm)) (Nat.le_of_eq W11.size.symm)) (Nat.le_of_eq W14.size.symm)) E205.1) (Nat.le_of_eq W213.size.symm)) (Nat.le_of_eq W218.size.symm)) (Nat.le_of_eq W223.size.symm)) (Nat.le_of_eq W228.size.symm)) E229.1) KC237.1) KC294.1) (Nat.le_of_eq (congrArg Array.size e296).symm)) (v := some (.int (1 : Int32))) (fun h => by rw [Bd.returns] at h; cases h)
            refine ⟨_, _, pre0 _ ?_, hrun, hended, _, _, rfl, ?_, hwd.1, hwd.2.1, hwd.2.2.1, hwd.2.2.2.mono (by decide) (by decide)⟩
            · refine pq260 _ ?_
              rw [(own_nbT hr242 hB0 hnb0_243), (own_nbF hr247 hB1 hnb1_248), (own_nbF hr252 hB2 hnb2_253), (own_nbF hr257 hB3 hnb3_258)]
              refine own_blk X257 hx hby (1 : Int32) (4 : Int32) (by decide) (by decide) _ ?_
              refine XS.aload X257.here hx rfl (hb hby at_281) rfl rfl ?_
              refine st294 _ ?_
              refine XS.astore X294.here hx rfl (hb hby at_286) rfl rfl (l' := #[.val (.int p1), .val (.int p2), .val (.int p3), .val (.int p4), .val (.int p5), .val (.int (4 : Int32)), .val (.ref b1o), .val (.ref b205o), .val (.ref b229o), .val (.int (0 : Int32)), .val (.int (1 : Int32)), .val (.int (1 : Int32)), .val (.int (1 : Int32)), .val (.int (1 : Int32)), .val (.int (4 : Int32)), .val (.ref o294), .unset, .unset]) rfl ?_
              refine XS.iload X294.here hx rfl (hb hby at_288) rfl ?_
              refine XS.iload X294.here hx rfl (hb hby at_290) rfl ?_
              refine XS.icmpYes X294.here hx rfl (pc0 := 292) (pc' := 309) rfl (hb hby at_292) rfl (tlt (by decide)).1 (by decide) (by decide) ?_
              refine st296 _ ?_
              exact retN X296 hx (t := .boolean) Bd.returns (by simp) (hb hby at_443) hr
            · show Qrm0 Z p1 p2 p3 p4 p5 G1 gv eo h0 n0 _ T296.heap _
              exact ⟨rfl, N296⟩
    · by_cases hB1 : (r6 = (32 : Int32) ∨ r6 = (9 : Int32) ∨ r6 = (13 : Int32))
      · by_cases hB2 : (r9 = (32 : Int32) ∨ r9 = (9 : Int32) ∨ r9 = (13 : Int32))
        · by_cases hB3 : (r12 = (32 : Int32) ∨ r12 = (9 : Int32) ∨ r12 = (13 : Int32))
          · have f300 := (f238.keep KC237 (allS b229 all0))
            obtain ⟨_, _, ⟨T299, Lq299, kq299, nq299⟩, -, X299, ⟨Lc299, hQ299, lq299, yq299, zq299⟩, st299⟩ := Jvm.LawKit.callS X257 hx (y := (⟨"com/example/wrasse/wrasse/io/CorrectionFormat", "wordOf", "(Ljava/lang/String;)Ljava/util/Optional;"⟩ : MethodName)) hown (mvT hZ (hw _ (own_w 27 rfl))) (mvT hZ (hw _ (own_w 28 rfl))) (mvT hZ (hw _ (own_w 29 rfl))) (mvT hZ (hw _ (own_w 30 rfl))) (by decide) (backOf (W := 0) (rWp l Z a0 hw [] b229o [r3, r6, r9, r12] G1 gv 0 [r3] T237.heap n0 Z237 f300 O_S hgv O_2 P5 O_A O_H O_W TS237 (Nat.le_of_ble_eq_true rfl) (own_cons hr3 (own_cons hr6 (own_cons hr9 (own_cons hr12 own_nil)))) own_bef0 ⟨(Nat.le_of_ble_eq_true rfl), rfl⟩ (Nat.le_of_ble_eq_true rfl) hB0 hB0 (own_aftS (P := fun k => (([r3, r6, r9, r12] : List Int32).getD k 0 = (32 : Int32) ∨ ([r3, r6, r9, r12] : List Int32).getD k 0 = (9 : Int32) ∨ ([r3, r6, r9, r12] : List Int32).getD k 0 = (13 : Int32))) (e := 1) (n := 4) (own_aftS (P := fun k => (([r3, r6, r9, r12] : List Int32).getD k 0 = (32 : Int32) ∨ ([r3, r6, r9, r12] : List Int32).getD k 0 = (9 : Int32) ∨ ([r3, r6, r9, r12] : List Int32).getD k 0 = (13 : Int32))) (e := 2) (n := 4) (own_aftS (P := fun k => (([r3, r6, r9, r12] : List Int32).getD k 0 = (32 : Int32) ∨ ([r3, r6, r9, r12] : List Int32).getD k 0 = (9 : Int32) ∨ ([r3, r6, r9, r12] : List Int32).getD k 0 = (13 : Int32))) (e := 3) (n := 4) own_aft0 hB3) hB2) hB1)) hZ (hw _ (own_w 30 rfl)) (hw _ (own_w 29 rfl)) (by decide) (by decide)) (g := (mkF m 283 #[.val (.int p1), .val (.int p2), .val (.int p3), .val (.int p4), .val (.int p5), .val (.int (4 : Int32)), .val (.ref b1o), .val (.ref b205o), .val (.ref b229o), .val (.int (1 : Int32)), .val (.int (0 : Int32)), .val (.int (0 : Int32)), .val (.int (0 : Int32)), .val (.int (0 : Int32)), .val (.int (1 : Int32)), .unset, .unset, .unset] [(.ref b229o)])) rfl (by rw [hml]; rfl) (argsL := [(.ref b229o)]) (rest := []) (lenOf pd_33 rfl) rfl (by show 2 * 0 + _ ≤ _; exact Nat.le_of_eq rfl) (hb hby at_283) (fun _ _ => ⟨rfl, e257, (by decide : 5 + 4 ≤ _), (by decide : 36 + 29 ≤ _)⟩)
            dsimp only [Pt.U, Pt.locs, Pt.cells, Pt.slots] at X299 lq299 yq299 zq299 st299 hQ299
            subst lq299 yq299 zq299
            obtain ⟨o299, x299, rfl, N299q, KC299, uE299, uV299, TS299⟩ := hQ299
            have N299 := Fr.app N257 N299q
            have Z299 : n0 ≤ T299.heap.size := Nat.le_trans Z237 KC299.1
            have f302 := (f300.keep KC299 all0)
            have f303 := (f239.keep KC299 nin0)
            obtain ⟨T301, L301, X301, e301, N301, st301⟩ := own_tail (ct := [r3]) (sq := 0) (vs := [(.int r3), (.int r6), (.int r9), (.int r12)]) (by decide) (by decide) (by decide) (by decide) hx hZ hw hby hml hown f302 O_S hgv O_2 P5 O_A O_H O_W Z299 TS299 (Nat.le_of_ble_eq_true rfl) (own_cons hr3 own_nil) uE299 uV299 f303 (Nat.le_of_ble_eq_true rfl) (by decide : 0 + 1 ≤ 4) (own_befS (P := fun k => ([.int r3, .int r6, .int r9, .int r12] : List Value).getD (0 + k) (.int (0 : Int32)) = .int (([r3] : List Int32).getD k 0)) own_bef0 rfl) _ _ X299 rfl N299
            obtain ⟨fs, hr, hrun, hended, hwd⟩ := Jvm.Stand.leaveW (s := s) (vm₁ := s.vm) X301 hS0 (Nat.le_trans (Nat.le_trans (Nat.le_trans (Nat.le_trans (Nat.le_trans (Nat.le_trans (Nat.le_trans (Nat.le_trans (Nat.le_trans (Nat.le_trans (Nat.le_trans (Nat.le_trans (Nat.le_trans (Nat.le_trans (Nat.le_of_eq (congrArg Array.size hh)) E1.1) (Nat.le_of_eq W5.size.symm)) (Nat.le_of_eq W8.size.symm)) (Nat.le_of_eq W11.size.symm)) (Nat.le_of_eq W14.size.symm)) E205.1) (Nat.le_of_eq W213.size.symm)) (Nat.le_of_eq W218.size.symm)) (Nat.le_of_eq W223.size.symm)) (Nat.le_of_eq W228.size.symm)) E229.1) KC237.1) KC299.1) (Nat.le_of_eq (congrArg Array.size e301).symm)) (v := some (.int (1 : Int32))) (fun h => by rw [Bd.returns] at h; cases h)
            refine ⟨_, _, pre0 _ ?_, hrun, hended, _, _, rfl, ?_, hwd.1, hwd.2.1, hwd.2.2.1, hwd.2.2.2.mono (by decide) (by decide)⟩
            · refine pq260 _ ?_
              rw [(own_nbF hr242 hB0 hnb0_243), (own_nbT hr247 hB1 hnb1_248), (own_nbT hr252 hB2 hnb2_253), (own_nbT hr257 hB3 hnb3_258)]
              refine own_blk X257 hx hby (0 : Int32) (1 : Int32) (by decide) (by decide) _ ?_
              refine XS.aload X257.here hx rfl (hb hby at_281) rfl rfl ?_
              refine st299 _ ?_
              refine XS.astore X299.here hx rfl (hb hby at_286) rfl rfl (l' := #[.val (.int p1), .val (.int p2), .val (.int p3), .val (.int p4), .val (.int p5), .val (.int (4 : Int32)), .val (.ref b1o), .val (.ref b205o), .val (.ref b229o), .val (.int (1 : Int32)), .val (.int (0 : Int32)), .val (.int (0 : Int32)), .val (.int (0 : Int32)), .val (.int (0 : Int32)), .val (.int (1 : Int32)), .val (.ref o299), .unset, .unset]) rfl ?_
              refine XS.iload X299.here hx rfl (hb hby at_288) rfl ?_
              refine XS.iload X299.here hx rfl (hb hby at_290) rfl ?_
              refine XS.icmpYes X299.here hx rfl (pc0 := 292) (pc' := 309) rfl (hb hby at_292) rfl (tlt (by decide)).1 (by decide) (by decide) ?_
              refine st301 _ ?_
              exact retN X301 hx (t := .boolean) Bd.returns (by simp) (hb hby at_443) hr
            · show Qrm0 Z p1 p2 p3 p4 p5 G1 gv eo h0 n0 _ T301.heap _
              exact ⟨rfl, N301⟩
          · have f305 := (f238.keep KC237 (allS b229 all0))
            obtain ⟨_, _, ⟨T304, Lq304, kq304, nq304⟩, -, X304, ⟨Lc304, hQ304, lq304, yq304, zq304⟩, st304⟩ := Jvm.LawKit.callS X257 hx (y := (⟨"com/example/wrasse/wrasse/io/CorrectionFormat", "wordOf", "(Ljava/lang/String;)Ljava/util/Optional;"⟩ : MethodName)) hown (mvT hZ (hw _ (own_w 27 rfl))) (mvT hZ (hw _ (own_w 28 rfl))) (mvT hZ (hw _ (own_w 29 rfl))) (mvT hZ (hw _ (own_w 30 rfl))) (by decide) (backOf (W := 0) (rWp l Z a0 hw [] b229o [r3, r6, r9, r12] G1 gv 0 [r3, r6, r9, r12] T237.heap n0 Z237 f305 O_S hgv O_2 P5 O_A O_H O_W TS237 (Nat.le_of_ble_eq_true rfl) (own_cons hr3 (own_cons hr6 (own_cons hr9 (own_cons hr12 own_nil)))) own_bef0 ⟨(Nat.le_of_ble_eq_true rfl), rfl⟩ (Nat.le_of_ble_eq_true rfl) hB0 hB3 own_aft0) hZ (hw _ (own_w 30 rfl)) (hw _ (own_w 29 rfl)) (by decide) (by decide)) (g := (mkF m 283 #[.val (.int p1), .val (.int p2), .val (.int p3), .val (.int p4), .val (.int p5), .val (.int (4 : Int32)), .val (.ref b1o), .val (.ref b205o), .val (.ref b229o), .val (.int (1 : Int32)), .val (.int (0 : Int32)), .val (.int (0 : Int32)), .val (.int (1 : Int32)), .val (.int (0 : Int32)), .val (.int (4 : Int32)), .unset, .unset, .unset] [(.ref b229o)])) rfl (by rw [hml]; rfl) (argsL := [(.ref b229o)]) (rest := []) (lenOf pd_33 rfl) rfl (by show 2 * 0 + _ ≤ _; exact Nat.le_of_eq rfl) (hb hby at_283) (fun _ _ => ⟨rfl, e257, (by decide : 5 + 4 ≤ _), (by decide : 36 + 29 ≤ _)⟩)
            dsimp only [Pt.U, Pt.locs, Pt.cells, Pt.slots] at X304 lq304 yq304 zq304 st304 hQ304
            subst lq304 yq304 zq304
            obtain ⟨o304, x304, rfl, N304q, KC304, uE304, uV304, TS304⟩ := hQ304
            have N304 := Fr.app N257 N304q
            have Z304 : n0 ≤ T304.heap.size := Nat.le_trans Z237 KC304.1
            have f307 := (f305.keep KC304 all0)
            have f308 := (f239.keep KC304 nin0)
            obtain ⟨T306, L306, X306, e306, N306, st306⟩ := own_tail (ct := [r3, r6, r9, r12]) (sq := 0) (vs := [(.int r3), (.int r6), (.int r9), (.int r12)]) (by decide) (by decide) (by decide) (by decide) hx hZ hw hby hml hown f307 O_S hgv O_2 P5 O_A O_H O_W Z304 TS304 (Nat.le_of_ble_eq_true rfl) (own_cons hr3 (own_cons hr6 (own_cons hr9 (own_cons hr12 own_nil)))) uE304 uV304 f308 (Nat.le_of_ble_eq_true rfl) (by decide : 0 + 4 ≤ 4) (own_befS (P := fun k => ([.int r3, .int r6, .int r9, .int r12] : List Value).getD (0 + k) (.int (0 : Int32)) = .int (([r3, r6, r9, r12] : List Int32).getD k 0)) (own_befS (P := fun k => ([.int r3, .int r6, .int r9, .int r12] : List Value).getD (0 + k) (.int (0 : Int32)) = .int (([r3, r6, r9, r12] : List Int32).getD k 0)) (own_befS (P := fun k => ([.int r3, .int r6, .int r9, .int r12] : List Value).getD (0 + k) (.int (0 : Int32)) = .int (([r3, r6, r9, r12] : List Int32).getD k 0)) (own_befS (P := fun k => ([.int r3, .int r6, .int r9, .int r12] : List Value).getD (0 + k) (.int (0 : Int32)) = .int (([r3, r6, r9, r12] : List Int32).getD k 0)) own_bef0 rfl) rfl) rfl) rfl) _ _ X304 rfl N304
            obtain ⟨fs, hr, hrun, hended, hwd⟩ := Jvm.Stand.leaveW (s := s) (vm₁ := s.vm) X306 hS0 (Nat.le_trans (Nat.le_trans (Nat.le_trans (Nat.le_trans (Nat.le_trans (Nat.le_trans (Nat.le_trans (Nat.le_trans (Nat.le_trans (Nat.le_trans (Nat.le_trans (Nat.le_trans (Nat.le_trans (Nat.le_trans (Nat.le_of_eq (congrArg Array.size hh)) E1.1) (Nat.le_of_eq W5.size.symm)) (Nat.le_of_eq W8.size.symm)) (Nat.le_of_eq W11.size.symm)) (Nat.le_of_eq W14.size.symm)) E205.1) (Nat.le_of_eq W213.size.symm)) (Nat.le_of_eq W218.size.symm)) (Nat.le_of_eq W223.size.symm)) (Nat.le_of_eq W228.size.symm)) E229.1) KC237.1) KC304.1) (Nat.le_of_eq (congrArg Array.size e306).symm)) (v := some (.int (1 : Int32))) (fun h => by rw [Bd.returns] at h; cases h)
            refine ⟨_, _, pre0 _ ?_, hrun, hended, _, _, rfl, ?_, hwd.1, hwd.2.1, hwd.2.2.1, hwd.2.2.2.mono (by decide) (by decide)⟩
            · refine pq260 _ ?_
              rw [(own_nbF hr242 hB0 hnb0_243), (own_nbT hr247 hB1 hnb1_248), (own_nbT hr252 hB2 hnb2_253), (own_nbF hr257 hB3 hnb3_258)]
              refine own_blk X257 hx hby (0 : Int32) (4 : Int32) (by decide) (by decide) _ ?_
              refine XS.aload X257.here hx rfl (hb hby at_281) rfl rfl ?_
              refine st304 _ ?_
              refine XS.astore X304.here hx rfl (hb hby at_286) rfl rfl (l' := #[.val (.int p1), .val (.int p2), .val (.int p3), .val (.int p4), .val (.int p5), .val (.int (4 : Int32)), .val (.ref b1o), .val (.ref b205o), .val (.ref b229o), .val (.int (1 : Int32)), .val (.int (0 : Int32)), .val (.int (0 : Int32)), .val (.int (1 : Int32)), .val (.int (0 : Int32)), .val (.int (4 : Int32)), .val (.ref o304), .unset, .unset]) rfl ?_
              refine XS.iload X304.here hx rfl (hb hby at_288) rfl ?_
              refine XS.iload X304.here hx rfl (hb hby at_290) rfl ?_
              refine XS.icmpYes X304.here hx rfl (pc0 := 292) (pc' := 309) rfl (hb hby at_292) rfl (tlt (by decide)).1 (by decide) (by decide) ?_
              refine st306 _ ?_
              exact retN X306 hx (t := .boolean) Bd.returns (by simp) (hb hby at_443) hr
            · show Qrm0 Z p1 p2 p3 p4 p5 G1 gv eo h0 n0 _ T306.heap _
              exact ⟨rfl, N306⟩
        · by_cases hB3 : (r12 = (32 : Int32) ∨ r12 = (9 : Int32) ∨ r12 = (13 : Int32))
          · have f310 := (f238.keep KC237 (allS b229 all0))
            obtain ⟨_, _, ⟨T309, Lq309, kq309, nq309⟩, -, X309, ⟨Lc309, hQ309, lq309, yq309, zq309⟩, st309⟩ := Jvm.LawKit.callS X257 hx (y := (⟨"com/example/wrasse/wrasse/io/CorrectionFormat", "wordOf", "(Ljava/lang/String;)Ljava/util/Optional;"⟩ : MethodName)) hown (mvT hZ (hw _ (own_w 27 rfl))) (mvT hZ (hw _ (own_w 28 rfl))) (mvT hZ (hw _ (own_w 29 rfl))) (mvT hZ (hw _ (own_w 30 rfl))) (by decide) (backOf (W := 0) (rWp l Z a0 hw [] b229o [r3, r6, r9, r12] G1 gv 0 [r3, r6, r9] T237.heap n0 Z237 f310 O_S hgv O_2 P5 O_A O_H O_W TS237 (Nat.le_of_ble_eq_true rfl) (own_cons hr3 (own_cons hr6 (own_cons hr9 (own_cons hr12 own_nil)))) own_bef0 ⟨(Nat.le_of_ble_eq_true rfl), rfl⟩ (Nat.le_of_ble_eq_true rfl) hB0 hB2 (own_aftS (P := fun k => (([r3, r6, r9, r12] : List Int32).getD k 0 = (32 : Int32) ∨ ([r3, r6, r9, r12] : List Int32).getD k 0 = (9 : Int32) ∨ ([r3, r6, r9, r12] : List Int32).getD k 0 = (13 : Int32))) (e := 3) (n := 4) own_aft0 hB3)) hZ (hw _ (own_w 30 rfl)) (hw _ (own_w 29 rfl)) (by decide) (by decide)) (g := (mkF m 283 #[.val (.int p1), .val (.int p2), .val (.int p3), .val (.int p4), .val (.int p5), .val (.int (4 : Int32)), .val (.ref b1o), .val (.ref b205o), .val (.ref b229o), .val (.int (1 : Int32)), .val (.int (0 : Int32)), .val (.int (1 : Int32)), .val (.int (0 : Int32)), .val (.int (0 : Int32)), .val (.int (3 : Int32)), .unset, .unset, .unset] [(.ref b229o)])) rfl (by rw [hml]; rfl) (argsL := [(.ref b229o)]) (rest := []) (lenOf pd_33 rfl) rfl (by show 2 * 0 + _ ≤ _; exact Nat.le_of_eq rfl) (hb hby at_283) (fun _ _ => ⟨rfl, e257, (by decide : 5 + 4 ≤ _), (by decide : 36 + 29 ≤ _)⟩)
            dsimp only [Pt.U, Pt.locs, Pt.cells, Pt.slots] at X309 lq309 yq309 zq309 st309 hQ309
            subst lq309 yq309 zq309
            obtain ⟨o309, x309, rfl, N309q, KC309, uE309, uV309, TS309⟩ := hQ309
            have N309 := Fr.app N257 N309q
            have Z309 : n0 ≤ T309.heap.size := Nat.le_trans Z237 KC309.1
            have f312 := (f310.keep KC309 all0)
            have f313 := (f239.keep KC309 nin0)
            obtain ⟨T311, L311, X311, e311, N311, st311⟩ := own_tail (ct := [r3, r6, r9]) (sq := 0) (vs := [(.int r3), (.int r6), (.int r9), (.int r12)]) (by decide) (by decide) (by decide) (by decide) hx hZ hw hby hml hown f312 O_S hgv O_2 P5 O_A O_H O_W Z309 TS309 (Nat.le_of_ble_eq_true rfl) (own_cons hr3 (own_cons hr6 (own_cons hr9 own_nil))) uE309 uV309 f313 (Nat.le_of_ble_eq_true rfl) (by decide : 0 + 3 ≤ 4) (own_befS (P := fun k => ([.int r3, .int r6, .int r9, .int r12] : List Value).getD (0 + k) (.int (0 : Int32)) = .int (([r3, r6, r9] : List Int32).getD k 0)) (own_befS (P := fun k => ([.int r3, .int r6, .int r9, .int r12] : List Value).getD (0 + k) (.int (0 : Int32)) = .int (([r3, r6, r9] : List Int32).getD k 0)) (own_befS (P := fun k => ([.int r3, .int r6, .int r9, .int r12] : List Value).getD (0 + k) (.int (0 : Int32)) = .int (([r3, r6, r9] : List Int32).getD k 0)) own_bef0 rfl) rfl) rfl) _ _ X309 rfl N309
            obtain ⟨fs, hr, hrun, hended, hwd⟩ := Jvm.Stand.leaveW (s := s) (vm₁ := s.vm) X311 hS0 (Nat.le_trans (Nat.le_trans (Nat.le_trans (Nat.le_trans (Nat.le_trans (Nat.le_trans (Nat.le_trans (Nat.le_trans (Nat.le_trans (Nat.le_trans (Nat.le_trans (Nat.le_trans (Nat.le_trans (Nat.le_trans (Nat.le_of_eq (congrArg Array.size hh)) E1.1) (Nat.le_of_eq W5.size.symm)) (Nat.le_of_eq W8.size.symm)) (Nat.le_of_eq W11.size.symm)) (Nat.le_of_eq W14.size.symm)) E205.1) (Nat.le_of_eq W213.size.symm)) (Nat.le_of_eq W218.size.symm)) (Nat.le_of_eq W223.size.symm)) (Nat.le_of_eq W228.size.symm)) E229.1) KC237.1) KC309.1) (Nat.le_of_eq (congrArg Array.size e311).symm)) (v := some (.int (1 : Int32))) (fun h => by rw [Bd.returns] at h; cases h)
            refine ⟨_, _, pre0 _ ?_, hrun, hended, _, _, rfl, ?_, hwd.1, hwd.2.1, hwd.2.2.1, hwd.2.2.2.mono (by decide) (by decide)⟩
            · refine pq260 _ ?_
              rw [(own_nbF hr242 hB0 hnb0_243), (own_nbT hr247 hB1 hnb1_248), (own_nbF hr252 hB2 hnb2_253), (own_nbT hr257 hB3 hnb3_258)]
              refine own_blk X257 hx hby (0 : Int32) (3 : Int32) (by decide) (by decide) _ ?_
              refine XS.aload X257.here hx rfl (hb hby at_281) rfl rfl ?_
              refine st309 _ ?_
              refine XS.astore X309.here hx rfl (hb hby at_286) rfl rfl (l' := #[.val (.int p1), .val (.int p2), .val (.int p3), .val (.int p4), .val (.int p5), .val (.int (4 : Int32)), .val (.ref b1o), .val (.ref b205o), .val (.ref b229o), .val (.int (1 : Int32)), .val (.int (0 : Int32)), .val (.int (1 : Int32)), .val (.int (0 : Int32)), .val (.int (0 : Int32)), .val (.int (3 : Int32)), .val (.ref o309), .unset, .unset]) rfl ?_
              refine XS.iload X309.here hx rfl (hb hby at_288) rfl ?_
              refine XS.iload X309.here hx rfl (hb hby at_290) rfl ?_
              refine XS.icmpYes X309.here hx rfl (pc0 := 292) (pc' := 309) rfl (hb hby at_292) rfl (tlt (by decide)).1 (by decide) (by decide) ?_
              refine st311 _ ?_
              exact retN X311 hx (t := .boolean) Bd.returns (by simp) (hb hby at_443) hr
            · show Qrm0 Z p1 p2 p3 p4 p5 G1 gv eo h0 n0 _ T311.heap _
              exact ⟨rfl, N311⟩
          · have f315 := (f238.keep KC237 (allS b229 all0))
            obtain ⟨_, _, ⟨T314, Lq314, kq314, nq314⟩, -, X314, ⟨Lc314, hQ314, lq314, yq314, zq314⟩, st314⟩ := Jvm.LawKit.callS X257 hx (y := (⟨"com/example/wrasse/wrasse/io/CorrectionFormat", "wordOf", "(Ljava/lang/String;)Ljava/util/Optional;"⟩ : MethodName)) hown (mvT hZ (hw _ (own_w 27 rfl))) (mvT hZ (hw _ (own_w 28 rfl))) (mvT hZ (hw _ (own_w 29 rfl))) (mvT hZ (hw _ (own_w 30 rfl))) (by decide) (backOf (W := 0) (rWp l Z a0 hw [] b229o [r3, r6, r9, r12] G1 gv 0 [r3, r6, r9, r12] T237.heap n0 Z237 f315 O_S hgv O_2 P5 O_A O_H O_W TS237 (Nat.le_of_ble_eq_true rfl) (own_cons hr3 (own_cons hr6 (own_cons hr9 (own_cons hr12 own_nil)))) own_bef0 ⟨(Nat.le_of_ble_eq_true rfl), rfl⟩ (Nat.le_of_ble_eq_true rfl) hB0 hB3 own_aft0) hZ (hw _ (own_w 30 rfl)) (hw _ (own_w 29 rfl)) (by decide) (by decide)) (g := (mkF m 283 #[.val (.int p1), .val (.int p2), .val (.int p3), .val (.int p4), .val (.int p5), .val (.int (4 : Int32)), .val (.ref b1o), .val (.ref b205o), .val (.ref b229o), .val (.int (1 : Int32)), .val (.int (0 : Int32)), .val (.int (1 : Int32)), .val (.int (1 : Int32)), .val (.int (0 : Int32)), .val (.int (4 : Int32)), .unset, .unset, .unset] [(.ref b229o)])) rfl (by rw [hml]; rfl) (argsL := [(.ref b229o)]) (rest := []) (lenOf pd_33 rfl) rfl (by show 2 * 0 + _ ≤ _; exact Nat.le_of_eq rfl) (hb hby at_283) (fun _ _ => ⟨rfl, e257, (by decide : 5 + 4 ≤ _), (by decide : 36 + 29 ≤ _)⟩)
            dsimp only [Pt.U, Pt.locs, Pt.cells, Pt.slots] at X314 lq314 yq314 zq314 st314 hQ314
            subst lq314 yq314 zq314
            obtain ⟨o314, x314, rfl, N314q, KC314, uE314, uV314, TS314⟩ := hQ314
            have N314 := Fr.app N257 N314q
            have Z314 : n0 ≤ T314.heap.size := Nat.le_trans Z237 KC314.1
            have f317 := (f315.keep KC314 all0)
            have f318 := (f239.keep KC314 nin0)
            obtain ⟨T316, L316, X316, e316, N316, st316⟩ := own_tail (ct := [r3, r6, r9, r12]) (sq := 0) (vs := [(.int r3), (.int r6), (.int r9), (.int r12)]) (by decide) (by decide) (by decide) (by decide) hx hZ hw hby hml hown f317 O_S hgv O_2 P5 O_A O_H O_W Z314 TS314 (Nat.le_of_ble_eq_true rfl) (own_cons hr3 (own_cons hr6 (own_cons hr9 (own_cons hr12 own_nil)))) uE314 uV314 f318 (Nat.le_of_ble_eq_true rfl) (by decide : 0 + 4 ≤ 4) (own_befS (P := fun k => ([.int r3, .int r6, .int r9, .int r12] : List Value).getD (0 + k) (.int (0 : Int32)) = .int (([r3, r6, r9, r12] : List Int32).getD k 0)) (own_befS (P := fun k => ([.int r3, .int r6, .int r9, .int r12] : List Value).getD (0 + k) (.int (0 : Int32)) = .int (([r3, r6, r9, r12] : List Int32).getD k 0)) (own_befS (P := fun k => ([.int r3, .int r6, .int r9, .int r12] : List Value).getD (0 + k) (.int (0 : Int32)) = .int (([r3, r6, r9, r12] : List Int32).getD k 0)) (own_befS (P := fun k => ([.int r3, .int r6, .int r9, .int r12] : List Value).getD (0 + k) (.int (0 : Int32)) = .int (([r3, r6, r9, r12] : List Int32).getD k 0)) own_bef0 rfl) rfl) rfl) rfl) _ _ X314 rfl N314
            obtain ⟨fs, hr, hrun, hended, hwd⟩ := Jvm.Stand.leaveW (s := s) (vm₁ := s.vm) X316 hS0 (Nat.le_trans (Nat.le_trans (Nat.le_trans (Nat.le_trans (Nat.le_trans (Nat.le_trans (Nat.le_trans (Nat.le_trans (Nat.le_trans (Nat.le_trans (Nat.le_trans (Nat.le_trans (Nat.le_trans (Nat.le_trans (Nat.le_of_eq (congrArg Array.size hh)) E1.1) (Nat.le_of_eq W5.size.symm)) (Nat.le_of_eq W8.size.symm)) (Nat.le_of_eq W11.size.symm)) (Nat.le_of_eq W14.size.symm)) E205.1) (Nat.le_of_eq W213.size.symm)) (Nat.le_of_eq W218.size.symm)) (Nat.le_of_eq W223.size.symm)) (Nat.le_of_eq W228.size.symm)) E229.1) KC237.1) KC314.1) (Nat.le_of_eq (congrArg Array.size e316).symm)) (v := some (.int (1 : Int32))) (fun h => by rw [Bd.returns] at h; cases h)
            refine ⟨_, _, pre0 _ ?_, hrun, hended, _, _, rfl, ?_, hwd.1, hwd.2.1, hwd.2.2.1, hwd.2.2.2.mono (by decide) (by decide)⟩
            · refine pq260 _ ?_
              rw [(own_nbF hr242 hB0 hnb0_243), (own_nbT hr247 hB1 hnb1_248), (own_nbF hr252 hB2 hnb2_253), (own_nbF hr257 hB3 hnb3_258)]
              refine own_blk X257 hx hby (0 : Int32) (4 : Int32) (by decide) (by decide) _ ?_
              refine XS.aload X257.here hx rfl (hb hby at_281) rfl rfl ?_
              refine st314 _ ?_
              refine XS.astore X314.here hx rfl (hb hby at_286) rfl rfl (l' := #[.val (.int p1), .val (.int p2), .val (.int p3), .val (.int p4), .val (.int p5), .val (.int (4 : Int32)), .val (.ref b1o), .val (.ref b205o), .val (.ref b229o), .val (.int (1 : Int32)), .val (.int (0 : Int32)), .val (.int (1 : Int32)), .val (.int (1 : Int32)), .val (.int (0 : Int32)), .val (.int (4 : Int32)), .val (.ref o314), .unset, .unset]) rfl ?_
              refine XS.iload X314.here hx rfl (hb hby at_288) rfl ?_
              refine XS.iload X314.here hx rfl (hb hby at_290) rfl ?_
              refine XS.icmpYes X314.here hx rfl (pc0 := 292) (pc' := 309) rfl (hb hby at_292) rfl (tlt (by decide)).1 (by decide) (by decide) ?_
              refine st316 _ ?_
              exact retN X316 hx (t := .boolean) Bd.returns (by simp) (hb hby at_443) hr
            · show Qrm0 Z p1 p2 p3 p4 p5 G1 gv eo h0 n0 _ T316.heap _
              exact ⟨rfl, N316⟩
      · by_cases hB2 : (r9 = (32 : Int32) ∨ r9 = (9 : Int32) ∨ r9 = (13 : Int32))
        · by_cases hB3 : (r12 = (32 : Int32) ∨ r12 = (9 : Int32) ∨ r12 = (13 : Int32))
          · have f320 := (f238.keep KC237 (allS b229 all0))
            obtain ⟨_, _, ⟨T319, Lq319, kq319, nq319⟩, -, X319, ⟨Lc319, hQ319, lq319, yq319, zq319⟩, st319⟩ := Jvm.LawKit.callS X257 hx (y := (⟨"com/example/wrasse/wrasse/io/CorrectionFormat", "wordOf", "(Ljava/lang/String;)Ljava/util/Optional;"⟩ : MethodName)) hown (mvT hZ (hw _ (own_w 27 rfl))) (mvT hZ (hw _ (own_w 28 rfl))) (mvT hZ (hw _ (own_w 29 rfl))) (mvT hZ (hw _ (own_w 30 rfl))) (by decide) (backOf (W := 0) (rWp l Z a0 hw [] b229o [r3, r6, r9, r12] G1 gv 0 [r3, r6] T237.heap n0 Z237 f320 O_S hgv O_2 P5 O_A O_H O_W TS237 (Nat.le_of_ble_eq_true rfl) (own_cons hr3 (own_cons hr6 (own_cons hr9 (own_cons hr12 own_nil)))) own_bef0 ⟨(Nat.le_of_ble_eq_true rfl), rfl⟩ (Nat.le_of_ble_eq_true rfl) hB0 hB1 (own_aftS (P := fun k => (([r3, r6, r9, r12] : List Int32).getD k 0 = (32 : Int32) ∨ ([r3, r6, r9, r12] : List Int32).getD k 0 = (9 : Int32) ∨ ([r3, r6, r9, r12] : List Int32).getD k 0 = (13 : Int32))) (e := 2) (n := 4) (own_aftS (P := fun k => (([r3, r6, r9, r12] : List Int32).getD k 0 = (32 : Int32) ∨ ([r3, r6, r9, r12] : List Int32).getD k 0 = (9 : Int32) ∨ ([r3, r6, r9, r12] : List Int32).getD k 0 = (13 : Int32))) (e := 3) (n := 4) own_aft0 hB3) hB2)) hZ (hw _ (own_w 30 rfl)) (hw _ (own_w 29 rfl)) (by decide) (by decide)) (g := (mkF m 283 #[.val (.int p1), .val (.int p2), .val (.int p3), .val (.int p4), .val (.int p5), .val (.int (4 : Int32)), .val (.ref b1o), .val (.ref b205o), .val (.ref b229o), .val (.int (1 : Int32)), .val (.int (1 : Int32)), .val (.int (0 : Int32)), .val (.int (0 : Int32)), .val (.int (0 : Int32)), .val (.int (2 : Int32)), .unset, .unset, .unset] [(.ref b229o)])) rfl (by rw [hml]; rfl) (argsL := [(.ref b229o)]) (rest := []) (lenOf pd_33 rfl) rfl (by show 2 * 0 + _ ≤ _; exact Nat.le_of_eq rfl) (hb hby at_283) (fun _ _ => ⟨rfl, e257, (by decide : 5 + 4 ≤ _), (by decide : 36 + 29 ≤ _)⟩)
            dsimp only [Pt.U, Pt.locs, Pt.cells, Pt.slots] at X319 lq319 yq319 zq319 st319 hQ319
            subst lq319 yq319 zq319
            obtain ⟨o319, x319, rfl, N319q, KC319, uE319, uV319, TS319⟩ := hQ319
            have N319 := Fr.app N257 N319q
            have Z319 : n0 ≤ T319.heap.size := Nat.le_trans Z237 KC319.1
            have f322 := (f320.keep KC319 all0)
            have f323 := (f239.keep KC319 nin0)
            obtain ⟨T321, L321, X321, e321, N321, st321⟩ := own_tail (ct := [r3, r6]) (sq := 0) (vs := [(.int r3), (.int r6), (.int r9), (.int r12)]) (by decide) (by decide) (by decide) (by decide) hx hZ hw hby hml hown f322 O_S hgv O_2 P5 O_A O_H O_W Z319 TS319 (Nat.le_of_ble_eq_true rfl) (own_cons hr3 (own_cons hr6 own_nil)) uE319 uV319 f323 (Nat.le_of_ble_eq_true rfl) (by decide : 0 + 2 ≤ 4) (own_befS (P := fun k => ([.int r3, .int r6, .int r9, .int r12] : List Value).getD (0 + k) (.int (0 : Int32)) = .int (([r3, r6] : List Int32).getD k 0)) (own_befS (P := fun k => ([.int r3, .int r6, .int r9, .int r12] : List Value).getD (0 + k) (.int (0 : Int32)) = .int (([r3, r6] : List Int32).getD k 0)) own_bef0 rfl) rfl) _ _ X319 rfl N319
            obtain ⟨fs, hr, hrun, hended, hwd⟩ := Jvm.Stand.leaveW (s := s) (vm₁ := s.vm) X321 hS0 (Nat.le_trans (Nat.le_trans (Nat.le_trans (Nat.le_trans (Nat.le_trans (Nat.le_trans (Nat.le_trans (Nat.le_trans (Nat.le_trans (Nat.le_trans (Nat.le_trans (Nat.le_trans (Nat.le_trans (Nat.le_trans (Nat.le_of_eq (congrArg Array.size hh)) E1.1) (Nat.le_of_eq W5.size.symm)) (Nat.le_of_eq W8.size.symm)) (Nat.le_of_eq W11.size.symm)) (Nat.le_of_eq W14.size.symm)) E205.1) (Nat.le_of_eq W213.size.symm)) (Nat.le_of_eq W218.size.symm)) (Nat.le_of_eq W223.size.symm)) (Nat.le_of_eq W228.size.symm)) E229.1) KC237.1) KC319.1) (Nat.le_of_eq (congrArg Array.size e321).symm)) (v := some (.int (1 : Int32))) (fun h => by rw [Bd.returns] at h; cases h)
            refine ⟨_, _, pre0 _ ?_, hrun, hended, _, _, rfl, ?_, hwd.1, hwd.2.1, hwd.2.2.1, hwd.2.2.2.mono (by decide) (by decide)⟩
            · refine pq260 _ ?_
              rw [(own_nbF hr242 hB0 hnb0_243), (own_nbF hr247 hB1 hnb1_248), (own_nbT hr252 hB2 hnb2_253), (own_nbT hr257 hB3 hnb3_258)]
              refine own_blk X257 hx hby (0 : Int32) (2 : Int32) (by decide) (by decide) _ ?_
              refine XS.aload X257.here hx rfl (hb hby at_281) rfl rfl ?_
              refine st319 _ ?_
              refine XS.astore X319.here hx rfl (hb hby at_286) rfl rfl (l' := #[.val (.int p1), .val (.int p2), .val (.int p3), .val (.int p4), .val (.int p5), .val (.int (4 : Int32)), .val (.ref b1o), .val (.ref b205o), .val (.ref b229o), .val (.int (1 : Int32)), .val (.int (1 : Int32)), .val (.int (0 : Int32)), .val (.int (0 : Int32)), .val (.int (0 : Int32)), .val (.int (2 : Int32)), .val (.ref o319), .unset, .unset]) rfl ?_
              refine XS.iload X319.here hx rfl (hb hby at_288) rfl ?_
              refine XS.iload X319.here hx rfl (hb hby at_290) rfl ?_
              refine XS.icmpYes X319.here hx rfl (pc0 := 292) (pc' := 309) rfl (hb hby at_292) rfl (tlt (by decide)).1 (by decide) (by decide) ?_
              refine st321 _ ?_
              exact retN X321 hx (t := .boolean) Bd.returns (by simp) (hb hby at_443) hr
            · show Qrm0 Z p1 p2 p3 p4 p5 G1 gv eo h0 n0 _ T321.heap _
              exact ⟨rfl, N321⟩
          · have f325 := (f238.keep KC237 (allS b229 all0))
            obtain ⟨_, _, ⟨T324, Lq324, kq324, nq324⟩, -, X324, ⟨Lc324, hQ324, lq324, yq324, zq324⟩, st324⟩ := Jvm.LawKit.callS X257 hx (y := (⟨"com/example/wrasse/wrasse/io/CorrectionFormat", "wordOf", "(Ljava/lang/String;)Ljava/util/Optional;"⟩ : MethodName)) hown (mvT hZ (hw _ (own_w 27 rfl))) (mvT hZ (hw _ (own_w 28 rfl))) (mvT hZ (hw _ (own_w 29 rfl))) (mvT hZ (hw _ (own_w 30 rfl))) (by decide) (backOf (W := 0) (rWp l Z a0 hw [] b229o [r3, r6, r9, r12] G1 gv 0 [r3, r6, r9, r12] T237.heap n0 Z237 f325 O_S hgv O_2 P5 O_A O_H O_W TS237 (Nat.le_of_ble_eq_true rfl) (own_cons hr3 (own_cons hr6 (own_cons hr9 (own_cons hr12 own_nil)))) own_bef0 ⟨(Nat.le_of_ble_eq_true rfl), rfl⟩ (Nat.le_of_ble_eq_true rfl) hB0 hB3 own_aft0) hZ (hw _ (own_w 30 rfl)) (hw _ (own_w 29 rfl)) (by decide) (by decide)) (g := (mkF m 283 #[.val (.int p1), .val (.int p2), .val (.int p3), .val (.int p4), .val (.int p5), .val (.int (4 : Int32)), .val (.ref b1o), .val (.ref b205o), .val (.ref b229o), .val (.int (1 : Int32)), .val (.int (1 : Int32)), .val (.int (0 : Int32)), .val (.int (1 : Int32)), .val (.int (0 : Int32)), .val (.int (4 : Int32)), .unset, .unset, .unset] [(.ref b229o)])) rfl (by rw [hml]; rfl) (argsL := [(.ref b229o)]) (rest := []) (lenOf pd_33 rfl) rfl (by show 2 * 0 + _ ≤ _; exact Nat.le_of_eq rfl) (hb hby at_283) (fun _ _ => ⟨rfl, e257, (by decide : 5 + 4 ≤ _), (by decide : 36 + 29 ≤ _)⟩)
            dsimp only [Pt.U, Pt.locs, Pt.cells, Pt.slots] at X324 lq324 yq324 zq324 st324 hQ324
            subst lq324 yq324 zq324
            obtain ⟨o324, x324, rfl, N324q, KC324, uE324, uV324, TS324⟩ := hQ324
            have N324 := Fr.app N257 N324q
            have Z324 : n0 ≤ T324.heap.size := Nat.le_trans Z237 KC324.1
            have f327 := (f325.keep KC324 all0)
            have f328 := (f239.keep KC324 nin0)
            obtain ⟨T326, L326, X326, e326, N326, st326⟩ := own_tail (ct := [r3, r6, r9, r12]) (sq := 0) (vs := [(.int r3), (.int r6), (.int r9), (.int r12)]) (by decide) (by decide) (by decide) (by decide) hx hZ hw hby hml hown f327 O_S hgv O_2 P5 O_A O_H O_W Z324 TS324 (Nat.le_of_ble_eq_true rfl) (own_cons hr3 (own_cons hr6 (own_cons hr9 (own_cons hr12 own_nil)))) uE324 uV324 f328 (Nat.le_of_ble_eq_true rfl) (by decide : 0 + 4 ≤ 4) (own_befS (P := fun k => ([.int r3, .int r6, .int r9, .int r12] : List Value).getD (0 + k) (.int (0 : Int32)) = .int (([r3, r6, r9, r12] : List Int32).getD k 0)) (own_befS (P := fun k => ([.int r3, .int r6, .int r9, .int r12] : List Value).getD (0 + k) (.int (0 : Int32)) = .int (([r3, r6, r9, r12] : List Int32).getD k 0)) (own_befS (P := fun k => ([.int r3, .int r6, .int r9, .int r12] : List Value).getD (0 + k) (.int (0 : Int32)) = .int (([r3, r6, r9, r12] : List Int32).getD k 0)) (own_befS (P := fun k => ([.int r3, .int r6, .int r9, .int r12] : List Value).getD (0 + k) (.int (0 : Int32)) = .int (([r3, r6, r9, r12] : List Int32).getD k 0)) own_bef0 rfl) rfl) rfl) rfl) _ _ X324 rfl N324
            obtain ⟨fs, hr, hrun, hended, hwd⟩ := Jvm.Stand.leaveW (s := s) (vm₁ := s.vm) X326 hS0 (Nat.le_trans (Nat.le_trans (Nat.le_trans (Nat.le_trans (Nat.le_trans (Nat.le_trans (Nat.le_trans (Nat.le_trans (Nat.le_trans (Nat.le_trans (Nat.le_trans (Nat.le_trans (Nat.le_trans (Nat.le_trans (Nat.le_of_eq (congrArg Array.size hh)) E1.1) (Nat.le_of_eq W5.size.symm)) (Nat.le_of_eq W8.size.symm)) (Nat.le_of_eq W11.size.symm)) (Nat.le_of_eq W14.size.symm)) E205.1) (Nat.le_of_eq W213.size.symm)) (Nat.le_of_eq W218.size.symm)) (Nat.le_of_eq W223.size.symm)) (Nat.le_of_eq W228.size.symm)) E229.1) KC237.1) KC324.1) (Nat.le_of_eq (congrArg Array.size e326).symm)) (v := some (.int (1 : Int32))) (fun h => by rw [Bd.returns] at h; cases h)
            refine ⟨_, _, pre0 _ ?_, hrun, hended, _, _, rfl, ?_, hwd.1, hwd.2.1, hwd.2.2.1, hwd.2.2.2.mono (by decide) (by decide)⟩
            · refine pq260 _ ?_
              rw [(own_nbF hr242 hB0 hnb0_243), (own_nbF hr247 hB1 hnb1_248), (own_nbT hr252 hB2 hnb2_253), (own_nbF hr257 hB3 hnb3_258)]
              refine own_blk X257 hx hby (0 : Int32) (4 : Int32) (by decide) (by decide) _ ?_
              refine XS.aload X257.here hx rfl (hb hby at_281) rfl rfl ?_
              refine st324 _ ?_
              refine XS.astore X324.here hx rfl (hb hby at_286) rfl rfl (l' := #[.val (.int p1), .val (.int p2), .val (.int p3), .val (.int p4), .val (.int p5), .val (.int (4 : Int32)), .val (.ref b1o), .val (.ref b205o), .val (.ref b229o), .val (.int (1 : Int32)), .val (.int (1 : Int32)), .val (.int (0 : Int32)), .val (.int (1 : Int32)), .val (.int (0 : Int32)), .val (.int (4 : Int32)), .val (.ref o324), .unset, .unset]) rfl ?_
              refine XS.iload X324.here hx rfl (hb hby at_288) rfl ?_
              refine XS.iload X324.here hx rfl (hb hby at_290) rfl ?_
              refine XS.icmpYes X324.here hx rfl (pc0 := 292) (pc' := 309) rfl (hb hby at_292) rfl (tlt (by decide)).1 (by decide) (by decide) ?_
              refine st326 _ ?_
              exact retN X326 hx (t := .boolean) Bd.returns (by simp) (hb hby at_443) hr
            · show Qrm0 Z p1 p2 p3 p4 p5 G1 gv eo h0 n0 _ T326.heap _
              exact ⟨rfl, N326⟩
        · by_cases hB3 : (r12 = (32 : Int32) ∨ r12 = (9 : Int32) ∨ r12 = (13 : Int32))
          · have f330 := (f238.keep KC237 (allS b229 all0))
            obtain ⟨_, _, ⟨T329, Lq329, kq329, nq329⟩, -, X329, ⟨Lc329, hQ329, lq329, yq329, zq329⟩, st329⟩ := Jvm.LawKit.callS X257 hx (y := (⟨"com/example/wrasse/wrasse/io/CorrectionFormat", "wordOf", "(Ljava/lang/String;)Ljava/util/Optional;"⟩ : MethodName)) hown (mvT hZ (hw _ (own_w 27 rfl))) (mvT hZ (hw _ (own_w 28 rfl))) (mvT hZ (hw _ (own_w 29 rfl))) (mvT hZ (hw _ (own_w 30 rfl))) (by decide) (backOf (W := 0) (rWp l Z a0 hw [] b229o [r3, r6, r9, r12] G1 gv 0 [r3, r6, r9] T237.heap n0 Z237 f330 O_S hgv O_2 P5 O_A O_H O_W TS237 (Nat.le_of_ble_eq_true rfl) (own_cons hr3 (own_cons hr6 (own_cons hr9 (own_cons hr12 own_nil)))) own_bef0 ⟨(Nat.le_of_ble_eq_true rfl), rfl⟩ (Nat.le_of_ble_eq_true rfl) hB0 hB2 (own_aftS (P := fun k => (([r3, r6, r9, r12] : List Int32).getD k 0 = (32 : Int32) ∨ ([r3, r6, r9, r12] : List Int32).getD k 0 = (9 : Int32) ∨ ([r3, r6, r9, r12] : List Int32).getD k 0 = (13 : Int32))) (e := 3) (n := 4) own_aft0 hB3)) hZ (hw _ (own_w 30 rfl)) (hw _ (own_w 29 rfl)) (by decide) (by decide)) (g := (mkF m 283 #[.val (.int p1), .val (.int p2), .val (.int p3), .val (.int p4), .val (.int p5), .val (.int (4 : Int32)), .val (.ref b1o), .val (.ref b205o), .val (.ref b229o), .val (.int (1 : Int32)), .val (.int (1 : Int32)), .val (.int (1 : Int32)), .val (.int (0 : Int32)), .val (.int (0 : Int32)), .val (.int (3 : Int32)), .unset, .unset, .unset] [(.ref b229o)])) rfl (by rw [hml]; rfl) (argsL := [(.ref b229o)]) (rest := []) (lenOf pd_33 rfl) rfl (by show 2 * 0 + _ ≤ _; exact Nat.le_of_eq rfl) (hb hby at_283) (fun _ _ => ⟨rfl, e257, (by decide : 5 + 4 ≤ _), (by decide : 36 + 29 ≤ _)⟩)
            dsimp only [Pt.U, Pt.locs, Pt.cells, Pt.slots] at X329 lq329 yq329 zq329 st329 hQ329
            subst lq329 yq329 zq329
            obtain ⟨o329, x329, rfl, N329q, KC329, uE329, uV329, TS329⟩ := hQ329
            have N329 := Fr.app N257 N329q
            have Z329 : n0 ≤ T329.heap.size := Nat.le_trans Z237 KC329.1
            have f332 := (f330.keep KC329 all0)
            have f333 := (f239.keep KC329 nin0)
            obtain ⟨T331, L331, X331, e331, N331, st331⟩ := own_tail (ct := [r3, r6, r9]) (sq := 0) (vs := [(.int r3), (.int r6), (.int r9), (.int r12)]) (by decide) (by decide) (by decide) (by decide) hx hZ hw hby hml hown f332 O_S hgv O_2 P5 O_A O_H O_W Z329 TS329 (Nat.le_of_ble_eq_true rfl) (own_cons hr3 (own_cons hr6 (own_cons hr9 own_nil))) uE329 uV329 f333 (Nat.le_of_ble_eq_true rfl) (by decide : 0 + 3 ≤ 4) (own_befS (P := fun k => ([.int r3, .int r6, .int r9, .int r12] : List Value).getD (0 + k) (.int (0 : Int32)) = .int (([r3, r6, r9] : List Int32).getD k 0)) (own_befS (P := fun k => ([.int r3, .int r6, .int r9, .int r12] : List Value).getD (0 + k) (.int (0 : Int32)) = .int (([r3, r6, r9] : List Int32).getD k 0)) (own_befS (P := fun k => ([.int r3, .int r6, .int r9, .int r12] : List Value).getD (0 + k) (.int (0 : Int32)) = .int (([r3, r6, r9] : List Int32).getD k 0)) own_bef0 rfl) rfl) rfl) _ _ X329 rfl N329
            obtain ⟨fs, hr, hrun, hended, hwd⟩ := Jvm.Stand.leaveW (s := s) (vm₁ := s.vm) X331 hS0 (Nat.le_trans (Nat.le_trans (Nat.le_trans (Nat.le_trans (Nat.le_trans (Nat.le_trans (Nat.le_trans (Nat.le_trans (Nat.le_trans (Nat.le_trans (Nat.le_trans (Nat.le_trans (Nat.le_trans (Nat.le_trans (Nat.le_of_eq (congrArg Array.size hh)) E1.1) (Nat.le_of_eq W5.size.symm)) (Nat.le_of_eq W8.size.symm)) (Nat.le_of_eq W11.size.symm)) (Nat.le_of_eq W14.size.symm)) E205.1) (Nat.le_of_eq W213.size.symm)) (Nat.le_of_eq W218.size.symm)) (Nat.le_of_eq W223.size.symm)) (Nat.le_of_eq W228.size.symm)) E229.1) KC237.1) KC329.1) (Nat.le_of_eq (congrArg Array.size e331).symm)) (v := some (.int (1 : Int32))) (fun h => by rw [Bd.returns] at h; cases h)
            refine ⟨_, _, pre0 _ ?_, hrun, hended, _, _, rfl, ?_, hwd.1, hwd.2.1, hwd.2.2.1, hwd.2.2.2.mono (by decide) (by decide)⟩
            · refine pq260 _ ?_
              rw [(own_nbF hr242 hB0 hnb0_243), (own_nbF hr247 hB1 hnb1_248), (own_nbF hr252 hB2 hnb2_253), (own_nbT hr257 hB3 hnb3_258)]
              refine own_blk X257 hx hby (0 : Int32) (3 : Int32) (by decide) (by decide) _ ?_
              refine XS.aload X257.here hx rfl (hb hby at_281) rfl rfl ?_
              refine st329 _ ?_
              refine XS.astore X329.here hx rfl (hb hby at_286) rfl rfl (l' := #[.val (.int p1), .val (.int p2), .val (.int p3), .val (.int p4), .val (.int p5), .val (.int (4 : Int32)), .val (.ref b1o), .val (.ref b205o), .val (.ref b229o), .val (.int (1 : Int32)), .val (.int (1 : Int32)), .val (.int (1 : Int32)), .val (.int (0 : Int32)), .val (.int (0 : Int32)), .val (.int (3 : Int32)), .val (.ref o329), .unset, .unset]) rfl ?_
              refine XS.iload X329.here hx rfl (hb hby at_288) rfl ?_
              refine XS.iload X329.here hx rfl (hb hby at_290) rfl ?_
              refine XS.icmpYes X329.here hx rfl (pc0 := 292) (pc' := 309) rfl (hb hby at_292) rfl (tlt (by decide)).1 (by decide) (by decide) ?_
              refine st331 _ ?_
              exact retN X331 hx (t := .boolean) Bd.returns (by simp) (hb hby at_443) hr
            · show Qrm0 Z p1 p2 p3 p4 p5 G1 gv eo h0 n0 _ T331.heap _
              exact ⟨rfl, N331⟩
          · have f335 := (f238.keep KC237 (allS b229 all0))
            obtain ⟨_, _, ⟨T334, Lq334, kq334, nq334⟩, -, X334, ⟨Lc334, hQ334, lq334, yq334, zq334⟩, st334⟩ := Jvm.LawKit.callS X257 hx (y := (⟨"com/example/wrasse/wrasse/io/CorrectionFormat", "wordOf", "(Ljava/lang/String;)Ljava/util/Optional;"⟩ : MethodName)) hown (mvT hZ (hw _ (own_w 27 rfl))) (mvT hZ (hw _ (own_w 28 rfl))) (mvT hZ (hw _ (own_w 29 rfl))) (mvT hZ (hw _ (own_w 30 rfl))) (by decide) (backOf (W := 0) (rWp l Z a0 hw [] b229o [r3, r6, r9, r12] G1 gv 0 [r3, r6, r9, r12] T237.heap n0 Z237 f335 O_S hgv O_2 P5 O_A O_H O_W TS237 (Nat.le_of_ble_eq_true rfl) (own_cons hr3 (own_cons hr6 (own_cons hr9 (own_cons hr12 own_nil)))) own_bef0 ⟨(Nat.le_of_ble_eq_true rfl), rfl⟩ (Nat.le_of_ble_eq_true rfl) hB0 hB3 own_aft0) hZ (hw _ (own_w 30 rfl)) (hw _ (own_w 29 rfl)) (by decide) (by decide)) (g := (mkF m 283 #[.val (.int p1), .val (.int p2), .val (.int p3), .val (.int p4), .val (.int p5), .val (.int (4 : Int32)), .val (.ref b1o), .val (.ref b205o), .val (.ref b229o), .val (.int (1 : Int32)), .val (.int (1 : Int32)), .val (.int (1 : Int32)), .val (.int (1 : Int32)), .val (.int (0 : Int32)), .val (.int (4 : Int32)), .unset, .unset, .unset] [(.ref b229o)])) rfl (by rw [hml]; rfl) (argsL := [(.ref b229o)]) (rest := []) (lenOf pd_33 rfl) rfl (by show 2 * 0 + _ ≤ _; exact Nat.le_of_eq rfl) (hb hby at_283) (fun _ _ => ⟨rfl, e257, (by decide : 5 + 4 ≤ _), (by decide : 36 + 29 ≤ _)⟩)
            dsimp only [Pt.U, Pt.locs, Pt.cells, Pt.slots] at X334 lq334 yq334 zq334 st334 hQ334
            subst lq334 yq334 zq334
            obtain ⟨o334, x334, rfl, N334q, KC334, uE334, uV334, TS334⟩ := hQ334
            have N334 := Fr.app N257 N334q
            have Z334 : n0 ≤ T334.heap.size := Nat.le_trans Z237 KC334.1
            have f337 := (f335.keep KC334 all0)
            have f338 := (f239.keep KC334 nin0)
            obtain ⟨T336, L336, X336, e336, N336, st336⟩ := own_tail (ct := [r3, r6, r9, r12]) (sq := 0) (vs := [(.int r3), (.int r6), (.int r9), (.int r12)]) (by decide) (by decide) (by decide) (by decide) hx hZ hw hby hml hown f337 O_S hgv O_2 P5 O_A O_H O_W Z334 TS334 (Nat.le_of_ble_eq_true rfl) (own_cons hr3 (own_cons hr6 (own_cons hr9 (own_cons hr12 own_nil)))) uE334 uV334 f338 (Nat.le_of_ble_eq_true rfl) (by decide : 0 + 4 ≤ 4) (own_befS (P := fun k => ([.int r3, .int r6, .int r9, .int r12] : List Value).getD (0 + k) (.int (0 : Int32)) = .int (([r3, r6, r9, r12] : List Int32).getD k 0)) (own_befS (P := fun k => ([.int r3, .int r6, .int r9, .int r12] : List Value).getD (0 + k) (.int (0 : Int32)) = .int (([r3, r6, r9, r12] : List Int32).getD k 0)) (own_befS (P := fun k => ([.int r3, .int r6, .int r9, .int r12] : List Value).getD (0 + k) (.int (0 : Int32)) = .int (([r3, r6, r9, r12] : List Int32).getD k 0)) (own_befS (P := fun k => ([.int r3, .int r6, .int r9, .int r12] : List Value).getD (0 + k) (.int (0 : Int32)) = .int (([r3, r6, r9, r12] : List Int32).getD k 0)) own_bef0 rfl) rfl) rfl) rfl) _ _ X334 rfl N334
            obtain ⟨fs, hr, hrun, hended, hwd⟩ := Jvm.Stand.leaveW (s := s) (vm₁ := s.vm) X336 hS0 (Nat.le_trans (Nat.le_trans (Nat.le_trans (Nat.le_trans (Nat.le_trans (Nat.le_trans (Nat.le_trans (Nat.le_trans (Nat.le_trans (Nat.le_trans (Nat.le_trans (Nat.le_trans (Nat.le_trans (Nat.le_trans (Nat.le_of_eq (congrArg Array.size hh)) E1.1) (Nat.le_of_eq W5.size.symm)) (Nat.le_of_eq W8.size.symm)) (Nat.le_of_eq W11.size.symm)) (Nat.le_of_eq W14.size.symm)) E205.1) (Nat.le_of_eq W213.size.symm)) (Nat.le_of_eq W218.size.symm)) (Nat.le_of_eq W223.size.symm)) (Nat.le_of_eq W228.size.symm)) E229.1) KC237.1) KC334.1) (Nat.le_of_eq (congrArg Array.size e336).symm)) (v := some (.int (1 : Int32))) (fun h => by rw [Bd.returns] at h; cases h)
            refine ⟨_, _, pre0 _ ?_, hrun, hended, _, _, rfl, ?_, hwd.1, hwd.2.1, hwd.2.2.1, hwd.2.2.2.mono (by decide) (by decide)⟩
            · refine pq260 _ ?_
              rw [(own_nbF hr242 hB0 hnb0_243), (own_nbF hr247 hB1 hnb1_248), (own_nbF hr252 hB2 hnb2_253), (own_nbF hr257 hB3 hnb3_258)]
              refine own_blk X257 hx hby (0 : Int32) (4 : Int32) (by decide) (by decide) _ ?_
              refine XS.aload X257.here hx rfl (hb hby at_281) rfl rfl ?_
              refine st334 _ ?_
              refine XS.astore X334.here hx rfl (hb hby at_286) rfl rfl (l' := #[.val (.int p1), .val (.int p2), .val (.int p3), .val (.int p4), .val (.int p5), .val (.int (4 : Int32)), .val (.ref b1o), .val (.ref b205o), .val (.ref b229o), .val (.int (1 : Int32)), .val (.int (1 : Int32)), .val (.int (1 : Int32)), .val (.int (1 : Int32)), .val (.int (0 : Int32)), .val (.int (4 : Int32)), .val (.ref o334), .unset, .unset]) rfl ?_
              refine XS.iload X334.here hx rfl (hb hby at_288) rfl ?_
              refine XS.iload X334.here hx rfl (hb hby at_290) rfl ?_
              refine XS.icmpYes X334.here hx rfl (pc0 := 292) (pc' := 309) rfl (hb hby at_292) rfl (tlt (by decide)).1 (by decide) (by decide) ?_
              refine st336 _ ?_
              exact retN X336 hx (t := .boolean) Bd.returns (by simp) (hb hby at_443) hr
            · show Qrm0 Z p1 p2 p3 p4 p5 G1 gv eo h0 n0 _ T336.heap _
              exact ⟨rfl, N336⟩
set_option maxRecDepth 65536 in
set_option maxHeartbeats 40000000 in
theorem comes_1 {Post : Tables → Env → Array Value → State → Outcome → State → Prop} (hpost : ∀ tb e args s v u, (limb_1_1.after args s (.returned v) u = true ∧ limb_1_2.after args s (.returned v) u = true) → ReturnedEndW s (.returned v) u (Jvm.fieldLocs frame_1_writes args s ++ Jvm.arrayLocs frame_1_arrays args s ++ Jvm.staticLocs frame_1_statics s) 32 1216 → Post tb e args s (.returned v) u) :
    ArmFor flags0 classFile x code maxLocals ret World_1 tables_1 room_1 Calls_1 rest_1 Pre_1 Post := by
  intro l hfl _ _ p e ha hc hk s m args below hf hA hF happ hP
  obtain ⟨hcalls, hrest, hpre⟩ := hP
  obtain ⟨-, -, -, hnamed, -, -, -, hat⟩ := (Spec.applies_iff hf).mp happ
  obtain ⟨hg, hn⟩ := and_e (Cond.before_iff.mp (show (Jvm.Cond.and given_1 narrow_1).before args s = true from hpre))
  obtain ⟨hcount, hg0⟩ := and_e hg
  obtain ⟨ha0, hg1⟩ := and_e hg0
  obtain ⟨ha1, hg2⟩ := and_e hg1
  obtain ⟨ha2, hg3⟩ := and_e hg2
  obtain ⟨ha3, hg4⟩ := and_e hg3
  obtain ⟨w0, w1, w2, w3, w4, rfl⟩ : ∃ w0 w1 w2 w3 w4 : Value, args = #[w0, w1, w2, w3, w4] := by
    have hs : args.size = 5 := by simpa [Cond.value, given_1] using hcount
    obtain ⟨L⟩ := args
    match L, hs with
    | [w0, w1, w2, w3, w4], _ => exact ⟨w0, w1, w2, w3, w4, rfl⟩
  have hw := fun d (hd : d ∈ tables_1) => atoms_spec (ws := Jvm.Cond.code x code maxLocals ret :: tables_1) hat d (List.mem_cons_of_mem _ hd)
  have hfit : Fit s := fun {y c} hc i hi => by
    obtain ⟨ha, rfl⟩ := Array.getElem?_eq_some_iff.mp hc
    have q := List.all_eq_true.mp ((Array.all_eq_true_iff_forall_mem.mp hF) _ (Array.getElem_mem ha)) i (List.mem_range.mpr hi)
    simpa [Array.getElem?_eq_getElem hi] using q
  obtain ⟨i0, ei0⟩ := is_v ha0
  obtain rfl : w0 = (.int i0) := Option.some.inj ei0
  obtain ⟨i1, ei1⟩ := is_v ha1
  obtain rfl : w1 = (.int i1) := Option.some.inj ei1
  obtain ⟨i2, ei2⟩ := is_v ha2
  obtain rfl : w2 = (.int i2) := Option.some.inj ei2
  obtain ⟨i3, ei3⟩ := is_v ha3
  obtain rfl : w3 = (.int i3) := Option.some.inj ei3
  obtain ⟨i4, ei4⟩ := is_v hg4
  obtain rfl : w4 = (.int i4) := Option.some.inj ei4
  obtain ⟨hsets, hown0⟩ := atoms_of _ (rest_1_c_eq ▸ (show rest_1_c.before _ s = true from hrest))
  have hcw := hsets _ (own_w 2 rfl)
  have n3 := not_v (Cond.before_iff.mp hcw)
  obtain ⟨G1, eG1⟩ := is_v (Cond.before_iff.mp (hsets _ (own_w 1 rfl)))
  have O_2 := Sta.start eG1 (Or.inl (hsets _ (own_w 0 rfl)))
  have P5 : ¬ (G1 = (0 : Int32)) := gotF (Cond.eq_ints eG1 (Term.int_eval (0))) n3
  obtain ⟨gv, egv, hgv⟩ := isR_v (Cond.before_iff.mp (hsets _ (own_w 8 rfl)))
  have O_S := Sta.start egv (Or.inl (hsets _ (own_w 7 rfl)))
  obtain ⟨eo, eeo⟩ := exa_v (Cond.before_iff.mp (hsets _ (own_w 11 rfl)))
  have O_E := Sta.start eeo (Or.inl (hsets _ (own_w 10 rfl)))
  have O_EE := Exa.start eeo (Cond.before_iff.mp (hsets _ (own_w 11 rfl)))
  have te := null_v (Cond.before_iff.mp (hsets _ (own_w 12 rfl)))
  rw [fld_at eeo] at te
  have O_EV := Fld.start te
  have O_A := Sta.start (own_eqint (Cond.before_iff.mp (hsets _ (own_w 16 rfl)))) (Or.inl (hsets _ (own_w 15 rfl)))
  have O_H := Sta.start (own_eqint (Cond.before_iff.mp (hsets _ (own_w 19 rfl)))) (Or.inl (hsets _ (own_w 18 rfl)))
  have O_W := Sta.start (own_eqint (Cond.before_iff.mp (hsets _ (own_w 22 rfl)))) (Or.inl (hsets _ (own_w 21 rfl)))
  obtain ⟨n, o, h1, h2, h3, _, L, rfl, ⟨rfl, N⟩, hq⟩ := rm0 l s _ hw tables_1 i0 i1 i2 i3 i4 G1 gv eo s.heap s.heap.size (Nat.le_refl _) (Old.start s) O_S hgv O_2 P5 O_A O_H O_W O_E O_EE O_EV (hcalls.1 ("java/lang/String", 7) (by decide +kernel)) hcw p e ha hc hk s m _ below hf ((Spec.applies_iff_loose hf).mp happ).1 ⟨rfl, State.Warmed39.refl s, rfl, rfl⟩ trivial
  refine ⟨n, _, h1, h2, h3, hpost _ _ _ _ _ _ ⟨Cond.after_iff.mpr rfl, Cond.after_iff.mpr (eq_i res_at (Term.int_eval (1)) rfl)⟩ ⟨hq.1, hq.2.1, hq.2.2.1, (hq.2.2.2.sift fun y hy => Or.inr (N y hy)).mono (by decide) (by decide)⟩⟩
theorem main_1_1 : Claimed_1_1 := comes_1 fun _ _ _ _ _ _ h hF => ⟨h.1, hF⟩
theorem main_1_2 : Claimed_1_2 := comes_1 fun _ _ _ _ _ _ h hF => ⟨h.2, hF⟩
end Jvm.Pilot.@@N@@
namespace Jvm.Pilot.@@N@@
open Jvm Jvm.ClassFile Sem Op Lib Jvm.Free Jvm.Stand Jvm.Pilot.@@N@@.Jvm.D
/-! MADE BY PROGRAM (witnessworld.py) out of the Statement's table words and the real class files: 25 classes; the members and pool entries that the words name. The judged class is class 1, her method 3. -/
namespace start1
open Jvm.ClassFile
def u (s : String) : CpInfo := .utf8 (stringToUtf16 s)
/-- a pool by its gaps: so many unusable entries, then the entry; so many at the end -/
def gap : Nat → List CpInfo → List CpInfo
  | 0, r => r
  | n + 1, r => .unusable :: gap n r
def poolList (es : List (Nat × CpInfo)) (last : Nat) : List CpInfo := es.foldr (fun e r => gap e.1 (e.2 :: r)) (gap last [])
def pool (es : List (Nat × CpInfo)) (last : Nat) : Array CpInfo := ⟨poolList es last⟩
def fileOf (pool : Array CpInfo) (this : Nat) (attrs : Array Attribute := #[]) (ms : Array MethodInfo := #[]) (fl : Nat := 33) (sup : Nat := 0) (ifs : Array Nat := #[]) (fds : Array FieldInfo := #[]) : ClassFile where
  minorVersion := 0
  majorVersion := 65
  constantPool := pool
  accessFlags := fl
  thisClass := this
  superClass := sup
  interfaces := ifs
  fields := fds
  methods := ms
  attributes := attrs
def plain (name : String) (sup : Option ClassId) : Class where
  name := name
  kind := .ordinary
  loader := none
  accessFlags := 33
  super := sup
  interfaces := #[]
  cf := none
  fields := #[]
  methods := #[]
  instanceTypes := #[]
  staticTypes := #[]
  resolved := #[]
  callSites := []
  init := .initialized
  statics := none
  mirror := none

def pool0 : Array CpInfo := pool [(5, u "<init>"), (0, u "()V"), (1, .class_ 10), (1, u "java/lang/Object")] 113

def k0c0 : Code := { maxStack := 0, maxLocals := 1, code := object_method_1_code, exceptionTable := #[], attributes := #[] }
def k0m0 : Method := { name := "<init>", desc := "()V", sig := { parameters := [], returnType := none }, accessFlags := 1, code := some k0c0 }
/-- java/lang/Object -/
def k0 : Class := { plain "java/lang/Object" none with
  accessFlags := 33
  interfaces := #[]
  cf := some (fileOf pool0 8 #[] #[{ accessFlags := 1, nameIndex := 5, descriptorIndex := 6, attributes := #[] }] 33 0 #[] #[])
  fields := #[]
  methods := #[k0m0]
  instanceTypes := #[]
  staticTypes := #[]
  resolved := Array.replicate 124 none
  statics := none }

def pool1 : Array CpInfo := pool [(2, .class_ 4), (1, u "java/lang/Object"), (0, u "<init>"), (0, u "()V"), (0, .integer 65535), (0, .methodref 9 10), (0, .class_ 11), (0, .nameAndType 12 13), (0, u "com/example/wrasse/wrasse/io/CorrectionFormatWordOfPinLaw"), (0, u "ch"), (0, u "(I)C"), (0, .class_ 15), (0, u "java/lang/String"), (0, .methodref 14 17), (0, .nameAndType 5 18), (0, u "([C)V"), (0, .methodref 9 20), (0, .nameAndType 21 22), (0, u "bl"), (0, u "(C)Z"), (0, .methodref 24 25), (0, .class_ 26), (0, .nameAndType 27 28), (0, u "com/example/wrasse/wrasse/io/CorrectionFormat"), (0, u "wordOf"), (0, u "(Ljava/lang/String;)Ljava/util/Optional;"), (0, .methodref 30 31), (0, .class_ 32), (0, .nameAndType 33 34), (0, u "java/util/Optional"), (0, u "isPresent"), (0, u "()Z"), (0, .methodref 30 36), (0, .nameAndType 37 38), (0, u "get"), (0, u "()Ljava/lang/Object;"), (0, .methodref 14 40), (0, .nameAndType 41 42), (0, u "length"), (0, u "()I"), (0, .methodref 14 44), (0, .nameAndType 45 13), (0, u "charAt"), (3, u "law"), (0, u "(IIIII)Z")] 4

def k1m0 : Method := { name := "<init>", desc := "()V", sig := { parameters := [], returnType := none }, accessFlags := 2, code := none }
def k1c1 : Code := { maxStack := 2, maxLocals := 2, code := method_2_code, exceptionTable := #[], attributes := #[] }
def k1m1 : Method := { name := "ch", desc := "(I)C", sig := { parameters := [.int], returnType := some .char }, accessFlags := 10, code := some k1c1 }
def k1c2 : Code := { maxStack := 2, maxLocals := 1, code := method_3_code, exceptionTable := #[], attributes := #[] }
def k1m2 : Method := { name := "bl", desc := "(C)Z", sig := { parameters := [.char], returnType := some .boolean }, accessFlags := 10, code := some k1c2 }
def k1c3 : Code := { maxStack := 4, maxLocals := 18, code := code, exceptionTable := #[], attributes := #[] }
def k1m3 : Method := { name := "law", desc := "(IIIII)Z", sig := { parameters := [.int, .int, .int, .int, .int], returnType := some .boolean }, accessFlags := 9, code := some k1c3 }
/-- com/example/wrasse/wrasse/io/CorrectionFormatWordOfPinLaw -/
def k1 : Class := { plain "com/example/wrasse/wrasse/io/CorrectionFormatWordOfPinLaw" (some 0) with
  accessFlags := 49
  interfaces := #[]
  cf := some (fileOf pool1 9 #[] #[{ accessFlags := 2, nameIndex := 5, descriptorIndex := 6, attributes := #[] }, { accessFlags := 10, nameIndex := 12, descriptorIndex := 13, attributes := #[] }, { accessFlags := 10, nameIndex := 21, descriptorIndex := 22, attributes := #[] }, { accessFlags := 9, nameIndex := 49, descriptorIndex := 50, attributes := #[] }] 49 2 #[] #[])
  fields := #[]
  methods := #[k1m0, k1m1, k1m2, k1m3]
  instanceTypes := #[]
  staticTypes := #[]
  resolved := Array.replicate 55 none
  statics := none }

def pool2 : Array CpInfo := pool [(1, .class_ 2), (0, u "java/io/Serializable"), (0, .class_ 4), (0, u "java/lang/Object")] 2

/-- java/io/Serializable -/
def k2 : Class := { plain "java/io/Serializable" (some 0) with
  accessFlags := 1537
  interfaces := #[]
  cf := some (fileOf pool2 1 #[] #[] 1537 3 #[] #[])
  fields := #[]
  methods := #[]
  instanceTypes := #[]
  staticTypes := #[]
  resolved := Array.replicate 7 none
  statics := none }

def pool3 : Array CpInfo := pool [(1, .class_ 2), (0, u "java/lang/Comparable"), (0, .class_ 4), (0, u "java/lang/Object")] 7

/-- java/lang/Comparable -/
def k3 : Class := { plain "java/lang/Comparable" (some 0) with
  accessFlags := 1537
  interfaces := #[]
  cf := some (fileOf pool3 1 #[] #[] 1537 3 #[] #[])
  fields := #[]
  methods := #[]
  instanceTypes := #[]
  staticTypes := #[]
  resolved := Array.replicate 12 none
  statics := none }

def pool4 : Array CpInfo := pool [(2, .class_ 4), (1, u "java/lang/CharSequence"), (42, .class_ 48), (0, u "java/lang/CharSequence$1CodePointIterator"), (10, .class_ 60), (0, u "java/lang/CharSequence$1CharIterator"), (5, .class_ 67), (0, u "java/lang/Object")] 63

/-- java/lang/CharSequence -/
def k4 : Class := { plain "java/lang/CharSequence" (some 0) with
  accessFlags := 1537
  interfaces := #[]
  cf := some (fileOf pool4 2 #[.nestMembers #[47, 59]] #[] 1537 66 #[] #[])
  fields := #[]
  methods := #[]
  instanceTypes := #[]
  staticTypes := #[]
  resolved := Array.replicate 131 none
  statics := none }

def pool5 : Array CpInfo := pool [(1, .class_ 2), (0, u "java/lang/constant/Constable"), (0, .class_ 4), (0, u "java/lang/Object")] 6

/-- java/lang/constant/Constable -/
def k5 : Class := { plain "java/lang/constant/Constable" (some 0) with
  accessFlags := 1537
  interfaces := #[]
  cf := some (fileOf pool5 1 #[] #[] 1537 3 #[] #[])
  fields := #[]
  methods := #[]
  instanceTypes := #[]
  staticTypes := #[]
  resolved := Array.replicate 11 none
  statics := none }

def pool6 : Array CpInfo := pool [(1, .class_ 2), (0, u "java/lang/constant/ConstantDesc"), (0, .class_ 4), (0, u "java/lang/Object")] 32

/-- java/lang/constant/ConstantDesc -/
def k6 : Class := { plain "java/lang/constant/ConstantDesc" (some 0) with
  accessFlags := 1537
  interfaces := #[]
  cf := some (fileOf pool6 1 #[] #[] 1537 3 #[] #[])
  fields := #[]
  methods := #[]
  instanceTypes := #[]
  staticTypes := #[]
  resolved := Array.replicate 37 none
  statics := none }

def pool7 : Array CpInfo := pool [(1, .methodref 2 3), (0, .class_ 4), (0, .nameAndType 5 6), (0, u "java/lang/Object"), (0, u "<init>"), (0, u "()V"), (0, .string 8), (0, u ""), (0, .fieldref 10 11), (0, .class_ 12), (0, .nameAndType 13 14), (0, u "java/lang/String"), (0, u "value"), (0, u "[B"), (0, .fieldref 10 16), (0, .nameAndType 17 18), (0, u "coder"), (0, u "B"), (2, u "hash"), (0, u "I"), (2, u "hashIsZero"), (0, u "Z"), (0, .methodref 10 28), (0, .nameAndType 5 29), (0, u "([CIILjava/lang/Void;)V"), (6, u "checkBoundsOffCount"), (0, u "(III)I"), (0, .fieldref 10 39), (0, .nameAndType 40 26), (0, u "COMPACT_STRINGS"), (1, .class_ 44), (1, u "java/lang/StringUTF16"), (0, u "compress"), (1, .methodref 42 48), (0, .nameAndType 49 50), (0, u "coderFromArrayLen"), (0, u "([BI)B"), (56, .class_ 109), (1, u "java/lang/StringLatin1"), (32, u "()Z"), (34, .methodref 42 178), (0, .nameAndType 45 179), (0, u "([CII)[B"), (31, u "([BB)V"), (122, u "()I"), (0, .methodref 10 336), (0, .nameAndType 17 337), (0, u "()B"), (25, u "([BI)C"), (27, u "(II)V"), (35, u "(I)C"), (64, .methodref 10 493), (0, .nameAndType 494 142), (0, u "isLatin1"), (0, .methodref 107 496), (0, .nameAndType 497 363), (0, u "charAt"), (0, .methodref 42 496), (2, u "checkIndex"), (3, .methodref 10 506), (0, .nameAndType 507 334), (0, u "length"), (5, u "checkFromToIndex"), (7, .methodref 10 522), (0, .nameAndType 523 524), (0, u "checkBoundsBeginEnd"), (0, u "(III)V"), (50, .class_ 576), (0, u "java/lang/CharSequence"), (22, u "CASE_INSENSITIVE_ORDER"), (0, u "Ljava/util/Comparator;"), (82, u "substring"), (0, u "(II)Ljava/lang/String;"), (0, .methodref 107 686), (0, .nameAndType 687 688), (0, u "newString"), (0, u "([BII)Ljava/lang/String;"), (0, .methodref 42 686), (320, u "([C)V"), (42, .fieldref 1054 1055), (0, .class_ 1056), (0, .nameAndType 1057 1058), (0, u "jdk/internal/util/Preconditions"), (0, u "SIOOBE_FORMATTER"), (0, u "Ljava/util/function/BiFunction;"), (0, .methodref 1054 1060), (0, .nameAndType 501 1061), (0, u "(IILjava/util/function/BiFunction;)I"), (0, .methodref 1054 1063), (0, .nameAndType 513 1064), (0, u "(IIILjava/util/function/BiFunction;)I"), (0, .methodref 1054 1066), (0, .nameAndType 1067 1064), (0, u "checkFromIndexSize"), (33, u "serialPersistentFields"), (0, u "[Ljava/io/ObjectStreamField;"), (0, .class_ 1104), (0, u "java/lang/String$CaseInsensitiveComparator"), (1, .class_ 1107), (0, u "java/io/Serializable"), (0, .class_ 1109), (0, u "java/lang/Comparable"), (0, .class_ 1111), (0, u "java/lang/constant/Constable"), (0, .class_ 1113), (0, u "java/lang/constant/ConstantDesc"), (2, u "serialVersionUID"), (0, u "J"), (3, u "REPL"), (0, u "C"), (2, u "LATIN1"), (1, u "UTF16")] 323

def k7m0 : Method := { name := "<init>", desc := "()V", sig := { parameters := [], returnType := none }, accessFlags := 1, code := none }
def k7c1 : Code := { maxStack := 5, maxLocals := 2, code := jdk_42_method_3_code, exceptionTable := #[], attributes := #[] }
def k7m1 : Method := { name := "<init>", desc := "([C)V", sig := { parameters := [(.array .char)], returnType := none }, accessFlags := 1, code := some k7c1 }
def k7c2 : Code := { maxStack := 2, maxLocals := 1, code := jdk_42_method_54_code, exceptionTable := #[], attributes := #[] }
def k7m2 : Method := { name := "length", desc := "()I", sig := { parameters := [], returnType := some .int }, accessFlags := 1, code := some k7c2 }
def k7c3 : Code := { maxStack := 2, maxLocals := 2, code := jdk_42_method_56_code, exceptionTable := #[], attributes := #[] }
def k7m3 : Method := { name := "charAt", desc := "(I)C", sig := { parameters := [.int], returnType := some .char }, accessFlags := 1, code := some k7c3 }
def k7c4 : Code := { maxStack := 3, maxLocals := 5, code := jdk_42_method_92_code, exceptionTable := #[], attributes := #[] }
def k7m4 : Method := { name := "substring", desc := "(II)Ljava/lang/String;", sig := { parameters := [.int, .int], returnType := some (.object "java/lang/String") }, accessFlags := 1, code := some k7c4 }
def k7c5 : Code := { maxStack := 4, maxLocals := 6, code := jdk_42_method_149_code, exceptionTable := #[], attributes := #[] }
def k7m5 : Method := { name := "<init>", desc := "([CIILjava/lang/Void;)V", sig := { parameters := [(.array .char), .int, .int, (.object "java/lang/Void")], returnType := none }, accessFlags := 2, code := some k7c5 }
def k7c6 : Code := { maxStack := 2, maxLocals := 3, code := jdk_42_method_151_code, exceptionTable := #[], attributes := #[] }
def k7m6 : Method := { name := "<init>", desc := "([BB)V", sig := { parameters := [(.array .byte), .byte], returnType := none }, accessFlags := 0, code := some k7c6 }
def k7c7 : Code := { maxStack := 1, maxLocals := 1, code := jdk_42_method_152_code, exceptionTable := #[], attributes := #[] }
def k7m7 : Method := { name := "coder", desc := "()B", sig := { parameters := [], returnType := some .byte }, accessFlags := 0, code := some k7c7 }
def k7c8 : Code := { maxStack := 1, maxLocals := 1, code := jdk_42_method_154_code, exceptionTable := #[], attributes := #[] }
def k7m8 : Method := { name := "isLatin1", desc := "()Z", sig := { parameters := [], returnType := some .boolean }, accessFlags := 0, code := some k7c8 }
def k7c9 : Code := { maxStack := 3, maxLocals := 2, code := jdk_42_method_155_code, exceptionTable := #[], attributes := #[] }
def k7m9 : Method := { name := "checkIndex", desc := "(II)V", sig := { parameters := [.int, .int], returnType := none }, accessFlags := 8, code := some k7c9 }
def k7c10 : Code := { maxStack := 4, maxLocals := 3, code := jdk_42_method_157_code, exceptionTable := #[], attributes := #[] }
def k7m10 : Method := { name := "checkBoundsOffCount", desc := "(III)I", sig := { parameters := [.int, .int, .int], returnType := some .int }, accessFlags := 8, code := some k7c10 }
def k7c11 : Code := { maxStack := 4, maxLocals := 3, code := jdk_42_method_158_code, exceptionTable := #[], attributes := #[] }
def k7m11 : Method := { name := "checkBoundsBeginEnd", desc := "(III)V", sig := { parameters := [.int, .int, .int], returnType := none }, accessFlags := 8, code := some k7c11 }
/-- java/lang/String -/
def k7 : Class := { plain "java/lang/String" (some 0) with
  accessFlags := 49
  interfaces := #[2, 3, 4, 5, 6]
  cf := some (fileOf pool7 10 #[.nestMembers #[1103]] #[{ accessFlags := 1, nameIndex := 5, descriptorIndex := 6, attributes := #[] }, { accessFlags := 1, nameIndex := 5, descriptorIndex := 1010, attributes := #[] }, { accessFlags := 1, nameIndex := 507, descriptorIndex := 334, attributes := #[] }, { accessFlags := 1, nameIndex := 497, descriptorIndex := 427, attributes := #[] }, { accessFlags := 1, nameIndex := 683, descriptorIndex := 684, attributes := #[] }, { accessFlags := 2, nameIndex := 5, descriptorIndex := 29, attributes := #[] }, { accessFlags := 0, nameIndex := 5, descriptorIndex := 211, attributes := #[] }, { accessFlags := 0, nameIndex := 17, descriptorIndex := 337, attributes := #[] }, { accessFlags := 0, nameIndex := 494, descriptorIndex := 142, attributes := #[] }, { accessFlags := 8, nameIndex := 501, descriptorIndex := 391, attributes := #[] }, { accessFlags := 8, nameIndex := 36, descriptorIndex := 37, attributes := #[] }, { accessFlags := 8, nameIndex := 523, descriptorIndex := 524, attributes := #[] }] 49 2 #[1106, 1108, 575, 1110, 1112] #[{ accessFlags := 18, nameIndex := 13, descriptorIndex := 14, attributes := #[] }, { accessFlags := 18, nameIndex := 17, descriptorIndex := 18, attributes := #[] }, { accessFlags := 2, nameIndex := 21, descriptorIndex := 22, attributes := #[] }, { accessFlags := 2, nameIndex := 25, descriptorIndex := 26, attributes := #[] }, { accessFlags := 26, nameIndex := 1116, descriptorIndex := 1117, attributes := #[] }, { accessFlags := 24, nameIndex := 40, descriptorIndex := 26, attributes := #[] }, { accessFlags := 26, nameIndex := 1101, descriptorIndex := 1102, attributes := #[] }, { accessFlags := 26, nameIndex := 1121, descriptorIndex := 1122, attributes := #[] }, { accessFlags := 25, nameIndex := 599, descriptorIndex := 600, attributes := #[] }, { accessFlags := 24, nameIndex := 1125, descriptorIndex := 18, attributes := #[] }, { accessFlags := 24, nameIndex := 1127, descriptorIndex := 18, attributes := #[] }])
  fields := #[{ name := "value", type := (.array .byte), accessFlags := 18, slot := 0, constantValue := 0 }, { name := "coder", type := .byte, accessFlags := 18, slot := 1, constantValue := 0 }, { name := "hash", type := .int, accessFlags := 2, slot := 2, constantValue := 0 }, { name := "hashIsZero", type := .boolean, accessFlags := 2, slot := 3, constantValue := 0 }, { name := "serialVersionUID", type := .long, accessFlags := 26, slot := 0, constantValue := 0 }, { name := "COMPACT_STRINGS", type := .boolean, accessFlags := 24, slot := 1, constantValue := 0 }, { name := "serialPersistentFields", type := (.array (.object "java/io/ObjectStreamField")), accessFlags := 26, slot := 2, constantValue := 0 }, { name := "REPL", type := .char, accessFlags := 26, slot := 3, constantValue := 0 }, { name := "CASE_INSENSITIVE_ORDER", type := (.object "java/util/Comparator"), accessFlags := 25, slot := 4, constantValue := 0 }, { name := "LATIN1", type := .byte, accessFlags := 24, slot := 5, constantValue := 0 }, { name := "UTF16", type := .byte, accessFlags := 24, slot := 6, constantValue := 0 }]
  methods := #[k7m0, k7m1, k7m2, k7m3, k7m4, k7m5, k7m6, k7m7, k7m8, k7m9, k7m10, k7m11]
  instanceTypes := #[(.array .byte), .byte, .int, .boolean]
  staticTypes := #[.long, .boolean, (.array (.object "java/io/ObjectStreamField")), .char, (.object "java/util/Comparator"), .byte, .byte]
  resolved := Array.replicate 1451 none
  statics := some 0 }

def pool8 : Array CpInfo := pool [(2, .class_ 4), (1, u "java/lang/Object"), (0, u "<init>"), (0, u "()V"), (7, .methodref 15 16), (0, .class_ 17), (0, .nameAndType 18 19), (0, u "java/lang/String"), (0, u "length"), (0, u "()I"), (0, .methodref 15 21), (0, .nameAndType 22 23), (0, u "charAt"), (0, u "(I)C"), (0, .methodref 25 26), (0, .class_ 27), (0, .nameAndType 28 29), (0, u "com/example/wrasse/wrasse/io/CorrectionFormat"), (0, u "isBlank"), (0, u "(C)Z"), (0, .methodref 31 32), (0, .class_ 33), (0, .nameAndType 34 35), (0, u "java/util/Optional"), (0, u "empty"), (0, u "()Ljava/util/Optional;"), (0, .methodref 15 37), (0, .nameAndType 38 39), (0, u "substring"), (0, u "(II)Ljava/lang/String;"), (0, .methodref 31 41), (0, .nameAndType 42 43), (0, u "of"), (0, u "(Ljava/lang/Object;)Ljava/util/Optional;"), (68, u "HUNDRED"), (0, u "Ljava/math/BigDecimal;"), (28, u "NO_CORRECTION"), (0, u "Ljava/lang/String;"), (3, u "wordOf"), (0, u "(Ljava/lang/String;)Ljava/util/Optional;")] 9

def k8m0 : Method := { name := "<init>", desc := "()V", sig := { parameters := [], returnType := none }, accessFlags := 2, code := none }
def k8c1 : Code := { maxStack := 3, maxLocals := 3, code := prog_8_method_2_code, exceptionTable := #[], attributes := #[] }
def k8m1 : Method := { name := "wordOf", desc := "(Ljava/lang/String;)Ljava/util/Optional;", sig := { parameters := [(.object "java/lang/String")], returnType := some (.object "java/util/Optional") }, accessFlags := 9, code := some k8c1 }
def k8c2 : Code := { maxStack := 2, maxLocals := 1, code := prog_8_method_4_code, exceptionTable := #[], attributes := #[] }
def k8m2 : Method := { name := "isBlank", desc := "(C)Z", sig := { parameters := [.char], returnType := some .boolean }, accessFlags := 10, code := some k8c2 }
/-- com/example/wrasse/wrasse/io/CorrectionFormat -/
def k8 : Class := { plain "com/example/wrasse/wrasse/io/CorrectionFormat" (some 0) with
  accessFlags := 49
  interfaces := #[]
  cf := some (fileOf pool8 25 #[] #[{ accessFlags := 2, nameIndex := 5, descriptorIndex := 6, attributes := #[] }, { accessFlags := 9, nameIndex := 147, descriptorIndex := 148, attributes := #[] }, { accessFlags := 10, nameIndex := 28, descriptorIndex := 29, attributes := #[] }] 49 2 #[] #[{ accessFlags := 26, nameIndex := 142, descriptorIndex := 143, attributes := #[] }, { accessFlags := 26, nameIndex := 112, descriptorIndex := 113, attributes := #[] }])
  fields := #[{ name := "NO_CORRECTION", type := (.object "java/lang/String"), accessFlags := 26, slot := 0, constantValue := 0 }, { name := "HUNDRED", type := (.object "java/math/BigDecimal"), accessFlags := 26, slot := 1, constantValue := 0 }]
  methods := #[k8m0, k8m1, k8m2]
  instanceTypes := #[]
  staticTypes := #[(.object "java/lang/String"), (.object "java/math/BigDecimal")]
  resolved := Array.replicate 158 none
  statics := none }

def pool9 : Array CpInfo := pool [(1, .fieldref 2 3), (0, .class_ 4), (0, .nameAndType 5 6), (0, u "java/util/Optional"), (0, u "EMPTY"), (0, u "Ljava/util/Optional;"), (0, .methodref 8 9), (0, .class_ 10), (0, .nameAndType 11 12), (0, u "java/lang/Object"), (0, u "<init>"), (0, u "()V"), (0, .fieldref 2 14), (0, .nameAndType 15 16), (0, u "value"), (0, u "Ljava/lang/Object;"), (0, .methodref 18 19), (0, .class_ 20), (0, .nameAndType 21 22), (0, u "java/util/Objects"), (0, u "requireNonNull"), (0, u "(Ljava/lang/Object;)Ljava/lang/Object;"), (0, .methodref 2 24), (0, .nameAndType 11 25), (0, u "(Ljava/lang/Object;)V"), (20, u "()Z"), (8, u "empty"), (0, u "()Ljava/util/Optional;"), (8, u "(Ljava/lang/Object;)Ljava/util/Optional;"), (2, u "isPresent"), (4, u "get"), (0, u "()Ljava/lang/Object;"), (7, u "of")] 104

def k9c0 : Code := { maxStack := 1, maxLocals := 1, code := jdk_32_method_1_code, exceptionTable := #[], attributes := #[] }
def k9m0 : Method := { name := "empty", desc := "()Ljava/util/Optional;", sig := { parameters := [], returnType := some (.object "java/util/Optional") }, accessFlags := 9, code := some k9c0 }
def k9c1 : Code := { maxStack := 2, maxLocals := 2, code := jdk_32_method_2_code, exceptionTable := #[], attributes := #[] }
def k9m1 : Method := { name := "<init>", desc := "(Ljava/lang/Object;)V", sig := { parameters := [(.object "java/lang/Object")], returnType := none }, accessFlags := 2, code := some k9c1 }
def k9c2 : Code := { maxStack := 3, maxLocals := 1, code := jdk_32_method_3_code, exceptionTable := #[], attributes := #[] }
def k9m2 : Method := { name := "of", desc := "(Ljava/lang/Object;)Ljava/util/Optional;", sig := { parameters := [(.object "java/lang/Object")], returnType := some (.object "java/util/Optional") }, accessFlags := 9, code := some k9c2 }
def k9c3 : Code := { maxStack := 3, maxLocals := 1, code := jdk_32_method_5_code, exceptionTable := #[], attributes := #[] }
def k9m3 : Method := { name := "get", desc := "()Ljava/lang/Object;", sig := { parameters := [], returnType := some (.object "java/lang/Object") }, accessFlags := 1, code := some k9c3 }
def k9c4 : Code := { maxStack := 1, maxLocals := 1, code := jdk_32_method_6_code, exceptionTable := #[], attributes := #[] }
def k9m4 : Method := { name := "isPresent", desc := "()Z", sig := { parameters := [], returnType := some .boolean }, accessFlags := 1, code := some k9c4 }
/-- java/util/Optional -/
def k9 : Class := { plain "java/util/Optional" (some 0) with
  accessFlags := 49
  interfaces := #[]
  cf := some (fileOf pool9 2 #[] #[{ accessFlags := 9, nameIndex := 55, descriptorIndex := 56, attributes := #[] }, { accessFlags := 2, nameIndex := 11, descriptorIndex := 25, attributes := #[] }, { accessFlags := 9, nameIndex := 82, descriptorIndex := 65, attributes := #[] }, { accessFlags := 1, nameIndex := 73, descriptorIndex := 74, attributes := #[] }, { accessFlags := 1, nameIndex := 68, descriptorIndex := 46, attributes := #[] }] 49 8 #[] #[{ accessFlags := 26, nameIndex := 5, descriptorIndex := 6, attributes := #[] }, { accessFlags := 18, nameIndex := 15, descriptorIndex := 16, attributes := #[] }])
  fields := #[{ name := "EMPTY", type := (.object "java/util/Optional"), accessFlags := 26, slot := 0, constantValue := 0 }, { name := "value", type := (.object "java/lang/Object"), accessFlags := 18, slot := 0, constantValue := 0 }]
  methods := #[k9m0, k9m1, k9m2, k9m3, k9m4]
  instanceTypes := #[(.object "java/lang/Object")]
  staticTypes := #[(.object "java/util/Optional")]
  resolved := Array.replicate 187 none
  statics := some 1 }

def pool10 : Array CpInfo := pool [(3, .class_ 4), (0, u "java/lang/String"), (1, .class_ 8), (1, u "java/lang/Object"), (0, u "<init>"), (0, u "()V"), (0, .methodref 12 13), (0, .class_ 14), (0, .nameAndType 15 16), (0, u "java/lang/StringUTF16"), (0, u "newBytesLength"), (0, u "(I)I"), (3, .integer 1073741823), (23, .fieldref 12 45), (0, .nameAndType 46 47), (0, u "$assertionsDisabled"), (0, u "Z"), (0, .methodref 12 49), (0, .nameAndType 50 51), (0, u "length"), (0, u "([B)I"), (7, .fieldref 12 60), (0, .nameAndType 61 62), (0, u "HI_BYTE_SHIFT"), (0, u "I"), (0, .fieldref 12 64), (0, .nameAndType 65 62), (0, u "LO_BYTE_SHIFT"), (1, .methodref 12 68), (0, .nameAndType 69 70), (0, u "checkIndex"), (0, u "(I[B)V"), (0, .methodref 12 72), (0, .nameAndType 73 74), (0, u "getChar"), (0, u "([BI)C"), (24, u "(II[B)V"), (7, .methodref 12 108), (0, .nameAndType 109 110), (0, u "newBytesFor"), (0, u "(I)[B"), (0, .methodref 12 112), (0, .nameAndType 113 114), (0, u "putChar"), (0, u "([BII)V"), (0, .methodref 12 116), (0, .nameAndType 117 118), (0, u "compress"), (0, u "([CI[BII)I"), (0, .methodref 12 120), (0, .nameAndType 121 122), (0, u "toBytes"), (0, u "([CII)[B"), (0, .methodref 12 124), (0, .nameAndType 117 125), (0, u "([BI[BII)I"), (0, .methodref 127 128), (0, .class_ 129), (0, .nameAndType 130 131), (0, u "java/util/Arrays"), (0, u "copyOfRange"), (0, u "([BII)[B"), (41, .methodref 12 174), (0, .nameAndType 175 99), (0, u "checkBoundsOffCount"), (75, .fieldref 3 252), (0, .nameAndType 253 47), (0, u "COMPACT_STRINGS"), (3, .methodref 12 258), (0, .nameAndType 117 131), (0, .methodref 12 260), (0, .nameAndType 261 262), (0, u "coderFromArrayLen"), (0, u "([BI)B"), (0, .methodref 3 264), (0, .nameAndType 9 265), (0, u "([BB)V"), (15, u "(III)I"), (45, u "newString"), (0, u "([BII)Ljava/lang/String;"), (40, .class_ 371), (1, u "java/lang/StringUTF16$LinesSpliterator"), (20, u "charAt"), (21, .methodref 3 415), (0, .nameAndType 69 416), (0, u "(II)V"), (2, .methodref 3 420), (0, .nameAndType 175 281), (9, u "MAX_LENGTH"), (196, .class_ 628), (0, u "java/lang/StringUTF16$CodePointsSpliterator"), (0, .class_ 630), (0, u "java/lang/StringUTF16$CharsSpliterator")] 4

def k10m0 : Method := { name := "<init>", desc := "()V", sig := { parameters := [], returnType := none }, accessFlags := 0, code := none }
def k10c1 : Code := { maxStack := 1, maxLocals := 1, code := jdk_52_method_2_code, exceptionTable := #[], attributes := #[] }
def k10m1 : Method := { name := "newBytesFor", desc := "(I)[B", sig := { parameters := [.int], returnType := some (.array .byte) }, accessFlags := 9, code := some k10c1 }
def k10c2 : Code := { maxStack := 4, maxLocals := 1, code := jdk_52_method_3_code, exceptionTable := #[], attributes := #[] }
def k10m2 : Method := { name := "newBytesLength", desc := "(I)I", sig := { parameters := [.int], returnType := some .int }, accessFlags := 9, code := some k10c2 }
def k10c3 : Code := { maxStack := 4, maxLocals := 3, code := jdk_52_method_4_code, exceptionTable := #[], attributes := #[] }
def k10m3 : Method := { name := "putChar", desc := "([BII)V", sig := { parameters := [(.array .byte), .int, .int], returnType := none }, accessFlags := 8, code := some k10c3 }
def k10c4 : Code := { maxStack := 3, maxLocals := 2, code := jdk_52_method_5_code, exceptionTable := #[], attributes := #[] }
def k10m4 : Method := { name := "getChar", desc := "([BI)C", sig := { parameters := [(.array .byte), .int], returnType := some .char }, accessFlags := 8, code := some k10c4 }
def k10c5 : Code := { maxStack := 2, maxLocals := 1, code := jdk_52_method_6_code, exceptionTable := #[], attributes := #[] }
def k10m5 : Method := { name := "length", desc := "([B)I", sig := { parameters := [(.array .byte)], returnType := some .int }, accessFlags := 9, code := some k10c5 }
def k10c6 : Code := { maxStack := 4, maxLocals := 5, code := jdk_52_method_14_code, exceptionTable := #[], attributes := #[] }
def k10m6 : Method := { name := "toBytes", desc := "([CII)[B", sig := { parameters := [(.array .char), .int, .int], returnType := some (.array .byte) }, accessFlags := 9, code := some k10c6 }
def k10c7 : Code := { maxStack := 2, maxLocals := 2, code := jdk_52_method_15_code, exceptionTable := #[], attributes := #[] }
def k10m7 : Method := { name := "coderFromArrayLen", desc := "([BI)B", sig := { parameters := [(.array .byte), .int], returnType := some .byte }, accessFlags := 8, code := some k10c7 }
def k10c8 : Code := { maxStack := 5, maxLocals := 6, code := jdk_52_method_16_code, exceptionTable := #[], attributes := #[] }
def k10m8 : Method := { name := "compress", desc := "([CII)[B", sig := { parameters := [(.array .char), .int, .int], returnType := some (.array .byte) }, accessFlags := 9, code := some k10c8 }
def k10c9 : Code := { maxStack := 5, maxLocals := 6, code := jdk_52_method_17_code, exceptionTable := #[], attributes := #[] }
def k10m9 : Method := { name := "compress", desc := "([BII)[B", sig := { parameters := [(.array .byte), .int, .int], returnType := some (.array .byte) }, accessFlags := 9, code := some k10c9 }
def k10c10 : Code := { maxStack := 3, maxLocals := 7, code := jdk_52_method_21_code, exceptionTable := #[], attributes := #[] }
def k10m10 : Method := { name := "compress", desc := "([CI[BII)I", sig := { parameters := [(.array .char), .int, (.array .byte), .int, .int], returnType := some .int }, accessFlags := 9, code := some k10c10 }
def k10c11 : Code := { maxStack := 3, maxLocals := 7, code := jdk_52_method_22_code, exceptionTable := #[], attributes := #[] }
def k10m11 : Method := { name := "compress", desc := "([BI[BII)I", sig := { parameters := [(.array .byte), .int, (.array .byte), .int, .int], returnType := some .int }, accessFlags := 9, code := some k10c11 }
def k10c12 : Code := { maxStack := 6, maxLocals := 5, code := jdk_52_method_69_code, exceptionTable := #[], attributes := #[] }
def k10m12 : Method := { name := "newString", desc := "([BII)Ljava/lang/String;", sig := { parameters := [(.array .byte), .int, .int], returnType := some (.object "java/lang/String") }, accessFlags := 9, code := some k10c12 }
def k10c13 : Code := { maxStack := 2, maxLocals := 2, code := jdk_52_method_83_code, exceptionTable := #[], attributes := #[] }
def k10m13 : Method := { name := "charAt", desc := "([BI)C", sig := { parameters := [(.array .byte), .int], returnType := some .char }, accessFlags := 9, code := some k10c13 }
def k10c14 : Code := { maxStack := 2, maxLocals := 2, code := jdk_52_method_91_code, exceptionTable := #[], attributes := #[] }
def k10m14 : Method := { name := "checkIndex", desc := "(I[B)V", sig := { parameters := [.int, (.array .byte)], returnType := none }, accessFlags := 9, code := some k10c14 }
def k10c15 : Code := { maxStack := 3, maxLocals := 3, code := jdk_52_method_94_code, exceptionTable := #[], attributes := #[] }
def k10m15 : Method := { name := "checkBoundsOffCount", desc := "(II[B)V", sig := { parameters := [.int, .int, (.array .byte)], returnType := none }, accessFlags := 9, code := some k10c15 }
/-- java/lang/StringUTF16 -/
def k10 : Class := { plain "java/lang/StringUTF16" (some 0) with
  accessFlags := 48
  interfaces := #[]
  cf := some (fileOf pool10 12 #[.nestMembers #[627, 629, 369]] #[{ accessFlags := 0, nameIndex := 9, descriptorIndex := 10, attributes := #[] }, { accessFlags := 9, nameIndex := 109, descriptorIndex := 110, attributes := #[] }, { accessFlags := 9, nameIndex := 15, descriptorIndex := 16, attributes := #[] }, { accessFlags := 8, nameIndex := 113, descriptorIndex := 114, attributes := #[] }, { accessFlags := 8, nameIndex := 73, descriptorIndex := 74, attributes := #[] }, { accessFlags := 9, nameIndex := 50, descriptorIndex := 51, attributes := #[] }, { accessFlags := 9, nameIndex := 121, descriptorIndex := 122, attributes := #[] }, { accessFlags := 8, nameIndex := 261, descriptorIndex := 262, attributes := #[] }, { accessFlags := 9, nameIndex := 117, descriptorIndex := 122, attributes := #[] }, { accessFlags := 9, nameIndex := 117, descriptorIndex := 131, attributes := #[] }, { accessFlags := 9, nameIndex := 117, descriptorIndex := 118, attributes := #[] }, { accessFlags := 9, nameIndex := 117, descriptorIndex := 125, attributes := #[] }, { accessFlags := 9, nameIndex := 327, descriptorIndex := 328, attributes := #[] }, { accessFlags := 9, nameIndex := 392, descriptorIndex := 74, attributes := #[] }, { accessFlags := 9, nameIndex := 69, descriptorIndex := 70, attributes := #[] }, { accessFlags := 9, nameIndex := 175, descriptorIndex := 99, attributes := #[] }] 48 6 #[] #[{ accessFlags := 26, nameIndex := 61, descriptorIndex := 62, attributes := #[] }, { accessFlags := 26, nameIndex := 65, descriptorIndex := 62, attributes := #[] }, { accessFlags := 24, nameIndex := 430, descriptorIndex := 62, attributes := #[] }, { accessFlags := 4120, nameIndex := 46, descriptorIndex := 47, attributes := #[] }])
  fields := #[{ name := "HI_BYTE_SHIFT", type := .int, accessFlags := 26, slot := 0, constantValue := 0 }, { name := "LO_BYTE_SHIFT", type := .int, accessFlags := 26, slot := 1, constantValue := 0 }, { name := "MAX_LENGTH", type := .int, accessFlags := 24, slot := 2, constantValue := 0 }, { name := "$assertionsDisabled", type := .boolean, accessFlags := 4120, slot := 3, constantValue := 0 }]
  methods := #[k10m0, k10m1, k10m2, k10m3, k10m4, k10m5, k10m6, k10m7, k10m8, k10m9, k10m10, k10m11, k10m12, k10m13, k10m14, k10m15]
  instanceTypes := #[]
  staticTypes := #[.int, .int, .int, .boolean]
  resolved := Array.replicate 635 none
  statics := some 2 }

def pool11 : Array CpInfo := pool [(1, .class_ 2), (0, u "java/lang/String"), (1, .class_ 6), (1, u "java/lang/Object"), (0, u "<init>"), (0, u "()V"), (0, .methodref 1 10), (0, .nameAndType 11 12), (0, u "checkIndex"), (0, u "(II)V"), (1, .class_ 16), (1, u "java/lang/StringLatin1"), (36, u "([BI)C"), (58, .methodref 1 113), (0, .nameAndType 7 114), (0, u "([BB)V"), (6, u "$assertionsDisabled"), (0, u "Z"), (8, .class_ 133), (1, u "java/util/Arrays"), (62, u "newString"), (0, u "([BII)Ljava/lang/String;"), (23, .class_ 223), (1, u "java/lang/StringLatin1$LinesSpliterator"), (8, .methodref 131 233), (0, .nameAndType 234 235), (0, u "copyOfRange"), (0, u "([BII)[B"), (16, u "charAt"), (137, .class_ 391), (0, u "java/lang/StringLatin1$CharsSpliterator")] 3

def k11m0 : Method := { name := "<init>", desc := "()V", sig := { parameters := [], returnType := none }, accessFlags := 0, code := none }
def k11c1 : Code := { maxStack := 2, maxLocals := 2, code := jdk_43_method_2_code, exceptionTable := #[], attributes := #[] }
def k11m1 : Method := { name := "charAt", desc := "([BI)C", sig := { parameters := [(.array .byte), .int], returnType := some .char }, accessFlags := 9, code := some k11c1 }
def k11c2 : Code := { maxStack := 6, maxLocals := 3, code := jdk_43_method_47_code, exceptionTable := #[], attributes := #[] }
def k11m2 : Method := { name := "newString", desc := "([BII)Ljava/lang/String;", sig := { parameters := [(.array .byte), .int, .int], returnType := some (.object "java/lang/String") }, accessFlags := 9, code := some k11c2 }
/-- java/lang/StringLatin1 -/
def k11 : Class := { plain "java/lang/StringLatin1" (some 0) with
  accessFlags := 48
  interfaces := #[]
  cf := some (fileOf pool11 14 #[.nestMembers #[390, 221]] #[{ accessFlags := 0, nameIndex := 7, descriptorIndex := 8, attributes := #[] }, { accessFlags := 9, nameIndex := 252, descriptorIndex := 53, attributes := #[] }, { accessFlags := 9, nameIndex := 196, descriptorIndex := 197, attributes := #[] }] 48 4 #[] #[{ accessFlags := 4120, nameIndex := 121, descriptorIndex := 122, attributes := #[] }])
  fields := #[{ name := "$assertionsDisabled", type := .boolean, accessFlags := 4120, slot := 0, constantValue := 0 }]
  methods := #[k11m0, k11m1, k11m2]
  instanceTypes := #[]
  staticTypes := #[.boolean]
  resolved := Array.replicate 395 none
  statics := none }

def pool12 : Array CpInfo := pool [(2, .class_ 4), (1, u "java/lang/Object"), (0, u "<init>"), (0, u "()V"), (17, .class_ 26), (1, u "jdk/internal/util/Preconditions"), (6, u "checkIndex"), (13, u "checkFromToIndex"), (1, u "checkFromIndexSize"), (5, .class_ 56), (0, u "jdk/internal/util/Preconditions$4"), (57, .class_ 115), (0, u "jdk/internal/util/Preconditions$1"), (7, u "SIOOBE_FORMATTER"), (0, u "Ljava/util/function/BiFunction;"), (0, .class_ 126), (0, u "jdk/internal/util/Preconditions$2"), (3, u "AIOOBE_FORMATTER"), (0, .class_ 132), (0, u "jdk/internal/util/Preconditions$3"), (3, u "IOOBE_FORMATTER"), (41, u "(IILjava/util/function/BiFunction;)I"), (4, u "(IIILjava/util/function/BiFunction;)I")] 10

def k12m0 : Method := { name := "<init>", desc := "()V", sig := { parameters := [], returnType := none }, accessFlags := 1, code := none }
def k12c1 : Code := { maxStack := 3, maxLocals := 3, code := jdk_41_method_11_code, exceptionTable := #[], attributes := #[] }
def k12m1 : Method := { name := "checkIndex", desc := "(IILjava/util/function/BiFunction;)I", sig := { parameters := [.int, .int, (.object "java/util/function/BiFunction")], returnType := some .int }, accessFlags := 9, code := some k12c1 }
def k12c2 : Code := { maxStack := 4, maxLocals := 4, code := jdk_41_method_12_code, exceptionTable := #[], attributes := #[] }
def k12m2 : Method := { name := "checkFromToIndex", desc := "(IIILjava/util/function/BiFunction;)I", sig := { parameters := [.int, .int, .int, (.object "java/util/function/BiFunction")], returnType := some .int }, accessFlags := 9, code := some k12c2 }
def k12c3 : Code := { maxStack := 4, maxLocals := 4, code := jdk_41_method_13_code, exceptionTable := #[], attributes := #[] }
def k12m3 : Method := { name := "checkFromIndexSize", desc := "(IIILjava/util/function/BiFunction;)I", sig := { parameters := [.int, .int, .int, (.object "java/util/function/BiFunction")], returnType := some .int }, accessFlags := 9, code := some k12c3 }
/-- jdk/internal/util/Preconditions -/
def k12 : Class := { plain "jdk/internal/util/Preconditions" (some 0) with
  accessFlags := 33
  interfaces := #[]
  cf := some (fileOf pool12 24 #[.nestMembers #[55, 131, 125, 114]] #[{ accessFlags := 1, nameIndex := 5, descriptorIndex := 6, attributes := #[] }, { accessFlags := 9, nameIndex := 33, descriptorIndex := 178, attributes := #[] }, { accessFlags := 9, nameIndex := 47, descriptorIndex := 183, attributes := #[] }, { accessFlags := 9, nameIndex := 49, descriptorIndex := 183, attributes := #[] }] 33 2 #[] #[{ accessFlags := 25, nameIndex := 123, descriptorIndex := 124, attributes := #[] }, { accessFlags := 25, nameIndex := 130, descriptorIndex := 124, attributes := #[] }, { accessFlags := 25, nameIndex := 136, descriptorIndex := 124, attributes := #[] }])
  fields := #[{ name := "SIOOBE_FORMATTER", type := (.object "java/util/function/BiFunction"), accessFlags := 25, slot := 0, constantValue := 0 }, { name := "AIOOBE_FORMATTER", type := (.object "java/util/function/BiFunction"), accessFlags := 25, slot := 1, constantValue := 0 }, { name := "IOOBE_FORMATTER", type := (.object "java/util/function/BiFunction"), accessFlags := 25, slot := 2, constantValue := 0 }]
  methods := #[k12m0, k12m1, k12m2, k12m3]
  instanceTypes := #[]
  staticTypes := #[(.object "java/util/function/BiFunction"), (.object "java/util/function/BiFunction"), (.object "java/util/function/BiFunction")]
  resolved := Array.replicate 194 none
  statics := some 3 }

def pool13 : Array CpInfo := pool [(2, .class_ 4), (1, u "java/lang/Object"), (0, u "<init>"), (0, u "()V"), (7, .class_ 16), (1, u "java/util/Arrays"), (57, .class_ 76), (1, u "java/util/Arrays$NaturalOrder"), (36, .class_ 115), (1, u "java/util/Arrays$LegacyMergeSort"), (1, u "Z"), (21, u "copyOfRange"), (10, .methodref 151 152), (0, .class_ 153), (0, .nameAndType 154 155), (0, u "java/lang/System"), (0, u "arraycopy"), (0, u "(Ljava/lang/Object;ILjava/lang/Object;II)V"), (148, .methodref 305 306), (0, .class_ 307), (0, .nameAndType 308 309), (0, u "java/lang/Math"), (0, u "min"), (0, u "(II)I"), (29, .methodref 14 340), (0, .nameAndType 341 342), (0, u "copyOfRangeByte"), (0, u "([BII)[B"), (0, .methodref 14 344), (0, .nameAndType 345 346), (0, u "checkLength"), (0, u "(II)V"), (28, .class_ 376), (0, u "java/util/Arrays$ArrayList"), (68, u "$assertionsDisabled"), (269, u "MIN_ARRAY_SORT_GRAN"), (0, u "I"), (2, u "INSERTIONSORT_THRESHOLD"), (255, .class_ 976), (0, u "java/util/Arrays$ArrayItr")] 52

def k13m0 : Method := { name := "<init>", desc := "()V", sig := { parameters := [], returnType := none }, accessFlags := 2, code := none }
def k13c1 : Code := { maxStack := 4, maxLocals := 2, code := jdk_65_method_131_code, exceptionTable := #[], attributes := #[] }
def k13m1 : Method := { name := "checkLength", desc := "(II)V", sig := { parameters := [.int, .int], returnType := none }, accessFlags := 10, code := some k13c1 }
def k13c2 : Code := { maxStack := 3, maxLocals := 3, code := jdk_65_method_132_code, exceptionTable := #[], attributes := #[] }
def k13m2 : Method := { name := "copyOfRange", desc := "([BII)[B", sig := { parameters := [(.array .byte), .int, .int], returnType := some (.array .byte) }, accessFlags := 9, code := some k13c2 }
def k13c3 : Code := { maxStack := 6, maxLocals := 5, code := jdk_65_method_133_code, exceptionTable := #[], attributes := #[] }
def k13m3 : Method := { name := "copyOfRangeByte", desc := "([BII)[B", sig := { parameters := [(.array .byte), .int, .int], returnType := some (.array .byte) }, accessFlags := 10, code := some k13c3 }
/-- java/util/Arrays -/
def k13 : Class := { plain "java/util/Arrays" (some 0) with
  accessFlags := 49
  interfaces := #[]
  cf := some (fileOf pool13 14 #[.nestMembers #[975, 375, 113, 74]] #[{ accessFlags := 2, nameIndex := 5, descriptorIndex := 6, attributes := #[] }, { accessFlags := 10, nameIndex := 345, descriptorIndex := 346, attributes := #[] }, { accessFlags := 9, nameIndex := 139, descriptorIndex := 342, attributes := #[] }, { accessFlags := 10, nameIndex := 341, descriptorIndex := 342, attributes := #[] }] 49 2 #[] #[{ accessFlags := 26, nameIndex := 715, descriptorIndex := 716, attributes := #[] }, { accessFlags := 26, nameIndex := 719, descriptorIndex := 716, attributes := #[] }, { accessFlags := 4120, nameIndex := 445, descriptorIndex := 117, attributes := #[] }])
  fields := #[{ name := "MIN_ARRAY_SORT_GRAN", type := .int, accessFlags := 26, slot := 0, constantValue := 0 }, { name := "INSERTIONSORT_THRESHOLD", type := .int, accessFlags := 26, slot := 1, constantValue := 0 }, { name := "$assertionsDisabled", type := .boolean, accessFlags := 4120, slot := 2, constantValue := 0 }]
  methods := #[k13m0, k13m1, k13m2, k13m3]
  instanceTypes := #[]
  staticTypes := #[.int, .int, .boolean]
  resolved := Array.replicate 1029 none
  statics := none }

def pool14 : Array CpInfo := pool [(1, .class_ 2), (0, u "java/lang/Math"), (1, .class_ 6), (1, u "java/lang/Object"), (0, u "<init>"), (0, u "()V"), (89, .class_ 100), (1, u "java/lang/Math$RandomNumberGeneratorHolder"), (71, u "negativeZeroFloatBits"), (0, u "J"), (2, u "negativeZeroDoubleBits"), (24, u "min"), (43, u "$assertionsDisabled"), (0, u "Z"), (88, u "(II)I"), (2, u "twoToTheDoubleScaleDown"), (0, u "D"), (4, u "twoToTheDoubleScaleUp"), (9, u "E"), (3, u "PI"), (2, u "TAU"), (2, u "DEGREES_TO_RADIANS"), (0, u "RADIANS_TO_DEGREES")] 94

def k14m0 : Method := { name := "<init>", desc := "()V", sig := { parameters := [], returnType := none }, accessFlags := 2, code := none }
def k14c1 : Code := { maxStack := 2, maxLocals := 2, code := jdk_29_method_69_code, exceptionTable := #[], attributes := #[] }
def k14m1 : Method := { name := "min", desc := "(II)I", sig := { parameters := [.int, .int], returnType := some .int }, accessFlags := 9, code := some k14c1 }
/-- java/lang/Math -/
def k14 : Class := { plain "java/lang/Math" (some 0) with
  accessFlags := 49
  interfaces := #[]
  cf := some (fileOf pool14 1 #[.nestMembers #[98]] #[{ accessFlags := 2, nameIndex := 7, descriptorIndex := 8, attributes := #[] }, { accessFlags := 9, nameIndex := 201, descriptorIndex := 335, attributes := #[] }] 49 4 #[] #[{ accessFlags := 25, nameIndex := 354, descriptorIndex := 339, attributes := #[] }, { accessFlags := 25, nameIndex := 358, descriptorIndex := 339, attributes := #[] }, { accessFlags := 25, nameIndex := 361, descriptorIndex := 339, attributes := #[] }, { accessFlags := 26, nameIndex := 364, descriptorIndex := 339, attributes := #[] }, { accessFlags := 26, nameIndex := 365, descriptorIndex := 339, attributes := #[] }, { accessFlags := 26, nameIndex := 172, descriptorIndex := 173, attributes := #[] }, { accessFlags := 26, nameIndex := 176, descriptorIndex := 173, attributes := #[] }, { accessFlags := 8, nameIndex := 344, descriptorIndex := 339, attributes := #[] }, { accessFlags := 8, nameIndex := 338, descriptorIndex := 339, attributes := #[] }, { accessFlags := 4120, nameIndex := 245, descriptorIndex := 246, attributes := #[] }])
  fields := #[{ name := "E", type := .double, accessFlags := 25, slot := 0, constantValue := 0 }, { name := "PI", type := .double, accessFlags := 25, slot := 1, constantValue := 0 }, { name := "TAU", type := .double, accessFlags := 25, slot := 2, constantValue := 0 }, { name := "DEGREES_TO_RADIANS", type := .double, accessFlags := 26, slot := 3, constantValue := 0 }, { name := "RADIANS_TO_DEGREES", type := .double, accessFlags := 26, slot := 4, constantValue := 0 }, { name := "negativeZeroFloatBits", type := .long, accessFlags := 26, slot := 5, constantValue := 0 }, { name := "negativeZeroDoubleBits", type := .long, accessFlags := 26, slot := 6, constantValue := 0 }, { name := "twoToTheDoubleScaleUp", type := .double, accessFlags := 8, slot := 7, constantValue := 0 }, { name := "twoToTheDoubleScaleDown", type := .double, accessFlags := 8, slot := 8, constantValue := 0 }, { name := "$assertionsDisabled", type := .boolean, accessFlags := 4120, slot := 9, constantValue := 0 }]
  methods := #[k14m0, k14m1]
  instanceTypes := #[]
  staticTypes := #[.double, .double, .double, .double, .double, .long, .long, .double, .double, .boolean]
  resolved := Array.replicate 460 none
  statics := none }

def pool15 : Array CpInfo := pool [(2, .class_ 4), (1, u "java/lang/Object"), (0, u "<init>"), (0, u "()V"), (1, .class_ 10), (1, u "java/lang/System"), (0, u "allowSecurityManager"), (0, u "I"), (16, u "cons"), (0, u "Ljava/io/Console;"), (77, .class_ 110), (1, u "java/lang/System$CallersHolder"), (43, u "initialErrStream"), (0, u "Ljava/io/PrintStream;"), (19, u "security"), (0, u "Ljava/lang/SecurityManager;"), (31, .class_ 209), (0, u "java/lang/System$1"), (7, u "props"), (0, u "Ljava/util/Properties;"), (2, u "lineSeparator"), (0, u "Ljava/lang/String;"), (96, .class_ 321), (1, u "java/lang/System$LoggerFinder"), (5, .class_ 328), (0, u "java/lang/System$Logger"), (67, u "err"), (2, u "out"), (91, u "notSupportedJnuEncoding"), (15, u "in"), (17, u "initialIn"), (0, u "Ljava/io/InputStream;"), (35, u "bootLayer"), (0, u "Ljava/lang/ModuleLayer;"), (99, .class_ 664), (0, u "java/lang/System$2"), (9, u "NEVER"), (2, u "MAYBE"), (49, u "arraycopy"), (0, u "(Ljava/lang/Object;ILjava/lang/Object;II)V"), (72, .class_ 802), (0, u "java/lang/System$Logger$Level")] 31

def k15m0 : Method := { name := "<init>", desc := "()V", sig := { parameters := [], returnType := none }, accessFlags := 2, code := none }
def k15m1 : Method := { name := "arraycopy", desc := "(Ljava/lang/Object;ILjava/lang/Object;II)V", sig := { parameters := [(.object "java/lang/Object"), .int, (.object "java/lang/Object"), .int, .int], returnType := none }, accessFlags := 265, code := none }
/-- java/lang/System -/
def k15 : Class := { plain "java/lang/System" (some 0) with
  accessFlags := 49
  interfaces := #[]
  cf := some (fileOf pool15 8 #[.nestMembers #[319, 327, 801, 108, 663, 208]] #[{ accessFlags := 2, nameIndex := 5, descriptorIndex := 6, attributes := #[] }, { accessFlags := 265, nameIndex := 727, descriptorIndex := 728, attributes := #[] }] 49 2 #[] #[{ accessFlags := 25, nameIndex := 507, descriptorIndex := 526, attributes := #[] }, { accessFlags := 25, nameIndex := 399, descriptorIndex := 155, attributes := #[] }, { accessFlags := 25, nameIndex := 396, descriptorIndex := 155, attributes := #[] }, { accessFlags := 10, nameIndex := 525, descriptorIndex := 526, attributes := #[] }, { accessFlags := 26, nameIndex := 674, descriptorIndex := 12, attributes := #[] }, { accessFlags := 26, nameIndex := 677, descriptorIndex := 12, attributes := #[] }, { accessFlags := 10, nameIndex := 11, descriptorIndex := 12, attributes := #[] }, { accessFlags := 74, nameIndex := 175, descriptorIndex := 176, attributes := #[] }, { accessFlags := 10, nameIndex := 491, descriptorIndex := 222, attributes := #[] }, { accessFlags := 74, nameIndex := 29, descriptorIndex := 30, attributes := #[] }, { accessFlags := 74, nameIndex := 154, descriptorIndex := 155, attributes := #[] }, { accessFlags := 10, nameIndex := 217, descriptorIndex := 218, attributes := #[] }, { accessFlags := 10, nameIndex := 221, descriptorIndex := 222, attributes := #[] }, { accessFlags := 8, nameIndex := 562, descriptorIndex := 563, attributes := #[] }])
  fields := #[{ name := "in", type := (.object "java/io/InputStream"), accessFlags := 25, slot := 0, constantValue := 0 }, { name := "out", type := (.object "java/io/PrintStream"), accessFlags := 25, slot := 1, constantValue := 0 }, { name := "err", type := (.object "java/io/PrintStream"), accessFlags := 25, slot := 2, constantValue := 0 }, { name := "initialIn", type := (.object "java/io/InputStream"), accessFlags := 10, slot := 3, constantValue := 0 }, { name := "NEVER", type := .int, accessFlags := 26, slot := 4, constantValue := 0 }, { name := "MAYBE", type := .int, accessFlags := 26, slot := 5, constantValue := 0 }, { name := "allowSecurityManager", type := .int, accessFlags := 10, slot := 6, constantValue := 0 }, { name := "security", type := (.object "java/lang/SecurityManager"), accessFlags := 74, slot := 7, constantValue := 0 }, { name := "notSupportedJnuEncoding", type := (.object "java/lang/String"), accessFlags := 10, slot := 8, constantValue := 0 }, { name := "cons", type := (.object "java/io/Console"), accessFlags := 74, slot := 9, constantValue := 0 }, { name := "initialErrStream", type := (.object "java/io/PrintStream"), accessFlags := 74, slot := 10, constantValue := 0 }, { name := "props", type := (.object "java/util/Properties"), accessFlags := 10, slot := 11, constantValue := 0 }, { name := "lineSeparator", type := (.object "java/lang/String"), accessFlags := 10, slot := 12, constantValue := 0 }, { name := "bootLayer", type := (.object "java/lang/ModuleLayer"), accessFlags := 8, slot := 13, constantValue := 0 }]
  methods := #[k15m0, k15m1]
  instanceTypes := #[]
  staticTypes := #[(.object "java/io/InputStream"), (.object "java/io/PrintStream"), (.object "java/io/PrintStream"), (.object "java/io/InputStream"), .int, .int, .int, (.object "java/lang/SecurityManager"), (.object "java/lang/String"), (.object "java/io/Console"), (.object "java/io/PrintStream"), (.object "java/util/Properties"), (.object "java/lang/String"), (.object "java/lang/ModuleLayer")]
  resolved := Array.replicate 834 none
  statics := none }

def pool16 : Array CpInfo := pool [(2, .class_ 4), (1, u "java/lang/Object"), (0, u "<init>"), (0, u "()V"), (35, .class_ 44), (1, u "java/util/Objects"), (0, u "requireNonNull"), (0, u "(Ljava/lang/Object;)Ljava/lang/Object;")] 137

def k16m0 : Method := { name := "<init>", desc := "()V", sig := { parameters := [], returnType := none }, accessFlags := 2, code := none }
def k16c1 : Code := { maxStack := 2, maxLocals := 1, code := jdk_31_method_10_code, exceptionTable := #[], attributes := #[] }
def k16m1 : Method := { name := "requireNonNull", desc := "(Ljava/lang/Object;)Ljava/lang/Object;", sig := { parameters := [(.object "java/lang/Object")], returnType := some (.object "java/lang/Object") }, accessFlags := 9, code := some k16c1 }
/-- java/util/Objects -/
def k16 : Class := { plain "java/util/Objects" (some 0) with
  accessFlags := 49
  interfaces := #[]
  cf := some (fileOf pool16 42 #[] #[{ accessFlags := 2, nameIndex := 5, descriptorIndex := 6, attributes := #[] }, { accessFlags := 9, nameIndex := 45, descriptorIndex := 46, attributes := #[] }] 49 2 #[] #[])
  fields := #[]
  methods := #[k16m0, k16m1]
  instanceTypes := #[]
  staticTypes := #[]
  resolved := Array.replicate 184 none
  statics := none }

def pool17 : Array CpInfo := pool [(9, u "<init>"), (6, .class_ 18), (1, u "java/lang/Object"), (0, u "()V"), (1, .class_ 23), (1, u "jdk/internal/util/ArraysSupport"), (0, u "LOG2_ARRAY_LONG_INDEX_SCALE"), (0, u "I"), (2, u "U"), (0, u "Ljdk/internal/misc/Unsafe;"), (8, u "BIG_ENDIAN"), (0, u "Z"), (8, u "LOG2_BYTE_BIT_SIZE"), (4, u "LOG2_ARRAY_INT_INDEX_SCALE"), (54, u "JLA"), (0, u "Ljdk/internal/access/JavaLangAccess;"), (11, u "LOG2_ARRAY_BOOLEAN_INDEX_SCALE"), (9, u "LOG2_ARRAY_BYTE_INDEX_SCALE"), (5, u "LOG2_ARRAY_CHAR_INDEX_SCALE"), (5, u "LOG2_ARRAY_SHORT_INDEX_SCALE"), (18, u "LOG2_ARRAY_FLOAT_INDEX_SCALE"), (24, u "LOG2_ARRAY_DOUBLE_INDEX_SCALE"), (89, u "T_BOOLEAN"), (2, u "T_CHAR"), (1, u "T_FLOAT"), (1, u "T_DOUBLE"), (1, u "T_BYTE"), (1, u "T_SHORT"), (1, u "T_INT"), (1, u "T_LONG"), (1, u "SOFT_MAX_ARRAY_LENGTH")] 83

def k17m0 : Method := { name := "<init>", desc := "()V", sig := { parameters := [], returnType := none }, accessFlags := 2, code := none }
/-- jdk/internal/util/ArraysSupport -/
def k17 : Class := { plain "jdk/internal/util/ArraysSupport" (some 0) with
  accessFlags := 33
  interfaces := #[]
  cf := some (fileOf pool17 21 #[] #[{ accessFlags := 2, nameIndex := 9, descriptorIndex := 19, attributes := #[] }] 33 16 #[] #[{ accessFlags := 24, nameIndex := 28, descriptorIndex := 29, attributes := #[] }, { accessFlags := 26, nameIndex := 38, descriptorIndex := 39, attributes := #[] }, { accessFlags := 25, nameIndex := 121, descriptorIndex := 25, attributes := #[] }, { accessFlags := 25, nameIndex := 131, descriptorIndex := 25, attributes := #[] }, { accessFlags := 25, nameIndex := 137, descriptorIndex := 25, attributes := #[] }, { accessFlags := 25, nameIndex := 143, descriptorIndex := 25, attributes := #[] }, { accessFlags := 25, nameIndex := 53, descriptorIndex := 25, attributes := #[] }, { accessFlags := 25, nameIndex := 24, descriptorIndex := 25, attributes := #[] }, { accessFlags := 25, nameIndex := 162, descriptorIndex := 25, attributes := #[] }, { accessFlags := 25, nameIndex := 187, descriptorIndex := 25, attributes := #[] }, { accessFlags := 26, nameIndex := 48, descriptorIndex := 25, attributes := #[] }, { accessFlags := 25, nameIndex := 277, descriptorIndex := 25, attributes := #[] }, { accessFlags := 25, nameIndex := 280, descriptorIndex := 25, attributes := #[] }, { accessFlags := 25, nameIndex := 282, descriptorIndex := 25, attributes := #[] }, { accessFlags := 25, nameIndex := 284, descriptorIndex := 25, attributes := #[] }, { accessFlags := 25, nameIndex := 286, descriptorIndex := 25, attributes := #[] }, { accessFlags := 25, nameIndex := 288, descriptorIndex := 25, attributes := #[] }, { accessFlags := 25, nameIndex := 290, descriptorIndex := 25, attributes := #[] }, { accessFlags := 25, nameIndex := 292, descriptorIndex := 25, attributes := #[] }, { accessFlags := 26, nameIndex := 108, descriptorIndex := 109, attributes := #[] }, { accessFlags := 25, nameIndex := 294, descriptorIndex := 25, attributes := #[] }])
  fields := #[{ name := "U", type := (.object "jdk/internal/misc/Unsafe"), accessFlags := 24, slot := 0, constantValue := 0 }, { name := "BIG_ENDIAN", type := .boolean, accessFlags := 26, slot := 1, constantValue := 0 }, { name := "LOG2_ARRAY_BOOLEAN_INDEX_SCALE", type := .int, accessFlags := 25, slot := 2, constantValue := 0 }, { name := "LOG2_ARRAY_BYTE_INDEX_SCALE", type := .int, accessFlags := 25, slot := 3, constantValue := 0 }, { name := "LOG2_ARRAY_CHAR_INDEX_SCALE", type := .int, accessFlags := 25, slot := 4, constantValue := 0 }, { name := "LOG2_ARRAY_SHORT_INDEX_SCALE", type := .int, accessFlags := 25, slot := 5, constantValue := 0 }, { name := "LOG2_ARRAY_INT_INDEX_SCALE", type := .int, accessFlags := 25, slot := 6, constantValue := 0 }, { name := "LOG2_ARRAY_LONG_INDEX_SCALE", type := .int, accessFlags := 25, slot := 7, constantValue := 0 }, { name := "LOG2_ARRAY_FLOAT_INDEX_SCALE", type := .int, accessFlags := 25, slot := 8, constantValue := 0 }, { name := "LOG2_ARRAY_DOUBLE_INDEX_SCALE", type := .int, accessFlags := 25, slot := 9, constantValue := 0 }, { name := "LOG2_BYTE_BIT_SIZE", type := .int, accessFlags := 26, slot := 10, constantValue := 0 }, { name := "T_BOOLEAN", type := .int, accessFlags := 25, slot := 11, constantValue := 0 }, { name := "T_CHAR", type := .int, accessFlags := 25, slot := 12, constantValue := 0 }, { name := "T_FLOAT", type := .int, accessFlags := 25, slot := 13, constantValue := 0 }, { name := "T_DOUBLE", type := .int, accessFlags := 25, slot := 14, constantValue := 0 }, { name := "T_BYTE", type := .int, accessFlags := 25, slot := 15, constantValue := 0 }, { name := "T_SHORT", type := .int, accessFlags := 25, slot := 16, constantValue := 0 }, { name := "T_INT", type := .int, accessFlags := 25, slot := 17, constantValue := 0 }, { name := "T_LONG", type := .int, accessFlags := 25, slot := 18, constantValue := 0 }, { name := "JLA", type := (.object "jdk/internal/access/JavaLangAccess"), accessFlags := 26, slot := 19, constantValue := 0 }, { name := "SOFT_MAX_ARRAY_LENGTH", type := .int, accessFlags := 25, slot := 20, constantValue := 0 }]
  methods := #[k17m0]
  instanceTypes := #[]
  staticTypes := #[(.object "jdk/internal/misc/Unsafe"), .boolean, .int, .int, .int, .int, .int, .int, .int, .int, .int, .int, .int, .int, .int, .int, .int, .int, .int, (.object "jdk/internal/access/JavaLangAccess"), .int]
  resolved := Array.replicate 378 none
  statics := none }

def pool18 : Array CpInfo := pool [(1, u "java/lang/Cloneable"), (0, .class_ 1), (0, u "java/lang/Object"), (0, .class_ 3)] 3

/-- java/lang/Cloneable -/
def k18 : Class := { plain "java/lang/Cloneable" (some 0) with
  accessFlags := 1537
  interfaces := #[]
  cf := some (fileOf pool18 2 #[] #[] 1537 4 #[] #[])
  fields := #[]
  methods := #[]
  instanceTypes := #[]
  staticTypes := #[]
  resolved := Array.replicate 8 none
  statics := none }

/-- the primitive byte -/
def k19 : Class := { plain "byte" none with kind := .primitive 'B', accessFlags := 0x411 }
/-- [B -/
def k20 : Class := { plain "[B" (some 0) with kind := .array 19 .byte, interfaces := #[18, 2], accessFlags := 1041 }

/-- the primitive char -/
def k21 : Class := { plain "char" none with kind := .primitive 'C', accessFlags := 0x411 }
/-- [C -/
def k22 : Class := { plain "[C" (some 0) with kind := .array 21 .char, interfaces := #[18, 2], accessFlags := 1041 }

/-- the primitive int -/
def k23 : Class := { plain "int" none with kind := .primitive 'I', accessFlags := 0x411 }
/-- [I -/
def k24 : Class := { plain "[I" (some 0) with kind := .array 23 .int, interfaces := #[18, 2], accessFlags := 1041 }

def heap : Heap := #[{ cls := 7, slots := #[.long 0, .int 1, .null, .int 0, .null, .int 0, .int 0], vm := .statics 7 },
  { cls := 9, slots := #[.ref 4], vm := .statics 9 },
  { cls := 10, slots := #[.int 0, .int 8, .int 0, .int 1], vm := .statics 10 },
  { cls := 12, slots := #[.null, .null, .null], vm := .statics 12 },
  { cls := 9, slots := #[.null], vm := .none }]
def classes : Array Class := #[k0, k1, k2, k3, k4, k5, k6, k7, k8, k9, k10, k11, k12, k13, k14, k15, k16, k17, k18, k19, k20, k21, k22, k23, k24]
def interned : List (Array UInt16 × Addr) := []
def slotsUsed : Nat := 16
def theMethod : MethodId := ⟨1, 3⟩
def args0 : Array Value := #[.int 5, .int 6, .int 7, .int 8, .int 9]
def aboutOver (below : List Frame) : State where
  vm := { classes := classes, interned := interned.toArray }
  heap := heap
  slotsUsed := slotsUsed
  threads := #[{ frames := .invoking theMethod args0 :: below }]
def below0 : List Frame := [.native { method := ⟨0, 0⟩, args := #[] }]
def about1 : State := aboutOver below0
def p0 : Program := .bare "" "" ""
def e0 : Env := launch0.env 0 0 0
theorem w_frames : about1.frames = Frame.invoking theMethod args0 :: below0 := rfl
set_option maxRecDepth 65536 in
theorem w_args : argsFit about1.vm theMethod args0 = true := by decide +kernel
set_option maxRecDepth 65536 in
theorem w_heap : heapFits about1 = true := by decide +kernel
set_option maxRecDepth 65536 in
theorem w_runnable : about1.curStatus? = some .runnable := by decide +kernel
set_option maxRecDepth 65536 in
theorem w_alone : about1.alone = true := by decide +kernel
set_option maxRecDepth 65536 in
theorem w_named : about1.methodNamed? x = some theMethod := by decide +kernel
set_option maxRecDepth 65536 in
theorem w_hears : about1.hears theMethod below0 = true := by decide +kernel
set_option maxRecDepth 65536 in
theorem w_ripe : about1.ripe theMethod args0 below0 = true := by decide +kernel
theorem w_running : about1.status = .running := rfl
set_option maxRecDepth 65536 in
theorem w_room : about1.hasRoom e0.platform room_1 = true :=
  launch0.hasRoom_least _ room_1 (by decide +kernel) (by decide +kernel) (by decide +kernel) (by decide +kernel) (by decide +kernel) (by decide +kernel)
theorem allAtoms_all (ts : List Jvm.Cond) (a : Array Jvm.Value) (st : Jvm.State) : (allAtoms ts).before a st = ts.all (fun c => c.before a st) := by
  induction ts with
  | nil => rfl
  | cons c t ih =>
    show (Jvm.Cond.and c (allAtoms t)).before a st = _
    rw [Jvm.Cond.before_and, ih, List.all_cons]
def words1 : List Jvm.Cond := Jvm.Cond.code x code maxLocals ret :: tables_1
/-- a 'code' word, met by the world's own term for the bytes: nothing is compared byte by byte -/
theorem code_word {y : MethodName} {bytes : ByteArray} {mx : Nat} {rt : Option FieldType} {a : Array Value} {s : State} {m : MethodId} {meth : Method} {c : Code} (h1 : s.methodNamed? y = some m) (h2 : s.vm.method? m = some meth) (h3 : meth.code = some c) (h4 : c.code = bytes)
    (h5 : (c.maxLocals == mx && c.exceptionTable.isEmpty && decide (c.maxStack ≤ mostOperands) && decide (meth.sig.returnType = rt) && !meth.locks && decide (parseMethodDescriptor y.desc = some meth.sig)) = true) : (Jvm.Cond.code y bytes mx rt).before a s = true := by
  simp only [Bool.and_eq_true, beq_iff_eq, Bool.not_eq_true', decide_eq_true_eq] at h5
  obtain ⟨⟨⟨⟨⟨g1, g2⟩, g3⟩, g4⟩, g5⟩, g6⟩ := h5
  simp [Cond.before, Cond.holds, Cond.value, h1, h2, h3, h4, g1, g2, g3, g4, g5, g6]
def isCode : Jvm.Cond → Bool
  | .code _ _ _ _ => true
  | _ => false
theorem all_split {L : List Jvm.Cond} {P : Jvm.Cond → Bool} (h1 : L.all (fun c => isCode c || P c) = true) (h2 : ∀ c ∈ L.filter isCode, P c = true) : L.all P = true := by
  refine List.all_eq_true.mpr fun c hc => ?_
  have h := List.all_eq_true.mp h1 c hc
  rcases Bool.eq_false_or_eq_true (isCode c) with hi | hi
  · exact h2 c (List.mem_filter.mpr ⟨hc, hi⟩)
  · simpa [hi] using h
set_option maxRecDepth 65536 in
theorem w_c0 : (Jvm.Cond.code x code maxLocals ret).before args0 about1 = true := code_word (m := ⟨1, 3⟩) (meth := k1m3) (c := k1c3) (by decide +kernel) rfl rfl rfl (by decide +kernel)
set_option maxRecDepth 65536 in
theorem w_c1 : (Jvm.Cond.code ({ cls := "com/example/wrasse/wrasse/io/CorrectionFormatWordOfPinLaw", name := "ch", desc := "(I)C" } : Jvm.MethodName) method_2_code (2 : Nat) (Option.some Jvm.ClassFile.FieldType.char)).before args0 about1 = true := code_word (m := ⟨1, 1⟩) (meth := k1m1) (c := k1c1) (by decide +kernel) rfl rfl rfl (by decide +kernel)
set_option maxRecDepth 65536 in
theorem w_c2 : (Jvm.Cond.code ({ cls := "java/lang/String", name := "<init>", desc := "([C)V" } : Jvm.MethodName) jdk_42_method_3_code (2 : Nat) (Option.none : Option Jvm.ClassFile.FieldType)).before args0 about1 = true := code_word (m := ⟨7, 1⟩) (meth := k7m1) (c := k7c1) (by decide +kernel) rfl rfl rfl (by decide +kernel)
set_option maxRecDepth 65536 in
theorem w_c3 : (Jvm.Cond.code ({ cls := "java/lang/String", name := "<init>", desc := "([CIILjava/lang/Void;)V" } : Jvm.MethodName) jdk_42_method_149_code (6 : Nat) (Option.none : Option Jvm.ClassFile.FieldType)).before args0 about1 = true := code_word (m := ⟨7, 5⟩) (meth := k7m5) (c := k7c5) (by decide +kernel) rfl rfl rfl (by decide +kernel)
set_option maxRecDepth 65536 in
theorem w_c4 : (Jvm.Cond.code ({ cls := "java/lang/Object", name := "<init>", desc := "()V" } : Jvm.MethodName) object_method_1_code (1 : Nat) (Option.none : Option Jvm.ClassFile.FieldType)).before args0 about1 = true := code_word (m := ⟨0, 0⟩) (meth := k0m0) (c := k0c0) (by decide +kernel) rfl rfl rfl (by decide +kernel)
set_option maxRecDepth 65536 in
theorem w_c5 : (Jvm.Cond.code ({ cls := "com/example/wrasse/wrasse/io/CorrectionFormat", name := "wordOf", desc := "(Ljava/lang/String;)Ljava/util/Optional;" } : Jvm.MethodName) prog_8_method_2_code (3 : Nat) (Option.some (Jvm.ClassFile.FieldType.object "java/util/Optional"))).before args0 about1 = true := code_word (m := ⟨8, 1⟩) (meth := k8m1) (c := k8c1) (by decide +kernel) rfl rfl rfl (by decide +kernel)
set_option maxRecDepth 65536 in
theorem w_c6 : (Jvm.Cond.code ({ cls := "java/lang/String", name := "length", desc := "()I" } : Jvm.MethodName) jdk_42_method_54_code (1 : Nat) (Option.some Jvm.ClassFile.FieldType.int)).before args0 about1 = true := code_word (m := ⟨7, 2⟩) (meth := k7m2) (c := k7c2) (by decide +kernel) rfl rfl rfl (by decide +kernel)
set_option maxRecDepth 65536 in
theorem w_c7 : (Jvm.Cond.code ({ cls := "java/lang/String", name := "coder", desc := "()B" } : Jvm.MethodName) jdk_42_method_152_code (1 : Nat) (Option.some Jvm.ClassFile.FieldType.byte)).before args0 about1 = true := code_word (m := ⟨7, 7⟩) (meth := k7m7) (c := k7c7) (by decide +kernel) rfl rfl rfl (by decide +kernel)
set_option maxRecDepth 65536 in
theorem w_c8 : (Jvm.Cond.code ({ cls := "java/util/Optional", name := "empty", desc := "()Ljava/util/Optional;" } : Jvm.MethodName) jdk_32_method_1_code (1 : Nat) (Option.some (Jvm.ClassFile.FieldType.object "java/util/Optional"))).before args0 about1 = true := code_word (m := ⟨9, 0⟩) (meth := k9m0) (c := k9c0) (by decide +kernel) rfl rfl rfl (by decide +kernel)
set_option maxRecDepth 65536 in
theorem w_c9 : (Jvm.Cond.code ({ cls := "java/util/Optional", name := "isPresent", desc := "()Z" } : Jvm.MethodName) jdk_32_method_6_code (1 : Nat) (Option.some Jvm.ClassFile.FieldType.boolean)).before args0 about1 = true := code_word (m := ⟨9, 4⟩) (meth := k9m4) (c := k9c4) (by decide +kernel) rfl rfl rfl (by decide +kernel)
set_option maxRecDepth 65536 in
theorem w_c10 : (Jvm.Cond.code ({ cls := "java/lang/StringUTF16", name := "compress", desc := "([CII)[B" } : Jvm.MethodName) jdk_52_method_16_code (6 : Nat) (Option.some (Jvm.ClassFile.FieldType.array Jvm.ClassFile.FieldType.byte))).before args0 about1 = true := code_word (m := ⟨10, 8⟩) (meth := k10m8) (c := k10c8) (by decide +kernel) rfl rfl rfl (by decide +kernel)
set_option maxRecDepth 65536 in
theorem w_c11 : (Jvm.Cond.code ({ cls := "java/lang/StringUTF16", name := "compress", desc := "([CI[BII)I" } : Jvm.MethodName) jdk_52_method_21_code (7 : Nat) (Option.some Jvm.ClassFile.FieldType.int)).before args0 about1 = true := code_word (m := ⟨10, 10⟩) (meth := k10m10) (c := k10c10) (by decide +kernel) rfl rfl rfl (by decide +kernel)
set_option maxRecDepth 65536 in
theorem w_c12 : (Jvm.Cond.code ({ cls := "java/lang/StringUTF16", name := "coderFromArrayLen", desc := "([BI)B" } : Jvm.MethodName) jdk_52_method_15_code (2 : Nat) (Option.some Jvm.ClassFile.FieldType.byte)).before args0 about1 = true := code_word (m := ⟨10, 7⟩) (meth := k10m7) (c := k10c7) (by decide +kernel) rfl rfl rfl (by decide +kernel)
set_option maxRecDepth 65536 in
theorem w_c13 : (Jvm.Cond.code ({ cls := "com/example/wrasse/wrasse/io/CorrectionFormatWordOfPinLaw", name := "bl", desc := "(C)Z" } : Jvm.MethodName) method_3_code (1 : Nat) (Option.some Jvm.ClassFile.FieldType.boolean)).before args0 about1 = true := code_word (m := ⟨1, 2⟩) (meth := k1m2) (c := k1c2) (by decide +kernel) rfl rfl rfl (by decide +kernel)
set_option maxRecDepth 65536 in
theorem w_c14 : (Jvm.Cond.code ({ cls := "java/lang/String", name := "charAt", desc := "(I)C" } : Jvm.MethodName) jdk_42_method_56_code (2 : Nat) (Option.some Jvm.ClassFile.FieldType.char)).before args0 about1 = true := code_word (m := ⟨7, 3⟩) (meth := k7m3) (c := k7c3) (by decide +kernel) rfl rfl rfl (by decide +kernel)
set_option maxRecDepth 65536 in
theorem w_c15 : (Jvm.Cond.code ({ cls := "java/lang/String", name := "isLatin1", desc := "()Z" } : Jvm.MethodName) jdk_42_method_154_code (1 : Nat) (Option.some Jvm.ClassFile.FieldType.boolean)).before args0 about1 = true := code_word (m := ⟨7, 8⟩) (meth := k7m8) (c := k7c8) (by decide +kernel) rfl rfl rfl (by decide +kernel)
set_option maxRecDepth 65536 in
theorem w_c16 : (Jvm.Cond.code ({ cls := "java/lang/StringLatin1", name := "charAt", desc := "([BI)C" } : Jvm.MethodName) jdk_43_method_2_code (2 : Nat) (Option.some Jvm.ClassFile.FieldType.char)).before args0 about1 = true := code_word (m := ⟨11, 1⟩) (meth := k11m1) (c := k11c1) (by decide +kernel) rfl rfl rfl (by decide +kernel)
set_option maxRecDepth 65536 in
theorem w_c17 : (Jvm.Cond.code ({ cls := "java/lang/String", name := "checkIndex", desc := "(II)V" } : Jvm.MethodName) jdk_42_method_155_code (2 : Nat) (Option.none : Option Jvm.ClassFile.FieldType)).before args0 about1 = true := code_word (m := ⟨7, 9⟩) (meth := k7m9) (c := k7c9) (by decide +kernel) rfl rfl rfl (by decide +kernel)
set_option maxRecDepth 65536 in
theorem w_c18 : (Jvm.Cond.code ({ cls := "jdk/internal/util/Preconditions", name := "checkIndex", desc := "(IILjava/util/function/BiFunction;)I" } : Jvm.MethodName) jdk_41_method_11_code (3 : Nat) (Option.some Jvm.ClassFile.FieldType.int)).before args0 about1 = true := code_word (m := ⟨12, 1⟩) (meth := k12m1) (c := k12c1) (by decide +kernel) rfl rfl rfl (by decide +kernel)
set_option maxRecDepth 65536 in
theorem w_c19 : (Jvm.Cond.code ({ cls := "com/example/wrasse/wrasse/io/CorrectionFormat", name := "isBlank", desc := "(C)Z" } : Jvm.MethodName) prog_8_method_4_code (1 : Nat) (Option.some Jvm.ClassFile.FieldType.boolean)).before args0 about1 = true := code_word (m := ⟨8, 2⟩) (meth := k8m2) (c := k8c2) (by decide +kernel) rfl rfl rfl (by decide +kernel)
set_option maxRecDepth 65536 in
theorem w_c20 : (Jvm.Cond.code ({ cls := "java/lang/String", name := "substring", desc := "(II)Ljava/lang/String;" } : Jvm.MethodName) jdk_42_method_92_code (5 : Nat) (Option.some (Jvm.ClassFile.FieldType.object "java/lang/String"))).before args0 about1 = true := code_word (m := ⟨7, 4⟩) (meth := k7m4) (c := k7c4) (by decide +kernel) rfl rfl rfl (by decide +kernel)
set_option maxRecDepth 65536 in
theorem w_c21 : (Jvm.Cond.code ({ cls := "java/lang/String", name := "checkBoundsBeginEnd", desc := "(III)V" } : Jvm.MethodName) jdk_42_method_158_code (3 : Nat) (Option.none : Option Jvm.ClassFile.FieldType)).before args0 about1 = true := code_word (m := ⟨7, 11⟩) (meth := k7m11) (c := k7c11) (by decide +kernel) rfl rfl rfl (by decide +kernel)
set_option maxRecDepth 65536 in
theorem w_c22 : (Jvm.Cond.code ({ cls := "jdk/internal/util/Preconditions", name := "checkFromToIndex", desc := "(IIILjava/util/function/BiFunction;)I" } : Jvm.MethodName) jdk_41_method_12_code (4 : Nat) (Option.some Jvm.ClassFile.FieldType.int)).before args0 about1 = true := code_word (m := ⟨12, 2⟩) (meth := k12m2) (c := k12c2) (by decide +kernel) rfl rfl rfl (by decide +kernel)
set_option maxRecDepth 65536 in
theorem w_c23 : (Jvm.Cond.code ({ cls := "java/lang/StringLatin1", name := "newString", desc := "([BII)Ljava/lang/String;" } : Jvm.MethodName) jdk_43_method_47_code (3 : Nat) (Option.some (Jvm.ClassFile.FieldType.object "java/lang/String"))).before args0 about1 = true := code_word (m := ⟨11, 2⟩) (meth := k11m2) (c := k11c2) (by decide +kernel) rfl rfl rfl (by decide +kernel)
set_option maxRecDepth 65536 in
theorem w_c24 : (Jvm.Cond.code ({ cls := "java/util/Arrays", name := "copyOfRange", desc := "([BII)[B" } : Jvm.MethodName) jdk_65_method_132_code (3 : Nat) (Option.some (Jvm.ClassFile.FieldType.array Jvm.ClassFile.FieldType.byte))).before args0 about1 = true := code_word (m := ⟨13, 2⟩) (meth := k13m2) (c := k13c2) (by decide +kernel) rfl rfl rfl (by decide +kernel)
set_option maxRecDepth 65536 in
theorem w_c25 : (Jvm.Cond.code ({ cls := "java/util/Arrays", name := "copyOfRangeByte", desc := "([BII)[B" } : Jvm.MethodName) jdk_65_method_133_code (5 : Nat) (Option.some (Jvm.ClassFile.FieldType.array Jvm.ClassFile.FieldType.byte))).before args0 about1 = true := code_word (m := ⟨13, 3⟩) (meth := k13m3) (c := k13c3) (by decide +kernel) rfl rfl rfl (by decide +kernel)
set_option maxRecDepth 65536 in
theorem w_c26 : (Jvm.Cond.code ({ cls := "java/util/Arrays", name := "checkLength", desc := "(II)V" } : Jvm.MethodName) jdk_65_method_131_code (2 : Nat) (Option.none : Option Jvm.ClassFile.FieldType)).before args0 about1 = true := code_word (m := ⟨13, 1⟩) (meth := k13m1) (c := k13c1) (by decide +kernel) rfl rfl rfl (by decide +kernel)
set_option maxRecDepth 65536 in
theorem w_c27 : (Jvm.Cond.code ({ cls := "java/lang/Math", name := "min", desc := "(II)I" } : Jvm.MethodName) jdk_29_method_69_code (2 : Nat) (Option.some Jvm.ClassFile.FieldType.int)).before args0 about1 = true := code_word (m := ⟨14, 1⟩) (meth := k14m1) (c := k14c1) (by decide +kernel) rfl rfl rfl (by decide +kernel)
set_option maxRecDepth 65536 in
theorem w_c28 : (Jvm.Cond.code ({ cls := "java/lang/String", name := "<init>", desc := "([BB)V" } : Jvm.MethodName) jdk_42_method_151_code (3 : Nat) (Option.none : Option Jvm.ClassFile.FieldType)).before args0 about1 = true := code_word (m := ⟨7, 6⟩) (meth := k7m6) (c := k7c6) (by decide +kernel) rfl rfl rfl (by decide +kernel)
set_option maxRecDepth 65536 in
theorem w_c29 : (Jvm.Cond.code ({ cls := "java/util/Optional", name := "of", desc := "(Ljava/lang/Object;)Ljava/util/Optional;" } : Jvm.MethodName) jdk_32_method_3_code (1 : Nat) (Option.some (Jvm.ClassFile.FieldType.object "java/util/Optional"))).before args0 about1 = true := code_word (m := ⟨9, 2⟩) (meth := k9m2) (c := k9c2) (by decide +kernel) rfl rfl rfl (by decide +kernel)
set_option maxRecDepth 65536 in
theorem w_c30 : (Jvm.Cond.code ({ cls := "java/util/Objects", name := "requireNonNull", desc := "(Ljava/lang/Object;)Ljava/lang/Object;" } : Jvm.MethodName) jdk_31_method_10_code (1 : Nat) (Option.some (Jvm.ClassFile.FieldType.object "java/lang/Object"))).before args0 about1 = true := code_word (m := ⟨16, 1⟩) (meth := k16m1) (c := k16c1) (by decide +kernel) rfl rfl rfl (by decide +kernel)
set_option maxRecDepth 65536 in
theorem w_c31 : (Jvm.Cond.code ({ cls := "java/util/Optional", name := "<init>", desc := "(Ljava/lang/Object;)V" } : Jvm.MethodName) jdk_32_method_2_code (2 : Nat) (Option.none : Option Jvm.ClassFile.FieldType)).before args0 about1 = true := code_word (m := ⟨9, 1⟩) (meth := k9m1) (c := k9c1) (by decide +kernel) rfl rfl rfl (by decide +kernel)
set_option maxRecDepth 65536 in
theorem w_c32 : (Jvm.Cond.code ({ cls := "java/util/Optional", name := "get", desc := "()Ljava/lang/Object;" } : Jvm.MethodName) jdk_32_method_5_code (1 : Nat) (Option.some (Jvm.ClassFile.FieldType.object "java/lang/Object"))).before args0 about1 = true := code_word (m := ⟨9, 3⟩) (meth := k9m3) (c := k9c3) (by decide +kernel) rfl rfl rfl (by decide +kernel)
set_option maxRecDepth 65536 in
theorem w_c33 : (Jvm.Cond.code ({ cls := "java/lang/StringUTF16", name := "toBytes", desc := "([CII)[B" } : Jvm.MethodName) jdk_52_method_14_code (5 : Nat) (Option.some (Jvm.ClassFile.FieldType.array Jvm.ClassFile.FieldType.byte))).before args0 about1 = true := code_word (m := ⟨10, 6⟩) (meth := k10m6) (c := k10c6) (by decide +kernel) rfl rfl rfl (by decide +kernel)
set_option maxRecDepth 65536 in
theorem w_c34 : (Jvm.Cond.code ({ cls := "java/lang/StringUTF16", name := "newBytesFor", desc := "(I)[B" } : Jvm.MethodName) jdk_52_method_2_code (1 : Nat) (Option.some (Jvm.ClassFile.FieldType.array Jvm.ClassFile.FieldType.byte))).before args0 about1 = true := code_word (m := ⟨10, 1⟩) (meth := k10m1) (c := k10c1) (by decide +kernel) rfl rfl rfl (by decide +kernel)
set_option maxRecDepth 65536 in
theorem w_c35 : (Jvm.Cond.code ({ cls := "java/lang/StringUTF16", name := "newBytesLength", desc := "(I)I" } : Jvm.MethodName) jdk_52_method_3_code (1 : Nat) (Option.some Jvm.ClassFile.FieldType.int)).before args0 about1 = true := code_word (m := ⟨10, 2⟩) (meth := k10m2) (c := k10c2) (by decide +kernel) rfl rfl rfl (by decide +kernel)
set_option maxRecDepth 65536 in
theorem w_c36 : (Jvm.Cond.code ({ cls := "java/lang/StringUTF16", name := "putChar", desc := "([BII)V" } : Jvm.MethodName) jdk_52_method_4_code (3 : Nat) (Option.none : Option Jvm.ClassFile.FieldType)).before args0 about1 = true := code_word (m := ⟨10, 3⟩) (meth := k10m3) (c := k10c3) (by decide +kernel) rfl rfl rfl (by decide +kernel)
set_option maxRecDepth 65536 in
theorem w_c37 : (Jvm.Cond.code ({ cls := "java/lang/StringUTF16", name := "getChar", desc := "([BI)C" } : Jvm.MethodName) jdk_52_method_5_code (2 : Nat) (Option.some Jvm.ClassFile.FieldType.char)).before args0 about1 = true := code_word (m := ⟨10, 4⟩) (meth := k10m4) (c := k10c4) (by decide +kernel) rfl rfl rfl (by decide +kernel)
set_option maxRecDepth 65536 in
theorem w_c38 : (Jvm.Cond.code ({ cls := "java/lang/StringUTF16", name := "charAt", desc := "([BI)C" } : Jvm.MethodName) jdk_52_method_83_code (2 : Nat) (Option.some Jvm.ClassFile.FieldType.char)).before args0 about1 = true := code_word (m := ⟨10, 13⟩) (meth := k10m13) (c := k10c13) (by decide +kernel) rfl rfl rfl (by decide +kernel)
set_option maxRecDepth 65536 in
theorem w_c39 : (Jvm.Cond.code ({ cls := "java/lang/StringUTF16", name := "checkIndex", desc := "(I[B)V" } : Jvm.MethodName) jdk_52_method_91_code (2 : Nat) (Option.none : Option Jvm.ClassFile.FieldType)).before args0 about1 = true := code_word (m := ⟨10, 14⟩) (meth := k10m14) (c := k10c14) (by decide +kernel) rfl rfl rfl (by decide +kernel)
set_option maxRecDepth 65536 in
theorem w_c40 : (Jvm.Cond.code ({ cls := "java/lang/StringUTF16", name := "length", desc := "([B)I" } : Jvm.MethodName) jdk_52_method_6_code (1 : Nat) (Option.some Jvm.ClassFile.FieldType.int)).before args0 about1 = true := code_word (m := ⟨10, 5⟩) (meth := k10m5) (c := k10c5) (by decide +kernel) rfl rfl rfl (by decide +kernel)
set_option maxRecDepth 65536 in
theorem w_c41 : (Jvm.Cond.code ({ cls := "java/lang/StringUTF16", name := "newString", desc := "([BII)Ljava/lang/String;" } : Jvm.MethodName) jdk_52_method_69_code (5 : Nat) (Option.some (Jvm.ClassFile.FieldType.object "java/lang/String"))).before args0 about1 = true := code_word (m := ⟨10, 12⟩) (meth := k10m12) (c := k10c12) (by decide +kernel) rfl rfl rfl (by decide +kernel)
set_option maxRecDepth 65536 in
theorem w_c42 : (Jvm.Cond.code ({ cls := "java/lang/StringUTF16", name := "compress", desc := "([BII)[B" } : Jvm.MethodName) jdk_52_method_17_code (6 : Nat) (Option.some (Jvm.ClassFile.FieldType.array Jvm.ClassFile.FieldType.byte))).before args0 about1 = true := code_word (m := ⟨10, 9⟩) (meth := k10m9) (c := k10c9) (by decide +kernel) rfl rfl rfl (by decide +kernel)
set_option maxRecDepth 65536 in
theorem w_c43 : (Jvm.Cond.code ({ cls := "java/lang/StringUTF16", name := "compress", desc := "([BI[BII)I" } : Jvm.MethodName) jdk_52_method_22_code (7 : Nat) (Option.some Jvm.ClassFile.FieldType.int)).before args0 about1 = true := code_word (m := ⟨10, 11⟩) (meth := k10m11) (c := k10c11) (by decide +kernel) rfl rfl rfl (by decide +kernel)
set_option maxRecDepth 65536 in
theorem w_c44 : (Jvm.Cond.code ({ cls := "java/lang/StringUTF16", name := "checkBoundsOffCount", desc := "(II[B)V" } : Jvm.MethodName) jdk_52_method_94_code (3 : Nat) (Option.none : Option Jvm.ClassFile.FieldType)).before args0 about1 = true := code_word (m := ⟨10, 15⟩) (meth := k10m15) (c := k10c15) (by decide +kernel) rfl rfl rfl (by decide +kernel)
set_option maxRecDepth 65536 in
theorem w_c45 : (Jvm.Cond.code ({ cls := "java/lang/String", name := "checkBoundsOffCount", desc := "(III)I" } : Jvm.MethodName) jdk_42_method_157_code (3 : Nat) (Option.some Jvm.ClassFile.FieldType.int)).before args0 about1 = true := code_word (m := ⟨7, 10⟩) (meth := k7m10) (c := k7c10) (by decide +kernel) rfl rfl rfl (by decide +kernel)
set_option maxRecDepth 65536 in
theorem w_c46 : (Jvm.Cond.code ({ cls := "jdk/internal/util/Preconditions", name := "checkFromIndexSize", desc := "(IIILjava/util/function/BiFunction;)I" } : Jvm.MethodName) jdk_41_method_13_code (4 : Nat) (Option.some Jvm.ClassFile.FieldType.int)).before args0 about1 = true := code_word (m := ⟨12, 3⟩) (meth := k12m3) (c := k12c3) (by decide +kernel) rfl rfl rfl (by decide +kernel)
def codes1 : List Jvm.Cond := [Jvm.Cond.code x code maxLocals ret, Jvm.Cond.code ({ cls := "com/example/wrasse/wrasse/io/CorrectionFormatWordOfPinLaw", name := "ch", desc := "(I)C" } : Jvm.MethodName) method_2_code (2 : Nat) (Option.some Jvm.ClassFile.FieldType.char), Jvm.Cond.code ({ cls := "java/lang/String", name := "<init>", desc := "([C)V" } : Jvm.MethodName) jdk_42_method_3_code (2 : Nat) (Option.none : Option Jvm.ClassFile.FieldType), Jvm.Cond.code ({ cls := "java/lang/String", name := "<init>", desc := "([CIILjava/lang/Void;)V" } : Jvm.MethodName) jdk_42_method_149_code (6 : Nat) (Option.none : Option Jvm.ClassFile.FieldType), Jvm.Cond.code ({ cls := "java/lang/Object", name := "<init>", desc := "()V" } : Jvm.MethodName) object_method_1_code (1 : Nat) (Option.none : Option Jvm.ClassFile.FieldType), Jvm.Cond.code ({ cls := "com/example/wrasse/wrasse/io/CorrectionFormat", name := "wordOf", desc := "(Ljava/lang/String;)Ljava/util/Optional;" } : Jvm.MethodName) prog_8_method_2_code (3 : Nat) (Option.some (Jvm.ClassFile.FieldType.object "java/util/Optional")), Jvm.Cond.code ({ cls := "java/lang/String", name := "length", desc := "()I" } : Jvm.MethodName) jdk_42_method_54_code (1 : Nat) (Option.some Jvm.ClassFile.FieldType.int), Jvm.Cond.code ({ cls := "java/lang/String", name := "coder", desc := "()B" } : Jvm.MethodName) jdk_42_method_152_code (1 : Nat) (Option.some Jvm.ClassFile.FieldType.byte), Jvm.Cond.code ({ cls := "java/util/Optional", name := "empty", desc := "()Ljava/util/Optional;" } : Jvm.MethodName) jdk_32_method_1_code (1 : Nat) (Option.some (Jvm.ClassFile.FieldType.object "java/util/Optional")), Jvm.Cond.code ({ cls := "java/util/Optional", name := "isPresent", desc := "()Z" } : Jvm.MethodName) jdk_32_method_6_code (1 : Nat) (Option.some Jvm.ClassFile.FieldType.boolean), Jvm.Cond.code ({ cls := "java/lang/StringUTF16", name := "compress", desc := "([CII)[B" } : Jvm.MethodName) jdk_52_method_16_code (6 : Nat) (Option.some (Jvm.ClassFile.FieldType.array Jvm.ClassFile.FieldType.byte)), Jvm.Cond.code ({ cls := "java/lang/StringUTF16", name := "compress", desc := "([CI[BII)I" } : Jvm.MethodName) jdk_52_method_21_code (7 : Nat) (Option.some Jvm.ClassFile.FieldType.int), Jvm.Cond.code ({ cls := "java/lang/StringUTF16", name := "coderFromArrayLen", desc := "([BI)B" } : Jvm.MethodName) jdk_52_method_15_code (2 : Nat) (Option.some Jvm.ClassFile.FieldType.byte), Jvm.Cond.code ({ cls := "com/example/wrasse/wrasse/io/CorrectionFormatWordOfPinLaw", name := "bl", desc := "(C)Z" } : Jvm.MethodName) method_3_code (1 : Nat) (Option.some Jvm.ClassFile.FieldType.boolean), Jvm.Cond.code ({ cls := "java/lang/String", name := "charAt", desc := "(I)C" } : Jvm.MethodName) jdk_42_method_56_code (2 : Nat) (Option.some Jvm.ClassFile.FieldType.char), Jvm.Cond.code ({ cls := "java/lang/String", name := "isLatin1", desc := "()Z" } : Jvm.MethodName) jdk_42_method_154_code (1 : Nat) (Option.some Jvm.ClassFile.FieldType.boolean), Jvm.Cond.code ({ cls := "java/lang/StringLatin1", name := "charAt", desc := "([BI)C" } : Jvm.MethodName) jdk_43_method_2_code (2 : Nat) (Option.some Jvm.ClassFile.FieldType.char), Jvm.Cond.code ({ cls := "java/lang/String", name := "checkIndex", desc := "(II)V" } : Jvm.MethodName) jdk_42_method_155_code (2 : Nat) (Option.none : Option Jvm.ClassFile.FieldType), Jvm.Cond.code ({ cls := "jdk/internal/util/Preconditions", name := "checkIndex", desc := "(IILjava/util/function/BiFunction;)I" } : Jvm.MethodName) jdk_41_method_11_code (3 : Nat) (Option.some Jvm.ClassFile.FieldType.int), Jvm.Cond.code ({ cls := "com/example/wrasse/wrasse/io/CorrectionFormat", name := "isBlank", desc := "(C)Z" } : Jvm.MethodName) prog_8_method_4_code (1 : Nat) (Option.some Jvm.ClassFile.FieldType.boolean), Jvm.Cond.code ({ cls := "java/lang/String", name := "substring", desc := "(II)Ljava/lang/String;" } : Jvm.MethodName) jdk_42_method_92_code (5 : Nat) (Option.some (Jvm.ClassFile.FieldType.object "java/lang/String")), Jvm.Cond.code ({ cls := "java/lang/String", name := "checkBoundsBeginEnd", desc := "(III)V" } : Jvm.MethodName) jdk_42_method_158_code (3 : Nat) (Option.none : Option Jvm.ClassFile.FieldType), Jvm.Cond.code ({ cls := "jdk/internal/util/Preconditions", name := "checkFromToIndex", desc := "(IIILjava/util/function/BiFunction;)I" } : Jvm.MethodName) jdk_41_method_12_code (4 : Nat) (Option.some Jvm.ClassFile.FieldType.int), Jvm.Cond.code ({ cls := "java/lang/StringLatin1", name := "newString", desc := "([BII)Ljava/lang/String;" } : Jvm.MethodName) jdk_43_method_47_code (3 : Nat) (Option.some (Jvm.ClassFile.FieldType.object "java/lang/String")), Jvm.Cond.code ({ cls := "java/util/Arrays", name := "copyOfRange", desc := "([BII)[B" } : Jvm.MethodName) jdk_65_method_132_code (3 : Nat) (Option.some (Jvm.ClassFile.FieldType.array Jvm.ClassFile.FieldType.byte)), Jvm.Cond.code ({ cls := "java/util/Arrays", name := "copyOfRangeByte", desc := "([BII)[B" } : Jvm.MethodName) jdk_65_method_133_code (5 : Nat) (Option.some (Jvm.ClassFile.FieldType.array Jvm.ClassFile.FieldType.byte)), Jvm.Cond.code ({ cls := "java/util/Arrays", name := "checkLength", desc := "(II)V" } : Jvm.MethodName) jdk_65_method_131_code (2 : Nat) (Option.none : Option Jvm.ClassFile.FieldType), Jvm.Cond.code ({ cls := "java/lang/Math", name := "min", desc := "(II)I" } : Jvm.MethodName) jdk_29_method_69_code (2 : Nat) (Option.some Jvm.ClassFile.FieldType.int), Jvm.Cond.code ({ cls := "java/lang/String", name := "<init>", desc := "([BB)V" } : Jvm.MethodName) jdk_42_method_151_code (3 : Nat) (Option.none : Option Jvm.ClassFile.FieldType), Jvm.Cond.code ({ cls := "java/util/Optional", name := "of", desc := "(Ljava/lang/Object;)Ljava/util/Optional;" } : Jvm.MethodName) jdk_32_method_3_code (1 : Nat) (Option.some (Jvm.ClassFile.FieldType.object "java/util/Optional")), Jvm.Cond.code ({ cls := "java/util/Objects", name := "requireNonNull", desc := "(Ljava/lang/Object;)Ljava/lang/Object;" } : Jvm.MethodName) jdk_31_method_10_code (1 : Nat) (Option.some (Jvm.ClassFile.FieldType.object "java/lang/Object")), Jvm.Cond.code ({ cls := "java/util/Optional", name := "<init>", desc := "(Ljava/lang/Object;)V" } : Jvm.MethodName) jdk_32_method_2_code (2 : Nat) (Option.none : Option Jvm.ClassFile.FieldType), Jvm.Cond.code ({ cls := "java/util/Optional", name := "get", desc := "()Ljava/lang/Object;" } : Jvm.MethodName) jdk_32_method_5_code (1 : Nat) (Option.some (Jvm.ClassFile.FieldType.object "java/lang/Object")), Jvm.Cond.code ({ cls := "java/lang/StringUTF16", name := "toBytes", desc := "([CII)[B" } : Jvm.MethodName) jdk_52_method_14_code (5 : Nat) (Option.some (Jvm.ClassFile.FieldType.array Jvm.ClassFile.FieldType.byte)), Jvm.Cond.code ({ cls := "java/lang/StringUTF16", name := "newBytesFor", desc := "(I)[B" } : Jvm.MethodName) jdk_52_method_2_code (1 : Nat) (Option.some (Jvm.ClassFile.FieldType.array Jvm.ClassFile.FieldType.byte)), Jvm.Cond.code ({ cls := "java/lang/StringUTF16", name := "newBytesLength", desc := "(I)I" } : Jvm.MethodName) jdk_52_method_3_code (1 : Nat) (Option.some Jvm.ClassFile.FieldType.int), Jvm.Cond.code ({ cls := "java/lang/StringUTF16", name := "putChar", desc := "([BII)V" } : Jvm.MethodName) jdk_52_method_4_code (3 : Nat) (Option.none : Option Jvm.ClassFile.FieldType), Jvm.Cond.code ({ cls := "java/lang/StringUTF16", name := "getChar", desc := "([BI)C" } : Jvm.MethodName) jdk_52_method_5_code (2 : Nat) (Option.some Jvm.ClassFile.FieldType.char), Jvm.Cond.code ({ cls := "java/lang/StringUTF16", name := "charAt", desc := "([BI)C" } : Jvm.MethodName) jdk_52_method_83_code (2 : Nat) (Option.some Jvm.ClassFile.FieldType.char), Jvm.Cond.code ({ cls := "java/lang/StringUTF16", name := "checkIndex", desc := "(I[B)V" } : Jvm.MethodName) jdk_52_method_91_code (2 : Nat) (Option.none : Option Jvm.ClassFile.FieldType), Jvm.Cond.code ({ cls := "java/lang/StringUTF16", name := "length", desc := "([B)I" } : Jvm.MethodName) jdk_52_method_6_code (1 : Nat) (Option.some Jvm.ClassFile.FieldType.int), Jvm.Cond.code ({ cls := "java/lang/StringUTF16", name := "newString", desc := "([BII)Ljava/lang/String;" } : Jvm.MethodName) jdk_52_method_69_code (5 : Nat) (Option.some (Jvm.ClassFile.FieldType.object "java/lang/String")), Jvm.Cond.code ({ cls := "java/lang/StringUTF16", name := "compress", desc := "([BII)[B" } : Jvm.MethodName) jdk_52_method_17_code (6 : Nat) (Option.some (Jvm.ClassFile.FieldType.array Jvm.ClassFile.FieldType.byte)), Jvm.Cond.code ({ cls := "java/lang/StringUTF16", name := "compress", desc := "([BI[BII)I" } : Jvm.MethodName) jdk_52_method_22_code (7 : Nat) (Option.some Jvm.ClassFile.FieldType.int), Jvm.Cond.code ({ cls := "java/lang/StringUTF16", name := "checkBoundsOffCount", desc := "(II[B)V" } : Jvm.MethodName) jdk_52_method_94_code (3 : Nat) (Option.none : Option Jvm.ClassFile.FieldType), Jvm.Cond.code ({ cls := "java/lang/String", name := "checkBoundsOffCount", desc := "(III)I" } : Jvm.MethodName) jdk_42_method_157_code (3 : Nat) (Option.some Jvm.ClassFile.FieldType.int), Jvm.Cond.code ({ cls := "jdk/internal/util/Preconditions", name := "checkFromIndexSize", desc := "(IIILjava/util/function/BiFunction;)I" } : Jvm.MethodName) jdk_41_method_13_code (4 : Nat) (Option.some Jvm.ClassFile.FieldType.int)]
set_option maxRecDepth 65536 in
theorem codes_eq : words1.filter isCode = codes1 := rfl
theorem w_codes : ∀ c ∈ words1.filter isCode, c.before args0 about1 = true := by
  rw [codes_eq]
  intro c hc
  simp only [codes1, List.mem_cons, List.not_mem_nil, or_false] at hc
  rcases hc with rfl | rfl | rfl | rfl | rfl | rfl | rfl | rfl | rfl | rfl | rfl | rfl | rfl | rfl | rfl | rfl | rfl | rfl | rfl | rfl | rfl | rfl | rfl | rfl | rfl | rfl | rfl | rfl | rfl | rfl | rfl | rfl | rfl | rfl | rfl | rfl | rfl | rfl | rfl | rfl | rfl | rfl | rfl | rfl | rfl | rfl | rfl
  · exact w_c0
  · exact w_c1
  · exact w_c2
  · exact w_c3
  · exact w_c4
  · exact w_c5
  · exact w_c6
  · exact w_c7
  · exact w_c8
  · exact w_c9
  · exact w_c10
  · exact w_c11
  · exact w_c12
  · exact w_c13
  · exact w_c14
  · exact w_c15
  · exact w_c16
  · exact w_c17
  · exact w_c18
  · exact w_c19
  · exact w_c20
  · exact w_c21
  · exact w_c22
  · exact w_c23
  · exact w_c24
  · exact w_c25
  · exact w_c26
  · exact w_c27
  · exact w_c28
  · exact w_c29
  · exact w_c30
  · exact w_c31
  · exact w_c32
  · exact w_c33
  · exact w_c34
  · exact w_c35
  · exact w_c36
  · exact w_c37
  · exact w_c38
  · exact w_c39
  · exact w_c40
  · exact w_c41
  · exact w_c42
  · exact w_c43
  · exact w_c44
  · exact w_c45
  · exact w_c46
set_option maxRecDepth 65536 in
theorem w_t1 : (words1.take 24).all (fun c => isCode c || c.before args0 about1) = true := by decide +kernel
set_option maxRecDepth 65536 in
theorem w_t2 : ((words1.drop 24).take 24).all (fun c => isCode c || c.before args0 about1) = true := by decide +kernel
set_option maxRecDepth 65536 in
theorem w_t3 : (((words1.drop 24).drop 24).take 24).all (fun c => isCode c || c.before args0 about1) = true := by decide +kernel
set_option maxRecDepth 65536 in
theorem w_t4 : ((((words1.drop 24).drop 24).drop 24).take 24).all (fun c => isCode c || c.before args0 about1) = true := by decide +kernel
set_option maxRecDepth 65536 in
theorem w_t5 : (((((words1.drop 24).drop 24).drop 24).drop 24).take 24).all (fun c => isCode c || c.before args0 about1) = true := by decide +kernel
set_option maxRecDepth 65536 in
theorem w_t6 : ((((((words1.drop 24).drop 24).drop 24).drop 24).drop 24).take 24).all (fun c => isCode c || c.before args0 about1) = true := by decide +kernel
set_option maxRecDepth 65536 in
theorem w_t7 : (((((((words1.drop 24).drop 24).drop 24).drop 24).drop 24).drop 24).take 24).all (fun c => isCode c || c.before args0 about1) = true := by decide +kernel
set_option maxRecDepth 65536 in
theorem w_t8 : ((((((((words1.drop 24).drop 24).drop 24).drop 24).drop 24).drop 24).drop 24).take 24).all (fun c => isCode c || c.before args0 about1) = true := by decide +kernel
set_option maxRecDepth 65536 in
theorem w_t9 : ((((((((words1.drop 24).drop 24).drop 24).drop 24).drop 24).drop 24).drop 24).drop 24).all (fun c => isCode c || c.before args0 about1) = true := by decide +kernel
theorem w_tables : (allAtoms (Jvm.Cond.code x code maxLocals ret :: tables_1)).before args0 about1 = true := by
  rw [allAtoms_all]
  show words1.all (fun c => c.before args0 about1) = true
  refine all_split ?_ w_codes
  rw [← List.take_append_drop 24 words1, List.all_append, w_t1, ← List.take_append_drop 24 (words1.drop 24), List.all_append, w_t2, ← List.take_append_drop 24 ((words1.drop 24).drop 24), List.all_append, w_t3, ← List.take_append_drop 24 (((words1.drop 24).drop 24).drop 24), List.all_append, w_t4, ← List.take_append_drop 24 ((((words1.drop 24).drop 24).drop 24).drop 24), List.all_append, w_t5, ← List.take_append_drop 24 (((((words1.drop 24).drop 24).drop 24).drop 24).drop 24), List.all_append, w_t6, ← List.take_append_drop 24 ((((((words1.drop 24).drop 24).drop 24).drop 24).drop 24).drop 24), List.all_append, w_t7, ← List.take_append_drop 24 (((((((words1.drop 24).drop 24).drop 24).drop 24).drop 24).drop 24).drop 24), List.all_append, w_t8, w_t9]
  rfl
set_option maxRecDepth 65536 in
theorem w_rest : rest_1_c.before args0 about1 = true := by decide +kernel
set_option maxRecDepth 65536 in
theorem w_case : (Jvm.Cond.and given_1 narrow_1).before args0 about1 = true := by decide +kernel
set_option maxRecDepth 65536 in
theorem w_consts : constsHeld consts_1 about1 := Jvm.Lit.constsHeldB_iff.mp (by decide +kernel)
theorem w_applies : (headSpec (Jvm.Cond.code x code maxLocals ret :: tables_1) room_1).applies x e0.platform about1 = true :=
  (Spec.applies_iff w_frames).mpr ⟨w_running, w_runnable, w_alone, w_named, w_hears, w_ripe, w_room, w_tables⟩
theorem atStart : AtStart classFile x code maxLocals ret World_1 tables_1 room_1 Calls_1 rest_1 Pre_1 launch0 p0 e0 about1 theMethod args0 below0 :=
  ⟨lists_1, trivial, launch0.admits_env _ _ _, launch0.least_env, fairChoices_fair.cas, fairChoices_fair.clock, w_frames, w_args, w_heap, w_applies, ⟨w_consts, trivial⟩, w_rest, w_case⟩
end start1
theorem witness_1 : WitnessClaimed_1 := ⟨start1.p0, start1.e0, start1.about1, start1.theMethod, start1.args0, start1.below0, start1.atStart⟩
end Jvm.Pilot.@@N@@

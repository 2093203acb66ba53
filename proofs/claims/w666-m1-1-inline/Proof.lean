import JvmDerived
import JvmDerived.Pilot.@@N@@Statement
import JvmDerived.Pilot.@@N@@Code
set_option linter.unusedVariables false
set_option linter.unusedSimpArgs false
namespace Jvm.RoadKit
open Sem ClassFile Op Lib Jvm.Stand Jvm.Free Jvm.LawKit
section New
variable {p : Program} {l : Launch} {e : Env} {R : Room} {s : State} {m : MethodId} {args : Array Value} {below : List Frame} {meth : Method} {c : Code} {T : State} {locs : List Loc} {cells slots : Nat}
theorem retI (X : Stand p l e R s m args below meth c T locs cells slots) (hx : p.tables.exec = Jvm.exec) {pc : Nat} {Ls : Array Slot} {z : Int32} {rest : List Value} (hret : meth.sig.returnType = some .int) (hd : decode c.code pc = .ok (.ireturn, 1)) {fs : List Frame}
    (hl : ∀ (f : JFrame) (acts : List Action), f.method = m → f.locked = none → f.entered = [] → (doReturn e (T.setTop f) acts (some (.int z))).1 = T.setFrames fs) : Steps p.tables e below (T.setTop (mkF m pc Ls (.int z :: rest))) (T.setFrames fs) := by
  have hm' : T.vm.method? m = some meth := X.method'
  have hn : narrow .int (.int z) = .int z := rfl
  show Steps p.tables e below (T.setTop { method := m, pc := pc, locals := Ls, stack := _ :: rest, locked := none }) _
  jvm_step X.here [X.here.top, hx, hd, hm', hret, hn]
  first | (intro acts; rw [hl _ acts rfl rfl rfl]) | rw [hl _ _ rfl rfl rfl]
  exact Steps.refl _
end New
end Jvm.RoadKit
@@BLOCK:LamKit.lean.txt@@
namespace Jvm.Pilot.@@N@@
open Jvm Jvm.ClassFile Sem Op Lib Jvm.Free Jvm.Stand Jvm.LawKit Jvm.RoadKit Bundle Jvm.Pilot.@@N@@.Jvm.D
theorem own_w {α : Type _} {l : List α} {a : α} (i : Nat) (h : l[i]? = some a) : a ∈ l := List.mem_of_getElem? h
theorem own_eqint {args : Array Value} {first s : State} {o : Option Outcome} {idx : List Nat} {t : Term} {n : Int32} (h : (Jvm.Cond.eq t (.int n)).value args first o s idx = some true) : t.eval args first o idx s = some (.int n) := by
  obtain ⟨x, y, hx, hy, -, k⟩ := cmp_v (Or.inl h)
  obtain rfl : y = .int n := (Option.some.inj ((Term.int_eval n).symm.trans hy)).symm
  obtain ⟨z, rfl⟩ := k
  simp only [Cond.value, hx, hy] at h
  rw [hx, show z = n by simpa using h]
theorem own_stakeep {Z : State} {h h' : Heap} {C n d : String} {v : Value} (K : Keep h h' []) (F : Sta Z h C n d v) : Sta Z h' C n d v := F.ext ⟨K.1, fun a c q => K.2.1 a c q nin0⟩
theorem own_selpriv {s : State} {args : Array Value} {y : MethodName} {n : Nat} (hi : (Jvm.Cond.instantiable y.cls n).before args s = true) (hp : s.PrivateAt y) (hinst : (Jvm.Cond.instanceMethod y).before args s = true) (hy : y.cls ≠ "java/lang/invoke/MethodHandle" ∧ y.cls ≠ "java/lang/invoke/VarHandle") : (Jvm.Cond.selects y.cls y y).before args s = true := by
  obtain ⟨c, k, h1, h2, h3, h4, -⟩ := Cond.instantiable_spec hi
  exact selects_self_of_private h1 h2 (Bool.or_eq_false_iff.mp h4).1 hp hinst hy
theorem own_lceq {a b : Int64} (h : a = b) : lcmpW a b = 0 := by subst h; simp [lcmpW, Int64.lt_irrefl]
theorem own_lcne {a b : Int64} (h : ¬ a = b) : ¬ lcmpW a b = 0 := by
  unfold lcmpW; split
  · decide
  · first | decide | (rw [if_neg h]; decide)
theorem own_lcgt {a b : Int64} (h : b < a) : (0 : Int32) < lcmpW a b := by unfold lcmpW; rw [if_pos h]; decide
theorem own_lcngt {a b : Int64} (h : ¬ b < a) : ¬ (0 : Int32) < lcmpW a b := by unfold lcmpW; rw [if_neg h]; split <;> decide
theorem own_lclt {a b : Int64} (h : a < b) : lcmpW a b < (0 : Int32) := by
  have h1 : ¬ b < a := fun q => by rw [Int64.lt_iff_toInt_lt] at h q; omega
  have h2 : ¬ a = b := fun q => by subst q; rw [Int64.lt_iff_toInt_lt] at h; omega
  unfold lcmpW; rw [if_neg h1, if_neg h2]; decide
theorem own_lcnlt {a b : Int64} (h : ¬ a < b) : ¬ lcmpW a b < (0 : Int32) := by
  unfold lcmpW; split
  · decide
  · split
    · decide
    · rename_i h1 h2; exact absurd (Int64.toInt_inj.mp (by simp only [gt_iff_lt, Int64.lt_iff_toInt_lt] at h h1; omega)) h2
theorem own_same {s : State} {args : Array Value} {y z : MethodName} {C : String} (hi : (Jvm.Cond.instanceMethod y).before args s = true) (hs : (Jvm.Cond.selects C z z).before args s = true) (hcls : z.cls = y.cls) (hy : y.cls ≠ "java/lang/invoke/MethodHandle" ∧ y.cls ≠ "java/lang/invoke/VarHandle") : (Jvm.Cond.sameMethod y.cls y.cls y.name y.desc).before args s = true := by
  obtain ⟨mk, methM, hnamed, hmethM, -, -⟩ := Cond.instanceMethod_spec hi
  have hfound : s.methodFound? y.cls y.name y.desc = some mk := State.methodFound?_of_named hnamed hy
  obtain ⟨c2, r2, m2, q1, q2, q3, q4, kP, hkP, hkPi⟩ := Cond.selects_spec hs
  have f1 := findClass_of_methodNamed hnamed
  have f2 := findClass_of_methodNamed q3
  rw [hcls] at f2
  have e : mk.cls = m2.cls := Option.some.inj (f1.symm.trans f2)
  have hk : s.vm.classes[mk.cls]? = some kP := by rw [e]; exact hkP
  have hn2 : s.methodNamed? ⟨y.cls, y.name, y.desc⟩ = some mk := hnamed
  simp [Cond.before, Cond.holds, Cond.value, f1, hfound, hn2, hk, hkPi]
theorem own_t {n : Nat} (h : n < 4096) : (Int32.ofNat n).toInt = n := Int32.toInt_ofNat_small (by omega)
theorem own_yN {n : Nat} (h : n < 4096) : (Int32.ofNat n).toNatClampNeg = n := by have q := own_t h; simp only [Int32.toNatClampNeg]; omega
theorem own_y0 {n : Nat} (h : n < 4096) : ¬ Int32.ofNat n < 0 := by rw [Int32.lt_iff_toInt_lt, own_t h, show (0 : Int32).toInt = 0 from rfl]; omega
theorem own_ylt {i n : Nat} (hi : i < 4096) (hn : n < 4096) : Int32.ofNat i < Int32.ofNat n ↔ i < n := by rw [Int32.lt_iff_toInt_lt, own_t hi, own_t hn]; omega
theorem own_yeq {i n : Nat} (hi : i < 4096) (hn : n < 4096) : Int32.ofNat i = Int32.ofNat n ↔ i = n := ⟨fun e => by have q := congrArg Int32.toInt e; rw [own_t hi, own_t hn] at q; omega, fun e => by rw [e]⟩
theorem own_yadd {i j : Nat} (h : i + j < 4096) : Int32.ofNat i + Int32.ofNat j = Int32.ofNat (i + j) := by
  apply Int32.toInt_inj.mp
  have a := c_iadd (Int32.ofNat i) (Int32.ofNat j); have r := rng32 (Int32.ofNat i + Int32.ofNat j)
  rw [own_t h]; rw [own_t (show i < 4096 by omega), own_t (show j < 4096 by omega)] at a; omega
theorem own_ysub {i j : Nat} (h : i < 4096) (hj : j ≤ i) : Int32.ofNat i - Int32.ofNat j = Int32.ofNat (i - j) := by
  apply Int32.toInt_inj.mp
  have a := c_isub (Int32.ofNat i) (Int32.ofNat j); have r := rng32 (Int32.ofNat i - Int32.ofNat j)
  rw [own_t (show i - j < 4096 by omega)]; rw [own_t h, own_t (show j < 4096 by omega)] at a; omega
theorem own_yle0 {i j : Nat} (hi : i < 4096) (hj : j < 4096) (h : i ≤ j) : ¬ (0 : Int32) < Int32.ofNat i - Int32.ofNat j := by
  have a := c_isub (Int32.ofNat i) (Int32.ofNat j); have r := rng32 (Int32.ofNat i - Int32.ofNat j)
  rw [Int32.lt_iff_toInt_lt, show (0 : Int32).toInt = 0 from rfl]; rw [own_t hi, own_t hj] at a; omega
theorem own_ygt0 {i j : Nat} (hi : i < 4096) (h : j < i) : (0 : Int32) < Int32.ofNat i - Int32.ofNat j := by
  have a := c_isub (Int32.ofNat i) (Int32.ofNat j); have r := rng32 (Int32.ofNat i - Int32.ofNat j)
  rw [Int32.lt_iff_toInt_lt, show (0 : Int32).toInt = 0 from rfl]; rw [own_t hi, own_t (show j < 4096 by omega)] at a; omega
theorem own_yle {a b : Nat} (hb : b < 4096) (h : a ≤ b) : ¬ Int32.ofNat b < Int32.ofNat a := fun q => absurd ((own_ylt hb (by omega)).mp q) (by omega)
theorem own_ymin {a b : Nat} (hb : b < 4096) (h : a ≤ b) : (if Int32.ofNat a < Int32.ofNat b then Int32.ofNat a else Int32.ofNat b) = Int32.ofNat a := by
  by_cases e : a = b
  · subst e; simp
  · rw [if_pos ((own_ylt (by omega) hb).mpr (by omega))]
theorem own_ymin2 {a b : Nat} (hb : b < 4096) (h : a ≤ b) : (if Int32.ofNat b < Int32.ofNat a then Int32.ofNat b else Int32.ofNat a) = Int32.ofNat a := if_neg (own_yle hb h)
theorem own_ymax {a b : Nat} (hb : b < 4096) (h : a ≤ b) : (if Int32.ofNat a < Int32.ofNat b then Int32.ofNat b else Int32.ofNat a) = Int32.ofNat b := by
  by_cases e : a = b
  · subst e; simp
  · rw [if_pos ((own_ylt (by omega) hb).mpr (by omega))]
theorem own_sh0 (x : Int32) : x >>> ((0 : Int32) &&& 31) = x := by
  apply Int32.toInt_inj.mp
  have := c_ishr x (0 : Int32) 0 (by decide); omega
theorem own_sl0 (x : Int32) : x <<< ((0 : Int32) &&& 31) = x := by
  apply Int32.toInt_inj.mp
  have := c_ishl x (0 : Int32) 0 (by decide); have := rng32 x; have := rng32 (x <<< ((0 : Int32) &&& 31)); omega
theorem own_nb0 : nar .byte (0 : Int32) = 0 := by decide +kernel
theorem own_neE {Z : State} {h : Heap} {a b : Addr} {D K : String} (A : Exa Z h a D) (B : Exa Z h b K) (hn : D ≠ K) : a ≠ b := fun e => by
  subst e
  obtain ⟨c, k, h1, h2, -⟩ := A
  obtain ⟨c', k', g1, g2, -⟩ := B
  cases h1.symm.trans g1
  exact ids_ne h2 g2 hn rfl
theorem own_big {n : Nat} (h : n < 4096) : ¬ (2147483639 : Int32) < Int32.ofNat n := by rw [Int32.lt_iff_toInt_lt, own_t h, show (2147483639 : Int32).toInt = 2147483639 from rfl]; omega
theorem own_max {n : Nat} (h : n < 4096) : ¬ Int32.ofNat n = (2147483647 : Int32) := fun e => by have q := congrArg Int32.toInt e; rw [own_t h, show (2147483647 : Int32).toInt = 2147483647 from rfl] at q; omega
theorem own_retD {p : Program} {l : Launch} {e : Env} {R : Room} {s : State} {m : MethodId} {args : Array Value} {below : List Frame} {meth : Method} {c : Code} {T : State} {locs : List Loc} {cells slots : Nat} (X : Stand p l e R s m args below meth c T locs cells slots) (hx : p.tables.exec = Jvm.exec) {pc : Nat} {Ls : Array Slot} {z : UInt64} {rest : List Value} (hret : meth.sig.returnType = some .double) (hd : decode c.code pc = .ok (.dreturn, 1)) {fs : List Frame}
    (hl : ∀ (f : JFrame) (acts : List Action), f.method = m → f.locked = none → f.entered = [] → (doReturn e (T.setTop f) acts (some (.double z))).1 = T.setFrames fs) : Steps p.tables e below (T.setTop (mkF m pc Ls (.double z :: rest))) (T.setFrames fs) := by
  have hm' : T.vm.method? m = some meth := X.method'
  have hn : narrow .double (.double z) = .double z := rfl
  show Steps p.tables e below (T.setTop { method := m, pc := pc, locals := Ls, stack := _ :: rest, locked := none }) _
  jvm_step X.here [X.here.top, hx, hd, hm', hret, hn]
  first | (intro acts; rw [hl _ acts rfl rfl rfl]) | rw [hl _ _ rfl rfl rfl]
  exact Steps.refl _
theorem own_cpl {c n m : Nat} {vd us : List Value} {x y : Int32} (hc : vd.length = c) (hx : x.toNatClampNeg = n) (hy : y.toNatClampNeg = m) (hu : us.length = m) (h : n + m ≤ c) : (vd.take x.toNatClampNeg ++ us ++ vd.drop (x.toNatClampNeg + y.toNatClampNeg)).length = c := by
  rw [hx, hy]; simp [hc, hu]; omega
theorem own_selpriv2 {s : State} {args : Array Value} {y : MethodName} {C : String} (hs : (Jvm.Cond.selects C y y).before args s = true) (hp : s.PrivateAt y) (hinst : (Jvm.Cond.instanceMethod y).before args s = true) (hy : y.cls ≠ "java/lang/invoke/MethodHandle" ∧ y.cls ≠ "java/lang/invoke/VarHandle") : (Jvm.Cond.selects y.cls y y).before args s = true := by
  obtain ⟨c2, r2, m2, q1, q2, q3, q4, kP, hkP, hkPi⟩ := Cond.selects_spec hs
  exact selects_self_of_private (findClass_of_methodNamed q3) hkP hkPi hp hinst hy
theorem own_notface {s : State} {args : Array Value} {y z : MethodName} {C : String} (hs : (Jvm.Cond.selects C z z).before args s = true) (hcls : z.cls = y.cls) : NotFace s y := fun r0 hn => by
  obtain ⟨c2, r2, m2, q1, q2, q3, q4, kP, hkP, hkPi⟩ := Cond.selects_spec hs
  have f1 := findClass_of_methodNamed hn
  have f2 := findClass_of_methodNamed q3
  rw [hcls] at f2
  have e : r0.cls = m2.cls := Option.some.inj (f1.symm.trans f2)
  exact ⟨kP, by rw [e]; exact hkP, hkPi⟩

theorem d15_0 : decode jdk_42_method_152_code 0 = .ok (.getstatic 38, 3) := by decide +kernel
theorem d15_3 : decode jdk_42_method_152_code 3 = .ok (.ifCond .eq 10, 3) := by decide +kernel
theorem d15_6 : decode jdk_42_method_152_code 6 = .ok (.aload_n 0, 1) := by decide +kernel
theorem d15_7 : decode jdk_42_method_152_code 7 = .ok (.getfield 15, 3) := by decide +kernel
theorem d15_10 : decode jdk_42_method_152_code 10 = .ok (.goto 4, 3) := by decide +kernel
theorem d15_14 : decode jdk_42_method_152_code 14 = .ok (.ireturn, 1) := by decide +kernel
theorem pn_15 : plainName "java/lang/String" = true := by first | (simp [plainName, overriddenIn]; done) | decide +kernel
theorem ef_rCo (m : MethodId) (a1 : Addr) : entryFrame m #[(.ref a1)] 1 = mkF m 0 #[.val (.ref a1)] [] := by first | (simp [entryFrame, mkF, argsToLocals, Value.category]; done) | rfl
def QrCo (Z : State) (a1 : Addr) (G1 : Int32) (h0 : Heap) (n0 : Nat) (v : Option Value) (h : Heap) (L : List Loc) : Prop := ∃ z : Int32, z = ((0 : Int32)) ∧ v = some (.int z) ∧ Fr n0 L ∧ h = h0
set_option maxRecDepth 65536 in
set_option maxHeartbeats 40000000 in
theorem rCo (l : Launch) (Z : State) (a0 : Array Value) (hw : ∀ d ∈ tables_1, d.before a0 Z = true) (ws : List Jvm.Cond) (a1 : Addr) (G1 : Int32) (h0 : Heap) (n0 : Nat) (Z0 : n0 ≤ h0.size) (X00 : Old Z n0 h0) (O_2 : Sta Z Z.heap "java/lang/String" "COMPACT_STRINGS" "Z" (.int G1)) (P5 : ¬ (G1 = (0 : Int32))) (FC : Fld Z h0 a1 "java/lang/String" "coder" "B" (.int (0 : Int32))) :
    MetFree l (⟨"java/lang/String", "coder", "()B"⟩ : MethodName) (head1 (Jvm.Cond.code (⟨"java/lang/String", "coder", "()B"⟩ : MethodName) jdk_42_method_152_code 1 (some .byte) :: ws) ({ frames := 0, cells := 0, slots := 0, locals := 0 } : Room)) (fun a U => a = #[(.ref a1)] ∧ Z.Warmed39 U.vm ∧ U.heap = h0) (fun _ _ _ _ _ => True) (fun _ U o U' => ∃ v L, o = .returned v ∧ QrCo Z a1 G1 h0 n0 v U'.heap L ∧ FrameEnd U o U' L ({ frames := 0, cells := 0, slots := 0, locals := 0 } : Room).cells ({ frames := 0, cells := 0, slots := 0, locals := 0 } : Room).slots) := by
  refine MetFree.of_bodySF (plainFor_of_name pn_15) hisR ?_
  intro p e s m args below meth c s₁ Bd hml0 hP hK
  obtain ⟨rfl, hZ, hh⟩ := hP
  have hx := Bd.exec
  have hby := Bd.bytes
  have hml : c.maxLocals = 1 := hml0
  have hown : s.vm.findClass "java/lang/String" = some m.cls := findClass_of_methodNamed Bd.named
  have hnm := (name_of_methodNamed Bd.named Bd.method).1
  have X0 : Stand p l e ({ frames := 0, cells := 0, slots := 0, locals := 0 } : Room) s m #[(.ref a1)] below meth c s₁ [] 0 0 := Stand.of_body Bd
  have e0 : s₁.heap = h0 := by rw [← hh, Bd.state]; rfl
  have N0 := Fr.nil n0
  have pre0 : ∀ t, Steps p.tables e below (s₁.setTop (mkF m 0 #[.val (.ref a1)] [])) t → Steps p.tables e below (s₁.setTop (entryFrame m #[(.ref a1)] 1)) t := fun t k => castTop (ef_rCo m a1) k
  obtain ⟨T1, X1, e1, st1⟩ := getS2 X0 hx hZ hown (host := "") (Or.inl (hw _ (own_w 53 rfl))) Via.refl e0 (O_2.ext X00.2) (g := (mkF m 0 #[.val (.ref a1)] [])) rfl (hb hby d15_0)
  obtain ⟨T2, X2, e2, st2⟩ := getF X1 hx hZ hown (host := "") (Or.inl (hw _ (own_w 54 rfl))) Via.refl e1 FC (g := (mkF m 7 #[.val (.ref a1)] [(.ref a1)])) rfl rfl (hb hby d15_7)
  obtain ⟨fs, hr, hrun, hended, hW, hsame⟩ := X2.leave (v := some (.int (0 : Int32))) (fun h => by rw [Bd.returns] at h; cases h) (BodyLoose.notSynchronized Bd)
  refine ⟨_, _, pre0 _ ?_, hrun, hended, _, _, rfl, ?_, ⟨_, rfl⟩, hW, hsame.mono (by decide) (by decide)⟩
  · show Steps p.tables e below (s₁.setTop (mkF m 0 #[.val (.ref a1)] [])) _
    refine st1 _ ?_
    refine XS.ifNo X1.here hx rfl (hb hby d15_3) rfl ((if0 _ _).trans (feq P5).1) ?_
    refine XS.aloadN X1.here hx rfl (hb hby d15_6) rfl rfl ?_
    refine st2 _ ?_
    refine XS.goto X2.here hx rfl (pc0 := 10) (pc' := 14) rfl (hb hby d15_10) (by decide) (by decide) ?_
    show Steps p.tables e below (T2.setTop (mkF m 14 #[.val (.ref a1)] [(.int (0 : Int32))])) _
    exact retN X2 hx (t := .byte) Bd.returns (by simp) (hb hby d15_14) hr
  · show QrCo Z a1 G1 h0 n0 _ T2.heap _
    exact ⟨_, rfl, rfl, N0, e2⟩
theorem d9_0 : decode jdk_42_method_154_code 0 = .ok (.getstatic 38, 3) := by decide +kernel
theorem d9_3 : decode jdk_42_method_154_code 3 = .ok (.ifCond .eq 14, 3) := by decide +kernel
theorem d9_6 : decode jdk_42_method_154_code 6 = .ok (.aload_n 0, 1) := by decide +kernel
theorem d9_7 : decode jdk_42_method_154_code 7 = .ok (.getfield 15, 3) := by decide +kernel
theorem d9_10 : decode jdk_42_method_154_code 10 = .ok (.ifCond .ne 7, 3) := by decide +kernel
theorem d9_13 : decode jdk_42_method_154_code 13 = .ok (.iconst 1, 1) := by decide +kernel
theorem d9_14 : decode jdk_42_method_154_code 14 = .ok (.goto 4, 3) := by decide +kernel
theorem d9_18 : decode jdk_42_method_154_code 18 = .ok (.ireturn, 1) := by decide +kernel
theorem pn_9 : plainName "java/lang/String" = true := by first | (simp [plainName, overriddenIn]; done) | decide +kernel
theorem ef_rIs (m : MethodId) (a1 : Addr) : entryFrame m #[(.ref a1)] 1 = mkF m 0 #[.val (.ref a1)] [] := by first | (simp [entryFrame, mkF, argsToLocals, Value.category]; done) | rfl
def QrIs (Z : State) (a1 : Addr) (G1 : Int32) (h0 : Heap) (n0 : Nat) (v : Option Value) (h : Heap) (L : List Loc) : Prop := ∃ z : Int32, z = ((1 : Int32)) ∧ v = some (.int z) ∧ Fr n0 L ∧ h = h0
set_option maxRecDepth 65536 in
set_option maxHeartbeats 40000000 in
theorem rIs (l : Launch) (Z : State) (a0 : Array Value) (hw : ∀ d ∈ tables_1, d.before a0 Z = true) (ws : List Jvm.Cond) (a1 : Addr) (G1 : Int32) (h0 : Heap) (n0 : Nat) (Z0 : n0 ≤ h0.size) (X00 : Old Z n0 h0) (O_2 : Sta Z Z.heap "java/lang/String" "COMPACT_STRINGS" "Z" (.int G1)) (P5 : ¬ (G1 = (0 : Int32))) (FC : Fld Z h0 a1 "java/lang/String" "coder" "B" (.int (0 : Int32))) :
    MetFree l (⟨"java/lang/String", "isLatin1", "()Z"⟩ : MethodName) (head1 (Jvm.Cond.code (⟨"java/lang/String", "isLatin1", "()Z"⟩ : MethodName) jdk_42_method_154_code 1 (some .boolean) :: ws) ({ frames := 0, cells := 0, slots := 0, locals := 0 } : Room)) (fun a U => a = #[(.ref a1)] ∧ Z.Warmed39 U.vm ∧ U.heap = h0) (fun _ _ _ _ _ => True) (fun _ U o U' => ∃ v L, o = .returned v ∧ QrIs Z a1 G1 h0 n0 v U'.heap L ∧ FrameEnd U o U' L ({ frames := 0, cells := 0, slots := 0, locals := 0 } : Room).cells ({ frames := 0, cells := 0, slots := 0, locals := 0 } : Room).slots) := by
  refine MetFree.of_bodySF (plainFor_of_name pn_9) hisR ?_
  intro p e s m args below meth c s₁ Bd hml0 hP hK
  obtain ⟨rfl, hZ, hh⟩ := hP
  have hx := Bd.exec
  have hby := Bd.bytes
  have hml : c.maxLocals = 1 := hml0
  have hown : s.vm.findClass "java/lang/String" = some m.cls := findClass_of_methodNamed Bd.named
  have hnm := (name_of_methodNamed Bd.named Bd.method).1
  have X0 : Stand p l e ({ frames := 0, cells := 0, slots := 0, locals := 0 } : Room) s m #[(.ref a1)] below meth c s₁ [] 0 0 := Stand.of_body Bd
  have e0 : s₁.heap = h0 := by rw [← hh, Bd.state]; rfl
  have N0 := Fr.nil n0
  have pre0 : ∀ t, Steps p.tables e below (s₁.setTop (mkF m 0 #[.val (.ref a1)] [])) t → Steps p.tables e below (s₁.setTop (entryFrame m #[(.ref a1)] 1)) t := fun t k => castTop (ef_rIs m a1) k
  obtain ⟨T1, X1, e1, st1⟩ := getS2 X0 hx hZ hown (host := "") (Or.inl (hw _ (own_w 53 rfl))) Via.refl e0 (O_2.ext X00.2) (g := (mkF m 0 #[.val (.ref a1)] [])) rfl (hb hby d9_0)
  obtain ⟨T2, X2, e2, st2⟩ := getF X1 hx hZ hown (host := "") (Or.inl (hw _ (own_w 54 rfl))) Via.refl e1 FC (g := (mkF m 7 #[.val (.ref a1)] [(.ref a1)])) rfl rfl (hb hby d9_7)
  obtain ⟨fs, hr, hrun, hended, hW, hsame⟩ := X2.leave (v := some (.int (1 : Int32))) (fun h => by rw [Bd.returns] at h; cases h) (BodyLoose.notSynchronized Bd)
  refine ⟨_, _, pre0 _ ?_, hrun, hended, _, _, rfl, ?_, ⟨_, rfl⟩, hW, hsame.mono (by decide) (by decide)⟩
  · show Steps p.tables e below (s₁.setTop (mkF m 0 #[.val (.ref a1)] [])) _
    refine st1 _ ?_
    refine XS.ifNo X1.here hx rfl (hb hby d9_3) rfl ((if0 _ _).trans (feq P5).1) ?_
    refine XS.aloadN X1.here hx rfl (hb hby d9_6) rfl rfl ?_
    refine st2 _ ?_
    refine XS.ifNo X2.here hx rfl (hb hby d9_10) rfl ((if0 _ _).trans (teq (by decide)).2) ?_
    refine XS.iconst X2.here hx rfl (hb hby d9_13) ?_
    refine XS.goto X2.here hx rfl (pc0 := 14) (pc' := 18) rfl (hb hby d9_14) (by decide) (by decide) ?_
    show Steps p.tables e below (T2.setTop (mkF m 18 #[.val (.ref a1)] [(.int (1 : Int32))])) _
    exact retN X2 hx (t := .boolean) Bd.returns (by simp) (hb hby d9_18) hr
  · show QrIs Z a1 G1 h0 n0 _ T2.heap _
    exact ⟨_, rfl, rfl, N0, e2⟩
theorem pd_0 : parseMethodDescriptor "()B" = some ⟨[], some .byte⟩ := by decide +kernel
theorem d14_0 : decode jdk_42_method_54_code 0 = .ok (.aload_n 0, 1) := by decide +kernel
theorem d14_1 : decode jdk_42_method_54_code 1 = .ok (.getfield 9, 3) := by decide +kernel
theorem d14_4 : decode jdk_42_method_54_code 4 = .ok (.arraylength, 1) := by decide +kernel
theorem d14_5 : decode jdk_42_method_54_code 5 = .ok (.aload_n 0, 1) := by decide +kernel
theorem d14_6 : decode jdk_42_method_54_code 6 = .ok (.invokevirtual 335, 3) := by decide +kernel
theorem d14_9 : decode jdk_42_method_54_code 9 = .ok (.ishr, 1) := by decide +kernel
theorem d14_10 : decode jdk_42_method_54_code 10 = .ok (.ireturn, 1) := by decide +kernel
theorem pn_14 : plainName "java/lang/String" = true := by first | (simp [plainName, overriddenIn]; done) | decide +kernel
theorem ef_rLe (m : MethodId) (a1 : Addr) : entryFrame m #[(.ref a1)] 1 = mkF m 0 #[.val (.ref a1)] [] := by first | (simp [entryFrame, mkF, argsToLocals, Value.category]; done) | rfl
def QrLe (Z : State) (a1 : Addr) (wb : Addr) (kw : ClassId) (mz : Nat) (wl : List Value) (G1 : Int32) (h0 : Heap) (n0 : Nat) (v : Option Value) (h : Heap) (L : List Loc) : Prop := ∃ z : Int32, z = ((Int32.ofNat mz)) ∧ v = some (.int z) ∧ Fr n0 L ∧ h = h0
set_option maxRecDepth 65536 in
set_option maxHeartbeats 40000000 in
theorem rLe (l : Launch) (Z : State) (a0 : Array Value) (hw : ∀ d ∈ tables_1, d.before a0 Z = true) (ws : List Jvm.Cond) (a1 : Addr) (wb : Addr) (kw : ClassId) (mz : Nat) (wl : List Value) (G1 : Int32) (h0 : Heap) (n0 : Nat) (Z0 : n0 ≤ h0.size) (X00 : Old Z n0 h0) (O_2 : Sta Z Z.heap "java/lang/String" "COMPACT_STRINGS" "Z" (.int G1)) (P5 : ¬ (G1 = (0 : Int32))) (ES : Exa Z h0 a1 "java/lang/String") (SV : Fld Z h0 a1 "java/lang/String" "value" "[B" (.ref wb)) (SC : Fld Z h0 a1 "java/lang/String" "coder" "B" (.int (0 : Int32))) (AS : Arv Z h0 wb kw .byte (Int32.ofNat mz) (wl) (.int (0 : Int32))) (hm : mz < 1000) :
    MetFree l (⟨"java/lang/String", "length", "()I"⟩ : MethodName) (head1 (Jvm.Cond.code (⟨"java/lang/String", "length", "()I"⟩ : MethodName) jdk_42_method_54_code 1 (some .int) :: ws) ({ frames := 1, cells := 0, slots := 0, locals := 13 } : Room)) (fun a U => a = #[(.ref a1)] ∧ Z.Warmed39 U.vm ∧ U.heap = h0) (fun _ _ _ _ _ => True) (fun _ U o U' => ∃ v L, o = .returned v ∧ QrLe Z a1 wb kw mz wl G1 h0 n0 v U'.heap L ∧ FrameEnd U o U' L ({ frames := 1, cells := 0, slots := 0, locals := 13 } : Room).cells ({ frames := 1, cells := 0, slots := 0, locals := 13 } : Room).slots) := by
  refine MetFree.of_bodySF (plainFor_of_name pn_14) hisR ?_
  intro p e s m args below meth c s₁ Bd hml0 hP hK
  obtain ⟨rfl, hZ, hh⟩ := hP
  have hx := Bd.exec
  have hby := Bd.bytes
  have hml : c.maxLocals = 1 := hml0
  have hown : s.vm.findClass "java/lang/String" = some m.cls := findClass_of_methodNamed Bd.named
  have hnm := (name_of_methodNamed Bd.named Bd.method).1
  have X0 : Stand p l e ({ frames := 1, cells := 0, slots := 0, locals := 13 } : Room) s m #[(.ref a1)] below meth c s₁ [] 0 0 := Stand.of_body Bd
  have e0 : s₁.heap = h0 := by rw [← hh, Bd.state]; rfl
  have N0 := Fr.nil n0
  have pre0 : ∀ t, Steps p.tables e below (s₁.setTop (mkF m 0 #[.val (.ref a1)] [])) t → Steps p.tables e below (s₁.setTop (entryFrame m #[(.ref a1)] 1)) t := fun t k => castTop (ef_rLe m a1) k
  obtain ⟨T1, X1, e1, st1⟩ := getF X0 hx hZ hown (host := "") (Or.inl (hw _ (own_w 55 rfl))) Via.refl e0 SV (g := (mkF m 1 #[.val (.ref a1)] [(.ref a1)])) rfl rfl (hb hby d14_1)
  obtain ⟨cl2, Ar2, qk2, Sz2, Nn2, Hh2, Gg2⟩ := id (AS)
  obtain ⟨cq3, kz3, q3a, q3b, q3c⟩ := isOf hZ e1 ES
  obtain ⟨_, _, ⟨T3, Lq3, kq3, nq3⟩, -, X3, ⟨Lc3, hQ3, lq3, yq3, zq3⟩, st3⟩ := X1.virtualBack hx (y := (⟨"java/lang/String", "coder", "()B"⟩ : MethodName)) (z := (⟨"java/lang/String", "coder", "()B"⟩ : MethodName)) hown (mvT hZ (hw _ (own_w 81 rfl))) (mvT hZ (hw _ (own_w 82 rfl))) (notFace_of_selects (args := #[]) (mvT hZ (hw _ (own_w 84 rfl)))) (mvT hZ (hw _ (own_w 84 rfl))) (mvT hZ (hw _ (own_w 83 rfl))) (by decide) (backOf (W := 1) (rCo l Z a0 hw [] a1 G1 h0 n0 Z0 X00 O_2 P5 SC) hZ (hw _ (own_w 85 rfl)) (hw _ (own_w 5 rfl)) (by decide) (by decide)) q3a q3c (g := (mkF m 6 #[.val (.ref a1)] [(.ref a1), (.int (Int32.ofNat mz))])) rfl (by rw [hml]; rfl) (Steps.refl _) (argsL := []) (rest := [(.int (Int32.ofNat mz))]) (lenOf pd_0 rfl) rfl (by show 2 * 0 + _ ≤ _; exact Nat.le_of_eq rfl) (hb hby d14_6) (fun _ _ => ⟨rfl, e1, (by decide : 0 + 0 ≤ _), (by decide : 0 + 0 ≤ _)⟩)
  dsimp only [Pt.U, Pt.locs, Pt.cells, Pt.slots] at X3 lq3 yq3 zq3 st3 hQ3
  subst lq3 yq3 zq3
  obtain ⟨r3, hr3, rfl, N3q, e3⟩ := hQ3
  have N3 := Fr.app N0 N3q
  subst hr3
  obtain ⟨fs, hr, hrun, hended, hW, hsame⟩ := X3.leave (v := some (.int ((Int32.ofNat mz) >>> ((0 : Int32) &&& 31)))) (fun h => by rw [Bd.returns] at h; cases h) (BodyLoose.notSynchronized Bd)
  refine ⟨_, _, pre0 _ ?_, hrun, hended, _, _, rfl, ?_, ⟨_, rfl⟩, hW, hsame.mono (by decide) (by decide)⟩
  · show Steps p.tables e below (s₁.setTop (mkF m 0 #[.val (.ref a1)] [])) _
    refine XS.aloadN X0.here hx rfl (hb hby d14_0) rfl rfl ?_
    refine st1 _ ?_
    refine X1.arraylength hx (by rw [e1]; exact Ar2.1) (State.isArrayOf_alike hZ.alike Ar2.2.1) (g := (mkF m 4 #[.val (.ref a1)] [(.ref wb)])) rfl rfl (hb hby d14_4) _ ?_
    rw [len_of Sz2 Nn2]
    show Steps p.tables e below (T1.setTop (mkF m 5 #[.val (.ref a1)] [(.int (Int32.ofNat mz))])) _
    refine XS.aloadN X1.here hx rfl (hb hby d14_5) rfl rfl ?_
    refine st3.trans ?_
    refine XS.ishr X3.here hx rfl (hb hby d14_9) rfl ?_
    show Steps p.tables e below (T3.setTop (mkF m 10 #[.val (.ref a1)] [(.int ((Int32.ofNat mz) >>> ((0 : Int32) &&& 31)))])) _
    exact retI X3 hx Bd.returns (hb hby d14_10) hr
  · show QrLe Z a1 wb kw mz wl G1 h0 n0 _ T3.heap _
    exact ⟨_, own_sh0 _, rfl, N3, e3⟩
theorem d31_0 : decode jdk_29_method_65_code 0 = .ok (.iload_n 0, 1) := by decide +kernel
theorem d31_1 : decode jdk_29_method_65_code 1 = .ok (.iload_n 1, 1) := by decide +kernel
theorem d31_2 : decode jdk_29_method_65_code 2 = .ok (.if_icmp .lt 7, 3) := by decide +kernel
theorem d31_5 : decode jdk_29_method_65_code 5 = .ok (.iload_n 0, 1) := by decide +kernel
theorem d31_6 : decode jdk_29_method_65_code 6 = .ok (.goto 4, 3) := by decide +kernel
theorem d31_9 : decode jdk_29_method_65_code 9 = .ok (.iload_n 1, 1) := by decide +kernel
theorem d31_10 : decode jdk_29_method_65_code 10 = .ok (.ireturn, 1) := by decide +kernel
theorem ef_rMx (m : MethodId) (p1 : Int32) (p2 : Int32) : entryFrame m #[(.int p1), (.int p2)] 2 = mkF m 0 #[.val (.int p1), .val (.int p2)] [] := by first | (simp [entryFrame, mkF, argsToLocals, Value.category]; done) | rfl
def QrMx (Z : State) (p1 : Int32) (p2 : Int32) (h0 : Heap) (n0 : Nat) (v : Option Value) (h : Heap) (L : List Loc) : Prop := ∃ z : Int32, z = (if p1 < p2 then p2 else p1) ∧ v = some (.int z) ∧ Fr n0 L ∧ h = h0
set_option maxRecDepth 65536 in
set_option maxHeartbeats 40000000 in
theorem rMx (l : Launch) (Z : State) (a0 : Array Value) (hw : ∀ d ∈ tables_1, d.before a0 Z = true) (ws : List Jvm.Cond) (p1 : Int32) (p2 : Int32) (h0 : Heap) (n0 : Nat) (Z0 : n0 ≤ h0.size) :
    MetFree l (⟨"java/lang/Math", "max", "(II)I"⟩ : MethodName) (head1 (Jvm.Cond.code (⟨"java/lang/Math", "max", "(II)I"⟩ : MethodName) jdk_29_method_65_code 2 (some .int) :: ws) ({ frames := 0, cells := 0, slots := 0, locals := 0 } : Room)) (fun a U => a = #[(.int p1), (.int p2)] ∧ Z.Warmed39 U.vm ∧ U.heap = h0) (fun _ _ _ _ _ => True) (fun _ U o U' => ∃ v L, o = .returned v ∧ QrMx Z p1 p2 h0 n0 v U'.heap L ∧ FrameEnd U o U' L ({ frames := 0, cells := 0, slots := 0, locals := 0 } : Room).cells ({ frames := 0, cells := 0, slots := 0, locals := 0 } : Room).slots) := by
  refine MetFree.of_bodySF (Jvm.Free.JP.mathPlain rfl (by decide +kernel)) hisR ?_
  intro p e s m args below meth c s₁ Bd hml0 hP hK
  obtain ⟨rfl, hZ, hh⟩ := hP
  have hx := Bd.exec
  have hby := Bd.bytes
  have hml : c.maxLocals = 2 := hml0
  have hown : s.vm.findClass "java/lang/Math" = some m.cls := findClass_of_methodNamed Bd.named
  have hnm := (name_of_methodNamed Bd.named Bd.method).1
  have X0 : Stand p l e ({ frames := 0, cells := 0, slots := 0, locals := 0 } : Room) s m #[(.int p1), (.int p2)] below meth c s₁ [] 0 0 := Stand.of_body Bd
  have e0 : s₁.heap = h0 := by rw [← hh, Bd.state]; rfl
  have N0 := Fr.nil n0
  have pre0 : ∀ t, Steps p.tables e below (s₁.setTop (mkF m 0 #[.val (.int p1), .val (.int p2)] [])) t → Steps p.tables e below (s₁.setTop (entryFrame m #[(.int p1), (.int p2)] 2)) t := fun t k => castTop (ef_rMx m p1 p2) k
  by_cases hc2 : p1 < p2
  · obtain ⟨fs, hr, hrun, hended, hW, hsame⟩ := X0.leave (v := some (.int p2)) (fun h => by rw [Bd.returns] at h; cases h) (BodyLoose.notSynchronized Bd)
    refine ⟨_, _, pre0 _ ?_, hrun, hended, _, _, rfl, ?_, ⟨_, rfl⟩, hW, hsame.mono (by decide) (by decide)⟩
    · show Steps p.tables e below (s₁.setTop (mkF m 0 #[.val (.int p1), .val (.int p2)] [])) _
      refine XS.iloadN X0.here hx rfl (hb hby d31_0) rfl ?_
      refine XS.iloadN X0.here hx rfl (hb hby d31_1) rfl ?_
      refine XS.icmpYes X0.here hx rfl (pc0 := 2) (pc' := 9) rfl (hb hby d31_2) rfl (tlt hc2).1 (by decide) (by decide) ?_
      refine XS.iloadN X0.here hx rfl (hb hby d31_9) rfl ?_
      show Steps p.tables e below (s₁.setTop (mkF m 10 #[.val (.int p1), .val (.int p2)] [(.int p2)])) _
      exact retI X0 hx Bd.returns (hb hby d31_10) hr
    · show QrMx Z p1 p2 h0 n0 _ s₁.heap _
      exact ⟨_, by simp [*], rfl, N0, e0⟩
  · obtain ⟨fs, hr, hrun, hended, hW, hsame⟩ := X0.leave (v := some (.int p1)) (fun h => by rw [Bd.returns] at h; cases h) (BodyLoose.notSynchronized Bd)
    refine ⟨_, _, pre0 _ ?_, hrun, hended, _, _, rfl, ?_, ⟨_, rfl⟩, hW, hsame.mono (by decide) (by decide)⟩
    · show Steps p.tables e below (s₁.setTop (mkF m 0 #[.val (.int p1), .val (.int p2)] [])) _
      refine XS.iloadN X0.here hx rfl (hb hby d31_0) rfl ?_
      refine XS.iloadN X0.here hx rfl (hb hby d31_1) rfl ?_
      refine XS.icmpNo X0.here hx rfl (hb hby d31_2) rfl (flt hc2).1 ?_
      refine XS.iloadN X0.here hx rfl (hb hby d31_5) rfl ?_
      refine XS.goto X0.here hx rfl (pc0 := 6) (pc' := 10) rfl (hb hby d31_6) (by decide) (by decide) ?_
      show Steps p.tables e below (s₁.setTop (mkF m 10 #[.val (.int p1), .val (.int p2)] [(.int p1)])) _
      exact retI X0 hx Bd.returns (hb hby d31_10) hr
    · show QrMx Z p1 p2 h0 n0 _ s₁.heap _
      exact ⟨_, by simp [*], rfl, N0, e0⟩
theorem d33_0 : decode jdk_29_method_69_code 0 = .ok (.iload_n 0, 1) := by decide +kernel
theorem d33_1 : decode jdk_29_method_69_code 1 = .ok (.iload_n 1, 1) := by decide +kernel
theorem d33_2 : decode jdk_29_method_69_code 2 = .ok (.if_icmp .gt 7, 3) := by decide +kernel
theorem d33_5 : decode jdk_29_method_69_code 5 = .ok (.iload_n 0, 1) := by decide +kernel
theorem d33_6 : decode jdk_29_method_69_code 6 = .ok (.goto 4, 3) := by decide +kernel
theorem d33_9 : decode jdk_29_method_69_code 9 = .ok (.iload_n 1, 1) := by decide +kernel
theorem d33_10 : decode jdk_29_method_69_code 10 = .ok (.ireturn, 1) := by decide +kernel
theorem ef_rMn (m : MethodId) (p1 : Int32) (p2 : Int32) : entryFrame m #[(.int p1), (.int p2)] 2 = mkF m 0 #[.val (.int p1), .val (.int p2)] [] := by first | (simp [entryFrame, mkF, argsToLocals, Value.category]; done) | rfl
def QrMn (Z : State) (p1 : Int32) (p2 : Int32) (h0 : Heap) (n0 : Nat) (v : Option Value) (h : Heap) (L : List Loc) : Prop := ∃ z : Int32, z = (if p2 < p1 then p2 else p1) ∧ v = some (.int z) ∧ Fr n0 L ∧ h = h0
set_option maxRecDepth 65536 in
set_option maxHeartbeats 40000000 in
theorem rMn (l : Launch) (Z : State) (a0 : Array Value) (hw : ∀ d ∈ tables_1, d.before a0 Z = true) (ws : List Jvm.Cond) (p1 : Int32) (p2 : Int32) (h0 : Heap) (n0 : Nat) (Z0 : n0 ≤ h0.size) :
    MetFree l (⟨"java/lang/Math", "min", "(II)I"⟩ : MethodName) (head1 (Jvm.Cond.code (⟨"java/lang/Math", "min", "(II)I"⟩ : MethodName) jdk_29_method_69_code 2 (some .int) :: ws) ({ frames := 0, cells := 0, slots := 0, locals := 0 } : Room)) (fun a U => a = #[(.int p1), (.int p2)] ∧ Z.Warmed39 U.vm ∧ U.heap = h0) (fun _ _ _ _ _ => True) (fun _ U o U' => ∃ v L, o = .returned v ∧ QrMn Z p1 p2 h0 n0 v U'.heap L ∧ FrameEnd U o U' L ({ frames := 0, cells := 0, slots := 0, locals := 0 } : Room).cells ({ frames := 0, cells := 0, slots := 0, locals := 0 } : Room).slots) := by
  refine MetFree.of_bodySF (Jvm.Free.JP.mathPlain rfl (by decide +kernel)) hisR ?_
  intro p e s m args below meth c s₁ Bd hml0 hP hK
  obtain ⟨rfl, hZ, hh⟩ := hP
  have hx := Bd.exec
  have hby := Bd.bytes
  have hml : c.maxLocals = 2 := hml0
  have hown : s.vm.findClass "java/lang/Math" = some m.cls := findClass_of_methodNamed Bd.named
  have hnm := (name_of_methodNamed Bd.named Bd.method).1
  have X0 : Stand p l e ({ frames := 0, cells := 0, slots := 0, locals := 0 } : Room) s m #[(.int p1), (.int p2)] below meth c s₁ [] 0 0 := Stand.of_body Bd
  have e0 : s₁.heap = h0 := by rw [← hh, Bd.state]; rfl
  have N0 := Fr.nil n0
  have pre0 : ∀ t, Steps p.tables e below (s₁.setTop (mkF m 0 #[.val (.int p1), .val (.int p2)] [])) t → Steps p.tables e below (s₁.setTop (entryFrame m #[(.int p1), (.int p2)] 2)) t := fun t k => castTop (ef_rMn m p1 p2) k
  by_cases hc2 : p2 < p1
  · obtain ⟨fs, hr, hrun, hended, hW, hsame⟩ := X0.leave (v := some (.int p2)) (fun h => by rw [Bd.returns] at h; cases h) (BodyLoose.notSynchronized Bd)
    refine ⟨_, _, pre0 _ ?_, hrun, hended, _, _, rfl, ?_, ⟨_, rfl⟩, hW, hsame.mono (by decide) (by decide)⟩
    · show Steps p.tables e below (s₁.setTop (mkF m 0 #[.val (.int p1), .val (.int p2)] [])) _
      refine XS.iloadN X0.here hx rfl (hb hby d33_0) rfl ?_
      refine XS.iloadN X0.here hx rfl (hb hby d33_1) rfl ?_
      refine XS.icmpYes X0.here hx rfl (pc0 := 2) (pc' := 9) rfl (hb hby d33_2) rfl (tlt hc2).2.2.1 (by decide) (by decide) ?_
      refine XS.iloadN X0.here hx rfl (hb hby d33_9) rfl ?_
      show Steps p.tables e below (s₁.setTop (mkF m 10 #[.val (.int p1), .val (.int p2)] [(.int p2)])) _
      exact retI X0 hx Bd.returns (hb hby d33_10) hr
    · show QrMn Z p1 p2 h0 n0 _ s₁.heap _
      exact ⟨_, by simp [*], rfl, N0, e0⟩
  · obtain ⟨fs, hr, hrun, hended, hW, hsame⟩ := X0.leave (v := some (.int p1)) (fun h => by rw [Bd.returns] at h; cases h) (BodyLoose.notSynchronized Bd)
    refine ⟨_, _, pre0 _ ?_, hrun, hended, _, _, rfl, ?_, ⟨_, rfl⟩, hW, hsame.mono (by decide) (by decide)⟩
    · show Steps p.tables e below (s₁.setTop (mkF m 0 #[.val (.int p1), .val (.int p2)] [])) _
      refine XS.iloadN X0.here hx rfl (hb hby d33_0) rfl ?_
      refine XS.iloadN X0.here hx rfl (hb hby d33_1) rfl ?_
      refine XS.icmpNo X0.here hx rfl (hb hby d33_2) rfl (flt hc2).2.2.1 ?_
      refine XS.iloadN X0.here hx rfl (hb hby d33_5) rfl ?_
      refine XS.goto X0.here hx rfl (pc0 := 6) (pc' := 10) rfl (hb hby d33_6) (by decide) (by decide) ?_
      show Steps p.tables e below (s₁.setTop (mkF m 10 #[.val (.int p1), .val (.int p2)] [(.int p1)])) _
      exact retI X0 hx Bd.returns (hb hby d33_10) hr
    · show QrMn Z p1 p2 h0 n0 _ s₁.heap _
      exact ⟨_, by simp [*], rfl, N0, e0⟩
theorem pd_1 : parseMethodDescriptor "(II)I" = some ⟨[.int, .int], some .int⟩ := by decide +kernel
theorem d30_0 : decode jdk_48_method_27_code 0 = .ok (.iload_n 0, 1) := by decide +kernel
theorem d30_1 : decode jdk_48_method_27_code 1 = .ok (.iload_n 1, 1) := by decide +kernel
theorem d30_2 : decode jdk_48_method_27_code 2 = .ok (.iload_n 2, 1) := by decide +kernel
theorem d30_3 : decode jdk_48_method_27_code 3 = .ok (.invokestatic 194, 3) := by decide +kernel
theorem d30_6 : decode jdk_48_method_27_code 6 = .ok (.iadd, 1) := by decide +kernel
theorem d30_7 : decode jdk_48_method_27_code 7 = .ok (.istore_n 3, 1) := by decide +kernel
theorem d30_8 : decode jdk_48_method_27_code 8 = .ok (.iconst 0, 1) := by decide +kernel
theorem d30_9 : decode jdk_48_method_27_code 9 = .ok (.iload_n 3, 1) := by decide +kernel
theorem d30_10 : decode jdk_48_method_27_code 10 = .ok (.if_icmp .ge 11, 3) := by decide +kernel
theorem d30_13 : decode jdk_48_method_27_code 13 = .ok (.iload_n 3, 1) := by decide +kernel
theorem d30_14 : decode jdk_48_method_27_code 14 = .ok (.ldc 200, 2) := by decide +kernel
theorem d30_16 : decode jdk_48_method_27_code 16 = .ok (.if_icmp .gt 5, 3) := by decide +kernel
theorem d30_19 : decode jdk_48_method_27_code 19 = .ok (.iload_n 3, 1) := by decide +kernel
theorem d30_20 : decode jdk_48_method_27_code 20 = .ok (.ireturn, 1) := by decide +kernel
theorem pn_30 : plainName "jdk/internal/util/ArraysSupport" = true := by first | (simp [plainName, overriddenIn]; done) | decide +kernel
theorem ef_rNL (m : MethodId) (p1 : Int32) (p2 : Int32) (p3 : Int32) : entryFrame m #[(.int p1), (.int p2), (.int p3)] 4 = mkF m 0 #[.val (.int p1), .val (.int p2), .val (.int p3), .unset] [] := by first | (simp [entryFrame, mkF, argsToLocals, Value.category]; done) | rfl
def QrNL (Z : State) (p1 : Int32) (p2 : Int32) (p3 : Int32) (cz : Nat) (gz : Nat) (h0 : Heap) (n0 : Nat) (v : Option Value) (h : Heap) (L : List Loc) : Prop := ∃ z : Int32, z = ((Int32.ofNat (cz + (cz + 2)))) ∧ v = some (.int z) ∧ Fr n0 L ∧ h = h0
set_option maxRecDepth 65536 in
set_option maxHeartbeats 40000000 in
theorem rNL (l : Launch) (Z : State) (a0 : Array Value) (hw : ∀ d ∈ tables_1, d.before a0 Z = true) (ws : List Jvm.Cond) (p1 : Int32) (p2 : Int32) (p3 : Int32) (cz : Nat) (gz : Nat) (h0 : Heap) (n0 : Nat) (Z0 : n0 ≤ h0.size) (hp1 : p1 = Int32.ofNat cz) (hp2 : p2 = Int32.ofNat gz) (hp3 : p3 = Int32.ofNat (cz + 2)) (hg : gz ≤ cz + 2) (hc : cz < 1000) :
    MetFree l (⟨"jdk/internal/util/ArraysSupport", "newLength", "(III)I"⟩ : MethodName) (head1 (Jvm.Cond.code (⟨"jdk/internal/util/ArraysSupport", "newLength", "(III)I"⟩ : MethodName) jdk_48_method_27_code 4 (some .int) :: ws) ({ frames := 1, cells := 0, slots := 0, locals := 14 } : Room)) (fun a U => a = #[(.int p1), (.int p2), (.int p3)] ∧ Z.Warmed39 U.vm ∧ U.heap = h0) (fun _ _ _ _ _ => True) (fun _ U o U' => ∃ v L, o = .returned v ∧ QrNL Z p1 p2 p3 cz gz h0 n0 v U'.heap L ∧ FrameEnd U o U' L ({ frames := 1, cells := 0, slots := 0, locals := 14 } : Room).cells ({ frames := 1, cells := 0, slots := 0, locals := 14 } : Room).slots) := by
  refine MetFree.of_bodySF (plainFor_of_name pn_30) hisR ?_
  intro p e s m args below meth c s₁ Bd hml0 hP hK
  obtain ⟨rfl, hZ, hh⟩ := hP
  have hx := Bd.exec
  have hby := Bd.bytes
  have hml : c.maxLocals = 4 := hml0
  have hown : s.vm.findClass "jdk/internal/util/ArraysSupport" = some m.cls := findClass_of_methodNamed Bd.named
  have hnm := (name_of_methodNamed Bd.named Bd.method).1
  have X0 : Stand p l e ({ frames := 1, cells := 0, slots := 0, locals := 14 } : Room) s m #[(.int p1), (.int p2), (.int p3)] below meth c s₁ [] 0 0 := Stand.of_body Bd
  have e0 : s₁.heap = h0 := by rw [← hh, Bd.state]; rfl
  have N0 := Fr.nil n0
  have pre0 : ∀ t, Steps p.tables e below (s₁.setTop (mkF m 0 #[.val (.int p1), .val (.int p2), .val (.int p3), .unset] [])) t → Steps p.tables e below (s₁.setTop (entryFrame m #[(.int p1), (.int p2), (.int p3)] 4)) t := fun t k => castTop (ef_rNL m p1 p2 p3) k
  obtain ⟨_, _, ⟨T1, Lq1, kq1, nq1⟩, -, X1, ⟨Lc1, hQ1, lq1, yq1, zq1⟩, st1⟩ := Jvm.LawKit.callS X0 hx (y := (⟨"java/lang/Math", "max", "(II)I"⟩ : MethodName)) hown (mvT hZ (hw _ (own_w 175 rfl))) (mvT hZ (hw _ (own_w 176 rfl))) (mvT hZ (hw _ (own_w 92 rfl))) (mvT hZ (hw _ (own_w 177 rfl))) (by decide) (backOf (W := 1) (rMx l Z a0 hw [] (Int32.ofNat gz) (Int32.ofNat (cz + 2))  h0 n0 Z0 ) hZ (hw _ (own_w 177 rfl)) (hw _ (own_w 92 rfl)) (by decide) (by decide)) (g := (mkF m 3 #[.val (.int (Int32.ofNat cz)), .val (.int (Int32.ofNat gz)), .val (.int (Int32.ofNat (cz + 2))), .unset] [(.int (Int32.ofNat (cz + 2))), (.int (Int32.ofNat gz)), (.int (Int32.ofNat cz))])) rfl (by rw [hml]; rfl) (argsL := [(.int (Int32.ofNat gz)), (.int (Int32.ofNat (cz + 2)))]) (rest := [(.int (Int32.ofNat cz))]) (lenOf pd_1 rfl) rfl (by show 2 * 0 + _ ≤ _; exact Nat.le_of_eq rfl) (hb hby d30_3) (fun _ _ => ⟨rfl, e0, (by decide : 0 + 0 ≤ _), (by decide : 0 + 0 ≤ _)⟩)
  dsimp only [Pt.U, Pt.locs, Pt.cells, Pt.slots] at X1 lq1 yq1 zq1 st1 hQ1
  subst lq1 yq1 zq1
  obtain ⟨r1, hr1, rfl, N1q, e1⟩ := hQ1
  have N1 := Fr.app N0 N1q
  obtain ⟨fs, hr, hrun, hended, hW, hsame⟩ := X1.leave (v := some (.int (Int32.ofNat (cz + (cz + 2))))) (fun h => by rw [Bd.returns] at h; cases h) (BodyLoose.notSynchronized Bd)
  refine ⟨_, _, pre0 _ ?_, hrun, hended, _, _, rfl, ?_, ⟨_, rfl⟩, hW, hsame.mono (by decide) (by decide)⟩
  · show Steps p.tables e below (s₁.setTop (mkF m 0 #[.val (.int p1), .val (.int p2), .val (.int p3), .unset] [])) _
    rw [hp1]
    show Steps p.tables e below (s₁.setTop (mkF m 0 #[.val (.int (Int32.ofNat cz)), .val (.int p2), .val (.int p3), .unset] [])) _
    rw [hp2]
    show Steps p.tables e below (s₁.setTop (mkF m 0 #[.val (.int (Int32.ofNat cz)), .val (.int (Int32.ofNat gz)), .val (.int p3), .unset] [])) _
    rw [hp3]
    show Steps p.tables e below (s₁.setTop (mkF m 0 #[.val (.int (Int32.ofNat cz)), .val (.int (Int32.ofNat gz)), .val (.int (Int32.ofNat (cz + 2))), .unset] [])) _
    refine XS.iloadN X0.here hx rfl (hb hby d30_0) rfl ?_
    refine XS.iloadN X0.here hx rfl (hb hby d30_1) rfl ?_
    refine XS.iloadN X0.here hx rfl (hb hby d30_2) rfl ?_
    refine st1 _ ?_
    show Steps p.tables e below (T1.setTop (mkF m 6 #[.val (.int (Int32.ofNat cz)), .val (.int (Int32.ofNat gz)), .val (.int (Int32.ofNat (cz + 2))), .unset] [(.int r1), (.int (Int32.ofNat cz))])) _
    rw [(hr1.trans (own_ymax (by omega) hg))]
    show Steps p.tables e below (T1.setTop (mkF m 6 #[.val (.int (Int32.ofNat cz)), .val (.int (Int32.ofNat gz)), .val (.int (Int32.ofNat (cz + 2))), .unset] [(.int (Int32.ofNat (cz + 2))), (.int (Int32.ofNat cz))])) _
    refine XS.iadd X1.here hx rfl (hb hby d30_6) rfl ?_
    show Steps p.tables e below (T1.setTop (mkF m 7 #[.val (.int (Int32.ofNat cz)), .val (.int (Int32.ofNat gz)), .val (.int (Int32.ofNat (cz + 2))), .unset] [(.int ((Int32.ofNat cz) + (Int32.ofNat (cz + 2))))])) _
    rw [(own_yadd (by omega))]
    show Steps p.tables e below (T1.setTop (mkF m 7 #[.val (.int (Int32.ofNat cz)), .val (.int (Int32.ofNat gz)), .val (.int (Int32.ofNat (cz + 2))), .unset] [(.int (Int32.ofNat (cz + (cz + 2))))])) _
    refine XS.istoreN X1.here hx rfl (hb hby d30_7) rfl (l' := #[.val (.int (Int32.ofNat cz)), .val (.int (Int32.ofNat gz)), .val (.int (Int32.ofNat (cz + 2))), .val (.int (Int32.ofNat (cz + (cz + 2))))]) rfl ?_
    refine XS.iconst X1.here hx rfl (hb hby d30_8) ?_
    refine XS.iloadN X1.here hx rfl (hb hby d30_9) rfl ?_
    refine XS.icmpNo X1.here hx rfl (hb hby d30_10) rfl (tlt ((own_ylt (i := 0) (by omega) (by omega)).mpr (by omega))).2.1 ?_
    refine XS.iloadN X1.here hx rfl (hb hby d30_13) rfl ?_
    refine X1.ldcInt hx hown (mvT hZ (hw _ (own_w 178 rfl))) (g := (mkF m 14 #[.val (.int (Int32.ofNat cz)), .val (.int (Int32.ofNat gz)), .val (.int (Int32.ofNat (cz + 2))), .val (.int (Int32.ofNat (cz + (cz + 2))))] [(.int (Int32.ofNat (cz + (cz + 2))))])) rfl (hb hby d30_14) _ ?_
    refine XS.icmpNo X1.here hx rfl (hb hby d30_16) rfl (flt (own_big (by omega))).2.2.1 ?_
    refine XS.iloadN X1.here hx rfl (hb hby d30_19) rfl ?_
    show Steps p.tables e below (T1.setTop (mkF m 20 #[.val (.int (Int32.ofNat cz)), .val (.int (Int32.ofNat gz)), .val (.int (Int32.ofNat (cz + 2))), .val (.int (Int32.ofNat (cz + (cz + 2))))] [(.int (Int32.ofNat (cz + (cz + 2))))])) _
    exact retI X1 hx Bd.returns (hb hby d30_20) hr
  · show QrNL Z p1 p2 p3 cz gz h0 n0 _ T1.heap _
    exact ⟨_, rfl, rfl, N1, e1⟩
theorem d22_0 : decode jdk_68_method_2_code 0 = .ok (.aload_n 0, 1) := by decide +kernel
theorem d22_1 : decode jdk_68_method_2_code 1 = .ok (.invokespecial 3, 3) := by decide +kernel
theorem d22_4 : decode jdk_68_method_2_code 4 = .ok (.getstatic 18, 3) := by decide +kernel
theorem d22_7 : decode jdk_68_method_2_code 7 = .ok (.ifCond .eq 18, 3) := by decide +kernel
theorem d22_10 : decode jdk_68_method_2_code 10 = .ok (.aload_n 0, 1) := by decide +kernel
theorem d22_11 : decode jdk_68_method_2_code 11 = .ok (.iload_n 1, 1) := by decide +kernel
theorem d22_12 : decode jdk_68_method_2_code 12 = .ok (.newarray .byte, 2) := by decide +kernel
theorem d22_14 : decode jdk_68_method_2_code 14 = .ok (.putfield 15, 3) := by decide +kernel
theorem d22_17 : decode jdk_68_method_2_code 17 = .ok (.aload_n 0, 1) := by decide +kernel
theorem d22_18 : decode jdk_68_method_2_code 18 = .ok (.iconst 0, 1) := by decide +kernel
theorem d22_19 : decode jdk_68_method_2_code 19 = .ok (.putfield 22, 3) := by decide +kernel
theorem d22_22 : decode jdk_68_method_2_code 22 = .ok (.goto 16, 3) := by decide +kernel
theorem d22_38 : decode jdk_68_method_2_code 38 = .ok (.return_, 1) := by decide +kernel
theorem pn_22 : plainName "java/lang/AbstractStringBuilder" = true := by first | (simp [plainName, overriddenIn]; done) | decide +kernel
theorem ef_rB1 (m : MethodId) (a1 : Addr) : entryFrame m #[(.ref a1), (.int (16 : Int32))] 2 = mkF m 0 #[.val (.ref a1), .val (.int (16 : Int32))] [] := by first | (simp [entryFrame, mkF, argsToLocals, Value.category]; done) | rfl
def QrB1 (Z : State) (a1 : Addr) (G1 : Int32) (h0 : Heap) (n0 : Nat) (v : Option Value) (h : Heap) (L : List Loc) : Prop := ∃ (vb : Addr) (kb : ClassId), v = none ∧ Fr n0 L ∧ Keep h0 h [a1] ∧ n0 ≤ vb ∧ h0.size ≤ vb ∧ a1 ≠ vb ∧ Exa Z h a1 "java/lang/StringBuilder" ∧ Fld Z h a1 "java/lang/AbstractStringBuilder" "value" "[B" (.ref vb) ∧ Fld Z h a1 "java/lang/AbstractStringBuilder" "coder" "B" (.int (0 : Int32)) ∧ Fld Z h a1 "java/lang/AbstractStringBuilder" "count" "I" (.int (0 : Int32)) ∧ Arv Z h vb kb .byte (16 : Int32) ([(.int (0 : Int32)), (.int (0 : Int32)), (.int (0 : Int32)), (.int (0 : Int32)), (.int (0 : Int32)), (.int (0 : Int32)), (.int (0 : Int32)), (.int (0 : Int32)), (.int (0 : Int32)), (.int (0 : Int32)), (.int (0 : Int32)), (.int (0 : Int32)), (.int (0 : Int32)), (.int (0 : Int32)), (.int (0 : Int32)), (.int (0 : Int32))]) (.int (0 : Int32))
set_option maxRecDepth 65536 in
set_option maxHeartbeats 40000000 in
theorem rB1 (l : Launch) (Z : State) (a0 : Array Value) (hw : ∀ d ∈ tables_1, d.before a0 Z = true) (ws : List Jvm.Cond) (a1 : Addr) (G1 : Int32) (h0 : Heap) (n0 : Nat) (Z0 : n0 ≤ h0.size) (X00 : Old Z n0 h0) (O_2 : Sta Z Z.heap "java/lang/String" "COMPACT_STRINGS" "Z" (.int G1)) (P5 : ¬ (G1 = (0 : Int32))) (E : Exa Z h0 a1 "java/lang/StringBuilder") (FV : Fld Z h0 a1 "java/lang/AbstractStringBuilder" "value" "[B" .null) (FC : Fld Z h0 a1 "java/lang/AbstractStringBuilder" "coder" "B" (.int (0 : Int32))) (FN : Fld Z h0 a1 "java/lang/AbstractStringBuilder" "count" "I" (.int (0 : Int32))) (ga : n0 ≤ a1) :
    MetFree l (⟨"java/lang/AbstractStringBuilder", "<init>", "(I)V"⟩ : MethodName) (head1 (Jvm.Cond.code (⟨"java/lang/AbstractStringBuilder", "<init>", "(I)V"⟩ : MethodName) jdk_68_method_2_code 2 none :: ws) ({ frames := 1, cells := 1, slots := 16, locals := 12 } : Room)) (fun a U => a = #[(.ref a1), (.int (16 : Int32))] ∧ Z.Warmed39 U.vm ∧ U.heap = h0) (fun _ _ _ _ _ => True) (fun _ U o U' => ∃ v L, o = .returned v ∧ QrB1 Z a1 G1 h0 n0 v U'.heap L ∧ FrameEnd U o U' L ({ frames := 1, cells := 1, slots := 16, locals := 12 } : Room).cells ({ frames := 1, cells := 1, slots := 16, locals := 12 } : Room).slots) := by
  refine MetFree.of_bodySF (plainFor_of_name pn_22) hisR ?_
  intro p e s m args below meth c s₁ Bd hml0 hP hK
  obtain ⟨rfl, hZ, hh⟩ := hP
  have hx := Bd.exec
  have hby := Bd.bytes
  have hml : c.maxLocals = 2 := hml0
  have hown : s.vm.findClass "java/lang/AbstractStringBuilder" = some m.cls := findClass_of_methodNamed Bd.named
  have hnm := (name_of_methodNamed Bd.named Bd.method).1
  have X0 : Stand p l e ({ frames := 1, cells := 1, slots := 16, locals := 12 } : Room) s m #[(.ref a1), (.int (16 : Int32))] below meth c s₁ [] 0 0 := Stand.of_body Bd
  have e0 : s₁.heap = h0 := by rw [← hh, Bd.state]; rfl
  have N0 := Fr.nil n0
  have pre0 : ∀ t, Steps p.tables e below (s₁.setTop (mkF m 0 #[.val (.ref a1), .val (.int (16 : Int32))] [])) t → Steps p.tables e below (s₁.setTop (entryFrame m #[(.ref a1), (.int (16 : Int32))] 2)) t := fun t k => castTop (ef_rB1 m a1) k
  obtain ⟨T1, X1, e1, st1⟩ := initO X0 hx hZ hown (hw _ (own_w 121 rfl)) (hw _ (own_w 29 rfl)) (hw _ (own_w 30 rfl)) e0 (g := (mkF m 1 #[.val (.ref a1), .val (.int (16 : Int32))] [(.ref a1)])) rfl (by rw [hml]; rfl) rfl (hb hby d22_1) (by decide) (W := 0) (by show 2 * 0 + _ ≤ _; exact Nat.le_of_eq rfl) (by decide)
  obtain ⟨T2, X2, e2, st2⟩ := getS2 X1 hx hZ hown (host := "") (Or.inl (hw _ (own_w 122 rfl))) Via.refl e1 (O_2.ext X00.2) (g := (mkF m 4 #[.val (.ref a1), .val (.int (16 : Int32))] [])) rfl (hb hby d22_4)
  obtain ⟨T3, h3, ck3, X3, e3, E3, A3, st3⟩ := newP X2 hx hZ (hw _ (own_w 7 rfl)) e2 (g := (mkF m 12 #[.val (.ref a1), .val (.int (16 : Int32))] [(.int (16 : Int32)), (.ref a1)])) rfl (hb hby d22_12) rfl (by decide) (cap := 16) (by decide) (by decide) (by decide) (by decide)
  obtain ⟨b3o, g3⟩ : ∃ z, z = h0.size := ⟨_, rfl⟩
  have b3 : n0 ≤ b3o := Nat.le_trans Z0 (Nat.le_of_eq g3.symm)
  have bk3 : h0.size ≤ b3o := Nat.le_trans (Keep.refl h0 [a1]).1 (Nat.le_of_eq g3.symm)
  have ne4 : a1 ≠ b3o := Nat.ne_of_lt (Nat.lt_of_lt_of_le E.lt (Nat.le_of_eq g3.symm))
  rw [← g3] at A3 st3
  have Z3 : n0 ≤ h3.size := Nat.le_trans Z0 E3.1
  have K3 : Keep h0 h3 [a1] := (Keep.refl h0 [a1]).ext E3
  have V3 : Arv Z h3 b3o ck3 .byte (16 : Int32) [(.int (0 : Int32)), (.int (0 : Int32)), (.int (0 : Int32)), (.int (0 : Int32)), (.int (0 : Int32)), (.int (0 : Int32)), (.int (0 : Int32)), (.int (0 : Int32)), (.int (0 : Int32)), (.int (0 : Int32)), (.int (0 : Int32)), (.int (0 : Int32)), (.int (0 : Int32)), (.int (0 : Int32)), (.int (0 : Int32)), (.int (0 : Int32))] (.int (0 : Int32)) := (Arv.new A3 (by decide)).pad (pad_rep [] (.int (0 : Int32)) 16)
  have f5 := (E.ext E3)
  have f6 := (FV.ext E3)
  obtain ⟨T7, h7, X7, e7, W7, st7⟩ := putF X3 hx hZ hown (host := "") (Or.inl (hw _ (own_w 123 rfl))) Via.refl e3 f6 f5 (Or.inl (hw _ (own_w 124 rfl))) (hw _ (own_w 110 rfl)) (ty := (.array .byte)) (by decide) rfl rfl (g := (mkF m 14 #[.val (.ref a1), .val (.int (16 : Int32))] [(.ref b3o), (.ref a1)])) rfl rfl (hb hby d22_14)
  have N7 := Fr.snoc X7 N0 ga
  have Z7 : n0 ≤ h7.size := by rw [W7.size]; exact Z3
  have K7 : Keep h0 h7 [a1] := K3.wr W7 (Or.inl (own_w 0 rfl))
  have Fw7 := f6.same W7
  have f8 := (f5.wr W7)
  have f9 := ((FC.ext E3).other W7 (Or.inr (slot_ne (Or.inl (hw _ (own_w 126 rfl))) (Or.inl (hw _ (own_w 124 rfl))) (by decide) (t := .byte) (t' := (.array .byte)) (by decide) (by decide))))
  obtain ⟨T10, h10, X10, e10, W10, st10⟩ := putFN X7 hx hZ hown (hw _ (own_w 125 rfl)) Via.refl e7 f9 f8 (Or.inl (hw _ (own_w 126 rfl))) (hw _ (own_w 110 rfl)) (ty := .byte) (v' := (.int (nar .byte (0 : Int32)))) (by decide) rfl (fits_nar_byte _) (g := (mkF m 19 #[.val (.ref a1), .val (.int (16 : Int32))] [(.int (0 : Int32)), (.ref a1)])) rfl rfl (hb hby d22_19)
  have N10 := Fr.snoc X10 N7 ga
  have Z10 : n0 ≤ h10.size := by rw [W10.size]; exact Z7
  have K10 : Keep h0 h10 [a1] := K7.wr W10 (Or.inl (own_w 0 rfl))
  have Fw10 := f9.same W10
  obtain ⟨fs, hr, hrun, hended, hW, hsame⟩ := X10.leave (v := none) (fun _ => rfl) (BodyLoose.notSynchronized Bd)
  refine ⟨_, _, pre0 _ ?_, hrun, hended, _, _, rfl, ?_, ⟨_, rfl⟩, hW, hsame.mono (by decide) (by decide)⟩
  · show Steps p.tables e below (s₁.setTop (mkF m 0 #[.val (.ref a1), .val (.int (16 : Int32))] [])) _
    refine XS.aloadN X0.here hx rfl (hb hby d22_0) rfl rfl ?_
    refine st1 _ ?_
    refine st2 _ ?_
    refine XS.ifNo X2.here hx rfl (hb hby d22_7) rfl ((if0 _ _).trans (feq P5).1) ?_
    refine XS.aloadN X2.here hx rfl (hb hby d22_10) rfl rfl ?_
    refine XS.iloadN X2.here hx rfl (hb hby d22_11) rfl ?_
    refine st3 _ ?_
    refine st7 _ ?_
    refine XS.aloadN X7.here hx rfl (hb hby d22_17) rfl rfl ?_
    refine XS.iconst X7.here hx rfl (hb hby d22_18) ?_
    refine st10 _ ?_
    refine XS.goto X10.here hx rfl (pc0 := 22) (pc' := 38) rfl (hb hby d22_22) (by decide) (by decide) ?_
    show Steps p.tables e below (T10.setTop (mkF m 38 #[.val (.ref a1), .val (.int (16 : Int32))] [])) _
    exact X10.returnOut hx Bd.returns (hb hby d22_38) hr
  · show QrB1 Z a1 G1 h0 n0 _ T10.heap _
    have f11 := (f8.wr W10)
    have f12 := (Fw7.other W10 (Or.inr (slot_ne (Or.inl (hw _ (own_w 124 rfl))) (Or.inl (hw _ (own_w 126 rfl))) (by decide) (t := (.array .byte)) (t' := .byte) (by decide) (by decide))))
    have f13 := (((FN.ext E3).other W7 (Or.inr (slot_ne (Or.inl (hw _ (own_w 140 rfl))) (Or.inl (hw _ (own_w 124 rfl))) (by decide) (t := .int) (t' := (.array .byte)) (by decide) (by decide)))).other W10 (Or.inr (slot_ne (Or.inl (hw _ (own_w 140 rfl))) (Or.inl (hw _ (own_w 126 rfl))) (by decide) (t := .int) (t' := .byte) (by decide) (by decide))))
    have f14 := ((V3.other W7 (Ne.symm ne4)).other W10 (Ne.symm ne4))
    have fc := Fw10
    rw [own_nb0] at fc
    rw [e10]
    exact ⟨b3o, _, rfl, N10, K10, b3, bk3, ne4, f11, f12, fc, f13, f14⟩
theorem pd_2 : parseMethodDescriptor "(I)V" = some ⟨[.int], none⟩ := by decide +kernel
theorem d21_0 : decode jdk_67_method_1_code 0 = .ok (.aload_n 0, 1) := by decide +kernel
theorem d21_1 : decode jdk_67_method_1_code 1 = .ok (.bipush 16, 2) := by decide +kernel
theorem d21_3 : decode jdk_67_method_1_code 3 = .ok (.invokespecial 1, 3) := by decide +kernel
theorem d21_6 : decode jdk_67_method_1_code 6 = .ok (.return_, 1) := by decide +kernel
theorem pn_21 : plainName "java/lang/StringBuilder" = true := by first | (simp [plainName, overriddenIn]; done) | decide +kernel
theorem ef_rB0 (m : MethodId) (a1 : Addr) : entryFrame m #[(.ref a1)] 1 = mkF m 0 #[.val (.ref a1)] [] := by first | (simp [entryFrame, mkF, argsToLocals, Value.category]; done) | rfl
def QrB0 (Z : State) (a1 : Addr) (G1 : Int32) (h0 : Heap) (n0 : Nat) (v : Option Value) (h : Heap) (L : List Loc) : Prop := ∃ (vb : Addr) (kb : ClassId), v = none ∧ Fr n0 L ∧ Keep h0 h [a1] ∧ n0 ≤ vb ∧ h0.size ≤ vb ∧ a1 ≠ vb ∧ Exa Z h a1 "java/lang/StringBuilder" ∧ Fld Z h a1 "java/lang/AbstractStringBuilder" "value" "[B" (.ref vb) ∧ Fld Z h a1 "java/lang/AbstractStringBuilder" "coder" "B" (.int (0 : Int32)) ∧ Fld Z h a1 "java/lang/AbstractStringBuilder" "count" "I" (.int (0 : Int32)) ∧ Arv Z h vb kb .byte (16 : Int32) ([(.int (0 : Int32)), (.int (0 : Int32)), (.int (0 : Int32)), (.int (0 : Int32)), (.int (0 : Int32)), (.int (0 : Int32)), (.int (0 : Int32)), (.int (0 : Int32)), (.int (0 : Int32)), (.int (0 : Int32)), (.int (0 : Int32)), (.int (0 : Int32)), (.int (0 : Int32)), (.int (0 : Int32)), (.int (0 : Int32)), (.int (0 : Int32))]) (.int (0 : Int32))
set_option maxRecDepth 65536 in
set_option maxHeartbeats 40000000 in
theorem rB0 (l : Launch) (Z : State) (a0 : Array Value) (hw : ∀ d ∈ tables_1, d.before a0 Z = true) (ws : List Jvm.Cond) (a1 : Addr) (G1 : Int32) (h0 : Heap) (n0 : Nat) (Z0 : n0 ≤ h0.size) (X00 : Old Z n0 h0) (O_2 : Sta Z Z.heap "java/lang/String" "COMPACT_STRINGS" "Z" (.int G1)) (P5 : ¬ (G1 = (0 : Int32))) (E : Exa Z h0 a1 "java/lang/StringBuilder") (FV : Fld Z h0 a1 "java/lang/AbstractStringBuilder" "value" "[B" .null) (FC : Fld Z h0 a1 "java/lang/AbstractStringBuilder" "coder" "B" (.int (0 : Int32))) (FN : Fld Z h0 a1 "java/lang/AbstractStringBuilder" "count" "I" (.int (0 : Int32))) (ga : n0 ≤ a1) :
    MetFree l (⟨"java/lang/StringBuilder", "<init>", "()V"⟩ : MethodName) (head1 (Jvm.Cond.code (⟨"java/lang/StringBuilder", "<init>", "()V"⟩ : MethodName) jdk_67_method_1_code 1 none :: ws) ({ frames := 2, cells := 1, slots := 16, locals := 25 } : Room)) (fun a U => a = #[(.ref a1)] ∧ Z.Warmed39 U.vm ∧ U.heap = h0) (fun _ _ _ _ _ => True) (fun _ U o U' => ∃ v L, o = .returned v ∧ QrB0 Z a1 G1 h0 n0 v U'.heap L ∧ FrameEnd U o U' L ({ frames := 2, cells := 1, slots := 16, locals := 25 } : Room).cells ({ frames := 2, cells := 1, slots := 16, locals := 25 } : Room).slots) := by
  refine MetFree.of_bodySF (plainFor_of_name pn_21) hisR ?_
  intro p e s m args below meth c s₁ Bd hml0 hP hK
  obtain ⟨rfl, hZ, hh⟩ := hP
  have hx := Bd.exec
  have hby := Bd.bytes
  have hml : c.maxLocals = 1 := hml0
  have hown : s.vm.findClass "java/lang/StringBuilder" = some m.cls := findClass_of_methodNamed Bd.named
  have hnm := (name_of_methodNamed Bd.named Bd.method).1
  have X0 : Stand p l e ({ frames := 2, cells := 1, slots := 16, locals := 25 } : Room) s m #[(.ref a1)] below meth c s₁ [] 0 0 := Stand.of_body Bd
  have e0 : s₁.heap = h0 := by rw [← hh, Bd.state]; rfl
  have N0 := Fr.nil n0
  have pre0 : ∀ t, Steps p.tables e below (s₁.setTop (mkF m 0 #[.val (.ref a1)] [])) t → Steps p.tables e below (s₁.setTop (entryFrame m #[(.ref a1)] 1)) t := fun t k => castTop (ef_rB0 m a1) k
  obtain ⟨_, _, ⟨T1, Lq1, kq1, nq1⟩, -, X1, ⟨Lc1, hQ1, lq1, yq1, zq1⟩, st1⟩ := X0.specialBack hx (y := (⟨"java/lang/AbstractStringBuilder", "<init>", "(I)V"⟩ : MethodName)) rfl hown (mvT hZ (hw _ (own_w 115 rfl))) (mvT hZ (hw _ (own_w 116 rfl))) (mvT hZ (hw _ (own_w 120 rfl))) (by decide) (backOf (W := 0) (rB1 l Z a0 hw [] a1 G1 h0 n0 Z0 X00 O_2 P5 E FV FC FN ga) hZ (hw _ (own_w 120 rfl)) (hw _ (own_w 119 rfl)) (by decide) (by decide)) (g := (mkF m 3 #[.val (.ref a1)] [(.int (16 : Int32)), (.ref a1)])) rfl (by rw [hml]; rfl) (Steps.refl _) (a := a1) (argsL := [(.int (16 : Int32))]) (rest := []) (lenOf pd_2 rfl) rfl (by show 2 * 0 + _ ≤ _; exact Nat.le_of_eq rfl) (hb hby d21_3) (fun _ _ => ⟨rfl, e0, (by decide : 0 + 1 ≤ _), (by decide : 0 + 16 ≤ _)⟩)
  dsimp only [Pt.U, Pt.locs, Pt.cells, Pt.slots] at X1 lq1 yq1 zq1 st1 hQ1
  subst lq1 yq1 zq1
  obtain ⟨vb1, kb1, rfl, N1q, KC1, gb1, gk1, nab1, E1', FV1', FC1', FN1', AV1'⟩ := hQ1
  have N1 := Fr.app N0 N1q
  have Z1 : n0 ≤ T1.heap.size := Nat.le_trans Z0 KC1.1
  have K1 : Keep h0 T1.heap [a1] := (Keep.refl h0 [a1]).trans KC1 (allS (Or.inl (own_w 0 rfl)) all0)
  obtain ⟨fs, hr, hrun, hended, hW, hsame⟩ := X1.leave (v := none) (fun _ => rfl) (BodyLoose.notSynchronized Bd)
  refine ⟨_, _, pre0 _ ?_, hrun, hended, _, _, rfl, ?_, ⟨_, rfl⟩, hW, hsame.mono (by decide) (by decide)⟩
  · show Steps p.tables e below (s₁.setTop (mkF m 0 #[.val (.ref a1)] [])) _
    refine XS.aloadN X0.here hx rfl (hb hby d21_0) rfl rfl ?_
    refine XS.bipush X0.here hx rfl (hb hby d21_1) ?_
    refine st1.trans ?_
    show Steps p.tables e below (T1.setTop (mkF m 6 #[.val (.ref a1)] [])) _
    exact X1.returnOut hx Bd.returns (hb hby d21_6) hr
  · show QrB0 Z a1 G1 h0 n0 _ T1.heap _
    have fc := FC1'
    exact ⟨vb1, _, rfl, N1, K1, gb1, (Nat.le_trans (Keep.refl h0 [a1]).1 gk1), nab1, E1', FV1', fc, FN1', AV1'⟩
theorem pd_3 : parseMethodDescriptor "(III)I" = some ⟨[.int, .int, .int], some .int⟩ := by decide +kernel
theorem d29_0 : decode jdk_68_method_10_code 0 = .ok (.aload_n 0, 1) := by decide +kernel
theorem d29_1 : decode jdk_68_method_10_code 1 = .ok (.getfield 15, 3) := by decide +kernel
theorem d29_4 : decode jdk_68_method_10_code 4 = .ok (.arraylength, 1) := by decide +kernel
theorem d29_5 : decode jdk_68_method_10_code 5 = .ok (.istore_n 2, 1) := by decide +kernel
theorem d29_6 : decode jdk_68_method_10_code 6 = .ok (.iload_n 1, 1) := by decide +kernel
theorem d29_7 : decode jdk_68_method_10_code 7 = .ok (.aload_n 0, 1) := by decide +kernel
theorem d29_8 : decode jdk_68_method_10_code 8 = .ok (.getfield 22, 3) := by decide +kernel
theorem d29_11 : decode jdk_68_method_10_code 11 = .ok (.ishl, 1) := by decide +kernel
theorem d29_12 : decode jdk_68_method_10_code 12 = .ok (.istore_n 3, 1) := by decide +kernel
theorem d29_13 : decode jdk_68_method_10_code 13 = .ok (.iload_n 3, 1) := by decide +kernel
theorem d29_14 : decode jdk_68_method_10_code 14 = .ok (.iload_n 2, 1) := by decide +kernel
theorem d29_15 : decode jdk_68_method_10_code 15 = .ok (.isub, 1) := by decide +kernel
theorem d29_16 : decode jdk_68_method_10_code 16 = .ok (.istore 4, 2) := by decide +kernel
theorem d29_18 : decode jdk_68_method_10_code 18 = .ok (.iload_n 2, 1) := by decide +kernel
theorem d29_19 : decode jdk_68_method_10_code 19 = .ok (.iload 4, 2) := by decide +kernel
theorem d29_21 : decode jdk_68_method_10_code 21 = .ok (.iload_n 2, 1) := by decide +kernel
theorem d29_22 : decode jdk_68_method_10_code 22 = .ok (.iconst 2, 1) := by decide +kernel
theorem d29_23 : decode jdk_68_method_10_code 23 = .ok (.aload_n 0, 1) := by decide +kernel
theorem d29_24 : decode jdk_68_method_10_code 24 = .ok (.getfield 22, 3) := by decide +kernel
theorem d29_27 : decode jdk_68_method_10_code 27 = .ok (.ishl, 1) := by decide +kernel
theorem d29_28 : decode jdk_68_method_10_code 28 = .ok (.iadd, 1) := by decide +kernel
theorem d29_29 : decode jdk_68_method_10_code 29 = .ok (.invokestatic 114, 3) := by decide +kernel
theorem d29_32 : decode jdk_68_method_10_code 32 = .ok (.istore 5, 2) := by decide +kernel
theorem d29_34 : decode jdk_68_method_10_code 34 = .ok (.iload 5, 2) := by decide +kernel
theorem d29_36 : decode jdk_68_method_10_code 36 = .ok (.ldc 39, 2) := by decide +kernel
theorem d29_38 : decode jdk_68_method_10_code 38 = .ok (.if_icmp .ne 13, 3) := by decide +kernel
theorem d29_51 : decode jdk_68_method_10_code 51 = .ok (.iload 5, 2) := by decide +kernel
theorem d29_53 : decode jdk_68_method_10_code 53 = .ok (.aload_n 0, 1) := by decide +kernel
theorem d29_54 : decode jdk_68_method_10_code 54 = .ok (.getfield 22, 3) := by decide +kernel
theorem d29_57 : decode jdk_68_method_10_code 57 = .ok (.ishr, 1) := by decide +kernel
theorem d29_58 : decode jdk_68_method_10_code 58 = .ok (.ireturn, 1) := by decide +kernel
theorem pn_29 : plainName "java/lang/AbstractStringBuilder" = true := by first | (simp [plainName, overriddenIn]; done) | decide +kernel
theorem ef_rNC (m : MethodId) (a1 : Addr) (p2 : Int32) : entryFrame m #[(.ref a1), (.int p2)] 6 = mkF m 0 #[.val (.ref a1), .val (.int p2), .unset, .unset, .unset, .unset] [] := by first | (simp [entryFrame, mkF, argsToLocals, Value.category]; done) | rfl
def QrNC (Z : State) (a1 : Addr) (p2 : Int32) (vb : Addr) (kb : ClassId) (cz : Nat) (nz : Nat) (vl : List Value) (az : Nat) (h0 : Heap) (n0 : Nat) (v : Option Value) (h : Heap) (L : List Loc) : Prop := ∃ z : Int32, z = ((Int32.ofNat (cz + (cz + 2)))) ∧ v = some (.int z) ∧ Fr n0 L ∧ h = h0
set_option maxRecDepth 65536 in
set_option maxHeartbeats 40000000 in
theorem rNC (l : Launch) (Z : State) (a0 : Array Value) (hw : ∀ d ∈ tables_1, d.before a0 Z = true) (ws : List Jvm.Cond) (a1 : Addr) (p2 : Int32) (vb : Addr) (kb : ClassId) (cz : Nat) (nz : Nat) (vl : List Value) (az : Nat) (h0 : Heap) (n0 : Nat) (Z0 : n0 ≤ h0.size) (E : Exa Z h0 a1 "java/lang/StringBuilder") (FV : Fld Z h0 a1 "java/lang/AbstractStringBuilder" "value" "[B" (.ref vb)) (FC : Fld Z h0 a1 "java/lang/AbstractStringBuilder" "coder" "B" (.int (0 : Int32))) (FN : Fld Z h0 a1 "java/lang/AbstractStringBuilder" "count" "I" (.int (Int32.ofNat nz))) (AV : Arv Z h0 vb kb .byte (Int32.ofNat cz) (vl) (.int (0 : Int32))) (hvs : vl.length = cz) (ga : n0 ≤ a1) (gb : n0 ≤ vb) (nab : a1 ≠ vb) (hc : cz < 60) (hn : nz < 1000) (hp : p2 = Int32.ofNat az) (ha : az < 1000) (hca : cz < az) (hag : az - cz ≤ cz + 2) :
    MetFree l (⟨"java/lang/AbstractStringBuilder", "newCapacity", "(I)I"⟩ : MethodName) (head1 (Jvm.Cond.code (⟨"java/lang/AbstractStringBuilder", "newCapacity", "(I)I"⟩ : MethodName) jdk_68_method_10_code 6 (some .int) :: ws) ({ frames := 2, cells := 0, slots := 0, locals := 29 } : Room)) (fun a U => a = #[(.ref a1), (.int p2)] ∧ Z.Warmed39 U.vm ∧ U.heap = h0) (fun _ _ _ _ _ => True) (fun _ U o U' => ∃ v L, o = .returned v ∧ QrNC Z a1 p2 vb kb cz nz vl az h0 n0 v U'.heap L ∧ FrameEnd U o U' L ({ frames := 2, cells := 0, slots := 0, locals := 29 } : Room).cells ({ frames := 2, cells := 0, slots := 0, locals := 29 } : Room).slots) := by
  refine MetFree.of_bodySF (plainFor_of_name pn_29) hisR ?_
  intro p e s m args below meth c s₁ Bd hml0 hP hK
  obtain ⟨rfl, hZ, hh⟩ := hP
  have hx := Bd.exec
  have hby := Bd.bytes
  have hml : c.maxLocals = 6 := hml0
  have hown : s.vm.findClass "java/lang/AbstractStringBuilder" = some m.cls := findClass_of_methodNamed Bd.named
  have hnm := (name_of_methodNamed Bd.named Bd.method).1
  have X0 : Stand p l e ({ frames := 2, cells := 0, slots := 0, locals := 29 } : Room) s m #[(.ref a1), (.int p2)] below meth c s₁ [] 0 0 := Stand.of_body Bd
  have e0 : s₁.heap = h0 := by rw [← hh, Bd.state]; rfl
  have N0 := Fr.nil n0
  have pre0 : ∀ t, Steps p.tables e below (s₁.setTop (mkF m 0 #[.val (.ref a1), .val (.int p2), .unset, .unset, .unset, .unset] [])) t → Steps p.tables e below (s₁.setTop (entryFrame m #[(.ref a1), (.int p2)] 6)) t := fun t k => castTop (ef_rNC m a1 p2) k
  obtain ⟨T1, X1, e1, st1⟩ := getF X0 hx hZ hown (host := "") (Or.inl (hw _ (own_w 123 rfl))) Via.refl e0 FV (g := (mkF m 1 #[.val (.ref a1), .val (.int (Int32.ofNat az)), .unset, .unset, .unset, .unset] [(.ref a1)])) rfl rfl (hb hby d29_1)
  obtain ⟨cl2, Ar2, qk2, Sz2, Nn2, Hh2, Gg2⟩ := id (AV)
  obtain ⟨T3, X3, e3, st3⟩ := getF X1 hx hZ hown (host := "") (Or.inl (hw _ (own_w 125 rfl))) Via.refl e1 FC (g := (mkF m 8 #[.val (.ref a1), .val (.int (Int32.ofNat az)), .val (.int (Int32.ofNat cz)), .unset, .unset, .unset] [(.ref a1), (.int (Int32.ofNat az))])) rfl rfl (hb hby d29_8)
  obtain ⟨T4, X4, e4, st4⟩ := getF X3 hx hZ hown (host := "") (Or.inl (hw _ (own_w 125 rfl))) Via.refl e3 FC (g := (mkF m 24 #[.val (.ref a1), .val (.int (Int32.ofNat az)), .val (.int (Int32.ofNat cz)), .val (.int (Int32.ofNat az)), .val (.int (Int32.ofNat (az - cz))), .unset] [(.ref a1), (.int (2 : Int32)), (.int (Int32.ofNat cz)), (.int (Int32.ofNat (az - cz))), (.int (Int32.ofNat cz))])) rfl rfl (hb hby d29_24)
  obtain ⟨_, _, ⟨T5, Lq5, kq5, nq5⟩, -, X5, ⟨Lc5, hQ5, lq5, yq5, zq5⟩, st5⟩ := Jvm.LawKit.callS X4 hx (y := (⟨"jdk/internal/util/ArraysSupport", "newLength", "(III)I"⟩ : MethodName)) hown (mvT hZ (hw _ (own_w 171 rfl))) (mvT hZ (hw _ (own_w 172 rfl))) (mvT hZ (hw _ (own_w 173 rfl))) (mvT hZ (hw _ (own_w 174 rfl))) (by decide) (backOf (W := 0) (rNL l Z a0 hw [] (Int32.ofNat cz) (Int32.ofNat (az - cz)) (Int32.ofNat (cz + 2)) cz (az - cz) h0 n0 Z0 rfl rfl rfl (by omega) (by omega)) hZ (hw _ (own_w 174 rfl)) (hw _ (own_w 173 rfl)) (by decide) (by decide)) (g := (mkF m 29 #[.val (.ref a1), .val (.int (Int32.ofNat az)), .val (.int (Int32.ofNat cz)), .val (.int (Int32.ofNat az)), .val (.int (Int32.ofNat (az - cz))), .unset] [(.int (Int32.ofNat (cz + 2))), (.int (Int32.ofNat (az - cz))), (.int (Int32.ofNat cz))])) rfl (by rw [hml]; rfl) (argsL := [(.int (Int32.ofNat cz)), (.int (Int32.ofNat (az - cz))), (.int (Int32.ofNat (cz + 2)))]) (rest := []) (lenOf pd_3 rfl) rfl (by show 2 * 0 + _ ≤ _; exact Nat.le_of_eq rfl) (hb hby d29_29) (fun _ _ => ⟨rfl, e4, (by decide : 0 + 0 ≤ _), (by decide : 0 + 0 ≤ _)⟩)
  dsimp only [Pt.U, Pt.locs, Pt.cells, Pt.slots] at X5 lq5 yq5 zq5 st5 hQ5
  subst lq5 yq5 zq5
  obtain ⟨r5, hr5, rfl, N5q, e5⟩ := hQ5
  have N5 := Fr.app N0 N5q
  obtain ⟨T6, X6, e6, st6⟩ := getF X5 hx hZ hown (host := "") (Or.inl (hw _ (own_w 125 rfl))) Via.refl e5 FC (g := (mkF m 54 #[.val (.ref a1), .val (.int (Int32.ofNat az)), .val (.int (Int32.ofNat cz)), .val (.int (Int32.ofNat az)), .val (.int (Int32.ofNat (az - cz))), .val (.int (Int32.ofNat (cz + (cz + 2))))] [(.ref a1), (.int (Int32.ofNat (cz + (cz + 2))))])) rfl rfl (hb hby d29_54)
  obtain ⟨fs, hr, hrun, hended, hW, hsame⟩ := X6.leave (v := some (.int ((Int32.ofNat (cz + (cz + 2))) >>> ((0 : Int32) &&& 31)))) (fun h => by rw [Bd.returns] at h; cases h) (BodyLoose.notSynchronized Bd)
  refine ⟨_, _, pre0 _ ?_, hrun, hended, _, _, rfl, ?_, ⟨_, rfl⟩, hW, hsame.mono (by decide) (by decide)⟩
  · show Steps p.tables e below (s₁.setTop (mkF m 0 #[.val (.ref a1), .val (.int p2), .unset, .unset, .unset, .unset] [])) _
    rw [hp]
    show Steps p.tables e below (s₁.setTop (mkF m 0 #[.val (.ref a1), .val (.int (Int32.ofNat az)), .unset, .unset, .unset, .unset] [])) _
    refine XS.aloadN X0.here hx rfl (hb hby d29_0) rfl rfl ?_
    refine st1 _ ?_
    refine X1.arraylength hx (by rw [e1]; exact Ar2.1) (State.isArrayOf_alike hZ.alike Ar2.2.1) (g := (mkF m 4 #[.val (.ref a1), .val (.int (Int32.ofNat az)), .unset, .unset, .unset, .unset] [(.ref vb)])) rfl rfl (hb hby d29_4) _ ?_
    rw [len_of Sz2 Nn2]
    show Steps p.tables e below (T1.setTop (mkF m 5 #[.val (.ref a1), .val (.int (Int32.ofNat az)), .unset, .unset, .unset, .unset] [(.int (Int32.ofNat cz))])) _
    refine XS.istoreN X1.here hx rfl (hb hby d29_5) rfl (l' := #[.val (.ref a1), .val (.int (Int32.ofNat az)), .val (.int (Int32.ofNat cz)), .unset, .unset, .unset]) rfl ?_
    refine XS.iloadN X1.here hx rfl (hb hby d29_6) rfl ?_
    refine XS.aloadN X1.here hx rfl (hb hby d29_7) rfl rfl ?_
    refine st3 _ ?_
    refine XS.ishl X3.here hx rfl (hb hby d29_11) rfl ?_
    show Steps p.tables e below (T3.setTop (mkF m 12 #[.val (.ref a1), .val (.int (Int32.ofNat az)), .val (.int (Int32.ofNat cz)), .unset, .unset, .unset] [(.int ((Int32.ofNat az) <<< ((0 : Int32) &&& 31)))])) _
    rw [(own_sl0 _)]
    show Steps p.tables e below (T3.setTop (mkF m 12 #[.val (.ref a1), .val (.int (Int32.ofNat az)), .val (.int (Int32.ofNat cz)), .unset, .unset, .unset] [(.int (Int32.ofNat az))])) _
    refine XS.istoreN X3.here hx rfl (hb hby d29_12) rfl (l' := #[.val (.ref a1), .val (.int (Int32.ofNat az)), .val (.int (Int32.ofNat cz)), .val (.int (Int32.ofNat az)), .unset, .unset]) rfl ?_
    refine XS.iloadN X3.here hx rfl (hb hby d29_13) rfl ?_
    refine XS.iloadN X3.here hx rfl (hb hby d29_14) rfl ?_
    refine XS.isub X3.here hx rfl (hb hby d29_15) rfl ?_
    show Steps p.tables e below (T3.setTop (mkF m 16 #[.val (.ref a1), .val (.int (Int32.ofNat az)), .val (.int (Int32.ofNat cz)), .val (.int (Int32.ofNat az)), .unset, .unset] [(.int ((Int32.ofNat az) - (Int32.ofNat cz)))])) _
    rw [(own_ysub (by omega) (by omega))]
    show Steps p.tables e below (T3.setTop (mkF m 16 #[.val (.ref a1), .val (.int (Int32.ofNat az)), .val (.int (Int32.ofNat cz)), .val (.int (Int32.ofNat az)), .unset, .unset] [(.int (Int32.ofNat (az - cz)))])) _
    refine XS.istore X3.here hx rfl (hb hby d29_16) rfl (l' := #[.val (.ref a1), .val (.int (Int32.ofNat az)), .val (.int (Int32.ofNat cz)), .val (.int (Int32.ofNat az)), .val (.int (Int32.ofNat (az - cz))), .unset]) rfl ?_
    refine XS.iloadN X3.here hx rfl (hb hby d29_18) rfl ?_
    refine XS.iload X3.here hx rfl (hb hby d29_19) rfl ?_
    refine XS.iloadN X3.here hx rfl (hb hby d29_21) rfl ?_
    refine XS.iconst X3.here hx rfl (hb hby d29_22) ?_
    refine XS.aloadN X3.here hx rfl (hb hby d29_23) rfl rfl ?_
    refine st4 _ ?_
    refine XS.ishl X4.here hx rfl (hb hby d29_27) rfl ?_
    refine XS.iadd X4.here hx rfl (hb hby d29_28) rfl ?_
    show Steps p.tables e below (T4.setTop (mkF m 29 #[.val (.ref a1), .val (.int (Int32.ofNat az)), .val (.int (Int32.ofNat cz)), .val (.int (Int32.ofNat az)), .val (.int (Int32.ofNat (az - cz))), .unset] [(.int ((Int32.ofNat cz) + (2 : Int32))), (.int (Int32.ofNat (az - cz))), (.int (Int32.ofNat cz))])) _
    rw [(show Int32.ofNat cz + (2 : Int32) = _ from own_yadd (j := 2) (by omega))]
    show Steps p.tables e below (T4.setTop (mkF m 29 #[.val (.ref a1), .val (.int (Int32.ofNat az)), .val (.int (Int32.ofNat cz)), .val (.int (Int32.ofNat az)), .val (.int (Int32.ofNat (az - cz))), .unset] [(.int (Int32.ofNat (cz + 2))), (.int (Int32.ofNat (az - cz))), (.int (Int32.ofNat cz))])) _
    refine st5 _ ?_
    show Steps p.tables e below (T5.setTop (mkF m 32 #[.val (.ref a1), .val (.int (Int32.ofNat az)), .val (.int (Int32.ofNat cz)), .val (.int (Int32.ofNat az)), .val (.int (Int32.ofNat (az - cz))), .unset] [(.int r5)])) _
    rw [hr5]
    show Steps p.tables e below (T5.setTop (mkF m 32 #[.val (.ref a1), .val (.int (Int32.ofNat az)), .val (.int (Int32.ofNat cz)), .val (.int (Int32.ofNat az)), .val (.int (Int32.ofNat (az - cz))), .unset] [(.int (Int32.ofNat (cz + (cz + 2))))])) _
    refine XS.istore X5.here hx rfl (hb hby d29_32) rfl (l' := #[.val (.ref a1), .val (.int (Int32.ofNat az)), .val (.int (Int32.ofNat cz)), .val (.int (Int32.ofNat az)), .val (.int (Int32.ofNat (az - cz))), .val (.int (Int32.ofNat (cz + (cz + 2))))]) rfl ?_
    refine XS.iload X5.here hx rfl (hb hby d29_34) rfl ?_
    refine X5.ldcInt hx hown (mvT hZ (hw _ (own_w 179 rfl))) (g := (mkF m 36 #[.val (.ref a1), .val (.int (Int32.ofNat az)), .val (.int (Int32.ofNat cz)), .val (.int (Int32.ofNat az)), .val (.int (Int32.ofNat (az - cz))), .val (.int (Int32.ofNat (cz + (cz + 2))))] [(.int (Int32.ofNat (cz + (cz + 2))))])) rfl (hb hby d29_36) _ ?_
    refine XS.icmpYes X5.here hx rfl (pc0 := 38) (pc' := 51) rfl (hb hby d29_38) rfl (feq (own_max (by omega))).2 (by decide) (by decide) ?_
    refine XS.iload X5.here hx rfl (hb hby d29_51) rfl ?_
    refine XS.aloadN X5.here hx rfl (hb hby d29_53) rfl rfl ?_
    refine st6 _ ?_
    refine XS.ishr X6.here hx rfl (hb hby d29_57) rfl ?_
    show Steps p.tables e below (T6.setTop (mkF m 58 #[.val (.ref a1), .val (.int (Int32.ofNat az)), .val (.int (Int32.ofNat cz)), .val (.int (Int32.ofNat az)), .val (.int (Int32.ofNat (az - cz))), .val (.int (Int32.ofNat (cz + (cz + 2))))] [(.int ((Int32.ofNat (cz + (cz + 2))) >>> ((0 : Int32) &&& 31)))])) _
    exact retI X6 hx Bd.returns (hb hby d29_58) hr
  · show QrNC Z a1 p2 vb kb cz nz vl az h0 n0 _ T6.heap _
    exact ⟨_, own_sh0 _, rfl, N5, e6⟩
theorem d32_0 : decode jdk_65_method_121_code 0 = .ok (.iload_n 1, 1) := by decide +kernel
theorem d32_1 : decode jdk_65_method_121_code 1 = .ok (.aload_n 0, 1) := by decide +kernel
theorem d32_2 : decode jdk_65_method_121_code 2 = .ok (.arraylength, 1) := by decide +kernel
theorem d32_3 : decode jdk_65_method_121_code 3 = .ok (.if_icmp .ne 11, 3) := by decide +kernel
theorem d32_14 : decode jdk_65_method_121_code 14 = .ok (.iload_n 1, 1) := by decide +kernel
theorem d32_15 : decode jdk_65_method_121_code 15 = .ok (.newarray .byte, 2) := by decide +kernel
theorem d32_17 : decode jdk_65_method_121_code 17 = .ok (.astore_n 2, 1) := by decide +kernel
theorem d32_18 : decode jdk_65_method_121_code 18 = .ok (.aload_n 0, 1) := by decide +kernel
theorem d32_19 : decode jdk_65_method_121_code 19 = .ok (.iconst 0, 1) := by decide +kernel
theorem d32_20 : decode jdk_65_method_121_code 20 = .ok (.aload_n 2, 1) := by decide +kernel
theorem d32_21 : decode jdk_65_method_121_code 21 = .ok (.iconst 0, 1) := by decide +kernel
theorem d32_22 : decode jdk_65_method_121_code 22 = .ok (.aload_n 0, 1) := by decide +kernel
theorem d32_23 : decode jdk_65_method_121_code 23 = .ok (.arraylength, 1) := by decide +kernel
theorem d32_24 : decode jdk_65_method_121_code 24 = .ok (.iload_n 1, 1) := by decide +kernel
theorem d32_25 : decode jdk_65_method_121_code 25 = .ok (.invokestatic 304, 3) := by decide +kernel
theorem d32_28 : decode jdk_65_method_121_code 28 = .ok (.invokestatic 150, 3) := by decide +kernel
theorem d32_31 : decode jdk_65_method_121_code 31 = .ok (.aload_n 2, 1) := by decide +kernel
theorem d32_32 : decode jdk_65_method_121_code 32 = .ok (.areturn, 1) := by decide +kernel
theorem pn_32 : plainName "java/util/Arrays" = true := by first | (simp [plainName, overriddenIn]; done) | decide +kernel
theorem ef_rCy (m : MethodId) (a1 : Addr) (p2 : Int32) : entryFrame m #[(.ref a1), (.int p2)] 3 = mkF m 0 #[.val (.ref a1), .val (.int p2), .unset] [] := by first | (simp [entryFrame, mkF, argsToLocals, Value.category]; done) | rfl
def QrCy (Z : State) (a1 : Addr) (p2 : Int32) (k : ClassId) (cz : Nat) (cz' : Nat) (vl : List Value) (h0 : Heap) (n0 : Nat) (v : Option Value) (h : Heap) (L : List Loc) : Prop := ∃ (o : Addr) (ok : ClassId) (vl' : List Value), v = some (.ref o) ∧ Fr n0 L ∧ Keep h0 h [] ∧ n0 ≤ o ∧ h0.size ≤ o ∧ Arv Z h o ok .byte (Int32.ofNat cz') (vl') (.int (0 : Int32)) ∧ vl'.length = cz'
set_option maxRecDepth 65536 in
set_option maxHeartbeats 40000000 in
theorem rCy (l : Launch) (Z : State) (a0 : Array Value) (hw : ∀ d ∈ tables_1, d.before a0 Z = true) (ws : List Jvm.Cond) (a1 : Addr) (p2 : Int32) (k : ClassId) (cz : Nat) (cz' : Nat) (vl : List Value) (h0 : Heap) (n0 : Nat) (Z0 : n0 ≤ h0.size) (AV : Arv Z h0 a1 k .byte (Int32.ofNat cz) (vl) (.int (0 : Int32))) (hp : p2 = Int32.ofNat cz') (hcc : cz < cz') (hc : cz' < 128) :
    MetFree l (⟨"java/util/Arrays", "copyOf", "([BI)[B"⟩ : MethodName) (head1 (Jvm.Cond.code (⟨"java/util/Arrays", "copyOf", "([BI)[B"⟩ : MethodName) jdk_65_method_121_code 3 (some (.array .byte)) :: ws) ({ frames := 1, cells := 1, slots := 128, locals := 18 } : Room)) (fun a U => a = #[(.ref a1), (.int p2)] ∧ Z.Warmed39 U.vm ∧ U.heap = h0) (fun _ _ _ _ _ => True) (fun _ U o U' => ∃ v L, o = .returned v ∧ QrCy Z a1 p2 k cz cz' vl h0 n0 v U'.heap L ∧ FrameEnd U o U' L ({ frames := 1, cells := 1, slots := 128, locals := 18 } : Room).cells ({ frames := 1, cells := 1, slots := 128, locals := 18 } : Room).slots) := by
  refine MetFree.of_bodySF (plainFor_of_name pn_32) hisR ?_
  intro p e s m args below meth c s₁ Bd hml0 hP hK
  obtain ⟨rfl, hZ, hh⟩ := hP
  have hx := Bd.exec
  have hby := Bd.bytes
  have hml : c.maxLocals = 3 := hml0
  have hown : s.vm.findClass "java/util/Arrays" = some m.cls := findClass_of_methodNamed Bd.named
  have hnm := (name_of_methodNamed Bd.named Bd.method).1
  have X0 : Stand p l e ({ frames := 1, cells := 1, slots := 128, locals := 18 } : Room) s m #[(.ref a1), (.int p2)] below meth c s₁ [] 0 0 := Stand.of_body Bd
  have e0 : s₁.heap = h0 := by rw [← hh, Bd.state]; rfl
  have N0 := Fr.nil n0
  have pre0 : ∀ t, Steps p.tables e below (s₁.setTop (mkF m 0 #[.val (.ref a1), .val (.int p2), .unset] [])) t → Steps p.tables e below (s₁.setTop (entryFrame m #[(.ref a1), (.int p2)] 3)) t := fun t k => castTop (ef_rCy m a1 p2) k
  obtain ⟨cl1, Ar1, qk1, Sz1, Nn1, Hh1, Gg1⟩ := id (AV)
  obtain ⟨T2, h2, ck2, X2, e2, E2, A2, st2⟩ := newP X0 hx hZ (hw _ (own_w 7 rfl)) e0 (g := (mkF m 15 #[.val (.ref a1), .val (.int (Int32.ofNat cz')), .unset] [(.int (Int32.ofNat cz'))])) rfl (hb hby d32_15) rfl (own_y0 (by omega)) (cap := 128) (by rw [own_yN (by omega)]; omega) (by decide) (by decide) (by decide)
  obtain ⟨b2o, g2⟩ : ∃ z, z = h0.size := ⟨_, rfl⟩
  have b2 : n0 ≤ b2o := Nat.le_trans Z0 (Nat.le_of_eq g2.symm)
  have bk2 : h0.size ≤ b2o := Nat.le_trans (Keep.refl h0 []).1 (Nat.le_of_eq g2.symm)
  have ne3 : a1 ≠ b2o := Nat.ne_of_lt (Nat.lt_of_lt_of_le AV.lt (Nat.le_of_eq g2.symm))
  rw [← g2] at A2 st2
  have Z2 : n0 ≤ h2.size := Nat.le_trans Z0 E2.1
  have K2 : Keep h0 h2 [] := (Keep.refl h0 []).ext E2
  have V2 : Arv Z h2 b2o ck2 .byte (Int32.ofNat cz') (List.replicate (cz') (.int (0 : Int32))) (.int (0 : Int32)) := (Arv.new A2 (own_y0 (by omega))).pad (pad_rep [] (.int (0 : Int32)) (cz'))
  have f4 := (AV.ext E2)
  obtain ⟨cl5, Ar5, qk5, Sz5, Nn5, Hh5, Gg5⟩ := id (f4)
  obtain ⟨_, _, ⟨T6, Lq6, kq6, nq6⟩, -, X6, ⟨Lc6, hQ6, lq6, yq6, zq6⟩, st6⟩ := Jvm.LawKit.callS X2 hx (y := (⟨"java/lang/Math", "min", "(II)I"⟩ : MethodName)) hown (mvT hZ (hw _ (own_w 184 rfl))) (mvT hZ (hw _ (own_w 185 rfl))) (mvT hZ (hw _ (own_w 92 rfl))) (mvT hZ (hw _ (own_w 186 rfl))) (by decide) (backOf (W := 4) (rMn l Z a0 hw [] (Int32.ofNat cz) (Int32.ofNat cz')  h2 n0 Z2 ) hZ (hw _ (own_w 186 rfl)) (hw _ (own_w 92 rfl)) (by decide) (by decide)) (g := (mkF m 25 #[.val (.ref a1), .val (.int (Int32.ofNat cz')), .val (.ref b2o)] [(.int (Int32.ofNat cz')), (.int (Int32.ofNat cz)), (.int (0 : Int32)), (.ref b2o), (.int (0 : Int32)), (.ref a1)])) rfl (by rw [hml]; rfl) (argsL := [(.int (Int32.ofNat cz)), (.int (Int32.ofNat cz'))]) (rest := [(.int (0 : Int32)), (.ref b2o), (.int (0 : Int32)), (.ref a1)]) (lenOf pd_1 rfl) rfl (by show 2 * 0 + _ ≤ _; exact Nat.le_of_eq rfl) (hb hby d32_25) (fun _ _ => ⟨rfl, e2, (by decide : 1 + 0 ≤ _), (by decide : 128 + 0 ≤ _)⟩)
  dsimp only [Pt.U, Pt.locs, Pt.cells, Pt.slots] at X6 lq6 yq6 zq6 st6 hQ6
  subst lq6 yq6 zq6
  obtain ⟨r6, hr6, rfl, N6q, e6⟩ := hQ6
  have N6 := Fr.app N0 N6q
  obtain ⟨T7, h7, L7, X7, e7, N7, KC7, V7, st7⟩ := cpA X6 hx hZ hown (hw _ (own_w 187 rfl)) (hw _ (own_w 165 rfl)) (hw _ (own_w 163 rfl)) (hw _ (own_w 164 rfl)) e6 (sp := (0 : Int32)) (dp := (0 : Int32)) (nn := (Int32.ofNat cz)) (us := (List.range (cz)).map fun i => (vl).getD (0 + i) (.int (0 : Int32))) f4 V2 (Or.inl ⟨rfl, rfl⟩) (by decide) (by decide) (own_y0 (by omega)) (by have q1 := (show ((0 : Int32)).toNatClampNeg = 0 from by decide); have q2 := (show ((Int32.ofNat cz)).toNatClampNeg = cz from own_yN (by omega)); have q3 := (show ((Int32.ofNat cz)).toNatClampNeg = cz from own_yN (by omega)); omega) (by have q1 := (show ((0 : Int32)).toNatClampNeg = 0 from by decide); have q2 := (show ((Int32.ofNat cz)).toNatClampNeg = cz from own_yN (by omega)); have q3 := (show ((Int32.ofNat cz')).toNatClampNeg = cz' from own_yN (by omega)); omega) (by rw [(show ((0 : Int32)).toNatClampNeg = 0 from by decide), (show ((Int32.ofNat cz)).toNatClampNeg = cz from own_yN (by omega))]) (by have q1 := (show ((0 : Int32)).toNatClampNeg = 0 from by decide); have q2 := (show ((Int32.ofNat cz)).toNatClampNeg = cz from own_yN (by omega)); have q3 := (show (List.replicate (cz') (.int (0 : Int32)) : List Value).length = cz' from List.length_replicate); omega) N6 b2 (g := (mkF m 28 #[.val (.ref a1), .val (.int (Int32.ofNat cz')), .val (.ref b2o)] [(.int (Int32.ofNat cz)), (.int (0 : Int32)), (.ref b2o), (.int (0 : Int32)), (.ref a1)])) rfl (by rw [hml]; rfl) rfl (hb hby d32_28) (by decide) (W := 0) (by show 2 * 0 + _ ≤ _; exact Nat.le_of_eq rfl) (by decide)
  obtain ⟨vl7, Vc7, hv7⟩ : ∃ vl', Arv Z h7 b2o ck2 .byte (Int32.ofNat cz') (vl') (.int (0 : Int32)) ∧ vl'.length = cz' := ⟨_, V7, own_cpl List.length_replicate (show ((0 : Int32)).toNatClampNeg = 0 from by decide) (show ((Int32.ofNat cz)).toNatClampNeg = cz from own_yN (by omega)) (by simp) (by omega)⟩
  have Z7 : n0 ≤ h7.size := Nat.le_trans Z2 KC7.1
  have K7 : Keep h0 h7 [] := K2.trans KC7 (allS (Or.inr bk2) all0)
  obtain ⟨fs, hr, hrun, hended, hW, hsame⟩ := X7.leave (v := some (.ref b2o)) (fun h => by rw [Bd.returns] at h; cases h) (BodyLoose.notSynchronized Bd)
  refine ⟨_, _, pre0 _ ?_, hrun, hended, _, _, rfl, ?_, ⟨_, rfl⟩, hW, hsame.mono (by decide) (by decide)⟩
  · show Steps p.tables e below (s₁.setTop (mkF m 0 #[.val (.ref a1), .val (.int p2), .unset] [])) _
    rw [hp]
    show Steps p.tables e below (s₁.setTop (mkF m 0 #[.val (.ref a1), .val (.int (Int32.ofNat cz')), .unset] [])) _
    refine XS.iloadN X0.here hx rfl (hb hby d32_0) rfl ?_
    refine XS.aloadN X0.here hx rfl (hb hby d32_1) rfl rfl ?_
    refine X0.arraylength hx (by rw [e0]; exact Ar1.1) (State.isArrayOf_alike hZ.alike Ar1.2.1) (g := (mkF m 2 #[.val (.ref a1), .val (.int (Int32.ofNat cz')), .unset] [(.ref a1), (.int (Int32.ofNat cz'))])) rfl rfl (hb hby d32_2) _ ?_
    rw [len_of Sz1 Nn1]
    show Steps p.tables e below (s₁.setTop (mkF m 3 #[.val (.ref a1), .val (.int (Int32.ofNat cz')), .unset] [(.int (Int32.ofNat cz)), (.int (Int32.ofNat cz'))])) _
    refine XS.icmpYes X0.here hx rfl (pc0 := 3) (pc' := 14) rfl (hb hby d32_3) rfl (feq (fun q => absurd ((own_yeq (by omega) (by omega)).mp q) (by omega))).2 (by decide) (by decide) ?_
    refine XS.iloadN X0.here hx rfl (hb hby d32_14) rfl ?_
    refine st2 _ ?_
    refine XS.astoreN X2.here hx rfl (hb hby d32_17) rfl rfl (l' := #[.val (.ref a1), .val (.int (Int32.ofNat cz')), .val (.ref b2o)]) rfl ?_
    refine XS.aloadN X2.here hx rfl (hb hby d32_18) rfl rfl ?_
    refine XS.iconst X2.here hx rfl (hb hby d32_19) ?_
    refine XS.aloadN X2.here hx rfl (hb hby d32_20) rfl rfl ?_
    refine XS.iconst X2.here hx rfl (hb hby d32_21) ?_
    refine XS.aloadN X2.here hx rfl (hb hby d32_22) rfl rfl ?_
    refine X2.arraylength hx (by rw [e2]; exact Ar5.1) (State.isArrayOf_alike hZ.alike Ar5.2.1) (g := (mkF m 23 #[.val (.ref a1), .val (.int (Int32.ofNat cz')), .val (.ref b2o)] [(.ref a1), (.int (0 : Int32)), (.ref b2o), (.int (0 : Int32)), (.ref a1)])) rfl rfl (hb hby d32_23) _ ?_
    rw [len_of Sz5 Nn5]
    show Steps p.tables e below (T2.setTop (mkF m 24 #[.val (.ref a1), .val (.int (Int32.ofNat cz')), .val (.ref b2o)] [(.int (Int32.ofNat cz)), (.int (0 : Int32)), (.ref b2o), (.int (0 : Int32)), (.ref a1)])) _
    refine XS.iloadN X2.here hx rfl (hb hby d32_24) rfl ?_
    refine st6 _ ?_
    show Steps p.tables e below (T6.setTop (mkF m 28 #[.val (.ref a1), .val (.int (Int32.ofNat cz')), .val (.ref b2o)] [(.int r6), (.int (0 : Int32)), (.ref b2o), (.int (0 : Int32)), (.ref a1)])) _
    rw [(hr6.trans (own_ymin2 (by omega) (by omega)))]
    show Steps p.tables e below (T6.setTop (mkF m 28 #[.val (.ref a1), .val (.int (Int32.ofNat cz')), .val (.ref b2o)] [(.int (Int32.ofNat cz)), (.int (0 : Int32)), (.ref b2o), (.int (0 : Int32)), (.ref a1)])) _
    refine st7 _ ?_
    refine XS.aloadN X7.here hx rfl (hb hby d32_31) rfl rfl ?_
    show Steps p.tables e below (T7.setTop (mkF m 32 #[.val (.ref a1), .val (.int (Int32.ofNat cz')), .val (.ref b2o)] [(.ref b2o)])) _
    exact X7.areturnOut hx rfl Bd.returns rfl (hb hby d32_32) hr
  · show QrCy Z a1 p2 k cz cz' vl h0 n0 _ T7.heap _
    rw [e7]
    exact ⟨b2o, _, _, rfl, N7, K7, b2, bk2, Vc7, hv7⟩
theorem d25_0 : decode jdk_68_method_9_code 0 = .ok (.aload_n 0, 1) := by decide +kernel
theorem d25_1 : decode jdk_68_method_9_code 1 = .ok (.getfield 15, 3) := by decide +kernel
theorem d25_4 : decode jdk_68_method_9_code 4 = .ok (.arraylength, 1) := by decide +kernel
theorem d25_5 : decode jdk_68_method_9_code 5 = .ok (.aload_n 0, 1) := by decide +kernel
theorem d25_6 : decode jdk_68_method_9_code 6 = .ok (.getfield 22, 3) := by decide +kernel
theorem d25_9 : decode jdk_68_method_9_code 9 = .ok (.ishr, 1) := by decide +kernel
theorem d25_10 : decode jdk_68_method_9_code 10 = .ok (.istore_n 2, 1) := by decide +kernel
theorem d25_11 : decode jdk_68_method_9_code 11 = .ok (.iload_n 1, 1) := by decide +kernel
theorem d25_12 : decode jdk_68_method_9_code 12 = .ok (.iload_n 2, 1) := by decide +kernel
theorem d25_13 : decode jdk_68_method_9_code 13 = .ok (.isub, 1) := by decide +kernel
theorem d25_14 : decode jdk_68_method_9_code 14 = .ok (.ifCond .le 24, 3) := by decide +kernel
theorem d25_38 : decode jdk_68_method_9_code 38 = .ok (.return_, 1) := by decide +kernel
theorem pn_25 : plainName "java/lang/AbstractStringBuilder" = true := by first | (simp [plainName, overriddenIn]; done) | decide +kernel
theorem ef_rEf (m : MethodId) (a1 : Addr) (p2 : Int32) : entryFrame m #[(.ref a1), (.int p2)] 3 = mkF m 0 #[.val (.ref a1), .val (.int p2), .unset] [] := by first | (simp [entryFrame, mkF, argsToLocals, Value.category]; done) | rfl
def QrEf (Z : State) (a1 : Addr) (p2 : Int32) (vb : Addr) (kb : ClassId) (cz : Nat) (nz : Nat) (vl : List Value) (az : Nat) (h0 : Heap) (n0 : Nat) (v : Option Value) (h : Heap) (L : List Loc) : Prop := v = none ∧ Fr n0 L ∧ h = h0
set_option maxRecDepth 65536 in
set_option maxHeartbeats 40000000 in
theorem rEf (l : Launch) (Z : State) (a0 : Array Value) (hw : ∀ d ∈ tables_1, d.before a0 Z = true) (ws : List Jvm.Cond) (a1 : Addr) (p2 : Int32) (vb : Addr) (kb : ClassId) (cz : Nat) (nz : Nat) (vl : List Value) (az : Nat) (h0 : Heap) (n0 : Nat) (Z0 : n0 ≤ h0.size) (E : Exa Z h0 a1 "java/lang/StringBuilder") (FV : Fld Z h0 a1 "java/lang/AbstractStringBuilder" "value" "[B" (.ref vb)) (FC : Fld Z h0 a1 "java/lang/AbstractStringBuilder" "coder" "B" (.int (0 : Int32))) (FN : Fld Z h0 a1 "java/lang/AbstractStringBuilder" "count" "I" (.int (Int32.ofNat nz))) (AV : Arv Z h0 vb kb .byte (Int32.ofNat cz) (vl) (.int (0 : Int32))) (hvs : vl.length = cz) (ga : n0 ≤ a1) (gb : n0 ≤ vb) (nab : a1 ≠ vb) (hc : cz < 60) (hn : nz < 1000) (hp : p2 = Int32.ofNat az) (ha : az < 1000) (hac : az ≤ cz) :
    MetFree l (⟨"java/lang/AbstractStringBuilder", "ensureCapacityInternal", "(I)V"⟩ : MethodName) (head1 (Jvm.Cond.code (⟨"java/lang/AbstractStringBuilder", "ensureCapacityInternal", "(I)V"⟩ : MethodName) jdk_68_method_9_code 3 none :: ws) ({ frames := 0, cells := 0, slots := 0, locals := 0 } : Room)) (fun a U => a = #[(.ref a1), (.int p2)] ∧ Z.Warmed39 U.vm ∧ U.heap = h0) (fun _ _ _ _ _ => True) (fun _ U o U' => ∃ v L, o = .returned v ∧ QrEf Z a1 p2 vb kb cz nz vl az h0 n0 v U'.heap L ∧ FrameEnd U o U' L ({ frames := 0, cells := 0, slots := 0, locals := 0 } : Room).cells ({ frames := 0, cells := 0, slots := 0, locals := 0 } : Room).slots) := by
  refine MetFree.of_bodySF (plainFor_of_name pn_25) hisR ?_
  intro p e s m args below meth c s₁ Bd hml0 hP hK
  obtain ⟨rfl, hZ, hh⟩ := hP
  have hx := Bd.exec
  have hby := Bd.bytes
  have hml : c.maxLocals = 3 := hml0
  have hown : s.vm.findClass "java/lang/AbstractStringBuilder" = some m.cls := findClass_of_methodNamed Bd.named
  have hnm := (name_of_methodNamed Bd.named Bd.method).1
  have X0 : Stand p l e ({ frames := 0, cells := 0, slots := 0, locals := 0 } : Room) s m #[(.ref a1), (.int p2)] below meth c s₁ [] 0 0 := Stand.of_body Bd
  have e0 : s₁.heap = h0 := by rw [← hh, Bd.state]; rfl
  have N0 := Fr.nil n0
  have pre0 : ∀ t, Steps p.tables e below (s₁.setTop (mkF m 0 #[.val (.ref a1), .val (.int p2), .unset] [])) t → Steps p.tables e below (s₁.setTop (entryFrame m #[(.ref a1), (.int p2)] 3)) t := fun t k => castTop (ef_rEf m a1 p2) k
  obtain ⟨T1, X1, e1, st1⟩ := getF X0 hx hZ hown (host := "") (Or.inl (hw _ (own_w 123 rfl))) Via.refl e0 FV (g := (mkF m 1 #[.val (.ref a1), .val (.int (Int32.ofNat az)), .unset] [(.ref a1)])) rfl rfl (hb hby d25_1)
  obtain ⟨cl2, Ar2, qk2, Sz2, Nn2, Hh2, Gg2⟩ := id (AV)
  obtain ⟨T3, X3, e3, st3⟩ := getF X1 hx hZ hown (host := "") (Or.inl (hw _ (own_w 125 rfl))) Via.refl e1 FC (g := (mkF m 6 #[.val (.ref a1), .val (.int (Int32.ofNat az)), .unset] [(.ref a1), (.int (Int32.ofNat cz))])) rfl rfl (hb hby d25_6)
  obtain ⟨fs, hr, hrun, hended, hW, hsame⟩ := X3.leave (v := none) (fun _ => rfl) (BodyLoose.notSynchronized Bd)
  refine ⟨_, _, pre0 _ ?_, hrun, hended, _, _, rfl, ?_, ⟨_, rfl⟩, hW, hsame.mono (by decide) (by decide)⟩
  · show Steps p.tables e below (s₁.setTop (mkF m 0 #[.val (.ref a1), .val (.int p2), .unset] [])) _
    rw [hp]
    show Steps p.tables e below (s₁.setTop (mkF m 0 #[.val (.ref a1), .val (.int (Int32.ofNat az)), .unset] [])) _
    refine XS.aloadN X0.here hx rfl (hb hby d25_0) rfl rfl ?_
    refine st1 _ ?_
    refine X1.arraylength hx (by rw [e1]; exact Ar2.1) (State.isArrayOf_alike hZ.alike Ar2.2.1) (g := (mkF m 4 #[.val (.ref a1), .val (.int (Int32.ofNat az)), .unset] [(.ref vb)])) rfl rfl (hb hby d25_4) _ ?_
    rw [len_of Sz2 Nn2]
    show Steps p.tables e below (T1.setTop (mkF m 5 #[.val (.ref a1), .val (.int (Int32.ofNat az)), .unset] [(.int (Int32.ofNat cz))])) _
    refine XS.aloadN X1.here hx rfl (hb hby d25_5) rfl rfl ?_
    refine st3 _ ?_
    refine XS.ishr X3.here hx rfl (hb hby d25_9) rfl ?_
    show Steps p.tables e below (T3.setTop (mkF m 10 #[.val (.ref a1), .val (.int (Int32.ofNat az)), .unset] [(.int ((Int32.ofNat cz) >>> ((0 : Int32) &&& 31)))])) _
    rw [(own_sh0 _)]
    show Steps p.tables e below (T3.setTop (mkF m 10 #[.val (.ref a1), .val (.int (Int32.ofNat az)), .unset] [(.int (Int32.ofNat cz))])) _
    refine XS.istoreN X3.here hx rfl (hb hby d25_10) rfl (l' := #[.val (.ref a1), .val (.int (Int32.ofNat az)), .val (.int (Int32.ofNat cz))]) rfl ?_
    refine XS.iloadN X3.here hx rfl (hb hby d25_11) rfl ?_
    refine XS.iloadN X3.here hx rfl (hb hby d25_12) rfl ?_
    refine XS.isub X3.here hx rfl (hb hby d25_13) rfl ?_
    refine XS.ifYes X3.here hx rfl (pc0 := 14) (pc' := 38) rfl (hb hby d25_14) rfl ((if0 _ _).trans (flt (own_yle0 (by omega) (by omega) hac)).2.2.2) (by decide) (by decide) ?_
    show Steps p.tables e below (T3.setTop (mkF m 38 #[.val (.ref a1), .val (.int (Int32.ofNat az)), .val (.int (Int32.ofNat cz))] [])) _
    exact X3.returnOut hx Bd.returns (hb hby d25_38) hr
  · show QrEf Z a1 p2 vb kb cz nz vl az h0 n0 _ T3.heap _
    exact ⟨rfl, N0, e3⟩
theorem pd_4 : parseMethodDescriptor "(I)I" = some ⟨[.int], some .int⟩ := by decide +kernel
theorem pd_5 : parseMethodDescriptor "([BI)[B" = some ⟨[(.array .byte), .int], some (.array .byte)⟩ := by decide +kernel
theorem d25_17 : decode jdk_68_method_9_code 17 = .ok (.aload_n 0, 1) := by decide +kernel
theorem d25_18 : decode jdk_68_method_9_code 18 = .ok (.aload_n 0, 1) := by decide +kernel
theorem d25_19 : decode jdk_68_method_9_code 19 = .ok (.getfield 15, 3) := by decide +kernel
theorem d25_22 : decode jdk_68_method_9_code 22 = .ok (.aload_n 0, 1) := by decide +kernel
theorem d25_23 : decode jdk_68_method_9_code 23 = .ok (.iload_n 1, 1) := by decide +kernel
theorem d25_24 : decode jdk_68_method_9_code 24 = .ok (.invokevirtual 104, 3) := by decide +kernel
theorem d25_27 : decode jdk_68_method_9_code 27 = .ok (.aload_n 0, 1) := by decide +kernel
theorem d25_28 : decode jdk_68_method_9_code 28 = .ok (.getfield 22, 3) := by decide +kernel
theorem d25_31 : decode jdk_68_method_9_code 31 = .ok (.ishl, 1) := by decide +kernel
theorem d25_32 : decode jdk_68_method_9_code 32 = .ok (.invokestatic 108, 3) := by decide +kernel
theorem d25_35 : decode jdk_68_method_9_code 35 = .ok (.putfield 15, 3) := by decide +kernel
theorem ef_rEg (m : MethodId) (a1 : Addr) (p2 : Int32) : entryFrame m #[(.ref a1), (.int p2)] 3 = mkF m 0 #[.val (.ref a1), .val (.int p2), .unset] [] := by first | (simp [entryFrame, mkF, argsToLocals, Value.category]; done) | rfl
def QrEg (Z : State) (a1 : Addr) (p2 : Int32) (vb : Addr) (kb : ClassId) (cz : Nat) (nz : Nat) (vl : List Value) (az : Nat) (h0 : Heap) (n0 : Nat) (v : Option Value) (h : Heap) (L : List Loc) : Prop := ∃ (vb' : Addr) (kb' : ClassId) (vl' : List Value), v = none ∧ Fr n0 L ∧ Keep h0 h [a1] ∧ n0 ≤ vb' ∧ h0.size ≤ vb' ∧ a1 ≠ vb' ∧ vl'.length = cz + (cz + 2) ∧ Exa Z h a1 "java/lang/StringBuilder" ∧ Fld Z h a1 "java/lang/AbstractStringBuilder" "value" "[B" (.ref vb') ∧ Fld Z h a1 "java/lang/AbstractStringBuilder" "coder" "B" (.int (0 : Int32)) ∧ Fld Z h a1 "java/lang/AbstractStringBuilder" "count" "I" (.int (Int32.ofNat nz)) ∧ Arv Z h vb' kb' .byte (Int32.ofNat (cz + (cz + 2))) (vl') (.int (0 : Int32))
set_option maxRecDepth 65536 in
set_option maxHeartbeats 40000000 in
theorem rEg (l : Launch) (Z : State) (a0 : Array Value) (hw : ∀ d ∈ tables_1, d.before a0 Z = true) (ws : List Jvm.Cond) (a1 : Addr) (p2 : Int32) (vb : Addr) (kb : ClassId) (cz : Nat) (nz : Nat) (vl : List Value) (az : Nat) (h0 : Heap) (n0 : Nat) (Z0 : n0 ≤ h0.size) (E : Exa Z h0 a1 "java/lang/StringBuilder") (FV : Fld Z h0 a1 "java/lang/AbstractStringBuilder" "value" "[B" (.ref vb)) (FC : Fld Z h0 a1 "java/lang/AbstractStringBuilder" "coder" "B" (.int (0 : Int32))) (FN : Fld Z h0 a1 "java/lang/AbstractStringBuilder" "count" "I" (.int (Int32.ofNat nz))) (AV : Arv Z h0 vb kb .byte (Int32.ofNat cz) (vl) (.int (0 : Int32))) (hvs : vl.length = cz) (ga : n0 ≤ a1) (gb : n0 ≤ vb) (nab : a1 ≠ vb) (hc : cz < 60) (hn : nz < 1000) (hp : p2 = Int32.ofNat az) (ha : az < 1000) (hca : cz < az) (hag : az - cz ≤ cz + 2) :
    MetFree l (⟨"java/lang/AbstractStringBuilder", "ensureCapacityInternal", "(I)V"⟩ : MethodName) (head1 (Jvm.Cond.code (⟨"java/lang/AbstractStringBuilder", "ensureCapacityInternal", "(I)V"⟩ : MethodName) jdk_68_method_9_code 3 none :: ws) ({ frames := 3, cells := 1, slots := 128, locals := 48 } : Room)) (fun a U => a = #[(.ref a1), (.int p2)] ∧ Z.Warmed39 U.vm ∧ U.heap = h0) (fun _ _ _ _ _ => True) (fun _ U o U' => ∃ v L, o = .returned v ∧ QrEg Z a1 p2 vb kb cz nz vl az h0 n0 v U'.heap L ∧ FrameEnd U o U' L ({ frames := 3, cells := 1, slots := 128, locals := 48 } : Room).cells ({ frames := 3, cells := 1, slots := 128, locals := 48 } : Room).slots) := by
  refine MetFree.of_bodySF (plainFor_of_name pn_25) hisR ?_
  intro p e s m args below meth c s₁ Bd hml0 hP hK
  obtain ⟨rfl, hZ, hh⟩ := hP
  have hx := Bd.exec
  have hby := Bd.bytes
  have hml : c.maxLocals = 3 := hml0
  have hown : s.vm.findClass "java/lang/AbstractStringBuilder" = some m.cls := findClass_of_methodNamed Bd.named
  have hnm := (name_of_methodNamed Bd.named Bd.method).1
  have X0 : Stand p l e ({ frames := 3, cells := 1, slots := 128, locals := 48 } : Room) s m #[(.ref a1), (.int p2)] below meth c s₁ [] 0 0 := Stand.of_body Bd
  have e0 : s₁.heap = h0 := by rw [← hh, Bd.state]; rfl
  have N0 := Fr.nil n0
  have pre0 : ∀ t, Steps p.tables e below (s₁.setTop (mkF m 0 #[.val (.ref a1), .val (.int p2), .unset] [])) t → Steps p.tables e below (s₁.setTop (entryFrame m #[(.ref a1), (.int p2)] 3)) t := fun t k => castTop (ef_rEg m a1 p2) k
  obtain ⟨T1, X1, e1, st1⟩ := getF X0 hx hZ hown (host := "") (Or.inl (hw _ (own_w 123 rfl))) Via.refl e0 FV (g := (mkF m 1 #[.val (.ref a1), .val (.int (Int32.ofNat az)), .unset] [(.ref a1)])) rfl rfl (hb hby d25_1)
  obtain ⟨cl2, Ar2, qk2, Sz2, Nn2, Hh2, Gg2⟩ := id (AV)
  obtain ⟨T3, X3, e3, st3⟩ := getF X1 hx hZ hown (host := "") (Or.inl (hw _ (own_w 125 rfl))) Via.refl e1 FC (g := (mkF m 6 #[.val (.ref a1), .val (.int (Int32.ofNat az)), .unset] [(.ref a1), (.int (Int32.ofNat cz))])) rfl rfl (hb hby d25_6)
  obtain ⟨T4, X4, e4, st4⟩ := getF X3 hx hZ hown (host := "") (Or.inl (hw _ (own_w 123 rfl))) Via.refl e3 FV (g := (mkF m 19 #[.val (.ref a1), .val (.int (Int32.ofNat az)), .val (.int (Int32.ofNat cz))] [(.ref a1), (.ref a1)])) rfl rfl (hb hby d25_19)
  obtain ⟨cq5, qq5, qq5'⟩ := E.cell
  obtain ⟨_, _, ⟨T5, Lq5, kq5, nq5⟩, -, X5, ⟨Lc5, hQ5, lq5, yq5, zq5⟩, st5⟩ := X4.privateBack hx (y := (⟨"java/lang/AbstractStringBuilder", "newCapacity", "(I)I"⟩ : MethodName)) hown (mvT hZ (hw _ (own_w 166 rfl))) (mvT hZ (hw _ (own_w 167 rfl))) (own_selpriv2 (mvT hZ (hw _ (own_w 169 rfl))) (Cond.privateMethod_at (mvP hZ (hw _ (own_w 168 rfl)) (args := #[]))) (mvT hZ (hw _ (own_w 167 rfl))) (by decide)) (Cond.privateMethod_at (mvP hZ (hw _ (own_w 168 rfl)) (args := #[]))) (mvT hZ (hw _ (own_w 170 rfl))) (by decide) (backOf (W := 2) (rNC l Z a0 hw [] a1 (Int32.ofNat az) vb kb (cz) (nz) (vl) az h0 n0 Z0 E FV FC FN AV hvs ga gb nab (by omega) (by omega) rfl ha hca hag) hZ (hw _ (own_w 170 rfl)) (hw _ (own_w 119 rfl)) (by decide) (by decide)) (g := (mkF m 24 #[.val (.ref a1), .val (.int (Int32.ofNat az)), .val (.int (Int32.ofNat cz))] [(.int (Int32.ofNat az)), (.ref a1), (.ref vb), (.ref a1)])) rfl (by rw [hml]; rfl) (Steps.refl _) (a := a1) (by rw [e4]; exact qq5) qq5' (argsL := [(.int (Int32.ofNat az))]) (rest := [(.ref vb), (.ref a1)]) (lenOf pd_4 rfl) rfl (by show 2 * 0 + _ ≤ _; exact Nat.le_of_eq rfl) (hb hby d25_24) (fun _ _ => ⟨rfl, e4, (by decide : 0 + 0 ≤ _), (by decide : 0 + 0 ≤ _)⟩)
  dsimp only [Pt.U, Pt.locs, Pt.cells, Pt.slots] at X5 lq5 yq5 zq5 st5 hQ5
  subst lq5 yq5 zq5
  obtain ⟨r5, hr5, rfl, N5q, e5⟩ := hQ5
  have N5 := Fr.app N0 N5q
  obtain ⟨T6, X6, e6, st6⟩ := getF X5 hx hZ hown (host := "") (Or.inl (hw _ (own_w 125 rfl))) Via.refl e5 FC (g := (mkF m 28 #[.val (.ref a1), .val (.int (Int32.ofNat az)), .val (.int (Int32.ofNat cz))] [(.ref a1), (.int (Int32.ofNat (cz + (cz + 2)))), (.ref vb), (.ref a1)])) rfl rfl (hb hby d25_28)
  obtain ⟨_, _, ⟨T7, Lq7, kq7, nq7⟩, -, X7, ⟨Lc7, hQ7, lq7, yq7, zq7⟩, st7⟩ := Jvm.LawKit.callS X6 hx (y := (⟨"java/util/Arrays", "copyOf", "([BI)[B"⟩ : MethodName)) hown (mvT hZ (hw _ (own_w 180 rfl))) (mvT hZ (hw _ (own_w 181 rfl))) (mvT hZ (hw _ (own_w 182 rfl))) (mvT hZ (hw _ (own_w 183 rfl))) (by decide) (backOf (W := 1) (rCy l Z a0 hw [] vb (Int32.ofNat (cz + (cz + 2))) kb cz (cz + (cz + 2)) vl h0 n0 Z0 AV rfl (by omega) (by omega)) hZ (hw _ (own_w 183 rfl)) (hw _ (own_w 182 rfl)) (by decide) (by decide)) (g := (mkF m 32 #[.val (.ref a1), .val (.int (Int32.ofNat az)), .val (.int (Int32.ofNat cz))] [(.int (Int32.ofNat (cz + (cz + 2)))), (.ref vb), (.ref a1)])) rfl (by rw [hml]; rfl) (argsL := [(.ref vb), (.int (Int32.ofNat (cz + (cz + 2))))]) (rest := [(.ref a1)]) (lenOf pd_5 rfl) rfl (by show 2 * 0 + _ ≤ _; exact Nat.le_of_eq rfl) (hb hby d25_32) (fun _ _ => ⟨rfl, e6, (by decide : 0 + 1 ≤ _), (by decide : 0 + 128 ≤ _)⟩)
  dsimp only [Pt.U, Pt.locs, Pt.cells, Pt.slots] at X7 lq7 yq7 zq7 st7 hQ7
  subst lq7 yq7 zq7
  obtain ⟨o7, ok7, vl7, rfl, N7q, KC7, go7, gk7, V7, hv7⟩ := hQ7
  have N7 := Fr.app N5 N7q
  have Z7 : n0 ≤ T7.heap.size := Nat.le_trans Z0 KC7.1
  have ne8 : a1 ≠ o7 := Nat.ne_of_lt (Nat.lt_of_lt_of_le FN.lt gk7)
  have ne9 : vb ≠ o7 := Nat.ne_of_lt (Nat.lt_of_lt_of_le AV.lt gk7)
  have K7 : Keep h0 T7.heap [a1] := (Keep.refl h0 [a1]).trans KC7 all0
  have f10 := (E.keep KC7)
  have f11 := (FV.keep KC7 nin0)
  obtain ⟨T12, h12, X12, e12, W12, st12⟩ := putF X7 hx hZ hown (host := "") (Or.inl (hw _ (own_w 123 rfl))) Via.refl rfl f11 f10 (Or.inl (hw _ (own_w 124 rfl))) (hw _ (own_w 110 rfl)) (ty := (.array .byte)) (by decide) rfl rfl (g := (mkF m 35 #[.val (.ref a1), .val (.int (Int32.ofNat az)), .val (.int (Int32.ofNat cz))] [(.ref o7), (.ref a1)])) rfl rfl (hb hby d25_35)
  have N12 := Fr.snoc X12 N7 ga
  have Z12 : n0 ≤ h12.size := by rw [W12.size]; exact Z7
  have K12 : Keep h0 h12 [a1] := K7.wr W12 (Or.inl (own_w 0 rfl))
  have Fw12 := f11.same W12
  obtain ⟨fs, hr, hrun, hended, hW, hsame⟩ := X12.leave (v := none) (fun _ => rfl) (BodyLoose.notSynchronized Bd)
  refine ⟨_, _, pre0 _ ?_, hrun, hended, _, _, rfl, ?_, ⟨_, rfl⟩, hW, hsame.mono (by decide) (by decide)⟩
  · show Steps p.tables e below (s₁.setTop (mkF m 0 #[.val (.ref a1), .val (.int p2), .unset] [])) _
    rw [hp]
    show Steps p.tables e below (s₁.setTop (mkF m 0 #[.val (.ref a1), .val (.int (Int32.ofNat az)), .unset] [])) _
    refine XS.aloadN X0.here hx rfl (hb hby d25_0) rfl rfl ?_
    refine st1 _ ?_
    refine X1.arraylength hx (by rw [e1]; exact Ar2.1) (State.isArrayOf_alike hZ.alike Ar2.2.1) (g := (mkF m 4 #[.val (.ref a1), .val (.int (Int32.ofNat az)), .unset] [(.ref vb)])) rfl rfl (hb hby d25_4) _ ?_
    rw [len_of Sz2 Nn2]
    show Steps p.tables e below (T1.setTop (mkF m 5 #[.val (.ref a1), .val (.int (Int32.ofNat az)), .unset] [(.int (Int32.ofNat cz))])) _
    refine XS.aloadN X1.here hx rfl (hb hby d25_5) rfl rfl ?_
    refine st3 _ ?_
    refine XS.ishr X3.here hx rfl (hb hby d25_9) rfl ?_
    show Steps p.tables e below (T3.setTop (mkF m 10 #[.val (.ref a1), .val (.int (Int32.ofNat az)), .unset] [(.int ((Int32.ofNat cz) >>> ((0 : Int32) &&& 31)))])) _
    rw [(own_sh0 _)]
    show Steps p.tables e below (T3.setTop (mkF m 10 #[.val (.ref a1), .val (.int (Int32.ofNat az)), .unset] [(.int (Int32.ofNat cz))])) _
    refine XS.istoreN X3.here hx rfl (hb hby d25_10) rfl (l' := #[.val (.ref a1), .val (.int (Int32.ofNat az)), .val (.int (Int32.ofNat cz))]) rfl ?_
    refine XS.iloadN X3.here hx rfl (hb hby d25_11) rfl ?_
    refine XS.iloadN X3.here hx rfl (hb hby d25_12) rfl ?_
    refine XS.isub X3.here hx rfl (hb hby d25_13) rfl ?_
    refine XS.ifNo X3.here hx rfl (hb hby d25_14) rfl ((if0 _ _).trans (tlt (own_ygt0 (by omega) hca)).2.2.2) ?_
    refine XS.aloadN X3.here hx rfl (hb hby d25_17) rfl rfl ?_
    refine XS.aloadN X3.here hx rfl (hb hby d25_18) rfl rfl ?_
    refine st4 _ ?_
    refine XS.aloadN X4.here hx rfl (hb hby d25_22) rfl rfl ?_
    refine XS.iloadN X4.here hx rfl (hb hby d25_23) rfl ?_
    refine st5.trans ?_
    show Steps p.tables e below (T5.setTop (mkF m 27 #[.val (.ref a1), .val (.int (Int32.ofNat az)), .val (.int (Int32.ofNat cz))] [(.int r5), (.ref vb), (.ref a1)])) _
    rw [hr5]
    show Steps p.tables e below (T5.setTop (mkF m 27 #[.val (.ref a1), .val (.int (Int32.ofNat az)), .val (.int (Int32.ofNat cz))] [(.int (Int32.ofNat (cz + (cz + 2)))), (.ref vb), (.ref a1)])) _
    refine XS.aloadN X5.here hx rfl (hb hby d25_27) rfl rfl ?_
    refine st6 _ ?_
    refine XS.ishl X6.here hx rfl (hb hby d25_31) rfl ?_
    show Steps p.tables e below (T6.setTop (mkF m 32 #[.val (.ref a1), .val (.int (Int32.ofNat az)), .val (.int (Int32.ofNat cz))] [(.int ((Int32.ofNat (cz + (cz + 2))) <<< ((0 : Int32) &&& 31))), (.ref vb), (.ref a1)])) _
    rw [(own_sl0 _)]
    show Steps p.tables e below (T6.setTop (mkF m 32 #[.val (.ref a1), .val (.int (Int32.ofNat az)), .val (.int (Int32.ofNat cz))] [(.int (Int32.ofNat (cz + (cz + 2)))), (.ref vb), (.ref a1)])) _
    refine st7 _ ?_
    refine st12 _ ?_
    show Steps p.tables e below (T12.setTop (mkF m 38 #[.val (.ref a1), .val (.int (Int32.ofNat az)), .val (.int (Int32.ofNat cz))] [])) _
    exact X12.returnOut hx Bd.returns (hb hby d25_38) hr
  · show QrEg Z a1 p2 vb kb cz nz vl az h0 n0 _ T12.heap _
    have f13 := (f10.wr W12)
    have f14 := ((FC.keep KC7 nin0).other W12 (Or.inr (slot_ne (Or.inl (hw _ (own_w 126 rfl))) (Or.inl (hw _ (own_w 124 rfl))) (by decide) (t := .byte) (t' := (.array .byte)) (by decide) (by decide))))
    have f15 := ((FN.keep KC7 nin0).other W12 (Or.inr (slot_ne (Or.inl (hw _ (own_w 140 rfl))) (Or.inl (hw _ (own_w 124 rfl))) (by decide) (t := .int) (t' := (.array .byte)) (by decide) (by decide))))
    have f16 := (V7.other W12 (Ne.symm ne8))
    rw [e12]
    exact ⟨o7, _, _, rfl, N12, K12, go7, (Nat.le_trans (Keep.refl h0 [a1]).1 gk7), ne8, hv7, f13, Fw12, f14, f15, f16⟩
theorem d27_0 : decode jdk_68_method_71_code 0 = .ok (.getstatic 18, 3) := by decide +kernel
theorem d27_3 : decode jdk_68_method_71_code 3 = .ok (.ifCond .eq 18, 3) := by decide +kernel
theorem d27_6 : decode jdk_68_method_71_code 6 = .ok (.aload_n 0, 1) := by decide +kernel
theorem d27_7 : decode jdk_68_method_71_code 7 = .ok (.getfield 22, 3) := by decide +kernel
theorem d27_10 : decode jdk_68_method_71_code 10 = .ok (.aload_n 1, 1) := by decide +kernel
theorem d27_11 : decode jdk_68_method_71_code 11 = .ok (.invokevirtual 40, 3) := by decide +kernel
theorem d27_14 : decode jdk_68_method_71_code 14 = .ok (.if_icmp .eq 7, 3) := by decide +kernel
theorem d27_21 : decode jdk_68_method_71_code 21 = .ok (.return_, 1) := by decide +kernel
theorem pn_27 : plainName "java/lang/AbstractStringBuilder" = true := by first | (simp [plainName, overriddenIn]; done) | decide +kernel
theorem ef_rIn (m : MethodId) (a1 : Addr) (a2 : Addr) : entryFrame m #[(.ref a1), (.ref a2)] 2 = mkF m 0 #[.val (.ref a1), .val (.ref a2)] [] := by first | (simp [entryFrame, mkF, argsToLocals, Value.category]; done) | rfl
def QrIn (Z : State) (a1 : Addr) (a2 : Addr) (G1 : Int32) (h0 : Heap) (n0 : Nat) (v : Option Value) (h : Heap) (L : List Loc) : Prop := v = none ∧ Fr n0 L ∧ h = h0
set_option maxRecDepth 65536 in
set_option maxHeartbeats 40000000 in
theorem rIn (l : Launch) (Z : State) (a0 : Array Value) (hw : ∀ d ∈ tables_1, d.before a0 Z = true) (ws : List Jvm.Cond) (a1 : Addr) (a2 : Addr) (G1 : Int32) (h0 : Heap) (n0 : Nat) (Z0 : n0 ≤ h0.size) (X00 : Old Z n0 h0) (O_2 : Sta Z Z.heap "java/lang/String" "COMPACT_STRINGS" "Z" (.int G1)) (P5 : ¬ (G1 = (0 : Int32))) (FB : Fld Z h0 a1 "java/lang/AbstractStringBuilder" "coder" "B" (.int (0 : Int32))) (ES : Exa Z h0 a2 "java/lang/String") (FC : Fld Z h0 a2 "java/lang/String" "coder" "B" (.int (0 : Int32))) :
    MetFree l (⟨"java/lang/AbstractStringBuilder", "inflateIfNeededFor", "(Ljava/lang/String;)V"⟩ : MethodName) (head1 (Jvm.Cond.code (⟨"java/lang/AbstractStringBuilder", "inflateIfNeededFor", "(Ljava/lang/String;)V"⟩ : MethodName) jdk_68_method_71_code 2 none :: ws) ({ frames := 1, cells := 0, slots := 0, locals := 13 } : Room)) (fun a U => a = #[(.ref a1), (.ref a2)] ∧ Z.Warmed39 U.vm ∧ U.heap = h0) (fun _ _ _ _ _ => True) (fun _ U o U' => ∃ v L, o = .returned v ∧ QrIn Z a1 a2 G1 h0 n0 v U'.heap L ∧ FrameEnd U o U' L ({ frames := 1, cells := 0, slots := 0, locals := 13 } : Room).cells ({ frames := 1, cells := 0, slots := 0, locals := 13 } : Room).slots) := by
  refine MetFree.of_bodySF (plainFor_of_name pn_27) hisR ?_
  intro p e s m args below meth c s₁ Bd hml0 hP hK
  obtain ⟨rfl, hZ, hh⟩ := hP
  have hx := Bd.exec
  have hby := Bd.bytes
  have hml : c.maxLocals = 2 := hml0
  have hown : s.vm.findClass "java/lang/AbstractStringBuilder" = some m.cls := findClass_of_methodNamed Bd.named
  have hnm := (name_of_methodNamed Bd.named Bd.method).1
  have X0 : Stand p l e ({ frames := 1, cells := 0, slots := 0, locals := 13 } : Room) s m #[(.ref a1), (.ref a2)] below meth c s₁ [] 0 0 := Stand.of_body Bd
  have e0 : s₁.heap = h0 := by rw [← hh, Bd.state]; rfl
  have N0 := Fr.nil n0
  have pre0 : ∀ t, Steps p.tables e below (s₁.setTop (mkF m 0 #[.val (.ref a1), .val (.ref a2)] [])) t → Steps p.tables e below (s₁.setTop (entryFrame m #[(.ref a1), (.ref a2)] 2)) t := fun t k => castTop (ef_rIn m a1 a2) k
  obtain ⟨T1, X1, e1, st1⟩ := getS2 X0 hx hZ hown (host := "") (Or.inl (hw _ (own_w 122 rfl))) Via.refl e0 (O_2.ext X00.2) (g := (mkF m 0 #[.val (.ref a1), .val (.ref a2)] [])) rfl (hb hby d27_0)
  obtain ⟨T2, X2, e2, st2⟩ := getF X1 hx hZ hown (host := "") (Or.inl (hw _ (own_w 125 rfl))) Via.refl e1 FB (g := (mkF m 7 #[.val (.ref a1), .val (.ref a2)] [(.ref a1)])) rfl rfl (hb hby d27_7)
  obtain ⟨cq3, kz3, q3a, q3b, q3c⟩ := isOf hZ e2 ES
  obtain ⟨_, _, ⟨T3, Lq3, kq3, nq3⟩, -, X3, ⟨Lc3, hQ3, lq3, yq3, zq3⟩, st3⟩ := X2.virtualBack hx (y := (⟨"java/lang/String", "coder", "()B"⟩ : MethodName)) (z := (⟨"java/lang/String", "coder", "()B"⟩ : MethodName)) hown (mvT hZ (hw _ (own_w 156 rfl))) (mvT hZ (hw _ (own_w 82 rfl))) (notFace_of_selects (args := #[]) (mvT hZ (hw _ (own_w 84 rfl)))) (mvT hZ (hw _ (own_w 84 rfl))) (mvT hZ (hw _ (own_w 83 rfl))) (by decide) (backOf (W := 1) (rCo l Z a0 hw [] a2 G1 h0 n0 Z0 X00 O_2 P5 FC) hZ (hw _ (own_w 85 rfl)) (hw _ (own_w 5 rfl)) (by decide) (by decide)) q3a q3c (g := (mkF m 11 #[.val (.ref a1), .val (.ref a2)] [(.ref a2), (.int (0 : Int32))])) rfl (by rw [hml]; rfl) (Steps.refl _) (argsL := []) (rest := [(.int (0 : Int32))]) (lenOf pd_0 rfl) rfl (by show 2 * 0 + _ ≤ _; exact Nat.le_of_eq rfl) (hb hby d27_11) (fun _ _ => ⟨rfl, e2, (by decide : 0 + 0 ≤ _), (by decide : 0 + 0 ≤ _)⟩)
  dsimp only [Pt.U, Pt.locs, Pt.cells, Pt.slots] at X3 lq3 yq3 zq3 st3 hQ3
  subst lq3 yq3 zq3
  obtain ⟨r3, hr3, rfl, N3q, e3⟩ := hQ3
  have N3 := Fr.app N0 N3q
  subst hr3
  obtain ⟨fs, hr, hrun, hended, hW, hsame⟩ := X3.leave (v := none) (fun _ => rfl) (BodyLoose.notSynchronized Bd)
  refine ⟨_, _, pre0 _ ?_, hrun, hended, _, _, rfl, ?_, ⟨_, rfl⟩, hW, hsame.mono (by decide) (by decide)⟩
  · show Steps p.tables e below (s₁.setTop (mkF m 0 #[.val (.ref a1), .val (.ref a2)] [])) _
    refine st1 _ ?_
    refine XS.ifNo X1.here hx rfl (hb hby d27_3) rfl ((if0 _ _).trans (feq P5).1) ?_
    refine XS.aloadN X1.here hx rfl (hb hby d27_6) rfl rfl ?_
    refine st2 _ ?_
    refine XS.aloadN X2.here hx rfl (hb hby d27_10) rfl rfl ?_
    refine st3.trans ?_
    refine XS.icmpYes X3.here hx rfl (pc0 := 14) (pc' := 21) rfl (hb hby d27_14) rfl (teq (by decide)).1 (by decide) (by decide) ?_
    show Steps p.tables e below (T3.setTop (mkF m 21 #[.val (.ref a1), .val (.ref a2)] [])) _
    exact X3.returnOut hx Bd.returns (hb hby d27_21) hr
  · show QrIn Z a1 a2 G1 h0 n0 _ T3.heap _
    exact ⟨rfl, N3, e3⟩
theorem d28_0 : decode jdk_42_method_147_code 0 = .ok (.aload_n 0, 1) := by decide +kernel
theorem d28_1 : decode jdk_42_method_147_code 1 = .ok (.invokevirtual 335, 3) := by decide +kernel
theorem d28_4 : decode jdk_42_method_147_code 4 = .ok (.iload_n 3, 1) := by decide +kernel
theorem d28_5 : decode jdk_42_method_147_code 5 = .ok (.if_icmp .ne 23, 3) := by decide +kernel
theorem d28_8 : decode jdk_42_method_147_code 8 = .ok (.aload_n 0, 1) := by decide +kernel
theorem d28_9 : decode jdk_42_method_147_code 9 = .ok (.getfield 9, 3) := by decide +kernel
theorem d28_12 : decode jdk_42_method_147_code 12 = .ok (.iconst 0, 1) := by decide +kernel
theorem d28_13 : decode jdk_42_method_147_code 13 = .ok (.aload_n 1, 1) := by decide +kernel
theorem d28_14 : decode jdk_42_method_147_code 14 = .ok (.iload_n 2, 1) := by decide +kernel
theorem d28_15 : decode jdk_42_method_147_code 15 = .ok (.iload_n 3, 1) := by decide +kernel
theorem d28_16 : decode jdk_42_method_147_code 16 = .ok (.ishl, 1) := by decide +kernel
theorem d28_17 : decode jdk_42_method_147_code 17 = .ok (.aload_n 0, 1) := by decide +kernel
theorem d28_18 : decode jdk_42_method_147_code 18 = .ok (.getfield 9, 3) := by decide +kernel
theorem d28_21 : decode jdk_42_method_147_code 21 = .ok (.arraylength, 1) := by decide +kernel
theorem d28_22 : decode jdk_42_method_147_code 22 = .ok (.invokestatic 212, 3) := by decide +kernel
theorem d28_25 : decode jdk_42_method_147_code 25 = .ok (.goto 18, 3) := by decide +kernel
theorem d28_43 : decode jdk_42_method_147_code 43 = .ok (.return_, 1) := by decide +kernel
theorem pn_28 : plainName "java/lang/String" = true := by first | (simp [plainName, overriddenIn]; done) | decide +kernel
theorem ef_rGB (m : MethodId) (a1 : Addr) (a2 : Addr) (p3 : Int32) : entryFrame m #[(.ref a1), (.ref a2), (.int p3), (.int (0 : Int32))] 4 = mkF m 0 #[.val (.ref a1), .val (.ref a2), .val (.int p3), .val (.int (0 : Int32))] [] := by first | (simp [entryFrame, mkF, argsToLocals, Value.category]; done) | rfl
def QrGB (Z : State) (a1 : Addr) (a2 : Addr) (p3 : Int32) (kb : ClassId) (cz : Nat) (nz : Nat) (vl : List Value) (wb : Addr) (kw : ClassId) (mz : Nat) (wl : List Value) (G1 : Int32) (h0 : Heap) (n0 : Nat) (v : Option Value) (h : Heap) (L : List Loc) : Prop := ∃ vl' : List Value, v = none ∧ Fr n0 L ∧ Keep h0 h [a2] ∧ vl'.length = cz ∧ Arv Z h a2 kb .byte (Int32.ofNat cz) (vl') (.int (0 : Int32))
set_option maxRecDepth 65536 in
set_option maxHeartbeats 40000000 in
theorem rGB (l : Launch) (Z : State) (a0 : Array Value) (hw : ∀ d ∈ tables_1, d.before a0 Z = true) (ws : List Jvm.Cond) (a1 : Addr) (a2 : Addr) (p3 : Int32) (kb : ClassId) (cz : Nat) (nz : Nat) (vl : List Value) (wb : Addr) (kw : ClassId) (mz : Nat) (wl : List Value) (G1 : Int32) (h0 : Heap) (n0 : Nat) (Z0 : n0 ≤ h0.size) (X00 : Old Z n0 h0) (O_2 : Sta Z Z.heap "java/lang/String" "COMPACT_STRINGS" "Z" (.int G1)) (P5 : ¬ (G1 = (0 : Int32))) (AV : Arv Z h0 a2 kb .byte (Int32.ofNat cz) (vl) (.int (0 : Int32))) (hvs : vl.length = cz) (gb : n0 ≤ a2) (hfit : nz + mz ≤ cz) (hc : cz < 3000) (ES : Exa Z h0 a1 "java/lang/String") (SV : Fld Z h0 a1 "java/lang/String" "value" "[B" (.ref wb)) (SC : Fld Z h0 a1 "java/lang/String" "coder" "B" (.int (0 : Int32))) (AS : Arv Z h0 wb kw .byte (Int32.ofNat mz) (wl) (.int (0 : Int32))) (hm : mz < 1000) (hp : p3 = Int32.ofNat nz) :
    MetFree l (⟨"java/lang/String", "getBytes", "([BIB)V"⟩ : MethodName) (head1 (Jvm.Cond.code (⟨"java/lang/String", "getBytes", "([BIB)V"⟩ : MethodName) jdk_42_method_147_code 4 none :: ws) ({ frames := 1, cells := 0, slots := 0, locals := 18 } : Room)) (fun a U => a = #[(.ref a1), (.ref a2), (.int p3), (.int (0 : Int32))] ∧ Z.Warmed39 U.vm ∧ U.heap = h0) (fun _ _ _ _ _ => True) (fun _ U o U' => ∃ v L, o = .returned v ∧ QrGB Z a1 a2 p3 kb cz nz vl wb kw mz wl G1 h0 n0 v U'.heap L ∧ FrameEnd U o U' L ({ frames := 1, cells := 0, slots := 0, locals := 18 } : Room).cells ({ frames := 1, cells := 0, slots := 0, locals := 18 } : Room).slots) := by
  refine MetFree.of_bodySF (plainFor_of_name pn_28) hisR ?_
  intro p e s m args below meth c s₁ Bd hml0 hP hK
  obtain ⟨rfl, hZ, hh⟩ := hP
  have hx := Bd.exec
  have hby := Bd.bytes
  have hml : c.maxLocals = 4 := hml0
  have hown : s.vm.findClass "java/lang/String" = some m.cls := findClass_of_methodNamed Bd.named
  have hnm := (name_of_methodNamed Bd.named Bd.method).1
  have X0 : Stand p l e ({ frames := 1, cells := 0, slots := 0, locals := 18 } : Room) s m #[(.ref a1), (.ref a2), (.int p3), (.int (0 : Int32))] below meth c s₁ [] 0 0 := Stand.of_body Bd
  have e0 : s₁.heap = h0 := by rw [← hh, Bd.state]; rfl
  have N0 := Fr.nil n0
  have pre0 : ∀ t, Steps p.tables e below (s₁.setTop (mkF m 0 #[.val (.ref a1), .val (.ref a2), .val (.int p3), .val (.int (0 : Int32))] [])) t → Steps p.tables e below (s₁.setTop (entryFrame m #[(.ref a1), (.ref a2), (.int p3), (.int (0 : Int32))] 4)) t := fun t k => castTop (ef_rGB m a1 a2 p3) k
  obtain ⟨cq1, kz1, q1a, q1b, q1c⟩ := isOf hZ e0 ES
  obtain ⟨_, _, ⟨T1, Lq1, kq1, nq1⟩, -, X1, ⟨Lc1, hQ1, lq1, yq1, zq1⟩, st1⟩ := X0.virtualBack hx (y := (⟨"java/lang/String", "coder", "()B"⟩ : MethodName)) (z := (⟨"java/lang/String", "coder", "()B"⟩ : MethodName)) hown (mvT hZ (hw _ (own_w 81 rfl))) (mvT hZ (hw _ (own_w 82 rfl))) (notFace_of_selects (args := #[]) (mvT hZ (hw _ (own_w 84 rfl)))) (mvT hZ (hw _ (own_w 84 rfl))) (mvT hZ (hw _ (own_w 83 rfl))) (by decide) (backOf (W := 0) (rCo l Z a0 hw [] a1 G1 h0 n0 Z0 X00 O_2 P5 SC) hZ (hw _ (own_w 85 rfl)) (hw _ (own_w 5 rfl)) (by decide) (by decide)) q1a q1c (g := (mkF m 1 #[.val (.ref a1), .val (.ref a2), .val (.int (Int32.ofNat nz)), .val (.int (0 : Int32))] [(.ref a1)])) rfl (by rw [hml]; rfl) (Steps.refl _) (argsL := []) (rest := []) (lenOf pd_0 rfl) rfl (by show 2 * 0 + _ ≤ _; exact Nat.le_of_eq rfl) (hb hby d28_1) (fun _ _ => ⟨rfl, e0, (by decide : 0 + 0 ≤ _), (by decide : 0 + 0 ≤ _)⟩)
  dsimp only [Pt.U, Pt.locs, Pt.cells, Pt.slots] at X1 lq1 yq1 zq1 st1 hQ1
  subst lq1 yq1 zq1
  obtain ⟨r1, hr1, rfl, N1q, e1⟩ := hQ1
  have N1 := Fr.app N0 N1q
  subst hr1
  obtain ⟨T2, X2, e2, st2⟩ := getF X1 hx hZ hown (host := "") (Or.inl (hw _ (own_w 55 rfl))) Via.refl e1 SV (g := (mkF m 9 #[.val (.ref a1), .val (.ref a2), .val (.int (Int32.ofNat nz)), .val (.int (0 : Int32))] [(.ref a1)])) rfl rfl (hb hby d28_9)
  obtain ⟨T3, X3, e3, st3⟩ := getF X2 hx hZ hown (host := "") (Or.inl (hw _ (own_w 55 rfl))) Via.refl e2 SV (g := (mkF m 18 #[.val (.ref a1), .val (.ref a2), .val (.int (Int32.ofNat nz)), .val (.int (0 : Int32))] [(.ref a1), (.int (Int32.ofNat nz)), (.ref a2), (.int (0 : Int32)), (.ref wb)])) rfl rfl (hb hby d28_18)
  obtain ⟨cl4, Ar4, qk4, Sz4, Nn4, Hh4, Gg4⟩ := id (AS)
  obtain ⟨T5, h5, L5, X5, e5, N5, KC5, V5, st5⟩ := cpA X3 hx hZ hown (hw _ (own_w 162 rfl)) (hw _ (own_w 165 rfl)) (hw _ (own_w 163 rfl)) (hw _ (own_w 164 rfl)) e3 (sp := (0 : Int32)) (dp := (Int32.ofNat nz)) (nn := (Int32.ofNat mz)) (us := (List.range (mz)).map fun i => (wl).getD (0 + i) (.int (0 : Int32))) AS AV (Or.inl ⟨rfl, rfl⟩) (by decide) (own_y0 (by omega)) (own_y0 (by omega)) (by have q1 := (show ((0 : Int32)).toNatClampNeg = 0 from by decide); have q2 := (show ((Int32.ofNat mz)).toNatClampNeg = mz from own_yN (by omega)); have q3 := (show ((Int32.ofNat mz)).toNatClampNeg = mz from own_yN (by omega)); omega) (by have q1 := (show ((Int32.ofNat nz)).toNatClampNeg = nz from own_yN (by omega)); have q2 := (show ((Int32.ofNat mz)).toNatClampNeg = mz from own_yN (by omega)); have q3 := (show ((Int32.ofNat cz)).toNatClampNeg = cz from own_yN (by omega)); omega) (by rw [(show ((0 : Int32)).toNatClampNeg = 0 from by decide), (show ((Int32.ofNat mz)).toNatClampNeg = mz from own_yN (by omega))]) (by have q1 := (show ((Int32.ofNat nz)).toNatClampNeg = nz from own_yN (by omega)); have q2 := (show ((Int32.ofNat mz)).toNatClampNeg = mz from own_yN (by omega)); have q3 := (show (vl : List Value).length = cz from hvs); omega) N1 gb (g := (mkF m 22 #[.val (.ref a1), .val (.ref a2), .val (.int (Int32.ofNat nz)), .val (.int (0 : Int32))] [(.int (Int32.ofNat mz)), (.int (Int32.ofNat nz)), (.ref a2), (.int (0 : Int32)), (.ref wb)])) rfl (by rw [hml]; rfl) rfl (hb hby d28_22) (by decide) (W := 0) (by show 2 * 0 + _ ≤ _; exact Nat.le_of_eq rfl) (by decide)
  obtain ⟨vl5, Vc5, hv5⟩ : ∃ vl', Arv Z h5 a2 kb .byte (Int32.ofNat cz) (vl') (.int (0 : Int32)) ∧ vl'.length = cz := ⟨_, V5, own_cpl hvs (show ((Int32.ofNat nz)).toNatClampNeg = nz from own_yN (by omega)) (show ((Int32.ofNat mz)).toNatClampNeg = mz from own_yN (by omega)) (by simp) (by omega)⟩
  have Z5 : n0 ≤ h5.size := Nat.le_trans Z0 KC5.1
  have K5 : Keep h0 h5 [a2] := (Keep.refl h0 [a2]).trans KC5 (allS (Or.inl (own_w 0 rfl)) all0)
  obtain ⟨fs, hr, hrun, hended, hW, hsame⟩ := X5.leave (v := none) (fun _ => rfl) (BodyLoose.notSynchronized Bd)
  refine ⟨_, _, pre0 _ ?_, hrun, hended, _, _, rfl, ?_, ⟨_, rfl⟩, hW, hsame.mono (by decide) (by decide)⟩
  · show Steps p.tables e below (s₁.setTop (mkF m 0 #[.val (.ref a1), .val (.ref a2), .val (.int p3), .val (.int (0 : Int32))] [])) _
    rw [hp]
    show Steps p.tables e below (s₁.setTop (mkF m 0 #[.val (.ref a1), .val (.ref a2), .val (.int (Int32.ofNat nz)), .val (.int (0 : Int32))] [])) _
    refine XS.aloadN X0.here hx rfl (hb hby d28_0) rfl rfl ?_
    refine st1.trans ?_
    refine XS.iloadN X1.here hx rfl (hb hby d28_4) rfl ?_
    refine XS.icmpNo X1.here hx rfl (hb hby d28_5) rfl (teq (by decide)).2 ?_
    refine XS.aloadN X1.here hx rfl (hb hby d28_8) rfl rfl ?_
    refine st2 _ ?_
    refine XS.iconst X2.here hx rfl (hb hby d28_12) ?_
    refine XS.aloadN X2.here hx rfl (hb hby d28_13) rfl rfl ?_
    refine XS.iloadN X2.here hx rfl (hb hby d28_14) rfl ?_
    refine XS.iloadN X2.here hx rfl (hb hby d28_15) rfl ?_
    refine XS.ishl X2.here hx rfl (hb hby d28_16) rfl ?_
    show Steps p.tables e below (T2.setTop (mkF m 17 #[.val (.ref a1), .val (.ref a2), .val (.int (Int32.ofNat nz)), .val (.int (0 : Int32))] [(.int ((Int32.ofNat nz) <<< ((0 : Int32) &&& 31))), (.ref a2), (.int (0 : Int32)), (.ref wb)])) _
    rw [(own_sl0 _)]
    show Steps p.tables e below (T2.setTop (mkF m 17 #[.val (.ref a1), .val (.ref a2), .val (.int (Int32.ofNat nz)), .val (.int (0 : Int32))] [(.int (Int32.ofNat nz)), (.ref a2), (.int (0 : Int32)), (.ref wb)])) _
    refine XS.aloadN X2.here hx rfl (hb hby d28_17) rfl rfl ?_
    refine st3 _ ?_
    refine X3.arraylength hx (by rw [e3]; exact Ar4.1) (State.isArrayOf_alike hZ.alike Ar4.2.1) (g := (mkF m 21 #[.val (.ref a1), .val (.ref a2), .val (.int (Int32.ofNat nz)), .val (.int (0 : Int32))] [(.ref wb), (.int (Int32.ofNat nz)), (.ref a2), (.int (0 : Int32)), (.ref wb)])) rfl rfl (hb hby d28_21) _ ?_
    rw [len_of Sz4 Nn4]
    show Steps p.tables e below (T3.setTop (mkF m 22 #[.val (.ref a1), .val (.ref a2), .val (.int (Int32.ofNat nz)), .val (.int (0 : Int32))] [(.int (Int32.ofNat mz)), (.int (Int32.ofNat nz)), (.ref a2), (.int (0 : Int32)), (.ref wb)])) _
    refine st5 _ ?_
    refine XS.goto X5.here hx rfl (pc0 := 25) (pc' := 43) rfl (hb hby d28_25) (by decide) (by decide) ?_
    show Steps p.tables e below (T5.setTop (mkF m 43 #[.val (.ref a1), .val (.ref a2), .val (.int (Int32.ofNat nz)), .val (.int (0 : Int32))] [])) _
    exact X5.returnOut hx Bd.returns (hb hby d28_43) hr
  · show QrGB Z a1 a2 p3 kb cz nz vl wb kw mz wl G1 h0 n0 _ T5.heap _
    rw [e5]
    exact ⟨_, rfl, N5, K5, hv5, Vc5⟩
theorem pd_6 : parseMethodDescriptor "(Ljava/lang/String;)V" = some ⟨[(.object "java/lang/String")], none⟩ := by decide +kernel
theorem pd_7 : parseMethodDescriptor "([BIB)V" = some ⟨[(.array .byte), .int, .byte], none⟩ := by decide +kernel
theorem d26_0 : decode jdk_68_method_73_code 0 = .ok (.aload_n 0, 1) := by decide +kernel
theorem d26_1 : decode jdk_68_method_73_code 1 = .ok (.aload_n 2, 1) := by decide +kernel
theorem d26_2 : decode jdk_68_method_73_code 2 = .ok (.invokevirtual 397, 3) := by decide +kernel
theorem d26_5 : decode jdk_68_method_73_code 5 = .ok (.aload_n 2, 1) := by decide +kernel
theorem d26_6 : decode jdk_68_method_73_code 6 = .ok (.aload_n 0, 1) := by decide +kernel
theorem d26_7 : decode jdk_68_method_73_code 7 = .ok (.getfield 15, 3) := by decide +kernel
theorem d26_10 : decode jdk_68_method_73_code 10 = .ok (.iload_n 1, 1) := by decide +kernel
theorem d26_11 : decode jdk_68_method_73_code 11 = .ok (.aload_n 0, 1) := by decide +kernel
theorem d26_12 : decode jdk_68_method_73_code 12 = .ok (.getfield 22, 3) := by decide +kernel
theorem d26_15 : decode jdk_68_method_73_code 15 = .ok (.invokevirtual 399, 3) := by decide +kernel
theorem d26_18 : decode jdk_68_method_73_code 18 = .ok (.return_, 1) := by decide +kernel
theorem pn_26 : plainName "java/lang/AbstractStringBuilder" = true := by first | (simp [plainName, overriddenIn]; done) | decide +kernel
theorem ef_rPS (m : MethodId) (a1 : Addr) (p2 : Int32) (a3 : Addr) : entryFrame m #[(.ref a1), (.int p2), (.ref a3)] 3 = mkF m 0 #[.val (.ref a1), .val (.int p2), .val (.ref a3)] [] := by first | (simp [entryFrame, mkF, argsToLocals, Value.category]; done) | rfl
def QrPS (Z : State) (a1 : Addr) (p2 : Int32) (a3 : Addr) (vb : Addr) (kb : ClassId) (cz : Nat) (nz : Nat) (vl : List Value) (wb : Addr) (kw : ClassId) (mz : Nat) (wl : List Value) (G1 : Int32) (h0 : Heap) (n0 : Nat) (v : Option Value) (h : Heap) (L : List Loc) : Prop := ∃ vl' : List Value, v = none ∧ Fr n0 L ∧ Keep h0 h [vb] ∧ vl'.length = cz ∧ Arv Z h vb kb .byte (Int32.ofNat cz) (vl') (.int (0 : Int32))
set_option maxRecDepth 65536 in
set_option maxHeartbeats 40000000 in
theorem rPS (l : Launch) (Z : State) (a0 : Array Value) (hw : ∀ d ∈ tables_1, d.before a0 Z = true) (ws : List Jvm.Cond) (a1 : Addr) (p2 : Int32) (a3 : Addr) (vb : Addr) (kb : ClassId) (cz : Nat) (nz : Nat) (vl : List Value) (wb : Addr) (kw : ClassId) (mz : Nat) (wl : List Value) (G1 : Int32) (h0 : Heap) (n0 : Nat) (Z0 : n0 ≤ h0.size) (X00 : Old Z n0 h0) (O_2 : Sta Z Z.heap "java/lang/String" "COMPACT_STRINGS" "Z" (.int G1)) (P5 : ¬ (G1 = (0 : Int32))) (E : Exa Z h0 a1 "java/lang/StringBuilder") (FV : Fld Z h0 a1 "java/lang/AbstractStringBuilder" "value" "[B" (.ref vb)) (FC : Fld Z h0 a1 "java/lang/AbstractStringBuilder" "coder" "B" (.int (0 : Int32))) (AV : Arv Z h0 vb kb .byte (Int32.ofNat cz) (vl) (.int (0 : Int32))) (hvs : vl.length = cz) (gb : n0 ≤ vb) (hfit : nz + mz ≤ cz) (hc : cz < 3000) (ES : Exa Z h0 a3 "java/lang/String") (SV : Fld Z h0 a3 "java/lang/String" "value" "[B" (.ref wb)) (SC : Fld Z h0 a3 "java/lang/String" "coder" "B" (.int (0 : Int32))) (AS : Arv Z h0 wb kw .byte (Int32.ofNat mz) (wl) (.int (0 : Int32))) (hm : mz < 1000) (hp : p2 = Int32.ofNat nz) :
    MetFree l (⟨"java/lang/AbstractStringBuilder", "putStringAt", "(ILjava/lang/String;)V"⟩ : MethodName) (head1 (Jvm.Cond.code (⟨"java/lang/AbstractStringBuilder", "putStringAt", "(ILjava/lang/String;)V"⟩ : MethodName) jdk_68_method_73_code 3 none :: ws) ({ frames := 2, cells := 0, slots := 0, locals := 33 } : Room)) (fun a U => a = #[(.ref a1), (.int p2), (.ref a3)] ∧ Z.Warmed39 U.vm ∧ U.heap = h0) (fun _ _ _ _ _ => True) (fun _ U o U' => ∃ v L, o = .returned v ∧ QrPS Z a1 p2 a3 vb kb cz nz vl wb kw mz wl G1 h0 n0 v U'.heap L ∧ FrameEnd U o U' L ({ frames := 2, cells := 0, slots := 0, locals := 33 } : Room).cells ({ frames := 2, cells := 0, slots := 0, locals := 33 } : Room).slots) := by
  refine MetFree.of_bodySF (plainFor_of_name pn_26) hisR ?_
  intro p e s m args below meth c s₁ Bd hml0 hP hK
  obtain ⟨rfl, hZ, hh⟩ := hP
  have hx := Bd.exec
  have hby := Bd.bytes
  have hml : c.maxLocals = 3 := hml0
  have hown : s.vm.findClass "java/lang/AbstractStringBuilder" = some m.cls := findClass_of_methodNamed Bd.named
  have hnm := (name_of_methodNamed Bd.named Bd.method).1
  have X0 : Stand p l e ({ frames := 2, cells := 0, slots := 0, locals := 33 } : Room) s m #[(.ref a1), (.int p2), (.ref a3)] below meth c s₁ [] 0 0 := Stand.of_body Bd
  have e0 : s₁.heap = h0 := by rw [← hh, Bd.state]; rfl
  have N0 := Fr.nil n0
  have pre0 : ∀ t, Steps p.tables e below (s₁.setTop (mkF m 0 #[.val (.ref a1), .val (.int p2), .val (.ref a3)] [])) t → Steps p.tables e below (s₁.setTop (entryFrame m #[(.ref a1), (.int p2), (.ref a3)] 3)) t := fun t k => castTop (ef_rPS m a1 p2 a3) k
  obtain ⟨cq1, qq1, qq1'⟩ := E.cell
  obtain ⟨_, _, ⟨T1, Lq1, kq1, nq1⟩, -, X1, ⟨Lc1, hQ1, lq1, yq1, zq1⟩, st1⟩ := X0.privateBack hx (y := (⟨"java/lang/AbstractStringBuilder", "inflateIfNeededFor", "(Ljava/lang/String;)V"⟩ : MethodName)) hown (mvT hZ (hw _ (own_w 151 rfl))) (mvT hZ (hw _ (own_w 152 rfl))) (own_selpriv2 (mvT hZ (hw _ (own_w 154 rfl))) (Cond.privateMethod_at (mvP hZ (hw _ (own_w 153 rfl)) (args := #[]))) (mvT hZ (hw _ (own_w 152 rfl))) (by decide)) (Cond.privateMethod_at (mvP hZ (hw _ (own_w 153 rfl)) (args := #[]))) (mvT hZ (hw _ (own_w 155 rfl))) (by decide) (backOf (W := 0) (rIn l Z a0 hw [] a1 a3 G1 h0 n0 Z0 X00 O_2 P5 FC ES SC) hZ (hw _ (own_w 155 rfl)) (hw _ (own_w 119 rfl)) (by decide) (by decide)) (g := (mkF m 2 #[.val (.ref a1), .val (.int (Int32.ofNat nz)), .val (.ref a3)] [(.ref a3), (.ref a1)])) rfl (by rw [hml]; rfl) (Steps.refl _) (a := a1) (by rw [e0]; exact qq1) qq1' (argsL := [(.ref a3)]) (rest := []) (lenOf pd_6 rfl) rfl (by show 2 * 0 + _ ≤ _; exact Nat.le_of_eq rfl) (hb hby d26_2) (fun _ _ => ⟨rfl, e0, (by decide : 0 + 0 ≤ _), (by decide : 0 + 0 ≤ _)⟩)
  dsimp only [Pt.U, Pt.locs, Pt.cells, Pt.slots] at X1 lq1 yq1 zq1 st1 hQ1
  subst lq1 yq1 zq1
  obtain ⟨rfl, N1q, e1⟩ := hQ1
  have N1 := Fr.app N0 N1q
  obtain ⟨T2, X2, e2, st2⟩ := getF X1 hx hZ hown (host := "") (Or.inl (hw _ (own_w 123 rfl))) Via.refl e1 FV (g := (mkF m 7 #[.val (.ref a1), .val (.int (Int32.ofNat nz)), .val (.ref a3)] [(.ref a1), (.ref a3)])) rfl rfl (hb hby d26_7)
  obtain ⟨T3, X3, e3, st3⟩ := getF X2 hx hZ hown (host := "") (Or.inl (hw _ (own_w 125 rfl))) Via.refl e2 FC (g := (mkF m 12 #[.val (.ref a1), .val (.int (Int32.ofNat nz)), .val (.ref a3)] [(.ref a1), (.int (Int32.ofNat nz)), (.ref vb), (.ref a3)])) rfl rfl (hb hby d26_12)
  obtain ⟨cq4, kz4, q4a, q4b, q4c⟩ := isOf hZ e3 ES
  obtain ⟨_, _, ⟨T4, Lq4, kq4, nq4⟩, -, X4, ⟨Lc4, hQ4, lq4, yq4, zq4⟩, st4⟩ := X3.virtualBack hx (y := (⟨"java/lang/String", "getBytes", "([BIB)V"⟩ : MethodName)) (z := (⟨"java/lang/String", "getBytes", "([BIB)V"⟩ : MethodName)) hown (mvT hZ (hw _ (own_w 157 rfl))) (mvT hZ (hw _ (own_w 158 rfl))) (notFace_of_selects (args := #[]) (mvT hZ (hw _ (own_w 160 rfl)))) (mvT hZ (hw _ (own_w 160 rfl))) (mvT hZ (hw _ (own_w 159 rfl))) (by decide) (backOf (W := 0) (rGB l Z a0 hw [] a3 vb (Int32.ofNat nz) kb cz nz vl wb kw (mz) (wl) G1 h0 n0 Z0 X00 O_2 P5 AV hvs gb hfit hc ES SV SC AS hm rfl) hZ (hw _ (own_w 161 rfl)) (hw _ (own_w 5 rfl)) (by decide) (by decide)) q4a q4c (g := (mkF m 15 #[.val (.ref a1), .val (.int (Int32.ofNat nz)), .val (.ref a3)] [(.int (0 : Int32)), (.int (Int32.ofNat nz)), (.ref vb), (.ref a3)])) rfl (by rw [hml]; rfl) (Steps.refl _) (argsL := [(.ref vb), (.int (Int32.ofNat nz)), (.int (0 : Int32))]) (rest := []) (lenOf pd_7 rfl) rfl (by show 2 * 0 + _ ≤ _; exact Nat.le_of_eq rfl) (hb hby d26_15) (fun _ _ => ⟨rfl, e3, (by decide : 0 + 0 ≤ _), (by decide : 0 + 0 ≤ _)⟩)
  dsimp only [Pt.U, Pt.locs, Pt.cells, Pt.slots] at X4 lq4 yq4 zq4 st4 hQ4
  subst lq4 yq4 zq4
  obtain ⟨vl4, rfl, N4q, KC4, hv4, V4⟩ := hQ4
  have N4 := Fr.app N1 N4q
  have Z4 : n0 ≤ T4.heap.size := Nat.le_trans Z0 KC4.1
  have K4 : Keep h0 T4.heap [vb] := (Keep.refl h0 [vb]).trans KC4 (allS (Or.inl (own_w 0 rfl)) all0)
  obtain ⟨fs, hr, hrun, hended, hW, hsame⟩ := X4.leave (v := none) (fun _ => rfl) (BodyLoose.notSynchronized Bd)
  refine ⟨_, _, pre0 _ ?_, hrun, hended, _, _, rfl, ?_, ⟨_, rfl⟩, hW, hsame.mono (by decide) (by decide)⟩
  · show Steps p.tables e below (s₁.setTop (mkF m 0 #[.val (.ref a1), .val (.int p2), .val (.ref a3)] [])) _
    rw [hp]
    show Steps p.tables e below (s₁.setTop (mkF m 0 #[.val (.ref a1), .val (.int (Int32.ofNat nz)), .val (.ref a3)] [])) _
    refine XS.aloadN X0.here hx rfl (hb hby d26_0) rfl rfl ?_
    refine XS.aloadN X0.here hx rfl (hb hby d26_1) rfl rfl ?_
    refine st1.trans ?_
    refine XS.aloadN X1.here hx rfl (hb hby d26_5) rfl rfl ?_
    refine XS.aloadN X1.here hx rfl (hb hby d26_6) rfl rfl ?_
    refine st2 _ ?_
    refine XS.iloadN X2.here hx rfl (hb hby d26_10) rfl ?_
    refine XS.aloadN X2.here hx rfl (hb hby d26_11) rfl rfl ?_
    refine st3 _ ?_
    refine st4.trans ?_
    show Steps p.tables e below (T4.setTop (mkF m 18 #[.val (.ref a1), .val (.int (Int32.ofNat nz)), .val (.ref a3)] [])) _
    exact X4.returnOut hx Bd.returns (hb hby d26_18) hr
  · show QrPS Z a1 p2 a3 vb kb cz nz vl wb kw mz wl G1 h0 n0 _ T4.heap _
    exact ⟨_, rfl, N4, K4, hv4, V4⟩
theorem pd_8 : parseMethodDescriptor "()I" = some ⟨[], some .int⟩ := by decide +kernel
theorem pd_9 : parseMethodDescriptor "(ILjava/lang/String;)V" = some ⟨[.int, (.object "java/lang/String")], none⟩ := by decide +kernel
theorem d24_0 : decode jdk_68_method_22_code 0 = .ok (.aload_n 1, 1) := by decide +kernel
theorem d24_1 : decode jdk_68_method_22_code 1 = .ok (.ifnonnull 8, 3) := by decide +kernel
theorem d24_9 : decode jdk_68_method_22_code 9 = .ok (.aload_n 1, 1) := by decide +kernel
theorem d24_10 : decode jdk_68_method_22_code 10 = .ok (.invokevirtual 32, 3) := by decide +kernel
theorem d24_13 : decode jdk_68_method_22_code 13 = .ok (.istore_n 2, 1) := by decide +kernel
theorem d24_14 : decode jdk_68_method_22_code 14 = .ok (.aload_n 0, 1) := by decide +kernel
theorem d24_15 : decode jdk_68_method_22_code 15 = .ok (.aload_n 0, 1) := by decide +kernel
theorem d24_16 : decode jdk_68_method_22_code 16 = .ok (.getfield 79, 3) := by decide +kernel
theorem d24_19 : decode jdk_68_method_22_code 19 = .ok (.iload_n 2, 1) := by decide +kernel
theorem d24_20 : decode jdk_68_method_22_code 20 = .ok (.iadd, 1) := by decide +kernel
theorem d24_21 : decode jdk_68_method_22_code 21 = .ok (.invokevirtual 100, 3) := by decide +kernel
theorem d24_24 : decode jdk_68_method_22_code 24 = .ok (.aload_n 0, 1) := by decide +kernel
theorem d24_25 : decode jdk_68_method_22_code 25 = .ok (.aload_n 0, 1) := by decide +kernel
theorem d24_26 : decode jdk_68_method_22_code 26 = .ok (.getfield 79, 3) := by decide +kernel
theorem d24_29 : decode jdk_68_method_22_code 29 = .ok (.aload_n 1, 1) := by decide +kernel
theorem d24_30 : decode jdk_68_method_22_code 30 = .ok (.invokevirtual 208, 3) := by decide +kernel
theorem d24_33 : decode jdk_68_method_22_code 33 = .ok (.aload_n 0, 1) := by decide +kernel
theorem d24_34 : decode jdk_68_method_22_code 34 = .ok (.dup, 1) := by decide +kernel
theorem d24_35 : decode jdk_68_method_22_code 35 = .ok (.getfield 79, 3) := by decide +kernel
theorem d24_38 : decode jdk_68_method_22_code 38 = .ok (.iload_n 2, 1) := by decide +kernel
theorem d24_39 : decode jdk_68_method_22_code 39 = .ok (.iadd, 1) := by decide +kernel
theorem d24_40 : decode jdk_68_method_22_code 40 = .ok (.putfield 79, 3) := by decide +kernel
theorem d24_43 : decode jdk_68_method_22_code 43 = .ok (.aload_n 0, 1) := by decide +kernel
theorem d24_44 : decode jdk_68_method_22_code 44 = .ok (.areturn, 1) := by decide +kernel
theorem pn_24 : plainName "java/lang/AbstractStringBuilder" = true := by first | (simp [plainName, overriddenIn]; done) | decide +kernel
theorem ef_rAf (m : MethodId) (a1 : Addr) (a2 : Addr) : entryFrame m #[(.ref a1), (.ref a2)] 3 = mkF m 0 #[.val (.ref a1), .val (.ref a2), .unset] [] := by first | (simp [entryFrame, mkF, argsToLocals, Value.category]; done) | rfl
def QrAf (Z : State) (a1 : Addr) (a2 : Addr) (vb : Addr) (kb : ClassId) (cz : Nat) (nz : Nat) (vl : List Value) (wb : Addr) (kw : ClassId) (mz : Nat) (wl : List Value) (G1 : Int32) (h0 : Heap) (n0 : Nat) (v : Option Value) (h : Heap) (L : List Loc) : Prop := ∃ vl' : List Value, v = some (.ref a1) ∧ Fr n0 L ∧ Keep h0 h [a1, vb] ∧ vl'.length = cz ∧ Exa Z h a1 "java/lang/StringBuilder" ∧ Fld Z h a1 "java/lang/AbstractStringBuilder" "value" "[B" (.ref vb) ∧ Fld Z h a1 "java/lang/AbstractStringBuilder" "coder" "B" (.int (0 : Int32)) ∧ Fld Z h a1 "java/lang/AbstractStringBuilder" "count" "I" (.int (Int32.ofNat (nz + mz))) ∧ Arv Z h vb kb .byte (Int32.ofNat cz) (vl') (.int (0 : Int32))
set_option maxRecDepth 65536 in
set_option maxHeartbeats 40000000 in
theorem rAf (l : Launch) (Z : State) (a0 : Array Value) (hw : ∀ d ∈ tables_1, d.before a0 Z = true) (ws : List Jvm.Cond) (a1 : Addr) (a2 : Addr) (vb : Addr) (kb : ClassId) (cz : Nat) (nz : Nat) (vl : List Value) (wb : Addr) (kw : ClassId) (mz : Nat) (wl : List Value) (G1 : Int32) (h0 : Heap) (n0 : Nat) (Z0 : n0 ≤ h0.size) (E : Exa Z h0 a1 "java/lang/StringBuilder") (FV : Fld Z h0 a1 "java/lang/AbstractStringBuilder" "value" "[B" (.ref vb)) (FC : Fld Z h0 a1 "java/lang/AbstractStringBuilder" "coder" "B" (.int (0 : Int32))) (FN : Fld Z h0 a1 "java/lang/AbstractStringBuilder" "count" "I" (.int (Int32.ofNat nz))) (AV : Arv Z h0 vb kb .byte (Int32.ofNat cz) (vl) (.int (0 : Int32))) (hvs : vl.length = cz) (ga : n0 ≤ a1) (gb : n0 ≤ vb) (nab : a1 ≠ vb) (hc : cz < 60) (hn : nz < 1000) (ES : Exa Z h0 a2 "java/lang/String") (SV : Fld Z h0 a2 "java/lang/String" "value" "[B" (.ref wb)) (SC : Fld Z h0 a2 "java/lang/String" "coder" "B" (.int (0 : Int32))) (AS : Arv Z h0 wb kw .byte (Int32.ofNat mz) (wl) (.int (0 : Int32))) (hm : mz < 1000) (X00 : Old Z n0 h0) (O_2 : Sta Z Z.heap "java/lang/String" "COMPACT_STRINGS" "Z" (.int G1)) (P5 : ¬ (G1 = (0 : Int32))) (hac : nz + mz ≤ cz) (ha : nz + mz < 1000) :
    MetFree l (⟨"java/lang/AbstractStringBuilder", "append", "(Ljava/lang/String;)Ljava/lang/AbstractStringBuilder;"⟩ : MethodName) (head1 (Jvm.Cond.code (⟨"java/lang/AbstractStringBuilder", "append", "(Ljava/lang/String;)Ljava/lang/AbstractStringBuilder;"⟩ : MethodName) jdk_68_method_22_code 3 (some (.object "java/lang/AbstractStringBuilder")) :: ws) ({ frames := 3, cells := 0, slots := 0, locals := 47 } : Room)) (fun a U => a = #[(.ref a1), (.ref a2)] ∧ Z.Warmed39 U.vm ∧ U.heap = h0) (fun _ _ _ _ _ => True) (fun _ U o U' => ∃ v L, o = .returned v ∧ QrAf Z a1 a2 vb kb cz nz vl wb kw mz wl G1 h0 n0 v U'.heap L ∧ FrameEnd U o U' L ({ frames := 3, cells := 0, slots := 0, locals := 47 } : Room).cells ({ frames := 3, cells := 0, slots := 0, locals := 47 } : Room).slots) := by
  refine MetFree.of_bodySF (plainFor_of_name pn_24) hisR ?_
  intro p e s m args below meth c s₁ Bd hml0 hP hK
  obtain ⟨rfl, hZ, hh⟩ := hP
  have hx := Bd.exec
  have hby := Bd.bytes
  have hml : c.maxLocals = 3 := hml0
  have hown : s.vm.findClass "java/lang/AbstractStringBuilder" = some m.cls := findClass_of_methodNamed Bd.named
  have hnm := (name_of_methodNamed Bd.named Bd.method).1
  have X0 : Stand p l e ({ frames := 3, cells := 0, slots := 0, locals := 47 } : Room) s m #[(.ref a1), (.ref a2)] below meth c s₁ [] 0 0 := Stand.of_body Bd
  have e0 : s₁.heap = h0 := by rw [← hh, Bd.state]; rfl
  have N0 := Fr.nil n0
  have pre0 : ∀ t, Steps p.tables e below (s₁.setTop (mkF m 0 #[.val (.ref a1), .val (.ref a2), .unset] [])) t → Steps p.tables e below (s₁.setTop (entryFrame m #[(.ref a1), (.ref a2)] 3)) t := fun t k => castTop (ef_rAf m a1 a2) k
  have n12 : a1 ≠ a2 := own_neE E ES (by decide)
  have n1w : a1 ≠ wb := Exa.neArv E AS (hw _ (own_w 110 rfl))
  obtain ⟨cq1, kz1, q1a, q1b, q1c⟩ := isOf hZ e0 ES
  obtain ⟨_, _, ⟨T1, Lq1, kq1, nq1⟩, -, X1, ⟨Lc1, hQ1, lq1, yq1, zq1⟩, st1⟩ := X0.virtualBack hx (y := (⟨"java/lang/String", "length", "()I"⟩ : MethodName)) (z := (⟨"java/lang/String", "length", "()I"⟩ : MethodName)) hown (mvT hZ (hw _ (own_w 138 rfl))) (mvT hZ (hw _ (own_w 77 rfl))) (notFace_of_selects (args := #[]) (mvT hZ (hw _ (own_w 79 rfl)))) (mvT hZ (hw _ (own_w 79 rfl))) (mvT hZ (hw _ (own_w 78 rfl))) (by decide) (backOf (W := 0) (rLe l Z a0 hw [] a2 wb kw (mz) (wl) G1 h0 n0 Z0 X00 O_2 P5 ES SV SC AS hm) hZ (hw _ (own_w 80 rfl)) (hw _ (own_w 5 rfl)) (by decide) (by decide)) q1a q1c (g := (mkF m 10 #[.val (.ref a1), .val (.ref a2), .unset] [(.ref a2)])) rfl (by rw [hml]; rfl) (Steps.refl _) (argsL := []) (rest := []) (lenOf pd_8 rfl) rfl (by show 2 * 0 + _ ≤ _; exact Nat.le_of_eq rfl) (hb hby d24_10) (fun _ _ => ⟨rfl, e0, (by decide : 0 + 0 ≤ _), (by decide : 0 + 0 ≤ _)⟩)
  dsimp only [Pt.U, Pt.locs, Pt.cells, Pt.slots] at X1 lq1 yq1 zq1 st1 hQ1
  subst lq1 yq1 zq1
  obtain ⟨r1, hr1, rfl, N1q, e1⟩ := hQ1
  have N1 := Fr.app N0 N1q
  obtain ⟨T2, X2, e2, st2⟩ := getF X1 hx hZ hown (host := "") (Or.inl (hw _ (own_w 139 rfl))) Via.refl e1 FN (g := (mkF m 16 #[.val (.ref a1), .val (.ref a2), .val (.int (Int32.ofNat mz))] [(.ref a1), (.ref a1)])) rfl rfl (hb hby d24_16)
  obtain ⟨cq3, qq3, qq3'⟩ := E.cell
  obtain ⟨_, _, ⟨T3, Lq3, kq3, nq3⟩, -, X3, ⟨Lc3, hQ3, lq3, yq3, zq3⟩, st3⟩ := X2.privateBack hx (y := (⟨"java/lang/AbstractStringBuilder", "ensureCapacityInternal", "(I)V"⟩ : MethodName)) hown (mvT hZ (hw _ (own_w 141 rfl))) (mvT hZ (hw _ (own_w 142 rfl))) (own_selpriv2 (mvT hZ (hw _ (own_w 144 rfl))) (Cond.privateMethod_at (mvP hZ (hw _ (own_w 143 rfl)) (args := #[]))) (mvT hZ (hw _ (own_w 142 rfl))) (by decide)) (Cond.privateMethod_at (mvP hZ (hw _ (own_w 143 rfl)) (args := #[]))) (mvT hZ (hw _ (own_w 145 rfl))) (by decide) (backOf (W := 0) (rEf l Z a0 hw [] a1 (Int32.ofNat (nz + mz)) vb kb (cz) (nz) (vl) (nz + mz) h0 n0 Z0 E FV FC FN AV hvs ga gb nab (by omega) (by omega) rfl ha hac) hZ (hw _ (own_w 145 rfl)) (hw _ (own_w 119 rfl)) (by decide) (by decide)) (g := (mkF m 21 #[.val (.ref a1), .val (.ref a2), .val (.int (Int32.ofNat mz))] [(.int (Int32.ofNat (nz + mz))), (.ref a1)])) rfl (by rw [hml]; rfl) (Steps.refl _) (a := a1) (by rw [e2]; exact qq3) qq3' (argsL := [(.int (Int32.ofNat (nz + mz)))]) (rest := []) (lenOf pd_2 rfl) rfl (by show 2 * 0 + _ ≤ _; exact Nat.le_of_eq rfl) (hb hby d24_21) (fun _ _ => ⟨rfl, e2, (by decide : 0 + 0 ≤ _), (by decide : 0 + 0 ≤ _)⟩)
  dsimp only [Pt.U, Pt.locs, Pt.cells, Pt.slots] at X3 lq3 yq3 zq3 st3 hQ3
  subst lq3 yq3 zq3
  obtain ⟨rfl, N3q, e3⟩ := hQ3
  have N3 := Fr.app N1 N3q
  obtain ⟨T4, X4, e4, st4⟩ := getF X3 hx hZ hown (host := "") (Or.inl (hw _ (own_w 139 rfl))) Via.refl e3 FN (g := (mkF m 26 #[.val (.ref a1), .val (.ref a2), .val (.int (Int32.ofNat mz))] [(.ref a1), (.ref a1)])) rfl rfl (hb hby d24_26)
  obtain ⟨cq5, qq5, qq5'⟩ := E.cell
  obtain ⟨_, _, ⟨T5, Lq5, kq5, nq5⟩, -, X5, ⟨Lc5, hQ5, lq5, yq5, zq5⟩, st5⟩ := X4.privateBack hx (y := (⟨"java/lang/AbstractStringBuilder", "putStringAt", "(ILjava/lang/String;)V"⟩ : MethodName)) hown (mvT hZ (hw _ (own_w 146 rfl))) (mvT hZ (hw _ (own_w 147 rfl))) (own_selpriv2 (mvT hZ (hw _ (own_w 149 rfl))) (Cond.privateMethod_at (mvP hZ (hw _ (own_w 148 rfl)) (args := #[]))) (mvT hZ (hw _ (own_w 147 rfl))) (by decide)) (Cond.privateMethod_at (mvP hZ (hw _ (own_w 148 rfl)) (args := #[]))) (mvT hZ (hw _ (own_w 150 rfl))) (by decide) (backOf (W := 0) (rPS l Z a0 hw [] a1 (Int32.ofNat nz) a2 vb kb (cz) (nz) (vl) wb kw (mz) (wl) G1 h0 n0 Z0 X00 O_2 P5 E FV FC AV hvs gb (by omega) (by omega) ES SV SC AS hm rfl) hZ (hw _ (own_w 150 rfl)) (hw _ (own_w 119 rfl)) (by decide) (by decide)) (g := (mkF m 30 #[.val (.ref a1), .val (.ref a2), .val (.int (Int32.ofNat mz))] [(.ref a2), (.int (Int32.ofNat nz)), (.ref a1)])) rfl (by rw [hml]; rfl) (Steps.refl _) (a := a1) (by rw [e4]; exact qq5) qq5' (argsL := [(.int (Int32.ofNat nz)), (.ref a2)]) (rest := []) (lenOf pd_9 rfl) rfl (by show 2 * 0 + _ ≤ _; exact Nat.le_of_eq rfl) (hb hby d24_30) (fun _ _ => ⟨rfl, e4, (by decide : 0 + 0 ≤ _), (by decide : 0 + 0 ≤ _)⟩)
  dsimp only [Pt.U, Pt.locs, Pt.cells, Pt.slots] at X5 lq5 yq5 zq5 st5 hQ5
  subst lq5 yq5 zq5
  obtain ⟨vl5, rfl, N5q, KC5, hv5, V5⟩ := hQ5
  have N5 := Fr.app N3 N5q
  have Z5 : n0 ≤ T5.heap.size := Nat.le_trans Z0 KC5.1
  have K5 : Keep h0 T5.heap [a1, vb] := (Keep.refl h0 [a1, vb]).trans KC5 (allS (Or.inl (own_w 1 rfl)) all0)
  have f6 := (FN.keep KC5 (ninS nab nin0))
  obtain ⟨T7, X7, e7, st7⟩ := getF X5 hx hZ hown (host := "") (Or.inl (hw _ (own_w 139 rfl))) Via.refl rfl f6 (g := (mkF m 35 #[.val (.ref a1), .val (.ref a2), .val (.int (Int32.ofNat mz))] [(.ref a1), (.ref a1)])) rfl rfl (hb hby d24_35)
  have f8 := (E.keep KC5)
  obtain ⟨T9, h9, X9, e9, W9, st9⟩ := putF X7 hx hZ hown (host := "") (Or.inl (hw _ (own_w 139 rfl))) Via.refl e7 f6 f8 (Or.inl (hw _ (own_w 140 rfl))) (hw _ (own_w 110 rfl)) (ty := .int) (by decide) rfl rfl (g := (mkF m 40 #[.val (.ref a1), .val (.ref a2), .val (.int (Int32.ofNat mz))] [(.int (Int32.ofNat (nz + mz))), (.ref a1)])) rfl rfl (hb hby d24_40)
  have N9 := Fr.snoc X9 N5 ga
  have Z9 : n0 ≤ h9.size := by rw [W9.size]; exact Z5
  have K9 : Keep h0 h9 [a1, vb] := K5.wr W9 (Or.inl (own_w 0 rfl))
  have Fw9 := f6.same W9
  obtain ⟨fs, hr, hrun, hended, hW, hsame⟩ := X9.leave (v := some (.ref a1)) (fun h => by rw [Bd.returns] at h; cases h) (BodyLoose.notSynchronized Bd)
  refine ⟨_, _, pre0 _ ?_, hrun, hended, _, _, rfl, ?_, ⟨_, rfl⟩, hW, hsame.mono (by decide) (by decide)⟩
  · show Steps p.tables e below (s₁.setTop (mkF m 0 #[.val (.ref a1), .val (.ref a2), .unset] [])) _
    refine XS.aloadN X0.here hx rfl (hb hby d24_0) rfl rfl ?_
    refine XS.ifnonnullYes X0.here hx rfl (pc0 := 1) (pc' := 9) rfl (hb hby d24_1) rfl (by decide) (by decide) ?_
    refine XS.aloadN X0.here hx rfl (hb hby d24_9) rfl rfl ?_
    refine st1.trans ?_
    refine XS.istoreN X1.here hx rfl (hb hby d24_13) rfl (l' := #[.val (.ref a1), .val (.ref a2), .val (.int r1)]) rfl ?_
    show Steps p.tables e below (T1.setTop (mkF m 14 #[.val (.ref a1), .val (.ref a2), .val (.int r1)] [])) _
    rw [hr1]
    show Steps p.tables e below (T1.setTop (mkF m 14 #[.val (.ref a1), .val (.ref a2), .val (.int (Int32.ofNat mz))] [])) _
    refine XS.aloadN X1.here hx rfl (hb hby d24_14) rfl rfl ?_
    refine XS.aloadN X1.here hx rfl (hb hby d24_15) rfl rfl ?_
    refine st2 _ ?_
    refine XS.iloadN X2.here hx rfl (hb hby d24_19) rfl ?_
    refine XS.iadd X2.here hx rfl (hb hby d24_20) rfl ?_
    show Steps p.tables e below (T2.setTop (mkF m 21 #[.val (.ref a1), .val (.ref a2), .val (.int (Int32.ofNat mz))] [(.int ((Int32.ofNat nz) + (Int32.ofNat mz))), (.ref a1)])) _
    rw [(own_yadd (by omega))]
    show Steps p.tables e below (T2.setTop (mkF m 21 #[.val (.ref a1), .val (.ref a2), .val (.int (Int32.ofNat mz))] [(.int (Int32.ofNat (nz + mz))), (.ref a1)])) _
    refine st3.trans ?_
    refine XS.aloadN X3.here hx rfl (hb hby d24_24) rfl rfl ?_
    refine XS.aloadN X3.here hx rfl (hb hby d24_25) rfl rfl ?_
    refine st4 _ ?_
    refine XS.aloadN X4.here hx rfl (hb hby d24_29) rfl rfl ?_
    refine st5.trans ?_
    refine XS.aloadN X5.here hx rfl (hb hby d24_33) rfl rfl ?_
    refine XS.dup X5.here hx rfl (hb hby d24_34) rfl rfl ?_
    refine st7 _ ?_
    refine XS.iloadN X7.here hx rfl (hb hby d24_38) rfl ?_
    refine XS.iadd X7.here hx rfl (hb hby d24_39) rfl ?_
    show Steps p.tables e below (T7.setTop (mkF m 40 #[.val (.ref a1), .val (.ref a2), .val (.int (Int32.ofNat mz))] [(.int ((Int32.ofNat nz) + (Int32.ofNat mz))), (.ref a1)])) _
    rw [(own_yadd (by omega))]
    show Steps p.tables e below (T7.setTop (mkF m 40 #[.val (.ref a1), .val (.ref a2), .val (.int (Int32.ofNat mz))] [(.int (Int32.ofNat (nz + mz))), (.ref a1)])) _
    refine st9 _ ?_
    refine XS.aloadN X9.here hx rfl (hb hby d24_43) rfl rfl ?_
    show Steps p.tables e below (T9.setTop (mkF m 44 #[.val (.ref a1), .val (.ref a2), .val (.int (Int32.ofNat mz))] [(.ref a1)])) _
    exact X9.areturnOut hx rfl Bd.returns rfl (hb hby d24_44) hr
  · show QrAf Z a1 a2 vb kb cz nz vl wb kw mz wl G1 h0 n0 _ T9.heap _
    have f10 := (f8.wr W9)
    have f11 := ((FV.keep KC5 (ninS nab nin0)).other W9 (Or.inr (slot_ne (Or.inl (hw _ (own_w 124 rfl))) (Or.inl (hw _ (own_w 140 rfl))) (by decide) (t := (.array .byte)) (t' := .int) (by decide) (by decide))))
    have f12 := ((FC.keep KC5 (ninS nab nin0)).other W9 (Or.inr (slot_ne (Or.inl (hw _ (own_w 126 rfl))) (Or.inl (hw _ (own_w 140 rfl))) (by decide) (t := .byte) (t' := .int) (by decide) (by decide))))
    have f13 := (V5.other W9 (Ne.symm nab))
    rw [e9]
    exact ⟨_, rfl, N9, K9, hv5, f10, f11, f12, Fw9, f13⟩
theorem ef_rAg (m : MethodId) (a1 : Addr) (a2 : Addr) : entryFrame m #[(.ref a1), (.ref a2)] 3 = mkF m 0 #[.val (.ref a1), .val (.ref a2), .unset] [] := by first | (simp [entryFrame, mkF, argsToLocals, Value.category]; done) | rfl
def QrAg (Z : State) (a1 : Addr) (a2 : Addr) (vb : Addr) (kb : ClassId) (cz : Nat) (nz : Nat) (vl : List Value) (wb : Addr) (kw : ClassId) (mz : Nat) (wl : List Value) (G1 : Int32) (h0 : Heap) (n0 : Nat) (v : Option Value) (h : Heap) (L : List Loc) : Prop := ∃ (vb' : Addr) (kb' : ClassId) (vl' : List Value), v = some (.ref a1) ∧ Fr n0 L ∧ Keep h0 h [a1] ∧ n0 ≤ vb' ∧ h0.size ≤ vb' ∧ a1 ≠ vb' ∧ vl'.length = cz + (cz + 2) ∧ Exa Z h a1 "java/lang/StringBuilder" ∧ Fld Z h a1 "java/lang/AbstractStringBuilder" "value" "[B" (.ref vb') ∧ Fld Z h a1 "java/lang/AbstractStringBuilder" "coder" "B" (.int (0 : Int32)) ∧ Fld Z h a1 "java/lang/AbstractStringBuilder" "count" "I" (.int (Int32.ofNat (nz + mz))) ∧ Arv Z h vb' kb' .byte (Int32.ofNat (cz + (cz + 2))) (vl') (.int (0 : Int32))
set_option maxRecDepth 65536 in
set_option maxHeartbeats 40000000 in
theorem rAg (l : Launch) (Z : State) (a0 : Array Value) (hw : ∀ d ∈ tables_1, d.before a0 Z = true) (ws : List Jvm.Cond) (a1 : Addr) (a2 : Addr) (vb : Addr) (kb : ClassId) (cz : Nat) (nz : Nat) (vl : List Value) (wb : Addr) (kw : ClassId) (mz : Nat) (wl : List Value) (G1 : Int32) (h0 : Heap) (n0 : Nat) (Z0 : n0 ≤ h0.size) (E : Exa Z h0 a1 "java/lang/StringBuilder") (FV : Fld Z h0 a1 "java/lang/AbstractStringBuilder" "value" "[B" (.ref vb)) (FC : Fld Z h0 a1 "java/lang/AbstractStringBuilder" "coder" "B" (.int (0 : Int32))) (FN : Fld Z h0 a1 "java/lang/AbstractStringBuilder" "count" "I" (.int (Int32.ofNat nz))) (AV : Arv Z h0 vb kb .byte (Int32.ofNat cz) (vl) (.int (0 : Int32))) (hvs : vl.length = cz) (ga : n0 ≤ a1) (gb : n0 ≤ vb) (nab : a1 ≠ vb) (hc : cz < 60) (hn : nz < 1000) (ES : Exa Z h0 a2 "java/lang/String") (SV : Fld Z h0 a2 "java/lang/String" "value" "[B" (.ref wb)) (SC : Fld Z h0 a2 "java/lang/String" "coder" "B" (.int (0 : Int32))) (AS : Arv Z h0 wb kw .byte (Int32.ofNat mz) (wl) (.int (0 : Int32))) (hm : mz < 1000) (X00 : Old Z n0 h0) (O_2 : Sta Z Z.heap "java/lang/String" "COMPACT_STRINGS" "Z" (.int G1)) (P5 : ¬ (G1 = (0 : Int32))) (hca : cz < nz + mz) (hag : nz + mz - cz ≤ cz + 2) (ha : nz + mz < 1000) :
    MetFree l (⟨"java/lang/AbstractStringBuilder", "append", "(Ljava/lang/String;)Ljava/lang/AbstractStringBuilder;"⟩ : MethodName) (head1 (Jvm.Cond.code (⟨"java/lang/AbstractStringBuilder", "append", "(Ljava/lang/String;)Ljava/lang/AbstractStringBuilder;"⟩ : MethodName) jdk_68_method_22_code 3 (some (.object "java/lang/AbstractStringBuilder")) :: ws) ({ frames := 4, cells := 1, slots := 128, locals := 62 } : Room)) (fun a U => a = #[(.ref a1), (.ref a2)] ∧ Z.Warmed39 U.vm ∧ U.heap = h0) (fun _ _ _ _ _ => True) (fun _ U o U' => ∃ v L, o = .returned v ∧ QrAg Z a1 a2 vb kb cz nz vl wb kw mz wl G1 h0 n0 v U'.heap L ∧ FrameEnd U o U' L ({ frames := 4, cells := 1, slots := 128, locals := 62 } : Room).cells ({ frames := 4, cells := 1, slots := 128, locals := 62 } : Room).slots) := by
  refine MetFree.of_bodySF (plainFor_of_name pn_24) hisR ?_
  intro p e s m args below meth c s₁ Bd hml0 hP hK
  obtain ⟨rfl, hZ, hh⟩ := hP
  have hx := Bd.exec
  have hby := Bd.bytes
  have hml : c.maxLocals = 3 := hml0
  have hown : s.vm.findClass "java/lang/AbstractStringBuilder" = some m.cls := findClass_of_methodNamed Bd.named
  have hnm := (name_of_methodNamed Bd.named Bd.method).1
  have X0 : Stand p l e ({ frames := 4, cells := 1, slots := 128, locals := 62 } : Room) s m #[(.ref a1), (.ref a2)] below meth c s₁ [] 0 0 := Stand.of_body Bd
  have e0 : s₁.heap = h0 := by rw [← hh, Bd.state]; rfl
  have N0 := Fr.nil n0
  have pre0 : ∀ t, Steps p.tables e below (s₁.setTop (mkF m 0 #[.val (.ref a1), .val (.ref a2), .unset] [])) t → Steps p.tables e below (s₁.setTop (entryFrame m #[(.ref a1), (.ref a2)] 3)) t := fun t k => castTop (ef_rAg m a1 a2) k
  have n12 : a1 ≠ a2 := own_neE E ES (by decide)
  have n1w : a1 ≠ wb := Exa.neArv E AS (hw _ (own_w 110 rfl))
  obtain ⟨cq1, kz1, q1a, q1b, q1c⟩ := isOf hZ e0 ES
  obtain ⟨_, _, ⟨T1, Lq1, kq1, nq1⟩, -, X1, ⟨Lc1, hQ1, lq1, yq1, zq1⟩, st1⟩ := X0.virtualBack hx (y := (⟨"java/lang/String", "length", "()I"⟩ : MethodName)) (z := (⟨"java/lang/String", "length", "()I"⟩ : MethodName)) hown (mvT hZ (hw _ (own_w 138 rfl))) (mvT hZ (hw _ (own_w 77 rfl))) (notFace_of_selects (args := #[]) (mvT hZ (hw _ (own_w 79 rfl)))) (mvT hZ (hw _ (own_w 79 rfl))) (mvT hZ (hw _ (own_w 78 rfl))) (by decide) (backOf (W := 0) (rLe l Z a0 hw [] a2 wb kw (mz) (wl) G1 h0 n0 Z0 X00 O_2 P5 ES SV SC AS hm) hZ (hw _ (own_w 80 rfl)) (hw _ (own_w 5 rfl)) (by decide) (by decide)) q1a q1c (g := (mkF m 10 #[.val (.ref a1), .val (.ref a2), .unset] [(.ref a2)])) rfl (by rw [hml]; rfl) (Steps.refl _) (argsL := []) (rest := []) (lenOf pd_8 rfl) rfl (by show 2 * 0 + _ ≤ _; exact Nat.le_of_eq rfl) (hb hby d24_10) (fun _ _ => ⟨rfl, e0, (by decide : 0 + 0 ≤ _), (by decide : 0 + 0 ≤ _)⟩)
  dsimp only [Pt.U, Pt.locs, Pt.cells, Pt.slots] at X1 lq1 yq1 zq1 st1 hQ1
  subst lq1 yq1 zq1
  obtain ⟨r1, hr1, rfl, N1q, e1⟩ := hQ1
  have N1 := Fr.app N0 N1q
  obtain ⟨T2, X2, e2, st2⟩ := getF X1 hx hZ hown (host := "") (Or.inl (hw _ (own_w 139 rfl))) Via.refl e1 FN (g := (mkF m 16 #[.val (.ref a1), .val (.ref a2), .val (.int (Int32.ofNat mz))] [(.ref a1), (.ref a1)])) rfl rfl (hb hby d24_16)
  obtain ⟨cq3, qq3, qq3'⟩ := E.cell
  obtain ⟨_, _, ⟨T3, Lq3, kq3, nq3⟩, -, X3, ⟨Lc3, hQ3, lq3, yq3, zq3⟩, st3⟩ := X2.privateBack hx (y := (⟨"java/lang/AbstractStringBuilder", "ensureCapacityInternal", "(I)V"⟩ : MethodName)) hown (mvT hZ (hw _ (own_w 141 rfl))) (mvT hZ (hw _ (own_w 142 rfl))) (own_selpriv2 (mvT hZ (hw _ (own_w 144 rfl))) (Cond.privateMethod_at (mvP hZ (hw _ (own_w 143 rfl)) (args := #[]))) (mvT hZ (hw _ (own_w 142 rfl))) (by decide)) (Cond.privateMethod_at (mvP hZ (hw _ (own_w 143 rfl)) (args := #[]))) (mvT hZ (hw _ (own_w 145 rfl))) (by decide) (backOf (W := 0) (rEg l Z a0 hw [] a1 (Int32.ofNat (nz + mz)) vb kb (cz) (nz) (vl) (nz + mz) h0 n0 Z0 E FV FC FN AV hvs ga gb nab (by omega) (by omega) rfl ha hca hag) hZ (hw _ (own_w 145 rfl)) (hw _ (own_w 119 rfl)) (by decide) (by decide)) (g := (mkF m 21 #[.val (.ref a1), .val (.ref a2), .val (.int (Int32.ofNat mz))] [(.int (Int32.ofNat (nz + mz))), (.ref a1)])) rfl (by rw [hml]; rfl) (Steps.refl _) (a := a1) (by rw [e2]; exact qq3) qq3' (argsL := [(.int (Int32.ofNat (nz + mz)))]) (rest := []) (lenOf pd_2 rfl) rfl (by show 2 * 0 + _ ≤ _; exact Nat.le_of_eq rfl) (hb hby d24_21) (fun _ _ => ⟨rfl, e2, (by decide : 0 + 1 ≤ _), (by decide : 0 + 128 ≤ _)⟩)
  dsimp only [Pt.U, Pt.locs, Pt.cells, Pt.slots] at X3 lq3 yq3 zq3 st3 hQ3
  subst lq3 yq3 zq3
  obtain ⟨vb3, kb3, vl3, rfl, N3q, KC3, gb3, gk3, nab3, hv3, E3', FV3', FC3', FN3', AV3'⟩ := hQ3
  have N3 := Fr.app N1 N3q
  have Z3 : n0 ≤ T3.heap.size := Nat.le_trans Z0 KC3.1
  have ne4 : vb ≠ vb3 := Nat.ne_of_lt (Nat.lt_of_lt_of_le AV.lt gk3)
  have ne5 : a2 ≠ vb3 := Nat.ne_of_lt (Nat.lt_of_lt_of_le SC.lt gk3)
  have ne6 : wb ≠ vb3 := Nat.ne_of_lt (Nat.lt_of_lt_of_le AS.lt gk3)
  have K3 : Keep h0 T3.heap [a1] := (Keep.refl h0 [a1]).trans KC3 (allS (Or.inl (own_w 0 rfl)) all0)
  obtain ⟨T7, X7, e7, st7⟩ := getF X3 hx hZ hown (host := "") (Or.inl (hw _ (own_w 139 rfl))) Via.refl rfl FN3' (g := (mkF m 26 #[.val (.ref a1), .val (.ref a2), .val (.int (Int32.ofNat mz))] [(.ref a1), (.ref a1)])) rfl rfl (hb hby d24_26)
  have f9 := (X00.keep KC3 (allS ga all0))
  have f10 := (ES.keep KC3)
  have f11 := (SV.keep KC3 (ninS (Ne.symm n12) nin0))
  have f12 := (SC.keep KC3 (ninS (Ne.symm n12) nin0))
  have f13 := (AS.keep KC3 (ninS (Ne.symm n1w) nin0))
  obtain ⟨cq8, qq8, qq8'⟩ := E3'.cell
  obtain ⟨_, _, ⟨T8, Lq8, kq8, nq8⟩, -, X8, ⟨Lc8, hQ8, lq8, yq8, zq8⟩, st8⟩ := X7.privateBack hx (y := (⟨"java/lang/AbstractStringBuilder", "putStringAt", "(ILjava/lang/String;)V"⟩ : MethodName)) hown (mvT hZ (hw _ (own_w 146 rfl))) (mvT hZ (hw _ (own_w 147 rfl))) (own_selpriv2 (mvT hZ (hw _ (own_w 149 rfl))) (Cond.privateMethod_at (mvP hZ (hw _ (own_w 148 rfl)) (args := #[]))) (mvT hZ (hw _ (own_w 147 rfl))) (by decide)) (Cond.privateMethod_at (mvP hZ (hw _ (own_w 148 rfl)) (args := #[]))) (mvT hZ (hw _ (own_w 150 rfl))) (by decide) (backOf (W := 0) (rPS l Z a0 hw [] a1 (Int32.ofNat nz) a2 vb3 kb3 ((cz + (cz + 2))) (nz) (vl3) wb kw (mz) (wl) G1 T3.heap n0 Z3 f9 O_2 P5 E3' FV3' FC3' AV3' hv3 gb3 (by omega) (by omega) f10 f11 f12 f13 hm rfl) hZ (hw _ (own_w 150 rfl)) (hw _ (own_w 119 rfl)) (by decide) (by decide)) (g := (mkF m 30 #[.val (.ref a1), .val (.ref a2), .val (.int (Int32.ofNat mz))] [(.ref a2), (.int (Int32.ofNat nz)), (.ref a1)])) rfl (by rw [hml]; rfl) (Steps.refl _) (a := a1) (by rw [e7]; exact qq8) qq8' (argsL := [(.int (Int32.ofNat nz)), (.ref a2)]) (rest := []) (lenOf pd_9 rfl) rfl (by show 2 * 0 + _ ≤ _; exact Nat.le_of_eq rfl) (hb hby d24_30) (fun _ _ => ⟨rfl, e7, (by decide : 1 + 0 ≤ _), (by decide : 128 + 0 ≤ _)⟩)
  dsimp only [Pt.U, Pt.locs, Pt.cells, Pt.slots] at X8 lq8 yq8 zq8 st8 hQ8
  subst lq8 yq8 zq8
  obtain ⟨vl8, rfl, N8q, KC8, hv8, V8⟩ := hQ8
  have N8 := Fr.app N3 N8q
  have Z8 : n0 ≤ T8.heap.size := Nat.le_trans Z3 KC8.1
  have K8 : Keep h0 T8.heap [a1] := K3.trans KC8 (allS (Or.inr (Nat.le_trans (Keep.refl h0 [a1]).1 gk3)) all0)
  have f14 := (FN3'.keep KC8 (ninS nab3 nin0))
  obtain ⟨T15, X15, e15, st15⟩ := getF X8 hx hZ hown (host := "") (Or.inl (hw _ (own_w 139 rfl))) Via.refl rfl f14 (g := (mkF m 35 #[.val (.ref a1), .val (.ref a2), .val (.int (Int32.ofNat mz))] [(.ref a1), (.ref a1)])) rfl rfl (hb hby d24_35)
  have f16 := (E3'.keep KC8)
  obtain ⟨T17, h17, X17, e17, W17, st17⟩ := putF X15 hx hZ hown (host := "") (Or.inl (hw _ (own_w 139 rfl))) Via.refl e15 f14 f16 (Or.inl (hw _ (own_w 140 rfl))) (hw _ (own_w 110 rfl)) (ty := .int) (by decide) rfl rfl (g := (mkF m 40 #[.val (.ref a1), .val (.ref a2), .val (.int (Int32.ofNat mz))] [(.int (Int32.ofNat (nz + mz))), (.ref a1)])) rfl rfl (hb hby d24_40)
  have N17 := Fr.snoc X17 N8 ga
  have Z17 : n0 ≤ h17.size := by rw [W17.size]; exact Z8
  have K17 : Keep h0 h17 [a1] := K8.wr W17 (Or.inl (own_w 0 rfl))
  have Fw17 := f14.same W17
  obtain ⟨fs, hr, hrun, hended, hW, hsame⟩ := X17.leave (v := some (.ref a1)) (fun h => by rw [Bd.returns] at h; cases h) (BodyLoose.notSynchronized Bd)
  refine ⟨_, _, pre0 _ ?_, hrun, hended, _, _, rfl, ?_, ⟨_, rfl⟩, hW, hsame.mono (by decide) (by decide)⟩
  · show Steps p.tables e below (s₁.setTop (mkF m 0 #[.val (.ref a1), .val (.ref a2), .unset] [])) _
    refine XS.aloadN X0.here hx rfl (hb hby d24_0) rfl rfl ?_
    refine XS.ifnonnullYes X0.here hx rfl (pc0 := 1) (pc' := 9) rfl (hb hby d24_1) rfl (by decide) (by decide) ?_
    refine XS.aloadN X0.here hx rfl (hb hby d24_9) rfl rfl ?_
    refine st1.trans ?_
    refine XS.istoreN X1.here hx rfl (hb hby d24_13) rfl (l' := #[.val (.ref a1), .val (.ref a2), .val (.int r1)]) rfl ?_
    show Steps p.tables e below (T1.setTop (mkF m 14 #[.val (.ref a1), .val (.ref a2), .val (.int r1)] [])) _
    rw [hr1]
    show Steps p.tables e below (T1.setTop (mkF m 14 #[.val (.ref a1), .val (.ref a2), .val (.int (Int32.ofNat mz))] [])) _
    refine XS.aloadN X1.here hx rfl (hb hby d24_14) rfl rfl ?_
    refine XS.aloadN X1.here hx rfl (hb hby d24_15) rfl rfl ?_
    refine st2 _ ?_
    refine XS.iloadN X2.here hx rfl (hb hby d24_19) rfl ?_
    refine XS.iadd X2.here hx rfl (hb hby d24_20) rfl ?_
    show Steps p.tables e below (T2.setTop (mkF m 21 #[.val (.ref a1), .val (.ref a2), .val (.int (Int32.ofNat mz))] [(.int ((Int32.ofNat nz) + (Int32.ofNat mz))), (.ref a1)])) _
    rw [(own_yadd (by omega))]
    show Steps p.tables e below (T2.setTop (mkF m 21 #[.val (.ref a1), .val (.ref a2), .val (.int (Int32.ofNat mz))] [(.int (Int32.ofNat (nz + mz))), (.ref a1)])) _
    refine st3.trans ?_
    refine XS.aloadN X3.here hx rfl (hb hby d24_24) rfl rfl ?_
    refine XS.aloadN X3.here hx rfl (hb hby d24_25) rfl rfl ?_
    refine st7 _ ?_
    refine XS.aloadN X7.here hx rfl (hb hby d24_29) rfl rfl ?_
    refine st8.trans ?_
    refine XS.aloadN X8.here hx rfl (hb hby d24_33) rfl rfl ?_
    refine XS.dup X8.here hx rfl (hb hby d24_34) rfl rfl ?_
    refine st15 _ ?_
    refine XS.iloadN X15.here hx rfl (hb hby d24_38) rfl ?_
    refine XS.iadd X15.here hx rfl (hb hby d24_39) rfl ?_
    show Steps p.tables e below (T15.setTop (mkF m 40 #[.val (.ref a1), .val (.ref a2), .val (.int (Int32.ofNat mz))] [(.int ((Int32.ofNat nz) + (Int32.ofNat mz))), (.ref a1)])) _
    rw [(own_yadd (by omega))]
    show Steps p.tables e below (T15.setTop (mkF m 40 #[.val (.ref a1), .val (.ref a2), .val (.int (Int32.ofNat mz))] [(.int (Int32.ofNat (nz + mz))), (.ref a1)])) _
    refine st17 _ ?_
    refine XS.aloadN X17.here hx rfl (hb hby d24_43) rfl rfl ?_
    show Steps p.tables e below (T17.setTop (mkF m 44 #[.val (.ref a1), .val (.ref a2), .val (.int (Int32.ofNat mz))] [(.ref a1)])) _
    exact X17.areturnOut hx rfl Bd.returns rfl (hb hby d24_44) hr
  · show QrAg Z a1 a2 vb kb cz nz vl wb kw mz wl G1 h0 n0 _ T17.heap _
    have f18 := (f16.wr W17)
    have f19 := ((FV3'.keep KC8 (ninS nab3 nin0)).other W17 (Or.inr (slot_ne (Or.inl (hw _ (own_w 124 rfl))) (Or.inl (hw _ (own_w 140 rfl))) (by decide) (t := (.array .byte)) (t' := .int) (by decide) (by decide))))
    have f20 := ((FC3'.keep KC8 (ninS nab3 nin0)).other W17 (Or.inr (slot_ne (Or.inl (hw _ (own_w 126 rfl))) (Or.inl (hw _ (own_w 140 rfl))) (by decide) (t := .byte) (t' := .int) (by decide) (by decide))))
    have f21 := (V8.other W17 (Ne.symm nab3))
    rw [e17]
    exact ⟨vb3, _, _, rfl, N17, K17, gb3, (Nat.le_trans (Keep.refl h0 [a1]).1 gk3), nab3, hv8, f18, f19, f20, Fw17, f21⟩
theorem pd_10 : parseMethodDescriptor "(Ljava/lang/String;)Ljava/lang/AbstractStringBuilder;" = some ⟨[(.object "java/lang/String")], some (.object "java/lang/AbstractStringBuilder")⟩ := by decide +kernel
theorem d23_0 : decode jdk_67_method_7_code 0 = .ok (.aload_n 0, 1) := by decide +kernel
theorem d23_1 : decode jdk_67_method_7_code 1 = .ok (.aload_n 1, 1) := by decide +kernel
theorem d23_2 : decode jdk_67_method_7_code 2 = .ok (.invokespecial 29, 3) := by decide +kernel
theorem d23_5 : decode jdk_67_method_7_code 5 = .ok (.pop, 1) := by decide +kernel
theorem d23_6 : decode jdk_67_method_7_code 6 = .ok (.aload_n 0, 1) := by decide +kernel
theorem d23_7 : decode jdk_67_method_7_code 7 = .ok (.areturn, 1) := by decide +kernel
theorem pn_23 : plainName "java/lang/StringBuilder" = true := by first | (simp [plainName, overriddenIn]; done) | decide +kernel
theorem ef_rXf (m : MethodId) (a1 : Addr) (a2 : Addr) : entryFrame m #[(.ref a1), (.ref a2)] 2 = mkF m 0 #[.val (.ref a1), .val (.ref a2)] [] := by first | (simp [entryFrame, mkF, argsToLocals, Value.category]; done) | rfl
def QrXf (Z : State) (a1 : Addr) (a2 : Addr) (vb : Addr) (kb : ClassId) (cz : Nat) (nz : Nat) (vl : List Value) (wb : Addr) (kw : ClassId) (mz : Nat) (wl : List Value) (G1 : Int32) (h0 : Heap) (n0 : Nat) (v : Option Value) (h : Heap) (L : List Loc) : Prop := ∃ vl' : List Value, v = some (.ref a1) ∧ Fr n0 L ∧ Keep h0 h [a1, vb] ∧ vl'.length = cz ∧ Exa Z h a1 "java/lang/StringBuilder" ∧ Fld Z h a1 "java/lang/AbstractStringBuilder" "value" "[B" (.ref vb) ∧ Fld Z h a1 "java/lang/AbstractStringBuilder" "coder" "B" (.int (0 : Int32)) ∧ Fld Z h a1 "java/lang/AbstractStringBuilder" "count" "I" (.int (Int32.ofNat (nz + mz))) ∧ Arv Z h vb kb .byte (Int32.ofNat cz) (vl') (.int (0 : Int32))
set_option maxRecDepth 65536 in
set_option maxHeartbeats 40000000 in
theorem rXf (l : Launch) (Z : State) (a0 : Array Value) (hw : ∀ d ∈ tables_1, d.before a0 Z = true) (ws : List Jvm.Cond) (a1 : Addr) (a2 : Addr) (vb : Addr) (kb : ClassId) (cz : Nat) (nz : Nat) (vl : List Value) (wb : Addr) (kw : ClassId) (mz : Nat) (wl : List Value) (G1 : Int32) (h0 : Heap) (n0 : Nat) (Z0 : n0 ≤ h0.size) (E : Exa Z h0 a1 "java/lang/StringBuilder") (FV : Fld Z h0 a1 "java/lang/AbstractStringBuilder" "value" "[B" (.ref vb)) (FC : Fld Z h0 a1 "java/lang/AbstractStringBuilder" "coder" "B" (.int (0 : Int32))) (FN : Fld Z h0 a1 "java/lang/AbstractStringBuilder" "count" "I" (.int (Int32.ofNat nz))) (AV : Arv Z h0 vb kb .byte (Int32.ofNat cz) (vl) (.int (0 : Int32))) (hvs : vl.length = cz) (ga : n0 ≤ a1) (gb : n0 ≤ vb) (nab : a1 ≠ vb) (hc : cz < 60) (hn : nz < 1000) (ES : Exa Z h0 a2 "java/lang/String") (SV : Fld Z h0 a2 "java/lang/String" "value" "[B" (.ref wb)) (SC : Fld Z h0 a2 "java/lang/String" "coder" "B" (.int (0 : Int32))) (AS : Arv Z h0 wb kw .byte (Int32.ofNat mz) (wl) (.int (0 : Int32))) (hm : mz < 1000) (X00 : Old Z n0 h0) (O_2 : Sta Z Z.heap "java/lang/String" "COMPACT_STRINGS" "Z" (.int G1)) (P5 : ¬ (G1 = (0 : Int32))) (hac : nz + mz ≤ cz) (ha : nz + mz < 1000) :
    MetFree l (⟨"java/lang/StringBuilder", "append", "(Ljava/lang/String;)Ljava/lang/StringBuilder;"⟩ : MethodName) (head1 (Jvm.Cond.code (⟨"java/lang/StringBuilder", "append", "(Ljava/lang/String;)Ljava/lang/StringBuilder;"⟩ : MethodName) jdk_67_method_7_code 2 (some (.object "java/lang/StringBuilder")) :: ws) ({ frames := 4, cells := 0, slots := 0, locals := 61 } : Room)) (fun a U => a = #[(.ref a1), (.ref a2)] ∧ Z.Warmed39 U.vm ∧ U.heap = h0) (fun _ _ _ _ _ => True) (fun _ U o U' => ∃ v L, o = .returned v ∧ QrXf Z a1 a2 vb kb cz nz vl wb kw mz wl G1 h0 n0 v U'.heap L ∧ FrameEnd U o U' L ({ frames := 4, cells := 0, slots := 0, locals := 61 } : Room).cells ({ frames := 4, cells := 0, slots := 0, locals := 61 } : Room).slots) := by
  refine MetFree.of_bodySF (plainFor_of_name pn_23) hisR ?_
  intro p e s m args below meth c s₁ Bd hml0 hP hK
  obtain ⟨rfl, hZ, hh⟩ := hP
  have hx := Bd.exec
  have hby := Bd.bytes
  have hml : c.maxLocals = 2 := hml0
  have hown : s.vm.findClass "java/lang/StringBuilder" = some m.cls := findClass_of_methodNamed Bd.named
  have hnm := (name_of_methodNamed Bd.named Bd.method).1
  have X0 : Stand p l e ({ frames := 4, cells := 0, slots := 0, locals := 61 } : Room) s m #[(.ref a1), (.ref a2)] below meth c s₁ [] 0 0 := Stand.of_body Bd
  have e0 : s₁.heap = h0 := by rw [← hh, Bd.state]; rfl
  have N0 := Fr.nil n0
  have pre0 : ∀ t, Steps p.tables e below (s₁.setTop (mkF m 0 #[.val (.ref a1), .val (.ref a2)] [])) t → Steps p.tables e below (s₁.setTop (entryFrame m #[(.ref a1), (.ref a2)] 2)) t := fun t k => castTop (ef_rXf m a1 a2) k
  have n12 : a1 ≠ a2 := own_neE E ES (by decide)
  have n1w : a1 ≠ wb := Exa.neArv E AS (hw _ (own_w 110 rfl))
  obtain ⟨_, _, ⟨T1, Lq1, kq1, nq1⟩, -, X1, ⟨Lc1, hQ1, lq1, yq1, zq1⟩, st1⟩ := superBack X0 hx hZ (y := (⟨"java/lang/AbstractStringBuilder", "append", "(Ljava/lang/String;)Ljava/lang/AbstractStringBuilder;"⟩ : MethodName)) hown (hw _ (own_w 133 rfl)) (own_same (z := (⟨"java/lang/AbstractStringBuilder", "ensureCapacityInternal", "(I)V"⟩ : MethodName)) (C := "java/lang/StringBuilder") (hw _ (own_w 134 rfl)) (hw _ (own_w 144 rfl)) rfl (by decide)) (hw _ (own_w 134 rfl)) (hw _ (own_w 135 rfl)) (by decide) (backOf (W := 0) (rAf l Z a0 hw [] a1 a2 vb kb (cz) (nz) (vl) wb kw (mz) (wl) G1 h0 n0 Z0 E FV FC FN AV hvs ga gb nab (by omega) (by omega) ES SV SC AS hm X00 O_2 P5 (by omega) (by omega)) hZ (hw _ (own_w 137 rfl)) (hw _ (own_w 119 rfl)) (by decide) (by decide)) e0 (Ins.self E) (g := (mkF m 2 #[.val (.ref a1), .val (.ref a2)] [(.ref a2), (.ref a1)])) rfl (by rw [hml]; rfl) (hw _ (own_w 137 rfl)) (argsL := [(.ref a2)]) (rest := []) (lenOf pd_10 rfl) rfl (by show 2 * 0 + _ ≤ _; exact Nat.le_of_eq rfl) (hb hby d23_2) (fun _ _ => ⟨rfl, e0, (by decide : 0 + 0 ≤ _), (by decide : 0 + 0 ≤ _)⟩)
  dsimp only [Pt.U, Pt.locs, Pt.cells, Pt.slots] at X1 lq1 yq1 zq1 st1 hQ1
  subst lq1 yq1 zq1
  obtain ⟨vl1, rfl, N1q, KC1, hv1, E1', FV1', FC1', FN1', AV1'⟩ := hQ1
  have N1 := Fr.app N0 N1q
  have Z1 : n0 ≤ T1.heap.size := Nat.le_trans Z0 KC1.1
  have K1 : Keep h0 T1.heap [a1, vb] := (Keep.refl h0 [a1, vb]).trans KC1 (allS (Or.inl (own_w 0 rfl)) (allS (Or.inl (own_w 1 rfl)) all0))
  obtain ⟨fs, hr, hrun, hended, hW, hsame⟩ := X1.leave (v := some (.ref a1)) (fun h => by rw [Bd.returns] at h; cases h) (BodyLoose.notSynchronized Bd)
  refine ⟨_, _, pre0 _ ?_, hrun, hended, _, _, rfl, ?_, ⟨_, rfl⟩, hW, hsame.mono (by decide) (by decide)⟩
  · show Steps p.tables e below (s₁.setTop (mkF m 0 #[.val (.ref a1), .val (.ref a2)] [])) _
    refine XS.aloadN X0.here hx rfl (hb hby d23_0) rfl rfl ?_
    refine XS.aloadN X0.here hx rfl (hb hby d23_1) rfl rfl ?_
    refine st1.trans ?_
    refine XS.pop X1.here hx rfl (hb hby d23_5) rfl rfl ?_
    refine XS.aloadN X1.here hx rfl (hb hby d23_6) rfl rfl ?_
    show Steps p.tables e below (T1.setTop (mkF m 7 #[.val (.ref a1), .val (.ref a2)] [(.ref a1)])) _
    exact X1.areturnOut hx rfl Bd.returns rfl (hb hby d23_7) hr
  · show QrXf Z a1 a2 vb kb cz nz vl wb kw mz wl G1 h0 n0 _ T1.heap _
    exact ⟨_, rfl, N1, K1, hv1, E1', FV1', FC1', FN1', AV1'⟩
theorem ef_rXg (m : MethodId) (a1 : Addr) (a2 : Addr) : entryFrame m #[(.ref a1), (.ref a2)] 2 = mkF m 0 #[.val (.ref a1), .val (.ref a2)] [] := by first | (simp [entryFrame, mkF, argsToLocals, Value.category]; done) | rfl
def QrXg (Z : State) (a1 : Addr) (a2 : Addr) (vb : Addr) (kb : ClassId) (cz : Nat) (nz : Nat) (vl : List Value) (wb : Addr) (kw : ClassId) (mz : Nat) (wl : List Value) (G1 : Int32) (h0 : Heap) (n0 : Nat) (v : Option Value) (h : Heap) (L : List Loc) : Prop := ∃ (vb' : Addr) (kb' : ClassId) (vl' : List Value), v = some (.ref a1) ∧ Fr n0 L ∧ Keep h0 h [a1] ∧ n0 ≤ vb' ∧ h0.size ≤ vb' ∧ a1 ≠ vb' ∧ vl'.length = cz + (cz + 2) ∧ Exa Z h a1 "java/lang/StringBuilder" ∧ Fld Z h a1 "java/lang/AbstractStringBuilder" "value" "[B" (.ref vb') ∧ Fld Z h a1 "java/lang/AbstractStringBuilder" "coder" "B" (.int (0 : Int32)) ∧ Fld Z h a1 "java/lang/AbstractStringBuilder" "count" "I" (.int (Int32.ofNat (nz + mz))) ∧ Arv Z h vb' kb' .byte (Int32.ofNat (cz + (cz + 2))) (vl') (.int (0 : Int32))
set_option maxRecDepth 65536 in
set_option maxHeartbeats 40000000 in
theorem rXg (l : Launch) (Z : State) (a0 : Array Value) (hw : ∀ d ∈ tables_1, d.before a0 Z = true) (ws : List Jvm.Cond) (a1 : Addr) (a2 : Addr) (vb : Addr) (kb : ClassId) (cz : Nat) (nz : Nat) (vl : List Value) (wb : Addr) (kw : ClassId) (mz : Nat) (wl : List Value) (G1 : Int32) (h0 : Heap) (n0 : Nat) (Z0 : n0 ≤ h0.size) (E : Exa Z h0 a1 "java/lang/StringBuilder") (FV : Fld Z h0 a1 "java/lang/AbstractStringBuilder" "value" "[B" (.ref vb)) (FC : Fld Z h0 a1 "java/lang/AbstractStringBuilder" "coder" "B" (.int (0 : Int32))) (FN : Fld Z h0 a1 "java/lang/AbstractStringBuilder" "count" "I" (.int (Int32.ofNat nz))) (AV : Arv Z h0 vb kb .byte (Int32.ofNat cz) (vl) (.int (0 : Int32))) (hvs : vl.length = cz) (ga : n0 ≤ a1) (gb : n0 ≤ vb) (nab : a1 ≠ vb) (hc : cz < 60) (hn : nz < 1000) (ES : Exa Z h0 a2 "java/lang/String") (SV : Fld Z h0 a2 "java/lang/String" "value" "[B" (.ref wb)) (SC : Fld Z h0 a2 "java/lang/String" "coder" "B" (.int (0 : Int32))) (AS : Arv Z h0 wb kw .byte (Int32.ofNat mz) (wl) (.int (0 : Int32))) (hm : mz < 1000) (X00 : Old Z n0 h0) (O_2 : Sta Z Z.heap "java/lang/String" "COMPACT_STRINGS" "Z" (.int G1)) (P5 : ¬ (G1 = (0 : Int32))) (hca : cz < nz + mz) (hag : nz + mz - cz ≤ cz + 2) (ha : nz + mz < 1000) :
    MetFree l (⟨"java/lang/StringBuilder", "append", "(Ljava/lang/String;)Ljava/lang/StringBuilder;"⟩ : MethodName) (head1 (Jvm.Cond.code (⟨"java/lang/StringBuilder", "append", "(Ljava/lang/String;)Ljava/lang/StringBuilder;"⟩ : MethodName) jdk_67_method_7_code 2 (some (.object "java/lang/StringBuilder")) :: ws) ({ frames := 5, cells := 1, slots := 128, locals := 76 } : Room)) (fun a U => a = #[(.ref a1), (.ref a2)] ∧ Z.Warmed39 U.vm ∧ U.heap = h0) (fun _ _ _ _ _ => True) (fun _ U o U' => ∃ v L, o = .returned v ∧ QrXg Z a1 a2 vb kb cz nz vl wb kw mz wl G1 h0 n0 v U'.heap L ∧ FrameEnd U o U' L ({ frames := 5, cells := 1, slots := 128, locals := 76 } : Room).cells ({ frames := 5, cells := 1, slots := 128, locals := 76 } : Room).slots) := by
  refine MetFree.of_bodySF (plainFor_of_name pn_23) hisR ?_
  intro p e s m args below meth c s₁ Bd hml0 hP hK
  obtain ⟨rfl, hZ, hh⟩ := hP
  have hx := Bd.exec
  have hby := Bd.bytes
  have hml : c.maxLocals = 2 := hml0
  have hown : s.vm.findClass "java/lang/StringBuilder" = some m.cls := findClass_of_methodNamed Bd.named
  have hnm := (name_of_methodNamed Bd.named Bd.method).1
  have X0 : Stand p l e ({ frames := 5, cells := 1, slots := 128, locals := 76 } : Room) s m #[(.ref a1), (.ref a2)] below meth c s₁ [] 0 0 := Stand.of_body Bd
  have e0 : s₁.heap = h0 := by rw [← hh, Bd.state]; rfl
  have N0 := Fr.nil n0
  have pre0 : ∀ t, Steps p.tables e below (s₁.setTop (mkF m 0 #[.val (.ref a1), .val (.ref a2)] [])) t → Steps p.tables e below (s₁.setTop (entryFrame m #[(.ref a1), (.ref a2)] 2)) t := fun t k => castTop (ef_rXg m a1 a2) k
  have n12 : a1 ≠ a2 := own_neE E ES (by decide)
  have n1w : a1 ≠ wb := Exa.neArv E AS (hw _ (own_w 110 rfl))
  obtain ⟨_, _, ⟨T1, Lq1, kq1, nq1⟩, -, X1, ⟨Lc1, hQ1, lq1, yq1, zq1⟩, st1⟩ := superBack X0 hx hZ (y := (⟨"java/lang/AbstractStringBuilder", "append", "(Ljava/lang/String;)Ljava/lang/AbstractStringBuilder;"⟩ : MethodName)) hown (hw _ (own_w 133 rfl)) (own_same (z := (⟨"java/lang/AbstractStringBuilder", "ensureCapacityInternal", "(I)V"⟩ : MethodName)) (C := "java/lang/StringBuilder") (hw _ (own_w 134 rfl)) (hw _ (own_w 144 rfl)) rfl (by decide)) (hw _ (own_w 134 rfl)) (hw _ (own_w 135 rfl)) (by decide) (backOf (W := 0) (rAg l Z a0 hw [] a1 a2 vb kb (cz) (nz) (vl) wb kw (mz) (wl) G1 h0 n0 Z0 E FV FC FN AV hvs ga gb nab (by omega) (by omega) ES SV SC AS hm X00 O_2 P5 (by omega) (by omega) (by omega)) hZ (hw _ (own_w 137 rfl)) (hw _ (own_w 119 rfl)) (by decide) (by decide)) e0 (Ins.self E) (g := (mkF m 2 #[.val (.ref a1), .val (.ref a2)] [(.ref a2), (.ref a1)])) rfl (by rw [hml]; rfl) (hw _ (own_w 137 rfl)) (argsL := [(.ref a2)]) (rest := []) (lenOf pd_10 rfl) rfl (by show 2 * 0 + _ ≤ _; exact Nat.le_of_eq rfl) (hb hby d23_2) (fun _ _ => ⟨rfl, e0, (by decide : 0 + 1 ≤ _), (by decide : 0 + 128 ≤ _)⟩)
  dsimp only [Pt.U, Pt.locs, Pt.cells, Pt.slots] at X1 lq1 yq1 zq1 st1 hQ1
  subst lq1 yq1 zq1
  obtain ⟨vb1, kb1, vl1, rfl, N1q, KC1, gb1, gk1, nab1, hv1, E1', FV1', FC1', FN1', AV1'⟩ := hQ1
  have N1 := Fr.app N0 N1q
  have Z1 : n0 ≤ T1.heap.size := Nat.le_trans Z0 KC1.1
  have ne2 : vb ≠ vb1 := Nat.ne_of_lt (Nat.lt_of_lt_of_le AV.lt gk1)
  have ne3 : a2 ≠ vb1 := Nat.ne_of_lt (Nat.lt_of_lt_of_le SC.lt gk1)
  have ne4 : wb ≠ vb1 := Nat.ne_of_lt (Nat.lt_of_lt_of_le AS.lt gk1)
  have K1 : Keep h0 T1.heap [a1] := (Keep.refl h0 [a1]).trans KC1 (allS (Or.inl (own_w 0 rfl)) all0)
  obtain ⟨fs, hr, hrun, hended, hW, hsame⟩ := X1.leave (v := some (.ref a1)) (fun h => by rw [Bd.returns] at h; cases h) (BodyLoose.notSynchronized Bd)
  refine ⟨_, _, pre0 _ ?_, hrun, hended, _, _, rfl, ?_, ⟨_, rfl⟩, hW, hsame.mono (by decide) (by decide)⟩
  · show Steps p.tables e below (s₁.setTop (mkF m 0 #[.val (.ref a1), .val (.ref a2)] [])) _
    refine XS.aloadN X0.here hx rfl (hb hby d23_0) rfl rfl ?_
    refine XS.aloadN X0.here hx rfl (hb hby d23_1) rfl rfl ?_
    refine st1.trans ?_
    refine XS.pop X1.here hx rfl (hb hby d23_5) rfl rfl ?_
    refine XS.aloadN X1.here hx rfl (hb hby d23_6) rfl rfl ?_
    show Steps p.tables e below (T1.setTop (mkF m 7 #[.val (.ref a1), .val (.ref a2)] [(.ref a1)])) _
    exact X1.areturnOut hx rfl Bd.returns rfl (hb hby d23_7) hr
  · show QrXg Z a1 a2 vb kb cz nz vl wb kw mz wl G1 h0 n0 _ T1.heap _
    exact ⟨vb1, _, _, rfl, N1, K1, gb1, (Nat.le_trans (Keep.refl h0 [a1]).1 gk1), nab1, hv1, E1', FV1', FC1', FN1', AV1'⟩
theorem d37_0 : decode jdk_68_method_64_code 0 = .ok (.aload_n 0, 1) := by decide +kernel
theorem d37_1 : decode jdk_68_method_64_code 1 = .ok (.getfield 15, 3) := by decide +kernel
theorem d37_4 : decode jdk_68_method_64_code 4 = .ok (.areturn, 1) := by decide +kernel
theorem pn_37 : plainName "java/lang/AbstractStringBuilder" = true := by first | (simp [plainName, overriddenIn]; done) | decide +kernel
theorem ef_rGV (m : MethodId) (a1 : Addr) : entryFrame m #[(.ref a1)] 1 = mkF m 0 #[.val (.ref a1)] [] := by first | (simp [entryFrame, mkF, argsToLocals, Value.category]; done) | rfl
def QrGV (Z : State) (a1 : Addr) (vb : Addr) (h0 : Heap) (n0 : Nat) (v : Option Value) (h : Heap) (L : List Loc) : Prop := v = some (.ref vb) ∧ Fr n0 L ∧ h = h0
set_option maxRecDepth 65536 in
set_option maxHeartbeats 40000000 in
theorem rGV (l : Launch) (Z : State) (a0 : Array Value) (hw : ∀ d ∈ tables_1, d.before a0 Z = true) (ws : List Jvm.Cond) (a1 : Addr) (vb : Addr) (h0 : Heap) (n0 : Nat) (Z0 : n0 ≤ h0.size) (FV : Fld Z h0 a1 "java/lang/AbstractStringBuilder" "value" "[B" (.ref vb)) :
    MetFree l (⟨"java/lang/AbstractStringBuilder", "getValue", "()[B"⟩ : MethodName) (head1 (Jvm.Cond.code (⟨"java/lang/AbstractStringBuilder", "getValue", "()[B"⟩ : MethodName) jdk_68_method_64_code 1 (some (.array .byte)) :: ws) ({ frames := 0, cells := 0, slots := 0, locals := 0 } : Room)) (fun a U => a = #[(.ref a1)] ∧ Z.Warmed39 U.vm ∧ U.heap = h0) (fun _ _ _ _ _ => True) (fun _ U o U' => ∃ v L, o = .returned v ∧ QrGV Z a1 vb h0 n0 v U'.heap L ∧ FrameEnd U o U' L ({ frames := 0, cells := 0, slots := 0, locals := 0 } : Room).cells ({ frames := 0, cells := 0, slots := 0, locals := 0 } : Room).slots) := by
  refine MetFree.of_bodySF (plainFor_of_name pn_37) hisR ?_
  intro p e s m args below meth c s₁ Bd hml0 hP hK
  obtain ⟨rfl, hZ, hh⟩ := hP
  have hx := Bd.exec
  have hby := Bd.bytes
  have hml : c.maxLocals = 1 := hml0
  have hown : s.vm.findClass "java/lang/AbstractStringBuilder" = some m.cls := findClass_of_methodNamed Bd.named
  have hnm := (name_of_methodNamed Bd.named Bd.method).1
  have X0 : Stand p l e ({ frames := 0, cells := 0, slots := 0, locals := 0 } : Room) s m #[(.ref a1)] below meth c s₁ [] 0 0 := Stand.of_body Bd
  have e0 : s₁.heap = h0 := by rw [← hh, Bd.state]; rfl
  have N0 := Fr.nil n0
  have pre0 : ∀ t, Steps p.tables e below (s₁.setTop (mkF m 0 #[.val (.ref a1)] [])) t → Steps p.tables e below (s₁.setTop (entryFrame m #[(.ref a1)] 1)) t := fun t k => castTop (ef_rGV m a1) k
  obtain ⟨T1, X1, e1, st1⟩ := getF X0 hx hZ hown (host := "") (Or.inl (hw _ (own_w 123 rfl))) Via.refl e0 FV (g := (mkF m 1 #[.val (.ref a1)] [(.ref a1)])) rfl rfl (hb hby d37_1)
  obtain ⟨fs, hr, hrun, hended, hW, hsame⟩ := X1.leave (v := some (.ref vb)) (fun h => by rw [Bd.returns] at h; cases h) (BodyLoose.notSynchronized Bd)
  refine ⟨_, _, pre0 _ ?_, hrun, hended, _, _, rfl, ?_, ⟨_, rfl⟩, hW, hsame.mono (by decide) (by decide)⟩
  · show Steps p.tables e below (s₁.setTop (mkF m 0 #[.val (.ref a1)] [])) _
    refine XS.aloadN X0.here hx rfl (hb hby d37_0) rfl rfl ?_
    refine st1 _ ?_
    show Steps p.tables e below (T1.setTop (mkF m 4 #[.val (.ref a1)] [(.ref vb)])) _
    exact X1.areturnOut hx rfl Bd.returns rfl (hb hby d37_4) hr
  · show QrGV Z a1 vb h0 n0 _ T1.heap _
    exact ⟨rfl, N0, e1⟩
theorem d39_0 : decode jdk_68_method_6_code 0 = .ok (.aload_n 0, 1) := by decide +kernel
theorem d39_1 : decode jdk_68_method_6_code 1 = .ok (.getfield 79, 3) := by decide +kernel
theorem d39_4 : decode jdk_68_method_6_code 4 = .ok (.ireturn, 1) := by decide +kernel
theorem pn_39 : plainName "java/lang/AbstractStringBuilder" = true := by first | (simp [plainName, overriddenIn]; done) | decide +kernel
theorem ef_rAL (m : MethodId) (a1 : Addr) : entryFrame m #[(.ref a1)] 1 = mkF m 0 #[.val (.ref a1)] [] := by first | (simp [entryFrame, mkF, argsToLocals, Value.category]; done) | rfl
def QrAL (Z : State) (a1 : Addr) (zc : Int32) (h0 : Heap) (n0 : Nat) (v : Option Value) (h : Heap) (L : List Loc) : Prop := ∃ z : Int32, z = (zc) ∧ v = some (.int z) ∧ Fr n0 L ∧ h = h0
set_option maxRecDepth 65536 in
set_option maxHeartbeats 40000000 in
theorem rAL (l : Launch) (Z : State) (a0 : Array Value) (hw : ∀ d ∈ tables_1, d.before a0 Z = true) (ws : List Jvm.Cond) (a1 : Addr) (zc : Int32) (h0 : Heap) (n0 : Nat) (Z0 : n0 ≤ h0.size) (E : Exa Z h0 a1 "java/lang/StringBuilder") (FN : Fld Z h0 a1 "java/lang/AbstractStringBuilder" "count" "I" (.int zc)) :
    MetFree l (⟨"java/lang/AbstractStringBuilder", "length", "()I"⟩ : MethodName) (head1 (Jvm.Cond.code (⟨"java/lang/AbstractStringBuilder", "length", "()I"⟩ : MethodName) jdk_68_method_6_code 1 (some .int) :: ws) ({ frames := 0, cells := 0, slots := 0, locals := 0 } : Room)) (fun a U => a = #[(.ref a1)] ∧ Z.Warmed39 U.vm ∧ U.heap = h0) (fun _ _ _ _ _ => True) (fun _ U o U' => ∃ v L, o = .returned v ∧ QrAL Z a1 zc h0 n0 v U'.heap L ∧ FrameEnd U o U' L ({ frames := 0, cells := 0, slots := 0, locals := 0 } : Room).cells ({ frames := 0, cells := 0, slots := 0, locals := 0 } : Room).slots) := by
  refine MetFree.of_bodySF (plainFor_of_name pn_39) hisR ?_
  intro p e s m args below meth c s₁ Bd hml0 hP hK
  obtain ⟨rfl, hZ, hh⟩ := hP
  have hx := Bd.exec
  have hby := Bd.bytes
  have hml : c.maxLocals = 1 := hml0
  have hown : s.vm.findClass "java/lang/AbstractStringBuilder" = some m.cls := findClass_of_methodNamed Bd.named
  have hnm := (name_of_methodNamed Bd.named Bd.method).1
  have X0 : Stand p l e ({ frames := 0, cells := 0, slots := 0, locals := 0 } : Room) s m #[(.ref a1)] below meth c s₁ [] 0 0 := Stand.of_body Bd
  have e0 : s₁.heap = h0 := by rw [← hh, Bd.state]; rfl
  have N0 := Fr.nil n0
  have pre0 : ∀ t, Steps p.tables e below (s₁.setTop (mkF m 0 #[.val (.ref a1)] [])) t → Steps p.tables e below (s₁.setTop (entryFrame m #[(.ref a1)] 1)) t := fun t k => castTop (ef_rAL m a1) k
  obtain ⟨T1, X1, e1, st1⟩ := getF X0 hx hZ hown (host := "") (Or.inl (hw _ (own_w 139 rfl))) Via.refl e0 FN (g := (mkF m 1 #[.val (.ref a1)] [(.ref a1)])) rfl rfl (hb hby d39_1)
  obtain ⟨fs, hr, hrun, hended, hW, hsame⟩ := X1.leave (v := some (.int zc)) (fun h => by rw [Bd.returns] at h; cases h) (BodyLoose.notSynchronized Bd)
  refine ⟨_, _, pre0 _ ?_, hrun, hended, _, _, rfl, ?_, ⟨_, rfl⟩, hW, hsame.mono (by decide) (by decide)⟩
  · show Steps p.tables e below (s₁.setTop (mkF m 0 #[.val (.ref a1)] [])) _
    refine XS.aloadN X0.here hx rfl (hb hby d39_0) rfl rfl ?_
    refine st1 _ ?_
    show Steps p.tables e below (T1.setTop (mkF m 4 #[.val (.ref a1)] [(.int zc)])) _
    exact retI X1 hx Bd.returns (hb hby d39_4) hr
  · show QrAL Z a1 zc h0 n0 _ T1.heap _
    exact ⟨_, rfl, rfl, N0, e1⟩
theorem d38_0 : decode jdk_67_method_93_code 0 = .ok (.aload_n 0, 1) := by decide +kernel
theorem d38_1 : decode jdk_67_method_93_code 1 = .ok (.invokespecial 343, 3) := by decide +kernel
theorem d38_4 : decode jdk_67_method_93_code 4 = .ok (.ireturn, 1) := by decide +kernel
theorem pn_38 : plainName "java/lang/StringBuilder" = true := by first | (simp [plainName, overriddenIn]; done) | decide +kernel
theorem ef_rSL (m : MethodId) (a1 : Addr) : entryFrame m #[(.ref a1)] 1 = mkF m 0 #[.val (.ref a1)] [] := by first | (simp [entryFrame, mkF, argsToLocals, Value.category]; done) | rfl
def QrSL (Z : State) (a1 : Addr) (zc : Int32) (h0 : Heap) (n0 : Nat) (v : Option Value) (h : Heap) (L : List Loc) : Prop := ∃ z : Int32, z = (zc) ∧ v = some (.int z) ∧ Fr n0 L ∧ h = h0
set_option maxRecDepth 65536 in
set_option maxHeartbeats 40000000 in
theorem rSL (l : Launch) (Z : State) (a0 : Array Value) (hw : ∀ d ∈ tables_1, d.before a0 Z = true) (ws : List Jvm.Cond) (a1 : Addr) (zc : Int32) (h0 : Heap) (n0 : Nat) (Z0 : n0 ≤ h0.size) (E : Exa Z h0 a1 "java/lang/StringBuilder") (FN : Fld Z h0 a1 "java/lang/AbstractStringBuilder" "count" "I" (.int zc)) :
    MetFree l (⟨"java/lang/StringBuilder", "length", "()I"⟩ : MethodName) (head1 (Jvm.Cond.code (⟨"java/lang/StringBuilder", "length", "()I"⟩ : MethodName) jdk_67_method_93_code 1 (some .int) :: ws) ({ frames := 1, cells := 0, slots := 0, locals := 12 } : Room)) (fun a U => a = #[(.ref a1)] ∧ Z.Warmed39 U.vm ∧ U.heap = h0) (fun _ _ _ _ _ => True) (fun _ U o U' => ∃ v L, o = .returned v ∧ QrSL Z a1 zc h0 n0 v U'.heap L ∧ FrameEnd U o U' L ({ frames := 1, cells := 0, slots := 0, locals := 12 } : Room).cells ({ frames := 1, cells := 0, slots := 0, locals := 12 } : Room).slots) := by
  refine MetFree.of_bodySF (plainFor_of_name pn_38) hisR ?_
  intro p e s m args below meth c s₁ Bd hml0 hP hK
  obtain ⟨rfl, hZ, hh⟩ := hP
  have hx := Bd.exec
  have hby := Bd.bytes
  have hml : c.maxLocals = 1 := hml0
  have hown : s.vm.findClass "java/lang/StringBuilder" = some m.cls := findClass_of_methodNamed Bd.named
  have hnm := (name_of_methodNamed Bd.named Bd.method).1
  have X0 : Stand p l e ({ frames := 1, cells := 0, slots := 0, locals := 12 } : Room) s m #[(.ref a1)] below meth c s₁ [] 0 0 := Stand.of_body Bd
  have e0 : s₁.heap = h0 := by rw [← hh, Bd.state]; rfl
  have N0 := Fr.nil n0
  have pre0 : ∀ t, Steps p.tables e below (s₁.setTop (mkF m 0 #[.val (.ref a1)] [])) t → Steps p.tables e below (s₁.setTop (entryFrame m #[(.ref a1)] 1)) t := fun t k => castTop (ef_rSL m a1) k
  obtain ⟨_, _, ⟨T1, Lq1, kq1, nq1⟩, -, X1, ⟨Lc1, hQ1, lq1, yq1, zq1⟩, st1⟩ := superBack X0 hx hZ (y := (⟨"java/lang/AbstractStringBuilder", "length", "()I"⟩ : MethodName)) hown (hw _ (own_w 213 rfl)) (own_same (z := (⟨"java/lang/AbstractStringBuilder", "ensureCapacityInternal", "(I)V"⟩ : MethodName)) (C := "java/lang/StringBuilder") (hw _ (own_w 209 rfl)) (hw _ (own_w 144 rfl)) rfl (by decide)) (hw _ (own_w 209 rfl)) (hw _ (own_w 135 rfl)) (by decide) (backOf (W := 0) (rAL l Z a0 hw [] a1 zc h0 n0 Z0 E FN) hZ (hw _ (own_w 214 rfl)) (hw _ (own_w 119 rfl)) (by decide) (by decide)) e0 (Ins.self E) (g := (mkF m 1 #[.val (.ref a1)] [(.ref a1)])) rfl (by rw [hml]; rfl) (hw _ (own_w 214 rfl)) (argsL := []) (rest := []) (lenOf pd_8 rfl) rfl (by show 2 * 0 + _ ≤ _; exact Nat.le_of_eq rfl) (hb hby d38_1) (fun _ _ => ⟨rfl, e0, (by decide : 0 + 0 ≤ _), (by decide : 0 + 0 ≤ _)⟩)
  dsimp only [Pt.U, Pt.locs, Pt.cells, Pt.slots] at X1 lq1 yq1 zq1 st1 hQ1
  subst lq1 yq1 zq1
  obtain ⟨r1, hr1, rfl, N1q, e1⟩ := hQ1
  have N1 := Fr.app N0 N1q
  obtain ⟨fs, hr, hrun, hended, hW, hsame⟩ := X1.leave (v := some (.int r1)) (fun h => by rw [Bd.returns] at h; cases h) (BodyLoose.notSynchronized Bd)
  refine ⟨_, _, pre0 _ ?_, hrun, hended, _, _, rfl, ?_, ⟨_, rfl⟩, hW, hsame.mono (by decide) (by decide)⟩
  · show Steps p.tables e below (s₁.setTop (mkF m 0 #[.val (.ref a1)] [])) _
    refine XS.aloadN X0.here hx rfl (hb hby d38_0) rfl rfl ?_
    refine st1.trans ?_
    show Steps p.tables e below (T1.setTop (mkF m 4 #[.val (.ref a1)] [(.int r1)])) _
    exact retI X1 hx Bd.returns (hb hby d38_4) hr
  · show QrSL Z a1 zc h0 n0 _ T1.heap _
    exact ⟨_, hr1, rfl, N1, e1⟩
theorem d40_0 : decode jdk_68_method_68_code 0 = .ok (.getstatic 18, 3) := by decide +kernel
theorem d40_3 : decode jdk_68_method_68_code 3 = .ok (.ifCond .eq 14, 3) := by decide +kernel
theorem d40_6 : decode jdk_68_method_68_code 6 = .ok (.aload_n 0, 1) := by decide +kernel
theorem d40_7 : decode jdk_68_method_68_code 7 = .ok (.getfield 22, 3) := by decide +kernel
theorem d40_10 : decode jdk_68_method_68_code 10 = .ok (.ifCond .ne 7, 3) := by decide +kernel
theorem d40_13 : decode jdk_68_method_68_code 13 = .ok (.iconst 1, 1) := by decide +kernel
theorem d40_14 : decode jdk_68_method_68_code 14 = .ok (.goto 4, 3) := by decide +kernel
theorem d40_18 : decode jdk_68_method_68_code 18 = .ok (.ireturn, 1) := by decide +kernel
theorem pn_40 : plainName "java/lang/AbstractStringBuilder" = true := by first | (simp [plainName, overriddenIn]; done) | decide +kernel
theorem ef_rIL (m : MethodId) (a1 : Addr) : entryFrame m #[(.ref a1)] 1 = mkF m 0 #[.val (.ref a1)] [] := by first | (simp [entryFrame, mkF, argsToLocals, Value.category]; done) | rfl
def QrIL (Z : State) (a1 : Addr) (G1 : Int32) (h0 : Heap) (n0 : Nat) (v : Option Value) (h : Heap) (L : List Loc) : Prop := ∃ z : Int32, z = ((1 : Int32)) ∧ v = some (.int z) ∧ Fr n0 L ∧ h = h0
set_option maxRecDepth 65536 in
set_option maxHeartbeats 40000000 in
theorem rIL (l : Launch) (Z : State) (a0 : Array Value) (hw : ∀ d ∈ tables_1, d.before a0 Z = true) (ws : List Jvm.Cond) (a1 : Addr) (G1 : Int32) (h0 : Heap) (n0 : Nat) (Z0 : n0 ≤ h0.size) (X00 : Old Z n0 h0) (O_2 : Sta Z Z.heap "java/lang/String" "COMPACT_STRINGS" "Z" (.int G1)) (P5 : ¬ (G1 = (0 : Int32))) (FC : Fld Z h0 a1 "java/lang/AbstractStringBuilder" "coder" "B" (.int (0 : Int32))) :
    MetFree l (⟨"java/lang/AbstractStringBuilder", "isLatin1", "()Z"⟩ : MethodName) (head1 (Jvm.Cond.code (⟨"java/lang/AbstractStringBuilder", "isLatin1", "()Z"⟩ : MethodName) jdk_68_method_68_code 1 (some .boolean) :: ws) ({ frames := 0, cells := 0, slots := 0, locals := 0 } : Room)) (fun a U => a = #[(.ref a1)] ∧ Z.Warmed39 U.vm ∧ U.heap = h0) (fun _ _ _ _ _ => True) (fun _ U o U' => ∃ v L, o = .returned v ∧ QrIL Z a1 G1 h0 n0 v U'.heap L ∧ FrameEnd U o U' L ({ frames := 0, cells := 0, slots := 0, locals := 0 } : Room).cells ({ frames := 0, cells := 0, slots := 0, locals := 0 } : Room).slots) := by
  refine MetFree.of_bodySF (plainFor_of_name pn_40) hisR ?_
  intro p e s m args below meth c s₁ Bd hml0 hP hK
  obtain ⟨rfl, hZ, hh⟩ := hP
  have hx := Bd.exec
  have hby := Bd.bytes
  have hml : c.maxLocals = 1 := hml0
  have hown : s.vm.findClass "java/lang/AbstractStringBuilder" = some m.cls := findClass_of_methodNamed Bd.named
  have hnm := (name_of_methodNamed Bd.named Bd.method).1
  have X0 : Stand p l e ({ frames := 0, cells := 0, slots := 0, locals := 0 } : Room) s m #[(.ref a1)] below meth c s₁ [] 0 0 := Stand.of_body Bd
  have e0 : s₁.heap = h0 := by rw [← hh, Bd.state]; rfl
  have N0 := Fr.nil n0
  have pre0 : ∀ t, Steps p.tables e below (s₁.setTop (mkF m 0 #[.val (.ref a1)] [])) t → Steps p.tables e below (s₁.setTop (entryFrame m #[(.ref a1)] 1)) t := fun t k => castTop (ef_rIL m a1) k
  obtain ⟨T1, X1, e1, st1⟩ := getS2 X0 hx hZ hown (host := "") (Or.inl (hw _ (own_w 122 rfl))) Via.refl e0 (O_2.ext X00.2) (g := (mkF m 0 #[.val (.ref a1)] [])) rfl (hb hby d40_0)
  obtain ⟨T2, X2, e2, st2⟩ := getF X1 hx hZ hown (host := "") (Or.inl (hw _ (own_w 125 rfl))) Via.refl e1 FC (g := (mkF m 7 #[.val (.ref a1)] [(.ref a1)])) rfl rfl (hb hby d40_7)
  obtain ⟨fs, hr, hrun, hended, hW, hsame⟩ := X2.leave (v := some (.int (1 : Int32))) (fun h => by rw [Bd.returns] at h; cases h) (BodyLoose.notSynchronized Bd)
  refine ⟨_, _, pre0 _ ?_, hrun, hended, _, _, rfl, ?_, ⟨_, rfl⟩, hW, hsame.mono (by decide) (by decide)⟩
  · show Steps p.tables e below (s₁.setTop (mkF m 0 #[.val (.ref a1)] [])) _
    refine st1 _ ?_
    refine XS.ifNo X1.here hx rfl (hb hby d40_3) rfl ((if0 _ _).trans (feq P5).1) ?_
    refine XS.aloadN X1.here hx rfl (hb hby d40_6) rfl rfl ?_
    refine st2 _ ?_
    refine XS.ifNo X2.here hx rfl (hb hby d40_10) rfl ((if0 _ _).trans (teq (by decide)).2) ?_
    refine XS.iconst X2.here hx rfl (hb hby d40_13) ?_
    refine XS.goto X2.here hx rfl (pc0 := 14) (pc' := 18) rfl (hb hby d40_14) (by decide) (by decide) ?_
    show Steps p.tables e below (T2.setTop (mkF m 18 #[.val (.ref a1)] [(.int (1 : Int32))])) _
    exact retN X2 hx (t := .boolean) Bd.returns (by simp) (hb hby d40_18) hr
  · show QrIL Z a1 G1 h0 n0 _ T2.heap _
    exact ⟨_, rfl, rfl, N0, e2⟩
theorem d43_0 : decode jdk_65_method_131_code 0 = .ok (.iload_n 1, 1) := by decide +kernel
theorem d43_1 : decode jdk_65_method_131_code 1 = .ok (.iload_n 0, 1) := by decide +kernel
theorem d43_2 : decode jdk_65_method_131_code 2 = .ok (.if_icmp .ge 35, 3) := by decide +kernel
theorem d43_37 : decode jdk_65_method_131_code 37 = .ok (.return_, 1) := by decide +kernel
theorem pn_43 : plainName "java/util/Arrays" = true := by first | (simp [plainName, overriddenIn]; done) | decide +kernel
theorem ef_rCL (m : MethodId) (p1 : Int32) (p2 : Int32) : entryFrame m #[(.int p1), (.int p2)] 2 = mkF m 0 #[.val (.int p1), .val (.int p2)] [] := by first | (simp [entryFrame, mkF, argsToLocals, Value.category]; done) | rfl
def QrCL (Z : State) (p1 : Int32) (p2 : Int32) (h0 : Heap) (n0 : Nat) (v : Option Value) (h : Heap) (L : List Loc) : Prop := v = none ∧ Fr n0 L ∧ h = h0
set_option maxRecDepth 65536 in
set_option maxHeartbeats 40000000 in
theorem rCL (l : Launch) (Z : State) (a0 : Array Value) (hw : ∀ d ∈ tables_1, d.before a0 Z = true) (ws : List Jvm.Cond) (p1 : Int32) (p2 : Int32) (h0 : Heap) (n0 : Nat) (Z0 : n0 ≤ h0.size) (hm : ¬ p2 < p1) :
    MetFree l (⟨"java/util/Arrays", "checkLength", "(II)V"⟩ : MethodName) (head1 (Jvm.Cond.code (⟨"java/util/Arrays", "checkLength", "(II)V"⟩ : MethodName) jdk_65_method_131_code 2 none :: ws) ({ frames := 0, cells := 0, slots := 0, locals := 0 } : Room)) (fun a U => a = #[(.int p1), (.int p2)] ∧ Z.Warmed39 U.vm ∧ U.heap = h0) (fun _ _ _ _ _ => True) (fun _ U o U' => ∃ v L, o = .returned v ∧ QrCL Z p1 p2 h0 n0 v U'.heap L ∧ FrameEnd U o U' L ({ frames := 0, cells := 0, slots := 0, locals := 0 } : Room).cells ({ frames := 0, cells := 0, slots := 0, locals := 0 } : Room).slots) := by
  refine MetFree.of_bodySF (plainFor_of_name pn_43) hisR ?_
  intro p e s m args below meth c s₁ Bd hml0 hP hK
  obtain ⟨rfl, hZ, hh⟩ := hP
  have hx := Bd.exec
  have hby := Bd.bytes
  have hml : c.maxLocals = 2 := hml0
  have hown : s.vm.findClass "java/util/Arrays" = some m.cls := findClass_of_methodNamed Bd.named
  have hnm := (name_of_methodNamed Bd.named Bd.method).1
  have X0 : Stand p l e ({ frames := 0, cells := 0, slots := 0, locals := 0 } : Room) s m #[(.int p1), (.int p2)] below meth c s₁ [] 0 0 := Stand.of_body Bd
  have e0 : s₁.heap = h0 := by rw [← hh, Bd.state]; rfl
  have N0 := Fr.nil n0
  have pre0 : ∀ t, Steps p.tables e below (s₁.setTop (mkF m 0 #[.val (.int p1), .val (.int p2)] [])) t → Steps p.tables e below (s₁.setTop (entryFrame m #[(.int p1), (.int p2)] 2)) t := fun t k => castTop (ef_rCL m p1 p2) k
  obtain ⟨fs, hr, hrun, hended, hW, hsame⟩ := X0.leave (v := none) (fun _ => rfl) (BodyLoose.notSynchronized Bd)
  refine ⟨_, _, pre0 _ ?_, hrun, hended, _, _, rfl, ?_, ⟨_, rfl⟩, hW, hsame.mono (by decide) (by decide)⟩
  · show Steps p.tables e below (s₁.setTop (mkF m 0 #[.val (.int p1), .val (.int p2)] [])) _
    refine XS.iloadN X0.here hx rfl (hb hby d43_0) rfl ?_
    refine XS.iloadN X0.here hx rfl (hb hby d43_1) rfl ?_
    refine XS.icmpYes X0.here hx rfl (pc0 := 2) (pc' := 37) rfl (hb hby d43_2) rfl (flt hm).2.1 (by decide) (by decide) ?_
    show Steps p.tables e below (s₁.setTop (mkF m 37 #[.val (.int p1), .val (.int p2)] [])) _
    exact X0.returnOut hx Bd.returns (hb hby d43_37) hr
  · show QrCL Z p1 p2 h0 n0 _ s₁.heap _
    exact ⟨rfl, N0, e0⟩
theorem pd_11 : parseMethodDescriptor "(II)V" = some ⟨[.int, .int], none⟩ := by decide +kernel
theorem d42_0 : decode jdk_65_method_133_code 0 = .ok (.iload_n 1, 1) := by decide +kernel
theorem d42_1 : decode jdk_65_method_133_code 1 = .ok (.iload_n 2, 1) := by decide +kernel
theorem d42_2 : decode jdk_65_method_133_code 2 = .ok (.invokestatic 343, 3) := by decide +kernel
theorem d42_5 : decode jdk_65_method_133_code 5 = .ok (.iload_n 2, 1) := by decide +kernel
theorem d42_6 : decode jdk_65_method_133_code 6 = .ok (.iload_n 1, 1) := by decide +kernel
theorem d42_7 : decode jdk_65_method_133_code 7 = .ok (.isub, 1) := by decide +kernel
theorem d42_8 : decode jdk_65_method_133_code 8 = .ok (.istore_n 3, 1) := by decide +kernel
theorem d42_9 : decode jdk_65_method_133_code 9 = .ok (.iload_n 3, 1) := by decide +kernel
theorem d42_10 : decode jdk_65_method_133_code 10 = .ok (.newarray .byte, 2) := by decide +kernel
theorem d42_12 : decode jdk_65_method_133_code 12 = .ok (.astore 4, 2) := by decide +kernel
theorem d42_14 : decode jdk_65_method_133_code 14 = .ok (.aload_n 0, 1) := by decide +kernel
theorem d42_15 : decode jdk_65_method_133_code 15 = .ok (.iload_n 1, 1) := by decide +kernel
theorem d42_16 : decode jdk_65_method_133_code 16 = .ok (.aload 4, 2) := by decide +kernel
theorem d42_18 : decode jdk_65_method_133_code 18 = .ok (.iconst 0, 1) := by decide +kernel
theorem d42_19 : decode jdk_65_method_133_code 19 = .ok (.aload_n 0, 1) := by decide +kernel
theorem d42_20 : decode jdk_65_method_133_code 20 = .ok (.arraylength, 1) := by decide +kernel
theorem d42_21 : decode jdk_65_method_133_code 21 = .ok (.iload_n 1, 1) := by decide +kernel
theorem d42_22 : decode jdk_65_method_133_code 22 = .ok (.isub, 1) := by decide +kernel
theorem d42_23 : decode jdk_65_method_133_code 23 = .ok (.iload_n 3, 1) := by decide +kernel
theorem d42_24 : decode jdk_65_method_133_code 24 = .ok (.invokestatic 304, 3) := by decide +kernel
theorem d42_27 : decode jdk_65_method_133_code 27 = .ok (.invokestatic 150, 3) := by decide +kernel
theorem d42_30 : decode jdk_65_method_133_code 30 = .ok (.aload 4, 2) := by decide +kernel
theorem d42_32 : decode jdk_65_method_133_code 32 = .ok (.areturn, 1) := by decide +kernel
theorem pn_42 : plainName "java/util/Arrays" = true := by first | (simp [plainName, overriddenIn]; done) | decide +kernel
theorem ef_rRb (m : MethodId) (a1 : Addr) (p3 : Int32) : entryFrame m #[(.ref a1), (.int (0 : Int32)), (.int p3)] 5 = mkF m 0 #[.val (.ref a1), .val (.int (0 : Int32)), .val (.int p3), .unset, .unset] [] := by first | (simp [entryFrame, mkF, argsToLocals, Value.category]; done) | rfl
def QrRb (Z : State) (a1 : Addr) (p3 : Int32) (k : ClassId) (cz : Nat) (nz : Nat) (vl : List Value) (h0 : Heap) (n0 : Nat) (v : Option Value) (h : Heap) (L : List Loc) : Prop := ∃ (o : Addr) (ok : ClassId) (vl' : List Value), v = some (.ref o) ∧ Fr n0 L ∧ Keep h0 h [] ∧ n0 ≤ o ∧ h0.size ≤ o ∧ Arv Z h o ok .byte (Int32.ofNat nz) (vl') (.int (0 : Int32)) ∧ vl'.length = nz
set_option maxRecDepth 65536 in
set_option maxHeartbeats 40000000 in
theorem rRb (l : Launch) (Z : State) (a0 : Array Value) (hw : ∀ d ∈ tables_1, d.before a0 Z = true) (ws : List Jvm.Cond) (a1 : Addr) (p3 : Int32) (k : ClassId) (cz : Nat) (nz : Nat) (vl : List Value) (h0 : Heap) (n0 : Nat) (Z0 : n0 ≤ h0.size) (AV : Arv Z h0 a1 k .byte (Int32.ofNat cz) (vl) (.int (0 : Int32))) (hp : p3 = Int32.ofNat nz) (hnc : nz < cz) (hc : cz < 128) :
    MetFree l (⟨"java/util/Arrays", "copyOfRangeByte", "([BII)[B"⟩ : MethodName) (head1 (Jvm.Cond.code (⟨"java/util/Arrays", "copyOfRangeByte", "([BII)[B"⟩ : MethodName) jdk_65_method_133_code 5 (some (.array .byte)) :: ws) ({ frames := 1, cells := 1, slots := 128, locals := 18 } : Room)) (fun a U => a = #[(.ref a1), (.int (0 : Int32)), (.int p3)] ∧ Z.Warmed39 U.vm ∧ U.heap = h0) (fun _ _ _ _ _ => True) (fun _ U o U' => ∃ v L, o = .returned v ∧ QrRb Z a1 p3 k cz nz vl h0 n0 v U'.heap L ∧ FrameEnd U o U' L ({ frames := 1, cells := 1, slots := 128, locals := 18 } : Room).cells ({ frames := 1, cells := 1, slots := 128, locals := 18 } : Room).slots) := by
  refine MetFree.of_bodySF (plainFor_of_name pn_42) hisR ?_
  intro p e s m args below meth c s₁ Bd hml0 hP hK
  obtain ⟨rfl, hZ, hh⟩ := hP
  have hx := Bd.exec
  have hby := Bd.bytes
  have hml : c.maxLocals = 5 := hml0
  have hown : s.vm.findClass "java/util/Arrays" = some m.cls := findClass_of_methodNamed Bd.named
  have hnm := (name_of_methodNamed Bd.named Bd.method).1
  have X0 : Stand p l e ({ frames := 1, cells := 1, slots := 128, locals := 18 } : Room) s m #[(.ref a1), (.int (0 : Int32)), (.int p3)] below meth c s₁ [] 0 0 := Stand.of_body Bd
  have e0 : s₁.heap = h0 := by rw [← hh, Bd.state]; rfl
  have N0 := Fr.nil n0
  have pre0 : ∀ t, Steps p.tables e below (s₁.setTop (mkF m 0 #[.val (.ref a1), .val (.int (0 : Int32)), .val (.int p3), .unset, .unset] [])) t → Steps p.tables e below (s₁.setTop (entryFrame m #[(.ref a1), (.int (0 : Int32)), (.int p3)] 5)) t := fun t k => castTop (ef_rRb m a1 p3) k
  obtain ⟨_, _, ⟨T1, Lq1, kq1, nq1⟩, -, X1, ⟨Lc1, hQ1, lq1, yq1, zq1⟩, st1⟩ := Jvm.LawKit.callS X0 hx (y := (⟨"java/util/Arrays", "checkLength", "(II)V"⟩ : MethodName)) hown (mvT hZ (hw _ (own_w 226 rfl))) (mvT hZ (hw _ (own_w 227 rfl))) (mvT hZ (hw _ (own_w 182 rfl))) (mvT hZ (hw _ (own_w 228 rfl))) (by decide) (backOf (W := 0) (rCL l Z a0 hw [] (0 : Int32) (Int32.ofNat nz)  h0 n0 Z0 (own_yle (a := 0) (by omega) (by omega))) hZ (hw _ (own_w 228 rfl)) (hw _ (own_w 182 rfl)) (by decide) (by decide)) (g := (mkF m 2 #[.val (.ref a1), .val (.int (0 : Int32)), .val (.int (Int32.ofNat nz)), .unset, .unset] [(.int (Int32.ofNat nz)), (.int (0 : Int32))])) rfl (by rw [hml]; rfl) (argsL := [(.int (0 : Int32)), (.int (Int32.ofNat nz))]) (rest := []) (lenOf pd_11 rfl) rfl (by show 2 * 0 + _ ≤ _; exact Nat.le_of_eq rfl) (hb hby d42_2) (fun _ _ => ⟨rfl, e0, (by decide : 0 + 0 ≤ _), (by decide : 0 + 0 ≤ _)⟩)
  dsimp only [Pt.U, Pt.locs, Pt.cells, Pt.slots] at X1 lq1 yq1 zq1 st1 hQ1
  subst lq1 yq1 zq1
  obtain ⟨rfl, N1q, e1⟩ := hQ1
  have N1 := Fr.app N0 N1q
  obtain ⟨T2, h2, ck2, X2, e2, E2, A2, st2⟩ := newP X1 hx hZ (hw _ (own_w 7 rfl)) e1 (g := (mkF m 10 #[.val (.ref a1), .val (.int (0 : Int32)), .val (.int (Int32.ofNat nz)), .val (.int (Int32.ofNat nz)), .unset] [(.int (Int32.ofNat nz))])) rfl (hb hby d42_10) rfl (own_y0 (by omega)) (cap := 128) (by rw [own_yN (by omega)]; omega) (by decide) (by decide) (by decide)
  obtain ⟨b2o, g2⟩ : ∃ z, z = h0.size := ⟨_, rfl⟩
  have b2 : n0 ≤ b2o := Nat.le_trans Z0 (Nat.le_of_eq g2.symm)
  have bk2 : h0.size ≤ b2o := Nat.le_trans (Keep.refl h0 []).1 (Nat.le_of_eq g2.symm)
  have ne3 : a1 ≠ b2o := Nat.ne_of_lt (Nat.lt_of_lt_of_le AV.lt (Nat.le_of_eq g2.symm))
  rw [← g2] at A2 st2
  have Z2 : n0 ≤ h2.size := Nat.le_trans Z0 E2.1
  have K2 : Keep h0 h2 [] := (Keep.refl h0 []).ext E2
  have V2 : Arv Z h2 b2o ck2 .byte (Int32.ofNat nz) (List.replicate (nz) (.int (0 : Int32))) (.int (0 : Int32)) := (Arv.new A2 (own_y0 (by omega))).pad (pad_rep [] (.int (0 : Int32)) (nz))
  have f4 := (AV.ext E2)
  obtain ⟨cl5, Ar5, qk5, Sz5, Nn5, Hh5, Gg5⟩ := id (f4)
  obtain ⟨_, _, ⟨T6, Lq6, kq6, nq6⟩, -, X6, ⟨Lc6, hQ6, lq6, yq6, zq6⟩, st6⟩ := Jvm.LawKit.callS X2 hx (y := (⟨"java/lang/Math", "min", "(II)I"⟩ : MethodName)) hown (mvT hZ (hw _ (own_w 184 rfl))) (mvT hZ (hw _ (own_w 185 rfl))) (mvT hZ (hw _ (own_w 92 rfl))) (mvT hZ (hw _ (own_w 186 rfl))) (by decide) (backOf (W := 4) (rMn l Z a0 hw [] (Int32.ofNat cz) (Int32.ofNat nz)  h2 n0 Z2 ) hZ (hw _ (own_w 186 rfl)) (hw _ (own_w 92 rfl)) (by decide) (by decide)) (g := (mkF m 24 #[.val (.ref a1), .val (.int (0 : Int32)), .val (.int (Int32.ofNat nz)), .val (.int (Int32.ofNat nz)), .val (.ref b2o)] [(.int (Int32.ofNat nz)), (.int (Int32.ofNat cz)), (.int (0 : Int32)), (.ref b2o), (.int (0 : Int32)), (.ref a1)])) rfl (by rw [hml]; rfl) (argsL := [(.int (Int32.ofNat cz)), (.int (Int32.ofNat nz))]) (rest := [(.int (0 : Int32)), (.ref b2o), (.int (0 : Int32)), (.ref a1)]) (lenOf pd_1 rfl) rfl (by show 2 * 0 + _ ≤ _; exact Nat.le_of_eq rfl) (hb hby d42_24) (fun _ _ => ⟨rfl, e2, (by decide : 1 + 0 ≤ _), (by decide : 128 + 0 ≤ _)⟩)
  dsimp only [Pt.U, Pt.locs, Pt.cells, Pt.slots] at X6 lq6 yq6 zq6 st6 hQ6
  subst lq6 yq6 zq6
  obtain ⟨r6, hr6, rfl, N6q, e6⟩ := hQ6
  have N6 := Fr.app N1 N6q
  obtain ⟨T7, h7, L7, X7, e7, N7, KC7, V7, st7⟩ := cpA X6 hx hZ hown (hw _ (own_w 187 rfl)) (hw _ (own_w 165 rfl)) (hw _ (own_w 163 rfl)) (hw _ (own_w 164 rfl)) e6 (sp := (0 : Int32)) (dp := (0 : Int32)) (nn := (Int32.ofNat nz)) (us := (List.range (nz)).map fun i => (vl).getD (0 + i) (.int (0 : Int32))) f4 V2 (Or.inl ⟨rfl, rfl⟩) (by decide) (by decide) (own_y0 (by omega)) (by have q1 := (show ((0 : Int32)).toNatClampNeg = 0 from by decide); have q2 := (show ((Int32.ofNat nz)).toNatClampNeg = nz from own_yN (by omega)); have q3 := (show ((Int32.ofNat cz)).toNatClampNeg = cz from own_yN (by omega)); omega) (by have q1 := (show ((0 : Int32)).toNatClampNeg = 0 from by decide); have q2 := (show ((Int32.ofNat nz)).toNatClampNeg = nz from own_yN (by omega)); have q3 := (show ((Int32.ofNat nz)).toNatClampNeg = nz from own_yN (by omega)); omega) (by rw [(show ((0 : Int32)).toNatClampNeg = 0 from by decide), (show ((Int32.ofNat nz)).toNatClampNeg = nz from own_yN (by omega))]) (by have q1 := (show ((0 : Int32)).toNatClampNeg = 0 from by decide); have q2 := (show ((Int32.ofNat nz)).toNatClampNeg = nz from own_yN (by omega)); have q3 := (show (List.replicate (nz) (.int (0 : Int32)) : List Value).length = nz from List.length_replicate); omega) N6 b2 (g := (mkF m 27 #[.val (.ref a1), .val (.int (0 : Int32)), .val (.int (Int32.ofNat nz)), .val (.int (Int32.ofNat nz)), .val (.ref b2o)] [(.int (Int32.ofNat nz)), (.int (0 : Int32)), (.ref b2o), (.int (0 : Int32)), (.ref a1)])) rfl (by rw [hml]; rfl) rfl (hb hby d42_27) (by decide) (W := 0) (by show 2 * 0 + _ ≤ _; exact Nat.le_of_eq rfl) (by decide)
  obtain ⟨vl7, Vc7, hv7⟩ : ∃ vl', Arv Z h7 b2o ck2 .byte (Int32.ofNat nz) (vl') (.int (0 : Int32)) ∧ vl'.length = nz := ⟨_, V7, own_cpl List.length_replicate (show ((0 : Int32)).toNatClampNeg = 0 from by decide) (show ((Int32.ofNat nz)).toNatClampNeg = nz from own_yN (by omega)) (by simp) (by omega)⟩
  have Z7 : n0 ≤ h7.size := Nat.le_trans Z2 KC7.1
  have K7 : Keep h0 h7 [] := K2.trans KC7 (allS (Or.inr bk2) all0)
  obtain ⟨fs, hr, hrun, hended, hW, hsame⟩ := X7.leave (v := some (.ref b2o)) (fun h => by rw [Bd.returns] at h; cases h) (BodyLoose.notSynchronized Bd)
  refine ⟨_, _, pre0 _ ?_, hrun, hended, _, _, rfl, ?_, ⟨_, rfl⟩, hW, hsame.mono (by decide) (by decide)⟩
  · show Steps p.tables e below (s₁.setTop (mkF m 0 #[.val (.ref a1), .val (.int (0 : Int32)), .val (.int p3), .unset, .unset] [])) _
    rw [hp]
    show Steps p.tables e below (s₁.setTop (mkF m 0 #[.val (.ref a1), .val (.int (0 : Int32)), .val (.int (Int32.ofNat nz)), .unset, .unset] [])) _
    refine XS.iloadN X0.here hx rfl (hb hby d42_0) rfl ?_
    refine XS.iloadN X0.here hx rfl (hb hby d42_1) rfl ?_
    refine st1 _ ?_
    refine XS.iloadN X1.here hx rfl (hb hby d42_5) rfl ?_
    refine XS.iloadN X1.here hx rfl (hb hby d42_6) rfl ?_
    refine XS.isub X1.here hx rfl (hb hby d42_7) rfl ?_
    show Steps p.tables e below (T1.setTop (mkF m 8 #[.val (.ref a1), .val (.int (0 : Int32)), .val (.int (Int32.ofNat nz)), .unset, .unset] [(.int ((Int32.ofNat nz) - (0 : Int32)))])) _
    rw [(show Int32.ofNat nz - (0 : Int32) = _ from own_ysub (j := 0) (by omega) (by omega))]
    show Steps p.tables e below (T1.setTop (mkF m 8 #[.val (.ref a1), .val (.int (0 : Int32)), .val (.int (Int32.ofNat nz)), .unset, .unset] [(.int (Int32.ofNat nz))])) _
    refine XS.istoreN X1.here hx rfl (hb hby d42_8) rfl (l' := #[.val (.ref a1), .val (.int (0 : Int32)), .val (.int (Int32.ofNat nz)), .val (.int (Int32.ofNat nz)), .unset]) rfl ?_
    refine XS.iloadN X1.here hx rfl (hb hby d42_9) rfl ?_
    refine st2 _ ?_
    refine XS.astore X2.here hx rfl (hb hby d42_12) rfl rfl (l' := #[.val (.ref a1), .val (.int (0 : Int32)), .val (.int (Int32.ofNat nz)), .val (.int (Int32.ofNat nz)), .val (.ref b2o)]) rfl ?_
    refine XS.aloadN X2.here hx rfl (hb hby d42_14) rfl rfl ?_
    refine XS.iloadN X2.here hx rfl (hb hby d42_15) rfl ?_
    refine XS.aload X2.here hx rfl (hb hby d42_16) rfl rfl ?_
    refine XS.iconst X2.here hx rfl (hb hby d42_18) ?_
    refine XS.aloadN X2.here hx rfl (hb hby d42_19) rfl rfl ?_
    refine X2.arraylength hx (by rw [e2]; exact Ar5.1) (State.isArrayOf_alike hZ.alike Ar5.2.1) (g := (mkF m 20 #[.val (.ref a1), .val (.int (0 : Int32)), .val (.int (Int32.ofNat nz)), .val (.int (Int32.ofNat nz)), .val (.ref b2o)] [(.ref a1), (.int (0 : Int32)), (.ref b2o), (.int (0 : Int32)), (.ref a1)])) rfl rfl (hb hby d42_20) _ ?_
    rw [len_of Sz5 Nn5]
    show Steps p.tables e below (T2.setTop (mkF m 21 #[.val (.ref a1), .val (.int (0 : Int32)), .val (.int (Int32.ofNat nz)), .val (.int (Int32.ofNat nz)), .val (.ref b2o)] [(.int (Int32.ofNat cz)), (.int (0 : Int32)), (.ref b2o), (.int (0 : Int32)), (.ref a1)])) _
    refine XS.iloadN X2.here hx rfl (hb hby d42_21) rfl ?_
    refine XS.isub X2.here hx rfl (hb hby d42_22) rfl ?_
    show Steps p.tables e below (T2.setTop (mkF m 23 #[.val (.ref a1), .val (.int (0 : Int32)), .val (.int (Int32.ofNat nz)), .val (.int (Int32.ofNat nz)), .val (.ref b2o)] [(.int ((Int32.ofNat cz) - (0 : Int32))), (.int (0 : Int32)), (.ref b2o), (.int (0 : Int32)), (.ref a1)])) _
    rw [(show Int32.ofNat cz - (0 : Int32) = _ from own_ysub (j := 0) (by omega) (by omega))]
    show Steps p.tables e below (T2.setTop (mkF m 23 #[.val (.ref a1), .val (.int (0 : Int32)), .val (.int (Int32.ofNat nz)), .val (.int (Int32.ofNat nz)), .val (.ref b2o)] [(.int (Int32.ofNat cz)), (.int (0 : Int32)), (.ref b2o), (.int (0 : Int32)), (.ref a1)])) _
    refine XS.iloadN X2.here hx rfl (hb hby d42_23) rfl ?_
    refine st6 _ ?_
    show Steps p.tables e below (T6.setTop (mkF m 27 #[.val (.ref a1), .val (.int (0 : Int32)), .val (.int (Int32.ofNat nz)), .val (.int (Int32.ofNat nz)), .val (.ref b2o)] [(.int r6), (.int (0 : Int32)), (.ref b2o), (.int (0 : Int32)), (.ref a1)])) _
    rw [(hr6.trans (own_ymin (by omega) (by omega)))]
    show Steps p.tables e below (T6.setTop (mkF m 27 #[.val (.ref a1), .val (.int (0 : Int32)), .val (.int (Int32.ofNat nz)), .val (.int (Int32.ofNat nz)), .val (.ref b2o)] [(.int (Int32.ofNat nz)), (.int (0 : Int32)), (.ref b2o), (.int (0 : Int32)), (.ref a1)])) _
    refine st7 _ ?_
    refine XS.aload X7.here hx rfl (hb hby d42_30) rfl rfl ?_
    show Steps p.tables e below (T7.setTop (mkF m 32 #[.val (.ref a1), .val (.int (0 : Int32)), .val (.int (Int32.ofNat nz)), .val (.int (Int32.ofNat nz)), .val (.ref b2o)] [(.ref b2o)])) _
    exact X7.areturnOut hx rfl Bd.returns rfl (hb hby d42_32) hr
  · show QrRb Z a1 p3 k cz nz vl h0 n0 _ T7.heap _
    rw [e7]
    exact ⟨b2o, _, _, rfl, N7, K7, b2, bk2, Vc7, hv7⟩
theorem pd_12 : parseMethodDescriptor "([BII)[B" = some ⟨[(.array .byte), .int, .int], some (.array .byte)⟩ := by decide +kernel
theorem d41_0 : decode jdk_65_method_132_code 0 = .ok (.iload_n 1, 1) := by decide +kernel
theorem d41_1 : decode jdk_65_method_132_code 1 = .ok (.ifCond .ne 9, 3) := by decide +kernel
theorem d41_4 : decode jdk_65_method_132_code 4 = .ok (.iload_n 2, 1) := by decide +kernel
theorem d41_5 : decode jdk_65_method_132_code 5 = .ok (.aload_n 0, 1) := by decide +kernel
theorem d41_6 : decode jdk_65_method_132_code 6 = .ok (.arraylength, 1) := by decide +kernel
theorem d41_7 : decode jdk_65_method_132_code 7 = .ok (.if_icmp .eq 10, 3) := by decide +kernel
theorem d41_10 : decode jdk_65_method_132_code 10 = .ok (.aload_n 0, 1) := by decide +kernel
theorem d41_11 : decode jdk_65_method_132_code 11 = .ok (.iload_n 1, 1) := by decide +kernel
theorem d41_12 : decode jdk_65_method_132_code 12 = .ok (.iload_n 2, 1) := by decide +kernel
theorem d41_13 : decode jdk_65_method_132_code 13 = .ok (.invokestatic 339, 3) := by decide +kernel
theorem d41_16 : decode jdk_65_method_132_code 16 = .ok (.areturn, 1) := by decide +kernel
theorem pn_41 : plainName "java/util/Arrays" = true := by first | (simp [plainName, overriddenIn]; done) | decide +kernel
theorem ef_rCr (m : MethodId) (a1 : Addr) (p3 : Int32) : entryFrame m #[(.ref a1), (.int (0 : Int32)), (.int p3)] 3 = mkF m 0 #[.val (.ref a1), .val (.int (0 : Int32)), .val (.int p3)] [] := by first | (simp [entryFrame, mkF, argsToLocals, Value.category]; done) | rfl
def QrCr (Z : State) (a1 : Addr) (p3 : Int32) (k : ClassId) (cz : Nat) (nz : Nat) (vl : List Value) (h0 : Heap) (n0 : Nat) (v : Option Value) (h : Heap) (L : List Loc) : Prop := ∃ (o : Addr) (ok : ClassId) (vl' : List Value), v = some (.ref o) ∧ Fr n0 L ∧ Keep h0 h [] ∧ n0 ≤ o ∧ h0.size ≤ o ∧ Arv Z h o ok .byte (Int32.ofNat nz) (vl') (.int (0 : Int32)) ∧ vl'.length = nz
set_option maxRecDepth 65536 in
set_option maxHeartbeats 40000000 in
theorem rCr (l : Launch) (Z : State) (a0 : Array Value) (hw : ∀ d ∈ tables_1, d.before a0 Z = true) (ws : List Jvm.Cond) (a1 : Addr) (p3 : Int32) (k : ClassId) (cz : Nat) (nz : Nat) (vl : List Value) (h0 : Heap) (n0 : Nat) (Z0 : n0 ≤ h0.size) (AV : Arv Z h0 a1 k .byte (Int32.ofNat cz) (vl) (.int (0 : Int32))) (hp : p3 = Int32.ofNat nz) (hnc : nz < cz) (hc : cz < 128) :
    MetFree l (⟨"java/util/Arrays", "copyOfRange", "([BII)[B"⟩ : MethodName) (head1 (Jvm.Cond.code (⟨"java/util/Arrays", "copyOfRange", "([BII)[B"⟩ : MethodName) jdk_65_method_132_code 3 (some (.array .byte)) :: ws) ({ frames := 2, cells := 1, slots := 128, locals := 34 } : Room)) (fun a U => a = #[(.ref a1), (.int (0 : Int32)), (.int p3)] ∧ Z.Warmed39 U.vm ∧ U.heap = h0) (fun _ _ _ _ _ => True) (fun _ U o U' => ∃ v L, o = .returned v ∧ QrCr Z a1 p3 k cz nz vl h0 n0 v U'.heap L ∧ FrameEnd U o U' L ({ frames := 2, cells := 1, slots := 128, locals := 34 } : Room).cells ({ frames := 2, cells := 1, slots := 128, locals := 34 } : Room).slots) := by
  refine MetFree.of_bodySF (plainFor_of_name pn_41) hisR ?_
  intro p e s m args below meth c s₁ Bd hml0 hP hK
  obtain ⟨rfl, hZ, hh⟩ := hP
  have hx := Bd.exec
  have hby := Bd.bytes
  have hml : c.maxLocals = 3 := hml0
  have hown : s.vm.findClass "java/util/Arrays" = some m.cls := findClass_of_methodNamed Bd.named
  have hnm := (name_of_methodNamed Bd.named Bd.method).1
  have X0 : Stand p l e ({ frames := 2, cells := 1, slots := 128, locals := 34 } : Room) s m #[(.ref a1), (.int (0 : Int32)), (.int p3)] below meth c s₁ [] 0 0 := Stand.of_body Bd
  have e0 : s₁.heap = h0 := by rw [← hh, Bd.state]; rfl
  have N0 := Fr.nil n0
  have pre0 : ∀ t, Steps p.tables e below (s₁.setTop (mkF m 0 #[.val (.ref a1), .val (.int (0 : Int32)), .val (.int p3)] [])) t → Steps p.tables e below (s₁.setTop (entryFrame m #[(.ref a1), (.int (0 : Int32)), (.int p3)] 3)) t := fun t k => castTop (ef_rCr m a1 p3) k
  obtain ⟨cl1, Ar1, qk1, Sz1, Nn1, Hh1, Gg1⟩ := id (AV)
  obtain ⟨_, _, ⟨T2, Lq2, kq2, nq2⟩, -, X2, ⟨Lc2, hQ2, lq2, yq2, zq2⟩, st2⟩ := Jvm.LawKit.callS X0 hx (y := (⟨"java/util/Arrays", "copyOfRangeByte", "([BII)[B"⟩ : MethodName)) hown (mvT hZ (hw _ (own_w 223 rfl))) (mvT hZ (hw _ (own_w 224 rfl))) (mvT hZ (hw _ (own_w 182 rfl))) (mvT hZ (hw _ (own_w 225 rfl))) (by decide) (backOf (W := 0) (rRb l Z a0 hw [] a1 p3 k cz nz vl h0 n0 Z0 AV hp hnc hc) hZ (hw _ (own_w 225 rfl)) (hw _ (own_w 182 rfl)) (by decide) (by decide)) (g := (mkF m 13 #[.val (.ref a1), .val (.int (0 : Int32)), .val (.int p3)] [(.int p3), (.int (0 : Int32)), (.ref a1)])) rfl (by rw [hml]; rfl) (argsL := [(.ref a1), (.int (0 : Int32)), (.int p3)]) (rest := []) (lenOf pd_12 rfl) rfl (by show 2 * 0 + _ ≤ _; exact Nat.le_of_eq rfl) (hb hby d41_13) (fun _ _ => ⟨rfl, e0, (by decide : 0 + 1 ≤ _), (by decide : 0 + 128 ≤ _)⟩)
  dsimp only [Pt.U, Pt.locs, Pt.cells, Pt.slots] at X2 lq2 yq2 zq2 st2 hQ2
  subst lq2 yq2 zq2
  obtain ⟨o2, ok2, vl2, rfl, N2q, KC2, go2, gk2, V2, hv2⟩ := hQ2
  have N2 := Fr.app N0 N2q
  have Z2 : n0 ≤ T2.heap.size := Nat.le_trans Z0 KC2.1
  have ne3 : a1 ≠ o2 := Nat.ne_of_lt (Nat.lt_of_lt_of_le AV.lt gk2)
  have K2 : Keep h0 T2.heap [] := (Keep.refl h0 []).trans KC2 all0
  obtain ⟨fs, hr, hrun, hended, hW, hsame⟩ := X2.leave (v := some (.ref o2)) (fun h => by rw [Bd.returns] at h; cases h) (BodyLoose.notSynchronized Bd)
  refine ⟨_, _, pre0 _ ?_, hrun, hended, _, _, rfl, ?_, ⟨_, rfl⟩, hW, hsame.mono (by decide) (by decide)⟩
  · show Steps p.tables e below (s₁.setTop (mkF m 0 #[.val (.ref a1), .val (.int (0 : Int32)), .val (.int p3)] [])) _
    refine XS.iloadN X0.here hx rfl (hb hby d41_0) rfl ?_
    refine XS.ifNo X0.here hx rfl (hb hby d41_1) rfl ((if0 _ _).trans (teq (by decide)).2) ?_
    refine XS.iloadN X0.here hx rfl (hb hby d41_4) rfl ?_
    refine XS.aloadN X0.here hx rfl (hb hby d41_5) rfl rfl ?_
    refine X0.arraylength hx (by rw [e0]; exact Ar1.1) (State.isArrayOf_alike hZ.alike Ar1.2.1) (g := (mkF m 6 #[.val (.ref a1), .val (.int (0 : Int32)), .val (.int p3)] [(.ref a1), (.int p3)])) rfl rfl (hb hby d41_6) _ ?_
    rw [len_of Sz1 Nn1]
    show Steps p.tables e below (s₁.setTop (mkF m 7 #[.val (.ref a1), .val (.int (0 : Int32)), .val (.int p3)] [(.int (Int32.ofNat cz)), (.int p3)])) _
    refine XS.icmpNo X0.here hx rfl (hb hby d41_7) rfl (feq (by rw [hp]; exact fun q => absurd ((own_yeq (by omega) (by omega)).mp q) (by omega))).1 ?_
    refine XS.aloadN X0.here hx rfl (hb hby d41_10) rfl rfl ?_
    refine XS.iloadN X0.here hx rfl (hb hby d41_11) rfl ?_
    refine XS.iloadN X0.here hx rfl (hb hby d41_12) rfl ?_
    refine st2 _ ?_
    show Steps p.tables e below (T2.setTop (mkF m 16 #[.val (.ref a1), .val (.int (0 : Int32)), .val (.int p3)] [(.ref o2)])) _
    exact X2.areturnOut hx rfl Bd.returns rfl (hb hby d41_16) hr
  · show QrCr Z a1 p3 k cz nz vl h0 n0 _ T2.heap _
    exact ⟨o2, _, _, rfl, N2, K2, go2, (Nat.le_trans (Keep.refl h0 []).1 gk2), V2, hv2⟩
theorem pd_13 : parseMethodDescriptor "()[B" = some ⟨[], some (.array .byte)⟩ := by decide +kernel
theorem pd_14 : parseMethodDescriptor "()Z" = some ⟨[], some .boolean⟩ := by decide +kernel
theorem d36_0 : decode jdk_42_method_150_code 0 = .ok (.aload_n 0, 1) := by decide +kernel
theorem d36_1 : decode jdk_42_method_150_code 1 = .ok (.invokespecial 1, 3) := by decide +kernel
theorem d36_4 : decode jdk_42_method_150_code 4 = .ok (.aload_n 1, 1) := by decide +kernel
theorem d36_5 : decode jdk_42_method_150_code 5 = .ok (.invokevirtual 552, 3) := by decide +kernel
theorem d36_8 : decode jdk_42_method_150_code 8 = .ok (.astore_n 3, 1) := by decide +kernel
theorem d36_9 : decode jdk_42_method_150_code 9 = .ok (.aload_n 1, 1) := by decide +kernel
theorem d36_10 : decode jdk_42_method_150_code 10 = .ok (.invokevirtual 549, 3) := by decide +kernel
theorem d36_13 : decode jdk_42_method_150_code 13 = .ok (.istore 4, 2) := by decide +kernel
theorem d36_15 : decode jdk_42_method_150_code 15 = .ok (.aload_n 1, 1) := by decide +kernel
theorem d36_16 : decode jdk_42_method_150_code 16 = .ok (.invokevirtual 1047, 3) := by decide +kernel
theorem d36_19 : decode jdk_42_method_150_code 19 = .ok (.ifCond .eq 22, 3) := by decide +kernel
theorem d36_22 : decode jdk_42_method_150_code 22 = .ok (.aload_n 0, 1) := by decide +kernel
theorem d36_23 : decode jdk_42_method_150_code 23 = .ok (.iconst 0, 1) := by decide +kernel
theorem d36_24 : decode jdk_42_method_150_code 24 = .ok (.putfield 15, 3) := by decide +kernel
theorem d36_27 : decode jdk_42_method_150_code 27 = .ok (.aload_n 0, 1) := by decide +kernel
theorem d36_28 : decode jdk_42_method_150_code 28 = .ok (.aload_n 3, 1) := by decide +kernel
theorem d36_29 : decode jdk_42_method_150_code 29 = .ok (.iconst 0, 1) := by decide +kernel
theorem d36_30 : decode jdk_42_method_150_code 30 = .ok (.iload 4, 2) := by decide +kernel
theorem d36_32 : decode jdk_42_method_150_code 32 = .ok (.invokestatic 54, 3) := by decide +kernel
theorem d36_35 : decode jdk_42_method_150_code 35 = .ok (.putfield 9, 3) := by decide +kernel
theorem d36_38 : decode jdk_42_method_150_code 38 = .ok (.goto 59, 3) := by decide +kernel
theorem d36_97 : decode jdk_42_method_150_code 97 = .ok (.return_, 1) := by decide +kernel
theorem pn_36 : plainName "java/lang/String" = true := by first | (simp [plainName, overriddenIn]; done) | decide +kernel
theorem ef_rT2 (m : MethodId) (a1 : Addr) (a2 : Addr) : entryFrame m #[(.ref a1), (.ref a2), .null] 5 = mkF m 0 #[.val (.ref a1), .val (.ref a2), .val .null, .unset, .unset] [] := by first | (simp [entryFrame, mkF, argsToLocals, Value.category]; done) | rfl
def QrT2 (Z : State) (a1 : Addr) (a2 : Addr) (vb : Addr) (kb : ClassId) (cz : Nat) (nz : Nat) (vl : List Value) (G1 : Int32) (h0 : Heap) (n0 : Nat) (v : Option Value) (h : Heap) (L : List Loc) : Prop := ∃ (wb : Addr) (kw : ClassId) (wl : List Value), v = none ∧ Fr n0 L ∧ Keep h0 h [a1] ∧ n0 ≤ wb ∧ h0.size ≤ wb ∧ a1 ≠ wb ∧ Exa Z h a1 "java/lang/String" ∧ Fld Z h a1 "java/lang/String" "value" "[B" (.ref wb) ∧ Fld Z h a1 "java/lang/String" "coder" "B" (.int (0 : Int32)) ∧ Arv Z h wb kw .byte (Int32.ofNat nz) (wl) (.int (0 : Int32))
set_option maxRecDepth 65536 in
set_option maxHeartbeats 40000000 in
theorem rT2 (l : Launch) (Z : State) (a0 : Array Value) (hw : ∀ d ∈ tables_1, d.before a0 Z = true) (ws : List Jvm.Cond) (a1 : Addr) (a2 : Addr) (vb : Addr) (kb : ClassId) (cz : Nat) (nz : Nat) (vl : List Value) (G1 : Int32) (h0 : Heap) (n0 : Nat) (Z0 : n0 ≤ h0.size) (E1 : Exa Z h0 a1 "java/lang/String") (F1 : Fld Z h0 a1 "java/lang/String" "value" "[B" .null) (F2 : Fld Z h0 a1 "java/lang/String" "coder" "B" (.int (0 : Int32))) (g1 : n0 ≤ a1) (E : Exa Z h0 a2 "java/lang/StringBuilder") (FV : Fld Z h0 a2 "java/lang/AbstractStringBuilder" "value" "[B" (.ref vb)) (FC : Fld Z h0 a2 "java/lang/AbstractStringBuilder" "coder" "B" (.int (0 : Int32))) (FN : Fld Z h0 a2 "java/lang/AbstractStringBuilder" "count" "I" (.int (Int32.ofNat nz))) (AV : Arv Z h0 vb kb .byte (Int32.ofNat cz) (vl) (.int (0 : Int32))) (hnc : nz < cz) (hc : cz < 128) (n1v : a1 ≠ vb) (X00 : Old Z n0 h0) (O_2 : Sta Z Z.heap "java/lang/String" "COMPACT_STRINGS" "Z" (.int G1)) (P5 : ¬ (G1 = (0 : Int32))) :
    MetFree l (⟨"java/lang/String", "<init>", "(Ljava/lang/AbstractStringBuilder;Ljava/lang/Void;)V"⟩ : MethodName) (head1 (Jvm.Cond.code (⟨"java/lang/String", "<init>", "(Ljava/lang/AbstractStringBuilder;Ljava/lang/Void;)V"⟩ : MethodName) jdk_42_method_150_code 5 none :: ws) ({ frames := 3, cells := 1, slots := 128, locals := 49 } : Room)) (fun a U => a = #[(.ref a1), (.ref a2), .null] ∧ Z.Warmed39 U.vm ∧ U.heap = h0) (fun _ _ _ _ _ => True) (fun _ U o U' => ∃ v L, o = .returned v ∧ QrT2 Z a1 a2 vb kb cz nz vl G1 h0 n0 v U'.heap L ∧ FrameEnd U o U' L ({ frames := 3, cells := 1, slots := 128, locals := 49 } : Room).cells ({ frames := 3, cells := 1, slots := 128, locals := 49 } : Room).slots) := by
  refine MetFree.of_bodySF (plainFor_of_name pn_36) hisR ?_
  intro p e s m args below meth c s₁ Bd hml0 hP hK
  obtain ⟨rfl, hZ, hh⟩ := hP
  have hx := Bd.exec
  have hby := Bd.bytes
  have hml : c.maxLocals = 5 := hml0
  have hown : s.vm.findClass "java/lang/String" = some m.cls := findClass_of_methodNamed Bd.named
  have hnm := (name_of_methodNamed Bd.named Bd.method).1
  have X0 : Stand p l e ({ frames := 3, cells := 1, slots := 128, locals := 49 } : Room) s m #[(.ref a1), (.ref a2), .null] below meth c s₁ [] 0 0 := Stand.of_body Bd
  have e0 : s₁.heap = h0 := by rw [← hh, Bd.state]; rfl
  have N0 := Fr.nil n0
  have pre0 : ∀ t, Steps p.tables e below (s₁.setTop (mkF m 0 #[.val (.ref a1), .val (.ref a2), .val .null, .unset, .unset] [])) t → Steps p.tables e below (s₁.setTop (entryFrame m #[(.ref a1), (.ref a2), .null] 5)) t := fun t k => castTop (ef_rT2 m a1 a2) k
  have n12 : a1 ≠ a2 := own_neE E1 E (by decide)
  obtain ⟨T1, X1, e1, st1⟩ := initO X0 hx hZ hown (hw _ (own_w 201 rfl)) (hw _ (own_w 29 rfl)) (hw _ (own_w 30 rfl)) e0 (g := (mkF m 1 #[.val (.ref a1), .val (.ref a2), .val .null, .unset, .unset] [(.ref a1)])) rfl (by rw [hml]; rfl) rfl (hb hby d36_1) (by decide) (W := 0) (by show 2 * 0 + _ ≤ _; exact Nat.le_of_eq rfl) (by decide)
  obtain ⟨cq2, kz2, q2a, q2b, q2c⟩ := isOf hZ e1 E
  obtain ⟨_, _, ⟨T2, Lq2, kq2, nq2⟩, -, X2, ⟨Lc2, hQ2, lq2, yq2, zq2⟩, st2⟩ := X1.virtualBack hx (y := (⟨"java/lang/AbstractStringBuilder", "getValue", "()[B"⟩ : MethodName)) (z := (⟨"java/lang/AbstractStringBuilder", "getValue", "()[B"⟩ : MethodName)) hown (mvT hZ (hw _ (own_w 202 rfl))) (mvT hZ (hw _ (own_w 203 rfl))) (notFace_of_selects (args := #[]) (mvT hZ (hw _ (own_w 205 rfl)))) (mvT hZ (hw _ (own_w 205 rfl))) (mvT hZ (hw _ (own_w 204 rfl))) (by decide) (backOf (W := 0) (rGV l Z a0 hw [] a2 vb h0 n0 Z0 FV) hZ (hw _ (own_w 206 rfl)) (hw _ (own_w 119 rfl)) (by decide) (by decide)) q2a q2c (g := (mkF m 5 #[.val (.ref a1), .val (.ref a2), .val .null, .unset, .unset] [(.ref a2)])) rfl (by rw [hml]; rfl) (Steps.refl _) (argsL := []) (rest := []) (lenOf pd_13 rfl) rfl (by show 2 * 0 + _ ≤ _; exact Nat.le_of_eq rfl) (hb hby d36_5) (fun _ _ => ⟨rfl, e1, (by decide : 0 + 0 ≤ _), (by decide : 0 + 0 ≤ _)⟩)
  dsimp only [Pt.U, Pt.locs, Pt.cells, Pt.slots] at X2 lq2 yq2 zq2 st2 hQ2
  subst lq2 yq2 zq2
  obtain ⟨rfl, N2q, e2⟩ := hQ2
  have N2 := Fr.app N0 N2q
  obtain ⟨cq3, kz3, q3a, q3b, q3c⟩ := isOf hZ e2 E
  obtain ⟨_, _, ⟨T3, Lq3, kq3, nq3⟩, -, X3, ⟨Lc3, hQ3, lq3, yq3, zq3⟩, st3⟩ := X2.virtualBack hx (y := (⟨"java/lang/AbstractStringBuilder", "length", "()I"⟩ : MethodName)) (z := (⟨"java/lang/StringBuilder", "length", "()I"⟩ : MethodName)) hown (mvT hZ (hw _ (own_w 207 rfl))) (mvT hZ (hw _ (own_w 208 rfl))) (own_notface (args := #[]) (z := (⟨"java/lang/AbstractStringBuilder", "ensureCapacityInternal", "(I)V"⟩ : MethodName)) (C := "java/lang/StringBuilder") (mvT hZ (hw _ (own_w 144 rfl))) rfl) (mvT hZ (hw _ (own_w 210 rfl))) (mvT hZ (hw _ (own_w 211 rfl))) (by decide) (backOf (W := 0) (rSL l Z a0 hw [] a2 (Int32.ofNat nz) h0 n0 Z0 E FN) hZ (hw _ (own_w 212 rfl)) (hw _ (own_w 111 rfl)) (by decide) (by decide)) q3a q3c (g := (mkF m 10 #[.val (.ref a1), .val (.ref a2), .val .null, .val (.ref vb), .unset] [(.ref a2)])) rfl (by rw [hml]; rfl) (Steps.refl _) (argsL := []) (rest := []) (lenOf pd_8 rfl) rfl (by show 2 * 0 + _ ≤ _; exact Nat.le_of_eq rfl) (hb hby d36_10) (fun _ _ => ⟨rfl, e2, (by decide : 0 + 0 ≤ _), (by decide : 0 + 0 ≤ _)⟩)
  dsimp only [Pt.U, Pt.locs, Pt.cells, Pt.slots] at X3 lq3 yq3 zq3 st3 hQ3
  subst lq3 yq3 zq3
  obtain ⟨r3, hr3, rfl, N3q, e3⟩ := hQ3
  have N3 := Fr.app N2 N3q
  obtain ⟨cq4, kz4, q4a, q4b, q4c⟩ := isOf hZ e3 E
  obtain ⟨_, _, ⟨T4, Lq4, kq4, nq4⟩, -, X4, ⟨Lc4, hQ4, lq4, yq4, zq4⟩, st4⟩ := X3.virtualBack hx (y := (⟨"java/lang/AbstractStringBuilder", "isLatin1", "()Z"⟩ : MethodName)) (z := (⟨"java/lang/AbstractStringBuilder", "isLatin1", "()Z"⟩ : MethodName)) hown (mvT hZ (hw _ (own_w 215 rfl))) (mvT hZ (hw _ (own_w 216 rfl))) (notFace_of_selects (args := #[]) (mvT hZ (hw _ (own_w 218 rfl)))) (mvT hZ (hw _ (own_w 218 rfl))) (mvT hZ (hw _ (own_w 217 rfl))) (by decide) (backOf (W := 0) (rIL l Z a0 hw [] a2 G1 h0 n0 Z0 X00 O_2 P5 FC) hZ (hw _ (own_w 219 rfl)) (hw _ (own_w 119 rfl)) (by decide) (by decide)) q4a q4c (g := (mkF m 16 #[.val (.ref a1), .val (.ref a2), .val .null, .val (.ref vb), .val (.int (Int32.ofNat nz))] [(.ref a2)])) rfl (by rw [hml]; rfl) (Steps.refl _) (argsL := []) (rest := []) (lenOf pd_14 rfl) rfl (by show 2 * 0 + _ ≤ _; exact Nat.le_of_eq rfl) (hb hby d36_16) (fun _ _ => ⟨rfl, e3, (by decide : 0 + 0 ≤ _), (by decide : 0 + 0 ≤ _)⟩)
  dsimp only [Pt.U, Pt.locs, Pt.cells, Pt.slots] at X4 lq4 yq4 zq4 st4 hQ4
  subst lq4 yq4 zq4
  obtain ⟨r4, hr4, rfl, N4q, e4⟩ := hQ4
  have N4 := Fr.app N3 N4q
  subst hr4
  obtain ⟨T5, h5, X5, e5, W5, st5⟩ := putFN X4 hx hZ hown (hw _ (own_w 54 rfl)) Via.refl e4 F2 E1 (Or.inr ⟨(hw _ (own_w 9 rfl)), rfl, hnm⟩) (hw _ (own_w 6 rfl)) (ty := .byte) (v' := (.int (nar .byte (0 : Int32)))) (by decide) rfl (fits_nar_byte _) (g := (mkF m 24 #[.val (.ref a1), .val (.ref a2), .val .null, .val (.ref vb), .val (.int (Int32.ofNat nz))] [(.int (0 : Int32)), (.ref a1)])) rfl rfl (hb hby d36_24)
  have N5 := Fr.snoc X5 N4 g1
  have Z5 : n0 ≤ h5.size := by rw [W5.size]; exact Z0
  have K5 : Keep h0 h5 [a1] := (Keep.refl h0 [a1]).wr W5 (Or.inl (own_w 0 rfl))
  have Fw5 := F2.same W5
  have f7 := (E1.wr W5)
  have f8 := (F1.other W5 (Or.inr (slot_ne (Or.inr (hw _ (own_w 8 rfl))) (Or.inr (hw _ (own_w 9 rfl))) (by decide) (t := (.array .byte)) (t' := .byte) (by decide) (by decide))))
  have f9 := (E.wr W5)
  have f10 := (FV.other W5 (Or.inl (Ne.symm n12)))
  have f11 := (FC.other W5 (Or.inl (Ne.symm n12)))
  have f12 := (FN.other W5 (Or.inl (Ne.symm n12)))
  have f13 := (AV.other W5 (Ne.symm n1v))
  obtain ⟨_, _, ⟨T6, Lq6, kq6, nq6⟩, -, X6, ⟨Lc6, hQ6, lq6, yq6, zq6⟩, st6⟩ := Jvm.LawKit.callS X5 hx (y := (⟨"java/util/Arrays", "copyOfRange", "([BII)[B"⟩ : MethodName)) hown (mvT hZ (hw _ (own_w 220 rfl))) (mvT hZ (hw _ (own_w 221 rfl))) (mvT hZ (hw _ (own_w 182 rfl))) (mvT hZ (hw _ (own_w 222 rfl))) (by decide) (backOf (W := 1) (rCr l Z a0 hw [] vb (Int32.ofNat nz) kb cz nz vl h5 n0 Z5 f13 rfl hnc hc) hZ (hw _ (own_w 222 rfl)) (hw _ (own_w 182 rfl)) (by decide) (by decide)) (g := (mkF m 32 #[.val (.ref a1), .val (.ref a2), .val .null, .val (.ref vb), .val (.int (Int32.ofNat nz))] [(.int (Int32.ofNat nz)), (.int (0 : Int32)), (.ref vb), (.ref a1)])) rfl (by rw [hml]; rfl) (argsL := [(.ref vb), (.int (0 : Int32)), (.int (Int32.ofNat nz))]) (rest := [(.ref a1)]) (lenOf pd_12 rfl) rfl (by show 2 * 0 + _ ≤ _; exact Nat.le_of_eq rfl) (hb hby d36_32) (fun _ _ => ⟨rfl, e5, (by decide : 0 + 1 ≤ _), (by decide : 0 + 128 ≤ _)⟩)
  dsimp only [Pt.U, Pt.locs, Pt.cells, Pt.slots] at X6 lq6 yq6 zq6 st6 hQ6
  subst lq6 yq6 zq6
  obtain ⟨o6, ok6, vl6, rfl, N6q, KC6, go6, gk6, V6, hv6⟩ := hQ6
  have N6 := Fr.app N5 N6q
  have Z6 : n0 ≤ T6.heap.size := Nat.le_trans Z5 KC6.1
  have ne14 : a1 ≠ o6 := Nat.ne_of_lt (Nat.lt_of_lt_of_le Fw5.lt gk6)
  have ne15 : a2 ≠ o6 := Nat.ne_of_lt (Nat.lt_of_lt_of_le f12.lt gk6)
  have ne16 : vb ≠ o6 := Nat.ne_of_lt (Nat.lt_of_lt_of_le f13.lt gk6)
  have K6 : Keep h0 T6.heap [a1] := K5.trans KC6 all0
  have f17 := (f7.keep KC6)
  have f18 := (f8.keep KC6 nin0)
  obtain ⟨T19, h19, X19, e19, W19, st19⟩ := putF X6 hx hZ hown (host := "") (Or.inl (hw _ (own_w 55 rfl))) Via.refl rfl f18 f17 (Or.inr ⟨(hw _ (own_w 8 rfl)), rfl, hnm⟩) (hw _ (own_w 6 rfl)) (ty := (.array .byte)) (by decide) rfl rfl (g := (mkF m 35 #[.val (.ref a1), .val (.ref a2), .val .null, .val (.ref vb), .val (.int (Int32.ofNat nz))] [(.ref o6), (.ref a1)])) rfl rfl (hb hby d36_35)
  have N19 := Fr.snoc X19 N6 g1
  have Z19 : n0 ≤ h19.size := by rw [W19.size]; exact Z6
  have K19 : Keep h0 h19 [a1] := K6.wr W19 (Or.inl (own_w 0 rfl))
  have Fw19 := f18.same W19
  obtain ⟨fs, hr, hrun, hended, hW, hsame⟩ := X19.leave (v := none) (fun _ => rfl) (BodyLoose.notSynchronized Bd)
  refine ⟨_, _, pre0 _ ?_, hrun, hended, _, _, rfl, ?_, ⟨_, rfl⟩, hW, hsame.mono (by decide) (by decide)⟩
  · show Steps p.tables e below (s₁.setTop (mkF m 0 #[.val (.ref a1), .val (.ref a2), .val .null, .unset, .unset] [])) _
    refine XS.aloadN X0.here hx rfl (hb hby d36_0) rfl rfl ?_
    refine st1 _ ?_
    refine XS.aloadN X1.here hx rfl (hb hby d36_4) rfl rfl ?_
    refine st2.trans ?_
    refine XS.astoreN X2.here hx rfl (hb hby d36_8) rfl rfl (l' := #[.val (.ref a1), .val (.ref a2), .val .null, .val (.ref vb), .unset]) rfl ?_
    refine XS.aloadN X2.here hx rfl (hb hby d36_9) rfl rfl ?_
    refine st3.trans ?_
    show Steps p.tables e below (T3.setTop (mkF m 13 #[.val (.ref a1), .val (.ref a2), .val .null, .val (.ref vb), .unset] [(.int r3)])) _
    rw [hr3]
    show Steps p.tables e below (T3.setTop (mkF m 13 #[.val (.ref a1), .val (.ref a2), .val .null, .val (.ref vb), .unset] [(.int (Int32.ofNat nz))])) _
    refine XS.istore X3.here hx rfl (hb hby d36_13) rfl (l' := #[.val (.ref a1), .val (.ref a2), .val .null, .val (.ref vb), .val (.int (Int32.ofNat nz))]) rfl ?_
    refine XS.aloadN X3.here hx rfl (hb hby d36_15) rfl rfl ?_
    refine st4.trans ?_
    refine XS.ifNo X4.here hx rfl (hb hby d36_19) rfl ((if0 _ _).trans (feq (by decide)).1) ?_
    refine XS.aloadN X4.here hx rfl (hb hby d36_22) rfl rfl ?_
    refine XS.iconst X4.here hx rfl (hb hby d36_23) ?_
    refine st5 _ ?_
    refine XS.aloadN X5.here hx rfl (hb hby d36_27) rfl rfl ?_
    refine XS.aloadN X5.here hx rfl (hb hby d36_28) rfl rfl ?_
    refine XS.iconst X5.here hx rfl (hb hby d36_29) ?_
    refine XS.iload X5.here hx rfl (hb hby d36_30) rfl ?_
    refine st6 _ ?_
    refine st19 _ ?_
    refine XS.goto X19.here hx rfl (pc0 := 38) (pc' := 97) rfl (hb hby d36_38) (by decide) (by decide) ?_
    show Steps p.tables e below (T19.setTop (mkF m 97 #[.val (.ref a1), .val (.ref a2), .val .null, .val (.ref vb), .val (.int (Int32.ofNat nz))] [])) _
    exact X19.returnOut hx Bd.returns (hb hby d36_97) hr
  · show QrT2 Z a1 a2 vb kb cz nz vl G1 h0 n0 _ T19.heap _
    have f20 := ((Fw5.keep KC6 nin0).other W19 (Or.inr (slot_ne (Or.inr (hw _ (own_w 9 rfl))) (Or.inr (hw _ (own_w 8 rfl))) (by decide) (t := .byte) (t' := (.array .byte)) (by decide) (by decide))))
    have f21 := (f17.wr W19)
    have f22 := (V6.other W19 (Ne.symm ne14))
    have fc := f20
    rw [own_nb0] at fc
    rw [e19]
    exact ⟨o6, _, _, rfl, N19, K19, go6, (Nat.le_trans K5.1 gk6), ne14, f21, Fw19, fc, f22⟩
theorem pd_15 : parseMethodDescriptor "(Ljava/lang/AbstractStringBuilder;Ljava/lang/Void;)V" = some ⟨[(.object "java/lang/AbstractStringBuilder"), (.object "java/lang/Void")], none⟩ := by decide +kernel
theorem d35_0 : decode jdk_42_method_53_code 0 = .ok (.aload_n 0, 1) := by decide +kernel
theorem d35_1 : decode jdk_42_method_53_code 1 = .ok (.aload_n 1, 1) := by decide +kernel
theorem d35_2 : decode jdk_42_method_53_code 2 = .ok (.aconst_null, 1) := by decide +kernel
theorem d35_3 : decode jdk_42_method_53_code 3 = .ok (.invokespecial 489, 3) := by decide +kernel
theorem d35_6 : decode jdk_42_method_53_code 6 = .ok (.return_, 1) := by decide +kernel
theorem pn_35 : plainName "java/lang/String" = true := by first | (simp [plainName, overriddenIn]; done) | decide +kernel
theorem ef_rT1 (m : MethodId) (a1 : Addr) (a2 : Addr) : entryFrame m #[(.ref a1), (.ref a2)] 2 = mkF m 0 #[.val (.ref a1), .val (.ref a2)] [] := by first | (simp [entryFrame, mkF, argsToLocals, Value.category]; done) | rfl
def QrT1 (Z : State) (a1 : Addr) (a2 : Addr) (vb : Addr) (kb : ClassId) (cz : Nat) (nz : Nat) (vl : List Value) (G1 : Int32) (h0 : Heap) (n0 : Nat) (v : Option Value) (h : Heap) (L : List Loc) : Prop := ∃ (wb : Addr) (kw : ClassId) (wl : List Value), v = none ∧ Fr n0 L ∧ Keep h0 h [a1] ∧ n0 ≤ wb ∧ h0.size ≤ wb ∧ a1 ≠ wb ∧ Exa Z h a1 "java/lang/String" ∧ Fld Z h a1 "java/lang/String" "value" "[B" (.ref wb) ∧ Fld Z h a1 "java/lang/String" "coder" "B" (.int (0 : Int32)) ∧ Arv Z h wb kw .byte (Int32.ofNat nz) (wl) (.int (0 : Int32))
set_option maxRecDepth 65536 in
set_option maxHeartbeats 40000000 in
theorem rT1 (l : Launch) (Z : State) (a0 : Array Value) (hw : ∀ d ∈ tables_1, d.before a0 Z = true) (ws : List Jvm.Cond) (a1 : Addr) (a2 : Addr) (vb : Addr) (kb : ClassId) (cz : Nat) (nz : Nat) (vl : List Value) (G1 : Int32) (h0 : Heap) (n0 : Nat) (Z0 : n0 ≤ h0.size) (E1 : Exa Z h0 a1 "java/lang/String") (F1 : Fld Z h0 a1 "java/lang/String" "value" "[B" .null) (F2 : Fld Z h0 a1 "java/lang/String" "coder" "B" (.int (0 : Int32))) (g1 : n0 ≤ a1) (E : Exa Z h0 a2 "java/lang/StringBuilder") (FV : Fld Z h0 a2 "java/lang/AbstractStringBuilder" "value" "[B" (.ref vb)) (FC : Fld Z h0 a2 "java/lang/AbstractStringBuilder" "coder" "B" (.int (0 : Int32))) (FN : Fld Z h0 a2 "java/lang/AbstractStringBuilder" "count" "I" (.int (Int32.ofNat nz))) (AV : Arv Z h0 vb kb .byte (Int32.ofNat cz) (vl) (.int (0 : Int32))) (hnc : nz < cz) (hc : cz < 128) (n1v : a1 ≠ vb) (X00 : Old Z n0 h0) (O_2 : Sta Z Z.heap "java/lang/String" "COMPACT_STRINGS" "Z" (.int G1)) (P5 : ¬ (G1 = (0 : Int32))) :
    MetFree l (⟨"java/lang/String", "<init>", "(Ljava/lang/StringBuilder;)V"⟩ : MethodName) (head1 (Jvm.Cond.code (⟨"java/lang/String", "<init>", "(Ljava/lang/StringBuilder;)V"⟩ : MethodName) jdk_42_method_53_code 2 none :: ws) ({ frames := 4, cells := 1, slots := 128, locals := 65 } : Room)) (fun a U => a = #[(.ref a1), (.ref a2)] ∧ Z.Warmed39 U.vm ∧ U.heap = h0) (fun _ _ _ _ _ => True) (fun _ U o U' => ∃ v L, o = .returned v ∧ QrT1 Z a1 a2 vb kb cz nz vl G1 h0 n0 v U'.heap L ∧ FrameEnd U o U' L ({ frames := 4, cells := 1, slots := 128, locals := 65 } : Room).cells ({ frames := 4, cells := 1, slots := 128, locals := 65 } : Room).slots) := by
  refine MetFree.of_bodySF (plainFor_of_name pn_35) hisR ?_
  intro p e s m args below meth c s₁ Bd hml0 hP hK
  obtain ⟨rfl, hZ, hh⟩ := hP
  have hx := Bd.exec
  have hby := Bd.bytes
  have hml : c.maxLocals = 2 := hml0
  have hown : s.vm.findClass "java/lang/String" = some m.cls := findClass_of_methodNamed Bd.named
  have hnm := (name_of_methodNamed Bd.named Bd.method).1
  have X0 : Stand p l e ({ frames := 4, cells := 1, slots := 128, locals := 65 } : Room) s m #[(.ref a1), (.ref a2)] below meth c s₁ [] 0 0 := Stand.of_body Bd
  have e0 : s₁.heap = h0 := by rw [← hh, Bd.state]; rfl
  have N0 := Fr.nil n0
  have pre0 : ∀ t, Steps p.tables e below (s₁.setTop (mkF m 0 #[.val (.ref a1), .val (.ref a2)] [])) t → Steps p.tables e below (s₁.setTop (entryFrame m #[(.ref a1), (.ref a2)] 2)) t := fun t k => castTop (ef_rT1 m a1 a2) k
  have n12 : a1 ≠ a2 := own_neE E1 E (by decide)
  obtain ⟨_, _, ⟨T1, Lq1, kq1, nq1⟩, -, X1, ⟨Lc1, hQ1, lq1, yq1, zq1⟩, st1⟩ := X0.specialBack hx (y := (⟨"java/lang/String", "<init>", "(Ljava/lang/AbstractStringBuilder;Ljava/lang/Void;)V"⟩ : MethodName)) rfl hown (mvT hZ (hw _ (own_w 198 rfl))) (mvT hZ (hw _ (own_w 199 rfl))) (mvT hZ (hw _ (own_w 200 rfl))) (by decide) (backOf (W := 0) (rT2 l Z a0 hw [] a1 a2 vb kb (cz) (nz) (vl) G1 h0 n0 Z0 E1 F1 F2 g1 E FV FC FN AV hnc hc n1v X00 O_2 P5) hZ (hw _ (own_w 200 rfl)) (hw _ (own_w 5 rfl)) (by decide) (by decide)) (g := (mkF m 3 #[.val (.ref a1), .val (.ref a2)] [.null, (.ref a2), (.ref a1)])) rfl (by rw [hml]; rfl) (Steps.refl _) (a := a1) (argsL := [(.ref a2), .null]) (rest := []) (lenOf pd_15 rfl) rfl (by show 2 * 0 + _ ≤ _; exact Nat.le_of_eq rfl) (hb hby d35_3) (fun _ _ => ⟨rfl, e0, (by decide : 0 + 1 ≤ _), (by decide : 0 + 128 ≤ _)⟩)
  dsimp only [Pt.U, Pt.locs, Pt.cells, Pt.slots] at X1 lq1 yq1 zq1 st1 hQ1
  subst lq1 yq1 zq1
  obtain ⟨wb1, kw1, wl1, rfl, N1q, KC1, gw1, gk1, nw1, E1', FV1', FC1', AV1'⟩ := hQ1
  have N1 := Fr.app N0 N1q
  have Z1 : n0 ≤ T1.heap.size := Nat.le_trans Z0 KC1.1
  have ne2 : a2 ≠ wb1 := Nat.ne_of_lt (Nat.lt_of_lt_of_le FN.lt gk1)
  have ne3 : vb ≠ wb1 := Nat.ne_of_lt (Nat.lt_of_lt_of_le AV.lt gk1)
  have K1 : Keep h0 T1.heap [a1] := (Keep.refl h0 [a1]).trans KC1 (allS (Or.inl (own_w 0 rfl)) all0)
  obtain ⟨fs, hr, hrun, hended, hW, hsame⟩ := X1.leave (v := none) (fun _ => rfl) (BodyLoose.notSynchronized Bd)
  refine ⟨_, _, pre0 _ ?_, hrun, hended, _, _, rfl, ?_, ⟨_, rfl⟩, hW, hsame.mono (by decide) (by decide)⟩
  · show Steps p.tables e below (s₁.setTop (mkF m 0 #[.val (.ref a1), .val (.ref a2)] [])) _
    refine XS.aloadN X0.here hx rfl (hb hby d35_0) rfl rfl ?_
    refine XS.aloadN X0.here hx rfl (hb hby d35_1) rfl rfl ?_
    refine XS.aconstNull X0.here hx rfl (hb hby d35_2) ?_
    refine st1.trans ?_
    show Steps p.tables e below (T1.setTop (mkF m 6 #[.val (.ref a1), .val (.ref a2)] [])) _
    exact X1.returnOut hx Bd.returns (hb hby d35_6) hr
  · show QrT1 Z a1 a2 vb kb cz nz vl G1 h0 n0 _ T1.heap _
    have fc := FC1'
    exact ⟨wb1, _, _, rfl, N1, K1, gw1, (Nat.le_trans (Keep.refl h0 [a1]).1 gk1), nw1, E1', FV1', fc, AV1'⟩
theorem pd_16 : parseMethodDescriptor "(Ljava/lang/StringBuilder;)V" = some ⟨[(.object "java/lang/StringBuilder")], none⟩ := by decide +kernel
theorem d34_0 : decode jdk_67_method_42_code 0 = .ok (.new 18, 3) := by decide +kernel
theorem d34_3 : decode jdk_67_method_42_code 3 = .ok (.dup, 1) := by decide +kernel
theorem d34_4 : decode jdk_67_method_42_code 4 = .ok (.aload_n 0, 1) := by decide +kernel
theorem d34_5 : decode jdk_67_method_42_code 5 = .ok (.invokespecial 137, 3) := by decide +kernel
theorem d34_8 : decode jdk_67_method_42_code 8 = .ok (.areturn, 1) := by decide +kernel
theorem pn_34 : plainName "java/lang/StringBuilder" = true := by first | (simp [plainName, overriddenIn]; done) | decide +kernel
theorem ef_rTS (m : MethodId) (a1 : Addr) : entryFrame m #[(.ref a1)] 1 = mkF m 0 #[.val (.ref a1)] [] := by first | (simp [entryFrame, mkF, argsToLocals, Value.category]; done) | rfl
def QrTS (Z : State) (a1 : Addr) (vb : Addr) (kb : ClassId) (cz : Nat) (nz : Nat) (vl : List Value) (G1 : Int32) (h0 : Heap) (n0 : Nat) (v : Option Value) (h : Heap) (L : List Loc) : Prop := ∃ (o wb : Addr) (kw : ClassId) (wl : List Value), v = some (.ref o) ∧ Fr n0 L ∧ Keep h0 h [] ∧ n0 ≤ o ∧ h0.size ≤ o ∧ n0 ≤ wb ∧ h0.size ≤ wb ∧ o ≠ wb ∧ Exa Z h o "java/lang/String" ∧ Fld Z h o "java/lang/String" "value" "[B" (.ref wb) ∧ Fld Z h o "java/lang/String" "coder" "B" (.int (0 : Int32)) ∧ Arv Z h wb kw .byte (Int32.ofNat nz) (wl) (.int (0 : Int32))
set_option maxRecDepth 65536 in
set_option maxHeartbeats 40000000 in
theorem rTS (l : Launch) (Z : State) (a0 : Array Value) (hw : ∀ d ∈ tables_1, d.before a0 Z = true) (ws : List Jvm.Cond) (a1 : Addr) (vb : Addr) (kb : ClassId) (cz : Nat) (nz : Nat) (vl : List Value) (G1 : Int32) (h0 : Heap) (n0 : Nat) (Z0 : n0 ≤ h0.size) (E : Exa Z h0 a1 "java/lang/StringBuilder") (FV : Fld Z h0 a1 "java/lang/AbstractStringBuilder" "value" "[B" (.ref vb)) (FC : Fld Z h0 a1 "java/lang/AbstractStringBuilder" "coder" "B" (.int (0 : Int32))) (FN : Fld Z h0 a1 "java/lang/AbstractStringBuilder" "count" "I" (.int (Int32.ofNat nz))) (AV : Arv Z h0 vb kb .byte (Int32.ofNat cz) (vl) (.int (0 : Int32))) (hnc : nz < cz) (hc : cz < 128) (X00 : Old Z n0 h0) (O_2 : Sta Z Z.heap "java/lang/String" "COMPACT_STRINGS" "Z" (.int G1)) (P5 : ¬ (G1 = (0 : Int32))) :
    MetFree l (⟨"java/lang/StringBuilder", "toString", "()Ljava/lang/String;"⟩ : MethodName) (head1 (Jvm.Cond.code (⟨"java/lang/StringBuilder", "toString", "()Ljava/lang/String;"⟩ : MethodName) jdk_67_method_42_code 1 (some (.object "java/lang/String")) :: ws) ({ frames := 5, cells := 2, slots := 132, locals := 79 } : Room)) (fun a U => a = #[(.ref a1)] ∧ Z.Warmed39 U.vm ∧ U.heap = h0) (fun _ _ _ _ _ => True) (fun _ U o U' => ∃ v L, o = .returned v ∧ QrTS Z a1 vb kb cz nz vl G1 h0 n0 v U'.heap L ∧ FrameEnd U o U' L ({ frames := 5, cells := 2, slots := 132, locals := 79 } : Room).cells ({ frames := 5, cells := 2, slots := 132, locals := 79 } : Room).slots) := by
  refine MetFree.of_bodySF (plainFor_of_name pn_34) hisR ?_
  intro p e s m args below meth c s₁ Bd hml0 hP hK
  obtain ⟨rfl, hZ, hh⟩ := hP
  have hx := Bd.exec
  have hby := Bd.bytes
  have hml : c.maxLocals = 1 := hml0
  have hown : s.vm.findClass "java/lang/StringBuilder" = some m.cls := findClass_of_methodNamed Bd.named
  have hnm := (name_of_methodNamed Bd.named Bd.method).1
  have X0 : Stand p l e ({ frames := 5, cells := 2, slots := 132, locals := 79 } : Room) s m #[(.ref a1)] below meth c s₁ [] 0 0 := Stand.of_body Bd
  have e0 : s₁.heap = h0 := by rw [← hh, Bd.state]; rfl
  have N0 := Fr.nil n0
  have pre0 : ∀ t, Steps p.tables e below (s₁.setTop (mkF m 0 #[.val (.ref a1)] [])) t → Steps p.tables e below (s₁.setTop (entryFrame m #[(.ref a1)] 1)) t := fun t k => castTop (ef_rTS m a1) k
  obtain ⟨T1, h1, X1, e1, E1, A1, D1, -, st1⟩ := newO X0 hx hZ hown (hw _ (own_w 193 rfl)) (hw _ (own_w 6 rfl)) (hw _ (own_w 5 rfl)) e0 (g := (mkF m 0 #[.val (.ref a1)] [])) rfl (hb hby d34_0) (by decide) (by decide)
  obtain ⟨b1o, g1⟩ : ∃ z, z = h0.size := ⟨_, rfl⟩
  have b1 : n0 ≤ b1o := Nat.le_trans Z0 (Nat.le_of_eq g1.symm)
  have bk1 : h0.size ≤ b1o := Nat.le_trans (Keep.refl h0 []).1 (Nat.le_of_eq g1.symm)
  have ne2 : a1 ≠ b1o := Nat.ne_of_lt (Nat.lt_of_lt_of_le E.lt (Nat.le_of_eq g1.symm))
  have ne3 : vb ≠ b1o := Nat.ne_of_lt (Nat.lt_of_lt_of_le AV.lt (Nat.le_of_eq g1.symm))
  rw [← g1] at A1 D1 st1
  have Z1 : n0 ≤ h1.size := Nat.le_trans Z0 E1.1
  have K1 : Keep h0 h1 [] := (Keep.refl h0 []).ext E1
  have F1_8 : Fld Z h1 b1o "java/lang/String" "value" "[B" .null := D1 (Or.inr (hw _ (own_w 8 rfl))) (ty := (.array .byte)) (by decide)
  have F1_9 : Fld Z h1 b1o "java/lang/String" "coder" "B" (.int (0 : Int32)) := D1 (Or.inr (hw _ (own_w 9 rfl))) (ty := .byte) (by decide)
  have f5 := (E.ext E1)
  have f6 := (FV.ext E1)
  have f7 := (FC.ext E1)
  have f8 := (FN.ext E1)
  have f9 := (AV.ext E1)
  have f10 := (X00.ext E1)
  obtain ⟨_, _, ⟨T4, Lq4, kq4, nq4⟩, -, X4, ⟨Lc4, hQ4, lq4, yq4, zq4⟩, st4⟩ := X1.specialBack hx (y := (⟨"java/lang/String", "<init>", "(Ljava/lang/StringBuilder;)V"⟩ : MethodName)) rfl hown (mvT hZ (hw _ (own_w 194 rfl))) (mvT hZ (hw _ (own_w 195 rfl))) (mvT hZ (hw _ (own_w 197 rfl))) (by decide) (backOf (W := 1) (rT1 l Z a0 hw [] b1o a1 vb kb (cz) (nz) (vl) G1 h1 n0 Z1 A1 F1_8 F1_9 b1 f5 f6 f7 f8 f9 hnc hc (Ne.symm ne3) f10 O_2 P5) hZ (hw _ (own_w 197 rfl)) (hw _ (own_w 5 rfl)) (by decide) (by decide)) (g := (mkF m 5 #[.val (.ref a1)] [(.ref a1), (.ref b1o), (.ref b1o)])) rfl (by rw [hml]; rfl) (Steps.refl _) (a := b1o) (argsL := [(.ref a1)]) (rest := [(.ref b1o)]) (lenOf pd_16 rfl) rfl (by show 2 * 0 + _ ≤ _; exact Nat.le_of_eq rfl) (hb hby d34_5) (fun _ _ => ⟨rfl, e1, (by decide : 1 + 1 ≤ _), (by decide : 4 + 128 ≤ _)⟩)
  dsimp only [Pt.U, Pt.locs, Pt.cells, Pt.slots] at X4 lq4 yq4 zq4 st4 hQ4
  subst lq4 yq4 zq4
  obtain ⟨wb4, kw4, wl4, rfl, N4q, KC4, gw4, gk4, nw4, E4', FV4', FC4', AV4'⟩ := hQ4
  have N4 := Fr.app N0 N4q
  have Z4 : n0 ≤ T4.heap.size := Nat.le_trans Z1 KC4.1
  have ne11 : a1 ≠ wb4 := Nat.ne_of_lt (Nat.lt_of_lt_of_le f8.lt gk4)
  have ne12 : vb ≠ wb4 := Nat.ne_of_lt (Nat.lt_of_lt_of_le f9.lt gk4)
  have K4 : Keep h0 T4.heap [] := K1.trans KC4 (allS (Or.inr bk1) all0)
  obtain ⟨fs, hr, hrun, hended, hW, hsame⟩ := X4.leave (v := some (.ref b1o)) (fun h => by rw [Bd.returns] at h; cases h) (BodyLoose.notSynchronized Bd)
  refine ⟨_, _, pre0 _ ?_, hrun, hended, _, _, rfl, ?_, ⟨_, rfl⟩, hW, hsame.mono (by decide) (by decide)⟩
  · show Steps p.tables e below (s₁.setTop (mkF m 0 #[.val (.ref a1)] [])) _
    refine st1 _ ?_
    refine XS.dup X1.here hx rfl (hb hby d34_3) rfl rfl ?_
    refine XS.aloadN X1.here hx rfl (hb hby d34_4) rfl rfl ?_
    refine st4.trans ?_
    show Steps p.tables e below (T4.setTop (mkF m 8 #[.val (.ref a1)] [(.ref b1o)])) _
    exact X4.areturnOut hx rfl Bd.returns rfl (hb hby d34_8) hr
  · show QrTS Z a1 vb kb cz nz vl G1 h0 n0 _ T4.heap _
    exact ⟨b1o, wb4, _, _, rfl, N4, K4, b1, bk1, gw4, (Nat.le_trans K1.1 gk4), nw4, E4', FV4', FC4', AV4'⟩
theorem own_fin {x : UInt64} (h : Jvm.Free.Fl.Fin64 x) : ¬ (0 : Int32) < cmpValue (FP.dcmp (x &&& 0x7fffffffffffffff) 9218868437227405311) .g := by
  have q : Jvm.Free.Fl.relLe (FP.dcmp (x &&& 0x7fffffffffffffff) 9218868437227405311) = true := (Jvm.Free.Fl.le_max_iff h.noNaN).mpr h
  revert q
  rcases FP.dcmp (x &&& 0x7fffffffffffffff) 9218868437227405311 with _ | (_ | _ | _) <;> simp [Jvm.Free.Fl.relLe, cmpValue] <;> decide
theorem own_rng (x : Int32) : -2147483648 ≤ x.toInt64.toInt ∧ x.toInt64.toInt < 2147483648 := by
  have := rng32 x
  rw [show x.toInt64.toInt = x.toInt from Int32.toInt_toInt64 x]; exact this
theorem own_b53 {a : Int64} (h1 : -9007199254740992 < a.toInt) (h2 : a.toInt < 9007199254740992) : B53 a := ⟨h1, h2⟩
theorem own_mul {a b : Int64} (ha0 : 0 ≤ a.toInt) (ha : a.toInt ≤ 1048575) (hb0 : 0 ≤ b.toInt) (hb : b.toInt ≤ 8589934592) : FP.dmul (FP.l2d a) (FP.l2d b) = FP.l2d (a * b) :=
  dmul_k (A := 1048575) (B := 8589934592) (by omega) ha (by omega) hb (by decide) (by decide) (by decide) (fun q => by have r := q.2; rw [Int64.lt_iff_toInt_lt, show (0 : Int64).toInt = 0 from rfl] at r; omega) (fun q => by have r := q.2; rw [Int64.lt_iff_toInt_lt, show (0 : Int64).toInt = 0 from rfl] at r; omega)
def own_cost (xt xe xl xi : Int64) : Int64 := if xi < xt then xe * (xt - xi) else xl * (xi - xt)
theorem own_c1 {xt xe xl xi : Int64} (h : xi < xt) : own_cost xt xe xl xi = xe * (xt - xi) := if_pos h
theorem own_c2 {xt xe xl xi : Int64} (h : ¬ xi < xt) : own_cost xt xe xl xi = xl * (xi - xt) := if_neg h
def own_in (x : Int64) : Prop := -4294967296 ≤ x.toInt ∧ x.toInt ≤ 4294967296
theorem own_in53 {x : Int64} (h : own_in x) : B53 x := ⟨by have := h.1; omega, by have := h.2; omega⟩
def own_rate (x : Int64) : Prop := 0 ≤ x.toInt ∧ x.toInt ≤ 1048575
theorem own_rate53 {x : Int64} (h : own_rate x) : B53 x := ⟨by have := h.1; omega, by have := h.2; omega⟩
theorem own_early {xt xe xi : Int64} (ht : own_in xt) (hi : own_in xi) (he : own_rate xe) (h : xi < xt) : FP.dmul (FP.l2d xe) (FP.l2d (xt - xi)) = FP.l2d (xe * (xt - xi)) := by
  have s := sub64 (own_in53 ht) (own_in53 hi)
  rw [Int64.lt_iff_toInt_lt] at h
  have := ht.1; have := ht.2; have := hi.1; have := hi.2
  exact own_mul he.1 he.2 (by omega) (by omega)
theorem own_late {xt xl xi : Int64} (ht : own_in xt) (hi : own_in xi) (he : own_rate xl) (h : ¬ xi < xt) : FP.dmul (FP.l2d xl) (FP.l2d (xi - xt)) = FP.l2d (xl * (xi - xt)) := by
  have s := sub64 (own_in53 hi) (own_in53 ht)
  rw [Int64.lt_iff_toInt_lt] at h
  have := ht.1; have := ht.2; have := hi.1; have := hi.2
  exact own_mul he.1 he.2 (by omega) (by omega)
theorem own_lam {p : Program} {l : Launch} {e : Env} {R : Room} {s : State} {m : MethodId} {args : Array Value} {below : List Frame} {meth : Method} {c : Code} {T : State} {locs : List Loc} {cells slots : Nat} {Z : State} {a0 : Array Value} (X : Stand p l e R s m args below meth c T locs cells slots) (hx : p.tables.exec = Jvm.exec) (hZ : Z.Warmed39 s.vm) {x : MethodName} {pc index : Nat} {σ : Lambda.Shape} (hn : s.methodNamed? x = some m) (w : (Jvm.Cond.lambdaSite x pc index σ).before a0 Z = true) (hcap : σ.captured = [])
    {g : JFrame} (hg : g.method = m) (hpc : g.pc = pc) (hsize : g.locals.size = c.maxLocals) (hd : decode c.code g.pc = .ok (.invokedynamic index, 5)) (hwords : 2 * g.monitorRoom + (g.stack.map fun v => v.category).sum + 3072 ≤ R.locals) :
    ∃ a : Addr, ∀ target, Steps p.tables e below (T.setTop { g with pc := g.pc + 5, stack := .ref a :: g.stack }) target → Steps p.tables e below (T.setTop g) target := by
  obtain ⟨cK, one, hat⟩ := Cond.lambdaSite_spec w
  obtain ⟨m', kS, cfS, i0, p0, lk, hm', hkS, -, -, -, hfind, -, -, hlk⟩ := State.lambdaAt?_spec hat
  obtain ⟨a₀, cell₀, rfl, -⟩ : ∃ a₀ cell₀, lk = .constant a₀ ∧ one = some a₀ ∧ σ.captured = [] ∧ Z.heap[a₀]? = some cell₀ ∧ cell₀.cls = cK ∧ cell₀.vm = .none ∧ cell₀.slots = #[] := by
    rcases hlk with h | ⟨-, -, h⟩
    · exact h
    · exact absurd hcap h
  have e1 : s.methodNamed? x = some m' := by
    have q := State.methodNamed?_setVm (s := Z) hZ.alike x
    rw [hm'] at q; exact q
  cases hn.symm.trans e1
  obtain ⟨k', hk', he'⟩ := hZ.alike.2.2 _ _ hkS
  have hf : (k'.callSites.find? fun y => y.1 == m.idx && y.2.1 == g.pc) = some (i0, p0, .constant a₀) := by rw [he', hpc]; exact hfind
  exact ⟨a₀, fun target k => X.lambdaConstant hx hg hsize hd hk' hf (by rw [X.admits.platform]; exact hwords) k⟩
theorem own_named {Z s : State} {vm : Vm} {y : MethodName} {m : MethodId} (hZ : Z.Warmed39 s.vm) (hV : Z.Warmed39 vm) (hn : s.methodNamed? y = some m) : (s.setVm vm).methodNamed? y = some m := by
  have q1 := State.methodNamed?_setVm (s := Z) hZ.alike y
  have q2 := State.methodNamed?_setVm (s := Z) hV.alike y
  have e1 : (Z.setVm s.vm).methodNamed? y = s.methodNamed? y := rfl
  have e2 : (Z.setVm vm).methodNamed? y = (s.setVm vm).methodNamed? y := rfl
  rw [← e2, q2, ← q1, e1]; exact hn

def own_EL : List (String × Nat) := [("com/example/glidepath/glidepath/instance/Aircraft", 55), ("com/example/glidepath/glidepath/instance/Aircraft", 61), ("com/example/glidepath/glidepath/instance/Aircraft", 125), ("com/example/glidepath/glidepath/instance/Aircraft", 135), ("com/example/glidepath/glidepath/instance/Aircraft", 137), ("com/example/glidepath/glidepath/instance/AircraftCostPinLaw", 12)]
theorem d11_0 : decode jdk_43_method_44_code 0 = .ok (.aload_n 0, 1) := by decide +kernel
theorem d11_1 : decode jdk_43_method_44_code 1 = .ok (.iload_n 1, 1) := by decide +kernel
theorem d11_2 : decode jdk_43_method_44_code 2 = .ok (.baload, 1) := by decide +kernel
theorem d11_3 : decode jdk_43_method_44_code 3 = .ok (.sipush 255, 3) := by decide +kernel
theorem d11_6 : decode jdk_43_method_44_code 6 = .ok (.iand, 1) := by decide +kernel
theorem d11_7 : decode jdk_43_method_44_code 7 = .ok (.i2c, 1) := by decide +kernel
theorem d11_8 : decode jdk_43_method_44_code 8 = .ok (.ireturn, 1) := by decide +kernel
theorem pn_11 : plainName "java/lang/StringLatin1" = true := by first | (simp [plainName, overriddenIn]; done) | decide +kernel
theorem ef_rGc (m : MethodId) (a1 : Addr) : entryFrame m #[(.ref a1), (.int (0 : Int32))] 2 = mkF m 0 #[.val (.ref a1), .val (.int (0 : Int32))] [] := by first | (simp [entryFrame, mkF, argsToLocals, Value.category]; done) | rfl
def QrGc (Z : State) (a1 : Addr) (kw : ClassId) (h0 : Heap) (n0 : Nat) (v : Option Value) (h : Heap) (L : List Loc) : Prop := ∃ z : Int32, z = ((65 : Int32)) ∧ v = some (.int z) ∧ Fr n0 L ∧ h = h0
set_option maxRecDepth 65536 in
set_option maxHeartbeats 40000000 in
theorem rGc (l : Launch) (Z : State) (a0 : Array Value) (hw : ∀ d ∈ tables_1, d.before a0 Z = true) (ws : List Jvm.Cond) (a1 : Addr) (kw : ClassId) (h0 : Heap) (n0 : Nat) (Z0 : n0 ≤ h0.size) (AS : Arv Z h0 a1 kw .byte (1 : Int32) [(.int (65 : Int32))] (.int (0 : Int32))) :
    MetFree l (⟨"java/lang/StringLatin1", "getChar", "([BI)C"⟩ : MethodName) (head1 (Jvm.Cond.code (⟨"java/lang/StringLatin1", "getChar", "([BI)C"⟩ : MethodName) jdk_43_method_44_code 2 (some .char) :: ws) ({ frames := 0, cells := 0, slots := 0, locals := 0 } : Room)) (fun a U => a = #[(.ref a1), (.int (0 : Int32))] ∧ Z.Warmed39 U.vm ∧ U.heap = h0) (fun _ _ _ _ _ => True) (fun _ U o U' => ∃ v L, o = .returned v ∧ QrGc Z a1 kw h0 n0 v U'.heap L ∧ FrameEnd U o U' L ({ frames := 0, cells := 0, slots := 0, locals := 0 } : Room).cells ({ frames := 0, cells := 0, slots := 0, locals := 0 } : Room).slots) := by
  refine MetFree.of_bodySF (plainFor_of_name pn_11) hisR ?_
  intro p e s m args below meth c s₁ Bd hml0 hP hK
  obtain ⟨rfl, hZ, hh⟩ := hP
  have hx := Bd.exec
  have hby := Bd.bytes
  have hml : c.maxLocals = 2 := hml0
  have hown : s.vm.findClass "java/lang/StringLatin1" = some m.cls := findClass_of_methodNamed Bd.named
  have hnm := (name_of_methodNamed Bd.named Bd.method).1
  have X0 : Stand p l e ({ frames := 0, cells := 0, slots := 0, locals := 0 } : Room) s m #[(.ref a1), (.int (0 : Int32))] below meth c s₁ [] 0 0 := Stand.of_body Bd
  have e0 : s₁.heap = h0 := by rw [← hh, Bd.state]; rfl
  have N0 := Fr.nil n0
  have pre0 : ∀ t, Steps p.tables e below (s₁.setTop (mkF m 0 #[.val (.ref a1), .val (.int (0 : Int32))] [])) t → Steps p.tables e below (s₁.setTop (entryFrame m #[(.ref a1), (.int (0 : Int32))] 2)) t := fun t k => castTop (ef_rGc m a1) k
  obtain ⟨cl1, Ar1, qk1, Sz1, Nn1, Hh1, Gg1⟩ := id (AS)
  have hin2 : ¬ ((0 : Int32) < 0 ∨ cl1.slots.size ≤ ((0 : Int32)).toNatClampNeg) := inb_of Sz1 ⟨by decide, by decide⟩
  have hat2 : cl1.slots[((0 : Int32)).toNatClampNeg]? = some (.int (65 : Int32)) := Has.at Hh1 hin2 rfl
  obtain ⟨fs, hr, hrun, hended, hW, hsame⟩ := X0.leave (v := some (.int (65 : Int32))) (fun h => by rw [Bd.returns] at h; cases h) (BodyLoose.notSynchronized Bd)
  refine ⟨_, _, pre0 _ ?_, hrun, hended, _, _, rfl, ?_, ⟨_, rfl⟩, hW, hsame.mono (by decide) (by decide)⟩
  · show Steps p.tables e below (s₁.setTop (mkF m 0 #[.val (.ref a1), .val (.int (0 : Int32))] [])) _
    refine XS.aloadN X0.here hx rfl (hb hby d11_0) rfl rfl ?_
    refine XS.iloadN X0.here hx rfl (hb hby d11_1) rfl ?_
    refine X0.baloadBytes hx (j := (0 : Int32)) (v := (.int (65 : Int32))) (by rw [e0]; exact Ar1.1) (State.isArrayOf_alike hZ.alike Ar1.2.1) Ar1.2.2 hin2 hat2 (g := (mkF m 2 #[.val (.ref a1), .val (.int (0 : Int32))] [(.int (0 : Int32)), (.ref a1)])) rfl rfl (hb hby d11_2) _ ?_
    refine XS.sipush X0.here hx rfl (hb hby d11_3) ?_
    refine XS.iand X0.here hx rfl (hb hby d11_6) rfl ?_
    refine XS.i2c X0.here hx rfl (hb hby d11_7) rfl ?_
    show Steps p.tables e below (s₁.setTop (mkF m 8 #[.val (.ref a1), .val (.int (0 : Int32))] [(.int (65 : Int32))])) _
    exact retN X0 hx (t := .char) Bd.returns (by simp) (hb hby d11_8) hr
  · show QrGc Z a1 kw h0 n0 _ s₁.heap _
    exact ⟨_, rfl, rfl, N0, e0⟩
theorem d13_0 : decode jdk_116_method_1_code 0 = .ok (.iload_n 1, 1) := by decide +kernel
theorem d13_1 : decode jdk_116_method_1_code 1 = .ok (.i2c, 1) := by decide +kernel
theorem d13_2 : decode jdk_116_method_1_code 2 = .ok (.istore_n 2, 1) := by decide +kernel
theorem d13_3 : decode jdk_116_method_1_code 3 = .ok (.getstatic 1, 3) := by decide +kernel
theorem d13_6 : decode jdk_116_method_1_code 6 = .ok (.iload_n 2, 1) := by decide +kernel
theorem d13_7 : decode jdk_116_method_1_code 7 = .ok (.iaload, 1) := by decide +kernel
theorem d13_8 : decode jdk_116_method_1_code 8 = .ok (.istore_n 3, 1) := by decide +kernel
theorem d13_9 : decode jdk_116_method_1_code 9 = .ok (.iload_n 3, 1) := by decide +kernel
theorem d13_10 : decode jdk_116_method_1_code 10 = .ok (.ireturn, 1) := by decide +kernel
theorem pn_13 : plainName "java/lang/CharacterDataLatin1" = true := by first | (simp [plainName, overriddenIn]; done) | decide +kernel
theorem ef_rGp (m : MethodId) (a1 : Addr) : entryFrame m #[(.ref a1), (.int (65 : Int32))] 4 = mkF m 0 #[.val (.ref a1), .val (.int (65 : Int32)), .unset, .unset] [] := by first | (simp [entryFrame, mkF, argsToLocals, Value.category]; done) | rfl
def QrGp (Z : State) (a1 : Addr) (ca : Addr) (rcl : Cell) (h0 : Heap) (n0 : Nat) (v : Option Value) (h : Heap) (L : List Loc) : Prop := ∃ z : Int32, z = ((8552417 : Int32)) ∧ v = some (.int z) ∧ Fr n0 L ∧ h = h0
set_option maxRecDepth 65536 in
set_option maxHeartbeats 40000000 in
theorem rGp (l : Launch) (Z : State) (a0 : Array Value) (hw : ∀ d ∈ tables_1, d.before a0 Z = true) (ws : List Jvm.Cond) (a1 : Addr) (ca : Addr) (rcl : Cell) (h0 : Heap) (n0 : Nat) (Z0 : n0 ≤ h0.size) (X00 : Old Z n0 h0) (O_CA : Sta Z Z.heap "java/lang/CharacterDataLatin1" "A" "[I" (.ref ca)) (RA : Arr Z Z.heap ca rcl .int) (RV : rcl.slots[65]? = some (.int (8552417 : Int32))) :
    MetFree l (⟨"java/lang/CharacterDataLatin1", "getProperties", "(I)I"⟩ : MethodName) (head1 (Jvm.Cond.code (⟨"java/lang/CharacterDataLatin1", "getProperties", "(I)I"⟩ : MethodName) jdk_116_method_1_code 4 (some .int) :: ws) ({ frames := 0, cells := 0, slots := 0, locals := 0 } : Room)) (fun a U => a = #[(.ref a1), (.int (65 : Int32))] ∧ Z.Warmed39 U.vm ∧ U.heap = h0) (fun _ _ _ _ _ => True) (fun _ U o U' => ∃ v L, o = .returned v ∧ QrGp Z a1 ca rcl h0 n0 v U'.heap L ∧ FrameEnd U o U' L ({ frames := 0, cells := 0, slots := 0, locals := 0 } : Room).cells ({ frames := 0, cells := 0, slots := 0, locals := 0 } : Room).slots) := by
  refine MetFree.of_bodySF (plainFor_of_name pn_13) hisR ?_
  intro p e s m args below meth c s₁ Bd hml0 hP hK
  obtain ⟨rfl, hZ, hh⟩ := hP
  have hx := Bd.exec
  have hby := Bd.bytes
  have hml : c.maxLocals = 4 := hml0
  have hown : s.vm.findClass "java/lang/CharacterDataLatin1" = some m.cls := findClass_of_methodNamed Bd.named
  have hnm := (name_of_methodNamed Bd.named Bd.method).1
  have X0 : Stand p l e ({ frames := 0, cells := 0, slots := 0, locals := 0 } : Room) s m #[(.ref a1), (.int (65 : Int32))] below meth c s₁ [] 0 0 := Stand.of_body Bd
  have e0 : s₁.heap = h0 := by rw [← hh, Bd.state]; rfl
  have N0 := Fr.nil n0
  have pre0 : ∀ t, Steps p.tables e below (s₁.setTop (mkF m 0 #[.val (.ref a1), .val (.int (65 : Int32)), .unset, .unset] [])) t → Steps p.tables e below (s₁.setTop (entryFrame m #[(.ref a1), (.int (65 : Int32))] 4)) t := fun t k => castTop (ef_rGp m a1) k
  obtain ⟨T1, X1, e1, st1⟩ := getS2 X0 hx hZ hown (host := "") (Or.inl (hw _ (own_w 75 rfl))) Via.refl e0 (O_CA.ext X00.2) (g := (mkF m 3 #[.val (.ref a1), .val (.int (65 : Int32)), .val (.int (65 : Int32)), .unset] [])) rfl (hb hby d13_3)
  have hsz : 65 < rcl.slots.size := (Array.getElem?_eq_some_iff.mp RV).1
  have hin : ¬ ((65 : Int32) < 0 ∨ rcl.slots.size ≤ (65 : Int32).toNatClampNeg) := fun q => by
    rcases q with q | q
    · exact absurd q (by decide)
    · have r : (65 : Int32).toNatClampNeg = 65 := by decide
      omega
  obtain ⟨fs, hr, hrun, hended, hW, hsame⟩ := X1.leave (v := some (.int (8552417 : Int32))) (fun h => by rw [Bd.returns] at h; cases h) (BodyLoose.notSynchronized Bd)
  refine ⟨_, _, pre0 _ ?_, hrun, hended, _, _, rfl, ?_, ⟨_, rfl⟩, hW, hsame.mono (by decide) (by decide)⟩
  · show Steps p.tables e below (s₁.setTop (mkF m 0 #[.val (.ref a1), .val (.int (65 : Int32)), .unset, .unset] [])) _
    refine XS.iloadN X0.here hx rfl (hb hby d13_0) rfl ?_
    refine XS.i2c X0.here hx rfl (hb hby d13_1) rfl ?_
    refine XS.istoreN X0.here hx rfl (hb hby d13_2) rfl (l' := #[.val (.ref a1), .val (.int (65 : Int32)), .val (.int (65 : Int32)), .unset]) rfl ?_
    refine st1 _ ?_
    refine XS.iloadN X1.here hx rfl (hb hby d13_6) rfl ?_
    refine X1.iaload hx (j := (65 : Int32)) (v := (.int (8552417 : Int32))) (by rw [e1]; exact X00.2.2 _ _ RA.1) (State.isArrayOf_alike hZ.alike RA.2.1) RA.2.2 hin RV (g := (mkF m 7 #[.val (.ref a1), .val (.int (65 : Int32)), .val (.int (65 : Int32)), .unset] [(.int (65 : Int32)), (.ref ca)])) rfl rfl (hb hby d13_7) _ ?_
    refine XS.istoreN X1.here hx rfl (hb hby d13_8) rfl (l' := #[.val (.ref a1), .val (.int (65 : Int32)), .val (.int (65 : Int32)), .val (.int (8552417 : Int32))]) rfl ?_
    refine XS.iloadN X1.here hx rfl (hb hby d13_9) rfl ?_
    show Steps p.tables e below (T1.setTop (mkF m 10 #[.val (.ref a1), .val (.int (65 : Int32)), .val (.int (65 : Int32)), .val (.int (8552417 : Int32))] [(.int (8552417 : Int32))])) _
    exact retI X1 hx Bd.returns (hb hby d13_10) hr
  · show QrGp Z a1 ca rcl h0 n0 _ T1.heap _
    exact ⟨_, rfl, rfl, N0, e1⟩
theorem d12_0 : decode jdk_116_method_26_code 0 = .ok (.aload_n 0, 1) := by decide +kernel
theorem d12_1 : decode jdk_116_method_26_code 1 = .ok (.iload_n 1, 1) := by decide +kernel
theorem d12_2 : decode jdk_116_method_26_code 2 = .ok (.invokevirtual 15, 3) := by decide +kernel
theorem d12_5 : decode jdk_116_method_26_code 5 = .ok (.istore_n 2, 1) := by decide +kernel
theorem d12_6 : decode jdk_116_method_26_code 6 = .ok (.iload_n 2, 1) := by decide +kernel
theorem d12_7 : decode jdk_116_method_26_code 7 = .ok (.sipush 28672, 3) := by decide +kernel
theorem d12_10 : decode jdk_116_method_26_code 10 = .ok (.iand, 1) := by decide +kernel
theorem d12_11 : decode jdk_116_method_26_code 11 = .ok (.sipush 16384, 3) := by decide +kernel
theorem d12_14 : decode jdk_116_method_26_code 14 = .ok (.if_icmp .ne 7, 3) := by decide +kernel
theorem d12_21 : decode jdk_116_method_26_code 21 = .ok (.iconst 0, 1) := by decide +kernel
theorem d12_22 : decode jdk_116_method_26_code 22 = .ok (.ireturn, 1) := by decide +kernel
theorem pn_12 : plainName "java/lang/CharacterDataLatin1" = true := by first | (simp [plainName, overriddenIn]; done) | decide +kernel
theorem ef_rWs (m : MethodId) (a1 : Addr) : entryFrame m #[(.ref a1), (.int (65 : Int32))] 3 = mkF m 0 #[.val (.ref a1), .val (.int (65 : Int32)), .unset] [] := by first | (simp [entryFrame, mkF, argsToLocals, Value.category]; done) | rfl
def QrWs (Z : State) (a1 : Addr) (ca : Addr) (rcl : Cell) (h0 : Heap) (n0 : Nat) (v : Option Value) (h : Heap) (L : List Loc) : Prop := ∃ z : Int32, z = ((0 : Int32)) ∧ v = some (.int z) ∧ Fr n0 L ∧ h = h0
set_option maxRecDepth 65536 in
set_option maxHeartbeats 40000000 in
theorem rWs (l : Launch) (Z : State) (a0 : Array Value) (hw : ∀ d ∈ tables_1, d.before a0 Z = true) (ws : List Jvm.Cond) (a1 : Addr) (ca : Addr) (rcl : Cell) (h0 : Heap) (n0 : Nat) (Z0 : n0 ≤ h0.size) (X00 : Old Z n0 h0) (O_CA : Sta Z Z.heap "java/lang/CharacterDataLatin1" "A" "[I" (.ref ca)) (RA : Arr Z Z.heap ca rcl .int) (RV : rcl.slots[65]? = some (.int (8552417 : Int32))) (EC : Exa Z h0 a1 "java/lang/CharacterDataLatin1") :
    MetFree l (⟨"java/lang/CharacterDataLatin1", "isWhitespace", "(I)Z"⟩ : MethodName) (head1 (Jvm.Cond.code (⟨"java/lang/CharacterDataLatin1", "isWhitespace", "(I)Z"⟩ : MethodName) jdk_116_method_26_code 3 (some .boolean) :: ws) ({ frames := 1, cells := 0, slots := 0, locals := 15 } : Room)) (fun a U => a = #[(.ref a1), (.int (65 : Int32))] ∧ Z.Warmed39 U.vm ∧ U.heap = h0) (fun _ _ _ _ _ => True) (fun _ U o U' => ∃ v L, o = .returned v ∧ QrWs Z a1 ca rcl h0 n0 v U'.heap L ∧ FrameEnd U o U' L ({ frames := 1, cells := 0, slots := 0, locals := 15 } : Room).cells ({ frames := 1, cells := 0, slots := 0, locals := 15 } : Room).slots) := by
  refine MetFree.of_bodySF (plainFor_of_name pn_12) hisR ?_
  intro p e s m args below meth c s₁ Bd hml0 hP hK
  obtain ⟨rfl, hZ, hh⟩ := hP
  have hx := Bd.exec
  have hby := Bd.bytes
  have hml : c.maxLocals = 3 := hml0
  have hown : s.vm.findClass "java/lang/CharacterDataLatin1" = some m.cls := findClass_of_methodNamed Bd.named
  have hnm := (name_of_methodNamed Bd.named Bd.method).1
  have X0 : Stand p l e ({ frames := 1, cells := 0, slots := 0, locals := 15 } : Room) s m #[(.ref a1), (.int (65 : Int32))] below meth c s₁ [] 0 0 := Stand.of_body Bd
  have e0 : s₁.heap = h0 := by rw [← hh, Bd.state]; rfl
  have N0 := Fr.nil n0
  have pre0 : ∀ t, Steps p.tables e below (s₁.setTop (mkF m 0 #[.val (.ref a1), .val (.int (65 : Int32)), .unset] [])) t → Steps p.tables e below (s₁.setTop (entryFrame m #[(.ref a1), (.int (65 : Int32))] 3)) t := fun t k => castTop (ef_rWs m a1) k
  obtain ⟨cq1, kz1, q1a, q1b, q1c⟩ := isOf hZ e0 EC
  obtain ⟨_, _, ⟨T1, Lq1, kq1, nq1⟩, -, X1, ⟨Lc1, hQ1, lq1, yq1, zq1⟩, st1⟩ := X0.virtualBack hx (y := (⟨"java/lang/CharacterDataLatin1", "getProperties", "(I)I"⟩ : MethodName)) (z := (⟨"java/lang/CharacterDataLatin1", "getProperties", "(I)I"⟩ : MethodName)) hown (mvT hZ (hw _ (own_w 70 rfl))) (mvT hZ (hw _ (own_w 71 rfl))) (notFace_of_selects (args := #[]) (mvT hZ (hw _ (own_w 73 rfl)))) (mvT hZ (hw _ (own_w 73 rfl))) (mvT hZ (hw _ (own_w 72 rfl))) (by decide) (backOf (W := 0) (rGp l Z a0 hw [] a1 ca rcl h0 n0 Z0 X00 O_CA RA RV) hZ (hw _ (own_w 74 rfl)) (hw _ (own_w 64 rfl)) (by decide) (by decide)) q1a q1c (g := (mkF m 2 #[.val (.ref a1), .val (.int (65 : Int32)), .unset] [(.int (65 : Int32)), (.ref a1)])) rfl (by rw [hml]; rfl) (Steps.refl _) (argsL := [(.int (65 : Int32))]) (rest := []) (lenOf pd_4 rfl) rfl (by show 2 * 0 + _ ≤ _; exact Nat.le_of_eq rfl) (hb hby d12_2) (fun _ _ => ⟨rfl, e0, (by decide : 0 + 0 ≤ _), (by decide : 0 + 0 ≤ _)⟩)
  dsimp only [Pt.U, Pt.locs, Pt.cells, Pt.slots] at X1 lq1 yq1 zq1 st1 hQ1
  subst lq1 yq1 zq1
  obtain ⟨r1, hr1, rfl, N1q, e1⟩ := hQ1
  have N1 := Fr.app N0 N1q
  subst hr1
  obtain ⟨fs, hr, hrun, hended, hW, hsame⟩ := X1.leave (v := some (.int (0 : Int32))) (fun h => by rw [Bd.returns] at h; cases h) (BodyLoose.notSynchronized Bd)
  refine ⟨_, _, pre0 _ ?_, hrun, hended, _, _, rfl, ?_, ⟨_, rfl⟩, hW, hsame.mono (by decide) (by decide)⟩
  · show Steps p.tables e below (s₁.setTop (mkF m 0 #[.val (.ref a1), .val (.int (65 : Int32)), .unset] [])) _
    refine XS.aloadN X0.here hx rfl (hb hby d12_0) rfl rfl ?_
    refine XS.iloadN X0.here hx rfl (hb hby d12_1) rfl ?_
    refine st1.trans ?_
    refine XS.istoreN X1.here hx rfl (hb hby d12_5) rfl (l' := #[.val (.ref a1), .val (.int (65 : Int32)), .val (.int (8552417 : Int32))]) rfl ?_
    refine XS.iloadN X1.here hx rfl (hb hby d12_6) rfl ?_
    refine XS.sipush X1.here hx rfl (hb hby d12_7) ?_
    refine XS.iand X1.here hx rfl (hb hby d12_10) rfl ?_
    refine XS.sipush X1.here hx rfl (hb hby d12_11) ?_
    refine XS.icmpYes X1.here hx rfl (pc0 := 14) (pc' := 21) rfl (hb hby d12_14) rfl (feq (by decide)).2 (by decide) (by decide) ?_
    refine XS.iconst X1.here hx rfl (hb hby d12_21) ?_
    show Steps p.tables e below (T1.setTop (mkF m 22 #[.val (.ref a1), .val (.int (65 : Int32)), .val (.int (8552417 : Int32))] [(.int (0 : Int32))])) _
    exact retN X1 hx (t := .boolean) Bd.returns (by simp) (hb hby d12_22) hr
  · show QrWs Z a1 ca rcl h0 n0 _ T1.heap _
    exact ⟨_, rfl, rfl, N1, e1⟩
theorem pd_17 : parseMethodDescriptor "([BI)C" = some ⟨[(.array .byte), .int], some .char⟩ := by decide +kernel
theorem pd_18 : parseMethodDescriptor "(I)Z" = some ⟨[.int], some .boolean⟩ := by decide +kernel
theorem d10_0 : decode jdk_43_method_37_code 0 = .ok (.aload_n 0, 1) := by decide +kernel
theorem d10_1 : decode jdk_43_method_37_code 1 = .ok (.arraylength, 1) := by decide +kernel
theorem d10_2 : decode jdk_43_method_37_code 2 = .ok (.istore_n 1, 1) := by decide +kernel
theorem d10_3 : decode jdk_43_method_37_code 3 = .ok (.iconst 0, 1) := by decide +kernel
theorem d10_4 : decode jdk_43_method_37_code 4 = .ok (.istore_n 2, 1) := by decide +kernel
theorem d10_5 : decode jdk_43_method_37_code 5 = .ok (.iload_n 2, 1) := by decide +kernel
theorem d10_6 : decode jdk_43_method_37_code 6 = .ok (.iload_n 1, 1) := by decide +kernel
theorem d10_7 : decode jdk_43_method_37_code 7 = .ok (.if_icmp .ge 40, 3) := by decide +kernel
theorem d10_10 : decode jdk_43_method_37_code 10 = .ok (.aload_n 0, 1) := by decide +kernel
theorem d10_11 : decode jdk_43_method_37_code 11 = .ok (.iload_n 2, 1) := by decide +kernel
theorem d10_12 : decode jdk_43_method_37_code 12 = .ok (.invokestatic 50, 3) := by decide +kernel
theorem d10_15 : decode jdk_43_method_37_code 15 = .ok (.istore_n 3, 1) := by decide +kernel
theorem d10_16 : decode jdk_43_method_37_code 16 = .ok (.iload_n 3, 1) := by decide +kernel
theorem d10_17 : decode jdk_43_method_37_code 17 = .ok (.bipush 32, 2) := by decide +kernel
theorem d10_19 : decode jdk_43_method_37_code 19 = .ok (.if_icmp .eq 22, 3) := by decide +kernel
theorem d10_22 : decode jdk_43_method_37_code 22 = .ok (.iload_n 3, 1) := by decide +kernel
theorem d10_23 : decode jdk_43_method_37_code 23 = .ok (.bipush 9, 2) := by decide +kernel
theorem d10_25 : decode jdk_43_method_37_code 25 = .ok (.if_icmp .eq 16, 3) := by decide +kernel
theorem d10_28 : decode jdk_43_method_37_code 28 = .ok (.getstatic 66, 3) := by decide +kernel
theorem d10_31 : decode jdk_43_method_37_code 31 = .ok (.iload_n 3, 1) := by decide +kernel
theorem d10_32 : decode jdk_43_method_37_code 32 = .ok (.invokevirtual 211, 3) := by decide +kernel
theorem d10_35 : decode jdk_43_method_37_code 35 = .ok (.ifCond .ne 6, 3) := by decide +kernel
theorem d10_38 : decode jdk_43_method_37_code 38 = .ok (.goto 9, 3) := by decide +kernel
theorem d10_47 : decode jdk_43_method_37_code 47 = .ok (.iload_n 2, 1) := by decide +kernel
theorem d10_48 : decode jdk_43_method_37_code 48 = .ok (.ireturn, 1) := by decide +kernel
theorem pn_10 : plainName "java/lang/StringLatin1" = true := by first | (simp [plainName, overriddenIn]; done) | decide +kernel
theorem ef_rL1 (m : MethodId) (a1 : Addr) : entryFrame m #[(.ref a1)] 4 = mkF m 0 #[.val (.ref a1), .unset, .unset, .unset] [] := by first | (simp [entryFrame, mkF, argsToLocals, Value.category]; done) | rfl
def QrL1 (Z : State) (a1 : Addr) (kw : ClassId) (ci : Addr) (ca : Addr) (rcl : Cell) (h0 : Heap) (n0 : Nat) (v : Option Value) (h : Heap) (L : List Loc) : Prop := ∃ z : Int32, z = ((0 : Int32)) ∧ v = some (.int z) ∧ Fr n0 L ∧ h = h0
set_option maxRecDepth 65536 in
set_option maxHeartbeats 40000000 in
theorem rL1 (l : Launch) (Z : State) (a0 : Array Value) (hw : ∀ d ∈ tables_1, d.before a0 Z = true) (ws : List Jvm.Cond) (a1 : Addr) (kw : ClassId) (ci : Addr) (ca : Addr) (rcl : Cell) (h0 : Heap) (n0 : Nat) (Z0 : n0 ≤ h0.size) (AS : Arv Z h0 a1 kw .byte (1 : Int32) [(.int (65 : Int32))] (.int (0 : Int32))) (X00 : Old Z n0 h0) (O_CA : Sta Z Z.heap "java/lang/CharacterDataLatin1" "A" "[I" (.ref ca)) (RA : Arr Z Z.heap ca rcl .int) (RV : rcl.slots[65]? = some (.int (8552417 : Int32))) (O_CI : Sta Z Z.heap "java/lang/CharacterDataLatin1" "instance" "Ljava/lang/CharacterDataLatin1;" (.ref ci)) (O_CE : Exa Z Z.heap ci "java/lang/CharacterDataLatin1") :
    MetFree l (⟨"java/lang/StringLatin1", "indexOfNonWhitespace", "([B)I"⟩ : MethodName) (head1 (Jvm.Cond.code (⟨"java/lang/StringLatin1", "indexOfNonWhitespace", "([B)I"⟩ : MethodName) jdk_43_method_37_code 4 (some .int) :: ws) ({ frames := 2, cells := 0, slots := 0, locals := 29 } : Room)) (fun a U => a = #[(.ref a1)] ∧ Z.Warmed39 U.vm ∧ U.heap = h0) (fun _ _ _ _ _ => True) (fun _ U o U' => ∃ v L, o = .returned v ∧ QrL1 Z a1 kw ci ca rcl h0 n0 v U'.heap L ∧ FrameEnd U o U' L ({ frames := 2, cells := 0, slots := 0, locals := 29 } : Room).cells ({ frames := 2, cells := 0, slots := 0, locals := 29 } : Room).slots) := by
  refine MetFree.of_bodySF (plainFor_of_name pn_10) hisR ?_
  intro p e s m args below meth c s₁ Bd hml0 hP hK
  obtain ⟨rfl, hZ, hh⟩ := hP
  have hx := Bd.exec
  have hby := Bd.bytes
  have hml : c.maxLocals = 4 := hml0
  have hown : s.vm.findClass "java/lang/StringLatin1" = some m.cls := findClass_of_methodNamed Bd.named
  have hnm := (name_of_methodNamed Bd.named Bd.method).1
  have X0 : Stand p l e ({ frames := 2, cells := 0, slots := 0, locals := 29 } : Room) s m #[(.ref a1)] below meth c s₁ [] 0 0 := Stand.of_body Bd
  have e0 : s₁.heap = h0 := by rw [← hh, Bd.state]; rfl
  have N0 := Fr.nil n0
  have pre0 : ∀ t, Steps p.tables e below (s₁.setTop (mkF m 0 #[.val (.ref a1), .unset, .unset, .unset] [])) t → Steps p.tables e below (s₁.setTop (entryFrame m #[(.ref a1)] 4)) t := fun t k => castTop (ef_rL1 m a1) k
  obtain ⟨cl1, Ar1, qk1, Sz1, Nn1, Hh1, Gg1⟩ := id (AS)
  obtain ⟨_, _, ⟨T2, Lq2, kq2, nq2⟩, -, X2, ⟨Lc2, hQ2, lq2, yq2, zq2⟩, st2⟩ := Jvm.LawKit.callS X0 hx (y := (⟨"java/lang/StringLatin1", "getChar", "([BI)C"⟩ : MethodName)) hown (mvT hZ (hw _ (own_w 60 rfl))) (mvT hZ (hw _ (own_w 61 rfl))) (mvT hZ (hw _ (own_w 58 rfl))) (mvT hZ (hw _ (own_w 62 rfl))) (by decide) (backOf (W := 0) (rGc l Z a0 hw [] a1 kw h0 n0 Z0 AS) hZ (hw _ (own_w 62 rfl)) (hw _ (own_w 58 rfl)) (by decide) (by decide)) (g := (mkF m 12 #[.val (.ref a1), .val (.int (1 : Int32)), .val (.int (0 : Int32)), .unset] [(.int (0 : Int32)), (.ref a1)])) rfl (by rw [hml]; rfl) (argsL := [(.ref a1), (.int (0 : Int32))]) (rest := []) (lenOf pd_17 rfl) rfl (by show 2 * 0 + _ ≤ _; exact Nat.le_of_eq rfl) (hb hby d10_12) (fun _ _ => ⟨rfl, e0, (by decide : 0 + 0 ≤ _), (by decide : 0 + 0 ≤ _)⟩)
  dsimp only [Pt.U, Pt.locs, Pt.cells, Pt.slots] at X2 lq2 yq2 zq2 st2 hQ2
  subst lq2 yq2 zq2
  obtain ⟨r2, hr2, rfl, N2q, e2⟩ := hQ2
  have N2 := Fr.app N0 N2q
  subst hr2
  obtain ⟨T3, X3, e3, st3⟩ := getS2 X2 hx hZ hown (host := "") (Or.inl (hw _ (own_w 63 rfl))) Via.refl e2 (O_CI.ext X00.2) (g := (mkF m 28 #[.val (.ref a1), .val (.int (1 : Int32)), .val (.int (0 : Int32)), .val (.int (65 : Int32))] [])) rfl (hb hby d10_28)
  obtain ⟨cq4, kz4, q4a, q4b, q4c⟩ := isOf hZ e3 (O_CE.ext X00.2)
  obtain ⟨_, _, ⟨T4, Lq4, kq4, nq4⟩, -, X4, ⟨Lc4, hQ4, lq4, yq4, zq4⟩, st4⟩ := X3.virtualBack hx (y := (⟨"java/lang/CharacterDataLatin1", "isWhitespace", "(I)Z"⟩ : MethodName)) (z := (⟨"java/lang/CharacterDataLatin1", "isWhitespace", "(I)Z"⟩ : MethodName)) hown (mvT hZ (hw _ (own_w 65 rfl))) (mvT hZ (hw _ (own_w 66 rfl))) (notFace_of_selects (args := #[]) (mvT hZ (hw _ (own_w 68 rfl)))) (mvT hZ (hw _ (own_w 68 rfl))) (mvT hZ (hw _ (own_w 67 rfl))) (by decide) (backOf (W := 0) (rWs l Z a0 hw [] ci ca rcl h0 n0 Z0 X00 O_CA RA RV (O_CE.ext X00.2)) hZ (hw _ (own_w 69 rfl)) (hw _ (own_w 64 rfl)) (by decide) (by decide)) q4a q4c (g := (mkF m 32 #[.val (.ref a1), .val (.int (1 : Int32)), .val (.int (0 : Int32)), .val (.int (65 : Int32))] [(.int (65 : Int32)), (.ref ci)])) rfl (by rw [hml]; rfl) (Steps.refl _) (argsL := [(.int (65 : Int32))]) (rest := []) (lenOf pd_18 rfl) rfl (by show 2 * 0 + _ ≤ _; exact Nat.le_of_eq rfl) (hb hby d10_32) (fun _ _ => ⟨rfl, e3, (by decide : 0 + 0 ≤ _), (by decide : 0 + 0 ≤ _)⟩)
  dsimp only [Pt.U, Pt.locs, Pt.cells, Pt.slots] at X4 lq4 yq4 zq4 st4 hQ4
  subst lq4 yq4 zq4
  obtain ⟨r4, hr4, rfl, N4q, e4⟩ := hQ4
  have N4 := Fr.app N2 N4q
  subst hr4
  obtain ⟨fs, hr, hrun, hended, hW, hsame⟩ := X4.leave (v := some (.int (0 : Int32))) (fun h => by rw [Bd.returns] at h; cases h) (BodyLoose.notSynchronized Bd)
  refine ⟨_, _, pre0 _ ?_, hrun, hended, _, _, rfl, ?_, ⟨_, rfl⟩, hW, hsame.mono (by decide) (by decide)⟩
  · show Steps p.tables e below (s₁.setTop (mkF m 0 #[.val (.ref a1), .unset, .unset, .unset] [])) _
    refine XS.aloadN X0.here hx rfl (hb hby d10_0) rfl rfl ?_
    refine X0.arraylength hx (by rw [e0]; exact Ar1.1) (State.isArrayOf_alike hZ.alike Ar1.2.1) (g := (mkF m 1 #[.val (.ref a1), .unset, .unset, .unset] [(.ref a1)])) rfl rfl (hb hby d10_1) _ ?_
    rw [len_of Sz1 Nn1]
    show Steps p.tables e below (s₁.setTop (mkF m 2 #[.val (.ref a1), .unset, .unset, .unset] [(.int (1 : Int32))])) _
    refine XS.istoreN X0.here hx rfl (hb hby d10_2) rfl (l' := #[.val (.ref a1), .val (.int (1 : Int32)), .unset, .unset]) rfl ?_
    refine XS.iconst X0.here hx rfl (hb hby d10_3) ?_
    refine XS.istoreN X0.here hx rfl (hb hby d10_4) rfl (l' := #[.val (.ref a1), .val (.int (1 : Int32)), .val (.int (0 : Int32)), .unset]) rfl ?_
    refine XS.iloadN X0.here hx rfl (hb hby d10_5) rfl ?_
    refine XS.iloadN X0.here hx rfl (hb hby d10_6) rfl ?_
    refine XS.icmpNo X0.here hx rfl (hb hby d10_7) rfl (tlt (by decide)).2.1 ?_
    refine XS.aloadN X0.here hx rfl (hb hby d10_10) rfl rfl ?_
    refine XS.iloadN X0.here hx rfl (hb hby d10_11) rfl ?_
    refine st2 _ ?_
    refine XS.istoreN X2.here hx rfl (hb hby d10_15) rfl (l' := #[.val (.ref a1), .val (.int (1 : Int32)), .val (.int (0 : Int32)), .val (.int (65 : Int32))]) rfl ?_
    refine XS.iloadN X2.here hx rfl (hb hby d10_16) rfl ?_
    refine XS.bipush X2.here hx rfl (hb hby d10_17) ?_
    refine XS.icmpNo X2.here hx rfl (hb hby d10_19) rfl (feq (by decide)).1 ?_
    refine XS.iloadN X2.here hx rfl (hb hby d10_22) rfl ?_
    refine XS.bipush X2.here hx rfl (hb hby d10_23) ?_
    refine XS.icmpNo X2.here hx rfl (hb hby d10_25) rfl (feq (by decide)).1 ?_
    refine st3 _ ?_
    refine XS.iloadN X3.here hx rfl (hb hby d10_31) rfl ?_
    refine st4.trans ?_
    refine XS.ifNo X4.here hx rfl (hb hby d10_35) rfl ((if0 _ _).trans (teq (by decide)).2) ?_
    refine XS.goto X4.here hx rfl (pc0 := 38) (pc' := 47) rfl (hb hby d10_38) (by decide) (by decide) ?_
    refine XS.iloadN X4.here hx rfl (hb hby d10_47) rfl ?_
    show Steps p.tables e below (T4.setTop (mkF m 48 #[.val (.ref a1), .val (.int (1 : Int32)), .val (.int (0 : Int32)), .val (.int (65 : Int32))] [(.int (0 : Int32))])) _
    exact retI X4 hx Bd.returns (hb hby d10_48) hr
  · show QrL1 Z a1 kw ci ca rcl h0 n0 _ T4.heap _
    exact ⟨_, rfl, rfl, N4, e4⟩
theorem pd_19 : parseMethodDescriptor "([B)I" = some ⟨[(.array .byte)], some .int⟩ := by decide +kernel
theorem d8_0 : decode jdk_42_method_120_code 0 = .ok (.aload_n 0, 1) := by decide +kernel
theorem d8_1 : decode jdk_42_method_120_code 1 = .ok (.invokevirtual 492, 3) := by decide +kernel
theorem d8_4 : decode jdk_42_method_120_code 4 = .ok (.ifCond .eq 13, 3) := by decide +kernel
theorem d8_7 : decode jdk_42_method_120_code 7 = .ok (.aload_n 0, 1) := by decide +kernel
theorem d8_8 : decode jdk_42_method_120_code 8 = .ok (.getfield 9, 3) := by decide +kernel
theorem d8_11 : decode jdk_42_method_120_code 11 = .ok (.invokestatic 924, 3) := by decide +kernel
theorem d8_14 : decode jdk_42_method_120_code 14 = .ok (.goto 10, 3) := by decide +kernel
theorem d8_24 : decode jdk_42_method_120_code 24 = .ok (.ireturn, 1) := by decide +kernel
theorem pn_8 : plainName "java/lang/String" = true := by first | (simp [plainName, overriddenIn]; done) | decide +kernel
theorem ef_rIn6 (m : MethodId) (a1 : Addr) : entryFrame m #[(.ref a1)] 1 = mkF m 0 #[.val (.ref a1)] [] := by first | (simp [entryFrame, mkF, argsToLocals, Value.category]; done) | rfl
def QrIn6 (Z : State) (a1 : Addr) (wb : Addr) (kw : ClassId) (ci : Addr) (ca : Addr) (rcl : Cell) (G1 : Int32) (h0 : Heap) (n0 : Nat) (v : Option Value) (h : Heap) (L : List Loc) : Prop := ∃ z : Int32, z = ((0 : Int32)) ∧ v = some (.int z) ∧ Fr n0 L ∧ h = h0
set_option maxRecDepth 65536 in
set_option maxHeartbeats 40000000 in
theorem rIn6 (l : Launch) (Z : State) (a0 : Array Value) (hw : ∀ d ∈ tables_1, d.before a0 Z = true) (ws : List Jvm.Cond) (a1 : Addr) (wb : Addr) (kw : ClassId) (ci : Addr) (ca : Addr) (rcl : Cell) (G1 : Int32) (h0 : Heap) (n0 : Nat) (Z0 : n0 ≤ h0.size) (ES : Exa Z h0 a1 "java/lang/String") (SV : Fld Z h0 a1 "java/lang/String" "value" "[B" (.ref wb)) (SC : Fld Z h0 a1 "java/lang/String" "coder" "B" (.int (0 : Int32))) (AS : Arv Z h0 wb kw .byte (1 : Int32) [(.int (65 : Int32))] (.int (0 : Int32))) (X00 : Old Z n0 h0) (O_CA : Sta Z Z.heap "java/lang/CharacterDataLatin1" "A" "[I" (.ref ca)) (RA : Arr Z Z.heap ca rcl .int) (RV : rcl.slots[65]? = some (.int (8552417 : Int32))) (O_CI : Sta Z Z.heap "java/lang/CharacterDataLatin1" "instance" "Ljava/lang/CharacterDataLatin1;" (.ref ci)) (O_CE : Exa Z Z.heap ci "java/lang/CharacterDataLatin1") (O_2 : Sta Z Z.heap "java/lang/String" "COMPACT_STRINGS" "Z" (.int G1)) (P5 : ¬ (G1 = (0 : Int32))) :
    MetFree l (⟨"java/lang/String", "indexOfNonWhitespace", "()I"⟩ : MethodName) (head1 (Jvm.Cond.code (⟨"java/lang/String", "indexOfNonWhitespace", "()I"⟩ : MethodName) jdk_42_method_120_code 1 (some .int) :: ws) ({ frames := 3, cells := 0, slots := 0, locals := 44 } : Room)) (fun a U => a = #[(.ref a1)] ∧ Z.Warmed39 U.vm ∧ U.heap = h0) (fun _ _ _ _ _ => True) (fun _ U o U' => ∃ v L, o = .returned v ∧ QrIn6 Z a1 wb kw ci ca rcl G1 h0 n0 v U'.heap L ∧ FrameEnd U o U' L ({ frames := 3, cells := 0, slots := 0, locals := 44 } : Room).cells ({ frames := 3, cells := 0, slots := 0, locals := 44 } : Room).slots) := by
  refine MetFree.of_bodySF (plainFor_of_name pn_8) hisR ?_
  intro p e s m args below meth c s₁ Bd hml0 hP hK
  obtain ⟨rfl, hZ, hh⟩ := hP
  have hx := Bd.exec
  have hby := Bd.bytes
  have hml : c.maxLocals = 1 := hml0
  have hown : s.vm.findClass "java/lang/String" = some m.cls := findClass_of_methodNamed Bd.named
  have hnm := (name_of_methodNamed Bd.named Bd.method).1
  have X0 : Stand p l e ({ frames := 3, cells := 0, slots := 0, locals := 44 } : Room) s m #[(.ref a1)] below meth c s₁ [] 0 0 := Stand.of_body Bd
  have e0 : s₁.heap = h0 := by rw [← hh, Bd.state]; rfl
  have N0 := Fr.nil n0
  have pre0 : ∀ t, Steps p.tables e below (s₁.setTop (mkF m 0 #[.val (.ref a1)] [])) t → Steps p.tables e below (s₁.setTop (entryFrame m #[(.ref a1)] 1)) t := fun t k => castTop (ef_rIn6 m a1) k
  obtain ⟨cq1, kz1, q1a, q1b, q1c⟩ := isOf hZ e0 ES
  obtain ⟨_, _, ⟨T1, Lq1, kq1, nq1⟩, -, X1, ⟨Lc1, hQ1, lq1, yq1, zq1⟩, st1⟩ := X0.virtualBack hx (y := (⟨"java/lang/String", "isLatin1", "()Z"⟩ : MethodName)) (z := (⟨"java/lang/String", "isLatin1", "()Z"⟩ : MethodName)) hown (mvT hZ (hw _ (own_w 48 rfl))) (mvT hZ (hw _ (own_w 49 rfl))) (notFace_of_selects (args := #[]) (mvT hZ (hw _ (own_w 51 rfl)))) (mvT hZ (hw _ (own_w 51 rfl))) (mvT hZ (hw _ (own_w 50 rfl))) (by decide) (backOf (W := 0) (rIs l Z a0 hw [] a1 G1 h0 n0 Z0 X00 O_2 P5 SC) hZ (hw _ (own_w 52 rfl)) (hw _ (own_w 5 rfl)) (by decide) (by decide)) q1a q1c (g := (mkF m 1 #[.val (.ref a1)] [(.ref a1)])) rfl (by rw [hml]; rfl) (Steps.refl _) (argsL := []) (rest := []) (lenOf pd_14 rfl) rfl (by show 2 * 0 + _ ≤ _; exact Nat.le_of_eq rfl) (hb hby d8_1) (fun _ _ => ⟨rfl, e0, (by decide : 0 + 0 ≤ _), (by decide : 0 + 0 ≤ _)⟩)
  dsimp only [Pt.U, Pt.locs, Pt.cells, Pt.slots] at X1 lq1 yq1 zq1 st1 hQ1
  subst lq1 yq1 zq1
  obtain ⟨r1, hr1, rfl, N1q, e1⟩ := hQ1
  have N1 := Fr.app N0 N1q
  subst hr1
  obtain ⟨T2, X2, e2, st2⟩ := getF X1 hx hZ hown (host := "") (Or.inl (hw _ (own_w 55 rfl))) Via.refl e1 SV (g := (mkF m 8 #[.val (.ref a1)] [(.ref a1)])) rfl rfl (hb hby d8_8)
  obtain ⟨_, _, ⟨T3, Lq3, kq3, nq3⟩, -, X3, ⟨Lc3, hQ3, lq3, yq3, zq3⟩, st3⟩ := Jvm.LawKit.callS X2 hx (y := (⟨"java/lang/StringLatin1", "indexOfNonWhitespace", "([B)I"⟩ : MethodName)) hown (mvT hZ (hw _ (own_w 56 rfl))) (mvT hZ (hw _ (own_w 57 rfl))) (mvT hZ (hw _ (own_w 58 rfl))) (mvT hZ (hw _ (own_w 59 rfl))) (by decide) (backOf (W := 0) (rL1 l Z a0 hw [] wb kw ci ca rcl h0 n0 Z0 AS X00 O_CA RA RV O_CI O_CE) hZ (hw _ (own_w 59 rfl)) (hw _ (own_w 58 rfl)) (by decide) (by decide)) (g := (mkF m 11 #[.val (.ref a1)] [(.ref wb)])) rfl (by rw [hml]; rfl) (argsL := [(.ref wb)]) (rest := []) (lenOf pd_19 rfl) rfl (by show 2 * 0 + _ ≤ _; exact Nat.le_of_eq rfl) (hb hby d8_11) (fun _ _ => ⟨rfl, e2, (by decide : 0 + 0 ≤ _), (by decide : 0 + 0 ≤ _)⟩)
  dsimp only [Pt.U, Pt.locs, Pt.cells, Pt.slots] at X3 lq3 yq3 zq3 st3 hQ3
  subst lq3 yq3 zq3
  obtain ⟨r3, hr3, rfl, N3q, e3⟩ := hQ3
  have N3 := Fr.app N1 N3q
  subst hr3
  obtain ⟨fs, hr, hrun, hended, hW, hsame⟩ := X3.leave (v := some (.int (0 : Int32))) (fun h => by rw [Bd.returns] at h; cases h) (BodyLoose.notSynchronized Bd)
  refine ⟨_, _, pre0 _ ?_, hrun, hended, _, _, rfl, ?_, ⟨_, rfl⟩, hW, hsame.mono (by decide) (by decide)⟩
  · show Steps p.tables e below (s₁.setTop (mkF m 0 #[.val (.ref a1)] [])) _
    refine XS.aloadN X0.here hx rfl (hb hby d8_0) rfl rfl ?_
    refine st1.trans ?_
    refine XS.ifNo X1.here hx rfl (hb hby d8_4) rfl ((if0 _ _).trans (feq (by decide)).1) ?_
    refine XS.aloadN X1.here hx rfl (hb hby d8_7) rfl rfl ?_
    refine st2 _ ?_
    refine st3 _ ?_
    refine XS.goto X3.here hx rfl (pc0 := 14) (pc' := 24) rfl (hb hby d8_14) (by decide) (by decide) ?_
    show Steps p.tables e below (T3.setTop (mkF m 24 #[.val (.ref a1)] [(.int (0 : Int32))])) _
    exact retI X3 hx Bd.returns (hb hby d8_24) hr
  · show QrIn6 Z a1 wb kw ci ca rcl G1 h0 n0 _ T3.heap _
    exact ⟨_, rfl, rfl, N3, e3⟩
theorem d7_0 : decode jdk_42_method_117_code 0 = .ok (.aload_n 0, 1) := by decide +kernel
theorem d7_1 : decode jdk_42_method_117_code 1 = .ok (.invokevirtual 876, 3) := by decide +kernel
theorem d7_4 : decode jdk_42_method_117_code 4 = .ok (.aload_n 0, 1) := by decide +kernel
theorem d7_5 : decode jdk_42_method_117_code 5 = .ok (.invokevirtual 505, 3) := by decide +kernel
theorem d7_8 : decode jdk_42_method_117_code 8 = .ok (.if_icmp .ne 7, 3) := by decide +kernel
theorem d7_15 : decode jdk_42_method_117_code 15 = .ok (.iconst 0, 1) := by decide +kernel
theorem d7_16 : decode jdk_42_method_117_code 16 = .ok (.ireturn, 1) := by decide +kernel
theorem pn_7 : plainName "java/lang/String" = true := by first | (simp [plainName, overriddenIn]; done) | decide +kernel
theorem ef_rIb (m : MethodId) (a1 : Addr) : entryFrame m #[(.ref a1)] 1 = mkF m 0 #[.val (.ref a1)] [] := by first | (simp [entryFrame, mkF, argsToLocals, Value.category]; done) | rfl
def QrIb (Z : State) (a1 : Addr) (wb : Addr) (kw : ClassId) (ci : Addr) (ca : Addr) (rcl : Cell) (G1 : Int32) (h0 : Heap) (n0 : Nat) (v : Option Value) (h : Heap) (L : List Loc) : Prop := ∃ z : Int32, z = ((0 : Int32)) ∧ v = some (.int z) ∧ Fr n0 L ∧ h = h0
set_option maxRecDepth 65536 in
set_option maxHeartbeats 40000000 in
theorem rIb (l : Launch) (Z : State) (a0 : Array Value) (hw : ∀ d ∈ tables_1, d.before a0 Z = true) (ws : List Jvm.Cond) (a1 : Addr) (wb : Addr) (kw : ClassId) (ci : Addr) (ca : Addr) (rcl : Cell) (G1 : Int32) (h0 : Heap) (n0 : Nat) (Z0 : n0 ≤ h0.size) (ES : Exa Z h0 a1 "java/lang/String") (SV : Fld Z h0 a1 "java/lang/String" "value" "[B" (.ref wb)) (SC : Fld Z h0 a1 "java/lang/String" "coder" "B" (.int (0 : Int32))) (AS : Arv Z h0 wb kw .byte (1 : Int32) [(.int (65 : Int32))] (.int (0 : Int32))) (X00 : Old Z n0 h0) (O_CA : Sta Z Z.heap "java/lang/CharacterDataLatin1" "A" "[I" (.ref ca)) (RA : Arr Z Z.heap ca rcl .int) (RV : rcl.slots[65]? = some (.int (8552417 : Int32))) (O_CI : Sta Z Z.heap "java/lang/CharacterDataLatin1" "instance" "Ljava/lang/CharacterDataLatin1;" (.ref ci)) (O_CE : Exa Z Z.heap ci "java/lang/CharacterDataLatin1") (O_2 : Sta Z Z.heap "java/lang/String" "COMPACT_STRINGS" "Z" (.int G1)) (P5 : ¬ (G1 = (0 : Int32))) :
    MetFree l (⟨"java/lang/String", "isBlank", "()Z"⟩ : MethodName) (head1 (Jvm.Cond.code (⟨"java/lang/String", "isBlank", "()Z"⟩ : MethodName) jdk_42_method_117_code 1 (some .boolean) :: ws) ({ frames := 4, cells := 0, slots := 0, locals := 56 } : Room)) (fun a U => a = #[(.ref a1)] ∧ Z.Warmed39 U.vm ∧ U.heap = h0) (fun _ _ _ _ _ => True) (fun _ U o U' => ∃ v L, o = .returned v ∧ QrIb Z a1 wb kw ci ca rcl G1 h0 n0 v U'.heap L ∧ FrameEnd U o U' L ({ frames := 4, cells := 0, slots := 0, locals := 56 } : Room).cells ({ frames := 4, cells := 0, slots := 0, locals := 56 } : Room).slots) := by
  refine MetFree.of_bodySF (plainFor_of_name pn_7) hisR ?_
  intro p e s m args below meth c s₁ Bd hml0 hP hK
  obtain ⟨rfl, hZ, hh⟩ := hP
  have hx := Bd.exec
  have hby := Bd.bytes
  have hml : c.maxLocals = 1 := hml0
  have hown : s.vm.findClass "java/lang/String" = some m.cls := findClass_of_methodNamed Bd.named
  have hnm := (name_of_methodNamed Bd.named Bd.method).1
  have X0 : Stand p l e ({ frames := 4, cells := 0, slots := 0, locals := 56 } : Room) s m #[(.ref a1)] below meth c s₁ [] 0 0 := Stand.of_body Bd
  have e0 : s₁.heap = h0 := by rw [← hh, Bd.state]; rfl
  have N0 := Fr.nil n0
  have pre0 : ∀ t, Steps p.tables e below (s₁.setTop (mkF m 0 #[.val (.ref a1)] [])) t → Steps p.tables e below (s₁.setTop (entryFrame m #[(.ref a1)] 1)) t := fun t k => castTop (ef_rIb m a1) k
  obtain ⟨cq1, qq1, qq1'⟩ := ES.cell
  obtain ⟨_, _, ⟨T1, Lq1, kq1, nq1⟩, -, X1, ⟨Lc1, hQ1, lq1, yq1, zq1⟩, st1⟩ := X0.privateBack hx (y := (⟨"java/lang/String", "indexOfNonWhitespace", "()I"⟩ : MethodName)) hown (mvT hZ (hw _ (own_w 43 rfl))) (mvT hZ (hw _ (own_w 44 rfl))) (mvT hZ (hw _ (own_w 46 rfl))) (Cond.privateMethod_at (mvP hZ (hw _ (own_w 45 rfl)) (args := #[]))) (mvT hZ (hw _ (own_w 47 rfl))) (by decide) (backOf (W := 0) (rIn6 l Z a0 hw [] a1 wb kw ci ca rcl G1 h0 n0 Z0 ES SV SC AS X00 O_CA RA RV O_CI O_CE O_2 P5) hZ (hw _ (own_w 47 rfl)) (hw _ (own_w 5 rfl)) (by decide) (by decide)) (g := (mkF m 1 #[.val (.ref a1)] [(.ref a1)])) rfl (by rw [hml]; rfl) (Steps.refl _) (a := a1) (by rw [e0]; exact qq1) qq1' (argsL := []) (rest := []) (lenOf pd_8 rfl) rfl (by show 2 * 0 + _ ≤ _; exact Nat.le_of_eq rfl) (hb hby d7_1) (fun _ _ => ⟨rfl, e0, (by decide : 0 + 0 ≤ _), (by decide : 0 + 0 ≤ _)⟩)
  dsimp only [Pt.U, Pt.locs, Pt.cells, Pt.slots] at X1 lq1 yq1 zq1 st1 hQ1
  subst lq1 yq1 zq1
  obtain ⟨r1, hr1, rfl, N1q, e1⟩ := hQ1
  have N1 := Fr.app N0 N1q
  subst hr1
  obtain ⟨cq2, kz2, q2a, q2b, q2c⟩ := isOf hZ e1 ES
  obtain ⟨_, _, ⟨T2, Lq2, kq2, nq2⟩, -, X2, ⟨Lc2, hQ2, lq2, yq2, zq2⟩, st2⟩ := X1.virtualBack hx (y := (⟨"java/lang/String", "length", "()I"⟩ : MethodName)) (z := (⟨"java/lang/String", "length", "()I"⟩ : MethodName)) hown (mvT hZ (hw _ (own_w 76 rfl))) (mvT hZ (hw _ (own_w 77 rfl))) (notFace_of_selects (args := #[]) (mvT hZ (hw _ (own_w 79 rfl)))) (mvT hZ (hw _ (own_w 79 rfl))) (mvT hZ (hw _ (own_w 78 rfl))) (by decide) (backOf (W := 1) (rLe l Z a0 hw [] a1 wb kw (1) [(.int (65 : Int32))] G1 h0 n0 Z0 X00 O_2 P5 ES SV SC AS (by decide)) hZ (hw _ (own_w 80 rfl)) (hw _ (own_w 5 rfl)) (by decide) (by decide)) q2a q2c (g := (mkF m 5 #[.val (.ref a1)] [(.ref a1), (.int (0 : Int32))])) rfl (by rw [hml]; rfl) (Steps.refl _) (argsL := []) (rest := [(.int (0 : Int32))]) (lenOf pd_8 rfl) rfl (by show 2 * 0 + _ ≤ _; exact Nat.le_of_eq rfl) (hb hby d7_5) (fun _ _ => ⟨rfl, e1, (by decide : 0 + 0 ≤ _), (by decide : 0 + 0 ≤ _)⟩)
  dsimp only [Pt.U, Pt.locs, Pt.cells, Pt.slots] at X2 lq2 yq2 zq2 st2 hQ2
  subst lq2 yq2 zq2
  obtain ⟨r2, hr2, rfl, N2q, e2⟩ := hQ2
  have N2 := Fr.app N1 N2q
  obtain ⟨fs, hr, hrun, hended, hW, hsame⟩ := X2.leave (v := some (.int (0 : Int32))) (fun h => by rw [Bd.returns] at h; cases h) (BodyLoose.notSynchronized Bd)
  refine ⟨_, _, pre0 _ ?_, hrun, hended, _, _, rfl, ?_, ⟨_, rfl⟩, hW, hsame.mono (by decide) (by decide)⟩
  · show Steps p.tables e below (s₁.setTop (mkF m 0 #[.val (.ref a1)] [])) _
    refine XS.aloadN X0.here hx rfl (hb hby d7_0) rfl rfl ?_
    refine st1.trans ?_
    refine XS.aloadN X1.here hx rfl (hb hby d7_4) rfl rfl ?_
    refine st2.trans ?_
    refine XS.icmpYes X2.here hx rfl (pc0 := 8) (pc' := 15) rfl (hb hby d7_8) rfl (feq (by rw [hr2]; decide)).2 (by decide) (by decide) ?_
    refine XS.iconst X2.here hx rfl (hb hby d7_15) ?_
    show Steps p.tables e below (T2.setTop (mkF m 16 #[.val (.ref a1)] [(.int (0 : Int32))])) _
    exact retN X2 hx (t := .boolean) Bd.returns (by simp) (hb hby d7_16) hr
  · show QrIb Z a1 wb kw ci ca rcl G1 h0 n0 _ T2.heap _
    exact ⟨_, rfl, rfl, N2, e2⟩
theorem pd_20 : parseMethodDescriptor "(D)D" = some ⟨[.double], some .double⟩ := by decide +kernel
theorem d16_0 : decode jdk_117_method_8_code 0 = .ok (.dload_n 0, 1) := by decide +kernel
theorem d16_1 : decode jdk_117_method_8_code 1 = .ok (.invokestatic 38, 3) := by decide +kernel
theorem d16_4 : decode jdk_117_method_8_code 4 = .ok (.ldc2_w 111, 3) := by decide +kernel
theorem d16_7 : decode jdk_117_method_8_code 7 = .ok (.dcmp .g, 1) := by decide +kernel
theorem d16_8 : decode jdk_117_method_8_code 8 = .ok (.ifCond .gt 7, 3) := by decide +kernel
theorem d16_11 : decode jdk_117_method_8_code 11 = .ok (.iconst 1, 1) := by decide +kernel
theorem d16_12 : decode jdk_117_method_8_code 12 = .ok (.goto 4, 3) := by decide +kernel
theorem d16_16 : decode jdk_117_method_8_code 16 = .ok (.ireturn, 1) := by decide +kernel
theorem pn_16 : plainName "java/lang/Double" = true := by first | (simp [plainName, overriddenIn]; done) | decide +kernel
theorem ef_rFi (m : MethodId) (f1 : UInt64) : entryFrame m #[(.double f1)] 2 = mkF m 0 #[.val (.double f1), .second] [] := by first | (simp [entryFrame, mkF, argsToLocals, Value.category]; done) | rfl
def QrFi (Z : State) (f1 : UInt64) (xa : Int64) (h0 : Heap) (n0 : Nat) (v : Option Value) (h : Heap) (L : List Loc) : Prop := ∃ z : Int32, z = ((1 : Int32)) ∧ v = some (.int z) ∧ Fr n0 L ∧ h = h0
set_option maxRecDepth 65536 in
set_option maxHeartbeats 40000000 in
theorem rFi (l : Launch) (Z : State) (a0 : Array Value) (hw : ∀ d ∈ tables_1, d.before a0 Z = true) (ws : List Jvm.Cond) (f1 : UInt64) (xa : Int64) (h0 : Heap) (n0 : Nat) (Z0 : n0 ≤ h0.size) (hf : f1 = FP.l2d xa) :
    MetFree l (⟨"java/lang/Double", "isFinite", "(D)Z"⟩ : MethodName) (head1 (Jvm.Cond.code (⟨"java/lang/Double", "isFinite", "(D)Z"⟩ : MethodName) jdk_117_method_8_code 2 (some .boolean) :: ws) ({ frames := 1, cells := 0, slots := 0, locals := 13 } : Room)) (fun a U => a = #[(.double f1)] ∧ Z.Warmed39 U.vm ∧ U.heap = h0) (fun _ _ _ _ _ => True) (fun _ U o U' => ∃ v L, o = .returned v ∧ QrFi Z f1 xa h0 n0 v U'.heap L ∧ FrameEnd U o U' L ({ frames := 1, cells := 0, slots := 0, locals := 13 } : Room).cells ({ frames := 1, cells := 0, slots := 0, locals := 13 } : Room).slots) := by
  refine MetFree.of_bodySF (plainFor_of_name pn_16) hisR ?_
  intro p e s m args below meth c s₁ Bd hml0 hP hK
  obtain ⟨rfl, hZ, hh⟩ := hP
  have hx := Bd.exec
  have hby := Bd.bytes
  have hml : c.maxLocals = 2 := hml0
  have hown : s.vm.findClass "java/lang/Double" = some m.cls := findClass_of_methodNamed Bd.named
  have hnm := (name_of_methodNamed Bd.named Bd.method).1
  have X0 : Stand p l e ({ frames := 1, cells := 0, slots := 0, locals := 13 } : Room) s m #[(.double f1)] below meth c s₁ [] 0 0 := Stand.of_body Bd
  have e0 : s₁.heap = h0 := by rw [← hh, Bd.state]; rfl
  have N0 := Fr.nil n0
  have pre0 : ∀ t, Steps p.tables e below (s₁.setTop (mkF m 0 #[.val (.double f1), .second] [])) t → Steps p.tables e below (s₁.setTop (entryFrame m #[(.double f1)] 2)) t := fun t k => castTop (ef_rFi m f1) k
  obtain ⟨T1, X1, e1, st1⟩ := natS X0 hx hZ (y := (⟨"java/lang/Math", "abs", "(D)D"⟩ : MethodName)) hown (hw _ (own_w 90 rfl)) (hw _ (own_w 91 rfl)) (hw _ (own_w 92 rfl)) (hw _ (own_w 93 rfl)) (by decide) e0 (W := 0) (fun c4 => Jvm.Free.Fl.Abs.absD_pays (FP.l2d xa) c4 (by decide) (by decide)) (g := (mkF m 1 #[.val (.double (FP.l2d xa)), .second] [(.double (FP.l2d xa))])) rfl (by rw [hml]; rfl) (argsL := [(.double (FP.l2d xa))]) (rest := []) (lenOf pd_20 rfl) rfl (by show 2 * 0 + _ ≤ _; exact Nat.le_of_eq rfl) (hb hby d16_1) (by decide) (by decide) ⟨rfl, (Jvm.Free.Fl.l2d_fin _).noNaN⟩ rfl
  obtain ⟨fs, hr, hrun, hended, hW, hsame⟩ := X1.leave (v := some (.int (1 : Int32))) (fun h => by rw [Bd.returns] at h; cases h) (BodyLoose.notSynchronized Bd)
  refine ⟨_, _, pre0 _ ?_, hrun, hended, _, _, rfl, ?_, ⟨_, rfl⟩, hW, hsame.mono (by decide) (by decide)⟩
  · show Steps p.tables e below (s₁.setTop (mkF m 0 #[.val (.double f1), .second] [])) _
    rw [hf]
    show Steps p.tables e below (s₁.setTop (mkF m 0 #[.val (.double (FP.l2d xa)), .second] [])) _
    refine XS.dloadN X0.here hx rfl (hb hby d16_0) rfl ?_
    refine st1 _ ?_
    refine X1.ldc2DoubleC hx hown (mvT hZ (hw _ (own_w 94 rfl))) (g := (mkF m 4 #[.val (.double (FP.l2d xa)), .second] [(.double ((FP.l2d xa) &&& 0x7fffffffffffffff))])) rfl (hb hby d16_4) _ ?_
    refine XS.dcmpS X1.here hx rfl (hb hby d16_7) rfl (v := (cmpValue (FP.dcmp ((FP.l2d xa) &&& 0x7fffffffffffffff) (9218868437227405311 : UInt64)) .g)) rfl ?_
    refine XS.ifNo X1.here hx rfl (hb hby d16_8) rfl ((if0 _ _).trans (flt (own_fin (Jvm.Free.Fl.l2d_fin _))).2.2.1) ?_
    refine XS.iconst X1.here hx rfl (hb hby d16_11) ?_
    refine XS.goto X1.here hx rfl (pc0 := 12) (pc' := 16) rfl (hb hby d16_12) (by decide) (by decide) ?_
    show Steps p.tables e below (T1.setTop (mkF m 16 #[.val (.double (FP.l2d xa)), .second] [(.int (1 : Int32))])) _
    exact retN X1 hx (t := .boolean) Bd.returns (by simp) (hb hby d16_16) hr
  · show QrFi Z f1 xa h0 n0 _ T1.heap _
    exact ⟨_, rfl, rfl, N0, e1⟩
theorem d19_0 : decode jdk_117_method_6_code 0 = .ok (.dload_n 0, 1) := by decide +kernel
theorem d19_1 : decode jdk_117_method_6_code 1 = .ok (.dload_n 0, 1) := by decide +kernel
theorem d19_2 : decode jdk_117_method_6_code 2 = .ok (.dcmp .l, 1) := by decide +kernel
theorem d19_3 : decode jdk_117_method_6_code 3 = .ok (.ifCond .eq 7, 3) := by decide +kernel
theorem d19_10 : decode jdk_117_method_6_code 10 = .ok (.iconst 0, 1) := by decide +kernel
theorem d19_11 : decode jdk_117_method_6_code 11 = .ok (.ireturn, 1) := by decide +kernel
theorem pn_19 : plainName "java/lang/Double" = true := by first | (simp [plainName, overriddenIn]; done) | decide +kernel
theorem ef_rNa (m : MethodId) (f1 : UInt64) : entryFrame m #[(.double f1)] 2 = mkF m 0 #[.val (.double f1), .second] [] := by first | (simp [entryFrame, mkF, argsToLocals, Value.category]; done) | rfl
def QrNa (Z : State) (f1 : UInt64) (xa : Int64) (h0 : Heap) (n0 : Nat) (v : Option Value) (h : Heap) (L : List Loc) : Prop := ∃ z : Int32, z = ((0 : Int32)) ∧ v = some (.int z) ∧ Fr n0 L ∧ h = h0
set_option maxRecDepth 65536 in
set_option maxHeartbeats 40000000 in
theorem rNa (l : Launch) (Z : State) (a0 : Array Value) (hw : ∀ d ∈ tables_1, d.before a0 Z = true) (ws : List Jvm.Cond) (f1 : UInt64) (xa : Int64) (h0 : Heap) (n0 : Nat) (Z0 : n0 ≤ h0.size) (hf : f1 = FP.l2d xa) :
    MetFree l (⟨"java/lang/Double", "isNaN", "(D)Z"⟩ : MethodName) (head1 (Jvm.Cond.code (⟨"java/lang/Double", "isNaN", "(D)Z"⟩ : MethodName) jdk_117_method_6_code 2 (some .boolean) :: ws) ({ frames := 0, cells := 0, slots := 0, locals := 0 } : Room)) (fun a U => a = #[(.double f1)] ∧ Z.Warmed39 U.vm ∧ U.heap = h0) (fun _ _ _ _ _ => True) (fun _ U o U' => ∃ v L, o = .returned v ∧ QrNa Z f1 xa h0 n0 v U'.heap L ∧ FrameEnd U o U' L ({ frames := 0, cells := 0, slots := 0, locals := 0 } : Room).cells ({ frames := 0, cells := 0, slots := 0, locals := 0 } : Room).slots) := by
  refine MetFree.of_bodySF (plainFor_of_name pn_19) hisR ?_
  intro p e s m args below meth c s₁ Bd hml0 hP hK
  obtain ⟨rfl, hZ, hh⟩ := hP
  have hx := Bd.exec
  have hby := Bd.bytes
  have hml : c.maxLocals = 2 := hml0
  have hown : s.vm.findClass "java/lang/Double" = some m.cls := findClass_of_methodNamed Bd.named
  have hnm := (name_of_methodNamed Bd.named Bd.method).1
  have X0 : Stand p l e ({ frames := 0, cells := 0, slots := 0, locals := 0 } : Room) s m #[(.double f1)] below meth c s₁ [] 0 0 := Stand.of_body Bd
  have e0 : s₁.heap = h0 := by rw [← hh, Bd.state]; rfl
  have N0 := Fr.nil n0
  have pre0 : ∀ t, Steps p.tables e below (s₁.setTop (mkF m 0 #[.val (.double f1), .second] [])) t → Steps p.tables e below (s₁.setTop (entryFrame m #[(.double f1)] 2)) t := fun t k => castTop (ef_rNa m f1) k
  obtain ⟨fs, hr, hrun, hended, hW, hsame⟩ := X0.leave (v := some (.int (0 : Int32))) (fun h => by rw [Bd.returns] at h; cases h) (BodyLoose.notSynchronized Bd)
  refine ⟨_, _, pre0 _ ?_, hrun, hended, _, _, rfl, ?_, ⟨_, rfl⟩, hW, hsame.mono (by decide) (by decide)⟩
  · show Steps p.tables e below (s₁.setTop (mkF m 0 #[.val (.double f1), .second] [])) _
    rw [hf]
    show Steps p.tables e below (s₁.setTop (mkF m 0 #[.val (.double (FP.l2d xa)), .second] [])) _
    refine XS.dloadN X0.here hx rfl (hb hby d19_0) rfl ?_
    refine XS.dloadN X0.here hx rfl (hb hby d19_1) rfl ?_
    refine XS.dcmpS X0.here hx rfl (hb hby d19_2) rfl (v := (0 : Int32)) (dcmpV_self (Jvm.Free.Fl.l2d_fin _).noNaN _) ?_
    refine XS.ifYes X0.here hx rfl (pc0 := 3) (pc' := 10) rfl (hb hby d19_3) rfl ((if0 _ _).trans (teq (by decide)).1) (by decide) (by decide) ?_
    refine XS.iconst X0.here hx rfl (hb hby d19_10) ?_
    show Steps p.tables e below (s₁.setTop (mkF m 11 #[.val (.double (FP.l2d xa)), .second] [(.int (0 : Int32))])) _
    exact retN X0 hx (t := .boolean) Bd.returns (by simp) (hb hby d19_11) hr
  · show QrNa Z f1 xa h0 n0 _ s₁.heap _
    exact ⟨_, rfl, rfl, N0, e0⟩
theorem d50_0 : decode prog_13_method_3_code 0 = .ok (.dload_n 1, 1) := by decide +kernel
theorem d50_1 : decode prog_13_method_3_code 1 = .ok (.aload_n 0, 1) := by decide +kernel
theorem d50_2 : decode prog_13_method_3_code 2 = .ok (.getfield 94, 3) := by decide +kernel
theorem d50_5 : decode prog_13_method_3_code 5 = .ok (.dcmp .g, 1) := by decide +kernel
theorem d50_6 : decode prog_13_method_3_code 6 = .ok (.ifCond .ge 18, 3) := by decide +kernel
theorem d50_9 : decode prog_13_method_3_code 9 = .ok (.aload_n 0, 1) := by decide +kernel
theorem d50_10 : decode prog_13_method_3_code 10 = .ok (.getfield 104, 3) := by decide +kernel
theorem d50_13 : decode prog_13_method_3_code 13 = .ok (.aload_n 0, 1) := by decide +kernel
theorem d50_14 : decode prog_13_method_3_code 14 = .ok (.getfield 94, 3) := by decide +kernel
theorem d50_17 : decode prog_13_method_3_code 17 = .ok (.dload_n 1, 1) := by decide +kernel
theorem d50_18 : decode prog_13_method_3_code 18 = .ok (.dsub, 1) := by decide +kernel
theorem d50_19 : decode prog_13_method_3_code 19 = .ok (.dmul, 1) := by decide +kernel
theorem d50_20 : decode prog_13_method_3_code 20 = .ok (.dstore_n 3, 1) := by decide +kernel
theorem d50_21 : decode prog_13_method_3_code 21 = .ok (.goto 15, 3) := by decide +kernel
theorem d50_24 : decode prog_13_method_3_code 24 = .ok (.aload_n 0, 1) := by decide +kernel
theorem d50_25 : decode prog_13_method_3_code 25 = .ok (.getfield 107, 3) := by decide +kernel
theorem d50_28 : decode prog_13_method_3_code 28 = .ok (.dload_n 1, 1) := by decide +kernel
theorem d50_29 : decode prog_13_method_3_code 29 = .ok (.aload_n 0, 1) := by decide +kernel
theorem d50_30 : decode prog_13_method_3_code 30 = .ok (.getfield 94, 3) := by decide +kernel
theorem d50_33 : decode prog_13_method_3_code 33 = .ok (.dsub, 1) := by decide +kernel
theorem d50_34 : decode prog_13_method_3_code 34 = .ok (.dmul, 1) := by decide +kernel
theorem d50_35 : decode prog_13_method_3_code 35 = .ok (.dstore_n 3, 1) := by decide +kernel
theorem d50_36 : decode prog_13_method_3_code 36 = .ok (.dload_n 3, 1) := by decide +kernel
theorem d50_37 : decode prog_13_method_3_code 37 = .ok (.dreturn, 1) := by decide +kernel
theorem pn_50 : plainName "com/example/glidepath/glidepath/instance/Aircraft" = true := by first | (simp [plainName, overriddenIn]; done) | decide +kernel
theorem ef_rCs (m : MethodId) (a1 : Addr) (f2 : UInt64) : entryFrame m #[(.ref a1), (.double f2)] 5 = mkF m 0 #[.val (.ref a1), .val (.double f2), .second, .unset, .unset] [] := by first | (simp [entryFrame, mkF, argsToLocals, Value.category]; done) | rfl
def QrCs (Z : State) (a1 : Addr) (f2 : UInt64) (xt : Int64) (xe : Int64) (xl : Int64) (xi : Int64) (h0 : Heap) (n0 : Nat) (v : Option Value) (h : Heap) (L : List Loc) : Prop := v = some (.double (FP.l2d (own_cost xt xe xl xi))) ∧ Fr n0 L ∧ h = h0
set_option maxRecDepth 65536 in
set_option maxHeartbeats 40000000 in
theorem rCs (l : Launch) (Z : State) (a0 : Array Value) (hw : ∀ d ∈ tables_1, d.before a0 Z = true) (ws : List Jvm.Cond) (a1 : Addr) (f2 : UInt64) (xt : Int64) (xe : Int64) (xl : Int64) (xi : Int64) (h0 : Heap) (n0 : Nat) (Z0 : n0 ≤ h0.size) (hf : f2 = FP.l2d xi) (FT : Fld Z h0 a1 "com/example/glidepath/glidepath/instance/Aircraft" "target" "D" (.double (FP.l2d xt))) (FE : Fld Z h0 a1 "com/example/glidepath/glidepath/instance/Aircraft" "costEarly" "D" (.double (FP.l2d xe))) (FL : Fld Z h0 a1 "com/example/glidepath/glidepath/instance/Aircraft" "costLate" "D" (.double (FP.l2d xl))) (ht : own_in xt) (hi : own_in xi) (he : own_rate xe) (hl : own_rate xl) :
    MetFree l (⟨"com/example/glidepath/glidepath/instance/Aircraft", "cost", "(D)D"⟩ : MethodName) (head1 (Jvm.Cond.code (⟨"com/example/glidepath/glidepath/instance/Aircraft", "cost", "(D)D"⟩ : MethodName) prog_13_method_3_code 5 (some .double) :: ws) ({ frames := 0, cells := 0, slots := 0, locals := 0 } : Room)) (fun a U => a = #[(.ref a1), (.double f2)] ∧ Z.Warmed39 U.vm ∧ U.heap = h0) (fun _ _ _ _ _ => True) (fun _ U o U' => ∃ v L, o = .returned v ∧ QrCs Z a1 f2 xt xe xl xi h0 n0 v U'.heap L ∧ FrameEnd U o U' L ({ frames := 0, cells := 0, slots := 0, locals := 0 } : Room).cells ({ frames := 0, cells := 0, slots := 0, locals := 0 } : Room).slots) := by
  refine MetFree.of_bodySF (plainFor_of_name pn_50) hisR ?_
  intro p e s m args below meth c s₁ Bd hml0 hP hK
  obtain ⟨rfl, hZ, hh⟩ := hP
  have hx := Bd.exec
  have hby := Bd.bytes
  have hml : c.maxLocals = 5 := hml0
  have hown : s.vm.findClass "com/example/glidepath/glidepath/instance/Aircraft" = some m.cls := findClass_of_methodNamed Bd.named
  have hnm := (name_of_methodNamed Bd.named Bd.method).1
  have X0 : Stand p l e ({ frames := 0, cells := 0, slots := 0, locals := 0 } : Room) s m #[(.ref a1), (.double f2)] below meth c s₁ [] 0 0 := Stand.of_body Bd
  have e0 : s₁.heap = h0 := by rw [← hh, Bd.state]; rfl
  have N0 := Fr.nil n0
  have pre0 : ∀ t, Steps p.tables e below (s₁.setTop (mkF m 0 #[.val (.ref a1), .val (.double f2), .second, .unset, .unset] [])) t → Steps p.tables e below (s₁.setTop (entryFrame m #[(.ref a1), (.double f2)] 5)) t := fun t k => castTop (ef_rCs m a1 f2) k
  obtain ⟨T1, X1, e1, st1⟩ := getF X0 hx hZ hown (host := "") (Or.inl (hw _ (own_w 275 rfl))) Via.refl e0 FT (g := (mkF m 2 #[.val (.ref a1), .val (.double (FP.l2d xi)), .second, .unset, .unset] [(.ref a1), (.double (FP.l2d xi))])) rfl rfl (hb hby d50_2)
  by_cases hc6 : xi < xt
  · obtain ⟨T2, X2, e2, st2⟩ := getF X1 hx hZ hown (host := "") (Or.inl (hw _ (own_w 281 rfl))) Via.refl e1 FE (g := (mkF m 10 #[.val (.ref a1), .val (.double (FP.l2d xi)), .second, .unset, .unset] [(.ref a1)])) rfl rfl (hb hby d50_10)
    obtain ⟨T3, X3, e3, st3⟩ := getF X2 hx hZ hown (host := "") (Or.inl (hw _ (own_w 275 rfl))) Via.refl e2 FT (g := (mkF m 14 #[.val (.ref a1), .val (.double (FP.l2d xi)), .second, .unset, .unset] [(.ref a1), (.double (FP.l2d xe))])) rfl rfl (hb hby d50_14)
    obtain ⟨fs, hr, hrun, hended, hW, hsame⟩ := X3.leave (v := some (.double (FP.l2d (xe * (xt - xi))))) (fun h => by rw [Bd.returns] at h; cases h) (BodyLoose.notSynchronized Bd)
    refine ⟨_, _, pre0 _ ?_, hrun, hended, _, _, rfl, ?_, ⟨_, rfl⟩, hW, hsame.mono (by decide) (by decide)⟩
    · show Steps p.tables e below (s₁.setTop (mkF m 0 #[.val (.ref a1), .val (.double f2), .second, .unset, .unset] [])) _
      rw [hf]
      show Steps p.tables e below (s₁.setTop (mkF m 0 #[.val (.ref a1), .val (.double (FP.l2d xi)), .second, .unset, .unset] [])) _
      refine XS.dloadN X0.here hx rfl (hb hby d50_0) rfl ?_
      refine XS.aloadN X0.here hx rfl (hb hby d50_1) rfl rfl ?_
      refine st1 _ ?_
      refine XS.dcmpS X1.here hx rfl (hb hby d50_5) rfl (v := (lcmpW xi xt)) (dcmpV_w (own_in53 hi) (own_in53 ht) _) ?_
      refine XS.ifNo X1.here hx rfl (hb hby d50_6) rfl ((if0 _ _).trans (tlt (own_lclt hc6)).2.1) ?_
      refine XS.aloadN X1.here hx rfl (hb hby d50_9) rfl rfl ?_
      refine st2 _ ?_
      refine XS.aloadN X2.here hx rfl (hb hby d50_13) rfl rfl ?_
      refine st3 _ ?_
      refine XS.dloadN X3.here hx rfl (hb hby d50_17) rfl ?_
      refine XS.dsubS X3.here hx rfl (hb hby d50_18) rfl (v := (FP.l2d (xt - xi))) (nn_w (dsub_w (own_in53 ht) (own_in53 hi))) (dsub_w (own_in53 ht) (own_in53 hi)) ?_
      refine XS.dmulS X3.here hx rfl (hb hby d50_19) rfl (v := (FP.l2d (xe * (xt - xi)))) (nn_w (own_early ht hi he hc6)) (own_early ht hi he hc6) ?_
      refine XS.dstoreN X3.here hx rfl (hb hby d50_20) rfl (l' := #[.val (.ref a1), .val (.double (FP.l2d xi)), .second, .val (.double (FP.l2d (xe * (xt - xi)))), .second]) rfl ?_
      refine XS.goto X3.here hx rfl (pc0 := 21) (pc' := 36) rfl (hb hby d50_21) (by decide) (by decide) ?_
      refine XS.dloadN X3.here hx rfl (hb hby d50_36) rfl ?_
      show Steps p.tables e below (T3.setTop (mkF m 37 #[.val (.ref a1), .val (.double (FP.l2d xi)), .second, .val (.double (FP.l2d (xe * (xt - xi)))), .second] [(.double (FP.l2d (xe * (xt - xi))))])) _
      exact own_retD X3 hx Bd.returns (hb hby d50_37) hr
    · show QrCs Z a1 f2 xt xe xl xi h0 n0 _ T3.heap _
      exact ⟨by rw [own_c1 hc6], N0, e3⟩
  · obtain ⟨T4, X4, e4, st4⟩ := getF X1 hx hZ hown (host := "") (Or.inl (hw _ (own_w 283 rfl))) Via.refl e1 FL (g := (mkF m 25 #[.val (.ref a1), .val (.double (FP.l2d xi)), .second, .unset, .unset] [(.ref a1)])) rfl rfl (hb hby d50_25)
    obtain ⟨T5, X5, e5, st5⟩ := getF X4 hx hZ hown (host := "") (Or.inl (hw _ (own_w 275 rfl))) Via.refl e4 FT (g := (mkF m 30 #[.val (.ref a1), .val (.double (FP.l2d xi)), .second, .unset, .unset] [(.ref a1), (.double (FP.l2d xi)), (.double (FP.l2d xl))])) rfl rfl (hb hby d50_30)
    obtain ⟨fs, hr, hrun, hended, hW, hsame⟩ := X5.leave (v := some (.double (FP.l2d (xl * (xi - xt))))) (fun h => by rw [Bd.returns] at h; cases h) (BodyLoose.notSynchronized Bd)
    refine ⟨_, _, pre0 _ ?_, hrun, hended, _, _, rfl, ?_, ⟨_, rfl⟩, hW, hsame.mono (by decide) (by decide)⟩
    · show Steps p.tables e below (s₁.setTop (mkF m 0 #[.val (.ref a1), .val (.double f2), .second, .unset, .unset] [])) _
      rw [hf]
      show Steps p.tables e below (s₁.setTop (mkF m 0 #[.val (.ref a1), .val (.double (FP.l2d xi)), .second, .unset, .unset] [])) _
      refine XS.dloadN X0.here hx rfl (hb hby d50_0) rfl ?_
      refine XS.aloadN X0.here hx rfl (hb hby d50_1) rfl rfl ?_
      refine st1 _ ?_
      refine XS.dcmpS X1.here hx rfl (hb hby d50_5) rfl (v := (lcmpW xi xt)) (dcmpV_w (own_in53 hi) (own_in53 ht) _) ?_
      refine XS.ifYes X1.here hx rfl (pc0 := 6) (pc' := 24) rfl (hb hby d50_6) rfl ((if0 _ _).trans (flt (own_lcnlt hc6)).2.1) (by decide) (by decide) ?_
      refine XS.aloadN X1.here hx rfl (hb hby d50_24) rfl rfl ?_
      refine st4 _ ?_
      refine XS.dloadN X4.here hx rfl (hb hby d50_28) rfl ?_
      refine XS.aloadN X4.here hx rfl (hb hby d50_29) rfl rfl ?_
      refine st5 _ ?_
      refine XS.dsubS X5.here hx rfl (hb hby d50_33) rfl (v := (FP.l2d (xi - xt))) (nn_w (dsub_w (own_in53 hi) (own_in53 ht))) (dsub_w (own_in53 hi) (own_in53 ht)) ?_
      refine XS.dmulS X5.here hx rfl (hb hby d50_34) rfl (v := (FP.l2d (xl * (xi - xt)))) (nn_w (own_late ht hi hl hc6)) (own_late ht hi hl hc6) ?_
      refine XS.dstoreN X5.here hx rfl (hb hby d50_35) rfl (l' := #[.val (.ref a1), .val (.double (FP.l2d xi)), .second, .val (.double (FP.l2d (xl * (xi - xt)))), .second]) rfl ?_
      refine XS.dloadN X5.here hx rfl (hb hby d50_36) rfl ?_
      show Steps p.tables e below (T5.setTop (mkF m 37 #[.val (.ref a1), .val (.double (FP.l2d xi)), .second, .val (.double (FP.l2d (xl * (xi - xt)))), .second] [(.double (FP.l2d (xl * (xi - xt))))])) _
      exact own_retD X5 hx Bd.returns (hb hby d50_37) hr
    · show QrCs Z a1 f2 xt xe xl xi h0 n0 _ T5.heap _
      exact ⟨by rw [own_c2 hc6], N0, e5⟩
theorem d45_0 : decode jdk_31_method_10_code 0 = .ok (.aload_n 0, 1) := by decide +kernel
theorem d45_1 : decode jdk_31_method_10_code 1 = .ok (.ifnonnull 11, 3) := by decide +kernel
theorem d45_12 : decode jdk_31_method_10_code 12 = .ok (.aload_n 0, 1) := by decide +kernel
theorem d45_13 : decode jdk_31_method_10_code 13 = .ok (.areturn, 1) := by decide +kernel
theorem pn_45 : plainName "java/util/Objects" = true := by first | (simp [plainName, overriddenIn]; done) | decide +kernel
theorem ef_rR1 (m : MethodId) (a1 : Addr) : entryFrame m #[(.ref a1)] 1 = mkF m 0 #[.val (.ref a1)] [] := by first | (simp [entryFrame, mkF, argsToLocals, Value.category]; done) | rfl
def QrR1 (Z : State) (a1 : Addr) (h0 : Heap) (n0 : Nat) (v : Option Value) (h : Heap) (L : List Loc) : Prop := v = some (.ref a1) ∧ Fr n0 L ∧ h = h0
set_option maxRecDepth 65536 in
set_option maxHeartbeats 40000000 in
theorem rR1 (l : Launch) (Z : State) (a0 : Array Value) (hw : ∀ d ∈ tables_1, d.before a0 Z = true) (ws : List Jvm.Cond) (a1 : Addr) (h0 : Heap) (n0 : Nat) (Z0 : n0 ≤ h0.size) :
    MetFree l (⟨"java/util/Objects", "requireNonNull", "(Ljava/lang/Object;)Ljava/lang/Object;"⟩ : MethodName) (head1 (Jvm.Cond.code (⟨"java/util/Objects", "requireNonNull", "(Ljava/lang/Object;)Ljava/lang/Object;"⟩ : MethodName) jdk_31_method_10_code 1 (some (.object "java/lang/Object")) :: ws) ({ frames := 0, cells := 0, slots := 0, locals := 0 } : Room)) (fun a U => a = #[(.ref a1)] ∧ Z.Warmed39 U.vm ∧ U.heap = h0) (fun _ _ _ _ _ => True) (fun _ U o U' => ∃ v L, o = .returned v ∧ QrR1 Z a1 h0 n0 v U'.heap L ∧ FrameEnd U o U' L ({ frames := 0, cells := 0, slots := 0, locals := 0 } : Room).cells ({ frames := 0, cells := 0, slots := 0, locals := 0 } : Room).slots) := by
  refine MetFree.of_bodySF (plainFor_of_name pn_45) hisR ?_
  intro p e s m args below meth c s₁ Bd hml0 hP hK
  obtain ⟨rfl, hZ, hh⟩ := hP
  have hx := Bd.exec
  have hby := Bd.bytes
  have hml : c.maxLocals = 1 := hml0
  have hown : s.vm.findClass "java/util/Objects" = some m.cls := findClass_of_methodNamed Bd.named
  have hnm := (name_of_methodNamed Bd.named Bd.method).1
  have X0 : Stand p l e ({ frames := 0, cells := 0, slots := 0, locals := 0 } : Room) s m #[(.ref a1)] below meth c s₁ [] 0 0 := Stand.of_body Bd
  have e0 : s₁.heap = h0 := by rw [← hh, Bd.state]; rfl
  have N0 := Fr.nil n0
  have pre0 : ∀ t, Steps p.tables e below (s₁.setTop (mkF m 0 #[.val (.ref a1)] [])) t → Steps p.tables e below (s₁.setTop (entryFrame m #[(.ref a1)] 1)) t := fun t k => castTop (ef_rR1 m a1) k
  obtain ⟨fs, hr, hrun, hended, hW, hsame⟩ := X0.leave (v := some (.ref a1)) (fun h => by rw [Bd.returns] at h; cases h) (BodyLoose.notSynchronized Bd)
  refine ⟨_, _, pre0 _ ?_, hrun, hended, _, _, rfl, ?_, ⟨_, rfl⟩, hW, hsame.mono (by decide) (by decide)⟩
  · show Steps p.tables e below (s₁.setTop (mkF m 0 #[.val (.ref a1)] [])) _
    refine XS.aloadN X0.here hx rfl (hb hby d45_0) rfl rfl ?_
    refine XS.ifnonnullYes X0.here hx rfl (pc0 := 1) (pc' := 12) rfl (hb hby d45_1) rfl (by decide) (by decide) ?_
    refine XS.aloadN X0.here hx rfl (hb hby d45_12) rfl rfl ?_
    show Steps p.tables e below (s₁.setTop (mkF m 13 #[.val (.ref a1)] [(.ref a1)])) _
    exact X0.areturnOut hx rfl Bd.returns rfl (hb hby d45_13) hr
  · show QrR1 Z a1 h0 n0 _ s₁.heap _
    exact ⟨rfl, N0, e0⟩
theorem d6_0 : decode jdk_31_method_11_code 0 = .ok (.aload_n 0, 1) := by decide +kernel
theorem d6_1 : decode jdk_31_method_11_code 1 = .ok (.ifnonnull 12, 3) := by decide +kernel
theorem d6_13 : decode jdk_31_method_11_code 13 = .ok (.aload_n 0, 1) := by decide +kernel
theorem d6_14 : decode jdk_31_method_11_code 14 = .ok (.areturn, 1) := by decide +kernel
theorem pn_6 : plainName "java/util/Objects" = true := by first | (simp [plainName, overriddenIn]; done) | decide +kernel
theorem ef_rR2 (m : MethodId) (a1 : Addr) (a2 : Addr) : entryFrame m #[(.ref a1), (.ref a2)] 2 = mkF m 0 #[.val (.ref a1), .val (.ref a2)] [] := by first | (simp [entryFrame, mkF, argsToLocals, Value.category]; done) | rfl
def QrR2 (Z : State) (a1 : Addr) (a2 : Addr) (h0 : Heap) (n0 : Nat) (v : Option Value) (h : Heap) (L : List Loc) : Prop := v = some (.ref a1) ∧ Fr n0 L ∧ h = h0
set_option maxRecDepth 65536 in
set_option maxHeartbeats 40000000 in
theorem rR2 (l : Launch) (Z : State) (a0 : Array Value) (hw : ∀ d ∈ tables_1, d.before a0 Z = true) (ws : List Jvm.Cond) (a1 : Addr) (a2 : Addr) (h0 : Heap) (n0 : Nat) (Z0 : n0 ≤ h0.size) :
    MetFree l (⟨"java/util/Objects", "requireNonNull", "(Ljava/lang/Object;Ljava/lang/String;)Ljava/lang/Object;"⟩ : MethodName) (head1 (Jvm.Cond.code (⟨"java/util/Objects", "requireNonNull", "(Ljava/lang/Object;Ljava/lang/String;)Ljava/lang/Object;"⟩ : MethodName) jdk_31_method_11_code 2 (some (.object "java/lang/Object")) :: ws) ({ frames := 0, cells := 0, slots := 0, locals := 0 } : Room)) (fun a U => a = #[(.ref a1), (.ref a2)] ∧ Z.Warmed39 U.vm ∧ U.heap = h0) (fun _ _ _ _ _ => True) (fun _ U o U' => ∃ v L, o = .returned v ∧ QrR2 Z a1 a2 h0 n0 v U'.heap L ∧ FrameEnd U o U' L ({ frames := 0, cells := 0, slots := 0, locals := 0 } : Room).cells ({ frames := 0, cells := 0, slots := 0, locals := 0 } : Room).slots) := by
  refine MetFree.of_bodySF (plainFor_of_name pn_6) hisR ?_
  intro p e s m args below meth c s₁ Bd hml0 hP hK
  obtain ⟨rfl, hZ, hh⟩ := hP
  have hx := Bd.exec
  have hby := Bd.bytes
  have hml : c.maxLocals = 2 := hml0
  have hown : s.vm.findClass "java/util/Objects" = some m.cls := findClass_of_methodNamed Bd.named
  have hnm := (name_of_methodNamed Bd.named Bd.method).1
  have X0 : Stand p l e ({ frames := 0, cells := 0, slots := 0, locals := 0 } : Room) s m #[(.ref a1), (.ref a2)] below meth c s₁ [] 0 0 := Stand.of_body Bd
  have e0 : s₁.heap = h0 := by rw [← hh, Bd.state]; rfl
  have N0 := Fr.nil n0
  have pre0 : ∀ t, Steps p.tables e below (s₁.setTop (mkF m 0 #[.val (.ref a1), .val (.ref a2)] [])) t → Steps p.tables e below (s₁.setTop (entryFrame m #[(.ref a1), (.ref a2)] 2)) t := fun t k => castTop (ef_rR2 m a1 a2) k
  obtain ⟨fs, hr, hrun, hended, hW, hsame⟩ := X0.leave (v := some (.ref a1)) (fun h => by rw [Bd.returns] at h; cases h) (BodyLoose.notSynchronized Bd)
  refine ⟨_, _, pre0 _ ?_, hrun, hended, _, _, rfl, ?_, ⟨_, rfl⟩, hW, hsame.mono (by decide) (by decide)⟩
  · show Steps p.tables e below (s₁.setTop (mkF m 0 #[.val (.ref a1), .val (.ref a2)] [])) _
    refine XS.aloadN X0.here hx rfl (hb hby d6_0) rfl rfl ?_
    refine XS.ifnonnullYes X0.here hx rfl (pc0 := 1) (pc' := 13) rfl (hb hby d6_1) rfl (by decide) (by decide) ?_
    refine XS.aloadN X0.here hx rfl (hb hby d6_13) rfl rfl ?_
    show Steps p.tables e below (s₁.setTop (mkF m 14 #[.val (.ref a1), .val (.ref a2)] [(.ref a1)])) _
    exact X0.areturnOut hx rfl Bd.returns rfl (hb hby d6_14) hr
  · show QrR2 Z a1 a2 h0 n0 _ s₁.heap _
    exact ⟨rfl, N0, e0⟩
theorem d4_0 : decode jdk_30_method_1_code 0 = .ok (.aload_n 0, 1) := by decide +kernel
theorem d4_1 : decode jdk_30_method_1_code 1 = .ok (.invokespecial 1, 3) := by decide +kernel
theorem d4_4 : decode jdk_30_method_1_code 4 = .ok (.return_, 1) := by decide +kernel
theorem pn_4 : plainName "java/lang/Record" = true := by first | (simp [plainName, overriddenIn]; done) | decide +kernel
theorem ef_rRe (m : MethodId) (a1 : Addr) : entryFrame m #[(.ref a1)] 1 = mkF m 0 #[.val (.ref a1)] [] := by first | (simp [entryFrame, mkF, argsToLocals, Value.category]; done) | rfl
def QrRe (Z : State) (a1 : Addr) (h0 : Heap) (n0 : Nat) (v : Option Value) (h : Heap) (L : List Loc) : Prop := v = none ∧ Fr n0 L ∧ h = h0
set_option maxRecDepth 65536 in
set_option maxHeartbeats 40000000 in
theorem rRe (l : Launch) (Z : State) (a0 : Array Value) (hw : ∀ d ∈ tables_1, d.before a0 Z = true) (ws : List Jvm.Cond) (a1 : Addr) (h0 : Heap) (n0 : Nat) (Z0 : n0 ≤ h0.size) :
    MetFree l (⟨"java/lang/Record", "<init>", "()V"⟩ : MethodName) (head1 (Jvm.Cond.code (⟨"java/lang/Record", "<init>", "()V"⟩ : MethodName) jdk_30_method_1_code 1 none :: ws) ({ frames := 1, cells := 0, slots := 0, locals := 12 } : Room)) (fun a U => a = #[(.ref a1)] ∧ Z.Warmed39 U.vm ∧ U.heap = h0) (fun _ _ _ _ _ => True) (fun _ U o U' => ∃ v L, o = .returned v ∧ QrRe Z a1 h0 n0 v U'.heap L ∧ FrameEnd U o U' L ({ frames := 1, cells := 0, slots := 0, locals := 12 } : Room).cells ({ frames := 1, cells := 0, slots := 0, locals := 12 } : Room).slots) := by
  refine MetFree.of_bodySF (plainFor_of_name pn_4) hisR ?_
  intro p e s m args below meth c s₁ Bd hml0 hP hK
  obtain ⟨rfl, hZ, hh⟩ := hP
  have hx := Bd.exec
  have hby := Bd.bytes
  have hml : c.maxLocals = 1 := hml0
  have hown : s.vm.findClass "java/lang/Record" = some m.cls := findClass_of_methodNamed Bd.named
  have hnm := (name_of_methodNamed Bd.named Bd.method).1
  have X0 : Stand p l e ({ frames := 1, cells := 0, slots := 0, locals := 12 } : Room) s m #[(.ref a1)] below meth c s₁ [] 0 0 := Stand.of_body Bd
  have e0 : s₁.heap = h0 := by rw [← hh, Bd.state]; rfl
  have N0 := Fr.nil n0
  have pre0 : ∀ t, Steps p.tables e below (s₁.setTop (mkF m 0 #[.val (.ref a1)] [])) t → Steps p.tables e below (s₁.setTop (entryFrame m #[(.ref a1)] 1)) t := fun t k => castTop (ef_rRe m a1) k
  obtain ⟨T1, X1, e1, st1⟩ := initO X0 hx hZ hown (hw _ (own_w 28 rfl)) (hw _ (own_w 29 rfl)) (hw _ (own_w 30 rfl)) e0 (g := (mkF m 1 #[.val (.ref a1)] [(.ref a1)])) rfl (by rw [hml]; rfl) rfl (hb hby d4_1) (by decide) (W := 0) (by show 2 * 0 + _ ≤ _; exact Nat.le_of_eq rfl) (by decide)
  obtain ⟨fs, hr, hrun, hended, hW, hsame⟩ := X1.leave (v := none) (fun _ => rfl) (BodyLoose.notSynchronized Bd)
  refine ⟨_, _, pre0 _ ?_, hrun, hended, _, _, rfl, ?_, ⟨_, rfl⟩, hW, hsame.mono (by decide) (by decide)⟩
  · show Steps p.tables e below (s₁.setTop (mkF m 0 #[.val (.ref a1)] [])) _
    refine XS.aloadN X0.here hx rfl (hb hby d4_0) rfl rfl ?_
    refine st1 _ ?_
    show Steps p.tables e below (T1.setTop (mkF m 4 #[.val (.ref a1)] [])) _
    exact X1.returnOut hx Bd.returns (hb hby d4_4) hr
  · show QrRe Z a1 h0 n0 _ T1.heap _
    exact ⟨rfl, N0, e1⟩
theorem d18_0 : decode prog_13_method_5_code 0 = .ok (.iload_n 0, 1) := by decide +kernel
theorem d18_1 : decode prog_13_method_5_code 1 = .ok (.ifCond .ne 39, 3) := by decide +kernel
theorem d18_40 : decode prog_13_method_5_code 40 = .ok (.return_, 1) := by decide +kernel
theorem pn_18 : plainName "com/example/glidepath/glidepath/instance/Aircraft" = true := by first | (simp [plainName, overriddenIn]; done) | decide +kernel
theorem ef_rRq (m : MethodId) (a2 : Addr) (a3 : Addr) : entryFrame m #[(.int (1 : Int32)), (.ref a2), (.ref a3)] 3 = mkF m 0 #[.val (.int (1 : Int32)), .val (.ref a2), .val (.ref a3)] [] := by first | (simp [entryFrame, mkF, argsToLocals, Value.category]; done) | rfl
def QrRq (Z : State) (a2 : Addr) (a3 : Addr) (h0 : Heap) (n0 : Nat) (v : Option Value) (h : Heap) (L : List Loc) : Prop := v = none ∧ Fr n0 L ∧ h = h0
set_option maxRecDepth 65536 in
set_option maxHeartbeats 40000000 in
theorem rRq (l : Launch) (Z : State) (a0 : Array Value) (hw : ∀ d ∈ tables_1, d.before a0 Z = true) (ws : List Jvm.Cond) (a2 : Addr) (a3 : Addr) (h0 : Heap) (n0 : Nat) (Z0 : n0 ≤ h0.size) :
    MetFree l (⟨"com/example/glidepath/glidepath/instance/Aircraft", "require", "(ZLjava/lang/String;Ljava/lang/String;)V"⟩ : MethodName) (head1 (Jvm.Cond.code (⟨"com/example/glidepath/glidepath/instance/Aircraft", "require", "(ZLjava/lang/String;Ljava/lang/String;)V"⟩ : MethodName) prog_13_method_5_code 3 none :: ws) ({ frames := 0, cells := 0, slots := 0, locals := 0 } : Room)) (fun a U => a = #[(.int (1 : Int32)), (.ref a2), (.ref a3)] ∧ Z.Warmed39 U.vm ∧ U.heap = h0) (fun _ _ _ _ _ => True) (fun _ U o U' => ∃ v L, o = .returned v ∧ QrRq Z a2 a3 h0 n0 v U'.heap L ∧ FrameEnd U o U' L ({ frames := 0, cells := 0, slots := 0, locals := 0 } : Room).cells ({ frames := 0, cells := 0, slots := 0, locals := 0 } : Room).slots) := by
  refine MetFree.of_bodySF (plainFor_of_name pn_18) hisR ?_
  intro p e s m args below meth c s₁ Bd hml0 hP hK
  obtain ⟨rfl, hZ, hh⟩ := hP
  have hx := Bd.exec
  have hby := Bd.bytes
  have hml : c.maxLocals = 3 := hml0
  have hown : s.vm.findClass "com/example/glidepath/glidepath/instance/Aircraft" = some m.cls := findClass_of_methodNamed Bd.named
  have hnm := (name_of_methodNamed Bd.named Bd.method).1
  have X0 : Stand p l e ({ frames := 0, cells := 0, slots := 0, locals := 0 } : Room) s m #[(.int (1 : Int32)), (.ref a2), (.ref a3)] below meth c s₁ [] 0 0 := Stand.of_body Bd
  have e0 : s₁.heap = h0 := by rw [← hh, Bd.state]; rfl
  have N0 := Fr.nil n0
  have pre0 : ∀ t, Steps p.tables e below (s₁.setTop (mkF m 0 #[.val (.int (1 : Int32)), .val (.ref a2), .val (.ref a3)] [])) t → Steps p.tables e below (s₁.setTop (entryFrame m #[(.int (1 : Int32)), (.ref a2), (.ref a3)] 3)) t := fun t k => castTop (ef_rRq m a2 a3) k
  obtain ⟨fs, hr, hrun, hended, hW, hsame⟩ := X0.leave (v := none) (fun _ => rfl) (BodyLoose.notSynchronized Bd)
  refine ⟨_, _, pre0 _ ?_, hrun, hended, _, _, rfl, ?_, ⟨_, rfl⟩, hW, hsame.mono (by decide) (by decide)⟩
  · show Steps p.tables e below (s₁.setTop (mkF m 0 #[.val (.int (1 : Int32)), .val (.ref a2), .val (.ref a3)] [])) _
    refine XS.iloadN X0.here hx rfl (hb hby d18_0) rfl ?_
    refine XS.ifYes X0.here hx rfl (pc0 := 1) (pc' := 40) rfl (hb hby d18_1) rfl ((if0 _ _).trans (feq (by decide)).2) (by decide) (by decide) ?_
    show Steps p.tables e below (s₁.setTop (mkF m 40 #[.val (.int (1 : Int32)), .val (.ref a2), .val (.ref a3)] [])) _
    exact X0.returnOut hx Bd.returns (hb hby d18_40) hr
  · show QrRq Z a2 a3 h0 n0 _ s₁.heap _
    exact ⟨rfl, N0, e0⟩
theorem d2_0 : decode jdk_32_method_1_code 0 = .ok (.getstatic 1, 3) := by decide +kernel
theorem d2_3 : decode jdk_32_method_1_code 3 = .ok (.astore_n 0, 1) := by decide +kernel
theorem d2_4 : decode jdk_32_method_1_code 4 = .ok (.aload_n 0, 1) := by decide +kernel
theorem d2_5 : decode jdk_32_method_1_code 5 = .ok (.areturn, 1) := by decide +kernel
theorem pn_2 : plainName "java/util/Optional" = true := by first | (simp [plainName, overriddenIn]; done) | decide +kernel
theorem ef_rOe (m : MethodId)  : entryFrame m #[] 1 = mkF m 0 #[.unset] [] := by first | (simp [entryFrame, mkF, argsToLocals, Value.category]; done) | rfl
def QrOe (Z : State) (eo : Addr) (h0 : Heap) (n0 : Nat) (v : Option Value) (h : Heap) (L : List Loc) : Prop := v = some (.ref eo) ∧ Fr n0 L ∧ h = h0
set_option maxRecDepth 65536 in
set_option maxHeartbeats 40000000 in
theorem rOe (l : Launch) (Z : State) (a0 : Array Value) (hw : ∀ d ∈ tables_1, d.before a0 Z = true) (ws : List Jvm.Cond) (eo : Addr) (h0 : Heap) (n0 : Nat) (Z0 : n0 ≤ h0.size) (X00 : Old Z n0 h0) (O_E : Sta Z Z.heap "java/util/Optional" "EMPTY" "Ljava/util/Optional;" (.ref eo)) :
    MetFree l (⟨"java/util/Optional", "empty", "()Ljava/util/Optional;"⟩ : MethodName) (head1 (Jvm.Cond.code (⟨"java/util/Optional", "empty", "()Ljava/util/Optional;"⟩ : MethodName) jdk_32_method_1_code 1 (some (.object "java/util/Optional")) :: ws) ({ frames := 0, cells := 0, slots := 0, locals := 0 } : Room)) (fun a U => a = #[] ∧ Z.Warmed39 U.vm ∧ U.heap = h0) (fun _ _ _ _ _ => True) (fun _ U o U' => ∃ v L, o = .returned v ∧ QrOe Z eo h0 n0 v U'.heap L ∧ FrameEnd U o U' L ({ frames := 0, cells := 0, slots := 0, locals := 0 } : Room).cells ({ frames := 0, cells := 0, slots := 0, locals := 0 } : Room).slots) := by
  refine MetFree.of_bodySF (plainFor_of_name pn_2) hisR ?_
  intro p e s m args below meth c s₁ Bd hml0 hP hK
  obtain ⟨rfl, hZ, hh⟩ := hP
  have hx := Bd.exec
  have hby := Bd.bytes
  have hml : c.maxLocals = 1 := hml0
  have hown : s.vm.findClass "java/util/Optional" = some m.cls := findClass_of_methodNamed Bd.named
  have hnm := (name_of_methodNamed Bd.named Bd.method).1
  have X0 : Stand p l e ({ frames := 0, cells := 0, slots := 0, locals := 0 } : Room) s m #[] below meth c s₁ [] 0 0 := Stand.of_body Bd
  have e0 : s₁.heap = h0 := by rw [← hh, Bd.state]; rfl
  have N0 := Fr.nil n0
  have pre0 : ∀ t, Steps p.tables e below (s₁.setTop (mkF m 0 #[.unset] [])) t → Steps p.tables e below (s₁.setTop (entryFrame m #[] 1)) t := fun t k => castTop (ef_rOe m ) k
  obtain ⟨T1, X1, e1, st1⟩ := getS2 X0 hx hZ hown (host := "") (Or.inl (hw _ (own_w 19 rfl))) Via.refl e0 (O_E.ext X00.2) (g := (mkF m 0 #[.unset] [])) rfl (hb hby d2_0)
  obtain ⟨fs, hr, hrun, hended, hW, hsame⟩ := X1.leave (v := some (.ref eo)) (fun h => by rw [Bd.returns] at h; cases h) (BodyLoose.notSynchronized Bd)
  refine ⟨_, _, pre0 _ ?_, hrun, hended, _, _, rfl, ?_, ⟨_, rfl⟩, hW, hsame.mono (by decide) (by decide)⟩
  · show Steps p.tables e below (s₁.setTop (mkF m 0 #[.unset] [])) _
    refine st1 _ ?_
    refine XS.astoreN X1.here hx rfl (hb hby d2_3) rfl rfl (l' := #[.val (.ref eo)]) rfl ?_
    refine XS.aloadN X1.here hx rfl (hb hby d2_4) rfl rfl ?_
    show Steps p.tables e below (T1.setTop (mkF m 5 #[.val (.ref eo)] [(.ref eo)])) _
    exact X1.areturnOut hx rfl Bd.returns rfl (hb hby d2_5) hr
  · show QrOe Z eo h0 n0 _ T1.heap _
    exact ⟨rfl, N0, e1⟩
theorem d47_0 : decode jdk_2055_method_5_code 0 = .ok (.iload_n 0, 1) := by decide +kernel
theorem d47_1 : decode jdk_2055_method_5_code 1 = .ok (.ifCond .eq 9, 3) := by decide +kernel
theorem d47_4 : decode jdk_2055_method_5_code 4 = .ok (.getstatic 27, 3) := by decide +kernel
theorem d47_7 : decode jdk_2055_method_5_code 7 = .ok (.goto 6, 3) := by decide +kernel
theorem d47_13 : decode jdk_2055_method_5_code 13 = .ok (.areturn, 1) := by decide +kernel
theorem pn_47 : plainName "java/lang/Boolean" = true := by first | (simp [plainName, overriddenIn]; done) | decide +kernel
theorem ef_rBv (m : MethodId)  : entryFrame m #[(.int (1 : Int32))] 1 = mkF m 0 #[.val (.int (1 : Int32))] [] := by first | (simp [entryFrame, mkF, argsToLocals, Value.category]; done) | rfl
def QrBv (Z : State) (tb : Addr) (h0 : Heap) (n0 : Nat) (v : Option Value) (h : Heap) (L : List Loc) : Prop := v = some (.ref tb) ∧ Fr n0 L ∧ h = h0
set_option maxRecDepth 65536 in
set_option maxHeartbeats 40000000 in
theorem rBv (l : Launch) (Z : State) (a0 : Array Value) (hw : ∀ d ∈ tables_1, d.before a0 Z = true) (ws : List Jvm.Cond) (tb : Addr) (h0 : Heap) (n0 : Nat) (Z0 : n0 ≤ h0.size) (X00 : Old Z n0 h0) (O_BT : Sta Z Z.heap "java/lang/Boolean" "TRUE" "Ljava/lang/Boolean;" (.ref tb)) :
    MetFree l (⟨"java/lang/Boolean", "valueOf", "(Z)Ljava/lang/Boolean;"⟩ : MethodName) (head1 (Jvm.Cond.code (⟨"java/lang/Boolean", "valueOf", "(Z)Ljava/lang/Boolean;"⟩ : MethodName) jdk_2055_method_5_code 1 (some (.object "java/lang/Boolean")) :: ws) ({ frames := 0, cells := 0, slots := 0, locals := 0 } : Room)) (fun a U => a = #[(.int (1 : Int32))] ∧ Z.Warmed39 U.vm ∧ U.heap = h0) (fun _ _ _ _ _ => True) (fun _ U o U' => ∃ v L, o = .returned v ∧ QrBv Z tb h0 n0 v U'.heap L ∧ FrameEnd U o U' L ({ frames := 0, cells := 0, slots := 0, locals := 0 } : Room).cells ({ frames := 0, cells := 0, slots := 0, locals := 0 } : Room).slots) := by
  refine MetFree.of_bodySF (plainFor_of_name pn_47) hisR ?_
  intro p e s m args below meth c s₁ Bd hml0 hP hK
  obtain ⟨rfl, hZ, hh⟩ := hP
  have hx := Bd.exec
  have hby := Bd.bytes
  have hml : c.maxLocals = 1 := hml0
  have hown : s.vm.findClass "java/lang/Boolean" = some m.cls := findClass_of_methodNamed Bd.named
  have hnm := (name_of_methodNamed Bd.named Bd.method).1
  have X0 : Stand p l e ({ frames := 0, cells := 0, slots := 0, locals := 0 } : Room) s m #[(.int (1 : Int32))] below meth c s₁ [] 0 0 := Stand.of_body Bd
  have e0 : s₁.heap = h0 := by rw [← hh, Bd.state]; rfl
  have N0 := Fr.nil n0
  have pre0 : ∀ t, Steps p.tables e below (s₁.setTop (mkF m 0 #[.val (.int (1 : Int32))] [])) t → Steps p.tables e below (s₁.setTop (entryFrame m #[(.int (1 : Int32))] 1)) t := fun t k => castTop (ef_rBv m ) k
  obtain ⟨T1, X1, e1, st1⟩ := getS2 X0 hx hZ hown (host := "") (Or.inl (hw _ (own_w 255 rfl))) Via.refl e0 (O_BT.ext X00.2) (g := (mkF m 4 #[.val (.int (1 : Int32))] [])) rfl (hb hby d47_4)
  obtain ⟨fs, hr, hrun, hended, hW, hsame⟩ := X1.leave (v := some (.ref tb)) (fun h => by rw [Bd.returns] at h; cases h) (BodyLoose.notSynchronized Bd)
  refine ⟨_, _, pre0 _ ?_, hrun, hended, _, _, rfl, ?_, ⟨_, rfl⟩, hW, hsame.mono (by decide) (by decide)⟩
  · show Steps p.tables e below (s₁.setTop (mkF m 0 #[.val (.int (1 : Int32))] [])) _
    refine XS.iloadN X0.here hx rfl (hb hby d47_0) rfl ?_
    refine XS.ifNo X0.here hx rfl (hb hby d47_1) rfl ((if0 _ _).trans (feq (by decide)).1) ?_
    refine st1 _ ?_
    refine XS.goto X1.here hx rfl (pc0 := 7) (pc' := 13) rfl (hb hby d47_7) (by decide) (by decide) ?_
    show Steps p.tables e below (T1.setTop (mkF m 13 #[.val (.int (1 : Int32))] [(.ref tb)])) _
    exact X1.areturnOut hx rfl Bd.returns rfl (hb hby d47_13) hr
  · show QrBv Z tb h0 n0 _ T1.heap _
    exact ⟨rfl, N0, e1⟩
theorem d46_0 : decode jdk_32_method_7_code 0 = .ok (.aload_n 0, 1) := by decide +kernel
theorem d46_1 : decode jdk_32_method_7_code 1 = .ok (.getfield 13, 3) := by decide +kernel
theorem d46_4 : decode jdk_32_method_7_code 4 = .ok (.ifnonnull 7, 3) := by decide +kernel
theorem d46_7 : decode jdk_32_method_7_code 7 = .ok (.iconst 1, 1) := by decide +kernel
theorem d46_8 : decode jdk_32_method_7_code 8 = .ok (.goto 4, 3) := by decide +kernel
theorem d46_12 : decode jdk_32_method_7_code 12 = .ok (.ireturn, 1) := by decide +kernel
theorem pn_46 : plainName "java/util/Optional" = true := by first | (simp [plainName, overriddenIn]; done) | decide +kernel
theorem ef_rOi (m : MethodId) (a1 : Addr) : entryFrame m #[(.ref a1)] 1 = mkF m 0 #[.val (.ref a1)] [] := by first | (simp [entryFrame, mkF, argsToLocals, Value.category]; done) | rfl
def QrOi (Z : State) (a1 : Addr) (h0 : Heap) (n0 : Nat) (v : Option Value) (h : Heap) (L : List Loc) : Prop := ∃ z : Int32, z = ((1 : Int32)) ∧ v = some (.int z) ∧ Fr n0 L ∧ h = h0
set_option maxRecDepth 65536 in
set_option maxHeartbeats 40000000 in
theorem rOi (l : Launch) (Z : State) (a0 : Array Value) (hw : ∀ d ∈ tables_1, d.before a0 Z = true) (ws : List Jvm.Cond) (a1 : Addr) (h0 : Heap) (n0 : Nat) (Z0 : n0 ≤ h0.size) (FV : Fld Z h0 a1 "java/util/Optional" "value" "Ljava/lang/Object;" .null) :
    MetFree l (⟨"java/util/Optional", "isEmpty", "()Z"⟩ : MethodName) (head1 (Jvm.Cond.code (⟨"java/util/Optional", "isEmpty", "()Z"⟩ : MethodName) jdk_32_method_7_code 1 (some .boolean) :: ws) ({ frames := 0, cells := 0, slots := 0, locals := 0 } : Room)) (fun a U => a = #[(.ref a1)] ∧ Z.Warmed39 U.vm ∧ U.heap = h0) (fun _ _ _ _ _ => True) (fun _ U o U' => ∃ v L, o = .returned v ∧ QrOi Z a1 h0 n0 v U'.heap L ∧ FrameEnd U o U' L ({ frames := 0, cells := 0, slots := 0, locals := 0 } : Room).cells ({ frames := 0, cells := 0, slots := 0, locals := 0 } : Room).slots) := by
  refine MetFree.of_bodySF (plainFor_of_name pn_46) hisR ?_
  intro p e s m args below meth c s₁ Bd hml0 hP hK
  obtain ⟨rfl, hZ, hh⟩ := hP
  have hx := Bd.exec
  have hby := Bd.bytes
  have hml : c.maxLocals = 1 := hml0
  have hown : s.vm.findClass "java/util/Optional" = some m.cls := findClass_of_methodNamed Bd.named
  have hnm := (name_of_methodNamed Bd.named Bd.method).1
  have X0 : Stand p l e ({ frames := 0, cells := 0, slots := 0, locals := 0 } : Room) s m #[(.ref a1)] below meth c s₁ [] 0 0 := Stand.of_body Bd
  have e0 : s₁.heap = h0 := by rw [← hh, Bd.state]; rfl
  have N0 := Fr.nil n0
  have pre0 : ∀ t, Steps p.tables e below (s₁.setTop (mkF m 0 #[.val (.ref a1)] [])) t → Steps p.tables e below (s₁.setTop (entryFrame m #[(.ref a1)] 1)) t := fun t k => castTop (ef_rOi m a1) k
  obtain ⟨T1, X1, e1, st1⟩ := getF X0 hx hZ hown (host := "") (Or.inl (hw _ (own_w 248 rfl))) Via.refl e0 FV (g := (mkF m 1 #[.val (.ref a1)] [(.ref a1)])) rfl rfl (hb hby d46_1)
  obtain ⟨fs, hr, hrun, hended, hW, hsame⟩ := X1.leave (v := some (.int (1 : Int32))) (fun h => by rw [Bd.returns] at h; cases h) (BodyLoose.notSynchronized Bd)
  refine ⟨_, _, pre0 _ ?_, hrun, hended, _, _, rfl, ?_, ⟨_, rfl⟩, hW, hsame.mono (by decide) (by decide)⟩
  · show Steps p.tables e below (s₁.setTop (mkF m 0 #[.val (.ref a1)] [])) _
    refine XS.aloadN X0.here hx rfl (hb hby d46_0) rfl rfl ?_
    refine st1 _ ?_
    refine XS.ifnonnullNo X1.here hx rfl (hb hby d46_4) rfl ?_
    refine XS.iconst X1.here hx rfl (hb hby d46_7) ?_
    refine XS.goto X1.here hx rfl (pc0 := 8) (pc' := 12) rfl (hb hby d46_8) (by decide) (by decide) ?_
    show Steps p.tables e below (T1.setTop (mkF m 12 #[.val (.ref a1)] [(.int (1 : Int32))])) _
    exact retN X1 hx (t := .boolean) Bd.returns (by simp) (hb hby d46_12) hr
  · show QrOi Z a1 h0 n0 _ T1.heap _
    exact ⟨_, rfl, rfl, N0, e1⟩
theorem pd_21 : parseMethodDescriptor "(Ljava/lang/Object;)Ljava/lang/Object;" = some ⟨[(.object "java/lang/Object")], some (.object "java/lang/Object")⟩ := by decide +kernel
theorem pd_22 : parseMethodDescriptor "()Ljava/util/Optional;" = some ⟨[], some (.object "java/util/Optional")⟩ := by decide +kernel
theorem d44_0 : decode jdk_32_method_11_code 0 = .ok (.aload_n 1, 1) := by decide +kernel
theorem d44_1 : decode jdk_32_method_11_code 1 = .ok (.invokestatic 17, 3) := by decide +kernel
theorem d44_4 : decode jdk_32_method_11_code 4 = .ok (.pop, 1) := by decide +kernel
theorem d44_5 : decode jdk_32_method_11_code 5 = .ok (.aload_n 0, 1) := by decide +kernel
theorem d44_6 : decode jdk_32_method_11_code 6 = .ok (.invokevirtual 43, 3) := by decide +kernel
theorem d44_9 : decode jdk_32_method_11_code 9 = .ok (.ifCond .eq 7, 3) := by decide +kernel
theorem d44_12 : decode jdk_32_method_11_code 12 = .ok (.invokestatic 53, 3) := by decide +kernel
theorem d44_15 : decode jdk_32_method_11_code 15 = .ok (.areturn, 1) := by decide +kernel
theorem pn_44 : plainName "java/util/Optional" = true := by first | (simp [plainName, overriddenIn]; done) | decide +kernel
theorem ef_rOm (m : MethodId) (a1 : Addr) (a2 : Addr) : entryFrame m #[(.ref a1), (.ref a2)] 2 = mkF m 0 #[.val (.ref a1), .val (.ref a2)] [] := by first | (simp [entryFrame, mkF, argsToLocals, Value.category]; done) | rfl
def QrOm (Z : State) (a1 : Addr) (a2 : Addr) (eo : Addr) (h0 : Heap) (n0 : Nat) (v : Option Value) (h : Heap) (L : List Loc) : Prop := v = some (.ref eo) ∧ Fr n0 L ∧ h = h0
set_option maxRecDepth 65536 in
set_option maxHeartbeats 40000000 in
theorem rOm (l : Launch) (Z : State) (a0 : Array Value) (hw : ∀ d ∈ tables_1, d.before a0 Z = true) (ws : List Jvm.Cond) (a1 : Addr) (a2 : Addr) (eo : Addr) (h0 : Heap) (n0 : Nat) (Z0 : n0 ≤ h0.size) (X00 : Old Z n0 h0) (O_E : Sta Z Z.heap "java/util/Optional" "EMPTY" "Ljava/util/Optional;" (.ref eo)) (EO : Exa Z h0 a1 "java/util/Optional") (FV : Fld Z h0 a1 "java/util/Optional" "value" "Ljava/lang/Object;" .null) :
    MetFree l (⟨"java/util/Optional", "map", "(Ljava/util/function/Function;)Ljava/util/Optional;"⟩ : MethodName) (head1 (Jvm.Cond.code (⟨"java/util/Optional", "map", "(Ljava/util/function/Function;)Ljava/util/Optional;"⟩ : MethodName) jdk_32_method_11_code 2 (some (.object "java/util/Optional")) :: ws) ({ frames := 1, cells := 0, slots := 0, locals := 12 } : Room)) (fun a U => a = #[(.ref a1), (.ref a2)] ∧ Z.Warmed39 U.vm ∧ U.heap = h0) (fun _ _ _ _ _ => True) (fun _ U o U' => ∃ v L, o = .returned v ∧ QrOm Z a1 a2 eo h0 n0 v U'.heap L ∧ FrameEnd U o U' L ({ frames := 1, cells := 0, slots := 0, locals := 12 } : Room).cells ({ frames := 1, cells := 0, slots := 0, locals := 12 } : Room).slots) := by
  refine MetFree.of_bodySF (plainFor_of_name pn_44) hisR ?_
  intro p e s m args below meth c s₁ Bd hml0 hP hK
  obtain ⟨rfl, hZ, hh⟩ := hP
  have hx := Bd.exec
  have hby := Bd.bytes
  have hml : c.maxLocals = 2 := hml0
  have hown : s.vm.findClass "java/util/Optional" = some m.cls := findClass_of_methodNamed Bd.named
  have hnm := (name_of_methodNamed Bd.named Bd.method).1
  have X0 : Stand p l e ({ frames := 1, cells := 0, slots := 0, locals := 12 } : Room) s m #[(.ref a1), (.ref a2)] below meth c s₁ [] 0 0 := Stand.of_body Bd
  have e0 : s₁.heap = h0 := by rw [← hh, Bd.state]; rfl
  have N0 := Fr.nil n0
  have pre0 : ∀ t, Steps p.tables e below (s₁.setTop (mkF m 0 #[.val (.ref a1), .val (.ref a2)] [])) t → Steps p.tables e below (s₁.setTop (entryFrame m #[(.ref a1), (.ref a2)] 2)) t := fun t k => castTop (ef_rOm m a1 a2) k
  obtain ⟨_, _, ⟨T1, Lq1, kq1, nq1⟩, -, X1, ⟨Lc1, hQ1, lq1, yq1, zq1⟩, st1⟩ := Jvm.LawKit.callS X0 hx (y := (⟨"java/util/Objects", "requireNonNull", "(Ljava/lang/Object;)Ljava/lang/Object;"⟩ : MethodName)) hown (mvT hZ (hw _ (own_w 240 rfl))) (mvT hZ (hw _ (own_w 241 rfl))) (mvT hZ (hw _ (own_w 34 rfl))) (mvT hZ (hw _ (own_w 242 rfl))) (by decide) (backOf (W := 0) (rR1 l Z a0 hw [] a2  h0 n0 Z0 ) hZ (hw _ (own_w 242 rfl)) (hw _ (own_w 34 rfl)) (by decide) (by decide)) (g := (mkF m 1 #[.val (.ref a1), .val (.ref a2)] [(.ref a2)])) rfl (by rw [hml]; rfl) (argsL := [(.ref a2)]) (rest := []) (lenOf pd_21 rfl) rfl (by show 2 * 0 + _ ≤ _; exact Nat.le_of_eq rfl) (hb hby d44_1) (fun _ _ => ⟨rfl, e0, (by decide : 0 + 0 ≤ _), (by decide : 0 + 0 ≤ _)⟩)
  dsimp only [Pt.U, Pt.locs, Pt.cells, Pt.slots] at X1 lq1 yq1 zq1 st1 hQ1
  subst lq1 yq1 zq1
  obtain ⟨rfl, N1q, e1⟩ := hQ1
  have N1 := Fr.app N0 N1q
  obtain ⟨cq2, kz2, q2a, q2b, q2c⟩ := isOf hZ e1 EO
  obtain ⟨_, _, ⟨T2, Lq2, kq2, nq2⟩, -, X2, ⟨Lc2, hQ2, lq2, yq2, zq2⟩, st2⟩ := X1.virtualBack hx (y := (⟨"java/util/Optional", "isEmpty", "()Z"⟩ : MethodName)) (z := (⟨"java/util/Optional", "isEmpty", "()Z"⟩ : MethodName)) hown (mvT hZ (hw _ (own_w 243 rfl))) (mvT hZ (hw _ (own_w 244 rfl))) (notFace_of_selects (args := #[]) (mvT hZ (hw _ (own_w 246 rfl)))) (mvT hZ (hw _ (own_w 246 rfl))) (mvT hZ (hw _ (own_w 245 rfl))) (by decide) (backOf (W := 0) (rOi l Z a0 hw [] a1  h0 n0 Z0 FV) hZ (hw _ (own_w 247 rfl)) (hw _ (own_w 17 rfl)) (by decide) (by decide)) q2a q2c (g := (mkF m 6 #[.val (.ref a1), .val (.ref a2)] [(.ref a1)])) rfl (by rw [hml]; rfl) (Steps.refl _) (argsL := []) (rest := []) (lenOf pd_14 rfl) rfl (by show 2 * 0 + _ ≤ _; exact Nat.le_of_eq rfl) (hb hby d44_6) (fun _ _ => ⟨rfl, e1, (by decide : 0 + 0 ≤ _), (by decide : 0 + 0 ≤ _)⟩)
  dsimp only [Pt.U, Pt.locs, Pt.cells, Pt.slots] at X2 lq2 yq2 zq2 st2 hQ2
  subst lq2 yq2 zq2
  obtain ⟨r2, hr2, rfl, N2q, e2⟩ := hQ2
  have N2 := Fr.app N1 N2q
  subst hr2
  obtain ⟨_, _, ⟨T3, Lq3, kq3, nq3⟩, -, X3, ⟨Lc3, hQ3, lq3, yq3, zq3⟩, st3⟩ := Jvm.LawKit.callS X2 hx (y := (⟨"java/util/Optional", "empty", "()Ljava/util/Optional;"⟩ : MethodName)) hown (mvT hZ (hw _ (own_w 250 rfl))) (mvT hZ (hw _ (own_w 16 rfl))) (mvT hZ (hw _ (own_w 17 rfl))) (mvT hZ (hw _ (own_w 18 rfl))) (by decide) (backOf (W := 0) (rOe l Z a0 hw []  eo h0 n0 Z0 X00 O_E) hZ (hw _ (own_w 18 rfl)) (hw _ (own_w 17 rfl)) (by decide) (by decide)) (g := (mkF m 12 #[.val (.ref a1), .val (.ref a2)] [])) rfl (by rw [hml]; rfl) (argsL := []) (rest := []) (lenOf pd_22 rfl) rfl (by show 2 * 0 + _ ≤ _; exact Nat.le_of_eq rfl) (hb hby d44_12) (fun _ _ => ⟨rfl, e2, (by decide : 0 + 0 ≤ _), (by decide : 0 + 0 ≤ _)⟩)
  dsimp only [Pt.U, Pt.locs, Pt.cells, Pt.slots] at X3 lq3 yq3 zq3 st3 hQ3
  subst lq3 yq3 zq3
  obtain ⟨rfl, N3q, e3⟩ := hQ3
  have N3 := Fr.app N2 N3q
  obtain ⟨fs, hr, hrun, hended, hW, hsame⟩ := X3.leave (v := some (.ref eo)) (fun h => by rw [Bd.returns] at h; cases h) (BodyLoose.notSynchronized Bd)
  refine ⟨_, _, pre0 _ ?_, hrun, hended, _, _, rfl, ?_, ⟨_, rfl⟩, hW, hsame.mono (by decide) (by decide)⟩
  · show Steps p.tables e below (s₁.setTop (mkF m 0 #[.val (.ref a1), .val (.ref a2)] [])) _
    refine XS.aloadN X0.here hx rfl (hb hby d44_0) rfl rfl ?_
    refine st1 _ ?_
    refine XS.pop X1.here hx rfl (hb hby d44_4) rfl rfl ?_
    refine XS.aloadN X1.here hx rfl (hb hby d44_5) rfl rfl ?_
    refine st2.trans ?_
    refine XS.ifNo X2.here hx rfl (hb hby d44_9) rfl ((if0 _ _).trans (feq (by decide)).1) ?_
    refine st3 _ ?_
    show Steps p.tables e below (T3.setTop (mkF m 15 #[.val (.ref a1), .val (.ref a2)] [(.ref eo)])) _
    exact X3.areturnOut hx rfl Bd.returns rfl (hb hby d44_15) hr
  · show QrOm Z a1 a2 eo h0 n0 _ T3.heap _
    exact ⟨rfl, N3, e3⟩
theorem d48_0 : decode jdk_32_method_15_code 0 = .ok (.aload_n 0, 1) := by decide +kernel
theorem d48_1 : decode jdk_32_method_15_code 1 = .ok (.getfield 13, 3) := by decide +kernel
theorem d48_4 : decode jdk_32_method_15_code 4 = .ok (.ifnull 10, 3) := by decide +kernel
theorem d48_14 : decode jdk_32_method_15_code 14 = .ok (.aload_n 1, 1) := by decide +kernel
theorem d48_15 : decode jdk_32_method_15_code 15 = .ok (.areturn, 1) := by decide +kernel
theorem pn_48 : plainName "java/util/Optional" = true := by first | (simp [plainName, overriddenIn]; done) | decide +kernel
theorem ef_rOo (m : MethodId) (a1 : Addr) (a2 : Addr) : entryFrame m #[(.ref a1), (.ref a2)] 2 = mkF m 0 #[.val (.ref a1), .val (.ref a2)] [] := by first | (simp [entryFrame, mkF, argsToLocals, Value.category]; done) | rfl
def QrOo (Z : State) (a1 : Addr) (a2 : Addr) (h0 : Heap) (n0 : Nat) (v : Option Value) (h : Heap) (L : List Loc) : Prop := v = some (.ref a2) ∧ Fr n0 L ∧ h = h0
set_option maxRecDepth 65536 in
set_option maxHeartbeats 40000000 in
theorem rOo (l : Launch) (Z : State) (a0 : Array Value) (hw : ∀ d ∈ tables_1, d.before a0 Z = true) (ws : List Jvm.Cond) (a1 : Addr) (a2 : Addr) (h0 : Heap) (n0 : Nat) (Z0 : n0 ≤ h0.size) (FV : Fld Z h0 a1 "java/util/Optional" "value" "Ljava/lang/Object;" .null) :
    MetFree l (⟨"java/util/Optional", "orElse", "(Ljava/lang/Object;)Ljava/lang/Object;"⟩ : MethodName) (head1 (Jvm.Cond.code (⟨"java/util/Optional", "orElse", "(Ljava/lang/Object;)Ljava/lang/Object;"⟩ : MethodName) jdk_32_method_15_code 2 (some (.object "java/lang/Object")) :: ws) ({ frames := 0, cells := 0, slots := 0, locals := 0 } : Room)) (fun a U => a = #[(.ref a1), (.ref a2)] ∧ Z.Warmed39 U.vm ∧ U.heap = h0) (fun _ _ _ _ _ => True) (fun _ U o U' => ∃ v L, o = .returned v ∧ QrOo Z a1 a2 h0 n0 v U'.heap L ∧ FrameEnd U o U' L ({ frames := 0, cells := 0, slots := 0, locals := 0 } : Room).cells ({ frames := 0, cells := 0, slots := 0, locals := 0 } : Room).slots) := by
  refine MetFree.of_bodySF (plainFor_of_name pn_48) hisR ?_
  intro p e s m args below meth c s₁ Bd hml0 hP hK
  obtain ⟨rfl, hZ, hh⟩ := hP
  have hx := Bd.exec
  have hby := Bd.bytes
  have hml : c.maxLocals = 2 := hml0
  have hown : s.vm.findClass "java/util/Optional" = some m.cls := findClass_of_methodNamed Bd.named
  have hnm := (name_of_methodNamed Bd.named Bd.method).1
  have X0 : Stand p l e ({ frames := 0, cells := 0, slots := 0, locals := 0 } : Room) s m #[(.ref a1), (.ref a2)] below meth c s₁ [] 0 0 := Stand.of_body Bd
  have e0 : s₁.heap = h0 := by rw [← hh, Bd.state]; rfl
  have N0 := Fr.nil n0
  have pre0 : ∀ t, Steps p.tables e below (s₁.setTop (mkF m 0 #[.val (.ref a1), .val (.ref a2)] [])) t → Steps p.tables e below (s₁.setTop (entryFrame m #[(.ref a1), (.ref a2)] 2)) t := fun t k => castTop (ef_rOo m a1 a2) k
  obtain ⟨T1, X1, e1, st1⟩ := getF X0 hx hZ hown (host := "") (Or.inl (hw _ (own_w 248 rfl))) Via.refl e0 FV (g := (mkF m 1 #[.val (.ref a1), .val (.ref a2)] [(.ref a1)])) rfl rfl (hb hby d48_1)
  obtain ⟨fs, hr, hrun, hended, hW, hsame⟩ := X1.leave (v := some (.ref a2)) (fun h => by rw [Bd.returns] at h; cases h) (BodyLoose.notSynchronized Bd)
  refine ⟨_, _, pre0 _ ?_, hrun, hended, _, _, rfl, ?_, ⟨_, rfl⟩, hW, hsame.mono (by decide) (by decide)⟩
  · show Steps p.tables e below (s₁.setTop (mkF m 0 #[.val (.ref a1), .val (.ref a2)] [])) _
    refine XS.aloadN X0.here hx rfl (hb hby d48_0) rfl rfl ?_
    refine st1 _ ?_
    refine XS.ifnullYes X1.here hx rfl (pc0 := 4) (pc' := 14) rfl (hb hby d48_4) rfl (by decide) (by decide) ?_
    refine XS.aloadN X1.here hx rfl (hb hby d48_14) rfl rfl ?_
    show Steps p.tables e below (T1.setTop (mkF m 15 #[.val (.ref a1), .val (.ref a2)] [(.ref a2)])) _
    exact X1.areturnOut hx rfl Bd.returns rfl (hb hby d48_15) hr
  · show QrOo Z a1 a2 h0 n0 _ T1.heap _
    exact ⟨rfl, N0, e1⟩
theorem d49_0 : decode jdk_2055_method_4_code 0 = .ok (.aload_n 0, 1) := by decide +kernel
theorem d49_1 : decode jdk_2055_method_4_code 1 = .ok (.getfield 7, 3) := by decide +kernel
theorem d49_4 : decode jdk_2055_method_4_code 4 = .ok (.ireturn, 1) := by decide +kernel
theorem pn_49 : plainName "java/lang/Boolean" = true := by first | (simp [plainName, overriddenIn]; done) | decide +kernel
theorem ef_rBb (m : MethodId) (a1 : Addr) : entryFrame m #[(.ref a1)] 1 = mkF m 0 #[.val (.ref a1)] [] := by first | (simp [entryFrame, mkF, argsToLocals, Value.category]; done) | rfl
def QrBb (Z : State) (a1 : Addr) (h0 : Heap) (n0 : Nat) (v : Option Value) (h : Heap) (L : List Loc) : Prop := ∃ z : Int32, z = ((1 : Int32)) ∧ v = some (.int z) ∧ Fr n0 L ∧ h = h0
set_option maxRecDepth 65536 in
set_option maxHeartbeats 40000000 in
theorem rBb (l : Launch) (Z : State) (a0 : Array Value) (hw : ∀ d ∈ tables_1, d.before a0 Z = true) (ws : List Jvm.Cond) (a1 : Addr) (h0 : Heap) (n0 : Nat) (Z0 : n0 ≤ h0.size) (FV : Fld Z h0 a1 "java/lang/Boolean" "value" "Z" (.int (1 : Int32))) :
    MetFree l (⟨"java/lang/Boolean", "booleanValue", "()Z"⟩ : MethodName) (head1 (Jvm.Cond.code (⟨"java/lang/Boolean", "booleanValue", "()Z"⟩ : MethodName) jdk_2055_method_4_code 1 (some .boolean) :: ws) ({ frames := 0, cells := 0, slots := 0, locals := 0 } : Room)) (fun a U => a = #[(.ref a1)] ∧ Z.Warmed39 U.vm ∧ U.heap = h0) (fun _ _ _ _ _ => True) (fun _ U o U' => ∃ v L, o = .returned v ∧ QrBb Z a1 h0 n0 v U'.heap L ∧ FrameEnd U o U' L ({ frames := 0, cells := 0, slots := 0, locals := 0 } : Room).cells ({ frames := 0, cells := 0, slots := 0, locals := 0 } : Room).slots) := by
  refine MetFree.of_bodySF (plainFor_of_name pn_49) hisR ?_
  intro p e s m args below meth c s₁ Bd hml0 hP hK
  obtain ⟨rfl, hZ, hh⟩ := hP
  have hx := Bd.exec
  have hby := Bd.bytes
  have hml : c.maxLocals = 1 := hml0
  have hown : s.vm.findClass "java/lang/Boolean" = some m.cls := findClass_of_methodNamed Bd.named
  have hnm := (name_of_methodNamed Bd.named Bd.method).1
  have X0 : Stand p l e ({ frames := 0, cells := 0, slots := 0, locals := 0 } : Room) s m #[(.ref a1)] below meth c s₁ [] 0 0 := Stand.of_body Bd
  have e0 : s₁.heap = h0 := by rw [← hh, Bd.state]; rfl
  have N0 := Fr.nil n0
  have pre0 : ∀ t, Steps p.tables e below (s₁.setTop (mkF m 0 #[.val (.ref a1)] [])) t → Steps p.tables e below (s₁.setTop (entryFrame m #[(.ref a1)] 1)) t := fun t k => castTop (ef_rBb m a1) k
  obtain ⟨T1, X1, e1, st1⟩ := getF X0 hx hZ hown (host := "") (Or.inl (hw _ (own_w 268 rfl))) Via.refl e0 FV (g := (mkF m 1 #[.val (.ref a1)] [(.ref a1)])) rfl rfl (hb hby d49_1)
  obtain ⟨fs, hr, hrun, hended, hW, hsame⟩ := X1.leave (v := some (.int (1 : Int32))) (fun h => by rw [Bd.returns] at h; cases h) (BodyLoose.notSynchronized Bd)
  refine ⟨_, _, pre0 _ ?_, hrun, hended, _, _, rfl, ?_, ⟨_, rfl⟩, hW, hsame.mono (by decide) (by decide)⟩
  · show Steps p.tables e below (s₁.setTop (mkF m 0 #[.val (.ref a1)] [])) _
    refine XS.aloadN X0.here hx rfl (hb hby d49_0) rfl rfl ?_
    refine st1 _ ?_
    show Steps p.tables e below (T1.setTop (mkF m 4 #[.val (.ref a1)] [(.int (1 : Int32))])) _
    exact retN X1 hx (t := .boolean) Bd.returns (by simp) (hb hby d49_4) hr
  · show QrBb Z a1 h0 n0 _ T1.heap _
    exact ⟨_, rfl, rfl, N0, e1⟩
theorem pd_23 : parseMethodDescriptor "()V" = some ⟨[], none⟩ := by decide +kernel
theorem own_om0 (mz : Nat) (hw6 : mz ≤ 5) (hw0 : 0 < mz) : 16 < 60 := by omega
theorem own_om1 (mz : Nat) (hw6 : mz ≤ 5) (hw0 : 0 < mz) : 0 < 1000 := by omega
theorem own_om2 (mz : Nat) (hw6 : mz ≤ 5) (hw0 : 0 < mz) : (16) < 1000 := by omega
theorem own_om3 (mz : Nat) (hw6 : mz ≤ 5) (hw0 : 0 < mz) : 0 + (16) ≤ 16 := by omega
theorem own_om4 (mz : Nat) (hw6 : mz ≤ 5) (hw0 : 0 < mz) : 0 + (16) < 1000 := by omega
theorem pd_24 : parseMethodDescriptor "(Ljava/lang/String;)Ljava/lang/StringBuilder;" = some ⟨[(.object "java/lang/String")], some (.object "java/lang/StringBuilder")⟩ := by decide +kernel
theorem own_om5 (mz : Nat) (hw6 : mz ≤ 5) (hw0 : 0 < mz) : (0 + (16)) < 1000 := by omega
theorem own_om6 (mz : Nat) (hw6 : mz ≤ 5) (hw0 : 0 < mz) : (mz) < 1000 := by omega
theorem own_om7 (mz : Nat) (hw6 : mz ≤ 5) (hw0 : 0 < mz) : 16 < (0 + (16)) + (mz) := by omega
theorem own_om8 (mz : Nat) (hw6 : mz ≤ 5) (hw0 : 0 < mz) : (0 + (16)) + (mz) - 16 ≤ 16 + 2 := by omega
theorem own_om9 (mz : Nat) (hw6 : mz ≤ 5) (hw0 : 0 < mz) : (0 + (16)) + (mz) < 1000 := by omega
theorem own_om10 (mz : Nat) (hw6 : mz ≤ 5) (hw0 : 0 < mz) : ((0 + (16)) + (mz)) < (16 + (16 + 2)) := by omega
theorem own_om11 (mz : Nat) (hw6 : mz ≤ 5) (hw0 : 0 < mz) : (16 + (16 + 2)) < 128 := by omega
theorem pd_25 : parseMethodDescriptor "()Ljava/lang/String;" = some ⟨[], some (.object "java/lang/String")⟩ := by decide +kernel
theorem pd_26 : parseMethodDescriptor "(D)Z" = some ⟨[.double], some .boolean⟩ := by decide +kernel
theorem own_om12 (mz : Nat) (hw6 : mz ≤ 5) (hw0 : 0 < mz) : (((0 + (16)) + (mz))) < 1000 := by omega
theorem own_om13 (mz : Nat) (hw6 : mz ≤ 5) (hw0 : 0 < mz) : 16 < 0 + (((0 + (16)) + (mz))) := by omega
theorem own_om14 (mz : Nat) (hw6 : mz ≤ 5) (hw0 : 0 < mz) : 0 + (((0 + (16)) + (mz))) - 16 ≤ 16 + 2 := by omega
theorem own_om15 (mz : Nat) (hw6 : mz ≤ 5) (hw0 : 0 < mz) : 0 + (((0 + (16)) + (mz))) < 1000 := by omega
theorem own_om16 (mz : Nat) (hw6 : mz ≤ 5) (hw0 : 0 < mz) : (16 + (16 + 2)) < 60 := by omega
theorem own_om17 (mz : Nat) (hw6 : mz ≤ 5) (hw0 : 0 < mz) : (0 + (((0 + (16)) + (mz)))) < 1000 := by omega
theorem own_om18 (mz : Nat) (hw6 : mz ≤ 5) (hw0 : 0 < mz) : (23) < 1000 := by omega
theorem own_om19 (mz : Nat) (hw6 : mz ≤ 5) (hw0 : 0 < mz) : (16 + (16 + 2)) < (0 + (((0 + (16)) + (mz)))) + (23) := by omega
theorem own_om20 (mz : Nat) (hw6 : mz ≤ 5) (hw0 : 0 < mz) : (0 + (((0 + (16)) + (mz)))) + (23) - (16 + (16 + 2)) ≤ (16 + (16 + 2)) + 2 := by omega
theorem own_om21 (mz : Nat) (hw6 : mz ≤ 5) (hw0 : 0 < mz) : (0 + (((0 + (16)) + (mz)))) + (23) < 1000 := by omega
theorem own_om22 (mz : Nat) (hw6 : mz ≤ 5) (hw0 : 0 < mz) : ((0 + (((0 + (16)) + (mz)))) + (23)) < ((16 + (16 + 2)) + ((16 + (16 + 2)) + 2)) := by omega
theorem own_om23 (mz : Nat) (hw6 : mz ≤ 5) (hw0 : 0 < mz) : ((16 + (16 + 2)) + ((16 + (16 + 2)) + 2)) < 128 := by omega
theorem pd_27 : parseMethodDescriptor "(ZLjava/lang/String;Ljava/lang/String;)V" = some ⟨[.boolean, (.object "java/lang/String"), (.object "java/lang/String")], none⟩ := by decide +kernel
theorem own_om24 (mz : Nat) (hw6 : mz ≤ 5) (hw0 : 0 < mz) : (12) < 1000 := by omega
theorem own_om25 (mz : Nat) (hw6 : mz ≤ 5) (hw0 : 0 < mz) : (0 + (((0 + (16)) + (mz)))) + (12) ≤ (16 + (16 + 2)) := by omega
theorem own_om26 (mz : Nat) (hw6 : mz ≤ 5) (hw0 : 0 < mz) : (0 + (((0 + (16)) + (mz)))) + (12) < 1000 := by omega
theorem own_om27 (mz : Nat) (hw6 : mz ≤ 5) (hw0 : 0 < mz) : ((0 + (((0 + (16)) + (mz)))) + (12)) < (16 + (16 + 2)) := by omega
theorem d20_0 : decode prog_13_method_4_code 0 = .ok (.new 122, 3) := by decide +kernel
theorem d20_3 : decode prog_13_method_4_code 3 = .ok (.dup, 1) := by decide +kernel
theorem d20_4 : decode prog_13_method_4_code 4 = .ok (.invokespecial 124, 3) := by decide +kernel
theorem d20_7 : decode prog_13_method_4_code 7 = .ok (.ldc 125, 2) := by decide +kernel
theorem d20_9 : decode prog_13_method_4_code 9 = .ok (.invokevirtual 127, 3) := by decide +kernel
theorem d20_12 : decode prog_13_method_4_code 12 = .ok (.aload_n 3, 1) := by decide +kernel
theorem d20_13 : decode prog_13_method_4_code 13 = .ok (.invokevirtual 127, 3) := by decide +kernel
theorem d20_16 : decode prog_13_method_4_code 16 = .ok (.invokevirtual 131, 3) := by decide +kernel
theorem d20_19 : decode prog_13_method_4_code 19 = .ok (.astore 4, 2) := by decide +kernel
theorem d20_21 : decode prog_13_method_4_code 21 = .ok (.dload_n 0, 1) := by decide +kernel
theorem d20_22 : decode prog_13_method_4_code 22 = .ok (.invokestatic 32, 3) := by decide +kernel
theorem d20_25 : decode prog_13_method_4_code 25 = .ok (.aload_n 2, 1) := by decide +kernel
theorem d20_26 : decode prog_13_method_4_code 26 = .ok (.new 122, 3) := by decide +kernel
theorem d20_29 : decode prog_13_method_4_code 29 = .ok (.dup, 1) := by decide +kernel
theorem d20_30 : decode prog_13_method_4_code 30 = .ok (.invokespecial 124, 3) := by decide +kernel
theorem d20_33 : decode prog_13_method_4_code 33 = .ok (.aload 4, 2) := by decide +kernel
theorem d20_35 : decode prog_13_method_4_code 35 = .ok (.invokevirtual 127, 3) := by decide +kernel
theorem d20_38 : decode prog_13_method_4_code 38 = .ok (.ldc 135, 2) := by decide +kernel
theorem d20_40 : decode prog_13_method_4_code 40 = .ok (.invokevirtual 127, 3) := by decide +kernel
theorem d20_43 : decode prog_13_method_4_code 43 = .ok (.invokevirtual 131, 3) := by decide +kernel
theorem d20_46 : decode prog_13_method_4_code 46 = .ok (.invokestatic 40, 3) := by decide +kernel
theorem d20_49 : decode prog_13_method_4_code 49 = .ok (.dload_n 0, 1) := by decide +kernel
theorem d20_50 : decode prog_13_method_4_code 50 = .ok (.dconst 0, 1) := by decide +kernel
theorem d20_51 : decode prog_13_method_4_code 51 = .ok (.dcmp .l, 1) := by decide +kernel
theorem d20_52 : decode prog_13_method_4_code 52 = .ok (.ifCond .lt 7, 3) := by decide +kernel
theorem d20_55 : decode prog_13_method_4_code 55 = .ok (.iconst 1, 1) := by decide +kernel
theorem d20_56 : decode prog_13_method_4_code 56 = .ok (.goto 4, 3) := by decide +kernel
theorem d20_60 : decode prog_13_method_4_code 60 = .ok (.aload_n 2, 1) := by decide +kernel
theorem d20_61 : decode prog_13_method_4_code 61 = .ok (.new 122, 3) := by decide +kernel
theorem d20_64 : decode prog_13_method_4_code 64 = .ok (.dup, 1) := by decide +kernel
theorem d20_65 : decode prog_13_method_4_code 65 = .ok (.invokespecial 124, 3) := by decide +kernel
theorem d20_68 : decode prog_13_method_4_code 68 = .ok (.aload 4, 2) := by decide +kernel
theorem d20_70 : decode prog_13_method_4_code 70 = .ok (.invokevirtual 127, 3) := by decide +kernel
theorem d20_73 : decode prog_13_method_4_code 73 = .ok (.ldc 137, 2) := by decide +kernel
theorem d20_75 : decode prog_13_method_4_code 75 = .ok (.invokevirtual 127, 3) := by decide +kernel
theorem d20_78 : decode prog_13_method_4_code 78 = .ok (.invokevirtual 131, 3) := by decide +kernel
theorem d20_81 : decode prog_13_method_4_code 81 = .ok (.invokestatic 40, 3) := by decide +kernel
theorem d20_84 : decode prog_13_method_4_code 84 = .ok (.return_, 1) := by decide +kernel
theorem pn_20 : plainName "com/example/glidepath/glidepath/instance/Aircraft" = true := by first | (simp [plainName, overriddenIn]; done) | decide +kernel
theorem ef_rRr (m : MethodId) (f1 : UInt64) (a2 : Addr) (a3 : Addr) : entryFrame m #[(.double f1), (.ref a2), (.ref a3)] 5 = mkF m 0 #[.val (.double f1), .second, .val (.ref a2), .val (.ref a3), .unset] [] := by first | (simp [entryFrame, mkF, argsToLocals, Value.category]; done) | rfl
def QrRr (Z : State) (f1 : UInt64) (a2 : Addr) (a3 : Addr) (xa : Int64) (wb : Addr) (kw : ClassId) (mz : Nat) (wl : List Value) (G1 : Int32) (h0 : Heap) (n0 : Nat) (v : Option Value) (h : Heap) (L : List Loc) : Prop := v = none ∧ Fr n0 L ∧ Keep h0 h []
set_option maxRecDepth 65536 in
set_option maxHeartbeats 40000000 in
theorem rRr (l : Launch) (Z : State) (a0 : Array Value) (hw : ∀ d ∈ tables_1, d.before a0 Z = true) (ws : List Jvm.Cond) (f1 : UInt64) (a2 : Addr) (a3 : Addr) (xa : Int64) (wb : Addr) (kw : ClassId) (mz : Nat) (wl : List Value) (G1 : Int32) (h0 : Heap) (n0 : Nat) (Z0 : n0 ≤ h0.size) (hf : f1 = FP.l2d xa) (hrt : own_rate xa) (ES : Exa Z h0 a3 "java/lang/String") (SV : Fld Z h0 a3 "java/lang/String" "value" "[B" (.ref wb)) (SC : Fld Z h0 a3 "java/lang/String" "coder" "B" (.int (0 : Int32))) (AS : Arv Z h0 wb kw .byte (Int32.ofNat mz) (wl) (.int (0 : Int32))) (hm : mz < 1000) (hw6 : mz ≤ 5) (hw0 : 0 < mz) (X00 : Old Z n0 h0) (O_2 : Sta Z Z.heap "java/lang/String" "COMPACT_STRINGS" "Z" (.int G1)) (P5 : ¬ (G1 = (0 : Int32))) (hEL : EW Z a0 own_EL) :
    MetFree l (⟨"com/example/glidepath/glidepath/instance/Aircraft", "requireRate", "(DLjava/lang/String;Ljava/lang/String;)V"⟩ : MethodName) (head1 (Jvm.Cond.code (⟨"com/example/glidepath/glidepath/instance/Aircraft", "requireRate", "(DLjava/lang/String;Ljava/lang/String;)V"⟩ : MethodName) prog_13_method_4_code 5 none :: ws) ({ frames := 6, cells := 22, slots := 1184, locals := 93 } : Room)) (fun a U => a = #[(.double f1), (.ref a2), (.ref a3)] ∧ Z.Warmed39 U.vm ∧ U.heap = h0 ∧ CHv Z own_EL U.vm h0) (fun _ _ _ _ _ => True) (fun _ U o U' => ∃ v L, o = .returned v ∧ QrRr Z f1 a2 a3 xa wb kw mz wl G1 h0 n0 v U'.heap L ∧ CHr Z own_EL U.vm U.heap U'.vm U'.heap ∧ ReturnedEndW U o U' L ({ frames := 6, cells := 22, slots := 1184, locals := 93 } : Room).cells ({ frames := 6, cells := 22, slots := 1184, locals := 93 } : Room).slots) := by
  refine MetFree.of_bodySF (plainFor_of_name pn_20) hisR ?_
  intro p e s m args below meth c s₁ Bd hml0 hP hK
  obtain ⟨rfl, hZ, hh, hUZ⟩ := hP
  have hx := Bd.exec
  have hby := Bd.bytes
  have hml : c.maxLocals = 5 := hml0
  have hown : s.vm.findClass "com/example/glidepath/glidepath/instance/Aircraft" = some m.cls := findClass_of_methodNamed Bd.named
  have hnm := (name_of_methodNamed Bd.named Bd.method).1
  have X0 : Stand p l e ({ frames := 6, cells := 22, slots := 1184, locals := 93 } : Room) s m #[(.double f1), (.ref a2), (.ref a3)] below meth c s₁ [] 0 0 := Stand.of_body Bd
  have e0 : s₁.heap = h0 := by rw [← hh, Bd.state]; rfl
  have N0 := Fr.nil n0
  have pre0 : ∀ t, Steps p.tables e below (s₁.setTop (mkF m 0 #[.val (.double f1), .second, .val (.ref a2), .val (.ref a3), .unset] [])) t → Steps p.tables e below (s₁.setTop (entryFrame m #[(.double f1), (.ref a2), (.ref a3)] 5)) t := fun t k => castTop (ef_rRr m f1 a2 a3) k
  have hS0 : s.Since s.vm s.heap.size := (State.WarmedH.refl s).since _
  have CR0 := CHr.refl hUZ
  have wS : ∀ a ∈ Bundle.stringAtoms, a.before a0 Z = true := fun d hd => hw d ((by decide +kernel : ∀ d ∈ Bundle.stringAtoms, d ∈ tables_1) d hd)
  obtain ⟨T1, h1, X1, e1, E1, A1, D1, -, st1⟩ := newO X0 hx hZ hown (hw _ (own_w 109 rfl)) (hw _ (own_w 110 rfl)) (hw _ (own_w 111 rfl)) e0 (g := (mkF m 0 #[.val (.double (FP.l2d xa)), .second, .val (.ref a2), .val (.ref a3), .unset] [])) rfl (hb hby d20_0) (by decide) (by decide)
  obtain ⟨b1o, g1⟩ : ∃ z, z = h0.size := ⟨_, rfl⟩
  have b1 : n0 ≤ b1o := Nat.le_trans Z0 (Nat.le_of_eq g1.symm)
  have bk1 : h0.size ≤ b1o := Nat.le_trans (Keep.refl h0 []).1 (Nat.le_of_eq g1.symm)
  have ne2 : a3 ≠ b1o := Nat.ne_of_lt (Nat.lt_of_lt_of_le ES.lt (Nat.le_of_eq g1.symm))
  have ne3 : wb ≠ b1o := Nat.ne_of_lt (Nat.lt_of_lt_of_le AS.lt (Nat.le_of_eq g1.symm))
  rw [← g1] at A1 D1 st1
  have Z1 : n0 ≤ h1.size := Nat.le_trans Z0 E1.1
  have K1 : Keep h0 h1 [] := (Keep.refl h0 []).ext E1
  have F1_124 : Fld Z h1 b1o "java/lang/AbstractStringBuilder" "value" "[B" .null := D1 (Or.inl (hw _ (own_w 124 rfl))) (ty := (.array .byte)) (by decide)
  have F1_126 : Fld Z h1 b1o "java/lang/AbstractStringBuilder" "coder" "B" (.int (0 : Int32)) := D1 (Or.inl (hw _ (own_w 126 rfl))) (ty := .byte) (by decide)
  have F1_140 : Fld Z h1 b1o "java/lang/AbstractStringBuilder" "count" "I" (.int (0 : Int32)) := D1 (Or.inl (hw _ (own_w 140 rfl))) (ty := .int) (by decide)
  have CR4 := CR0.trans (CHr.ext E1 CR0.1)
  have f6 := (ES.ext E1)
  have f7 := (SV.ext E1)
  have f8 := (SC.ext E1)
  have f9 := (AS.ext E1)
  have f10 := (X00.ext E1)
  obtain ⟨_, _, ⟨T5, Lq5, kq5, nq5⟩, -, X5, ⟨Lc5, hQ5, lq5, yq5, zq5⟩, st5⟩ := X1.specialBack hx (y := (⟨"java/lang/StringBuilder", "<init>", "()V"⟩ : MethodName)) rfl hown (mvT hZ (hw _ (own_w 112 rfl))) (mvT hZ (hw _ (own_w 113 rfl))) (mvT hZ (hw _ (own_w 114 rfl))) (by decide) (backOf (W := 1) (rB0 l Z a0 hw [] b1o G1 h1 n0 Z1 f10 O_2 P5 A1 F1_124 F1_126 F1_140 b1) hZ (hw _ (own_w 114 rfl)) (hw _ (own_w 111 rfl)) (by decide) (by decide)) (g := (mkF m 4 #[.val (.double (FP.l2d xa)), .second, .val (.ref a2), .val (.ref a3), .unset] [(.ref b1o), (.ref b1o)])) rfl (by rw [hml]; rfl) (Steps.refl _) (a := b1o) (argsL := []) (rest := [(.ref b1o)]) (lenOf pd_23 rfl) rfl (by show 2 * 0 + _ ≤ _; exact Nat.le_of_eq rfl) (hb hby d20_4) (fun _ _ => ⟨rfl, e1, (by decide : 1 + 1 ≤ _), (by decide : 4 + 16 ≤ _)⟩)
  dsimp only [Pt.U, Pt.locs, Pt.cells, Pt.slots] at X5 lq5 yq5 zq5 st5 hQ5
  subst yq5 zq5
  replace X5 : Stand _ _ _ _ _ _ _ _ _ _ _ _ 2 20 := X5
  obtain ⟨vb5, kb5, rfl, N5q, KC5, gb5, gk5, nab5, E5', FV5', FC5', FN5', AV5'⟩ := hQ5
  have N5 : Fr n0 Lq5 := by rw [lq5]; exact Fr.app N0 N5q
  have Z5 : n0 ≤ T5.heap.size := Nat.le_trans Z1 KC5.1
  have ne11 : a3 ≠ vb5 := Nat.ne_of_lt (Nat.lt_of_lt_of_le f8.lt gk5)
  have ne12 : wb ≠ vb5 := Nat.ne_of_lt (Nat.lt_of_lt_of_le f9.lt gk5)
  have K5 : Keep h0 T5.heap [] := K1.trans KC5 (allS (Or.inr bk1) all0)
  have CR13 := CR4.trans (CHr.keep KC5 (sfS (Safe.exa (State.Warmed39.alike hZ) A1 (by decide) (by decide)) sf0) CR4.1)
  have SF14 := Safe.keep KC5 (sfS (Safe.exa (State.Warmed39.alike hZ) A1 (by decide) (by decide)) sf0) CR4.1 (Safe.new gk5)
  obtain ⟨sa15, T15, h15, k115, sb15, sk15, X15, e15, E15, hS15, hk15, hZ15, ho15, SE15, SC15, SV15, SA15, -, -, CC15, -, NE15, st15⟩ := ldcCH (s := s) (vm0 := s.vm) (Z := Z) (h := T5.heap) X5 hx hZ hown (hw _ (own_w 127 rfl)) wS rfl hS0 (Nat.le_trans (Nat.le_trans (Nat.le_of_eq (congrArg Array.size hh)) E1.1) KC5.1) hEL (own_w 2 rfl) CR13.1 (vs := [(.int (99 : Int32)), (.int (111 : Int32)), (.int (115 : Int32)), (.int (116 : Int32)), (.int (32 : Int32)), (.int (111 : Int32)), (.int (102 : Int32)), (.int (32 : Int32)), (.int (108 : Int32)), (.int (97 : Int32)), (.int (110 : Int32)), (.int (100 : Int32)), (.int (105 : Int32)), (.int (110 : Int32)), (.int (103 : Int32)), (.int (32 : Int32))]) (z := (16 : Int32)) ⟨by decide +kernel, by decide +kernel⟩ (by decide) (by decide) (g := (mkF m 7 #[.val (.double (FP.l2d xa)), .second, .val (.ref a2), .val (.ref a3), .unset] [(.ref b1o)])) rfl (hb hby d20_7) (n := 64) (by decide +kernel) (by decide) (by decide) (by decide)
  have CR15 := CR13.trans CC15
  have SF16 := CHr.safe CC15 AV5'.lt SF14
  have Z15 : n0 ≤ h15.size := Nat.le_trans Z5 E15.1
  have K15 : Keep h0 h15 [] := K5.ext E15
  replace X15 : Stand _ _ _ _ _ _ _ _ _ _ _ _ 4 88 := X15
  have f17 := (E5'.ext E15)
  have ns18 := NE15 _ (Safe.exa (State.Warmed39.alike hZ15) f17 (by decide) (by decide))
  have f20 := ((f6.keep KC5).ext E15)
  have f21 := ((f7.keep KC5 (ninS ne2 nin0)).ext E15)
  have f22 := ((f8.keep KC5 (ninS ne2 nin0)).ext E15)
  have f23 := ((f9.keep KC5 (ninS ne3 nin0)).ext E15)
  have f24 := (FV5'.ext E15)
  have f25 := (FC5'.ext E15)
  have f26 := (FN5'.ext E15)
  have f27 := (AV5'.ext E15)
  have f28 := ((f10.keep KC5 (allS b1 all0)).ext E15)
  obtain ⟨cq19, kz19, q19a, q19b, q19c⟩ := isOf hZ15 e15 f17
  obtain ⟨_, _, ⟨T19, Lq19, kq19, nq19⟩, -, X19, ⟨Lc19, hQ19, lq19, yq19, zq19⟩, st19⟩ := X15.virtualBack hx (y := (⟨"java/lang/StringBuilder", "append", "(Ljava/lang/String;)Ljava/lang/StringBuilder;"⟩ : MethodName)) (z := (⟨"java/lang/StringBuilder", "append", "(Ljava/lang/String;)Ljava/lang/StringBuilder;"⟩ : MethodName)) ho15 (mvT hZ15 (hw _ (own_w 128 rfl))) (mvT hZ15 (hw _ (own_w 129 rfl))) (notFace_of_selects (args := #[]) (mvT hZ15 (hw _ (own_w 131 rfl)))) (mvT hZ15 (hw _ (own_w 131 rfl))) (mvT hZ15 (hw _ (own_w 130 rfl))) (by decide) (backOf (W := 0) (rXf l Z a0 hw [] b1o sa15 vb5 kb5 (16) (0) [(.int (0 : Int32)), (.int (0 : Int32)), (.int (0 : Int32)), (.int (0 : Int32)), (.int (0 : Int32)), (.int (0 : Int32)), (.int (0 : Int32)), (.int (0 : Int32)), (.int (0 : Int32)), (.int (0 : Int32)), (.int (0 : Int32)), (.int (0 : Int32)), (.int (0 : Int32)), (.int (0 : Int32)), (.int (0 : Int32)), (.int (0 : Int32))] sb15 sk15 (16) [(.int (99 : Int32)), (.int (111 : Int32)), (.int (115 : Int32)), (.int (116 : Int32)), (.int (32 : Int32)), (.int (111 : Int32)), (.int (102 : Int32)), (.int (32 : Int32)), (.int (108 : Int32)), (.int (97 : Int32)), (.int (110 : Int32)), (.int (100 : Int32)), (.int (105 : Int32)), (.int (110 : Int32)), (.int (103 : Int32)), (.int (32 : Int32))] G1 h15 n0 Z15 f17 f24 f25 f26 f27 rfl b1 gb5 nab5 (own_om0 mz hw6 hw0) (own_om1 mz hw6 hw0) SE15 SV15 SC15 SA15 (own_om2 mz hw6 hw0) f28 O_2 P5 (own_om3 mz hw6 hw0) (own_om4 mz hw6 hw0)) hZ15 (hw _ (own_w 132 rfl)) (hw _ (own_w 111 rfl)) (by decide) (by decide)) q19a q19c (g := (mkF m 9 #[.val (.double (FP.l2d xa)), .second, .val (.ref a2), .val (.ref a3), .unset] [(.ref sa15), (.ref b1o)])) rfl (by rw [hml]; rfl) (Steps.refl _) (argsL := [(.ref sa15)]) (rest := []) (lenOf pd_24 rfl) rfl (by show 2 * 0 + _ ≤ _; exact Nat.le_of_eq rfl) (hb hby d20_9) (fun _ _ => ⟨rfl, e15, (by decide : 4 + 0 ≤ _), (by decide : 88 + 0 ≤ _)⟩)
  dsimp only [Pt.U, Pt.locs, Pt.cells, Pt.slots] at X19 lq19 yq19 zq19 st19 hQ19
  subst yq19 zq19
  replace X19 : Stand _ _ _ _ _ _ _ _ _ _ _ _ 4 88 := X19
  obtain ⟨vl19, rfl, N19q, KC19, hv19, E19', FV19', FC19', FN19', AV19'⟩ := hQ19
  have N19 : Fr n0 Lq19 := by rw [lq19]; exact Fr.app N5 N19q
  have Z19 : n0 ≤ T19.heap.size := Nat.le_trans Z15 KC19.1
  have K19 : Keep h0 T19.heap [] := K15.trans KC19 (allS (Or.inr bk1) (allS (Or.inr (Nat.le_trans K1.1 gk5)) all0))
  have CR29 := CR15.trans (CHr.keep KC19 (sfS (Safe.exa (State.Warmed39.alike hZ15) f17 (by decide) (by decide)) (sfS SF16 sf0)) CR15.1)
  have SF30 := Safe.keep KC19 (sfS (Safe.exa (State.Warmed39.alike hZ15) f17 (by decide) (by decide)) (sfS SF16 sf0)) CR15.1 SF16
  have f32 := (f20.keep KC19)
  have f33 := (f21.keep KC19 (ninS ne2 (ninS ne11 nin0)))
  have f34 := (f22.keep KC19 (ninS ne2 (ninS ne11 nin0)))
  have f35 := (f23.keep KC19 (ninS ne3 (ninS ne12 nin0)))
  have f36 := (SE15.keep KC19)
  have f37 := (SC15.keep KC19 (ninS (Ne.symm ns18.1) (ninS (Ne.symm (NE15 _ SF16).1) nin0)))
  have f38 := (SV15.keep KC19 (ninS (Ne.symm ns18.1) (ninS (Ne.symm (NE15 _ SF16).1) nin0)))
  have f39 := (SA15.keep KC19 (ninS (Ne.symm ns18.2) (ninS (Ne.symm (NE15 _ SF16).2) nin0)))
  have f40 := (f28.keep KC19 (allS b1 (allS gb5 all0)))
  obtain ⟨cq31, kz31, q31a, q31b, q31c⟩ := isOf hZ15 rfl E19'
  obtain ⟨_, _, ⟨T31, Lq31, kq31, nq31⟩, -, X31, ⟨Lc31, hQ31, lq31, yq31, zq31⟩, st31⟩ := X19.virtualBack hx (y := (⟨"java/lang/StringBuilder", "append", "(Ljava/lang/String;)Ljava/lang/StringBuilder;"⟩ : MethodName)) (z := (⟨"java/lang/StringBuilder", "append", "(Ljava/lang/String;)Ljava/lang/StringBuilder;"⟩ : MethodName)) ho15 (mvT hZ15 (hw _ (own_w 128 rfl))) (mvT hZ15 (hw _ (own_w 129 rfl))) (notFace_of_selects (args := #[]) (mvT hZ15 (hw _ (own_w 131 rfl)))) (mvT hZ15 (hw _ (own_w 131 rfl))) (mvT hZ15 (hw _ (own_w 130 rfl))) (by decide) (backOf (W := 0) (rXg l Z a0 hw [] b1o a3 vb5 kb5 (16) ((0 + (16))) (vl19) wb kw (mz) (wl) G1 T19.heap n0 Z19 E19' FV19' FC19' FN19' AV19' hv19 b1 gb5 nab5 (own_om0 mz hw6 hw0) (own_om5 mz hw6 hw0) f32 f33 f34 f35 (own_om6 mz hw6 hw0) f40 O_2 P5 (own_om7 mz hw6 hw0) (own_om8 mz hw6 hw0) (own_om9 mz hw6 hw0)) hZ15 (hw _ (own_w 132 rfl)) (hw _ (own_w 111 rfl)) (by decide) (by decide)) q31a q31c (g := (mkF m 13 #[.val (.double (FP.l2d xa)), .second, .val (.ref a2), .val (.ref a3), .unset] [(.ref a3), (.ref b1o)])) rfl (by rw [hml]; rfl) (Steps.refl _) (argsL := [(.ref a3)]) (rest := []) (lenOf pd_24 rfl) rfl (by show 2 * 0 + _ ≤ _; exact Nat.le_of_eq rfl) (hb hby d20_13) (fun _ _ => ⟨rfl, rfl, (by decide : 4 + 1 ≤ _), (by decide : 88 + 128 ≤ _)⟩)
  dsimp only [Pt.U, Pt.locs, Pt.cells, Pt.slots] at X31 lq31 yq31 zq31 st31 hQ31
  subst yq31 zq31
  replace X31 : Stand _ _ _ _ _ _ _ _ _ _ _ _ 5 216 := X31
  obtain ⟨vb31, kb31, vl31, rfl, N31q, KC31, gb31, gk31, nab31, hv31, E31', FV31', FC31', FN31', AV31'⟩ := hQ31
  have N31 : Fr n0 Lq31 := by rw [lq31]; exact Fr.app N19 N31q
  have Z31 : n0 ≤ T31.heap.size := Nat.le_trans Z19 KC31.1
  have ne41 : a3 ≠ vb31 := Nat.ne_of_lt (Nat.lt_of_lt_of_le f34.lt gk31)
  have ne42 : wb ≠ vb31 := Nat.ne_of_lt (Nat.lt_of_lt_of_le f35.lt gk31)
  have ne43 : vb5 ≠ vb31 := Nat.ne_of_lt (Nat.lt_of_lt_of_le AV19'.lt gk31)
  have ne44 : sa15 ≠ vb31 := Nat.ne_of_lt (Nat.lt_of_lt_of_le f38.lt gk31)
  have ne45 : sb15 ≠ vb31 := Nat.ne_of_lt (Nat.lt_of_lt_of_le f39.lt gk31)
  have K31 : Keep h0 T31.heap [] := K19.trans KC31 (allS (Or.inr bk1) all0)
  have CR46 := CR29.trans (CHr.keep KC31 (sfS (Safe.exa (State.Warmed39.alike hZ15) E19' (by decide) (by decide)) sf0) CR29.1)
  have SF47 := Safe.keep KC31 (sfS (Safe.exa (State.Warmed39.alike hZ15) E19' (by decide) (by decide)) sf0) CR29.1 (Safe.new gk31)
  have f49 := (f32.keep KC31)
  have f50 := (f33.keep KC31 (ninS ne2 nin0))
  have f51 := (f34.keep KC31 (ninS ne2 nin0))
  have f52 := (f35.keep KC31 (ninS ne3 nin0))
  have f53 := (f36.keep KC31)
  have f54 := (f37.keep KC31 (ninS (Ne.symm ns18.1) nin0))
  have f55 := (f38.keep KC31 (ninS (Ne.symm ns18.1) nin0))
  have f56 := (f39.keep KC31 (ninS (Ne.symm ns18.2) nin0))
  have f57 := (f40.keep KC31 (allS b1 all0))
  obtain ⟨cq48, kz48, q48a, q48b, q48c⟩ := isOf hZ15 rfl E31'
  obtain ⟨_, _, ⟨T48, Lq48, kq48, nq48⟩, -, X48, ⟨Lc48, hQ48, lq48, yq48, zq48⟩, st48⟩ := X31.virtualBack hx (y := (⟨"java/lang/StringBuilder", "toString", "()Ljava/lang/String;"⟩ : MethodName)) (z := (⟨"java/lang/StringBuilder", "toString", "()Ljava/lang/String;"⟩ : MethodName)) ho15 (mvT hZ15 (hw _ (own_w 188 rfl))) (mvT hZ15 (hw _ (own_w 189 rfl))) (notFace_of_selects (args := #[]) (mvT hZ15 (hw _ (own_w 191 rfl)))) (mvT hZ15 (hw _ (own_w 191 rfl))) (mvT hZ15 (hw _ (own_w 190 rfl))) (by decide) (backOf (W := 0) (rTS l Z a0 hw [] b1o vb31 kb31 ((16 + (16 + 2))) (((0 + (16)) + (mz))) (vl31) G1 T31.heap n0 Z31 E31' FV31' FC31' FN31' AV31' (own_om10 mz hw6 hw0) (own_om11 mz hw6 hw0) f57 O_2 P5) hZ15 (hw _ (own_w 192 rfl)) (hw _ (own_w 111 rfl)) (by decide) (by decide)) q48a q48c (g := (mkF m 16 #[.val (.double (FP.l2d xa)), .second, .val (.ref a2), .val (.ref a3), .unset] [(.ref b1o)])) rfl (by rw [hml]; rfl) (Steps.refl _) (argsL := []) (rest := []) (lenOf pd_25 rfl) rfl (by show 2 * 0 + _ ≤ _; exact Nat.le_of_eq rfl) (hb hby d20_16) (fun _ _ => ⟨rfl, rfl, (by decide : 5 + 2 ≤ _), (by decide : 216 + 132 ≤ _)⟩)
  dsimp only [Pt.U, Pt.locs, Pt.cells, Pt.slots] at X48 lq48 yq48 zq48 st48 hQ48
  subst yq48 zq48
  replace X48 : Stand _ _ _ _ _ _ _ _ _ _ _ _ 7 348 := X48
  obtain ⟨o48, wb48, kw48, wl48, rfl, N48q, KC48, go48, gk48, gw48, gx48, nw48, E48', FV48', FC48', AV48'⟩ := hQ48
  have N48 : Fr n0 Lq48 := by rw [lq48]; exact Fr.app N31 N48q
  have Z48 : n0 ≤ T48.heap.size := Nat.le_trans Z31 KC48.1
  have ne58 : a3 ≠ o48 := Nat.ne_of_lt (Nat.lt_of_lt_of_le f51.lt gk48)
  have ne59 : wb ≠ o48 := Nat.ne_of_lt (Nat.lt_of_lt_of_le f52.lt gk48)
  have ne60 : b1o ≠ o48 := Nat.ne_of_lt (Nat.lt_of_lt_of_le FN31'.lt gk48)
  have ne61 : sa15 ≠ o48 := Nat.ne_of_lt (Nat.lt_of_lt_of_le f55.lt gk48)
  have ne62 : sb15 ≠ o48 := Nat.ne_of_lt (Nat.lt_of_lt_of_le f56.lt gk48)
  have ne63 : vb31 ≠ o48 := Nat.ne_of_lt (Nat.lt_of_lt_of_le AV31'.lt gk48)
  have ne64 : a3 ≠ wb48 := Nat.ne_of_lt (Nat.lt_of_lt_of_le f51.lt gx48)
  have ne65 : wb ≠ wb48 := Nat.ne_of_lt (Nat.lt_of_lt_of_le f52.lt gx48)
  have ne66 : b1o ≠ wb48 := Nat.ne_of_lt (Nat.lt_of_lt_of_le FN31'.lt gx48)
  have ne67 : sa15 ≠ wb48 := Nat.ne_of_lt (Nat.lt_of_lt_of_le f55.lt gx48)
  have ne68 : sb15 ≠ wb48 := Nat.ne_of_lt (Nat.lt_of_lt_of_le f56.lt gx48)
  have ne69 : vb31 ≠ wb48 := Nat.ne_of_lt (Nat.lt_of_lt_of_le AV31'.lt gx48)
  have K48 : Keep h0 T48.heap [] := K31.trans KC48 all0
  have CR70 := CR46.trans (CHr.keep KC48 sf0 CR46.1)
  have SF71 := Safe.keep KC48 sf0 CR46.1 SF47
  obtain ⟨_, _, ⟨T72, Lq72, kq72, nq72⟩, -, X72, ⟨Lc72, hQ72, lq72, yq72, zq72⟩, st72⟩ := Jvm.LawKit.callS X48 hx (y := (⟨"java/lang/Double", "isFinite", "(D)Z"⟩ : MethodName)) ho15 (mvT hZ15 (hw _ (own_w 86 rfl))) (mvT hZ15 (hw _ (own_w 87 rfl))) (mvT hZ15 (hw _ (own_w 88 rfl))) (mvT hZ15 (hw _ (own_w 89 rfl))) (by decide) (backOf (W := 0) (rFi l Z a0 hw [] (FP.l2d xa) (xa) T48.heap n0 Z48 rfl) hZ15 (hw _ (own_w 89 rfl)) (hw _ (own_w 88 rfl)) (by decide) (by decide)) (g := (mkF m 22 #[.val (.double (FP.l2d xa)), .second, .val (.ref a2), .val (.ref a3), .val (.ref o48)] [(.double (FP.l2d xa))])) rfl (by rw [hml]; rfl) (argsL := [(.double (FP.l2d xa))]) (rest := []) (lenOf pd_26 rfl) rfl (by show 2 * 0 + _ ≤ _; exact Nat.le_of_eq rfl) (hb hby d20_22) (fun _ _ => ⟨rfl, rfl, (by decide : 7 + 0 ≤ _), (by decide : 348 + 0 ≤ _)⟩)
  dsimp only [Pt.U, Pt.locs, Pt.cells, Pt.slots] at X72 lq72 yq72 zq72 st72 hQ72
  subst yq72 zq72
  replace X72 : Stand _ _ _ _ _ _ _ _ _ _ _ _ 7 348 := X72
  obtain ⟨r72, hr72, rfl, N72q, e72⟩ := hQ72
  have N72 : Fr n0 Lq72 := by rw [lq72]; exact Fr.app N48 N72q
  subst hr72
  obtain ⟨T73, h73, X73, e73, E73, A73, D73, -, st73⟩ := newO X72 hx hZ15 ho15 (hw _ (own_w 109 rfl)) (hw _ (own_w 110 rfl)) (hw _ (own_w 111 rfl)) e72 (g := (mkF m 26 #[.val (.double (FP.l2d xa)), .second, .val (.ref a2), .val (.ref a3), .val (.ref o48)] [(.ref a2), (.int (1 : Int32))])) rfl (hb hby d20_26) (by decide) (by decide)
  obtain ⟨b73o, g73⟩ : ∃ z, z = T48.heap.size := ⟨_, rfl⟩
  have b73 : n0 ≤ b73o := Nat.le_trans Z48 (Nat.le_of_eq g73.symm)
  have bk73 : h0.size ≤ b73o := Nat.le_trans K48.1 (Nat.le_of_eq g73.symm)
  have f74 := (f49.keep KC48)
  have ne75 : a3 ≠ b73o := Nat.ne_of_lt (Nat.lt_of_lt_of_le f74.lt (Nat.le_of_eq g73.symm))
  have f76 := (f52.keep KC48 nin0)
  have ne77 : wb ≠ b73o := Nat.ne_of_lt (Nat.lt_of_lt_of_le f76.lt (Nat.le_of_eq g73.symm))
  have ne78 : o48 ≠ b73o := Nat.ne_of_lt (Nat.lt_of_lt_of_le E48'.lt (Nat.le_of_eq g73.symm))
  have ne79 : wb48 ≠ b73o := Nat.ne_of_lt (Nat.lt_of_lt_of_le AV48'.lt (Nat.le_of_eq g73.symm))
  rw [← g73] at A73 D73 st73
  have Z73 : n0 ≤ h73.size := Nat.le_trans Z48 E73.1
  have K73 : Keep h0 h73 [] := K48.ext E73
  have F73_124 : Fld Z h73 b73o "java/lang/AbstractStringBuilder" "value" "[B" .null := D73 (Or.inl (hw _ (own_w 124 rfl))) (ty := (.array .byte)) (by decide)
  have F73_126 : Fld Z h73 b73o "java/lang/AbstractStringBuilder" "coder" "B" (.int (0 : Int32)) := D73 (Or.inl (hw _ (own_w 126 rfl))) (ty := .byte) (by decide)
  have F73_140 : Fld Z h73 b73o "java/lang/AbstractStringBuilder" "count" "I" (.int (0 : Int32)) := D73 (Or.inl (hw _ (own_w 140 rfl))) (ty := .int) (by decide)
  have CR80 := CR70.trans (CHr.ext E73 CR70.1)
  have f82 := (f74.ext E73)
  have f83 := ((f50.keep KC48 nin0).ext E73)
  have f84 := ((f51.keep KC48 nin0).ext E73)
  have f85 := (f76.ext E73)
  have f86 := (E48'.ext E73)
  have f87 := (FV48'.ext E73)
  have f88 := (FC48'.ext E73)
  have f89 := (AV48'.ext E73)
  have f90 := ((f57.keep KC48 all0).ext E73)
  obtain ⟨_, _, ⟨T81, Lq81, kq81, nq81⟩, -, X81, ⟨Lc81, hQ81, lq81, yq81, zq81⟩, st81⟩ := X73.specialBack hx (y := (⟨"java/lang/StringBuilder", "<init>", "()V"⟩ : MethodName)) rfl ho15 (mvT hZ15 (hw _ (own_w 112 rfl))) (mvT hZ15 (hw _ (own_w 113 rfl))) (mvT hZ15 (hw _ (own_w 114 rfl))) (by decide) (backOf (W := 3) (rB0 l Z a0 hw [] b73o G1 h73 n0 Z73 f90 O_2 P5 A73 F73_124 F73_126 F73_140 b73) hZ15 (hw _ (own_w 114 rfl)) (hw _ (own_w 111 rfl)) (by decide) (by decide)) (g := (mkF m 30 #[.val (.double (FP.l2d xa)), .second, .val (.ref a2), .val (.ref a3), .val (.ref o48)] [(.ref b73o), (.ref b73o), (.ref a2), (.int (1 : Int32))])) rfl (by rw [hml]; rfl) (Steps.refl _) (a := b73o) (argsL := []) (rest := [(.ref b73o), (.ref a2), (.int (1 : Int32))]) (lenOf pd_23 rfl) rfl (by show 2 * 0 + _ ≤ _; exact Nat.le_of_eq rfl) (hb hby d20_30) (fun _ _ => ⟨rfl, e73, (by decide : 8 + 1 ≤ _), (by decide : 352 + 16 ≤ _)⟩)
  dsimp only [Pt.U, Pt.locs, Pt.cells, Pt.slots] at X81 lq81 yq81 zq81 st81 hQ81
  subst yq81 zq81
  replace X81 : Stand _ _ _ _ _ _ _ _ _ _ _ _ 9 368 := X81
  obtain ⟨vb81, kb81, rfl, N81q, KC81, gb81, gk81, nab81, E81', FV81', FC81', FN81', AV81'⟩ := hQ81
  have N81 : Fr n0 Lq81 := by rw [lq81]; exact Fr.app N72 N81q
  have Z81 : n0 ≤ T81.heap.size := Nat.le_trans Z73 KC81.1
  have ne91 : a3 ≠ vb81 := Nat.ne_of_lt (Nat.lt_of_lt_of_le f84.lt gk81)
  have ne92 : wb ≠ vb81 := Nat.ne_of_lt (Nat.lt_of_lt_of_le f85.lt gk81)
  have ne93 : o48 ≠ vb81 := Nat.ne_of_lt (Nat.lt_of_lt_of_le f88.lt gk81)
  have ne94 : wb48 ≠ vb81 := Nat.ne_of_lt (Nat.lt_of_lt_of_le f89.lt gk81)
  have K81 : Keep h0 T81.heap [] := K73.trans KC81 (allS (Or.inr bk73) all0)
  have CR95 := CR80.trans (CHr.keep KC81 (sfS (Safe.exa (State.Warmed39.alike hZ15) A73 (by decide) (by decide)) sf0) CR80.1)
  have SF96 := Safe.keep KC81 (sfS (Safe.exa (State.Warmed39.alike hZ15) A73 (by decide) (by decide)) sf0) CR80.1 (Safe.new gk81)
  have f98 := (f82.keep KC81)
  have f99 := (f83.keep KC81 (ninS ne75 nin0))
  have f100 := (f84.keep KC81 (ninS ne75 nin0))
  have f101 := (f85.keep KC81 (ninS ne77 nin0))
  have f102 := (f86.keep KC81)
  have f103 := (f87.keep KC81 (ninS ne78 nin0))
  have f104 := (f88.keep KC81 (ninS ne78 nin0))
  have f105 := (f89.keep KC81 (ninS ne79 nin0))
  have f106 := (f90.keep KC81 (allS b73 all0))
  obtain ⟨cq97, kz97, q97a, q97b, q97c⟩ := isOf hZ15 rfl E81'
  obtain ⟨_, _, ⟨T97, Lq97, kq97, nq97⟩, -, X97, ⟨Lc97, hQ97, lq97, yq97, zq97⟩, st97⟩ := X81.virtualBack hx (y := (⟨"java/lang/StringBuilder", "append", "(Ljava/lang/String;)Ljava/lang/StringBuilder;"⟩ : MethodName)) (z := (⟨"java/lang/StringBuilder", "append", "(Ljava/lang/String;)Ljava/lang/StringBuilder;"⟩ : MethodName)) ho15 (mvT hZ15 (hw _ (own_w 128 rfl))) (mvT hZ15 (hw _ (own_w 129 rfl))) (notFace_of_selects (args := #[]) (mvT hZ15 (hw _ (own_w 131 rfl)))) (mvT hZ15 (hw _ (own_w 131 rfl))) (mvT hZ15 (hw _ (own_w 130 rfl))) (by decide) (backOf (W := 2) (rXg l Z a0 hw [] b73o o48 vb81 kb81 (16) (0) [(.int (0 : Int32)), (.int (0 : Int32)), (.int (0 : Int32)), (.int (0 : Int32)), (.int (0 : Int32)), (.int (0 : Int32)), (.int (0 : Int32)), (.int (0 : Int32)), (.int (0 : Int32)), (.int (0 : Int32)), (.int (0 : Int32)), (.int (0 : Int32)), (.int (0 : Int32)), (.int (0 : Int32)), (.int (0 : Int32)), (.int (0 : Int32))] wb48 kw48 (((0 + (16)) + (mz))) (wl48) G1 T81.heap n0 Z81 E81' FV81' FC81' FN81' AV81' rfl b73 gb81 nab81 (own_om0 mz hw6 hw0) (own_om1 mz hw6 hw0) f102 f103 f104 f105 (own_om12 mz hw6 hw0) f106 O_2 P5 (own_om13 mz hw6 hw0) (own_om14 mz hw6 hw0) (own_om15 mz hw6 hw0)) hZ15 (hw _ (own_w 132 rfl)) (hw _ (own_w 111 rfl)) (by decide) (by decide)) q97a q97c (g := (mkF m 35 #[.val (.double (FP.l2d xa)), .second, .val (.ref a2), .val (.ref a3), .val (.ref o48)] [(.ref o48), (.ref b73o), (.ref a2), (.int (1 : Int32))])) rfl (by rw [hml]; rfl) (Steps.refl _) (argsL := [(.ref o48)]) (rest := [(.ref a2), (.int (1 : Int32))]) (lenOf pd_24 rfl) rfl (by show 2 * 0 + _ ≤ _; exact Nat.le_of_eq rfl) (hb hby d20_35) (fun _ _ => ⟨rfl, rfl, (by decide : 9 + 1 ≤ _), (by decide : 368 + 128 ≤ _)⟩)
  dsimp only [Pt.U, Pt.locs, Pt.cells, Pt.slots] at X97 lq97 yq97 zq97 st97 hQ97
  subst yq97 zq97
  replace X97 : Stand _ _ _ _ _ _ _ _ _ _ _ _ 10 496 := X97
  obtain ⟨vb97, kb97, vl97, rfl, N97q, KC97, gb97, gk97, nab97, hv97, E97', FV97', FC97', FN97', AV97'⟩ := hQ97
  have N97 : Fr n0 Lq97 := by rw [lq97]; exact Fr.app N81 N97q
  have Z97 : n0 ≤ T97.heap.size := Nat.le_trans Z81 KC97.1
  have ne107 : a3 ≠ vb97 := Nat.ne_of_lt (Nat.lt_of_lt_of_le f100.lt gk97)
  have ne108 : wb ≠ vb97 := Nat.ne_of_lt (Nat.lt_of_lt_of_le f101.lt gk97)
  have ne109 : o48 ≠ vb97 := Nat.ne_of_lt (Nat.lt_of_lt_of_le f104.lt gk97)
  have ne110 : wb48 ≠ vb97 := Nat.ne_of_lt (Nat.lt_of_lt_of_le f105.lt gk97)
  have ne111 : vb81 ≠ vb97 := Nat.ne_of_lt (Nat.lt_of_lt_of_le AV81'.lt gk97)
  have K97 : Keep h0 T97.heap [] := K81.trans KC97 (allS (Or.inr bk73) all0)
  have CR112 := CR95.trans (CHr.keep KC97 (sfS (Safe.exa (State.Warmed39.alike hZ15) E81' (by decide) (by decide)) sf0) CR95.1)
  have SF113 := Safe.keep KC97 (sfS (Safe.exa (State.Warmed39.alike hZ15) E81' (by decide) (by decide)) sf0) CR95.1 (Safe.new gk97)
  obtain ⟨sa114, T114, h114, k1114, sb114, sk114, X114, e114, E114, hS114, hk114, hZ114, ho114, SE114, SC114, SV114, SA114, -, -, CC114, -, NE114, st114⟩ := ldcCH (s := s) (vm0 := T15.vm) (Z := Z) (h := T97.heap) X97 hx hZ15 ho15 (hw _ (own_w 229 rfl)) wS rfl hS15 (Nat.le_trans (Nat.le_trans (Nat.le_trans (Nat.le_trans (Nat.le_trans (Nat.le_trans hk15 KC19.1) KC31.1) KC48.1) E73.1) KC81.1) KC97.1) hEL (own_w 3 rfl) CR112.1 (vs := [(.int (32 : Int32)), (.int (105 : Int32)), (.int (115 : Int32)), (.int (32 : Int32)), (.int (110 : Int32)), (.int (111 : Int32)), (.int (116 : Int32)), (.int (32 : Int32)), (.int (97 : Int32)), (.int (32 : Int32)), (.int (102 : Int32)), (.int (105 : Int32)), (.int (110 : Int32)), (.int (105 : Int32)), (.int (116 : Int32)), (.int (101 : Int32)), (.int (32 : Int32)), (.int (110 : Int32)), (.int (117 : Int32)), (.int (109 : Int32)), (.int (98 : Int32)), (.int (101 : Int32)), (.int (114 : Int32))]) (z := (23 : Int32)) ⟨by decide +kernel, by decide +kernel⟩ (by decide) (by decide) (g := (mkF m 38 #[.val (.double (FP.l2d xa)), .second, .val (.ref a2), .val (.ref a3), .val (.ref o48)] [(.ref b73o), (.ref a2), (.int (1 : Int32))])) rfl (hb hby d20_38) (n := 92) (by decide +kernel) (by decide) (by decide) (by decide)
  have CR114 := CR112.trans CC114
  have SF115 := CHr.safe CC114 AV97'.lt SF113
  have Z114 : n0 ≤ h114.size := Nat.le_trans Z97 E114.1
  have K114 : Keep h0 h114 [] := K97.ext E114
  replace X114 : Stand _ _ _ _ _ _ _ _ _ _ _ _ 12 592 := X114
  have f116 := (E97'.ext E114)
  have ns117 := NE114 _ (Safe.exa (State.Warmed39.alike hZ114) f116 (by decide) (by decide))
  have f119 := ((f98.keep KC97).ext E114)
  have f120 := ((f99.keep KC97 (ninS ne75 nin0)).ext E114)
  have f121 := ((f100.keep KC97 (ninS ne75 nin0)).ext E114)
  have f122 := ((f101.keep KC97 (ninS ne77 nin0)).ext E114)
  have f123 := ((f102.keep KC97).ext E114)
  have f124 := ((f103.keep KC97 (ninS ne78 nin0)).ext E114)
  have f125 := ((f104.keep KC97 (ninS ne78 nin0)).ext E114)
  have f126 := ((f105.keep KC97 (ninS ne79 nin0)).ext E114)
  have f127 := (FV97'.ext E114)
  have f128 := (FC97'.ext E114)
  have f129 := (FN97'.ext E114)
  have f130 := (AV97'.ext E114)
  have f131 := ((f106.keep KC97 (allS b73 all0)).ext E114)
  obtain ⟨cq118, kz118, q118a, q118b, q118c⟩ := isOf hZ114 e114 f116
  obtain ⟨_, _, ⟨T118, Lq118, kq118, nq118⟩, -, X118, ⟨Lc118, hQ118, lq118, yq118, zq118⟩, st118⟩ := X114.virtualBack hx (y := (⟨"java/lang/StringBuilder", "append", "(Ljava/lang/String;)Ljava/lang/StringBuilder;"⟩ : MethodName)) (z := (⟨"java/lang/StringBuilder", "append", "(Ljava/lang/String;)Ljava/lang/StringBuilder;"⟩ : MethodName)) ho114 (mvT hZ114 (hw _ (own_w 128 rfl))) (mvT hZ114 (hw _ (own_w 129 rfl))) (notFace_of_selects (args := #[]) (mvT hZ114 (hw _ (own_w 131 rfl)))) (mvT hZ114 (hw _ (own_w 131 rfl))) (mvT hZ114 (hw _ (own_w 130 rfl))) (by decide) (backOf (W := 2) (rXg l Z a0 hw [] b73o sa114 vb97 kb97 ((16 + (16 + 2))) ((0 + (((0 + (16)) + (mz))))) (vl97) sb114 sk114 (23) [(.int (32 : Int32)), (.int (105 : Int32)), (.int (115 : Int32)), (.int (32 : Int32)), (.int (110 : Int32)), (.int (111 : Int32)), (.int (116 : Int32)), (.int (32 : Int32)), (.int (97 : Int32)), (.int (32 : Int32)), (.int (102 : Int32)), (.int (105 : Int32)), (.int (110 : Int32)), (.int (105 : Int32)), (.int (116 : Int32)), (.int (101 : Int32)), (.int (32 : Int32)), (.int (110 : Int32)), (.int (117 : Int32)), (.int (109 : Int32)), (.int (98 : Int32)), (.int (101 : Int32)), (.int (114 : Int32))] G1 h114 n0 Z114 f116 f127 f128 f129 f130 hv97 b73 gb97 nab97 (own_om16 mz hw6 hw0) (own_om17 mz hw6 hw0) SE114 SV114 SC114 SA114 (own_om18 mz hw6 hw0) f131 O_2 P5 (own_om19 mz hw6 hw0) (own_om20 mz hw6 hw0) (own_om21 mz hw6 hw0)) hZ114 (hw _ (own_w 132 rfl)) (hw _ (own_w 111 rfl)) (by decide) (by decide)) q118a q118c (g := (mkF m 40 #[.val (.double (FP.l2d xa)), .second, .val (.ref a2), .val (.ref a3), .val (.ref o48)] [(.ref sa114), (.ref b73o), (.ref a2), (.int (1 : Int32))])) rfl (by rw [hml]; rfl) (Steps.refl _) (argsL := [(.ref sa114)]) (rest := [(.ref a2), (.int (1 : Int32))]) (lenOf pd_24 rfl) rfl (by show 2 * 0 + _ ≤ _; exact Nat.le_of_eq rfl) (hb hby d20_40) (fun _ _ => ⟨rfl, e114, (by decide : 12 + 1 ≤ _), (by decide : 592 + 128 ≤ _)⟩)
  dsimp only [Pt.U, Pt.locs, Pt.cells, Pt.slots] at X118 lq118 yq118 zq118 st118 hQ118
  subst yq118 zq118
  replace X118 : Stand _ _ _ _ _ _ _ _ _ _ _ _ 13 720 := X118
  obtain ⟨vb118, kb118, vl118, rfl, N118q, KC118, gb118, gk118, nab118, hv118, E118', FV118', FC118', FN118', AV118'⟩ := hQ118
  have N118 : Fr n0 Lq118 := by rw [lq118]; exact Fr.app N97 N118q
  have Z118 : n0 ≤ T118.heap.size := Nat.le_trans Z114 KC118.1
  have ne132 : a3 ≠ vb118 := Nat.ne_of_lt (Nat.lt_of_lt_of_le f121.lt gk118)
  have ne133 : wb ≠ vb118 := Nat.ne_of_lt (Nat.lt_of_lt_of_le f122.lt gk118)
  have ne134 : o48 ≠ vb118 := Nat.ne_of_lt (Nat.lt_of_lt_of_le f125.lt gk118)
  have ne135 : wb48 ≠ vb118 := Nat.ne_of_lt (Nat.lt_of_lt_of_le f126.lt gk118)
  have ne136 : vb97 ≠ vb118 := Nat.ne_of_lt (Nat.lt_of_lt_of_le f130.lt gk118)
  have ne137 : sa114 ≠ vb118 := Nat.ne_of_lt (Nat.lt_of_lt_of_le SV114.lt gk118)
  have ne138 : sb114 ≠ vb118 := Nat.ne_of_lt (Nat.lt_of_lt_of_le SA114.lt gk118)
  have K118 : Keep h0 T118.heap [] := K114.trans KC118 (allS (Or.inr bk73) all0)
  have CR139 := CR114.trans (CHr.keep KC118 (sfS (Safe.exa (State.Warmed39.alike hZ114) f116 (by decide) (by decide)) sf0) CR114.1)
  have SF140 := Safe.keep KC118 (sfS (Safe.exa (State.Warmed39.alike hZ114) f116 (by decide) (by decide)) sf0) CR114.1 (Safe.new gk118)
  have f142 := (f119.keep KC118)
  have f143 := (f120.keep KC118 (ninS ne75 nin0))
  have f144 := (f121.keep KC118 (ninS ne75 nin0))
  have f145 := (f122.keep KC118 (ninS ne77 nin0))
  have f146 := (f123.keep KC118)
  have f147 := (f124.keep KC118 (ninS ne78 nin0))
  have f148 := (f125.keep KC118 (ninS ne78 nin0))
  have f149 := (f126.keep KC118 (ninS ne79 nin0))
  have f150 := (SE114.keep KC118)
  have f151 := (SC114.keep KC118 (ninS (Ne.symm ns117.1) nin0))
  have f152 := (SV114.keep KC118 (ninS (Ne.symm ns117.1) nin0))
  have f153 := (SA114.keep KC118 (ninS (Ne.symm ns117.2) nin0))
  have f154 := (f131.keep KC118 (allS b73 all0))
  obtain ⟨cq141, kz141, q141a, q141b, q141c⟩ := isOf hZ114 rfl E118'
  obtain ⟨_, _, ⟨T141, Lq141, kq141, nq141⟩, -, X141, ⟨Lc141, hQ141, lq141, yq141, zq141⟩, st141⟩ := X118.virtualBack hx (y := (⟨"java/lang/StringBuilder", "toString", "()Ljava/lang/String;"⟩ : MethodName)) (z := (⟨"java/lang/StringBuilder", "toString", "()Ljava/lang/String;"⟩ : MethodName)) ho114 (mvT hZ114 (hw _ (own_w 188 rfl))) (mvT hZ114 (hw _ (own_w 189 rfl))) (notFace_of_selects (args := #[]) (mvT hZ114 (hw _ (own_w 191 rfl)))) (mvT hZ114 (hw _ (own_w 191 rfl))) (mvT hZ114 (hw _ (own_w 190 rfl))) (by decide) (backOf (W := 2) (rTS l Z a0 hw [] b73o vb118 kb118 (((16 + (16 + 2)) + ((16 + (16 + 2)) + 2))) (((0 + (((0 + (16)) + (mz)))) + (23))) (vl118) G1 T118.heap n0 Z118 E118' FV118' FC118' FN118' AV118' (own_om22 mz hw6 hw0) (own_om23 mz hw6 hw0) f154 O_2 P5) hZ114 (hw _ (own_w 192 rfl)) (hw _ (own_w 111 rfl)) (by decide) (by decide)) q141a q141c (g := (mkF m 43 #[.val (.double (FP.l2d xa)), .second, .val (.ref a2), .val (.ref a3), .val (.ref o48)] [(.ref b73o), (.ref a2), (.int (1 : Int32))])) rfl (by rw [hml]; rfl) (Steps.refl _) (argsL := []) (rest := [(.ref a2), (.int (1 : Int32))]) (lenOf pd_25 rfl) rfl (by show 2 * 0 + _ ≤ _; exact Nat.le_of_eq rfl) (hb hby d20_43) (fun _ _ => ⟨rfl, rfl, (by decide : 13 + 2 ≤ _), (by decide : 720 + 132 ≤ _)⟩)
  dsimp only [Pt.U, Pt.locs, Pt.cells, Pt.slots] at X141 lq141 yq141 zq141 st141 hQ141
  subst yq141 zq141
  replace X141 : Stand _ _ _ _ _ _ _ _ _ _ _ _ 15 852 := X141
  obtain ⟨o141, wb141, kw141, wl141, rfl, N141q, KC141, go141, gk141, gw141, gx141, nw141, E141', FV141', FC141', AV141'⟩ := hQ141
  have N141 : Fr n0 Lq141 := by rw [lq141]; exact Fr.app N118 N141q
  have Z141 : n0 ≤ T141.heap.size := Nat.le_trans Z118 KC141.1
  have ne155 : a3 ≠ o141 := Nat.ne_of_lt (Nat.lt_of_lt_of_le f144.lt gk141)
  have ne156 : wb ≠ o141 := Nat.ne_of_lt (Nat.lt_of_lt_of_le f145.lt gk141)
  have ne157 : o48 ≠ o141 := Nat.ne_of_lt (Nat.lt_of_lt_of_le f148.lt gk141)
  have ne158 : wb48 ≠ o141 := Nat.ne_of_lt (Nat.lt_of_lt_of_le f149.lt gk141)
  have ne159 : b73o ≠ o141 := Nat.ne_of_lt (Nat.lt_of_lt_of_le FN118'.lt gk141)
  have ne160 : sa114 ≠ o141 := Nat.ne_of_lt (Nat.lt_of_lt_of_le f152.lt gk141)
  have ne161 : sb114 ≠ o141 := Nat.ne_of_lt (Nat.lt_of_lt_of_le f153.lt gk141)
  have ne162 : vb118 ≠ o141 := Nat.ne_of_lt (Nat.lt_of_lt_of_le AV118'.lt gk141)
  have ne163 : a3 ≠ wb141 := Nat.ne_of_lt (Nat.lt_of_lt_of_le f144.lt gx141)
  have ne164 : wb ≠ wb141 := Nat.ne_of_lt (Nat.lt_of_lt_of_le f145.lt gx141)
  have ne165 : o48 ≠ wb141 := Nat.ne_of_lt (Nat.lt_of_lt_of_le f148.lt gx141)
  have ne166 : wb48 ≠ wb141 := Nat.ne_of_lt (Nat.lt_of_lt_of_le f149.lt gx141)
  have ne167 : b73o ≠ wb141 := Nat.ne_of_lt (Nat.lt_of_lt_of_le FN118'.lt gx141)
  have ne168 : sa114 ≠ wb141 := Nat.ne_of_lt (Nat.lt_of_lt_of_le f152.lt gx141)
  have ne169 : sb114 ≠ wb141 := Nat.ne_of_lt (Nat.lt_of_lt_of_le f153.lt gx141)
  have ne170 : vb118 ≠ wb141 := Nat.ne_of_lt (Nat.lt_of_lt_of_le AV118'.lt gx141)
  have K141 : Keep h0 T141.heap [] := K118.trans KC141 all0
  have CR171 := CR139.trans (CHr.keep KC141 sf0 CR139.1)
  have SF172 := Safe.keep KC141 sf0 CR139.1 SF140
  obtain ⟨_, _, ⟨T173, Lq173, kq173, nq173⟩, -, X173, ⟨Lc173, hQ173, lq173, yq173, zq173⟩, st173⟩ := Jvm.LawKit.callS X141 hx (y := (⟨"com/example/glidepath/glidepath/instance/Aircraft", "require", "(ZLjava/lang/String;Ljava/lang/String;)V"⟩ : MethodName)) ho114 (mvT hZ114 (hw _ (own_w 96 rfl))) (mvT hZ114 (hw _ (own_w 97 rfl))) (mvT hZ114 (hw _ (own_w 3 rfl))) (mvT hZ114 (hw _ (own_w 98 rfl))) (by decide) (backOf (W := 0) (rRq l Z a0 hw [] a2 o141  T141.heap n0 Z141 ) hZ114 (hw _ (own_w 98 rfl)) (hw _ (own_w 3 rfl)) (by decide) (by decide)) (g := (mkF m 46 #[.val (.double (FP.l2d xa)), .second, .val (.ref a2), .val (.ref a3), .val (.ref o48)] [(.ref o141), (.ref a2), (.int (1 : Int32))])) rfl (by rw [hml]; rfl) (argsL := [(.int (1 : Int32)), (.ref a2), (.ref o141)]) (rest := []) (lenOf pd_27 rfl) rfl (by show 2 * 0 + _ ≤ _; exact Nat.le_of_eq rfl) (hb hby d20_46) (fun _ _ => ⟨rfl, rfl, (by decide : 15 + 0 ≤ _), (by decide : 852 + 0 ≤ _)⟩)
  dsimp only [Pt.U, Pt.locs, Pt.cells, Pt.slots] at X173 lq173 yq173 zq173 st173 hQ173
  subst yq173 zq173
  replace X173 : Stand _ _ _ _ _ _ _ _ _ _ _ _ 15 852 := X173
  obtain ⟨rfl, N173q, e173⟩ := hQ173
  have N173 : Fr n0 Lq173 := by rw [lq173]; exact Fr.app N141 N173q
  obtain ⟨T174, h174, X174, e174, E174, A174, D174, -, st174⟩ := newO X173 hx hZ114 ho114 (hw _ (own_w 109 rfl)) (hw _ (own_w 110 rfl)) (hw _ (own_w 111 rfl)) e173 (g := (mkF m 61 #[.val (.double (FP.l2d xa)), .second, .val (.ref a2), .val (.ref a3), .val (.ref o48)] [(.ref a2), (.int (1 : Int32))])) rfl (hb hby d20_61) (by decide) (by decide)
  obtain ⟨b174o, g174⟩ : ∃ z, z = T141.heap.size := ⟨_, rfl⟩
  have b174 : n0 ≤ b174o := Nat.le_trans Z141 (Nat.le_of_eq g174.symm)
  have bk174 : h0.size ≤ b174o := Nat.le_trans K141.1 (Nat.le_of_eq g174.symm)
  have f175 := (f142.keep KC141)
  have ne176 : a3 ≠ b174o := Nat.ne_of_lt (Nat.lt_of_lt_of_le f175.lt (Nat.le_of_eq g174.symm))
  have f177 := (f145.keep KC141 nin0)
  have ne178 : wb ≠ b174o := Nat.ne_of_lt (Nat.lt_of_lt_of_le f177.lt (Nat.le_of_eq g174.symm))
  have f179 := (f146.keep KC141)
  have ne180 : o48 ≠ b174o := Nat.ne_of_lt (Nat.lt_of_lt_of_le f179.lt (Nat.le_of_eq g174.symm))
  have f181 := (f149.keep KC141 nin0)
  have ne182 : wb48 ≠ b174o := Nat.ne_of_lt (Nat.lt_of_lt_of_le f181.lt (Nat.le_of_eq g174.symm))
  rw [← g174] at A174 D174 st174
  have Z174 : n0 ≤ h174.size := Nat.le_trans Z141 E174.1
  have K174 : Keep h0 h174 [] := K141.ext E174
  have F174_124 : Fld Z h174 b174o "java/lang/AbstractStringBuilder" "value" "[B" .null := D174 (Or.inl (hw _ (own_w 124 rfl))) (ty := (.array .byte)) (by decide)
  have F174_126 : Fld Z h174 b174o "java/lang/AbstractStringBuilder" "coder" "B" (.int (0 : Int32)) := D174 (Or.inl (hw _ (own_w 126 rfl))) (ty := .byte) (by decide)
  have F174_140 : Fld Z h174 b174o "java/lang/AbstractStringBuilder" "count" "I" (.int (0 : Int32)) := D174 (Or.inl (hw _ (own_w 140 rfl))) (ty := .int) (by decide)
  have CR183 := CR171.trans (CHr.ext E174 CR171.1)
  have f185 := (f175.ext E174)
  have f186 := ((f143.keep KC141 nin0).ext E174)
  have f187 := ((f144.keep KC141 nin0).ext E174)
  have f188 := (f177.ext E174)
  have f189 := (f179.ext E174)
  have f190 := ((f147.keep KC141 nin0).ext E174)
  have f191 := ((f148.keep KC141 nin0).ext E174)
  have f192 := (f181.ext E174)
  have f193 := ((f154.keep KC141 all0).ext E174)
  obtain ⟨_, _, ⟨T184, Lq184, kq184, nq184⟩, -, X184, ⟨Lc184, hQ184, lq184, yq184, zq184⟩, st184⟩ := X174.specialBack hx (y := (⟨"java/lang/StringBuilder", "<init>", "()V"⟩ : MethodName)) rfl ho114 (mvT hZ114 (hw _ (own_w 112 rfl))) (mvT hZ114 (hw _ (own_w 113 rfl))) (mvT hZ114 (hw _ (own_w 114 rfl))) (by decide) (backOf (W := 3) (rB0 l Z a0 hw [] b174o G1 h174 n0 Z174 f193 O_2 P5 A174 F174_124 F174_126 F174_140 b174) hZ114 (hw _ (own_w 114 rfl)) (hw _ (own_w 111 rfl)) (by decide) (by decide)) (g := (mkF m 65 #[.val (.double (FP.l2d xa)), .second, .val (.ref a2), .val (.ref a3), .val (.ref o48)] [(.ref b174o), (.ref b174o), (.ref a2), (.int (1 : Int32))])) rfl (by rw [hml]; rfl) (Steps.refl _) (a := b174o) (argsL := []) (rest := [(.ref b174o), (.ref a2), (.int (1 : Int32))]) (lenOf pd_23 rfl) rfl (by show 2 * 0 + _ ≤ _; exact Nat.le_of_eq rfl) (hb hby d20_65) (fun _ _ => ⟨rfl, e174, (by decide : 16 + 1 ≤ _), (by decide : 856 + 16 ≤ _)⟩)
  dsimp only [Pt.U, Pt.locs, Pt.cells, Pt.slots] at X184 lq184 yq184 zq184 st184 hQ184
  subst yq184 zq184
  replace X184 : Stand _ _ _ _ _ _ _ _ _ _ _ _ 17 872 := X184
  obtain ⟨vb184, kb184, rfl, N184q, KC184, gb184, gk184, nab184, E184', FV184', FC184', FN184', AV184'⟩ := hQ184
  have N184 : Fr n0 Lq184 := by rw [lq184]; exact Fr.app N173 N184q
  have Z184 : n0 ≤ T184.heap.size := Nat.le_trans Z174 KC184.1
  have ne194 : a3 ≠ vb184 := Nat.ne_of_lt (Nat.lt_of_lt_of_le f187.lt gk184)
  have ne195 : wb ≠ vb184 := Nat.ne_of_lt (Nat.lt_of_lt_of_le f188.lt gk184)
  have ne196 : o48 ≠ vb184 := Nat.ne_of_lt (Nat.lt_of_lt_of_le f191.lt gk184)
  have ne197 : wb48 ≠ vb184 := Nat.ne_of_lt (Nat.lt_of_lt_of_le f192.lt gk184)
  have K184 : Keep h0 T184.heap [] := K174.trans KC184 (allS (Or.inr bk174) all0)
  have CR198 := CR183.trans (CHr.keep KC184 (sfS (Safe.exa (State.Warmed39.alike hZ114) A174 (by decide) (by decide)) sf0) CR183.1)
  have SF199 := Safe.keep KC184 (sfS (Safe.exa (State.Warmed39.alike hZ114) A174 (by decide) (by decide)) sf0) CR183.1 (Safe.new gk184)
  have f201 := (f185.keep KC184)
  have f202 := (f186.keep KC184 (ninS ne176 nin0))
  have f203 := (f187.keep KC184 (ninS ne176 nin0))
  have f204 := (f188.keep KC184 (ninS ne178 nin0))
  have f205 := (f189.keep KC184)
  have f206 := (f190.keep KC184 (ninS ne180 nin0))
  have f207 := (f191.keep KC184 (ninS ne180 nin0))
  have f208 := (f192.keep KC184 (ninS ne182 nin0))
  have f209 := (f193.keep KC184 (allS b174 all0))
  obtain ⟨cq200, kz200, q200a, q200b, q200c⟩ := isOf hZ114 rfl E184'
  obtain ⟨_, _, ⟨T200, Lq200, kq200, nq200⟩, -, X200, ⟨Lc200, hQ200, lq200, yq200, zq200⟩, st200⟩ := X184.virtualBack hx (y := (⟨"java/lang/StringBuilder", "append", "(Ljava/lang/String;)Ljava/lang/StringBuilder;"⟩ : MethodName)) (z := (⟨"java/lang/StringBuilder", "append", "(Ljava/lang/String;)Ljava/lang/StringBuilder;"⟩ : MethodName)) ho114 (mvT hZ114 (hw _ (own_w 128 rfl))) (mvT hZ114 (hw _ (own_w 129 rfl))) (notFace_of_selects (args := #[]) (mvT hZ114 (hw _ (own_w 131 rfl)))) (mvT hZ114 (hw _ (own_w 131 rfl))) (mvT hZ114 (hw _ (own_w 130 rfl))) (by decide) (backOf (W := 2) (rXg l Z a0 hw [] b174o o48 vb184 kb184 (16) (0) [(.int (0 : Int32)), (.int (0 : Int32)), (.int (0 : Int32)), (.int (0 : Int32)), (.int (0 : Int32)), (.int (0 : Int32)), (.int (0 : Int32)), (.int (0 : Int32)), (.int (0 : Int32)), (.int (0 : Int32)), (.int (0 : Int32)), (.int (0 : Int32)), (.int (0 : Int32)), (.int (0 : Int32)), (.int (0 : Int32)), (.int (0 : Int32))] wb48 kw48 (((0 + (16)) + (mz))) (wl48) G1 T184.heap n0 Z184 E184' FV184' FC184' FN184' AV184' rfl b174 gb184 nab184 (own_om0 mz hw6 hw0) (own_om1 mz hw6 hw0) f205 f206 f207 f208 (own_om12 mz hw6 hw0) f209 O_2 P5 (own_om13 mz hw6 hw0) (own_om14 mz hw6 hw0) (own_om15 mz hw6 hw0)) hZ114 (hw _ (own_w 132 rfl)) (hw _ (own_w 111 rfl)) (by decide) (by decide)) q200a q200c (g := (mkF m 70 #[.val (.double (FP.l2d xa)), .second, .val (.ref a2), .val (.ref a3), .val (.ref o48)] [(.ref o48), (.ref b174o), (.ref a2), (.int (1 : Int32))])) rfl (by rw [hml]; rfl) (Steps.refl _) (argsL := [(.ref o48)]) (rest := [(.ref a2), (.int (1 : Int32))]) (lenOf pd_24 rfl) rfl (by show 2 * 0 + _ ≤ _; exact Nat.le_of_eq rfl) (hb hby d20_70) (fun _ _ => ⟨rfl, rfl, (by decide : 17 + 1 ≤ _), (by decide : 872 + 128 ≤ _)⟩)
  dsimp only [Pt.U, Pt.locs, Pt.cells, Pt.slots] at X200 lq200 yq200 zq200 st200 hQ200
  subst yq200 zq200
  replace X200 : Stand _ _ _ _ _ _ _ _ _ _ _ _ 18 1000 := X200
  obtain ⟨vb200, kb200, vl200, rfl, N200q, KC200, gb200, gk200, nab200, hv200, E200', FV200', FC200', FN200', AV200'⟩ := hQ200
  have N200 : Fr n0 Lq200 := by rw [lq200]; exact Fr.app N184 N200q
  have Z200 : n0 ≤ T200.heap.size := Nat.le_trans Z184 KC200.1
  have ne210 : a3 ≠ vb200 := Nat.ne_of_lt (Nat.lt_of_lt_of_le f203.lt gk200)
  have ne211 : wb ≠ vb200 := Nat.ne_of_lt (Nat.lt_of_lt_of_le f204.lt gk200)
  have ne212 : o48 ≠ vb200 := Nat.ne_of_lt (Nat.lt_of_lt_of_le f207.lt gk200)
  have ne213 : wb48 ≠ vb200 := Nat.ne_of_lt (Nat.lt_of_lt_of_le f208.lt gk200)
  have ne214 : vb184 ≠ vb200 := Nat.ne_of_lt (Nat.lt_of_lt_of_le AV184'.lt gk200)
  have K200 : Keep h0 T200.heap [] := K184.trans KC200 (allS (Or.inr bk174) all0)
  have CR215 := CR198.trans (CHr.keep KC200 (sfS (Safe.exa (State.Warmed39.alike hZ114) E184' (by decide) (by decide)) sf0) CR198.1)
  have SF216 := Safe.keep KC200 (sfS (Safe.exa (State.Warmed39.alike hZ114) E184' (by decide) (by decide)) sf0) CR198.1 (Safe.new gk200)
  obtain ⟨sa217, T217, h217, k1217, sb217, sk217, X217, e217, E217, hS217, hk217, hZ217, ho217, SE217, SC217, SV217, SA217, -, -, CC217, -, NE217, st217⟩ := ldcCH (s := s) (vm0 := T114.vm) (Z := Z) (h := T200.heap) X200 hx hZ114 ho114 (hw _ (own_w 230 rfl)) wS rfl hS114 (Nat.le_trans (Nat.le_trans (Nat.le_trans (Nat.le_trans (Nat.le_trans hk114 KC118.1) KC141.1) E174.1) KC184.1) KC200.1) hEL (own_w 4 rfl) CR215.1 (vs := [(.int (32 : Int32)), (.int (105 : Int32)), (.int (115 : Int32)), (.int (32 : Int32)), (.int (110 : Int32)), (.int (101 : Int32)), (.int (103 : Int32)), (.int (97 : Int32)), (.int (116 : Int32)), (.int (105 : Int32)), (.int (118 : Int32)), (.int (101 : Int32))]) (z := (12 : Int32)) ⟨by decide +kernel, by decide +kernel⟩ (by decide) (by decide) (g := (mkF m 73 #[.val (.double (FP.l2d xa)), .second, .val (.ref a2), .val (.ref a3), .val (.ref o48)] [(.ref b174o), (.ref a2), (.int (1 : Int32))])) rfl (hb hby d20_73) (n := 48) (by decide +kernel) (by decide) (by decide) (by decide)
  have CR217 := CR215.trans CC217
  have SF218 := CHr.safe CC217 AV200'.lt SF216
  have Z217 : n0 ≤ h217.size := Nat.le_trans Z200 E217.1
  have K217 : Keep h0 h217 [] := K200.ext E217
  replace X217 : Stand _ _ _ _ _ _ _ _ _ _ _ _ 20 1052 := X217
  have f219 := (E200'.ext E217)
  have ns220 := NE217 _ (Safe.exa (State.Warmed39.alike hZ217) f219 (by decide) (by decide))
  have f222 := ((f201.keep KC200).ext E217)
  have f223 := ((f202.keep KC200 (ninS ne176 nin0)).ext E217)
  have f224 := ((f203.keep KC200 (ninS ne176 nin0)).ext E217)
  have f225 := ((f204.keep KC200 (ninS ne178 nin0)).ext E217)
  have f226 := ((f205.keep KC200).ext E217)
  have f227 := ((f206.keep KC200 (ninS ne180 nin0)).ext E217)
  have f228 := ((f207.keep KC200 (ninS ne180 nin0)).ext E217)
  have f229 := ((f208.keep KC200 (ninS ne182 nin0)).ext E217)
  have f230 := (FV200'.ext E217)
  have f231 := (FC200'.ext E217)
  have f232 := (FN200'.ext E217)
  have f233 := (AV200'.ext E217)
  have f234 := ((f209.keep KC200 (allS b174 all0)).ext E217)
  obtain ⟨cq221, kz221, q221a, q221b, q221c⟩ := isOf hZ217 e217 f219
  obtain ⟨_, _, ⟨T221, Lq221, kq221, nq221⟩, -, X221, ⟨Lc221, hQ221, lq221, yq221, zq221⟩, st221⟩ := X217.virtualBack hx (y := (⟨"java/lang/StringBuilder", "append", "(Ljava/lang/String;)Ljava/lang/StringBuilder;"⟩ : MethodName)) (z := (⟨"java/lang/StringBuilder", "append", "(Ljava/lang/String;)Ljava/lang/StringBuilder;"⟩ : MethodName)) ho217 (mvT hZ217 (hw _ (own_w 128 rfl))) (mvT hZ217 (hw _ (own_w 129 rfl))) (notFace_of_selects (args := #[]) (mvT hZ217 (hw _ (own_w 131 rfl)))) (mvT hZ217 (hw _ (own_w 131 rfl))) (mvT hZ217 (hw _ (own_w 130 rfl))) (by decide) (backOf (W := 2) (rXf l Z a0 hw [] b174o sa217 vb200 kb200 ((16 + (16 + 2))) ((0 + (((0 + (16)) + (mz))))) (vl200) sb217 sk217 (12) [(.int (32 : Int32)), (.int (105 : Int32)), (.int (115 : Int32)), (.int (32 : Int32)), (.int (110 : Int32)), (.int (101 : Int32)), (.int (103 : Int32)), (.int (97 : Int32)), (.int (116 : Int32)), (.int (105 : Int32)), (.int (118 : Int32)), (.int (101 : Int32))] G1 h217 n0 Z217 f219 f230 f231 f232 f233 hv200 b174 gb200 nab200 (own_om16 mz hw6 hw0) (own_om17 mz hw6 hw0) SE217 SV217 SC217 SA217 (own_om24 mz hw6 hw0) f234 O_2 P5 (own_om25 mz hw6 hw0) (own_om26 mz hw6 hw0)) hZ217 (hw _ (own_w 132 rfl)) (hw _ (own_w 111 rfl)) (by decide) (by decide)) q221a q221c (g := (mkF m 75 #[.val (.double (FP.l2d xa)), .second, .val (.ref a2), .val (.ref a3), .val (.ref o48)] [(.ref sa217), (.ref b174o), (.ref a2), (.int (1 : Int32))])) rfl (by rw [hml]; rfl) (Steps.refl _) (argsL := [(.ref sa217)]) (rest := [(.ref a2), (.int (1 : Int32))]) (lenOf pd_24 rfl) rfl (by show 2 * 0 + _ ≤ _; exact Nat.le_of_eq rfl) (hb hby d20_75) (fun _ _ => ⟨rfl, e217, (by decide : 20 + 0 ≤ _), (by decide : 1052 + 0 ≤ _)⟩)
  dsimp only [Pt.U, Pt.locs, Pt.cells, Pt.slots] at X221 lq221 yq221 zq221 st221 hQ221
  subst yq221 zq221
  replace X221 : Stand _ _ _ _ _ _ _ _ _ _ _ _ 20 1052 := X221
  obtain ⟨vl221, rfl, N221q, KC221, hv221, E221', FV221', FC221', FN221', AV221'⟩ := hQ221
  have N221 : Fr n0 Lq221 := by rw [lq221]; exact Fr.app N200 N221q
  have Z221 : n0 ≤ T221.heap.size := Nat.le_trans Z217 KC221.1
  have K221 : Keep h0 T221.heap [] := K217.trans KC221 (allS (Or.inr bk174) (allS (Or.inr (Nat.le_trans K184.1 gk200)) all0))
  have CR235 := CR217.trans (CHr.keep KC221 (sfS (Safe.exa (State.Warmed39.alike hZ217) f219 (by decide) (by decide)) (sfS SF218 sf0)) CR217.1)
  have SF236 := Safe.keep KC221 (sfS (Safe.exa (State.Warmed39.alike hZ217) f219 (by decide) (by decide)) (sfS SF218 sf0)) CR217.1 SF218
  have f238 := (f222.keep KC221)
  have f239 := (f223.keep KC221 (ninS ne176 (ninS ne210 nin0)))
  have f240 := (f224.keep KC221 (ninS ne176 (ninS ne210 nin0)))
  have f241 := (f225.keep KC221 (ninS ne178 (ninS ne211 nin0)))
  have f242 := (f226.keep KC221)
  have f243 := (f227.keep KC221 (ninS ne180 (ninS ne212 nin0)))
  have f244 := (f228.keep KC221 (ninS ne180 (ninS ne212 nin0)))
  have f245 := (f229.keep KC221 (ninS ne182 (ninS ne213 nin0)))
  have f246 := (SE217.keep KC221)
  have f247 := (SC217.keep KC221 (ninS (Ne.symm ns220.1) (ninS (Ne.symm (NE217 _ SF218).1) nin0)))
  have f248 := (SV217.keep KC221 (ninS (Ne.symm ns220.1) (ninS (Ne.symm (NE217 _ SF218).1) nin0)))
  have f249 := (SA217.keep KC221 (ninS (Ne.symm ns220.2) (ninS (Ne.symm (NE217 _ SF218).2) nin0)))
  have f250 := (f234.keep KC221 (allS b174 (allS gb200 all0)))
  obtain ⟨cq237, kz237, q237a, q237b, q237c⟩ := isOf hZ217 rfl E221'
  obtain ⟨_, _, ⟨T237, Lq237, kq237, nq237⟩, -, X237, ⟨Lc237, hQ237, lq237, yq237, zq237⟩, st237⟩ := X221.virtualBack hx (y := (⟨"java/lang/StringBuilder", "toString", "()Ljava/lang/String;"⟩ : MethodName)) (z := (⟨"java/lang/StringBuilder", "toString", "()Ljava/lang/String;"⟩ : MethodName)) ho217 (mvT hZ217 (hw _ (own_w 188 rfl))) (mvT hZ217 (hw _ (own_w 189 rfl))) (notFace_of_selects (args := #[]) (mvT hZ217 (hw _ (own_w 191 rfl)))) (mvT hZ217 (hw _ (own_w 191 rfl))) (mvT hZ217 (hw _ (own_w 190 rfl))) (by decide) (backOf (W := 2) (rTS l Z a0 hw [] b174o vb200 kb200 ((16 + (16 + 2))) (((0 + (((0 + (16)) + (mz)))) + (12))) (vl221) G1 T221.heap n0 Z221 E221' FV221' FC221' FN221' AV221' (own_om27 mz hw6 hw0) (own_om11 mz hw6 hw0) f250 O_2 P5) hZ217 (hw _ (own_w 192 rfl)) (hw _ (own_w 111 rfl)) (by decide) (by decide)) q237a q237c (g := (mkF m 78 #[.val (.double (FP.l2d xa)), .second, .val (.ref a2), .val (.ref a3), .val (.ref o48)] [(.ref b174o), (.ref a2), (.int (1 : Int32))])) rfl (by rw [hml]; rfl) (Steps.refl _) (argsL := []) (rest := [(.ref a2), (.int (1 : Int32))]) (lenOf pd_25 rfl) rfl (by show 2 * 0 + _ ≤ _; exact Nat.le_of_eq rfl) (hb hby d20_78) (fun _ _ => ⟨rfl, rfl, (by decide : 20 + 2 ≤ _), (by decide : 1052 + 132 ≤ _)⟩)
  dsimp only [Pt.U, Pt.locs, Pt.cells, Pt.slots] at X237 lq237 yq237 zq237 st237 hQ237
  subst yq237 zq237
  replace X237 : Stand _ _ _ _ _ _ _ _ _ _ _ _ 22 1184 := X237
  obtain ⟨o237, wb237, kw237, wl237, rfl, N237q, KC237, go237, gk237, gw237, gx237, nw237, E237', FV237', FC237', AV237'⟩ := hQ237
  have N237 : Fr n0 Lq237 := by rw [lq237]; exact Fr.app N221 N237q
  have Z237 : n0 ≤ T237.heap.size := Nat.le_trans Z221 KC237.1
  have ne251 : a3 ≠ o237 := Nat.ne_of_lt (Nat.lt_of_lt_of_le f240.lt gk237)
  have ne252 : wb ≠ o237 := Nat.ne_of_lt (Nat.lt_of_lt_of_le f241.lt gk237)
  have ne253 : o48 ≠ o237 := Nat.ne_of_lt (Nat.lt_of_lt_of_le f244.lt gk237)
  have ne254 : wb48 ≠ o237 := Nat.ne_of_lt (Nat.lt_of_lt_of_le f245.lt gk237)
  have ne255 : b174o ≠ o237 := Nat.ne_of_lt (Nat.lt_of_lt_of_le FN221'.lt gk237)
  have ne256 : vb200 ≠ o237 := Nat.ne_of_lt (Nat.lt_of_lt_of_le AV221'.lt gk237)
  have ne257 : sa217 ≠ o237 := Nat.ne_of_lt (Nat.lt_of_lt_of_le f248.lt gk237)
  have ne258 : sb217 ≠ o237 := Nat.ne_of_lt (Nat.lt_of_lt_of_le f249.lt gk237)
  have ne259 : a3 ≠ wb237 := Nat.ne_of_lt (Nat.lt_of_lt_of_le f240.lt gx237)
  have ne260 : wb ≠ wb237 := Nat.ne_of_lt (Nat.lt_of_lt_of_le f241.lt gx237)
  have ne261 : o48 ≠ wb237 := Nat.ne_of_lt (Nat.lt_of_lt_of_le f244.lt gx237)
  have ne262 : wb48 ≠ wb237 := Nat.ne_of_lt (Nat.lt_of_lt_of_le f245.lt gx237)
  have ne263 : b174o ≠ wb237 := Nat.ne_of_lt (Nat.lt_of_lt_of_le FN221'.lt gx237)
  have ne264 : vb200 ≠ wb237 := Nat.ne_of_lt (Nat.lt_of_lt_of_le AV221'.lt gx237)
  have ne265 : sa217 ≠ wb237 := Nat.ne_of_lt (Nat.lt_of_lt_of_le f248.lt gx237)
  have ne266 : sb217 ≠ wb237 := Nat.ne_of_lt (Nat.lt_of_lt_of_le f249.lt gx237)
  have K237 : Keep h0 T237.heap [] := K221.trans KC237 all0
  have CR267 := CR235.trans (CHr.keep KC237 sf0 CR235.1)
  have SF268 := Safe.keep KC237 sf0 CR235.1 SF236
  obtain ⟨_, _, ⟨T269, Lq269, kq269, nq269⟩, -, X269, ⟨Lc269, hQ269, lq269, yq269, zq269⟩, st269⟩ := Jvm.LawKit.callS X237 hx (y := (⟨"com/example/glidepath/glidepath/instance/Aircraft", "require", "(ZLjava/lang/String;Ljava/lang/String;)V"⟩ : MethodName)) ho217 (mvT hZ217 (hw _ (own_w 96 rfl))) (mvT hZ217 (hw _ (own_w 97 rfl))) (mvT hZ217 (hw _ (own_w 3 rfl))) (mvT hZ217 (hw _ (own_w 98 rfl))) (by decide) (backOf (W := 0) (rRq l Z a0 hw [] a2 o237  T237.heap n0 Z237 ) hZ217 (hw _ (own_w 98 rfl)) (hw _ (own_w 3 rfl)) (by decide) (by decide)) (g := (mkF m 81 #[.val (.double (FP.l2d xa)), .second, .val (.ref a2), .val (.ref a3), .val (.ref o48)] [(.ref o237), (.ref a2), (.int (1 : Int32))])) rfl (by rw [hml]; rfl) (argsL := [(.int (1 : Int32)), (.ref a2), (.ref o237)]) (rest := []) (lenOf pd_27 rfl) rfl (by show 2 * 0 + _ ≤ _; exact Nat.le_of_eq rfl) (hb hby d20_81) (fun _ _ => ⟨rfl, rfl, (by decide : 22 + 0 ≤ _), (by decide : 1184 + 0 ≤ _)⟩)
  dsimp only [Pt.U, Pt.locs, Pt.cells, Pt.slots] at X269 lq269 yq269 zq269 st269 hQ269
  subst yq269 zq269
  replace X269 : Stand _ _ _ _ _ _ _ _ _ _ _ _ 22 1184 := X269
  obtain ⟨rfl, N269q, e269⟩ := hQ269
  have N269 : Fr n0 Lq269 := by rw [lq269]; exact Fr.app N237 N269q
  obtain ⟨fs, hr, hrun, hended, hwd⟩ := Jvm.Stand.leaveW (s := s) (vm₁ := T217.vm) X269 hS217 (Nat.le_trans (Nat.le_trans (Nat.le_trans hk217 KC221.1) KC237.1) (Nat.le_of_eq (congrArg Array.size e269).symm)) (v := none) (fun _ => rfl)
  refine ⟨_, _, pre0 _ ?_, hrun, hended, _, _, rfl, ?_, (by show CHr Z own_EL s.vm s.heap T269.vm T269.heap; rw [hh, e269]; exact CR267.trans (CHv.at X269 hZ217 hEL CR267.1)), hwd.1, hwd.2.1, hwd.2.2.1, hwd.2.2.2.mono (by decide) (by decide)⟩
  · show Steps p.tables e below (s₁.setTop (mkF m 0 #[.val (.double f1), .second, .val (.ref a2), .val (.ref a3), .unset] [])) _
    rw [hf]
    show Steps p.tables e below (s₁.setTop (mkF m 0 #[.val (.double (FP.l2d xa)), .second, .val (.ref a2), .val (.ref a3), .unset] [])) _
    refine st1 _ ?_
    refine XS.dup X1.here hx rfl (hb hby d20_3) rfl rfl ?_
    refine st5.trans ?_
    refine st15 _ ?_
    refine st19.trans ?_
    refine XS.aloadN X19.here hx rfl (hb hby d20_12) rfl rfl ?_
    refine st31.trans ?_
    refine st48.trans ?_
    refine XS.astore X48.here hx rfl (hb hby d20_19) rfl rfl (l' := #[.val (.double (FP.l2d xa)), .second, .val (.ref a2), .val (.ref a3), .val (.ref o48)]) rfl ?_
    refine XS.dloadN X48.here hx rfl (hb hby d20_21) rfl ?_
    refine st72 _ ?_
    refine XS.aloadN X72.here hx rfl (hb hby d20_25) rfl rfl ?_
    refine st73 _ ?_
    refine XS.dup X73.here hx rfl (hb hby d20_29) rfl rfl ?_
    refine st81.trans ?_
    refine XS.aload X81.here hx rfl (hb hby d20_33) rfl rfl ?_
    refine st97.trans ?_
    refine st114 _ ?_
    refine st118.trans ?_
    refine st141.trans ?_
    refine st173 _ ?_
    refine XS.dloadN X173.here hx rfl (hb hby d20_49) rfl ?_
    refine XS.dconst0 X173.here hx rfl (hb hby d20_50) (v := FP.l2d 0) (by decide +kernel) ?_
    refine XS.dcmpS X173.here hx rfl (hb hby d20_51) rfl (v := (lcmpW xa 0)) (dcmpV_w (own_rate53 hrt) (own_b53 (by decide) (by decide)) _) ?_
    refine XS.ifNo X173.here hx rfl (hb hby d20_52) rfl ((if0 _ _).trans (flt (own_lcnlt (by rw [Int64.lt_iff_toInt_lt, show (0 : Int64).toInt = 0 from rfl]; exact Int.not_lt.mpr hrt.1))).1) ?_
    refine XS.iconst X173.here hx rfl (hb hby d20_55) ?_
    refine XS.goto X173.here hx rfl (pc0 := 56) (pc' := 60) rfl (hb hby d20_56) (by decide) (by decide) ?_
    refine XS.aloadN X173.here hx rfl (hb hby d20_60) rfl rfl ?_
    refine st174 _ ?_
    refine XS.dup X174.here hx rfl (hb hby d20_64) rfl rfl ?_
    refine st184.trans ?_
    refine XS.aload X184.here hx rfl (hb hby d20_68) rfl rfl ?_
    refine st200.trans ?_
    refine st217 _ ?_
    refine st221.trans ?_
    refine st237.trans ?_
    refine st269 _ ?_
    show Steps p.tables e below (T269.setTop (mkF m 84 #[.val (.double (FP.l2d xa)), .second, .val (.ref a2), .val (.ref a3), .val (.ref o48)] [])) _
    exact X269.returnOut hx Bd.returns (hb hby d20_84) hr
  · show QrRr Z f1 a2 a3 xa wb kw mz wl G1 h0 n0 _ T269.heap _
    rw [e269]
    exact ⟨rfl, N269, K237⟩
theorem pd_28 : parseMethodDescriptor "(Ljava/lang/Object;Ljava/lang/String;)Ljava/lang/Object;" = some ⟨[(.object "java/lang/Object"), (.object "java/lang/String")], some (.object "java/lang/Object")⟩ := by decide +kernel
theorem pd_29 : parseMethodDescriptor "(DLjava/lang/String;Ljava/lang/String;)V" = some ⟨[.double, (.object "java/lang/String"), (.object "java/lang/String")], none⟩ := by decide +kernel
theorem pd_30 : parseMethodDescriptor "(Ljava/util/function/Function;)Ljava/util/Optional;" = some ⟨[(.object "java/util/function/Function")], some (.object "java/util/Optional")⟩ := by decide +kernel
theorem pd_31 : parseMethodDescriptor "(Z)Ljava/lang/Boolean;" = some ⟨[.boolean], some (.object "java/lang/Boolean")⟩ := by decide +kernel
theorem d3_0 : decode prog_13_method_1_code 0 = .ok (.aload_n 0, 1) := by decide +kernel
theorem d3_1 : decode prog_13_method_1_code 1 = .ok (.invokespecial 1, 3) := by decide +kernel
theorem d3_4 : decode prog_13_method_1_code 4 = .ok (.aload_n 1, 1) := by decide +kernel
theorem d3_5 : decode prog_13_method_1_code 5 = .ok (.ldc 7, 2) := by decide +kernel
theorem d3_7 : decode prog_13_method_1_code 7 = .ok (.invokestatic 9, 3) := by decide +kernel
theorem d3_10 : decode prog_13_method_1_code 10 = .ok (.pop, 1) := by decide +kernel
theorem d3_11 : decode prog_13_method_1_code 11 = .ok (.aload 12, 2) := by decide +kernel
theorem d3_13 : decode prog_13_method_1_code 13 = .ok (.ldc 15, 2) := by decide +kernel
theorem d3_15 : decode prog_13_method_1_code 15 = .ok (.invokestatic 9, 3) := by decide +kernel
theorem d3_18 : decode prog_13_method_1_code 18 = .ok (.pop, 1) := by decide +kernel
theorem d3_19 : decode prog_13_method_1_code 19 = .ok (.aload 13, 2) := by decide +kernel
theorem d3_21 : decode prog_13_method_1_code 21 = .ok (.ldc 17, 2) := by decide +kernel
theorem d3_23 : decode prog_13_method_1_code 23 = .ok (.invokestatic 9, 3) := by decide +kernel
theorem d3_26 : decode prog_13_method_1_code 26 = .ok (.pop, 1) := by decide +kernel
theorem d3_27 : decode prog_13_method_1_code 27 = .ok (.aload_n 1, 1) := by decide +kernel
theorem d3_28 : decode prog_13_method_1_code 28 = .ok (.invokevirtual 19, 3) := by decide +kernel
theorem d3_31 : decode prog_13_method_1_code 31 = .ok (.ifCond .eq 13, 3) := by decide +kernel
theorem d3_44 : decode prog_13_method_1_code 44 = .ok (.dload_n 2, 1) := by decide +kernel
theorem d3_45 : decode prog_13_method_1_code 45 = .ok (.invokestatic 32, 3) := by decide +kernel
theorem d3_48 : decode prog_13_method_1_code 48 = .ok (.aload_n 1, 1) := by decide +kernel
theorem d3_49 : decode prog_13_method_1_code 49 = .ok (.ldc 38, 2) := by decide +kernel
theorem d3_51 : decode prog_13_method_1_code 51 = .ok (.invokestatic 40, 3) := by decide +kernel
theorem d3_54 : decode prog_13_method_1_code 54 = .ok (.dload 4, 2) := by decide +kernel
theorem d3_56 : decode prog_13_method_1_code 56 = .ok (.invokestatic 32, 3) := by decide +kernel
theorem d3_59 : decode prog_13_method_1_code 59 = .ok (.aload_n 1, 1) := by decide +kernel
theorem d3_60 : decode prog_13_method_1_code 60 = .ok (.ldc 46, 2) := by decide +kernel
theorem d3_62 : decode prog_13_method_1_code 62 = .ok (.invokestatic 40, 3) := by decide +kernel
theorem d3_65 : decode prog_13_method_1_code 65 = .ok (.dload 6, 2) := by decide +kernel
theorem d3_67 : decode prog_13_method_1_code 67 = .ok (.invokestatic 48, 3) := by decide +kernel
theorem d3_70 : decode prog_13_method_1_code 70 = .ok (.ifCond .ne 7, 3) := by decide +kernel
theorem d3_73 : decode prog_13_method_1_code 73 = .ok (.iconst 1, 1) := by decide +kernel
theorem d3_74 : decode prog_13_method_1_code 74 = .ok (.goto 4, 3) := by decide +kernel
theorem d3_78 : decode prog_13_method_1_code 78 = .ok (.aload_n 1, 1) := by decide +kernel
theorem d3_79 : decode prog_13_method_1_code 79 = .ok (.ldc 51, 2) := by decide +kernel
theorem d3_81 : decode prog_13_method_1_code 81 = .ok (.invokestatic 40, 3) := by decide +kernel
theorem d3_84 : decode prog_13_method_1_code 84 = .ok (.dload 4, 2) := by decide +kernel
theorem d3_86 : decode prog_13_method_1_code 86 = .ok (.dload 6, 2) := by decide +kernel
theorem d3_88 : decode prog_13_method_1_code 88 = .ok (.dcmp .g, 1) := by decide +kernel
theorem d3_89 : decode prog_13_method_1_code 89 = .ok (.ifCond .gt 7, 3) := by decide +kernel
theorem d3_92 : decode prog_13_method_1_code 92 = .ok (.iconst 1, 1) := by decide +kernel
theorem d3_93 : decode prog_13_method_1_code 93 = .ok (.goto 4, 3) := by decide +kernel
theorem d3_97 : decode prog_13_method_1_code 97 = .ok (.aload_n 1, 1) := by decide +kernel
theorem d3_98 : decode prog_13_method_1_code 98 = .ok (.ldc 53, 2) := by decide +kernel
theorem d3_100 : decode prog_13_method_1_code 100 = .ok (.invokestatic 40, 3) := by decide +kernel
theorem d3_103 : decode prog_13_method_1_code 103 = .ok (.dload 8, 2) := by decide +kernel
theorem d3_105 : decode prog_13_method_1_code 105 = .ok (.aload_n 1, 1) := by decide +kernel
theorem d3_106 : decode prog_13_method_1_code 106 = .ok (.ldc 55, 2) := by decide +kernel
theorem d3_108 : decode prog_13_method_1_code 108 = .ok (.invokestatic 57, 3) := by decide +kernel
theorem d3_111 : decode prog_13_method_1_code 111 = .ok (.dload 10, 2) := by decide +kernel
theorem d3_113 : decode prog_13_method_1_code 113 = .ok (.aload_n 1, 1) := by decide +kernel
theorem d3_114 : decode prog_13_method_1_code 114 = .ok (.ldc 61, 2) := by decide +kernel
theorem d3_116 : decode prog_13_method_1_code 116 = .ok (.invokestatic 57, 3) := by decide +kernel
theorem d3_119 : decode prog_13_method_1_code 119 = .ok (.aload 12, 2) := by decide +kernel
theorem d3_121 : decode prog_13_method_1_code 121 = .ok (.invokedynamic 63, 5) := by decide +kernel
theorem d3_126 : decode prog_13_method_1_code 126 = .ok (.invokevirtual 67, 3) := by decide +kernel
theorem d3_129 : decode prog_13_method_1_code 129 = .ok (.iconst 1, 1) := by decide +kernel
theorem d3_130 : decode prog_13_method_1_code 130 = .ok (.invokestatic 73, 3) := by decide +kernel
theorem d3_133 : decode prog_13_method_1_code 133 = .ok (.invokevirtual 79, 3) := by decide +kernel
theorem d3_136 : decode prog_13_method_1_code 136 = .ok (.checkcast 74, 3) := by decide +kernel
theorem d3_139 : decode prog_13_method_1_code 139 = .ok (.invokevirtual 83, 3) := by decide +kernel
theorem d3_142 : decode prog_13_method_1_code 142 = .ok (.aload_n 1, 1) := by decide +kernel
theorem d3_143 : decode prog_13_method_1_code 143 = .ok (.ldc 86, 2) := by decide +kernel
theorem d3_145 : decode prog_13_method_1_code 145 = .ok (.invokestatic 40, 3) := by decide +kernel
theorem d3_148 : decode prog_13_method_1_code 148 = .ok (.aload 13, 2) := by decide +kernel
theorem d3_150 : decode prog_13_method_1_code 150 = .ok (.invokedynamic 88, 5) := by decide +kernel
theorem d3_155 : decode prog_13_method_1_code 155 = .ok (.invokevirtual 67, 3) := by decide +kernel
theorem d3_158 : decode prog_13_method_1_code 158 = .ok (.iconst 1, 1) := by decide +kernel
theorem d3_159 : decode prog_13_method_1_code 159 = .ok (.invokestatic 73, 3) := by decide +kernel
theorem d3_162 : decode prog_13_method_1_code 162 = .ok (.invokevirtual 79, 3) := by decide +kernel
theorem d3_165 : decode prog_13_method_1_code 165 = .ok (.checkcast 74, 3) := by decide +kernel
theorem d3_168 : decode prog_13_method_1_code 168 = .ok (.invokevirtual 83, 3) := by decide +kernel
theorem d3_171 : decode prog_13_method_1_code 171 = .ok (.aload_n 1, 1) := by decide +kernel
theorem d3_172 : decode prog_13_method_1_code 172 = .ok (.ldc 89, 2) := by decide +kernel
theorem d3_174 : decode prog_13_method_1_code 174 = .ok (.invokestatic 40, 3) := by decide +kernel
theorem d3_177 : decode prog_13_method_1_code 177 = .ok (.aload_n 0, 1) := by decide +kernel
theorem d3_178 : decode prog_13_method_1_code 178 = .ok (.aload_n 1, 1) := by decide +kernel
theorem d3_179 : decode prog_13_method_1_code 179 = .ok (.putfield 91, 3) := by decide +kernel
theorem d3_182 : decode prog_13_method_1_code 182 = .ok (.aload_n 0, 1) := by decide +kernel
theorem d3_183 : decode prog_13_method_1_code 183 = .ok (.dload_n 2, 1) := by decide +kernel
theorem d3_184 : decode prog_13_method_1_code 184 = .ok (.putfield 94, 3) := by decide +kernel
theorem d3_187 : decode prog_13_method_1_code 187 = .ok (.aload_n 0, 1) := by decide +kernel
theorem d3_188 : decode prog_13_method_1_code 188 = .ok (.dload 4, 2) := by decide +kernel
theorem d3_190 : decode prog_13_method_1_code 190 = .ok (.putfield 98, 3) := by decide +kernel
theorem d3_193 : decode prog_13_method_1_code 193 = .ok (.aload_n 0, 1) := by decide +kernel
theorem d3_194 : decode prog_13_method_1_code 194 = .ok (.dload 6, 2) := by decide +kernel
theorem d3_196 : decode prog_13_method_1_code 196 = .ok (.putfield 101, 3) := by decide +kernel
theorem d3_199 : decode prog_13_method_1_code 199 = .ok (.aload_n 0, 1) := by decide +kernel
theorem d3_200 : decode prog_13_method_1_code 200 = .ok (.dload 8, 2) := by decide +kernel
theorem d3_202 : decode prog_13_method_1_code 202 = .ok (.putfield 104, 3) := by decide +kernel
theorem d3_205 : decode prog_13_method_1_code 205 = .ok (.aload_n 0, 1) := by decide +kernel
theorem d3_206 : decode prog_13_method_1_code 206 = .ok (.dload 10, 2) := by decide +kernel
theorem d3_208 : decode prog_13_method_1_code 208 = .ok (.putfield 107, 3) := by decide +kernel
theorem d3_211 : decode prog_13_method_1_code 211 = .ok (.aload_n 0, 1) := by decide +kernel
theorem d3_212 : decode prog_13_method_1_code 212 = .ok (.aload 12, 2) := by decide +kernel
theorem d3_214 : decode prog_13_method_1_code 214 = .ok (.putfield 110, 3) := by decide +kernel
theorem d3_217 : decode prog_13_method_1_code 217 = .ok (.aload_n 0, 1) := by decide +kernel
theorem d3_218 : decode prog_13_method_1_code 218 = .ok (.aload 13, 2) := by decide +kernel
theorem d3_220 : decode prog_13_method_1_code 220 = .ok (.putfield 113, 3) := by decide +kernel
theorem d3_223 : decode prog_13_method_1_code 223 = .ok (.return_, 1) := by decide +kernel
theorem pn_3 : plainName "com/example/glidepath/glidepath/instance/Aircraft" = true := by first | (simp [plainName, overriddenIn]; done) | decide +kernel
theorem ef_rA8 (m : MethodId) (a1 : Addr) (a2 : Addr) (f3 : UInt64) (f4 : UInt64) (f5 : UInt64) (f6 : UInt64) (f7 : UInt64) (a8 : Addr) (a9 : Addr) : entryFrame m #[(.ref a1), (.ref a2), (.double f3), (.double f4), (.double f5), (.double f6), (.double f7), (.ref a8), (.ref a9)] 14 = mkF m 0 #[.val (.ref a1), .val (.ref a2), .val (.double f3), .second, .val (.double f4), .second, .val (.double f5), .second, .val (.double f6), .second, .val (.double f7), .second, .val (.ref a8), .val (.ref a9)] [] := by first | (simp [entryFrame, mkF, argsToLocals, Value.category]; done) | rfl
def QrA8 (Z : State) (a1 : Addr) (a2 : Addr) (f3 : UInt64) (f4 : UInt64) (f5 : UInt64) (f6 : UInt64) (f7 : UInt64) (a8 : Addr) (a9 : Addr) (xt : Int64) (xe : Int64) (xl : Int64) (wb : Addr) (kw : ClassId) (eo : Addr) (ci : Addr) (ca : Addr) (rcl : Cell) (tb : Addr) (G1 : Int32) (h0 : Heap) (n0 : Nat) (v : Option Value) (h : Heap) (L : List Loc) : Prop := v = none ∧ Fr n0 L ∧ Keep h0 h [a1] ∧ Exa Z h a1 "com/example/glidepath/glidepath/instance/Aircraft" ∧ Fld Z h a1 "com/example/glidepath/glidepath/instance/Aircraft" "target" "D" (.double (FP.l2d xt)) ∧ Fld Z h a1 "com/example/glidepath/glidepath/instance/Aircraft" "costEarly" "D" (.double (FP.l2d xe)) ∧ Fld Z h a1 "com/example/glidepath/glidepath/instance/Aircraft" "costLate" "D" (.double (FP.l2d xl))
set_option maxRecDepth 65536 in
set_option maxHeartbeats 40000000 in
theorem rA8 (l : Launch) (Z : State) (a0 : Array Value) (hw : ∀ d ∈ tables_1, d.before a0 Z = true) (ws : List Jvm.Cond) (a1 : Addr) (a2 : Addr) (f3 : UInt64) (f4 : UInt64) (f5 : UInt64) (f6 : UInt64) (f7 : UInt64) (a8 : Addr) (a9 : Addr) (xt : Int64) (xe : Int64) (xl : Int64) (wb : Addr) (kw : ClassId) (eo : Addr) (ci : Addr) (ca : Addr) (rcl : Cell) (tb : Addr) (G1 : Int32) (h0 : Heap) (n0 : Nat) (Z0 : n0 ≤ h0.size) (hf3 : f3 = FP.l2d xt) (hf4 : f4 = FP.l2d xt) (hf5 : f5 = FP.l2d xt) (hf6 : f6 = FP.l2d xe) (hf7 : f7 = FP.l2d xl) (ht : own_in xt) (he : own_rate xe) (hl : own_rate xl) (EA : Exa Z h0 a1 "com/example/glidepath/glidepath/instance/Aircraft") (DA1 : Fld Z h0 a1 "com/example/glidepath/glidepath/instance/Aircraft" "target" "D" (.double (0 : UInt64))) (DA2 : Fld Z h0 a1 "com/example/glidepath/glidepath/instance/Aircraft" "earliest" "D" (.double (0 : UInt64))) (DA3 : Fld Z h0 a1 "com/example/glidepath/glidepath/instance/Aircraft" "latest" "D" (.double (0 : UInt64))) (DA4 : Fld Z h0 a1 "com/example/glidepath/glidepath/instance/Aircraft" "costEarly" "D" (.double (0 : UInt64))) (DA5 : Fld Z h0 a1 "com/example/glidepath/glidepath/instance/Aircraft" "costLate" "D" (.double (0 : UInt64))) (DA0 : Fld Z h0 a1 "com/example/glidepath/glidepath/instance/Aircraft" "id" "Ljava/lang/String;" .null) (DA6 : Fld Z h0 a1 "com/example/glidepath/glidepath/instance/Aircraft" "category" "Ljava/util/Optional;" .null) (DA7 : Fld Z h0 a1 "com/example/glidepath/glidepath/instance/Aircraft" "route" "Ljava/util/Optional;" .null) (ga : n0 ≤ a1) (ES : Exa Z h0 a2 "java/lang/String") (SV : Fld Z h0 a2 "java/lang/String" "value" "[B" (.ref wb)) (SC : Fld Z h0 a2 "java/lang/String" "coder" "B" (.int (0 : Int32))) (AS : Arv Z h0 wb kw .byte (1 : Int32) [(.int (65 : Int32))] (.int (0 : Int32))) (O_E : Sta Z Z.heap "java/util/Optional" "EMPTY" "Ljava/util/Optional;" (.ref eo)) (O_EE : Exa Z Z.heap eo "java/util/Optional") (O_EV : Fld Z Z.heap eo "java/util/Optional" "value" "Ljava/lang/Object;" .null) (O_CI : Sta Z Z.heap "java/lang/CharacterDataLatin1" "instance" "Ljava/lang/CharacterDataLatin1;" (.ref ci)) (O_CE : Exa Z Z.heap ci "java/lang/CharacterDataLatin1") (O_CA : Sta Z Z.heap "java/lang/CharacterDataLatin1" "A" "[I" (.ref ca)) (RA : Arr Z Z.heap ca rcl .int) (RV : rcl.slots[65]? = some (.int (8552417 : Int32))) (O_BT : Sta Z Z.heap "java/lang/Boolean" "TRUE" "Ljava/lang/Boolean;" (.ref tb)) (O_BE : Exa Z Z.heap tb "java/lang/Boolean") (O_BV : Fld Z Z.heap tb "java/lang/Boolean" "value" "Z" (.int (1 : Int32))) (X00 : Old Z n0 h0) (O_2 : Sta Z Z.heap "java/lang/String" "COMPACT_STRINGS" "Z" (.int G1)) (P5 : ¬ (G1 = (0 : Int32))) (hEL : EW Z a0 own_EL) (EO8 : a8 = eo) (EO9 : a9 = eo) :
    MetFree l (⟨"com/example/glidepath/glidepath/instance/Aircraft", "<init>", "(Ljava/lang/String;DDDDDLjava/util/Optional;Ljava/util/Optional;)V"⟩ : MethodName) (head1 (Jvm.Cond.code (⟨"com/example/glidepath/glidepath/instance/Aircraft", "<init>", "(Ljava/lang/String;DDDDDLjava/util/Optional;Ljava/util/Optional;)V"⟩ : MethodName) prog_13_method_1_code 14 none :: ws) ({ frames := 7, cells := 66, slots := 3280, locals := 3073 } : Room)) (fun a U => a = #[(.ref a1), (.ref a2), (.double f3), (.double f4), (.double f5), (.double f6), (.double f7), (.ref a8), (.ref a9)] ∧ Z.Warmed39 U.vm ∧ U.heap = h0 ∧ CHv Z own_EL U.vm h0) (fun _ _ _ _ _ => True) (fun _ U o U' => ∃ v L, o = .returned v ∧ QrA8 Z a1 a2 f3 f4 f5 f6 f7 a8 a9 xt xe xl wb kw eo ci ca rcl tb G1 h0 n0 v U'.heap L ∧ CHr Z own_EL U.vm U.heap U'.vm U'.heap ∧ ReturnedEndW U o U' L ({ frames := 7, cells := 66, slots := 3280, locals := 3073 } : Room).cells ({ frames := 7, cells := 66, slots := 3280, locals := 3073 } : Room).slots) := by
  refine MetFree.of_bodySF (plainFor_of_name pn_3) hisR ?_
  intro p e s m args below meth c s₁ Bd hml0 hP hK
  obtain ⟨rfl, hZ, hh, hUZ⟩ := hP
  have hx := Bd.exec
  have hby := Bd.bytes
  have hml : c.maxLocals = 14 := hml0
  have hown : s.vm.findClass "com/example/glidepath/glidepath/instance/Aircraft" = some m.cls := findClass_of_methodNamed Bd.named
  have hnm := (name_of_methodNamed Bd.named Bd.method).1
  have X0 : Stand p l e ({ frames := 7, cells := 66, slots := 3280, locals := 3073 } : Room) s m #[(.ref a1), (.ref a2), (.double f3), (.double f4), (.double f5), (.double f6), (.double f7), (.ref a8), (.ref a9)] below meth c s₁ [] 0 0 := Stand.of_body Bd
  have e0 : s₁.heap = h0 := by rw [← hh, Bd.state]; rfl
  have N0 := Fr.nil n0
  have pre0 : ∀ t, Steps p.tables e below (s₁.setTop (mkF m 0 #[.val (.ref a1), .val (.ref a2), .val (.double f3), .second, .val (.double f4), .second, .val (.double f5), .second, .val (.double f6), .second, .val (.double f7), .second, .val (.ref a8), .val (.ref a9)] [])) t → Steps p.tables e below (s₁.setTop (entryFrame m #[(.ref a1), (.ref a2), (.double f3), (.double f4), (.double f5), (.double f6), (.double f7), (.ref a8), (.ref a9)] 14)) t := fun t k => castTop (ef_rA8 m a1 a2 f3 f4 f5 f6 f7 a8 a9) k
  have nis : a1 ≠ a2 := own_neE EA ES (by decide)
  have nia : a1 ≠ wb := Exa.neArv EA AS (hw _ (own_w 2 rfl))
  have hS0 : s.Since s.vm s.heap.size := (State.WarmedH.refl s).since _
  have CR0 := CHr.refl hUZ
  have wS : ∀ a ∈ Bundle.stringAtoms, a.before a0 Z = true := fun d hd => hw d ((by decide +kernel : ∀ d ∈ Bundle.stringAtoms, d ∈ tables_1) d hd)
  obtain ⟨_, _, ⟨T1, Lq1, kq1, nq1⟩, -, X1, ⟨Lc1, hQ1, lq1, yq1, zq1⟩, st1⟩ := X0.specialBack hx (y := (⟨"java/lang/Record", "<init>", "()V"⟩ : MethodName)) rfl hown (mvT hZ (hw _ (own_w 23 rfl))) (mvT hZ (hw _ (own_w 24 rfl))) (mvT hZ (hw _ (own_w 27 rfl))) (by decide) (backOf (W := 0) (rRe l Z a0 hw [] a1  h0 n0 Z0 ) hZ (hw _ (own_w 27 rfl)) (hw _ (own_w 26 rfl)) (by decide) (by decide)) (g := (mkF m 1 #[.val (.ref a1), .val (.ref a2), .val (.double (FP.l2d xt)), .second, .val (.double (FP.l2d xt)), .second, .val (.double (FP.l2d xt)), .second, .val (.double (FP.l2d xe)), .second, .val (.double (FP.l2d xl)), .second, .val (.ref eo), .val (.ref eo)] [(.ref a1)])) rfl (by rw [hml]; rfl) (Steps.refl _) (a := a1) (argsL := []) (rest := []) (lenOf pd_23 rfl) rfl (by show 2 * 0 + _ ≤ _; exact Nat.le_of_eq rfl) (hb hby d3_1) (fun _ _ => ⟨rfl, e0, (by decide : 0 + 0 ≤ _), (by decide : 0 + 0 ≤ _)⟩)
  dsimp only [Pt.U, Pt.locs, Pt.cells, Pt.slots] at X1 lq1 yq1 zq1 st1 hQ1
  subst yq1 zq1
  replace X1 : Stand _ _ _ _ _ _ _ _ _ _ _ _ 0 0 := X1
  obtain ⟨rfl, N1q, e1⟩ := hQ1
  have N1 : Fr n0 Lq1 := by rw [lq1]; exact Fr.app N0 N1q
  obtain ⟨sa2, T2, h2, k12, X2, e2, E2, hS2, hk2, hZ2, ho2, CC2, -, st2⟩ := ldcOH (s := s) (vm0 := s.vm) (Z := Z) (h := h0) X1 hx hZ hown (hw _ (own_w 31 rfl)) wS e1 hS0 (Nat.le_of_eq (congrArg Array.size hh)) hEL CR0.1 (g := (mkF m 5 #[.val (.ref a1), .val (.ref a2), .val (.double (FP.l2d xt)), .second, .val (.double (FP.l2d xt)), .second, .val (.double (FP.l2d xt)), .second, .val (.double (FP.l2d xe)), .second, .val (.double (FP.l2d xl)), .second, .val (.ref eo), .val (.ref eo)] [(.ref a2)])) rfl (hb hby d3_5) (n := 8) (by decide +kernel) (by decide) (by decide) (by decide)
  have CR2 := CR0.trans CC2
  have Z2 : n0 ≤ h2.size := Nat.le_trans Z0 E2.1
  have K2 : Keep h0 h2 [a1] := (Keep.refl h0 [a1]).ext E2
  replace X2 : Stand _ _ _ _ _ _ _ _ _ _ _ _ 2 12 := X2
  obtain ⟨_, _, ⟨T3, Lq3, kq3, nq3⟩, -, X3, ⟨Lc3, hQ3, lq3, yq3, zq3⟩, st3⟩ := Jvm.LawKit.callS X2 hx (y := (⟨"java/util/Objects", "requireNonNull", "(Ljava/lang/Object;Ljava/lang/String;)Ljava/lang/Object;"⟩ : MethodName)) ho2 (mvT hZ2 (hw _ (own_w 32 rfl))) (mvT hZ2 (hw _ (own_w 33 rfl))) (mvT hZ2 (hw _ (own_w 34 rfl))) (mvT hZ2 (hw _ (own_w 35 rfl))) (by decide) (backOf (W := 0) (rR2 l Z a0 hw [] a2 sa2  h2 n0 Z2 ) hZ2 (hw _ (own_w 35 rfl)) (hw _ (own_w 34 rfl)) (by decide) (by decide)) (g := (mkF m 7 #[.val (.ref a1), .val (.ref a2), .val (.double (FP.l2d xt)), .second, .val (.double (FP.l2d xt)), .second, .val (.double (FP.l2d xt)), .second, .val (.double (FP.l2d xe)), .second, .val (.double (FP.l2d xl)), .second, .val (.ref eo), .val (.ref eo)] [(.ref sa2), (.ref a2)])) rfl (by rw [hml]; rfl) (argsL := [(.ref a2), (.ref sa2)]) (rest := []) (lenOf pd_28 rfl) rfl (by show 2 * 0 + _ ≤ _; exact Nat.le_of_eq rfl) (hb hby d3_7) (fun _ _ => ⟨rfl, e2, (by decide : 2 + 0 ≤ _), (by decide : 12 + 0 ≤ _)⟩)
  dsimp only [Pt.U, Pt.locs, Pt.cells, Pt.slots] at X3 lq3 yq3 zq3 st3 hQ3
  subst yq3 zq3
  replace X3 : Stand _ _ _ _ _ _ _ _ _ _ _ _ 2 12 := X3
  obtain ⟨rfl, N3q, e3⟩ := hQ3
  have N3 : Fr n0 Lq3 := by rw [lq3]; exact Fr.app N1 N3q
  obtain ⟨sa4, T4, h4, k14, X4, e4, E4, hS4, hk4, hZ4, ho4, CC4, -, st4⟩ := ldcOH (s := s) (vm0 := T2.vm) (Z := Z) (h := h2) X3 hx hZ2 ho2 (hw _ (own_w 36 rfl)) wS e3 hS2 hk2 hEL CR2.1 (g := (mkF m 13 #[.val (.ref a1), .val (.ref a2), .val (.double (FP.l2d xt)), .second, .val (.double (FP.l2d xt)), .second, .val (.double (FP.l2d xt)), .second, .val (.double (FP.l2d xe)), .second, .val (.double (FP.l2d xl)), .second, .val (.ref eo), .val (.ref eo)] [(.ref eo)])) rfl (hb hby d3_13) (n := 32) (by decide +kernel) (by decide) (by decide) (by decide)
  have CR4 := CR2.trans CC4
  have Z4 : n0 ≤ h4.size := Nat.le_trans Z2 E4.1
  have K4 : Keep h0 h4 [a1] := K2.ext E4
  replace X4 : Stand _ _ _ _ _ _ _ _ _ _ _ _ 4 48 := X4
  obtain ⟨_, _, ⟨T5, Lq5, kq5, nq5⟩, -, X5, ⟨Lc5, hQ5, lq5, yq5, zq5⟩, st5⟩ := Jvm.LawKit.callS X4 hx (y := (⟨"java/util/Objects", "requireNonNull", "(Ljava/lang/Object;Ljava/lang/String;)Ljava/lang/Object;"⟩ : MethodName)) ho4 (mvT hZ4 (hw _ (own_w 32 rfl))) (mvT hZ4 (hw _ (own_w 33 rfl))) (mvT hZ4 (hw _ (own_w 34 rfl))) (mvT hZ4 (hw _ (own_w 35 rfl))) (by decide) (backOf (W := 0) (rR2 l Z a0 hw [] eo sa4  h4 n0 Z4 ) hZ4 (hw _ (own_w 35 rfl)) (hw _ (own_w 34 rfl)) (by decide) (by decide)) (g := (mkF m 15 #[.val (.ref a1), .val (.ref a2), .val (.double (FP.l2d xt)), .second, .val (.double (FP.l2d xt)), .second, .val (.double (FP.l2d xt)), .second, .val (.double (FP.l2d xe)), .second, .val (.double (FP.l2d xl)), .second, .val (.ref eo), .val (.ref eo)] [(.ref sa4), (.ref eo)])) rfl (by rw [hml]; rfl) (argsL := [(.ref eo), (.ref sa4)]) (rest := []) (lenOf pd_28 rfl) rfl (by show 2 * 0 + _ ≤ _; exact Nat.le_of_eq rfl) (hb hby d3_15) (fun _ _ => ⟨rfl, e4, (by decide : 4 + 0 ≤ _), (by decide : 48 + 0 ≤ _)⟩)
  dsimp only [Pt.U, Pt.locs, Pt.cells, Pt.slots] at X5 lq5 yq5 zq5 st5 hQ5
  subst yq5 zq5
  replace X5 : Stand _ _ _ _ _ _ _ _ _ _ _ _ 4 48 := X5
  obtain ⟨rfl, N5q, e5⟩ := hQ5
  have N5 : Fr n0 Lq5 := by rw [lq5]; exact Fr.app N3 N5q
  obtain ⟨sa6, T6, h6, k16, X6, e6, E6, hS6, hk6, hZ6, ho6, CC6, -, st6⟩ := ldcOH (s := s) (vm0 := T4.vm) (Z := Z) (h := h4) X5 hx hZ4 ho4 (hw _ (own_w 37 rfl)) wS e5 hS4 hk4 hEL CR4.1 (g := (mkF m 21 #[.val (.ref a1), .val (.ref a2), .val (.double (FP.l2d xt)), .second, .val (.double (FP.l2d xt)), .second, .val (.double (FP.l2d xt)), .second, .val (.double (FP.l2d xe)), .second, .val (.double (FP.l2d xl)), .second, .val (.ref eo), .val (.ref eo)] [(.ref eo)])) rfl (hb hby d3_21) (n := 20) (by decide +kernel) (by decide) (by decide) (by decide)
  have CR6 := CR4.trans CC6
  have Z6 : n0 ≤ h6.size := Nat.le_trans Z4 E6.1
  have K6 : Keep h0 h6 [a1] := K4.ext E6
  replace X6 : Stand _ _ _ _ _ _ _ _ _ _ _ _ 6 72 := X6
  obtain ⟨_, _, ⟨T7, Lq7, kq7, nq7⟩, -, X7, ⟨Lc7, hQ7, lq7, yq7, zq7⟩, st7⟩ := Jvm.LawKit.callS X6 hx (y := (⟨"java/util/Objects", "requireNonNull", "(Ljava/lang/Object;Ljava/lang/String;)Ljava/lang/Object;"⟩ : MethodName)) ho6 (mvT hZ6 (hw _ (own_w 32 rfl))) (mvT hZ6 (hw _ (own_w 33 rfl))) (mvT hZ6 (hw _ (own_w 34 rfl))) (mvT hZ6 (hw _ (own_w 35 rfl))) (by decide) (backOf (W := 0) (rR2 l Z a0 hw [] eo sa6  h6 n0 Z6 ) hZ6 (hw _ (own_w 35 rfl)) (hw _ (own_w 34 rfl)) (by decide) (by decide)) (g := (mkF m 23 #[.val (.ref a1), .val (.ref a2), .val (.double (FP.l2d xt)), .second, .val (.double (FP.l2d xt)), .second, .val (.double (FP.l2d xt)), .second, .val (.double (FP.l2d xe)), .second, .val (.double (FP.l2d xl)), .second, .val (.ref eo), .val (.ref eo)] [(.ref sa6), (.ref eo)])) rfl (by rw [hml]; rfl) (argsL := [(.ref eo), (.ref sa6)]) (rest := []) (lenOf pd_28 rfl) rfl (by show 2 * 0 + _ ≤ _; exact Nat.le_of_eq rfl) (hb hby d3_23) (fun _ _ => ⟨rfl, e6, (by decide : 6 + 0 ≤ _), (by decide : 72 + 0 ≤ _)⟩)
  dsimp only [Pt.U, Pt.locs, Pt.cells, Pt.slots] at X7 lq7 yq7 zq7 st7 hQ7
  subst yq7 zq7
  replace X7 : Stand _ _ _ _ _ _ _ _ _ _ _ _ 6 72 := X7
  obtain ⟨rfl, N7q, e7⟩ := hQ7
  have N7 : Fr n0 Lq7 := by rw [lq7]; exact Fr.app N5 N7q
  have f9 := (((ES.ext E2).ext E4).ext E6)
  have f10 := (((SV.ext E2).ext E4).ext E6)
  have f11 := (((SC.ext E2).ext E4).ext E6)
  have f12 := (((AS.ext E2).ext E4).ext E6)
  have f13 := (((X00.ext E2).ext E4).ext E6)
  obtain ⟨cq8, kz8, q8a, q8b, q8c⟩ := isOf hZ6 e7 f9
  obtain ⟨_, _, ⟨T8, Lq8, kq8, nq8⟩, -, X8, ⟨Lc8, hQ8, lq8, yq8, zq8⟩, st8⟩ := X7.virtualBack hx (y := (⟨"java/lang/String", "isBlank", "()Z"⟩ : MethodName)) (z := (⟨"java/lang/String", "isBlank", "()Z"⟩ : MethodName)) ho6 (mvT hZ6 (hw _ (own_w 38 rfl))) (mvT hZ6 (hw _ (own_w 39 rfl))) (notFace_of_selects (args := #[]) (mvT hZ6 (hw _ (own_w 41 rfl)))) (mvT hZ6 (hw _ (own_w 41 rfl))) (mvT hZ6 (hw _ (own_w 40 rfl))) (by decide) (backOf (W := 0) (rIb l Z a0 hw [] a2 wb kw ci ca rcl G1 h6 n0 Z6 f9 f10 f11 f12 f13 O_CA RA RV O_CI O_CE O_2 P5) hZ6 (hw _ (own_w 42 rfl)) (hw _ (own_w 5 rfl)) (by decide) (by decide)) q8a q8c (g := (mkF m 28 #[.val (.ref a1), .val (.ref a2), .val (.double (FP.l2d xt)), .second, .val (.double (FP.l2d xt)), .second, .val (.double (FP.l2d xt)), .second, .val (.double (FP.l2d xe)), .second, .val (.double (FP.l2d xl)), .second, .val (.ref eo), .val (.ref eo)] [(.ref a2)])) rfl (by rw [hml]; rfl) (Steps.refl _) (argsL := []) (rest := []) (lenOf pd_14 rfl) rfl (by show 2 * 0 + _ ≤ _; exact Nat.le_of_eq rfl) (hb hby d3_28) (fun _ _ => ⟨rfl, e7, (by decide : 6 + 0 ≤ _), (by decide : 72 + 0 ≤ _)⟩)
  dsimp only [Pt.U, Pt.locs, Pt.cells, Pt.slots] at X8 lq8 yq8 zq8 st8 hQ8
  subst yq8 zq8
  replace X8 : Stand _ _ _ _ _ _ _ _ _ _ _ _ 6 72 := X8
  obtain ⟨r8, hr8, rfl, N8q, e8⟩ := hQ8
  have N8 : Fr n0 Lq8 := by rw [lq8]; exact Fr.app N7 N8q
  subst hr8
  obtain ⟨_, _, ⟨T14, Lq14, kq14, nq14⟩, -, X14, ⟨Lc14, hQ14, lq14, yq14, zq14⟩, st14⟩ := Jvm.LawKit.callS X8 hx (y := (⟨"java/lang/Double", "isFinite", "(D)Z"⟩ : MethodName)) ho6 (mvT hZ6 (hw _ (own_w 86 rfl))) (mvT hZ6 (hw _ (own_w 87 rfl))) (mvT hZ6 (hw _ (own_w 88 rfl))) (mvT hZ6 (hw _ (own_w 89 rfl))) (by decide) (backOf (W := 0) (rFi l Z a0 hw [] (FP.l2d xt) (xt) h6 n0 Z6 rfl) hZ6 (hw _ (own_w 89 rfl)) (hw _ (own_w 88 rfl)) (by decide) (by decide)) (g := (mkF m 45 #[.val (.ref a1), .val (.ref a2), .val (.double (FP.l2d xt)), .second, .val (.double (FP.l2d xt)), .second, .val (.double (FP.l2d xt)), .second, .val (.double (FP.l2d xe)), .second, .val (.double (FP.l2d xl)), .second, .val (.ref eo), .val (.ref eo)] [(.double (FP.l2d xt))])) rfl (by rw [hml]; rfl) (argsL := [(.double (FP.l2d xt))]) (rest := []) (lenOf pd_26 rfl) rfl (by show 2 * 0 + _ ≤ _; exact Nat.le_of_eq rfl) (hb hby d3_45) (fun _ _ => ⟨rfl, e8, (by decide : 6 + 0 ≤ _), (by decide : 72 + 0 ≤ _)⟩)
  dsimp only [Pt.U, Pt.locs, Pt.cells, Pt.slots] at X14 lq14 yq14 zq14 st14 hQ14
  subst yq14 zq14
  replace X14 : Stand _ _ _ _ _ _ _ _ _ _ _ _ 6 72 := X14
  obtain ⟨r14, hr14, rfl, N14q, e14⟩ := hQ14
  have N14 : Fr n0 Lq14 := by rw [lq14]; exact Fr.app N8 N14q
  subst hr14
  obtain ⟨sa15, T15, h15, k115, X15, e15, E15, hS15, hk15, hZ15, ho15, CC15, -, st15⟩ := ldcOH (s := s) (vm0 := T6.vm) (Z := Z) (h := h6) X14 hx hZ6 ho6 (hw _ (own_w 95 rfl)) wS e14 hS6 hk6 hEL CR6.1 (g := (mkF m 49 #[.val (.ref a1), .val (.ref a2), .val (.double (FP.l2d xt)), .second, .val (.double (FP.l2d xt)), .second, .val (.double (FP.l2d xt)), .second, .val (.double (FP.l2d xe)), .second, .val (.double (FP.l2d xl)), .second, .val (.ref eo), .val (.ref eo)] [(.ref a2), (.int (1 : Int32))])) rfl (hb hby d3_49) (n := 168) (by decide +kernel) (by decide) (by decide) (by decide)
  have CR15 := CR6.trans CC15
  have Z15 : n0 ≤ h15.size := Nat.le_trans Z6 E15.1
  have K15 : Keep h0 h15 [a1] := K6.ext E15
  replace X15 : Stand _ _ _ _ _ _ _ _ _ _ _ _ 8 244 := X15
  obtain ⟨_, _, ⟨T16, Lq16, kq16, nq16⟩, -, X16, ⟨Lc16, hQ16, lq16, yq16, zq16⟩, st16⟩ := Jvm.LawKit.callS X15 hx (y := (⟨"com/example/glidepath/glidepath/instance/Aircraft", "require", "(ZLjava/lang/String;Ljava/lang/String;)V"⟩ : MethodName)) ho15 (mvT hZ15 (hw _ (own_w 96 rfl))) (mvT hZ15 (hw _ (own_w 97 rfl))) (mvT hZ15 (hw _ (own_w 3 rfl))) (mvT hZ15 (hw _ (own_w 98 rfl))) (by decide) (backOf (W := 0) (rRq l Z a0 hw [] a2 sa15  h15 n0 Z15 ) hZ15 (hw _ (own_w 98 rfl)) (hw _ (own_w 3 rfl)) (by decide) (by decide)) (g := (mkF m 51 #[.val (.ref a1), .val (.ref a2), .val (.double (FP.l2d xt)), .second, .val (.double (FP.l2d xt)), .second, .val (.double (FP.l2d xt)), .second, .val (.double (FP.l2d xe)), .second, .val (.double (FP.l2d xl)), .second, .val (.ref eo), .val (.ref eo)] [(.ref sa15), (.ref a2), (.int (1 : Int32))])) rfl (by rw [hml]; rfl) (argsL := [(.int (1 : Int32)), (.ref a2), (.ref sa15)]) (rest := []) (lenOf pd_27 rfl) rfl (by show 2 * 0 + _ ≤ _; exact Nat.le_of_eq rfl) (hb hby d3_51) (fun _ _ => ⟨rfl, e15, (by decide : 8 + 0 ≤ _), (by decide : 244 + 0 ≤ _)⟩)
  dsimp only [Pt.U, Pt.locs, Pt.cells, Pt.slots] at X16 lq16 yq16 zq16 st16 hQ16
  subst yq16 zq16
  replace X16 : Stand _ _ _ _ _ _ _ _ _ _ _ _ 8 244 := X16
  obtain ⟨rfl, N16q, e16⟩ := hQ16
  have N16 : Fr n0 Lq16 := by rw [lq16]; exact Fr.app N14 N16q
  obtain ⟨_, _, ⟨T17, Lq17, kq17, nq17⟩, -, X17, ⟨Lc17, hQ17, lq17, yq17, zq17⟩, st17⟩ := Jvm.LawKit.callS X16 hx (y := (⟨"java/lang/Double", "isFinite", "(D)Z"⟩ : MethodName)) ho15 (mvT hZ15 (hw _ (own_w 86 rfl))) (mvT hZ15 (hw _ (own_w 87 rfl))) (mvT hZ15 (hw _ (own_w 88 rfl))) (mvT hZ15 (hw _ (own_w 89 rfl))) (by decide) (backOf (W := 0) (rFi l Z a0 hw [] (FP.l2d xt) (xt) h15 n0 Z15 rfl) hZ15 (hw _ (own_w 89 rfl)) (hw _ (own_w 88 rfl)) (by decide) (by decide)) (g := (mkF m 56 #[.val (.ref a1), .val (.ref a2), .val (.double (FP.l2d xt)), .second, .val (.double (FP.l2d xt)), .second, .val (.double (FP.l2d xt)), .second, .val (.double (FP.l2d xe)), .second, .val (.double (FP.l2d xl)), .second, .val (.ref eo), .val (.ref eo)] [(.double (FP.l2d xt))])) rfl (by rw [hml]; rfl) (argsL := [(.double (FP.l2d xt))]) (rest := []) (lenOf pd_26 rfl) rfl (by show 2 * 0 + _ ≤ _; exact Nat.le_of_eq rfl) (hb hby d3_56) (fun _ _ => ⟨rfl, e16, (by decide : 8 + 0 ≤ _), (by decide : 244 + 0 ≤ _)⟩)
  dsimp only [Pt.U, Pt.locs, Pt.cells, Pt.slots] at X17 lq17 yq17 zq17 st17 hQ17
  subst yq17 zq17
  replace X17 : Stand _ _ _ _ _ _ _ _ _ _ _ _ 8 244 := X17
  obtain ⟨r17, hr17, rfl, N17q, e17⟩ := hQ17
  have N17 : Fr n0 Lq17 := by rw [lq17]; exact Fr.app N16 N17q
  subst hr17
  obtain ⟨sa18, T18, h18, k118, X18, e18, E18, hS18, hk18, hZ18, ho18, CC18, -, st18⟩ := ldcOH (s := s) (vm0 := T15.vm) (Z := Z) (h := h15) X17 hx hZ15 ho15 (hw _ (own_w 99 rfl)) wS e17 hS15 hk15 hEL CR15.1 (g := (mkF m 60 #[.val (.ref a1), .val (.ref a2), .val (.double (FP.l2d xt)), .second, .val (.double (FP.l2d xt)), .second, .val (.double (FP.l2d xt)), .second, .val (.double (FP.l2d xe)), .second, .val (.double (FP.l2d xl)), .second, .val (.ref eo), .val (.ref eo)] [(.ref a2), (.int (1 : Int32))])) rfl (hb hby d3_60) (n := 176) (by decide +kernel) (by decide) (by decide) (by decide)
  have CR18 := CR15.trans CC18
  have Z18 : n0 ≤ h18.size := Nat.le_trans Z15 E18.1
  have K18 : Keep h0 h18 [a1] := K15.ext E18
  replace X18 : Stand _ _ _ _ _ _ _ _ _ _ _ _ 10 424 := X18
  obtain ⟨_, _, ⟨T19, Lq19, kq19, nq19⟩, -, X19, ⟨Lc19, hQ19, lq19, yq19, zq19⟩, st19⟩ := Jvm.LawKit.callS X18 hx (y := (⟨"com/example/glidepath/glidepath/instance/Aircraft", "require", "(ZLjava/lang/String;Ljava/lang/String;)V"⟩ : MethodName)) ho18 (mvT hZ18 (hw _ (own_w 96 rfl))) (mvT hZ18 (hw _ (own_w 97 rfl))) (mvT hZ18 (hw _ (own_w 3 rfl))) (mvT hZ18 (hw _ (own_w 98 rfl))) (by decide) (backOf (W := 0) (rRq l Z a0 hw [] a2 sa18  h18 n0 Z18 ) hZ18 (hw _ (own_w 98 rfl)) (hw _ (own_w 3 rfl)) (by decide) (by decide)) (g := (mkF m 62 #[.val (.ref a1), .val (.ref a2), .val (.double (FP.l2d xt)), .second, .val (.double (FP.l2d xt)), .second, .val (.double (FP.l2d xt)), .second, .val (.double (FP.l2d xe)), .second, .val (.double (FP.l2d xl)), .second, .val (.ref eo), .val (.ref eo)] [(.ref sa18), (.ref a2), (.int (1 : Int32))])) rfl (by rw [hml]; rfl) (argsL := [(.int (1 : Int32)), (.ref a2), (.ref sa18)]) (rest := []) (lenOf pd_27 rfl) rfl (by show 2 * 0 + _ ≤ _; exact Nat.le_of_eq rfl) (hb hby d3_62) (fun _ _ => ⟨rfl, e18, (by decide : 10 + 0 ≤ _), (by decide : 424 + 0 ≤ _)⟩)
  dsimp only [Pt.U, Pt.locs, Pt.cells, Pt.slots] at X19 lq19 yq19 zq19 st19 hQ19
  subst yq19 zq19
  replace X19 : Stand _ _ _ _ _ _ _ _ _ _ _ _ 10 424 := X19
  obtain ⟨rfl, N19q, e19⟩ := hQ19
  have N19 : Fr n0 Lq19 := by rw [lq19]; exact Fr.app N17 N19q
  obtain ⟨_, _, ⟨T20, Lq20, kq20, nq20⟩, -, X20, ⟨Lc20, hQ20, lq20, yq20, zq20⟩, st20⟩ := Jvm.LawKit.callS X19 hx (y := (⟨"java/lang/Double", "isNaN", "(D)Z"⟩ : MethodName)) ho18 (mvT hZ18 (hw _ (own_w 100 rfl))) (mvT hZ18 (hw _ (own_w 101 rfl))) (mvT hZ18 (hw _ (own_w 88 rfl))) (mvT hZ18 (hw _ (own_w 102 rfl))) (by decide) (backOf (W := 0) (rNa l Z a0 hw [] (FP.l2d xt) (xt) h18 n0 Z18 rfl) hZ18 (hw _ (own_w 102 rfl)) (hw _ (own_w 88 rfl)) (by decide) (by decide)) (g := (mkF m 67 #[.val (.ref a1), .val (.ref a2), .val (.double (FP.l2d xt)), .second, .val (.double (FP.l2d xt)), .second, .val (.double (FP.l2d xt)), .second, .val (.double (FP.l2d xe)), .second, .val (.double (FP.l2d xl)), .second, .val (.ref eo), .val (.ref eo)] [(.double (FP.l2d xt))])) rfl (by rw [hml]; rfl) (argsL := [(.double (FP.l2d xt))]) (rest := []) (lenOf pd_26 rfl) rfl (by show 2 * 0 + _ ≤ _; exact Nat.le_of_eq rfl) (hb hby d3_67) (fun _ _ => ⟨rfl, e19, (by decide : 10 + 0 ≤ _), (by decide : 424 + 0 ≤ _)⟩)
  dsimp only [Pt.U, Pt.locs, Pt.cells, Pt.slots] at X20 lq20 yq20 zq20 st20 hQ20
  subst yq20 zq20
  replace X20 : Stand _ _ _ _ _ _ _ _ _ _ _ _ 10 424 := X20
  obtain ⟨r20, hr20, rfl, N20q, e20⟩ := hQ20
  have N20 : Fr n0 Lq20 := by rw [lq20]; exact Fr.app N19 N20q
  subst hr20
  obtain ⟨sa21, T21, h21, k121, X21, e21, E21, hS21, hk21, hZ21, ho21, CC21, -, st21⟩ := ldcOH (s := s) (vm0 := T18.vm) (Z := Z) (h := h18) X20 hx hZ18 ho18 (hw _ (own_w 103 rfl)) wS e20 hS18 hk18 hEL CR18.1 (g := (mkF m 79 #[.val (.ref a1), .val (.ref a2), .val (.double (FP.l2d xt)), .second, .val (.double (FP.l2d xt)), .second, .val (.double (FP.l2d xt)), .second, .val (.double (FP.l2d xe)), .second, .val (.double (FP.l2d xl)), .second, .val (.ref eo), .val (.ref eo)] [(.ref a2), (.int (1 : Int32))])) rfl (hb hby d3_79) (n := 140) (by decide +kernel) (by decide) (by decide) (by decide)
  have CR21 := CR18.trans CC21
  have Z21 : n0 ≤ h21.size := Nat.le_trans Z18 E21.1
  have K21 : Keep h0 h21 [a1] := K18.ext E21
  replace X21 : Stand _ _ _ _ _ _ _ _ _ _ _ _ 12 568 := X21
  obtain ⟨_, _, ⟨T22, Lq22, kq22, nq22⟩, -, X22, ⟨Lc22, hQ22, lq22, yq22, zq22⟩, st22⟩ := Jvm.LawKit.callS X21 hx (y := (⟨"com/example/glidepath/glidepath/instance/Aircraft", "require", "(ZLjava/lang/String;Ljava/lang/String;)V"⟩ : MethodName)) ho21 (mvT hZ21 (hw _ (own_w 96 rfl))) (mvT hZ21 (hw _ (own_w 97 rfl))) (mvT hZ21 (hw _ (own_w 3 rfl))) (mvT hZ21 (hw _ (own_w 98 rfl))) (by decide) (backOf (W := 0) (rRq l Z a0 hw [] a2 sa21  h21 n0 Z21 ) hZ21 (hw _ (own_w 98 rfl)) (hw _ (own_w 3 rfl)) (by decide) (by decide)) (g := (mkF m 81 #[.val (.ref a1), .val (.ref a2), .val (.double (FP.l2d xt)), .second, .val (.double (FP.l2d xt)), .second, .val (.double (FP.l2d xt)), .second, .val (.double (FP.l2d xe)), .second, .val (.double (FP.l2d xl)), .second, .val (.ref eo), .val (.ref eo)] [(.ref sa21), (.ref a2), (.int (1 : Int32))])) rfl (by rw [hml]; rfl) (argsL := [(.int (1 : Int32)), (.ref a2), (.ref sa21)]) (rest := []) (lenOf pd_27 rfl) rfl (by show 2 * 0 + _ ≤ _; exact Nat.le_of_eq rfl) (hb hby d3_81) (fun _ _ => ⟨rfl, e21, (by decide : 12 + 0 ≤ _), (by decide : 568 + 0 ≤ _)⟩)
  dsimp only [Pt.U, Pt.locs, Pt.cells, Pt.slots] at X22 lq22 yq22 zq22 st22 hQ22
  subst yq22 zq22
  replace X22 : Stand _ _ _ _ _ _ _ _ _ _ _ _ 12 568 := X22
  obtain ⟨rfl, N22q, e22⟩ := hQ22
  have N22 : Fr n0 Lq22 := by rw [lq22]; exact Fr.app N20 N22q
  obtain ⟨sa23, T23, h23, k123, X23, e23, E23, hS23, hk23, hZ23, ho23, CC23, -, st23⟩ := ldcOH (s := s) (vm0 := T21.vm) (Z := Z) (h := h21) X22 hx hZ21 ho21 (hw _ (own_w 104 rfl)) wS e22 hS21 hk21 hEL CR21.1 (g := (mkF m 98 #[.val (.ref a1), .val (.ref a2), .val (.double (FP.l2d xt)), .second, .val (.double (FP.l2d xt)), .second, .val (.double (FP.l2d xt)), .second, .val (.double (FP.l2d xe)), .second, .val (.double (FP.l2d xl)), .second, .val (.ref eo), .val (.ref eo)] [(.ref a2), (.int (1 : Int32))])) rfl (hb hby d3_98) (n := 164) (by decide +kernel) (by decide) (by decide) (by decide)
  have CR23 := CR21.trans CC23
  have Z23 : n0 ≤ h23.size := Nat.le_trans Z21 E23.1
  have K23 : Keep h0 h23 [a1] := K21.ext E23
  replace X23 : Stand _ _ _ _ _ _ _ _ _ _ _ _ 14 736 := X23
  obtain ⟨_, _, ⟨T24, Lq24, kq24, nq24⟩, -, X24, ⟨Lc24, hQ24, lq24, yq24, zq24⟩, st24⟩ := Jvm.LawKit.callS X23 hx (y := (⟨"com/example/glidepath/glidepath/instance/Aircraft", "require", "(ZLjava/lang/String;Ljava/lang/String;)V"⟩ : MethodName)) ho23 (mvT hZ23 (hw _ (own_w 96 rfl))) (mvT hZ23 (hw _ (own_w 97 rfl))) (mvT hZ23 (hw _ (own_w 3 rfl))) (mvT hZ23 (hw _ (own_w 98 rfl))) (by decide) (backOf (W := 0) (rRq l Z a0 hw [] a2 sa23  h23 n0 Z23 ) hZ23 (hw _ (own_w 98 rfl)) (hw _ (own_w 3 rfl)) (by decide) (by decide)) (g := (mkF m 100 #[.val (.ref a1), .val (.ref a2), .val (.double (FP.l2d xt)), .second, .val (.double (FP.l2d xt)), .second, .val (.double (FP.l2d xt)), .second, .val (.double (FP.l2d xe)), .second, .val (.double (FP.l2d xl)), .second, .val (.ref eo), .val (.ref eo)] [(.ref sa23), (.ref a2), (.int (1 : Int32))])) rfl (by rw [hml]; rfl) (argsL := [(.int (1 : Int32)), (.ref a2), (.ref sa23)]) (rest := []) (lenOf pd_27 rfl) rfl (by show 2 * 0 + _ ≤ _; exact Nat.le_of_eq rfl) (hb hby d3_100) (fun _ _ => ⟨rfl, e23, (by decide : 14 + 0 ≤ _), (by decide : 736 + 0 ≤ _)⟩)
  dsimp only [Pt.U, Pt.locs, Pt.cells, Pt.slots] at X24 lq24 yq24 zq24 st24 hQ24
  subst yq24 zq24
  replace X24 : Stand _ _ _ _ _ _ _ _ _ _ _ _ 14 736 := X24
  obtain ⟨rfl, N24q, e24⟩ := hQ24
  have N24 : Fr n0 Lq24 := by rw [lq24]; exact Fr.app N22 N24q
  obtain ⟨sa25, T25, h25, k125, sb25, sk25, X25, e25, E25, hS25, hk25, hZ25, ho25, SE25, SC25, SV25, SA25, -, -, CC25, -, NE25, st25⟩ := ldcCH (s := s) (vm0 := T23.vm) (Z := Z) (h := h23) X24 hx hZ23 ho23 (hw _ (own_w 105 rfl)) wS e24 hS23 hk23 hEL (own_w 0 rfl) CR23.1 (vs := [(.int (101 : Int32)), (.int (97 : Int32)), (.int (114 : Int32)), (.int (108 : Int32)), (.int (121 : Int32))]) (z := (5 : Int32)) ⟨by decide +kernel, by decide +kernel⟩ (by decide) (by decide) (g := (mkF m 106 #[.val (.ref a1), .val (.ref a2), .val (.double (FP.l2d xt)), .second, .val (.double (FP.l2d xt)), .second, .val (.double (FP.l2d xt)), .second, .val (.double (FP.l2d xe)), .second, .val (.double (FP.l2d xl)), .second, .val (.ref eo), .val (.ref eo)] [(.ref a2), (.double (FP.l2d xe))])) rfl (hb hby d3_106) (n := 20) (by decide +kernel) (by decide) (by decide) (by decide)
  have CR25 := CR23.trans CC25
  have Z25 : n0 ≤ h25.size := Nat.le_trans Z23 E25.1
  have K25 : Keep h0 h25 [a1] := K23.ext E25
  replace X25 : Stand _ _ _ _ _ _ _ _ _ _ _ _ 16 760 := X25
  have f26 := ((((((((EA.ext E2).ext E4).ext E6).ext E15).ext E18).ext E21).ext E23).ext E25)
  have ns27 := NE25 _ (Safe.exa (State.Warmed39.alike hZ25) f26 (by decide) (by decide))
  have f29 := (((((f13.ext E15).ext E18).ext E21).ext E23).ext E25)
  obtain ⟨_, _, ⟨T28, Lq28, kq28, nq28⟩, -, X28, hT28, hgr28, ⟨Lc28, hQ28, lq28, yq28, zq28, CC28⟩, st28⟩ := callSS X25 hx (y := (⟨"com/example/glidepath/glidepath/instance/Aircraft", "requireRate", "(DLjava/lang/String;Ljava/lang/String;)V"⟩ : MethodName)) ho25 (mvT hZ25 (hw _ (own_w 106 rfl))) (mvT hZ25 (hw _ (own_w 107 rfl))) (mvT hZ25 (hw _ (own_w 3 rfl))) (mvT hZ25 (hw _ (own_w 108 rfl))) (by decide) (backOfSH (s := s) (vm0 := T25.vm) (W := 0) (rRr l Z a0 hw [] (FP.l2d xe) a2 sa25 (xe) sb25 sk25 (5) [(.int (101 : Int32)), (.int (97 : Int32)), (.int (114 : Int32)), (.int (108 : Int32)), (.int (121 : Int32))] G1 h25 n0 Z25 rfl he SE25 SV25 SC25 SA25 (by decide) (by decide) (by decide) f29 O_2 P5 hEL) hZ25 (hw _ (own_w 108 rfl)) (hw _ (own_w 3 rfl)) (by decide) (by decide) hEL CR25.1) (g := (mkF m 108 #[.val (.ref a1), .val (.ref a2), .val (.double (FP.l2d xt)), .second, .val (.double (FP.l2d xt)), .second, .val (.double (FP.l2d xt)), .second, .val (.double (FP.l2d xe)), .second, .val (.double (FP.l2d xl)), .second, .val (.ref eo), .val (.ref eo)] [(.ref sa25), (.ref a2), (.double (FP.l2d xe))])) rfl (by rw [hml]; rfl) (argsL := [(.double (FP.l2d xe)), (.ref a2), (.ref sa25)]) (rest := []) (lenOf pd_29 rfl) rfl (by show 2 * 0 + _ ≤ _; exact Nat.le_of_eq rfl) (hb hby d3_108) (fun _ _ => ⟨rfl, e25, (by decide : 16 + 22 ≤ _), (by decide : 760 + 1184 ≤ _)⟩)
  dsimp only [Pt.U, Pt.locs, Pt.cells, Pt.slots] at X28 lq28 yq28 zq28 st28 hQ28 hT28 hgr28 CC28
  subst yq28 zq28
  replace X28 : Stand _ _ _ _ _ _ _ _ _ _ _ _ 38 1944 := X28
  have hS28 := foldS hS25 (Nat.le_trans hk25 (Nat.le_of_eq (congrArg Array.size e25).symm)) hT28 hgr28
  have hZ28 : Z.Warmed39 (s.setVm T28.vm).vm := State.Warmed39.trans (t := s.setVm T25.vm) hZ25 hT28.1
  have ho28 : (s.setVm T28.vm).vm.findClass "com/example/glidepath/glidepath/instance/Aircraft" = some m.cls := by rw [show (s.setVm T28.vm).vm = T28.vm from rfl, hT28.1.alike.findClass]; exact ho25
  have CR28 := CR25.trans CC28
  obtain ⟨rfl, N28q, KC28⟩ := hQ28
  have N28 : Fr n0 Lq28 := by rw [lq28]; exact Fr.app N24 N28q
  have Z28 : n0 ≤ T28.heap.size := Nat.le_trans Z25 KC28.1
  have K28 : Keep h0 T28.heap [a1] := K25.trans KC28 all0
  obtain ⟨sa30, T30, h30, k130, sb30, sk30, X30, e30, E30, hS30, hk30, hZ30, ho30, SE30, SC30, SV30, SA30, -, -, CC30, -, NE30, st30⟩ := ldcCH (s := s) (vm0 := T28.vm) (Z := Z) (h := T28.heap) X28 hx hZ28 ho28 (hw _ (own_w 231 rfl)) wS rfl hS28 (Nat.le_refl _) hEL (own_w 1 rfl) CR28.1 (vs := [(.int (108 : Int32)), (.int (97 : Int32)), (.int (116 : Int32)), (.int (101 : Int32))]) (z := (4 : Int32)) ⟨by decide +kernel, by decide +kernel⟩ (by decide) (by decide) (g := (mkF m 114 #[.val (.ref a1), .val (.ref a2), .val (.double (FP.l2d xt)), .second, .val (.double (FP.l2d xt)), .second, .val (.double (FP.l2d xt)), .second, .val (.double (FP.l2d xe)), .second, .val (.double (FP.l2d xl)), .second, .val (.ref eo), .val (.ref eo)] [(.ref a2), (.double (FP.l2d xl))])) rfl (hb hby d3_114) (n := 16) (by decide +kernel) (by decide) (by decide) (by decide)
  have CR30 := CR28.trans CC30
  have Z30 : n0 ≤ h30.size := Nat.le_trans Z28 E30.1
  have K30 : Keep h0 h30 [a1] := K28.ext E30
  replace X30 : Stand _ _ _ _ _ _ _ _ _ _ _ _ 40 1964 := X30
  have f31 := ((f26.keep KC28).ext E30)
  have ns32 := NE30 _ (Safe.exa (State.Warmed39.alike hZ30) f31 (by decide) (by decide))
  have f34 := ((f29.keep KC28 all0).ext E30)
  obtain ⟨_, _, ⟨T33, Lq33, kq33, nq33⟩, -, X33, hT33, hgr33, ⟨Lc33, hQ33, lq33, yq33, zq33, CC33⟩, st33⟩ := callSS X30 hx (y := (⟨"com/example/glidepath/glidepath/instance/Aircraft", "requireRate", "(DLjava/lang/String;Ljava/lang/String;)V"⟩ : MethodName)) ho30 (mvT hZ30 (hw _ (own_w 106 rfl))) (mvT hZ30 (hw _ (own_w 107 rfl))) (mvT hZ30 (hw _ (own_w 3 rfl))) (mvT hZ30 (hw _ (own_w 108 rfl))) (by decide) (backOfSH (s := s) (vm0 := T30.vm) (W := 0) (rRr l Z a0 hw [] (FP.l2d xl) a2 sa30 (xl) sb30 sk30 (4) [(.int (108 : Int32)), (.int (97 : Int32)), (.int (116 : Int32)), (.int (101 : Int32))] G1 h30 n0 Z30 rfl hl SE30 SV30 SC30 SA30 (by decide) (by decide) (by decide) f34 O_2 P5 hEL) hZ30 (hw _ (own_w 108 rfl)) (hw _ (own_w 3 rfl)) (by decide) (by decide) hEL CR30.1) (g := (mkF m 116 #[.val (.ref a1), .val (.ref a2), .val (.double (FP.l2d xt)), .second, .val (.double (FP.l2d xt)), .second, .val (.double (FP.l2d xt)), .second, .val (.double (FP.l2d xe)), .second, .val (.double (FP.l2d xl)), .second, .val (.ref eo), .val (.ref eo)] [(.ref sa30), (.ref a2), (.double (FP.l2d xl))])) rfl (by rw [hml]; rfl) (argsL := [(.double (FP.l2d xl)), (.ref a2), (.ref sa30)]) (rest := []) (lenOf pd_29 rfl) rfl (by show 2 * 0 + _ ≤ _; exact Nat.le_of_eq rfl) (hb hby d3_116) (fun _ _ => ⟨rfl, e30, (by decide : 40 + 22 ≤ _), (by decide : 1964 + 1184 ≤ _)⟩)
  dsimp only [Pt.U, Pt.locs, Pt.cells, Pt.slots] at X33 lq33 yq33 zq33 st33 hQ33 hT33 hgr33 CC33
  subst yq33 zq33
  replace X33 : Stand _ _ _ _ _ _ _ _ _ _ _ _ 62 3148 := X33
  have hS33 := foldS hS30 (Nat.le_trans hk30 (Nat.le_of_eq (congrArg Array.size e30).symm)) hT33 hgr33
  have hZ33 : Z.Warmed39 (s.setVm T33.vm).vm := State.Warmed39.trans (t := s.setVm T30.vm) hZ30 hT33.1
  have ho33 : (s.setVm T33.vm).vm.findClass "com/example/glidepath/glidepath/instance/Aircraft" = some m.cls := by rw [show (s.setVm T33.vm).vm = T33.vm from rfl, hT33.1.alike.findClass]; exact ho30
  have CR33 := CR30.trans CC33
  obtain ⟨rfl, N33q, KC33⟩ := hQ33
  have N33 : Fr n0 Lq33 := by rw [lq33]; exact Fr.app N28 N33q
  have Z33 : n0 ≤ T33.heap.size := Nat.le_trans Z30 KC33.1
  have K33 : Keep h0 T33.heap [a1] := K30.trans KC33 all0
  have hnam121 : (s.setVm T33.vm).methodNamed? (⟨"com/example/glidepath/glidepath/instance/Aircraft", "<init>", "(Ljava/lang/String;DDDDDLjava/util/Optional;Ljava/util/Optional;)V"⟩ : MethodName) = some m := own_named (vm := T33.vm) hZ hZ33 Bd.named
  obtain ⟨la35, st35⟩ := own_lam (T := T33) X33 hx hZ33 (x := (⟨"com/example/glidepath/glidepath/instance/Aircraft", "<init>", "(Ljava/lang/String;DDDDDLjava/util/Optional;Ljava/util/Optional;)V"⟩ : MethodName)) hnam121 (hw _ (own_w 232 rfl)) rfl (g := (mkF m 121 #[.val (.ref a1), .val (.ref a2), .val (.double (FP.l2d xt)), .second, .val (.double (FP.l2d xt)), .second, .val (.double (FP.l2d xt)), .second, .val (.double (FP.l2d xe)), .second, .val (.double (FP.l2d xl)), .second, .val (.ref eo), .val (.ref eo)] [(.ref eo)])) rfl rfl (by rw [hml]; rfl) (hb hby d3_121) (Nat.le_of_ble_eq_true rfl)
  have f37 := (f34.keep KC33 all0)
  obtain ⟨cq36, kz36, q36a, q36b, q36c⟩ := isOf hZ33 rfl (O_EE.ext f37.2)
  obtain ⟨_, _, ⟨T36, Lq36, kq36, nq36⟩, -, X36, ⟨Lc36, hQ36, lq36, yq36, zq36⟩, st36⟩ := X33.virtualBack hx (y := (⟨"java/util/Optional", "map", "(Ljava/util/function/Function;)Ljava/util/Optional;"⟩ : MethodName)) (z := (⟨"java/util/Optional", "map", "(Ljava/util/function/Function;)Ljava/util/Optional;"⟩ : MethodName)) ho33 (mvT hZ33 (hw _ (own_w 235 rfl))) (mvT hZ33 (hw _ (own_w 236 rfl))) (notFace_of_selects (args := #[]) (mvT hZ33 (hw _ (own_w 238 rfl)))) (mvT hZ33 (hw _ (own_w 238 rfl))) (mvT hZ33 (hw _ (own_w 237 rfl))) (by decide) (backOf (W := 0) (rOm l Z a0 hw [] eo la35 eo T33.heap n0 Z33 f37 O_E (O_EE.ext f37.2) (O_EV.ext f37.2)) hZ33 (hw _ (own_w 239 rfl)) (hw _ (own_w 17 rfl)) (by decide) (by decide)) q36a q36c (g := (mkF m 126 #[.val (.ref a1), .val (.ref a2), .val (.double (FP.l2d xt)), .second, .val (.double (FP.l2d xt)), .second, .val (.double (FP.l2d xt)), .second, .val (.double (FP.l2d xe)), .second, .val (.double (FP.l2d xl)), .second, .val (.ref eo), .val (.ref eo)] [(.ref la35), (.ref eo)])) rfl (by rw [hml]; rfl) (Steps.refl _) (argsL := [(.ref la35)]) (rest := []) (lenOf pd_30 rfl) rfl (by show 2 * 0 + _ ≤ _; exact Nat.le_of_eq rfl) (hb hby d3_126) (fun _ _ => ⟨rfl, rfl, (by decide : 62 + 0 ≤ _), (by decide : 3148 + 0 ≤ _)⟩)
  dsimp only [Pt.U, Pt.locs, Pt.cells, Pt.slots] at X36 lq36 yq36 zq36 st36 hQ36
  subst yq36 zq36
  replace X36 : Stand _ _ _ _ _ _ _ _ _ _ _ _ 62 3148 := X36
  obtain ⟨rfl, N36q, e36⟩ := hQ36
  have N36 : Fr n0 Lq36 := by rw [lq36]; exact Fr.app N33 N36q
  obtain ⟨_, _, ⟨T38, Lq38, kq38, nq38⟩, -, X38, ⟨Lc38, hQ38, lq38, yq38, zq38⟩, st38⟩ := Jvm.LawKit.callS X36 hx (y := (⟨"java/lang/Boolean", "valueOf", "(Z)Ljava/lang/Boolean;"⟩ : MethodName)) ho33 (mvT hZ33 (hw _ (own_w 251 rfl))) (mvT hZ33 (hw _ (own_w 252 rfl))) (mvT hZ33 (hw _ (own_w 253 rfl))) (mvT hZ33 (hw _ (own_w 254 rfl))) (by decide) (backOf (W := 1) (rBv l Z a0 hw []  tb T33.heap n0 Z33 f37 O_BT) hZ33 (hw _ (own_w 254 rfl)) (hw _ (own_w 253 rfl)) (by decide) (by decide)) (g := (mkF m 130 #[.val (.ref a1), .val (.ref a2), .val (.double (FP.l2d xt)), .second, .val (.double (FP.l2d xt)), .second, .val (.double (FP.l2d xt)), .second, .val (.double (FP.l2d xe)), .second, .val (.double (FP.l2d xl)), .second, .val (.ref eo), .val (.ref eo)] [(.int (1 : Int32)), (.ref eo)])) rfl (by rw [hml]; rfl) (argsL := [(.int (1 : Int32))]) (rest := [(.ref eo)]) (lenOf pd_31 rfl) rfl (by show 2 * 0 + _ ≤ _; exact Nat.le_of_eq rfl) (hb hby d3_130) (fun _ _ => ⟨rfl, e36, (by decide : 62 + 0 ≤ _), (by decide : 3148 + 0 ≤ _)⟩)
  dsimp only [Pt.U, Pt.locs, Pt.cells, Pt.slots] at X38 lq38 yq38 zq38 st38 hQ38
  subst yq38 zq38
  replace X38 : Stand _ _ _ _ _ _ _ _ _ _ _ _ 62 3148 := X38
  obtain ⟨rfl, N38q, e38⟩ := hQ38
  have N38 : Fr n0 Lq38 := by rw [lq38]; exact Fr.app N36 N38q
  obtain ⟨cq39, kz39, q39a, q39b, q39c⟩ := isOf hZ33 e38 (O_EE.ext f37.2)
  obtain ⟨_, _, ⟨T39, Lq39, kq39, nq39⟩, -, X39, ⟨Lc39, hQ39, lq39, yq39, zq39⟩, st39⟩ := X38.virtualBack hx (y := (⟨"java/util/Optional", "orElse", "(Ljava/lang/Object;)Ljava/lang/Object;"⟩ : MethodName)) (z := (⟨"java/util/Optional", "orElse", "(Ljava/lang/Object;)Ljava/lang/Object;"⟩ : MethodName)) ho33 (mvT hZ33 (hw _ (own_w 256 rfl))) (mvT hZ33 (hw _ (own_w 257 rfl))) (notFace_of_selects (args := #[]) (mvT hZ33 (hw _ (own_w 259 rfl)))) (mvT hZ33 (hw _ (own_w 259 rfl))) (mvT hZ33 (hw _ (own_w 258 rfl))) (by decide) (backOf (W := 0) (rOo l Z a0 hw [] eo tb  T33.heap n0 Z33 (O_EV.ext f37.2)) hZ33 (hw _ (own_w 260 rfl)) (hw _ (own_w 17 rfl)) (by decide) (by decide)) q39a q39c (g := (mkF m 133 #[.val (.ref a1), .val (.ref a2), .val (.double (FP.l2d xt)), .second, .val (.double (FP.l2d xt)), .second, .val (.double (FP.l2d xt)), .second, .val (.double (FP.l2d xe)), .second, .val (.double (FP.l2d xl)), .second, .val (.ref eo), .val (.ref eo)] [(.ref tb), (.ref eo)])) rfl (by rw [hml]; rfl) (Steps.refl _) (argsL := [(.ref tb)]) (rest := []) (lenOf pd_21 rfl) rfl (by show 2 * 0 + _ ≤ _; exact Nat.le_of_eq rfl) (hb hby d3_133) (fun _ _ => ⟨rfl, e38, (by decide : 62 + 0 ≤ _), (by decide : 3148 + 0 ≤ _)⟩)
  dsimp only [Pt.U, Pt.locs, Pt.cells, Pt.slots] at X39 lq39 yq39 zq39 st39 hQ39
  subst yq39 zq39
  replace X39 : Stand _ _ _ _ _ _ _ _ _ _ _ _ 62 3148 := X39
  obtain ⟨rfl, N39q, e39⟩ := hQ39
  have N39 : Fr n0 Lq39 := by rw [lq39]; exact Fr.app N38 N39q
  obtain ⟨T40, X40, e40, st40⟩ := castY X39 hx hZ33 ho33 (hw _ (own_w 261 rfl)) e39 (Ins.self (O_BE.ext f37.2)) (g := (mkF m 136 #[.val (.ref a1), .val (.ref a2), .val (.double (FP.l2d xt)), .second, .val (.double (FP.l2d xt)), .second, .val (.double (FP.l2d xt)), .second, .val (.double (FP.l2d xe)), .second, .val (.double (FP.l2d xl)), .second, .val (.ref eo), .val (.ref eo)] [(.ref tb)])) rfl rfl (hb hby d3_136)
  obtain ⟨cq41, kz41, q41a, q41b, q41c⟩ := isOf hZ33 e40 (O_BE.ext f37.2)
  obtain ⟨_, _, ⟨T41, Lq41, kq41, nq41⟩, -, X41, ⟨Lc41, hQ41, lq41, yq41, zq41⟩, st41⟩ := X40.virtualBack hx (y := (⟨"java/lang/Boolean", "booleanValue", "()Z"⟩ : MethodName)) (z := (⟨"java/lang/Boolean", "booleanValue", "()Z"⟩ : MethodName)) ho33 (mvT hZ33 (hw _ (own_w 263 rfl))) (mvT hZ33 (hw _ (own_w 264 rfl))) (notFace_of_selects (args := #[]) (mvT hZ33 (hw _ (own_w 266 rfl)))) (mvT hZ33 (hw _ (own_w 266 rfl))) (mvT hZ33 (hw _ (own_w 265 rfl))) (by decide) (backOf (W := 0) (rBb l Z a0 hw [] tb  T33.heap n0 Z33 (O_BV.ext f37.2)) hZ33 (hw _ (own_w 267 rfl)) (hw _ (own_w 253 rfl)) (by decide) (by decide)) q41a q41c (g := (mkF m 139 #[.val (.ref a1), .val (.ref a2), .val (.double (FP.l2d xt)), .second, .val (.double (FP.l2d xt)), .second, .val (.double (FP.l2d xt)), .second, .val (.double (FP.l2d xe)), .second, .val (.double (FP.l2d xl)), .second, .val (.ref eo), .val (.ref eo)] [(.ref tb)])) rfl (by rw [hml]; rfl) (Steps.refl _) (argsL := []) (rest := []) (lenOf pd_14 rfl) rfl (by show 2 * 0 + _ ≤ _; exact Nat.le_of_eq rfl) (hb hby d3_139) (fun _ _ => ⟨rfl, e40, (by decide : 62 + 0 ≤ _), (by decide : 3148 + 0 ≤ _)⟩)
  dsimp only [Pt.U, Pt.locs, Pt.cells, Pt.slots] at X41 lq41 yq41 zq41 st41 hQ41
  subst yq41 zq41
  replace X41 : Stand _ _ _ _ _ _ _ _ _ _ _ _ 62 3148 := X41
  obtain ⟨r41, hr41, rfl, N41q, e41⟩ := hQ41
  have N41 : Fr n0 Lq41 := by rw [lq41]; exact Fr.app N39 N41q
  subst hr41
  obtain ⟨sa42, T42, h42, k142, X42, e42, E42, hS42, hk42, hZ42, ho42, CC42, -, st42⟩ := ldcOH (s := s) (vm0 := T33.vm) (Z := Z) (h := T33.heap) X41 hx hZ33 ho33 (hw _ (own_w 270 rfl)) wS e41 hS33 (Nat.le_refl _) hEL CR33.1 (g := (mkF m 143 #[.val (.ref a1), .val (.ref a2), .val (.double (FP.l2d xt)), .second, .val (.double (FP.l2d xt)), .second, .val (.double (FP.l2d xt)), .second, .val (.double (FP.l2d xe)), .second, .val (.double (FP.l2d xl)), .second, .val (.ref eo), .val (.ref eo)] [(.ref a2), (.int (1 : Int32))])) rfl (hb hby d3_143) (n := 68) (by decide +kernel) (by decide) (by decide) (by decide)
  have CR42 := CR33.trans CC42
  have Z42 : n0 ≤ h42.size := Nat.le_trans Z33 E42.1
  have K42 : Keep h0 h42 [a1] := K33.ext E42
  replace X42 : Stand _ _ _ _ _ _ _ _ _ _ _ _ 64 3220 := X42
  obtain ⟨_, _, ⟨T43, Lq43, kq43, nq43⟩, -, X43, ⟨Lc43, hQ43, lq43, yq43, zq43⟩, st43⟩ := Jvm.LawKit.callS X42 hx (y := (⟨"com/example/glidepath/glidepath/instance/Aircraft", "require", "(ZLjava/lang/String;Ljava/lang/String;)V"⟩ : MethodName)) ho42 (mvT hZ42 (hw _ (own_w 96 rfl))) (mvT hZ42 (hw _ (own_w 97 rfl))) (mvT hZ42 (hw _ (own_w 3 rfl))) (mvT hZ42 (hw _ (own_w 98 rfl))) (by decide) (backOf (W := 0) (rRq l Z a0 hw [] a2 sa42  h42 n0 Z42 ) hZ42 (hw _ (own_w 98 rfl)) (hw _ (own_w 3 rfl)) (by decide) (by decide)) (g := (mkF m 145 #[.val (.ref a1), .val (.ref a2), .val (.double (FP.l2d xt)), .second, .val (.double (FP.l2d xt)), .second, .val (.double (FP.l2d xt)), .second, .val (.double (FP.l2d xe)), .second, .val (.double (FP.l2d xl)), .second, .val (.ref eo), .val (.ref eo)] [(.ref sa42), (.ref a2), (.int (1 : Int32))])) rfl (by rw [hml]; rfl) (argsL := [(.int (1 : Int32)), (.ref a2), (.ref sa42)]) (rest := []) (lenOf pd_27 rfl) rfl (by show 2 * 0 + _ ≤ _; exact Nat.le_of_eq rfl) (hb hby d3_145) (fun _ _ => ⟨rfl, e42, (by decide : 64 + 0 ≤ _), (by decide : 3220 + 0 ≤ _)⟩)
  dsimp only [Pt.U, Pt.locs, Pt.cells, Pt.slots] at X43 lq43 yq43 zq43 st43 hQ43
  subst yq43 zq43
  replace X43 : Stand _ _ _ _ _ _ _ _ _ _ _ _ 64 3220 := X43
  obtain ⟨rfl, N43q, e43⟩ := hQ43
  have N43 : Fr n0 Lq43 := by rw [lq43]; exact Fr.app N41 N43q
  have hnam150 : (s.setVm T42.vm).methodNamed? (⟨"com/example/glidepath/glidepath/instance/Aircraft", "<init>", "(Ljava/lang/String;DDDDDLjava/util/Optional;Ljava/util/Optional;)V"⟩ : MethodName) = some m := own_named (vm := T42.vm) hZ hZ42 Bd.named
  obtain ⟨la44, st44⟩ := own_lam (T := T43) X43 hx hZ42 (x := (⟨"com/example/glidepath/glidepath/instance/Aircraft", "<init>", "(Ljava/lang/String;DDDDDLjava/util/Optional;Ljava/util/Optional;)V"⟩ : MethodName)) hnam150 (hw _ (own_w 271 rfl)) rfl (g := (mkF m 150 #[.val (.ref a1), .val (.ref a2), .val (.double (FP.l2d xt)), .second, .val (.double (FP.l2d xt)), .second, .val (.double (FP.l2d xt)), .second, .val (.double (FP.l2d xe)), .second, .val (.double (FP.l2d xl)), .second, .val (.ref eo), .val (.ref eo)] [(.ref eo)])) rfl rfl (by rw [hml]; rfl) (hb hby d3_150) (Nat.le_of_ble_eq_true rfl)
  have f46 := (f37.ext E42)
  obtain ⟨cq45, kz45, q45a, q45b, q45c⟩ := isOf hZ42 e43 (O_EE.ext f46.2)
  obtain ⟨_, _, ⟨T45, Lq45, kq45, nq45⟩, -, X45, ⟨Lc45, hQ45, lq45, yq45, zq45⟩, st45⟩ := X43.virtualBack hx (y := (⟨"java/util/Optional", "map", "(Ljava/util/function/Function;)Ljava/util/Optional;"⟩ : MethodName)) (z := (⟨"java/util/Optional", "map", "(Ljava/util/function/Function;)Ljava/util/Optional;"⟩ : MethodName)) ho42 (mvT hZ42 (hw _ (own_w 235 rfl))) (mvT hZ42 (hw _ (own_w 236 rfl))) (notFace_of_selects (args := #[]) (mvT hZ42 (hw _ (own_w 238 rfl)))) (mvT hZ42 (hw _ (own_w 238 rfl))) (mvT hZ42 (hw _ (own_w 237 rfl))) (by decide) (backOf (W := 0) (rOm l Z a0 hw [] eo la44 eo h42 n0 Z42 f46 O_E (O_EE.ext f46.2) (O_EV.ext f46.2)) hZ42 (hw _ (own_w 239 rfl)) (hw _ (own_w 17 rfl)) (by decide) (by decide)) q45a q45c (g := (mkF m 155 #[.val (.ref a1), .val (.ref a2), .val (.double (FP.l2d xt)), .second, .val (.double (FP.l2d xt)), .second, .val (.double (FP.l2d xt)), .second, .val (.double (FP.l2d xe)), .second, .val (.double (FP.l2d xl)), .second, .val (.ref eo), .val (.ref eo)] [(.ref la44), (.ref eo)])) rfl (by rw [hml]; rfl) (Steps.refl _) (argsL := [(.ref la44)]) (rest := []) (lenOf pd_30 rfl) rfl (by show 2 * 0 + _ ≤ _; exact Nat.le_of_eq rfl) (hb hby d3_155) (fun _ _ => ⟨rfl, e43, (by decide : 64 + 0 ≤ _), (by decide : 3220 + 0 ≤ _)⟩)
  dsimp only [Pt.U, Pt.locs, Pt.cells, Pt.slots] at X45 lq45 yq45 zq45 st45 hQ45
  subst yq45 zq45
  replace X45 : Stand _ _ _ _ _ _ _ _ _ _ _ _ 64 3220 := X45
  obtain ⟨rfl, N45q, e45⟩ := hQ45
  have N45 : Fr n0 Lq45 := by rw [lq45]; exact Fr.app N43 N45q
  obtain ⟨_, _, ⟨T47, Lq47, kq47, nq47⟩, -, X47, ⟨Lc47, hQ47, lq47, yq47, zq47⟩, st47⟩ := Jvm.LawKit.callS X45 hx (y := (⟨"java/lang/Boolean", "valueOf", "(Z)Ljava/lang/Boolean;"⟩ : MethodName)) ho42 (mvT hZ42 (hw _ (own_w 251 rfl))) (mvT hZ42 (hw _ (own_w 252 rfl))) (mvT hZ42 (hw _ (own_w 253 rfl))) (mvT hZ42 (hw _ (own_w 254 rfl))) (by decide) (backOf (W := 1) (rBv l Z a0 hw []  tb h42 n0 Z42 f46 O_BT) hZ42 (hw _ (own_w 254 rfl)) (hw _ (own_w 253 rfl)) (by decide) (by decide)) (g := (mkF m 159 #[.val (.ref a1), .val (.ref a2), .val (.double (FP.l2d xt)), .second, .val (.double (FP.l2d xt)), .second, .val (.double (FP.l2d xt)), .second, .val (.double (FP.l2d xe)), .second, .val (.double (FP.l2d xl)), .second, .val (.ref eo), .val (.ref eo)] [(.int (1 : Int32)), (.ref eo)])) rfl (by rw [hml]; rfl) (argsL := [(.int (1 : Int32))]) (rest := [(.ref eo)]) (lenOf pd_31 rfl) rfl (by show 2 * 0 + _ ≤ _; exact Nat.le_of_eq rfl) (hb hby d3_159) (fun _ _ => ⟨rfl, e45, (by decide : 64 + 0 ≤ _), (by decide : 3220 + 0 ≤ _)⟩)
  dsimp only [Pt.U, Pt.locs, Pt.cells, Pt.slots] at X47 lq47 yq47 zq47 st47 hQ47
  subst yq47 zq47
  replace X47 : Stand _ _ _ _ _ _ _ _ _ _ _ _ 64 3220 := X47
  obtain ⟨rfl, N47q, e47⟩ := hQ47
  have N47 : Fr n0 Lq47 := by rw [lq47]; exact Fr.app N45 N47q
  obtain ⟨cq48, kz48, q48a, q48b, q48c⟩ := isOf hZ42 e47 (O_EE.ext f46.2)
  obtain ⟨_, _, ⟨T48, Lq48, kq48, nq48⟩, -, X48, ⟨Lc48, hQ48, lq48, yq48, zq48⟩, st48⟩ := X47.virtualBack hx (y := (⟨"java/util/Optional", "orElse", "(Ljava/lang/Object;)Ljava/lang/Object;"⟩ : MethodName)) (z := (⟨"java/util/Optional", "orElse", "(Ljava/lang/Object;)Ljava/lang/Object;"⟩ : MethodName)) ho42 (mvT hZ42 (hw _ (own_w 256 rfl))) (mvT hZ42 (hw _ (own_w 257 rfl))) (notFace_of_selects (args := #[]) (mvT hZ42 (hw _ (own_w 259 rfl)))) (mvT hZ42 (hw _ (own_w 259 rfl))) (mvT hZ42 (hw _ (own_w 258 rfl))) (by decide) (backOf (W := 0) (rOo l Z a0 hw [] eo tb  h42 n0 Z42 (O_EV.ext f46.2)) hZ42 (hw _ (own_w 260 rfl)) (hw _ (own_w 17 rfl)) (by decide) (by decide)) q48a q48c (g := (mkF m 162 #[.val (.ref a1), .val (.ref a2), .val (.double (FP.l2d xt)), .second, .val (.double (FP.l2d xt)), .second, .val (.double (FP.l2d xt)), .second, .val (.double (FP.l2d xe)), .second, .val (.double (FP.l2d xl)), .second, .val (.ref eo), .val (.ref eo)] [(.ref tb), (.ref eo)])) rfl (by rw [hml]; rfl) (Steps.refl _) (argsL := [(.ref tb)]) (rest := []) (lenOf pd_21 rfl) rfl (by show 2 * 0 + _ ≤ _; exact Nat.le_of_eq rfl) (hb hby d3_162) (fun _ _ => ⟨rfl, e47, (by decide : 64 + 0 ≤ _), (by decide : 3220 + 0 ≤ _)⟩)
  dsimp only [Pt.U, Pt.locs, Pt.cells, Pt.slots] at X48 lq48 yq48 zq48 st48 hQ48
  subst yq48 zq48
  replace X48 : Stand _ _ _ _ _ _ _ _ _ _ _ _ 64 3220 := X48
  obtain ⟨rfl, N48q, e48⟩ := hQ48
  have N48 : Fr n0 Lq48 := by rw [lq48]; exact Fr.app N47 N48q
  obtain ⟨T49, X49, e49, st49⟩ := castY X48 hx hZ42 ho42 (hw _ (own_w 261 rfl)) e48 (Ins.self (O_BE.ext f46.2)) (g := (mkF m 165 #[.val (.ref a1), .val (.ref a2), .val (.double (FP.l2d xt)), .second, .val (.double (FP.l2d xt)), .second, .val (.double (FP.l2d xt)), .second, .val (.double (FP.l2d xe)), .second, .val (.double (FP.l2d xl)), .second, .val (.ref eo), .val (.ref eo)] [(.ref tb)])) rfl rfl (hb hby d3_165)
  obtain ⟨cq50, kz50, q50a, q50b, q50c⟩ := isOf hZ42 e49 (O_BE.ext f46.2)
  obtain ⟨_, _, ⟨T50, Lq50, kq50, nq50⟩, -, X50, ⟨Lc50, hQ50, lq50, yq50, zq50⟩, st50⟩ := X49.virtualBack hx (y := (⟨"java/lang/Boolean", "booleanValue", "()Z"⟩ : MethodName)) (z := (⟨"java/lang/Boolean", "booleanValue", "()Z"⟩ : MethodName)) ho42 (mvT hZ42 (hw _ (own_w 263 rfl))) (mvT hZ42 (hw _ (own_w 264 rfl))) (notFace_of_selects (args := #[]) (mvT hZ42 (hw _ (own_w 266 rfl)))) (mvT hZ42 (hw _ (own_w 266 rfl))) (mvT hZ42 (hw _ (own_w 265 rfl))) (by decide) (backOf (W := 0) (rBb l Z a0 hw [] tb  h42 n0 Z42 (O_BV.ext f46.2)) hZ42 (hw _ (own_w 267 rfl)) (hw _ (own_w 253 rfl)) (by decide) (by decide)) q50a q50c (g := (mkF m 168 #[.val (.ref a1), .val (.ref a2), .val (.double (FP.l2d xt)), .second, .val (.double (FP.l2d xt)), .second, .val (.double (FP.l2d xt)), .second, .val (.double (FP.l2d xe)), .second, .val (.double (FP.l2d xl)), .second, .val (.ref eo), .val (.ref eo)] [(.ref tb)])) rfl (by rw [hml]; rfl) (Steps.refl _) (argsL := []) (rest := []) (lenOf pd_14 rfl) rfl (by show 2 * 0 + _ ≤ _; exact Nat.le_of_eq rfl) (hb hby d3_168) (fun _ _ => ⟨rfl, e49, (by decide : 64 + 0 ≤ _), (by decide : 3220 + 0 ≤ _)⟩)
  dsimp only [Pt.U, Pt.locs, Pt.cells, Pt.slots] at X50 lq50 yq50 zq50 st50 hQ50
  subst yq50 zq50
  replace X50 : Stand _ _ _ _ _ _ _ _ _ _ _ _ 64 3220 := X50
  obtain ⟨r50, hr50, rfl, N50q, e50⟩ := hQ50
  have N50 : Fr n0 Lq50 := by rw [lq50]; exact Fr.app N48 N50q
  subst hr50
  obtain ⟨sa51, T51, h51, k151, X51, e51, E51, hS51, hk51, hZ51, ho51, CC51, -, st51⟩ := ldcOH (s := s) (vm0 := T42.vm) (Z := Z) (h := h42) X50 hx hZ42 ho42 (hw _ (own_w 272 rfl)) wS e50 hS42 hk42 hEL CR42.1 (g := (mkF m 172 #[.val (.ref a1), .val (.ref a2), .val (.double (FP.l2d xt)), .second, .val (.double (FP.l2d xt)), .second, .val (.double (FP.l2d xt)), .second, .val (.double (FP.l2d xe)), .second, .val (.double (FP.l2d xl)), .second, .val (.ref eo), .val (.ref eo)] [(.ref a2), (.int (1 : Int32))])) rfl (hb hby d3_172) (n := 56) (by decide +kernel) (by decide) (by decide) (by decide)
  have CR51 := CR42.trans CC51
  have Z51 : n0 ≤ h51.size := Nat.le_trans Z42 E51.1
  have K51 : Keep h0 h51 [a1] := K42.ext E51
  replace X51 : Stand _ _ _ _ _ _ _ _ _ _ _ _ 66 3280 := X51
  obtain ⟨_, _, ⟨T52, Lq52, kq52, nq52⟩, -, X52, ⟨Lc52, hQ52, lq52, yq52, zq52⟩, st52⟩ := Jvm.LawKit.callS X51 hx (y := (⟨"com/example/glidepath/glidepath/instance/Aircraft", "require", "(ZLjava/lang/String;Ljava/lang/String;)V"⟩ : MethodName)) ho51 (mvT hZ51 (hw _ (own_w 96 rfl))) (mvT hZ51 (hw _ (own_w 97 rfl))) (mvT hZ51 (hw _ (own_w 3 rfl))) (mvT hZ51 (hw _ (own_w 98 rfl))) (by decide) (backOf (W := 0) (rRq l Z a0 hw [] a2 sa51  h51 n0 Z51 ) hZ51 (hw _ (own_w 98 rfl)) (hw _ (own_w 3 rfl)) (by decide) (by decide)) (g := (mkF m 174 #[.val (.ref a1), .val (.ref a2), .val (.double (FP.l2d xt)), .second, .val (.double (FP.l2d xt)), .second, .val (.double (FP.l2d xt)), .second, .val (.double (FP.l2d xe)), .second, .val (.double (FP.l2d xl)), .second, .val (.ref eo), .val (.ref eo)] [(.ref sa51), (.ref a2), (.int (1 : Int32))])) rfl (by rw [hml]; rfl) (argsL := [(.int (1 : Int32)), (.ref a2), (.ref sa51)]) (rest := []) (lenOf pd_27 rfl) rfl (by show 2 * 0 + _ ≤ _; exact Nat.le_of_eq rfl) (hb hby d3_174) (fun _ _ => ⟨rfl, e51, (by decide : 66 + 0 ≤ _), (by decide : 3280 + 0 ≤ _)⟩)
  dsimp only [Pt.U, Pt.locs, Pt.cells, Pt.slots] at X52 lq52 yq52 zq52 st52 hQ52
  subst yq52 zq52
  replace X52 : Stand _ _ _ _ _ _ _ _ _ _ _ _ 66 3280 := X52
  obtain ⟨rfl, N52q, e52⟩ := hQ52
  have N52 : Fr n0 Lq52 := by rw [lq52]; exact Fr.app N50 N52q
  have f53 := (((f31.keep KC33).ext E42).ext E51)
  have f54 := (((((((((((((DA0.ext E2).ext E4).ext E6).ext E15).ext E18).ext E21).ext E23).ext E25).keep KC28 nin0).ext E30).keep KC33 nin0).ext E42).ext E51)
  obtain ⟨T55, h55, X55, e55, W55, st55⟩ := putF X52 hx hZ51 ho51 (host := "") (Or.inl (hw _ (own_w 273 rfl))) Via.refl e52 f54 f53 (Or.inr ⟨(hw _ (own_w 274 rfl)), rfl, hnm⟩) (hw _ (own_w 2 rfl)) (ty := (.object "java/lang/String")) (by decide) rfl rfl (g := (mkF m 179 #[.val (.ref a1), .val (.ref a2), .val (.double (FP.l2d xt)), .second, .val (.double (FP.l2d xt)), .second, .val (.double (FP.l2d xt)), .second, .val (.double (FP.l2d xe)), .second, .val (.double (FP.l2d xl)), .second, .val (.ref eo), .val (.ref eo)] [(.ref a2), (.ref a1)])) rfl rfl (hb hby d3_179)
  have N55 := Fr.snoc X55 N52 ga
  have Z55 : n0 ≤ h55.size := by rw [W55.size]; exact Z51
  have K55 : Keep h0 h55 [a1] := K51.wr W55 (Or.inl (own_w 0 rfl))
  have Fw55 := f54.same W55
  have CR56 := CR51.trans (CHr.wr W55 (Safe.exa (State.Warmed39.alike hZ51) (((f31.keep KC33).ext E42).ext E51) (by decide) (by decide)) CR51.1)
  have f57 := (f53.wr W55)
  have f58 := ((((((((((((((DA1.ext E2).ext E4).ext E6).ext E15).ext E18).ext E21).ext E23).ext E25).keep KC28 nin0).ext E30).keep KC33 nin0).ext E42).ext E51).other W55 (Or.inr (slot_ne (Or.inr (hw _ (own_w 276 rfl))) (Or.inr (hw _ (own_w 274 rfl))) (by decide) (t := .double) (t' := (.object "java/lang/String")) (by decide) (by decide))))
  obtain ⟨T59, h59, X59, e59, W59, st59⟩ := putF X55 hx hZ51 ho51 (host := "") (Or.inl (hw _ (own_w 275 rfl))) Via.refl e55 f58 f57 (Or.inr ⟨(hw _ (own_w 276 rfl)), rfl, hnm⟩) (hw _ (own_w 2 rfl)) (ty := .double) (by decide) rfl rfl (g := (mkF m 184 #[.val (.ref a1), .val (.ref a2), .val (.double (FP.l2d xt)), .second, .val (.double (FP.l2d xt)), .second, .val (.double (FP.l2d xt)), .second, .val (.double (FP.l2d xe)), .second, .val (.double (FP.l2d xl)), .second, .val (.ref eo), .val (.ref eo)] [(.double (FP.l2d xt)), (.ref a1)])) rfl rfl (hb hby d3_184)
  have N59 := Fr.snoc X59 N55 ga
  have Z59 : n0 ≤ h59.size := by rw [W59.size]; exact Z55
  have K59 : Keep h0 h59 [a1] := K55.wr W59 (Or.inl (own_w 0 rfl))
  have Fw59 := f58.same W59
  have CR60 := CR56.trans (CHr.wr W59 (Safe.exa (State.Warmed39.alike hZ51) (f53.wr W55) (by decide) (by decide)) CR56.1)
  have f61 := (f57.wr W59)
  have f62 := (((((((((((((((DA2.ext E2).ext E4).ext E6).ext E15).ext E18).ext E21).ext E23).ext E25).keep KC28 nin0).ext E30).keep KC33 nin0).ext E42).ext E51).other W55 (Or.inr (slot_ne (Or.inr (hw _ (own_w 278 rfl))) (Or.inr (hw _ (own_w 274 rfl))) (by decide) (t := .double) (t' := (.object "java/lang/String")) (by decide) (by decide)))).other W59 (Or.inr (slot_ne (Or.inr (hw _ (own_w 278 rfl))) (Or.inr (hw _ (own_w 276 rfl))) (by decide) (t := .double) (t' := .double) (by decide) (by decide))))
  obtain ⟨T63, h63, X63, e63, W63, st63⟩ := putF X59 hx hZ51 ho51 (host := "") (Or.inl (hw _ (own_w 277 rfl))) Via.refl e59 f62 f61 (Or.inr ⟨(hw _ (own_w 278 rfl)), rfl, hnm⟩) (hw _ (own_w 2 rfl)) (ty := .double) (by decide) rfl rfl (g := (mkF m 190 #[.val (.ref a1), .val (.ref a2), .val (.double (FP.l2d xt)), .second, .val (.double (FP.l2d xt)), .second, .val (.double (FP.l2d xt)), .second, .val (.double (FP.l2d xe)), .second, .val (.double (FP.l2d xl)), .second, .val (.ref eo), .val (.ref eo)] [(.double (FP.l2d xt)), (.ref a1)])) rfl rfl (hb hby d3_190)
  have N63 := Fr.snoc X63 N59 ga
  have Z63 : n0 ≤ h63.size := by rw [W63.size]; exact Z59
  have K63 : Keep h0 h63 [a1] := K59.wr W63 (Or.inl (own_w 0 rfl))
  have Fw63 := f62.same W63
  have CR64 := CR60.trans (CHr.wr W63 (Safe.exa (State.Warmed39.alike hZ51) (f57.wr W59) (by decide) (by decide)) CR60.1)
  have f65 := (f61.wr W63)
  have f66 := ((((((((((((((((DA3.ext E2).ext E4).ext E6).ext E15).ext E18).ext E21).ext E23).ext E25).keep KC28 nin0).ext E30).keep KC33 nin0).ext E42).ext E51).other W55 (Or.inr (slot_ne (Or.inr (hw _ (own_w 280 rfl))) (Or.inr (hw _ (own_w 274 rfl))) (by decide) (t := .double) (t' := (.object "java/lang/String")) (by decide) (by decide)))).other W59 (Or.inr (slot_ne (Or.inr (hw _ (own_w 280 rfl))) (Or.inr (hw _ (own_w 276 rfl))) (by decide) (t := .double) (t' := .double) (by decide) (by decide)))).other W63 (Or.inr (slot_ne (Or.inr (hw _ (own_w 280 rfl))) (Or.inr (hw _ (own_w 278 rfl))) (by decide) (t := .double) (t' := .double) (by decide) (by decide))))
  obtain ⟨T67, h67, X67, e67, W67, st67⟩ := putF X63 hx hZ51 ho51 (host := "") (Or.inl (hw _ (own_w 279 rfl))) Via.refl e63 f66 f65 (Or.inr ⟨(hw _ (own_w 280 rfl)), rfl, hnm⟩) (hw _ (own_w 2 rfl)) (ty := .double) (by decide) rfl rfl (g := (mkF m 196 #[.val (.ref a1), .val (.ref a2), .val (.double (FP.l2d xt)), .second, .val (.double (FP.l2d xt)), .second, .val (.double (FP.l2d xt)), .second, .val (.double (FP.l2d xe)), .second, .val (.double (FP.l2d xl)), .second, .val (.ref eo), .val (.ref eo)] [(.double (FP.l2d xt)), (.ref a1)])) rfl rfl (hb hby d3_196)
  have N67 := Fr.snoc X67 N63 ga
  have Z67 : n0 ≤ h67.size := by rw [W67.size]; exact Z63
  have K67 : Keep h0 h67 [a1] := K63.wr W67 (Or.inl (own_w 0 rfl))
  have Fw67 := f66.same W67
  have CR68 := CR64.trans (CHr.wr W67 (Safe.exa (State.Warmed39.alike hZ51) (f61.wr W63) (by decide) (by decide)) CR64.1)
  have f69 := (f65.wr W67)
  have f70 := (((((((((((((((((DA4.ext E2).ext E4).ext E6).ext E15).ext E18).ext E21).ext E23).ext E25).keep KC28 nin0).ext E30).keep KC33 nin0).ext E42).ext E51).other W55 (Or.inr (slot_ne (Or.inr (hw _ (own_w 282 rfl))) (Or.inr (hw _ (own_w 274 rfl))) (by decide) (t := .double) (t' := (.object "java/lang/String")) (by decide) (by decide)))).other W59 (Or.inr (slot_ne (Or.inr (hw _ (own_w 282 rfl))) (Or.inr (hw _ (own_w 276 rfl))) (by decide) (t := .double) (t' := .double) (by decide) (by decide)))).other W63 (Or.inr (slot_ne (Or.inr (hw _ (own_w 282 rfl))) (Or.inr (hw _ (own_w 278 rfl))) (by decide) (t := .double) (t' := .double) (by decide) (by decide)))).other W67 (Or.inr (slot_ne (Or.inr (hw _ (own_w 282 rfl))) (Or.inr (hw _ (own_w 280 rfl))) (by decide) (t := .double) (t' := .double) (by decide) (by decide))))
  obtain ⟨T71, h71, X71, e71, W71, st71⟩ := putF X67 hx hZ51 ho51 (host := "") (Or.inl (hw _ (own_w 281 rfl))) Via.refl e67 f70 f69 (Or.inr ⟨(hw _ (own_w 282 rfl)), rfl, hnm⟩) (hw _ (own_w 2 rfl)) (ty := .double) (by decide) rfl rfl (g := (mkF m 202 #[.val (.ref a1), .val (.ref a2), .val (.double (FP.l2d xt)), .second, .val (.double (FP.l2d xt)), .second, .val (.double (FP.l2d xt)), .second, .val (.double (FP.l2d xe)), .second, .val (.double (FP.l2d xl)), .second, .val (.ref eo), .val (.ref eo)] [(.double (FP.l2d xe)), (.ref a1)])) rfl rfl (hb hby d3_202)
  have N71 := Fr.snoc X71 N67 ga
  have Z71 : n0 ≤ h71.size := by rw [W71.size]; exact Z67
  have K71 : Keep h0 h71 [a1] := K67.wr W71 (Or.inl (own_w 0 rfl))
  have Fw71 := f70.same W71
  have CR72 := CR68.trans (CHr.wr W71 (Safe.exa (State.Warmed39.alike hZ51) (f65.wr W67) (by decide) (by decide)) CR68.1)
  have f73 := (f69.wr W71)
  have f74 := ((((((((((((((((((DA5.ext E2).ext E4).ext E6).ext E15).ext E18).ext E21).ext E23).ext E25).keep KC28 nin0).ext E30).keep KC33 nin0).ext E42).ext E51).other W55 (Or.inr (slot_ne (Or.inr (hw _ (own_w 284 rfl))) (Or.inr (hw _ (own_w 274 rfl))) (by decide) (t := .double) (t' := (.object "java/lang/String")) (by decide) (by decide)))).other W59 (Or.inr (slot_ne (Or.inr (hw _ (own_w 284 rfl))) (Or.inr (hw _ (own_w 276 rfl))) (by decide) (t := .double) (t' := .double) (by decide) (by decide)))).other W63 (Or.inr (slot_ne (Or.inr (hw _ (own_w 284 rfl))) (Or.inr (hw _ (own_w 278 rfl))) (by decide) (t := .double) (t' := .double) (by decide) (by decide)))).other W67 (Or.inr (slot_ne (Or.inr (hw _ (own_w 284 rfl))) (Or.inr (hw _ (own_w 280 rfl))) (by decide) (t := .double) (t' := .double) (by decide) (by decide)))).other W71 (Or.inr (slot_ne (Or.inr (hw _ (own_w 284 rfl))) (Or.inr (hw _ (own_w 282 rfl))) (by decide) (t := .double) (t' := .double) (by decide) (by decide))))
  obtain ⟨T75, h75, X75, e75, W75, st75⟩ := putF X71 hx hZ51 ho51 (host := "") (Or.inl (hw _ (own_w 283 rfl))) Via.refl e71 f74 f73 (Or.inr ⟨(hw _ (own_w 284 rfl)), rfl, hnm⟩) (hw _ (own_w 2 rfl)) (ty := .double) (by decide) rfl rfl (g := (mkF m 208 #[.val (.ref a1), .val (.ref a2), .val (.double (FP.l2d xt)), .second, .val (.double (FP.l2d xt)), .second, .val (.double (FP.l2d xt)), .second, .val (.double (FP.l2d xe)), .second, .val (.double (FP.l2d xl)), .second, .val (.ref eo), .val (.ref eo)] [(.double (FP.l2d xl)), (.ref a1)])) rfl rfl (hb hby d3_208)
  have N75 := Fr.snoc X75 N71 ga
  have Z75 : n0 ≤ h75.size := by rw [W75.size]; exact Z71
  have K75 : Keep h0 h75 [a1] := K71.wr W75 (Or.inl (own_w 0 rfl))
  have Fw75 := f74.same W75
  have CR76 := CR72.trans (CHr.wr W75 (Safe.exa (State.Warmed39.alike hZ51) (f69.wr W71) (by decide) (by decide)) CR72.1)
  have f77 := (f73.wr W75)
  have f78 := (((((((((((((((((((DA6.ext E2).ext E4).ext E6).ext E15).ext E18).ext E21).ext E23).ext E25).keep KC28 nin0).ext E30).keep KC33 nin0).ext E42).ext E51).other W55 (Or.inr (slot_ne (Or.inr (hw _ (own_w 286 rfl))) (Or.inr (hw _ (own_w 274 rfl))) (by decide) (t := (.object "java/util/Optional")) (t' := (.object "java/lang/String")) (by decide) (by decide)))).other W59 (Or.inr (slot_ne (Or.inr (hw _ (own_w 286 rfl))) (Or.inr (hw _ (own_w 276 rfl))) (by decide) (t := (.object "java/util/Optional")) (t' := .double) (by decide) (by decide)))).other W63 (Or.inr (slot_ne (Or.inr (hw _ (own_w 286 rfl))) (Or.inr (hw _ (own_w 278 rfl))) (by decide) (t := (.object "java/util/Optional")) (t' := .double) (by decide) (by decide)))).other W67 (Or.inr (slot_ne (Or.inr (hw _ (own_w 286 rfl))) (Or.inr (hw _ (own_w 280 rfl))) (by decide) (t := (.object "java/util/Optional")) (t' := .double) (by decide) (by decide)))).other W71 (Or.inr (slot_ne (Or.inr (hw _ (own_w 286 rfl))) (Or.inr (hw _ (own_w 282 rfl))) (by decide) (t := (.object "java/util/Optional")) (t' := .double) (by decide) (by decide)))).other W75 (Or.inr (slot_ne (Or.inr (hw _ (own_w 286 rfl))) (Or.inr (hw _ (own_w 284 rfl))) (by decide) (t := (.object "java/util/Optional")) (t' := .double) (by decide) (by decide))))
  obtain ⟨T79, h79, X79, e79, W79, st79⟩ := putF X75 hx hZ51 ho51 (host := "") (Or.inl (hw _ (own_w 285 rfl))) Via.refl e75 f78 f77 (Or.inr ⟨(hw _ (own_w 286 rfl)), rfl, hnm⟩) (hw _ (own_w 2 rfl)) (ty := (.object "java/util/Optional")) (by decide) rfl rfl (g := (mkF m 214 #[.val (.ref a1), .val (.ref a2), .val (.double (FP.l2d xt)), .second, .val (.double (FP.l2d xt)), .second, .val (.double (FP.l2d xt)), .second, .val (.double (FP.l2d xe)), .second, .val (.double (FP.l2d xl)), .second, .val (.ref eo), .val (.ref eo)] [(.ref eo), (.ref a1)])) rfl rfl (hb hby d3_214)
  have N79 := Fr.snoc X79 N75 ga
  have Z79 : n0 ≤ h79.size := by rw [W79.size]; exact Z75
  have K79 : Keep h0 h79 [a1] := K75.wr W79 (Or.inl (own_w 0 rfl))
  have Fw79 := f78.same W79
  have CR80 := CR76.trans (CHr.wr W79 (Safe.exa (State.Warmed39.alike hZ51) (f73.wr W75) (by decide) (by decide)) CR76.1)
  have f81 := (f77.wr W79)
  have f82 := ((((((((((((((((((((DA7.ext E2).ext E4).ext E6).ext E15).ext E18).ext E21).ext E23).ext E25).keep KC28 nin0).ext E30).keep KC33 nin0).ext E42).ext E51).other W55 (Or.inr (slot_ne (Or.inr (hw _ (own_w 288 rfl))) (Or.inr (hw _ (own_w 274 rfl))) (by decide) (t := (.object "java/util/Optional")) (t' := (.object "java/lang/String")) (by decide) (by decide)))).other W59 (Or.inr (slot_ne (Or.inr (hw _ (own_w 288 rfl))) (Or.inr (hw _ (own_w 276 rfl))) (by decide) (t := (.object "java/util/Optional")) (t' := .double) (by decide) (by decide)))).other W63 (Or.inr (slot_ne (Or.inr (hw _ (own_w 288 rfl))) (Or.inr (hw _ (own_w 278 rfl))) (by decide) (t := (.object "java/util/Optional")) (t' := .double) (by decide) (by decide)))).other W67 (Or.inr (slot_ne (Or.inr (hw _ (own_w 288 rfl))) (Or.inr (hw _ (own_w 280 rfl))) (by decide) (t := (.object "java/util/Optional")) (t' := .double) (by decide) (by decide)))).other W71 (Or.inr (slot_ne (Or.inr (hw _ (own_w 288 rfl))) (Or.inr (hw _ (own_w 282 rfl))) (by decide) (t := (.object "java/util/Optional")) (t' := .double) (by decide) (by decide)))).other W75 (Or.inr (slot_ne (Or.inr (hw _ (own_w 288 rfl))) (Or.inr (hw _ (own_w 284 rfl))) (by decide) (t := (.object "java/util/Optional")) (t' := .double) (by decide) (by decide)))).other W79 (Or.inr (slot_ne (Or.inr (hw _ (own_w 288 rfl))) (Or.inr (hw _ (own_w 286 rfl))) (by decide) (t := (.object "java/util/Optional")) (t' := (.object "java/util/Optional")) (by decide) (by decide))))
  obtain ⟨T83, h83, X83, e83, W83, st83⟩ := putF X79 hx hZ51 ho51 (host := "") (Or.inl (hw _ (own_w 287 rfl))) Via.refl e79 f82 f81 (Or.inr ⟨(hw _ (own_w 288 rfl)), rfl, hnm⟩) (hw _ (own_w 2 rfl)) (ty := (.object "java/util/Optional")) (by decide) rfl rfl (g := (mkF m 220 #[.val (.ref a1), .val (.ref a2), .val (.double (FP.l2d xt)), .second, .val (.double (FP.l2d xt)), .second, .val (.double (FP.l2d xt)), .second, .val (.double (FP.l2d xe)), .second, .val (.double (FP.l2d xl)), .second, .val (.ref eo), .val (.ref eo)] [(.ref eo), (.ref a1)])) rfl rfl (hb hby d3_220)
  have N83 := Fr.snoc X83 N79 ga
  have Z83 : n0 ≤ h83.size := by rw [W83.size]; exact Z79
  have K83 : Keep h0 h83 [a1] := K79.wr W83 (Or.inl (own_w 0 rfl))
  have Fw83 := f82.same W83
  have CR84 := CR80.trans (CHr.wr W83 (Safe.exa (State.Warmed39.alike hZ51) (f77.wr W79) (by decide) (by decide)) CR80.1)
  obtain ⟨fs, hr, hrun, hended, hwd⟩ := Jvm.Stand.leaveW (s := s) (vm₁ := T51.vm) X83 hS51 (Nat.le_trans (Nat.le_trans (Nat.le_trans (Nat.le_trans (Nat.le_trans (Nat.le_trans (Nat.le_trans (Nat.le_trans (Nat.le_trans hk51 (Nat.le_of_eq W55.size.symm)) (Nat.le_of_eq W59.size.symm)) (Nat.le_of_eq W63.size.symm)) (Nat.le_of_eq W67.size.symm)) (Nat.le_of_eq W71.size.symm)) (Nat.le_of_eq W75.size.symm)) (Nat.le_of_eq W79.size.symm)) (Nat.le_of_eq W83.size.symm)) (Nat.le_of_eq (congrArg Array.size e83).symm)) (v := none) (fun _ => rfl)
  refine ⟨_, _, pre0 _ ?_, hrun, hended, _, _, rfl, ?_, (by show CHr Z own_EL s.vm s.heap T83.vm T83.heap; rw [hh, e83]; exact CR84.trans (CHv.at X83 hZ51 hEL CR84.1)), hwd.1, hwd.2.1, hwd.2.2.1, hwd.2.2.2.mono (by decide) (by decide)⟩
  · show Steps p.tables e below (s₁.setTop (mkF m 0 #[.val (.ref a1), .val (.ref a2), .val (.double f3), .second, .val (.double f4), .second, .val (.double f5), .second, .val (.double f6), .second, .val (.double f7), .second, .val (.ref a8), .val (.ref a9)] [])) _
    rw [hf3]
    show Steps p.tables e below (s₁.setTop (mkF m 0 #[.val (.ref a1), .val (.ref a2), .val (.double (FP.l2d xt)), .second, .val (.double f4), .second, .val (.double f5), .second, .val (.double f6), .second, .val (.double f7), .second, .val (.ref a8), .val (.ref a9)] [])) _
    rw [hf4]
    show Steps p.tables e below (s₁.setTop (mkF m 0 #[.val (.ref a1), .val (.ref a2), .val (.double (FP.l2d xt)), .second, .val (.double (FP.l2d xt)), .second, .val (.double f5), .second, .val (.double f6), .second, .val (.double f7), .second, .val (.ref a8), .val (.ref a9)] [])) _
    rw [hf5]
    show Steps p.tables e below (s₁.setTop (mkF m 0 #[.val (.ref a1), .val (.ref a2), .val (.double (FP.l2d xt)), .second, .val (.double (FP.l2d xt)), .second, .val (.double (FP.l2d xt)), .second, .val (.double f6), .second, .val (.double f7), .second, .val (.ref a8), .val (.ref a9)] [])) _
    rw [hf6]
    show Steps p.tables e below (s₁.setTop (mkF m 0 #[.val (.ref a1), .val (.ref a2), .val (.double (FP.l2d xt)), .second, .val (.double (FP.l2d xt)), .second, .val (.double (FP.l2d xt)), .second, .val (.double (FP.l2d xe)), .second, .val (.double f7), .second, .val (.ref a8), .val (.ref a9)] [])) _
    rw [hf7]
    show Steps p.tables e below (s₁.setTop (mkF m 0 #[.val (.ref a1), .val (.ref a2), .val (.double (FP.l2d xt)), .second, .val (.double (FP.l2d xt)), .second, .val (.double (FP.l2d xt)), .second, .val (.double (FP.l2d xe)), .second, .val (.double (FP.l2d xl)), .second, .val (.ref a8), .val (.ref a9)] [])) _
    rw [EO8]
    show Steps p.tables e below (s₁.setTop (mkF m 0 #[.val (.ref a1), .val (.ref a2), .val (.double (FP.l2d xt)), .second, .val (.double (FP.l2d xt)), .second, .val (.double (FP.l2d xt)), .second, .val (.double (FP.l2d xe)), .second, .val (.double (FP.l2d xl)), .second, .val (.ref eo), .val (.ref a9)] [])) _
    rw [EO9]
    show Steps p.tables e below (s₁.setTop (mkF m 0 #[.val (.ref a1), .val (.ref a2), .val (.double (FP.l2d xt)), .second, .val (.double (FP.l2d xt)), .second, .val (.double (FP.l2d xt)), .second, .val (.double (FP.l2d xe)), .second, .val (.double (FP.l2d xl)), .second, .val (.ref eo), .val (.ref eo)] [])) _
    refine XS.aloadN X0.here hx rfl (hb hby d3_0) rfl rfl ?_
    refine st1.trans ?_
    refine XS.aloadN X1.here hx rfl (hb hby d3_4) rfl rfl ?_
    refine st2 _ ?_
    refine st3 _ ?_
    refine XS.pop X3.here hx rfl (hb hby d3_10) rfl rfl ?_
    refine XS.aload X3.here hx rfl (hb hby d3_11) rfl rfl ?_
    refine st4 _ ?_
    refine st5 _ ?_
    refine XS.pop X5.here hx rfl (hb hby d3_18) rfl rfl ?_
    refine XS.aload X5.here hx rfl (hb hby d3_19) rfl rfl ?_
    refine st6 _ ?_
    refine st7 _ ?_
    refine XS.pop X7.here hx rfl (hb hby d3_26) rfl rfl ?_
    refine XS.aloadN X7.here hx rfl (hb hby d3_27) rfl rfl ?_
    refine st8.trans ?_
    refine XS.ifYes X8.here hx rfl (pc0 := 31) (pc' := 44) rfl (hb hby d3_31) rfl ((if0 _ _).trans (teq (by decide)).1) (by decide) (by decide) ?_
    refine XS.dloadN X8.here hx rfl (hb hby d3_44) rfl ?_
    refine st14 _ ?_
    refine XS.aloadN X14.here hx rfl (hb hby d3_48) rfl rfl ?_
    refine st15 _ ?_
    refine st16 _ ?_
    refine XS.dload X16.here hx rfl (hb hby d3_54) rfl ?_
    refine st17 _ ?_
    refine XS.aloadN X17.here hx rfl (hb hby d3_59) rfl rfl ?_
    refine st18 _ ?_
    refine st19 _ ?_
    refine XS.dload X19.here hx rfl (hb hby d3_65) rfl ?_
    refine st20 _ ?_
    refine XS.ifNo X20.here hx rfl (hb hby d3_70) rfl ((if0 _ _).trans (teq (by decide)).2) ?_
    refine XS.iconst X20.here hx rfl (hb hby d3_73) ?_
    refine XS.goto X20.here hx rfl (pc0 := 74) (pc' := 78) rfl (hb hby d3_74) (by decide) (by decide) ?_
    refine XS.aloadN X20.here hx rfl (hb hby d3_78) rfl rfl ?_
    refine st21 _ ?_
    refine st22 _ ?_
    refine XS.dload X22.here hx rfl (hb hby d3_84) rfl ?_
    refine XS.dload X22.here hx rfl (hb hby d3_86) rfl ?_
    refine XS.dcmpS X22.here hx rfl (hb hby d3_88) rfl (v := (lcmpW xt xt)) (dcmpV_w (own_in53 ht) (own_in53 ht) _) ?_
    refine XS.ifNo X22.here hx rfl (hb hby d3_89) rfl ((if0 _ _).trans (flt (own_lcngt (Int64.lt_irrefl))).2.2.1) ?_
    refine XS.iconst X22.here hx rfl (hb hby d3_92) ?_
    show Steps p.tables e below (T22.setTop (mkF m 93 #[.val (.ref a1), .val (.ref a2), .val (.double (FP.l2d xt)), .second, .val (.double (FP.l2d xt)), .second, .val (.double (FP.l2d xt)), .second, .val (.double (FP.l2d xe)), .second, .val (.double (FP.l2d xl)), .second, .val (.ref eo), .val (.ref eo)] [(.int (1 : Int32))])) _
    refine XS.goto X22.here hx rfl (pc0 := 93) (pc' := 97) rfl (hb hby d3_93) (by decide) (by decide) ?_
    refine XS.aloadN X22.here hx rfl (hb hby d3_97) rfl rfl ?_
    refine st23 _ ?_
    refine st24 _ ?_
    refine XS.dload X24.here hx rfl (hb hby d3_103) rfl ?_
    refine XS.aloadN X24.here hx rfl (hb hby d3_105) rfl rfl ?_
    refine st25 _ ?_
    refine st28.trans ?_
    refine XS.dload X28.here hx rfl (hb hby d3_111) rfl ?_
    refine XS.aloadN X28.here hx rfl (hb hby d3_113) rfl rfl ?_
    refine st30 _ ?_
    refine st33.trans ?_
    refine XS.aload X33.here hx rfl (hb hby d3_119) rfl rfl ?_
    refine st35 _ ?_
    refine st36.trans ?_
    refine XS.iconst X36.here hx rfl (hb hby d3_129) ?_
    refine st38 _ ?_
    refine st39.trans ?_
    refine st40 _ ?_
    refine st41.trans ?_
    refine XS.aloadN X41.here hx rfl (hb hby d3_142) rfl rfl ?_
    refine st42 _ ?_
    refine st43 _ ?_
    refine XS.aload X43.here hx rfl (hb hby d3_148) rfl rfl ?_
    refine st44 _ ?_
    refine st45.trans ?_
    refine XS.iconst X45.here hx rfl (hb hby d3_158) ?_
    refine st47 _ ?_
    refine st48.trans ?_
    refine st49 _ ?_
    refine st50.trans ?_
    refine XS.aloadN X50.here hx rfl (hb hby d3_171) rfl rfl ?_
    refine st51 _ ?_
    refine st52 _ ?_
    refine XS.aloadN X52.here hx rfl (hb hby d3_177) rfl rfl ?_
    refine XS.aloadN X52.here hx rfl (hb hby d3_178) rfl rfl ?_
    refine st55 _ ?_
    refine XS.aloadN X55.here hx rfl (hb hby d3_182) rfl rfl ?_
    refine XS.dloadN X55.here hx rfl (hb hby d3_183) rfl ?_
    refine st59 _ ?_
    show Steps p.tables e below (T59.setTop (mkF m 187 #[.val (.ref a1), .val (.ref a2), .val (.double (FP.l2d xt)), .second, .val (.double (FP.l2d xt)), .second, .val (.double (FP.l2d xt)), .second, .val (.double (FP.l2d xe)), .second, .val (.double (FP.l2d xl)), .second, .val (.ref eo), .val (.ref eo)] [])) _
    refine XS.aloadN X59.here hx rfl (hb hby d3_187) rfl rfl ?_
    refine XS.dload X59.here hx rfl (hb hby d3_188) rfl ?_
    refine st63 _ ?_
    refine XS.aloadN X63.here hx rfl (hb hby d3_193) rfl rfl ?_
    refine XS.dload X63.here hx rfl (hb hby d3_194) rfl ?_
    refine st67 _ ?_
    refine XS.aloadN X67.here hx rfl (hb hby d3_199) rfl rfl ?_
    refine XS.dload X67.here hx rfl (hb hby d3_200) rfl ?_
    refine st71 _ ?_
    refine XS.aloadN X71.here hx rfl (hb hby d3_205) rfl rfl ?_
    refine XS.dload X71.here hx rfl (hb hby d3_206) rfl ?_
    refine st75 _ ?_
    refine XS.aloadN X75.here hx rfl (hb hby d3_211) rfl rfl ?_
    refine XS.aload X75.here hx rfl (hb hby d3_212) rfl rfl ?_
    refine st79 _ ?_
    refine XS.aloadN X79.here hx rfl (hb hby d3_217) rfl rfl ?_
    refine XS.aload X79.here hx rfl (hb hby d3_218) rfl rfl ?_
    refine st83 _ ?_
    show Steps p.tables e below (T83.setTop (mkF m 223 #[.val (.ref a1), .val (.ref a2), .val (.double (FP.l2d xt)), .second, .val (.double (FP.l2d xt)), .second, .val (.double (FP.l2d xt)), .second, .val (.double (FP.l2d xe)), .second, .val (.double (FP.l2d xl)), .second, .val (.ref eo), .val (.ref eo)] [])) _
    exact X83.returnOut hx Bd.returns (hb hby d3_223) hr
  · show QrA8 Z a1 a2 f3 f4 f5 f6 f7 a8 a9 xt xe xl wb kw eo ci ca rcl tb G1 h0 n0 _ T83.heap _
    have f85 := (f81.wr W83)
    have f86 := ((((((Fw59.other W63 (Or.inr (slot_ne (Or.inr (hw _ (own_w 276 rfl))) (Or.inr (hw _ (own_w 278 rfl))) (by decide) (t := .double) (t' := .double) (by decide) (by decide)))).other W67 (Or.inr (slot_ne (Or.inr (hw _ (own_w 276 rfl))) (Or.inr (hw _ (own_w 280 rfl))) (by decide) (t := .double) (t' := .double) (by decide) (by decide)))).other W71 (Or.inr (slot_ne (Or.inr (hw _ (own_w 276 rfl))) (Or.inr (hw _ (own_w 282 rfl))) (by decide) (t := .double) (t' := .double) (by decide) (by decide)))).other W75 (Or.inr (slot_ne (Or.inr (hw _ (own_w 276 rfl))) (Or.inr (hw _ (own_w 284 rfl))) (by decide) (t := .double) (t' := .double) (by decide) (by decide)))).other W79 (Or.inr (slot_ne (Or.inr (hw _ (own_w 276 rfl))) (Or.inr (hw _ (own_w 286 rfl))) (by decide) (t := .double) (t' := (.object "java/util/Optional")) (by decide) (by decide)))).other W83 (Or.inr (slot_ne (Or.inr (hw _ (own_w 276 rfl))) (Or.inr (hw _ (own_w 288 rfl))) (by decide) (t := .double) (t' := (.object "java/util/Optional")) (by decide) (by decide))))
    have f87 := (((Fw71.other W75 (Or.inr (slot_ne (Or.inr (hw _ (own_w 282 rfl))) (Or.inr (hw _ (own_w 284 rfl))) (by decide) (t := .double) (t' := .double) (by decide) (by decide)))).other W79 (Or.inr (slot_ne (Or.inr (hw _ (own_w 282 rfl))) (Or.inr (hw _ (own_w 286 rfl))) (by decide) (t := .double) (t' := (.object "java/util/Optional")) (by decide) (by decide)))).other W83 (Or.inr (slot_ne (Or.inr (hw _ (own_w 282 rfl))) (Or.inr (hw _ (own_w 288 rfl))) (by decide) (t := .double) (t' := (.object "java/util/Optional")) (by decide) (by decide))))
    have f88 := ((Fw75.other W79 (Or.inr (slot_ne (Or.inr (hw _ (own_w 284 rfl))) (Or.inr (hw _ (own_w 286 rfl))) (by decide) (t := .double) (t' := (.object "java/util/Optional")) (by decide) (by decide)))).other W83 (Or.inr (slot_ne (Or.inr (hw _ (own_w 284 rfl))) (Or.inr (hw _ (own_w 288 rfl))) (by decide) (t := .double) (t' := (.object "java/util/Optional")) (by decide) (by decide))))
    rw [e83]
    exact ⟨rfl, N83, K83, f85, f86, f87, f88⟩
theorem pd_32 : parseMethodDescriptor "(Ljava/lang/String;DDDDDLjava/util/Optional;Ljava/util/Optional;)V" = some ⟨[(.object "java/lang/String"), .double, .double, .double, .double, .double, (.object "java/util/Optional"), (.object "java/util/Optional")], none⟩ := by decide +kernel
theorem d1_0 : decode prog_13_method_2_code 0 = .ok (.aload_n 0, 1) := by decide +kernel
theorem d1_1 : decode prog_13_method_2_code 1 = .ok (.aload_n 1, 1) := by decide +kernel
theorem d1_2 : decode prog_13_method_2_code 2 = .ok (.dload_n 2, 1) := by decide +kernel
theorem d1_3 : decode prog_13_method_2_code 3 = .ok (.dload 4, 2) := by decide +kernel
theorem d1_5 : decode prog_13_method_2_code 5 = .ok (.dload 6, 2) := by decide +kernel
theorem d1_7 : decode prog_13_method_2_code 7 = .ok (.dload 8, 2) := by decide +kernel
theorem d1_9 : decode prog_13_method_2_code 9 = .ok (.dload 10, 2) := by decide +kernel
theorem d1_11 : decode prog_13_method_2_code 11 = .ok (.invokestatic 115, 3) := by decide +kernel
theorem d1_14 : decode prog_13_method_2_code 14 = .ok (.invokestatic 115, 3) := by decide +kernel
theorem d1_17 : decode prog_13_method_2_code 17 = .ok (.invokespecial 119, 3) := by decide +kernel
theorem d1_20 : decode prog_13_method_2_code 20 = .ok (.return_, 1) := by decide +kernel
theorem pn_1 : plainName "com/example/glidepath/glidepath/instance/Aircraft" = true := by first | (simp [plainName, overriddenIn]; done) | decide +kernel
theorem ef_rA6 (m : MethodId) (a1 : Addr) (a2 : Addr) (f3 : UInt64) (f4 : UInt64) (f5 : UInt64) (f6 : UInt64) (f7 : UInt64) : entryFrame m #[(.ref a1), (.ref a2), (.double f3), (.double f4), (.double f5), (.double f6), (.double f7)] 12 = mkF m 0 #[.val (.ref a1), .val (.ref a2), .val (.double f3), .second, .val (.double f4), .second, .val (.double f5), .second, .val (.double f6), .second, .val (.double f7), .second] [] := by first | (simp [entryFrame, mkF, argsToLocals, Value.category]; done) | rfl
def QrA6 (Z : State) (a1 : Addr) (a2 : Addr) (f3 : UInt64) (f4 : UInt64) (f5 : UInt64) (f6 : UInt64) (f7 : UInt64) (xt : Int64) (xe : Int64) (xl : Int64) (wb : Addr) (kw : ClassId) (eo : Addr) (ci : Addr) (ca : Addr) (rcl : Cell) (tb : Addr) (G1 : Int32) (h0 : Heap) (n0 : Nat) (v : Option Value) (h : Heap) (L : List Loc) : Prop := v = none ∧ Fr n0 L ∧ Keep h0 h [a1] ∧ Exa Z h a1 "com/example/glidepath/glidepath/instance/Aircraft" ∧ Fld Z h a1 "com/example/glidepath/glidepath/instance/Aircraft" "target" "D" (.double (FP.l2d xt)) ∧ Fld Z h a1 "com/example/glidepath/glidepath/instance/Aircraft" "costEarly" "D" (.double (FP.l2d xe)) ∧ Fld Z h a1 "com/example/glidepath/glidepath/instance/Aircraft" "costLate" "D" (.double (FP.l2d xl))
set_option maxRecDepth 65536 in
set_option maxHeartbeats 40000000 in
theorem rA6 (l : Launch) (Z : State) (a0 : Array Value) (hw : ∀ d ∈ tables_1, d.before a0 Z = true) (ws : List Jvm.Cond) (a1 : Addr) (a2 : Addr) (f3 : UInt64) (f4 : UInt64) (f5 : UInt64) (f6 : UInt64) (f7 : UInt64) (xt : Int64) (xe : Int64) (xl : Int64) (wb : Addr) (kw : ClassId) (eo : Addr) (ci : Addr) (ca : Addr) (rcl : Cell) (tb : Addr) (G1 : Int32) (h0 : Heap) (n0 : Nat) (Z0 : n0 ≤ h0.size) (hf3 : f3 = FP.l2d xt) (hf4 : f4 = FP.l2d xt) (hf5 : f5 = FP.l2d xt) (hf6 : f6 = FP.l2d xe) (hf7 : f7 = FP.l2d xl) (ht : own_in xt) (he : own_rate xe) (hl : own_rate xl) (EA : Exa Z h0 a1 "com/example/glidepath/glidepath/instance/Aircraft") (DA1 : Fld Z h0 a1 "com/example/glidepath/glidepath/instance/Aircraft" "target" "D" (.double (0 : UInt64))) (DA2 : Fld Z h0 a1 "com/example/glidepath/glidepath/instance/Aircraft" "earliest" "D" (.double (0 : UInt64))) (DA3 : Fld Z h0 a1 "com/example/glidepath/glidepath/instance/Aircraft" "latest" "D" (.double (0 : UInt64))) (DA4 : Fld Z h0 a1 "com/example/glidepath/glidepath/instance/Aircraft" "costEarly" "D" (.double (0 : UInt64))) (DA5 : Fld Z h0 a1 "com/example/glidepath/glidepath/instance/Aircraft" "costLate" "D" (.double (0 : UInt64))) (DA0 : Fld Z h0 a1 "com/example/glidepath/glidepath/instance/Aircraft" "id" "Ljava/lang/String;" .null) (DA6 : Fld Z h0 a1 "com/example/glidepath/glidepath/instance/Aircraft" "category" "Ljava/util/Optional;" .null) (DA7 : Fld Z h0 a1 "com/example/glidepath/glidepath/instance/Aircraft" "route" "Ljava/util/Optional;" .null) (ga : n0 ≤ a1) (ES : Exa Z h0 a2 "java/lang/String") (SV : Fld Z h0 a2 "java/lang/String" "value" "[B" (.ref wb)) (SC : Fld Z h0 a2 "java/lang/String" "coder" "B" (.int (0 : Int32))) (AS : Arv Z h0 wb kw .byte (1 : Int32) [(.int (65 : Int32))] (.int (0 : Int32))) (O_E : Sta Z Z.heap "java/util/Optional" "EMPTY" "Ljava/util/Optional;" (.ref eo)) (O_EE : Exa Z Z.heap eo "java/util/Optional") (O_EV : Fld Z Z.heap eo "java/util/Optional" "value" "Ljava/lang/Object;" .null) (O_CI : Sta Z Z.heap "java/lang/CharacterDataLatin1" "instance" "Ljava/lang/CharacterDataLatin1;" (.ref ci)) (O_CE : Exa Z Z.heap ci "java/lang/CharacterDataLatin1") (O_CA : Sta Z Z.heap "java/lang/CharacterDataLatin1" "A" "[I" (.ref ca)) (RA : Arr Z Z.heap ca rcl .int) (RV : rcl.slots[65]? = some (.int (8552417 : Int32))) (O_BT : Sta Z Z.heap "java/lang/Boolean" "TRUE" "Ljava/lang/Boolean;" (.ref tb)) (O_BE : Exa Z Z.heap tb "java/lang/Boolean") (O_BV : Fld Z Z.heap tb "java/lang/Boolean" "value" "Z" (.int (1 : Int32))) (X00 : Old Z n0 h0) (O_2 : Sta Z Z.heap "java/lang/String" "COMPACT_STRINGS" "Z" (.int G1)) (P5 : ¬ (G1 = (0 : Int32))) (hEL : EW Z a0 own_EL) :
    MetFree l (⟨"com/example/glidepath/glidepath/instance/Aircraft", "<init>", "(Ljava/lang/String;DDDDD)V"⟩ : MethodName) (head1 (Jvm.Cond.code (⟨"com/example/glidepath/glidepath/instance/Aircraft", "<init>", "(Ljava/lang/String;DDDDD)V"⟩ : MethodName) prog_13_method_2_code 12 none :: ws) ({ frames := 8, cells := 66, slots := 3280, locals := 3098 } : Room)) (fun a U => a = #[(.ref a1), (.ref a2), (.double f3), (.double f4), (.double f5), (.double f6), (.double f7)] ∧ Z.Warmed39 U.vm ∧ U.heap = h0 ∧ CHv Z own_EL U.vm h0) (fun _ _ _ _ _ => True) (fun _ U o U' => ∃ v L, o = .returned v ∧ QrA6 Z a1 a2 f3 f4 f5 f6 f7 xt xe xl wb kw eo ci ca rcl tb G1 h0 n0 v U'.heap L ∧ CHr Z own_EL U.vm U.heap U'.vm U'.heap ∧ ReturnedEndW U o U' L ({ frames := 8, cells := 66, slots := 3280, locals := 3098 } : Room).cells ({ frames := 8, cells := 66, slots := 3280, locals := 3098 } : Room).slots) := by
  refine MetFree.of_bodySF (plainFor_of_name pn_1) hisR ?_
  intro p e s m args below meth c s₁ Bd hml0 hP hK
  obtain ⟨rfl, hZ, hh, hUZ⟩ := hP
  have hx := Bd.exec
  have hby := Bd.bytes
  have hml : c.maxLocals = 12 := hml0
  have hown : s.vm.findClass "com/example/glidepath/glidepath/instance/Aircraft" = some m.cls := findClass_of_methodNamed Bd.named
  have hnm := (name_of_methodNamed Bd.named Bd.method).1
  have X0 : Stand p l e ({ frames := 8, cells := 66, slots := 3280, locals := 3098 } : Room) s m #[(.ref a1), (.ref a2), (.double f3), (.double f4), (.double f5), (.double f6), (.double f7)] below meth c s₁ [] 0 0 := Stand.of_body Bd
  have e0 : s₁.heap = h0 := by rw [← hh, Bd.state]; rfl
  have N0 := Fr.nil n0
  have pre0 : ∀ t, Steps p.tables e below (s₁.setTop (mkF m 0 #[.val (.ref a1), .val (.ref a2), .val (.double f3), .second, .val (.double f4), .second, .val (.double f5), .second, .val (.double f6), .second, .val (.double f7), .second] [])) t → Steps p.tables e below (s₁.setTop (entryFrame m #[(.ref a1), (.ref a2), (.double f3), (.double f4), (.double f5), (.double f6), (.double f7)] 12)) t := fun t k => castTop (ef_rA6 m a1 a2 f3 f4 f5 f6 f7) k
  have nis : a1 ≠ a2 := own_neE EA ES (by decide)
  have nia : a1 ≠ wb := Exa.neArv EA AS (hw _ (own_w 2 rfl))
  have hS0 : s.Since s.vm s.heap.size := (State.WarmedH.refl s).since _
  have CR0 := CHr.refl hUZ
  have wS : ∀ a ∈ Bundle.stringAtoms, a.before a0 Z = true := fun d hd => hw d ((by decide +kernel : ∀ d ∈ Bundle.stringAtoms, d ∈ tables_1) d hd)
  obtain ⟨_, _, ⟨T1, Lq1, kq1, nq1⟩, -, X1, ⟨Lc1, hQ1, lq1, yq1, zq1⟩, st1⟩ := Jvm.LawKit.callS X0 hx (y := (⟨"java/util/Optional", "empty", "()Ljava/util/Optional;"⟩ : MethodName)) hown (mvT hZ (hw _ (own_w 15 rfl))) (mvT hZ (hw _ (own_w 16 rfl))) (mvT hZ (hw _ (own_w 17 rfl))) (mvT hZ (hw _ (own_w 18 rfl))) (by decide) (backOf (W := 12) (rOe l Z a0 hw []  eo h0 n0 Z0 X00 O_E) hZ (hw _ (own_w 18 rfl)) (hw _ (own_w 17 rfl)) (by decide) (by decide)) (g := (mkF m 11 #[.val (.ref a1), .val (.ref a2), .val (.double (FP.l2d xt)), .second, .val (.double (FP.l2d xt)), .second, .val (.double (FP.l2d xt)), .second, .val (.double (FP.l2d xe)), .second, .val (.double (FP.l2d xl)), .second] [(.double (FP.l2d xl)), (.double (FP.l2d xe)), (.double (FP.l2d xt)), (.double (FP.l2d xt)), (.double (FP.l2d xt)), (.ref a2), (.ref a1)])) rfl (by rw [hml]; rfl) (argsL := []) (rest := [(.double (FP.l2d xl)), (.double (FP.l2d xe)), (.double (FP.l2d xt)), (.double (FP.l2d xt)), (.double (FP.l2d xt)), (.ref a2), (.ref a1)]) (lenOf pd_22 rfl) rfl (by show 2 * 0 + _ ≤ _; exact Nat.le_of_eq rfl) (hb hby d1_11) (fun _ _ => ⟨rfl, e0, (by decide : 0 + 0 ≤ _), (by decide : 0 + 0 ≤ _)⟩)
  dsimp only [Pt.U, Pt.locs, Pt.cells, Pt.slots] at X1 lq1 yq1 zq1 st1 hQ1
  subst yq1 zq1
  replace X1 : Stand _ _ _ _ _ _ _ _ _ _ _ _ 0 0 := X1
  obtain ⟨rfl, N1q, e1⟩ := hQ1
  have N1 : Fr n0 Lq1 := by rw [lq1]; exact Fr.app N0 N1q
  obtain ⟨_, _, ⟨T2, Lq2, kq2, nq2⟩, -, X2, ⟨Lc2, hQ2, lq2, yq2, zq2⟩, st2⟩ := Jvm.LawKit.callS X1 hx (y := (⟨"java/util/Optional", "empty", "()Ljava/util/Optional;"⟩ : MethodName)) hown (mvT hZ (hw _ (own_w 15 rfl))) (mvT hZ (hw _ (own_w 16 rfl))) (mvT hZ (hw _ (own_w 17 rfl))) (mvT hZ (hw _ (own_w 18 rfl))) (by decide) (backOf (W := 13) (rOe l Z a0 hw []  eo h0 n0 Z0 X00 O_E) hZ (hw _ (own_w 18 rfl)) (hw _ (own_w 17 rfl)) (by decide) (by decide)) (g := (mkF m 14 #[.val (.ref a1), .val (.ref a2), .val (.double (FP.l2d xt)), .second, .val (.double (FP.l2d xt)), .second, .val (.double (FP.l2d xt)), .second, .val (.double (FP.l2d xe)), .second, .val (.double (FP.l2d xl)), .second] [(.ref eo), (.double (FP.l2d xl)), (.double (FP.l2d xe)), (.double (FP.l2d xt)), (.double (FP.l2d xt)), (.double (FP.l2d xt)), (.ref a2), (.ref a1)])) rfl (by rw [hml]; rfl) (argsL := []) (rest := [(.ref eo), (.double (FP.l2d xl)), (.double (FP.l2d xe)), (.double (FP.l2d xt)), (.double (FP.l2d xt)), (.double (FP.l2d xt)), (.ref a2), (.ref a1)]) (lenOf pd_22 rfl) rfl (by show 2 * 0 + _ ≤ _; exact Nat.le_of_eq rfl) (hb hby d1_14) (fun _ _ => ⟨rfl, e1, (by decide : 0 + 0 ≤ _), (by decide : 0 + 0 ≤ _)⟩)
  dsimp only [Pt.U, Pt.locs, Pt.cells, Pt.slots] at X2 lq2 yq2 zq2 st2 hQ2
  subst yq2 zq2
  replace X2 : Stand _ _ _ _ _ _ _ _ _ _ _ _ 0 0 := X2
  obtain ⟨rfl, N2q, e2⟩ := hQ2
  have N2 : Fr n0 Lq2 := by rw [lq2]; exact Fr.app N1 N2q
  obtain ⟨_, _, ⟨T3, Lq3, kq3, nq3⟩, -, X3, hT3, hgr3, ⟨Lc3, hQ3, lq3, yq3, zq3, CC3⟩, st3⟩ := X2.specialBackS hx (y := (⟨"com/example/glidepath/glidepath/instance/Aircraft", "<init>", "(Ljava/lang/String;DDDDDLjava/util/Optional;Ljava/util/Optional;)V"⟩ : MethodName)) rfl hown (mvT hZ (hw _ (own_w 20 rfl))) (mvT hZ (hw _ (own_w 21 rfl))) (mvT hZ (hw _ (own_w 22 rfl))) (by decide) (backOfSH (s := s) (vm0 := s.vm) (W := 0) (rA8 l Z a0 hw [] a1 a2 (FP.l2d xt) (FP.l2d xt) (FP.l2d xt) (FP.l2d xe) (FP.l2d xl) eo eo (xt) (xe) (xl) wb kw eo ci ca rcl tb G1 h0 n0 Z0 rfl rfl rfl rfl rfl ht he hl EA DA1 DA2 DA3 DA4 DA5 DA0 DA6 DA7 ga ES SV SC AS O_E O_EE O_EV O_CI O_CE O_CA RA RV O_BT O_BE O_BV X00 O_2 P5 hEL rfl rfl) hZ (hw _ (own_w 22 rfl)) (hw _ (own_w 3 rfl)) (by decide) (by decide) hEL CR0.1) (g := (mkF m 17 #[.val (.ref a1), .val (.ref a2), .val (.double (FP.l2d xt)), .second, .val (.double (FP.l2d xt)), .second, .val (.double (FP.l2d xt)), .second, .val (.double (FP.l2d xe)), .second, .val (.double (FP.l2d xl)), .second] [(.ref eo), (.ref eo), (.double (FP.l2d xl)), (.double (FP.l2d xe)), (.double (FP.l2d xt)), (.double (FP.l2d xt)), (.double (FP.l2d xt)), (.ref a2), (.ref a1)])) rfl (by rw [hml]; rfl) (Steps.refl _) (a := a1) (argsL := [(.ref a2), (.double (FP.l2d xt)), (.double (FP.l2d xt)), (.double (FP.l2d xt)), (.double (FP.l2d xe)), (.double (FP.l2d xl)), (.ref eo), (.ref eo)]) (rest := []) (lenOf pd_32 rfl) rfl (by show 2 * 0 + _ ≤ _; exact Nat.le_of_eq rfl) (hb hby d1_17) (fun _ _ => ⟨rfl, e2, (by decide : 0 + 66 ≤ _), (by decide : 0 + 3280 ≤ _)⟩)
  dsimp only [Pt.U, Pt.locs, Pt.cells, Pt.slots] at X3 lq3 yq3 zq3 st3 hQ3 hT3 hgr3 CC3
  subst yq3 zq3
  replace X3 : Stand _ _ _ _ _ _ _ _ _ _ _ _ 66 3280 := X3
  have hS3 := foldS hS0 (Nat.le_trans (Nat.le_of_eq (congrArg Array.size hh)) (Nat.le_of_eq (congrArg Array.size e2).symm)) hT3 hgr3
  have hZ3 : Z.Warmed39 (s.setVm T3.vm).vm := State.Warmed39.trans (t := s.setVm s.vm) hZ hT3.1
  have ho3 : (s.setVm T3.vm).vm.findClass "com/example/glidepath/glidepath/instance/Aircraft" = some m.cls := by rw [show (s.setVm T3.vm).vm = T3.vm from rfl, hT3.1.alike.findClass]; exact hown
  have CR3 := CR0.trans CC3
  obtain ⟨rfl, N3q, KC3, EA3, FT3, FE3, FL3⟩ := hQ3
  have N3 : Fr n0 Lq3 := by rw [lq3]; exact Fr.app N2 N3q
  have Z3 : n0 ≤ T3.heap.size := Nat.le_trans Z0 KC3.1
  have K3 : Keep h0 T3.heap [a1] := (Keep.refl h0 [a1]).trans KC3 (allS (Or.inl (own_w 0 rfl)) all0)
  obtain ⟨fs, hr, hrun, hended, hwd⟩ := Jvm.Stand.leaveW (s := s) (vm₁ := T3.vm) X3 hS3 (Nat.le_trans (Nat.le_refl _) (Nat.le_of_eq (congrArg Array.size rfl).symm)) (v := none) (fun _ => rfl)
  refine ⟨_, _, pre0 _ ?_, hrun, hended, _, _, rfl, ?_, (by show CHr Z own_EL s.vm s.heap T3.vm T3.heap; rw [hh]; exact CR3.trans (CHv.at X3 hZ3 hEL CR3.1)), hwd.1, hwd.2.1, hwd.2.2.1, hwd.2.2.2.mono (by decide) (by decide)⟩
  · show Steps p.tables e below (s₁.setTop (mkF m 0 #[.val (.ref a1), .val (.ref a2), .val (.double f3), .second, .val (.double f4), .second, .val (.double f5), .second, .val (.double f6), .second, .val (.double f7), .second] [])) _
    rw [hf3]
    show Steps p.tables e below (s₁.setTop (mkF m 0 #[.val (.ref a1), .val (.ref a2), .val (.double (FP.l2d xt)), .second, .val (.double f4), .second, .val (.double f5), .second, .val (.double f6), .second, .val (.double f7), .second] [])) _
    rw [hf4]
    show Steps p.tables e below (s₁.setTop (mkF m 0 #[.val (.ref a1), .val (.ref a2), .val (.double (FP.l2d xt)), .second, .val (.double (FP.l2d xt)), .second, .val (.double f5), .second, .val (.double f6), .second, .val (.double f7), .second] [])) _
    rw [hf5]
    show Steps p.tables e below (s₁.setTop (mkF m 0 #[.val (.ref a1), .val (.ref a2), .val (.double (FP.l2d xt)), .second, .val (.double (FP.l2d xt)), .second, .val (.double (FP.l2d xt)), .second, .val (.double f6), .second, .val (.double f7), .second] [])) _
    rw [hf6]
    show Steps p.tables e below (s₁.setTop (mkF m 0 #[.val (.ref a1), .val (.ref a2), .val (.double (FP.l2d xt)), .second, .val (.double (FP.l2d xt)), .second, .val (.double (FP.l2d xt)), .second, .val (.double (FP.l2d xe)), .second, .val (.double f7), .second] [])) _
    rw [hf7]
    show Steps p.tables e below (s₁.setTop (mkF m 0 #[.val (.ref a1), .val (.ref a2), .val (.double (FP.l2d xt)), .second, .val (.double (FP.l2d xt)), .second, .val (.double (FP.l2d xt)), .second, .val (.double (FP.l2d xe)), .second, .val (.double (FP.l2d xl)), .second] [])) _
    refine XS.aloadN X0.here hx rfl (hb hby d1_0) rfl rfl ?_
    refine XS.aloadN X0.here hx rfl (hb hby d1_1) rfl rfl ?_
    refine XS.dloadN X0.here hx rfl (hb hby d1_2) rfl ?_
    refine XS.dload X0.here hx rfl (hb hby d1_3) rfl ?_
    refine XS.dload X0.here hx rfl (hb hby d1_5) rfl ?_
    refine XS.dload X0.here hx rfl (hb hby d1_7) rfl ?_
    refine XS.dload X0.here hx rfl (hb hby d1_9) rfl ?_
    refine st1 _ ?_
    refine st2 _ ?_
    refine st3.trans ?_
    show Steps p.tables e below (T3.setTop (mkF m 20 #[.val (.ref a1), .val (.ref a2), .val (.double (FP.l2d xt)), .second, .val (.double (FP.l2d xt)), .second, .val (.double (FP.l2d xt)), .second, .val (.double (FP.l2d xe)), .second, .val (.double (FP.l2d xl)), .second] [])) _
    exact X3.returnOut hx Bd.returns (hb hby d1_20) hr
  · show QrA6 Z a1 a2 f3 f4 f5 f6 f7 xt xe xl wb kw eo ci ca rcl tb G1 h0 n0 _ T3.heap _
    exact ⟨rfl, N3, K3, EA3, FT3, FE3, FL3⟩
theorem own_inI (x : Int32) : own_in x.toInt64 := by have := own_rng x; exact ⟨by omega, by omega⟩
theorem own_rateI (x : Int32) : own_rate (x &&& (1048575 : Int32)).toInt64 := by
  have h := c_and x (1048575 : Int32) (by decide)
  rw [show (1048575 : Int32).toInt = 1048575 from rfl] at h
  unfold own_rate
  rw [show (x &&& (1048575 : Int32)).toInt64.toInt = (x &&& (1048575 : Int32)).toInt from Int32.toInt_toInt64 _]; exact h
theorem own_eq {tt ti ce cl r1 r2 : Int64} (ht : own_in tt) (hi : own_in ti) (h1 : r1 = if (0 : Int64) < tt - ti then tt - ti else 0) (h2 : r2 = if (0 : Int64) < ti - tt then ti - tt else 0) : own_cost tt ce cl ti = ce * r1 + cl * r2 := by
  have s1 := sub64 (own_in53 ht) (own_in53 hi); have s2 := sub64 (own_in53 hi) (own_in53 ht)
  have z0 : (0 : Int64).toInt = 0 := rfl
  by_cases h : ti < tt
  · have a : (0 : Int64) < tt - ti := by rw [Int64.lt_iff_toInt_lt] at h ⊢; omega
    have b : ¬ (0 : Int64) < ti - tt := by rw [Int64.lt_iff_toInt_lt] at h ⊢; omega
    rw [own_c1 h, h1, h2, if_pos a, if_neg b]; simp
  · have a : ¬ (0 : Int64) < tt - ti := by rw [Int64.lt_iff_toInt_lt] at h ⊢; omega
    rw [own_c2 h, h1, h2, if_neg a]
    by_cases b : (0 : Int64) < ti - tt
    · rw [if_pos b]; simp
    · rw [if_neg b]
      have e : ti - tt = 0 := Int64.toInt_inj.mp (by rw [Int64.lt_iff_toInt_lt] at h b; omega)
      rw [e]; simp

theorem d51_0 : decode jdk_29_method_66_code 0 = .ok (.lload_n 0, 1) := by decide +kernel
theorem d51_1 : decode jdk_29_method_66_code 1 = .ok (.lload_n 2, 1) := by decide +kernel
theorem d51_2 : decode jdk_29_method_66_code 2 = .ok (.lcmp, 1) := by decide +kernel
theorem d51_3 : decode jdk_29_method_66_code 3 = .ok (.ifCond .lt 7, 3) := by decide +kernel
theorem d51_6 : decode jdk_29_method_66_code 6 = .ok (.lload_n 0, 1) := by decide +kernel
theorem d51_7 : decode jdk_29_method_66_code 7 = .ok (.goto 4, 3) := by decide +kernel
theorem d51_10 : decode jdk_29_method_66_code 10 = .ok (.lload_n 2, 1) := by decide +kernel
theorem d51_11 : decode jdk_29_method_66_code 11 = .ok (.lreturn, 1) := by decide +kernel
theorem ef_rMj (m : MethodId) (q1 : Int64) (q2 : Int64) : entryFrame m #[(.long q1), (.long q2)] 4 = mkF m 0 #[.val (.long q1), .second, .val (.long q2), .second] [] := by first | (simp [entryFrame, mkF, argsToLocals, Value.category]; done) | rfl
def QrMj (Z : State) (q1 : Int64) (q2 : Int64) (h0 : Heap) (n0 : Nat) (v : Option Value) (h : Heap) (L : List Loc) : Prop := ∃ z : Int64, z = (if q1 < q2 then q2 else q1) ∧ v = some (.long z) ∧ Fr n0 L ∧ h = h0
set_option maxRecDepth 65536 in
set_option maxHeartbeats 40000000 in
theorem rMj (l : Launch) (Z : State) (a0 : Array Value) (hw : ∀ d ∈ tables_1, d.before a0 Z = true) (ws : List Jvm.Cond) (q1 : Int64) (q2 : Int64) (h0 : Heap) (n0 : Nat) (Z0 : n0 ≤ h0.size) :
    MetFree l (⟨"java/lang/Math", "max", "(JJ)J"⟩ : MethodName) (head1 (Jvm.Cond.code (⟨"java/lang/Math", "max", "(JJ)J"⟩ : MethodName) jdk_29_method_66_code 4 (some .long) :: ws) ({ frames := 0, cells := 0, slots := 0, locals := 0 } : Room)) (fun a U => a = #[(.long q1), (.long q2)] ∧ Z.Warmed39 U.vm ∧ U.heap = h0) (fun _ _ _ _ _ => True) (fun _ U o U' => ∃ v L, o = .returned v ∧ QrMj Z q1 q2 h0 n0 v U'.heap L ∧ FrameEnd U o U' L ({ frames := 0, cells := 0, slots := 0, locals := 0 } : Room).cells ({ frames := 0, cells := 0, slots := 0, locals := 0 } : Room).slots) := by
  refine MetFree.of_bodySF (Jvm.Free.JP.mathPlain rfl (by decide +kernel)) hisR ?_
  intro p e s m args below meth c s₁ Bd hml0 hP hK
  obtain ⟨rfl, hZ, hh⟩ := hP
  have hx := Bd.exec
  have hby := Bd.bytes
  have hml : c.maxLocals = 4 := hml0
  have hown : s.vm.findClass "java/lang/Math" = some m.cls := findClass_of_methodNamed Bd.named
  have hnm := (name_of_methodNamed Bd.named Bd.method).1
  have X0 : Stand p l e ({ frames := 0, cells := 0, slots := 0, locals := 0 } : Room) s m #[(.long q1), (.long q2)] below meth c s₁ [] 0 0 := Stand.of_body Bd
  have e0 : s₁.heap = h0 := by rw [← hh, Bd.state]; rfl
  have N0 := Fr.nil n0
  have pre0 : ∀ t, Steps p.tables e below (s₁.setTop (mkF m 0 #[.val (.long q1), .second, .val (.long q2), .second] [])) t → Steps p.tables e below (s₁.setTop (entryFrame m #[(.long q1), (.long q2)] 4)) t := fun t k => castTop (ef_rMj m q1 q2) k
  by_cases hc3 : q1 < q2
  · obtain ⟨fs, hr, hrun, hended, hW, hsame⟩ := X0.leave (v := some (.long q2)) (fun h => by rw [Bd.returns] at h; cases h) (BodyLoose.notSynchronized Bd)
    refine ⟨_, _, pre0 _ ?_, hrun, hended, _, _, rfl, ?_, ⟨_, rfl⟩, hW, hsame.mono (by decide) (by decide)⟩
    · show Steps p.tables e below (s₁.setTop (mkF m 0 #[.val (.long q1), .second, .val (.long q2), .second] [])) _
      refine XS.lloadN X0.here hx rfl (hb hby d51_0) rfl ?_
      refine XS.lloadN X0.here hx rfl (hb hby d51_1) rfl ?_
      refine XS.lcmp X0.here hx rfl (hb hby d51_2) rfl ?_
      refine XS.ifYes X0.here hx rfl (pc0 := 3) (pc' := 10) rfl (hb hby d51_3) rfl ((if0 _ _).trans (tlt (own_lclt hc3)).1) (by decide) (by decide) ?_
      refine XS.lloadN X0.here hx rfl (hb hby d51_10) rfl ?_
      show Steps p.tables e below (s₁.setTop (mkF m 11 #[.val (.long q1), .second, .val (.long q2), .second] [(.long q2)])) _
      exact X0.lreturnOut hx Bd.returns (hb hby d51_11) hr
    · show QrMj Z q1 q2 h0 n0 _ s₁.heap _
      exact ⟨_, by simp [*], rfl, N0, e0⟩
  · obtain ⟨fs, hr, hrun, hended, hW, hsame⟩ := X0.leave (v := some (.long q1)) (fun h => by rw [Bd.returns] at h; cases h) (BodyLoose.notSynchronized Bd)
    refine ⟨_, _, pre0 _ ?_, hrun, hended, _, _, rfl, ?_, ⟨_, rfl⟩, hW, hsame.mono (by decide) (by decide)⟩
    · show Steps p.tables e below (s₁.setTop (mkF m 0 #[.val (.long q1), .second, .val (.long q2), .second] [])) _
      refine XS.lloadN X0.here hx rfl (hb hby d51_0) rfl ?_
      refine XS.lloadN X0.here hx rfl (hb hby d51_1) rfl ?_
      refine XS.lcmp X0.here hx rfl (hb hby d51_2) rfl ?_
      refine XS.ifNo X0.here hx rfl (hb hby d51_3) rfl ((if0 _ _).trans (flt (own_lcnlt hc3)).1) ?_
      refine XS.lloadN X0.here hx rfl (hb hby d51_6) rfl ?_
      refine XS.goto X0.here hx rfl (pc0 := 7) (pc' := 11) rfl (hb hby d51_7) (by decide) (by decide) ?_
      show Steps p.tables e below (s₁.setTop (mkF m 11 #[.val (.long q1), .second, .val (.long q2), .second] [(.long q1)])) _
      exact X0.lreturnOut hx Bd.returns (hb hby d51_11) hr
    · show QrMj Z q1 q2 h0 n0 _ s₁.heap _
      exact ⟨_, by simp [*], rfl, N0, e0⟩
theorem own_ti {p1 p2 p5 : Int32} {ti : Int64} (h : ti = if (p5 &&& (1 : Int32)) = (0 : Int32) then (p2.toInt64) else (((p1.toInt64) + (((p5 >>> ((1 : Int32) &&& 31)) &&& (3 : Int32)).toInt64)) - (2 : Int64))) : own_in ti := by
  have a := own_rng p1; have b := own_rng p2
  have k := c_and (p5 >>> ((1 : Int32) &&& 31)) (3 : Int32) (by decide)
  rw [show (3 : Int32).toInt = 3 from rfl] at k
  generalize ((p5 >>> ((1 : Int32) &&& 31)) &&& (3 : Int32)) = y at h k
  have yr : y.toInt64.toInt = y.toInt := Int32.toInt_toInt64 y
  by_cases q : (p5 &&& (1 : Int32)) = (0 : Int32)
  · rw [if_pos q] at h; subst h; exact ⟨by omega, by omega⟩
  · rw [if_neg q] at h; subst h
    have e1 := add64 (a := p1.toInt64) (b := y.toInt64) (own_b53 (by omega) (by omega)) (own_b53 (by omega) (by omega))
    have e2 := sub64 (a := p1.toInt64 + y.toInt64) (b := 2) (own_b53 (by omega) (by omega)) (own_b53 (by decide) (by decide))
    rw [show (2 : Int64).toInt = 2 from rfl] at e2
    exact ⟨by omega, by omega⟩
theorem pd_33 : parseMethodDescriptor "(Ljava/lang/String;DDDDD)V" = some ⟨[(.object "java/lang/String"), .double, .double, .double, .double, .double], none⟩ := by decide +kernel
theorem pd_34 : parseMethodDescriptor "(JJ)J" = some ⟨[.long, .long], some .long⟩ := by decide +kernel
theorem pn_0 : plainName "com/example/glidepath/glidepath/instance/AircraftCostPinLaw" = true := by first | (simp [plainName, overriddenIn]; done) | decide +kernel
theorem ef_rm0 (m : MethodId) (p1 : Int32) (p2 : Int32) (p3 : Int32) (p4 : Int32) (p5 : Int32) : entryFrame m #[(.int p1), (.int p2), (.int p3), (.int p4), (.int p5)] maxLocals = mkF m 0 #[.val (.int p1), .val (.int p2), .val (.int p3), .val (.int p4), .val (.int p5), .unset, .unset, .unset, .unset, .unset, .unset, .unset, .unset, .unset, .unset, .unset, .unset, .unset, .unset, .unset, .unset, .unset] [] := by first | (simp [entryFrame, mkF, argsToLocals, Value.category, maxLocals]; done) | rfl
def Qrm0 (Z : State) (p1 : Int32) (p2 : Int32) (p3 : Int32) (p4 : Int32) (p5 : Int32) (eo : Addr) (ci : Addr) (ca : Addr) (rcl : Cell) (tb : Addr) (G1 : Int32) (h0 : Heap) (n0 : Nat) (v : Option Value) (h : Heap) (L : List Loc) : Prop := v = some (.int 1) ∧ Fr n0 L
set_option maxRecDepth 65536 in
set_option maxHeartbeats 40000000 in
theorem rm0 (l : Launch) (Z : State) (a0 : Array Value) (hw : ∀ d ∈ tables_1, d.before a0 Z = true) (ws : List Jvm.Cond) (p1 : Int32) (p2 : Int32) (p3 : Int32) (p4 : Int32) (p5 : Int32) (eo : Addr) (ci : Addr) (ca : Addr) (rcl : Cell) (tb : Addr) (G1 : Int32) (h0 : Heap) (n0 : Nat) (Z0 : n0 ≤ h0.size) (X00 : Old Z n0 h0) (O_2 : Sta Z Z.heap "java/lang/String" "COMPACT_STRINGS" "Z" (.int G1)) (P5 : ¬ (G1 = (0 : Int32))) (O_E : Sta Z Z.heap "java/util/Optional" "EMPTY" "Ljava/util/Optional;" (.ref eo)) (O_EE : Exa Z Z.heap eo "java/util/Optional") (O_EV : Fld Z Z.heap eo "java/util/Optional" "value" "Ljava/lang/Object;" .null) (O_CI : Sta Z Z.heap "java/lang/CharacterDataLatin1" "instance" "Ljava/lang/CharacterDataLatin1;" (.ref ci)) (O_CE : Exa Z Z.heap ci "java/lang/CharacterDataLatin1") (O_CA : Sta Z Z.heap "java/lang/CharacterDataLatin1" "A" "[I" (.ref ca)) (RA : Arr Z Z.heap ca rcl .int) (RV : rcl.slots[65]? = some (.int (8552417 : Int32))) (O_BT : Sta Z Z.heap "java/lang/Boolean" "TRUE" "Ljava/lang/Boolean;" (.ref tb)) (O_BE : Exa Z Z.heap tb "java/lang/Boolean") (O_BV : Fld Z Z.heap tb "java/lang/Boolean" "value" "Z" (.int (1 : Int32))) (hEL : EW Z a0 own_EL) (hheld : ∀ p ∈ own_EL, Jvm.Lit.constHeld Z p.1 p.2) (hcw : Jvm.Lit.compactW.before a0 Z = true) :
    MetFree l x (head1 (Jvm.Cond.code x code maxLocals ret :: ws) room_1) (fun a U => a = #[(.int p1), (.int p2), (.int p3), (.int p4), (.int p5)] ∧ Z.Warmed39 U.vm ∧ U.heap = h0 ∧ U = Z) (fun _ _ _ _ _ => True) (fun _ U o U' => ∃ v L, o = .returned v ∧ Qrm0 Z p1 p2 p3 p4 p5 eo ci ca rcl tb G1 h0 n0 v U'.heap L ∧ ReturnedEndW U o U' L room_1.cells room_1.slots) := by
  refine MetFree.of_bodySF (plainFor_of_name pn_0) hisR ?_
  intro p e s m args below meth c s₁ Bd hml0 hP hK
  obtain ⟨rfl, hZ, hh, hUZ⟩ := hP
  have hx := Bd.exec
  have hby := Bd.bytes
  have hml : c.maxLocals = 22 := hml0
  have hown : s.vm.findClass "com/example/glidepath/glidepath/instance/AircraftCostPinLaw" = some m.cls := findClass_of_methodNamed Bd.named
  have hnm := (name_of_methodNamed Bd.named Bd.method).1
  have X0 : Stand p l e room_1 s m #[(.int p1), (.int p2), (.int p3), (.int p4), (.int p5)] below meth c s₁ [] 0 0 := Stand.of_body Bd
  have e0 : s₁.heap = h0 := by rw [← hh, Bd.state]; rfl
  have N0 := Fr.nil n0
  have pre0 : ∀ t, Steps p.tables e below (s₁.setTop (mkF m 0 #[.val (.int p1), .val (.int p2), .val (.int p3), .val (.int p4), .val (.int p5), .unset, .unset, .unset, .unset, .unset, .unset, .unset, .unset, .unset, .unset, .unset, .unset, .unset, .unset, .unset, .unset, .unset] [])) t → Steps p.tables e below (s₁.setTop (entryFrame m #[(.int p1), (.int p2), (.int p3), (.int p4), (.int p5)] maxLocals)) t := fun t k => castTop (ef_rm0 m p1 p2 p3 p4 p5) k
  have H0 : CHv Z own_EL s.vm h0 := by rw [← hh, hUZ]; exact CHv.start hEL hheld hcw (hw _ (own_w 7 rfl)) (hw _ (own_w 6 rfl))
  have hS0 : s.Since s.vm s.heap.size := (State.WarmedH.refl s).since _
  have CR0 := CHr.refl H0
  have wS : ∀ a ∈ Bundle.stringAtoms, a.before a0 Z = true := fun d hd => hw d ((by decide +kernel : ∀ d ∈ Bundle.stringAtoms, d ∈ tables_1) d hd)
  obtain ⟨ti, hti⟩ : ∃ z : Int64, z = (if (p5 &&& (1 : Int32)) = (0 : Int32) then (p2.toInt64) else (((p1.toInt64) + (((p5 >>> ((1 : Int32) &&& 31)) &&& (3 : Int32)).toInt64)) - (2 : Int64))) := ⟨_, rfl⟩
  have sg1 : ∀ tg0, Steps p.tables e below (s₁.setTop (mkF m 30 #[.val (.int p1), .val (.int p2), .val (.int p3), .val (.int p4), .val (.int p5), .val (.long (p1.toInt64)), .second, .unset, .unset, .unset, .unset, .unset, .unset, .unset, .unset, .unset, .unset, .unset, .unset, .unset, .unset, .unset] [(.long ti)])) tg0 → Steps p.tables e below (s₁.setTop (mkF m 4 #[.val (.int p1), .val (.int p2), .val (.int p3), .val (.int p4), .val (.int p5), .val (.long (p1.toInt64)), .second, .unset, .unset, .unset, .unset, .unset, .unset, .unset, .unset, .unset, .unset, .unset, .unset, .unset, .unset, .unset] [])) tg0 := by
    intro tg0 kt
    by_cases hj1_8 : (p5 &&& (1 : Int32)) = (0 : Int32)
    · rw [if_pos hj1_8] at hti
      rw [hti] at kt
      show Steps p.tables e below (s₁.setTop (mkF m 4 #[.val (.int p1), .val (.int p2), .val (.int p3), .val (.int p4), .val (.int p5), .val (.long (p1.toInt64)), .second, .unset, .unset, .unset, .unset, .unset, .unset, .unset, .unset, .unset, .unset, .unset, .unset, .unset, .unset, .unset] [])) _
      refine XS.iload X0.here hx rfl (hb hby at_4) rfl ?_
      refine XS.iconst X0.here hx rfl (hb hby at_6) ?_
      refine XS.iand X0.here hx rfl (hb hby at_7) rfl ?_
      refine XS.ifYes X0.here hx rfl (pc0 := 8) (pc' := 28) rfl (hb hby at_8) rfl ((if0 _ _).trans (teq hj1_8).1) (by decide) (by decide) ?_
      refine XS.iloadN X0.here hx rfl (hb hby at_28) rfl ?_
      refine XS.i2l X0.here hx rfl (hb hby at_29) rfl ?_
      exact kt
    · rw [if_neg hj1_8] at hti
      rw [hti] at kt
      show Steps p.tables e below (s₁.setTop (mkF m 4 #[.val (.int p1), .val (.int p2), .val (.int p3), .val (.int p4), .val (.int p5), .val (.long (p1.toInt64)), .second, .unset, .unset, .unset, .unset, .unset, .unset, .unset, .unset, .unset, .unset, .unset, .unset, .unset, .unset, .unset] [])) _
      refine XS.iload X0.here hx rfl (hb hby at_4) rfl ?_
      refine XS.iconst X0.here hx rfl (hb hby at_6) ?_
      refine XS.iand X0.here hx rfl (hb hby at_7) rfl ?_
      refine XS.ifNo X0.here hx rfl (hb hby at_8) rfl ((if0 _ _).trans (feq hj1_8).1) ?_
      refine XS.iloadN X0.here hx rfl (hb hby at_11) rfl ?_
      refine XS.i2l X0.here hx rfl (hb hby at_12) rfl ?_
      refine XS.iload X0.here hx rfl (hb hby at_13) rfl ?_
      refine XS.iconst X0.here hx rfl (hb hby at_15) ?_
      refine XS.ishr X0.here hx rfl (hb hby at_16) rfl ?_
      refine XS.iconst X0.here hx rfl (hb hby at_17) ?_
      refine XS.iand X0.here hx rfl (hb hby at_18) rfl ?_
      refine XS.i2l X0.here hx rfl (hb hby at_19) rfl ?_
      refine XS.ladd X0.here hx rfl (hb hby at_20) rfl ?_
      refine X0.ldc2Long hx hown (mvT hZ (hw _ (own_w 297 rfl))) (g := (mkF m 21 #[.val (.int p1), .val (.int p2), .val (.int p3), .val (.int p4), .val (.int p5), .val (.long (p1.toInt64)), .second, .unset, .unset, .unset, .unset, .unset, .unset, .unset, .unset, .unset, .unset, .unset, .unset, .unset, .unset, .unset] [(.long ((p1.toInt64) + (((p5 >>> ((1 : Int32) &&& 31)) &&& (3 : Int32)).toInt64)))])) rfl (hb hby at_21) _ ?_
      refine XS.lsub X0.here hx rfl (hb hby at_24) rfl ?_
      refine XS.goto X0.here hx rfl (pc0 := 25) (pc' := 30) rfl (hb hby at_25) (by decide) (by decide) ?_
      exact kt
  have hit : own_in ti := own_ti hti
  obtain ⟨T2, h2, X2, e2, E2, A2, D2, -, st2⟩ := newO X0 hx hZ hown (hw _ (own_w 1 rfl)) (hw _ (own_w 2 rfl)) (hw _ (own_w 3 rfl)) e0 (g := (mkF m 46 #[.val (.int p1), .val (.int p2), .val (.int p3), .val (.int p4), .val (.int p5), .val (.long (p1.toInt64)), .second, .val (.long ti), .second, .val (.long ((p3 &&& (1048575 : Int32)).toInt64)), .second, .val (.long ((p4 &&& (1048575 : Int32)).toInt64)), .second, .unset, .unset, .unset, .unset, .unset, .unset, .unset, .unset, .unset] [])) rfl (hb hby at_46) (by decide) (by decide)
  obtain ⟨b2o, g2⟩ : ∃ z, z = h0.size := ⟨_, rfl⟩
  have b2 : n0 ≤ b2o := Nat.le_trans Z0 (Nat.le_of_eq g2.symm)
  have ne3 : eo ≠ b2o := Nat.ne_of_lt (Nat.lt_of_lt_of_le (O_EE.ext X00.2).lt (Nat.le_of_eq g2.symm))
  have ne4 : ci ≠ b2o := Nat.ne_of_lt (Nat.lt_of_lt_of_le (O_CE.ext X00.2).lt (Nat.le_of_eq g2.symm))
  have ne5 : tb ≠ b2o := Nat.ne_of_lt (Nat.lt_of_lt_of_le (O_BE.ext X00.2).lt (Nat.le_of_eq g2.symm))
  rw [← g2] at A2 D2 st2
  have Z2 : n0 ≤ h2.size := Nat.le_trans Z0 E2.1
  have F2_274 : Fld Z h2 b2o "com/example/glidepath/glidepath/instance/Aircraft" "id" "Ljava/lang/String;" .null := D2 (Or.inr (hw _ (own_w 274 rfl))) (ty := (.object "java/lang/String")) (by decide)
  have F2_276 : Fld Z h2 b2o "com/example/glidepath/glidepath/instance/Aircraft" "target" "D" (.double (0 : UInt64)) := D2 (Or.inr (hw _ (own_w 276 rfl))) (ty := .double) (by decide)
  have F2_278 : Fld Z h2 b2o "com/example/glidepath/glidepath/instance/Aircraft" "earliest" "D" (.double (0 : UInt64)) := D2 (Or.inr (hw _ (own_w 278 rfl))) (ty := .double) (by decide)
  have F2_280 : Fld Z h2 b2o "com/example/glidepath/glidepath/instance/Aircraft" "latest" "D" (.double (0 : UInt64)) := D2 (Or.inr (hw _ (own_w 280 rfl))) (ty := .double) (by decide)
  have F2_282 : Fld Z h2 b2o "com/example/glidepath/glidepath/instance/Aircraft" "costEarly" "D" (.double (0 : UInt64)) := D2 (Or.inr (hw _ (own_w 282 rfl))) (ty := .double) (by decide)
  have F2_284 : Fld Z h2 b2o "com/example/glidepath/glidepath/instance/Aircraft" "costLate" "D" (.double (0 : UInt64)) := D2 (Or.inr (hw _ (own_w 284 rfl))) (ty := .double) (by decide)
  have F2_286 : Fld Z h2 b2o "com/example/glidepath/glidepath/instance/Aircraft" "category" "Ljava/util/Optional;" .null := D2 (Or.inr (hw _ (own_w 286 rfl))) (ty := (.object "java/util/Optional")) (by decide)
  have F2_288 : Fld Z h2 b2o "com/example/glidepath/glidepath/instance/Aircraft" "route" "Ljava/util/Optional;" .null := D2 (Or.inr (hw _ (own_w 288 rfl))) (ty := (.object "java/util/Optional")) (by decide)
  have CR6 := CR0.trans (CHr.ext E2 CR0.1)
  obtain ⟨sa7, T7, h7, k17, sb7, sk7, X7, e7, E7, hS7, hk7, hZ7, ho7, SE7, SC7, SV7, SA7, -, -, CC7, -, NE7, st7⟩ := ldcCH (s := s) (vm0 := s.vm) (Z := Z) (h := h2) X2 hx hZ hown (hw _ (own_w 4 rfl)) wS e2 hS0 (Nat.le_trans (Nat.le_of_eq (congrArg Array.size hh)) E2.1) hEL (own_w 5 rfl) CR6.1 (vs := [(.int (65 : Int32))]) (z := (1 : Int32)) ⟨by decide +kernel, by decide +kernel⟩ (by decide) (by decide) (g := (mkF m 50 #[.val (.int p1), .val (.int p2), .val (.int p3), .val (.int p4), .val (.int p5), .val (.long (p1.toInt64)), .second, .val (.long ti), .second, .val (.long ((p3 &&& (1048575 : Int32)).toInt64)), .second, .val (.long ((p4 &&& (1048575 : Int32)).toInt64)), .second, .unset, .unset, .unset, .unset, .unset, .unset, .unset, .unset, .unset] [(.ref b2o), (.ref b2o)])) rfl (hb hby at_50) (n := 4) (by decide +kernel) (by decide) (by decide) (by decide)
  have CR7 := CR6.trans CC7
  have Z7 : n0 ≤ h7.size := Nat.le_trans Z2 E7.1
  replace X7 : Stand _ _ _ _ _ _ _ _ _ _ _ _ 3 16 := X7
  have f8 := (A2.ext E7)
  have ns9 := NE7 _ (Safe.exa (State.Warmed39.alike hZ7) f8 (by decide) (by decide))
  have f11 := (F2_276.ext E7)
  have f12 := (F2_278.ext E7)
  have f13 := (F2_280.ext E7)
  have f14 := (F2_282.ext E7)
  have f15 := (F2_284.ext E7)
  have f16 := (F2_274.ext E7)
  have f17 := (F2_286.ext E7)
  have f18 := (F2_288.ext E7)
  have f19 := ((X00.ext E2).ext E7)
  obtain ⟨_, _, ⟨T10, Lq10, kq10, nq10⟩, -, X10, hT10, hgr10, ⟨Lc10, hQ10, lq10, yq10, zq10, CC10⟩, st10⟩ := X7.specialBackS hx (y := (⟨"com/example/glidepath/glidepath/instance/Aircraft", "<init>", "(Ljava/lang/String;DDDDD)V"⟩ : MethodName)) rfl ho7 (mvT hZ7 (hw _ (own_w 12 rfl))) (mvT hZ7 (hw _ (own_w 13 rfl))) (mvT hZ7 (hw _ (own_w 14 rfl))) (by decide) (backOfSH (s := s) (vm0 := T7.vm) (W := 1) (rA6 l Z a0 hw [] b2o sa7 (FP.l2d (p1.toInt64)) (FP.l2d (p1.toInt64)) (FP.l2d (p1.toInt64)) (FP.l2d ((p3 &&& (1048575 : Int32)).toInt64)) (FP.l2d ((p4 &&& (1048575 : Int32)).toInt64)) ((p1.toInt64)) (((p3 &&& (1048575 : Int32)).toInt64)) (((p4 &&& (1048575 : Int32)).toInt64)) sb7 sk7 eo ci ca rcl tb G1 h7 n0 Z7 rfl rfl rfl rfl rfl (own_inI _) (own_rateI _) (own_rateI _) f8 f11 f12 f13 f14 f15 f16 f17 f18 b2 SE7 SV7 SC7 SA7 O_E O_EE O_EV O_CI O_CE O_CA RA RV O_BT O_BE O_BV f19 O_2 P5 hEL) hZ7 (hw _ (own_w 14 rfl)) (hw _ (own_w 3 rfl)) (by decide) (by decide) hEL CR7.1) (g := (mkF m 67 #[.val (.int p1), .val (.int p2), .val (.int p3), .val (.int p4), .val (.int p5), .val (.long (p1.toInt64)), .second, .val (.long ti), .second, .val (.long ((p3 &&& (1048575 : Int32)).toInt64)), .second, .val (.long ((p4 &&& (1048575 : Int32)).toInt64)), .second, .unset, .unset, .unset, .unset, .unset, .unset, .unset, .unset, .unset] [(.double (FP.l2d ((p4 &&& (1048575 : Int32)).toInt64))), (.double (FP.l2d ((p3 &&& (1048575 : Int32)).toInt64))), (.double (FP.l2d (p1.toInt64))), (.double (FP.l2d (p1.toInt64))), (.double (FP.l2d (p1.toInt64))), (.ref sa7), (.ref b2o), (.ref b2o)])) rfl (by rw [hml]; rfl) (Steps.refl _) (a := b2o) (argsL := [(.ref sa7), (.double (FP.l2d (p1.toInt64))), (.double (FP.l2d (p1.toInt64))), (.double (FP.l2d (p1.toInt64))), (.double (FP.l2d ((p3 &&& (1048575 : Int32)).toInt64))), (.double (FP.l2d ((p4 &&& (1048575 : Int32)).toInt64)))]) (rest := [(.ref b2o)]) (lenOf pd_33 rfl) rfl (by show 2 * 0 + _ ≤ _; exact Nat.le_of_eq rfl) (hb hby at_67) (fun _ _ => ⟨rfl, e7, (by decide : 3 + 66 ≤ _), (by decide : 16 + 3280 ≤ _)⟩)
  dsimp only [Pt.U, Pt.locs, Pt.cells, Pt.slots] at X10 lq10 yq10 zq10 st10 hQ10 hT10 hgr10 CC10
  subst yq10 zq10
  replace X10 : Stand _ _ _ _ _ _ _ _ _ _ _ _ 69 3296 := X10
  have hS10 := foldS hS7 (Nat.le_trans hk7 (Nat.le_of_eq (congrArg Array.size e7).symm)) hT10 hgr10
  have hZ10 : Z.Warmed39 (s.setVm T10.vm).vm := State.Warmed39.trans (t := s.setVm T7.vm) hZ7 hT10.1
  have ho10 : (s.setVm T10.vm).vm.findClass "com/example/glidepath/glidepath/instance/AircraftCostPinLaw" = some m.cls := by rw [show (s.setVm T10.vm).vm = T10.vm from rfl, hT10.1.alike.findClass]; exact ho7
  have CR10 := CR7.trans CC10
  obtain ⟨rfl, N10q, KC10, EA10, FT10, FE10, FL10⟩ := hQ10
  have N10 : Fr n0 Lq10 := by rw [lq10]; exact Fr.app N0 N10q
  have Z10 : n0 ≤ T10.heap.size := Nat.le_trans Z7 KC10.1
  obtain ⟨cq20, kz20, q20a, q20b, q20c⟩ := isOf hZ10 rfl EA10
  obtain ⟨_, _, ⟨T20, Lq20, kq20, nq20⟩, -, X20, ⟨Lc20, hQ20, lq20, yq20, zq20⟩, st20⟩ := X10.virtualBack hx (y := (⟨"com/example/glidepath/glidepath/instance/Aircraft", "cost", "(D)D"⟩ : MethodName)) (z := (⟨"com/example/glidepath/glidepath/instance/Aircraft", "cost", "(D)D"⟩ : MethodName)) ho10 (mvT hZ10 (hw _ (own_w 289 rfl))) (mvT hZ10 (hw _ (own_w 290 rfl))) (notFace_of_selects (args := #[]) (mvT hZ10 (hw _ (own_w 292 rfl)))) (mvT hZ10 (hw _ (own_w 292 rfl))) (mvT hZ10 (hw _ (own_w 291 rfl))) (by decide) (backOf (W := 0) (rCs l Z a0 hw [] b2o (FP.l2d ti) ((p1.toInt64)) (((p3 &&& (1048575 : Int32)).toInt64)) (((p4 &&& (1048575 : Int32)).toInt64)) (ti) T10.heap n0 Z10 rfl FT10 FE10 FL10 (own_inI _) hit (own_rateI _) (own_rateI _)) hZ10 (hw _ (own_w 293 rfl)) (hw _ (own_w 3 rfl)) (by decide) (by decide)) q20a q20c (g := (mkF m 77 #[.val (.int p1), .val (.int p2), .val (.int p3), .val (.int p4), .val (.int p5), .val (.long (p1.toInt64)), .second, .val (.long ti), .second, .val (.long ((p3 &&& (1048575 : Int32)).toInt64)), .second, .val (.long ((p4 &&& (1048575 : Int32)).toInt64)), .second, .val (.ref b2o), .unset, .unset, .unset, .unset, .unset, .unset, .unset, .unset] [(.double (FP.l2d ti)), (.ref b2o)])) rfl (by rw [hml]; rfl) (Steps.refl _) (argsL := [(.double (FP.l2d ti))]) (rest := []) (lenOf pd_20 rfl) rfl (by show 2 * 0 + _ ≤ _; exact Nat.le_of_eq rfl) (hb hby at_77) (fun _ _ => ⟨rfl, rfl, (by decide : 69 + 0 ≤ _), (by decide : 3296 + 0 ≤ _)⟩)
  dsimp only [Pt.U, Pt.locs, Pt.cells, Pt.slots] at X20 lq20 yq20 zq20 st20 hQ20
  subst yq20 zq20
  replace X20 : Stand _ _ _ _ _ _ _ _ _ _ _ _ 69 3296 := X20
  obtain ⟨rfl, N20q, e20⟩ := hQ20
  have N20 : Fr n0 Lq20 := by rw [lq20]; exact Fr.app N10 N20q
  obtain ⟨_, _, ⟨T21, Lq21, kq21, nq21⟩, -, X21, ⟨Lc21, hQ21, lq21, yq21, zq21⟩, st21⟩ := Jvm.LawKit.callS X20 hx (y := (⟨"java/lang/Math", "max", "(JJ)J"⟩ : MethodName)) ho10 (mvT hZ10 (hw _ (own_w 294 rfl))) (mvT hZ10 (hw _ (own_w 295 rfl))) (mvT hZ10 (hw _ (own_w 92 rfl))) (mvT hZ10 (hw _ (own_w 296 rfl))) (by decide) (backOf (W := 0) (rMj l Z a0 hw [] (0 : Int64) ((p1.toInt64) - ti)  T10.heap n0 Z10 ) hZ10 (hw _ (own_w 296 rfl)) (hw _ (own_w 92 rfl)) (by decide) (by decide)) (g := (mkF m 88 #[.val (.int p1), .val (.int p2), .val (.int p3), .val (.int p4), .val (.int p5), .val (.long (p1.toInt64)), .second, .val (.long ti), .second, .val (.long ((p3 &&& (1048575 : Int32)).toInt64)), .second, .val (.long ((p4 &&& (1048575 : Int32)).toInt64)), .second, .val (.ref b2o), .val (.double (FP.l2d (own_cost ((p1.toInt64)) (((p3 &&& (1048575 : Int32)).toInt64)) (((p4 &&& (1048575 : Int32)).toInt64)) (ti)))), .second, .unset, .unset, .unset, .unset, .unset, .unset] [(.long ((p1.toInt64) - ti)), (.long (0 : Int64))])) rfl (by rw [hml]; rfl) (argsL := [(.long (0 : Int64)), (.long ((p1.toInt64) - ti))]) (rest := []) (lenOf pd_34 rfl) rfl (by show 2 * 0 + _ ≤ _; exact Nat.le_of_eq rfl) (hb hby at_88) (fun _ _ => ⟨rfl, e20, (by decide : 69 + 0 ≤ _), (by decide : 3296 + 0 ≤ _)⟩)
  dsimp only [Pt.U, Pt.locs, Pt.cells, Pt.slots] at X21 lq21 yq21 zq21 st21 hQ21
  subst yq21 zq21
  replace X21 : Stand _ _ _ _ _ _ _ _ _ _ _ _ 69 3296 := X21
  obtain ⟨r21, hr21, rfl, N21q, e21⟩ := hQ21
  have N21 : Fr n0 Lq21 := by rw [lq21]; exact Fr.app N20 N21q
  obtain ⟨_, _, ⟨T22, Lq22, kq22, nq22⟩, -, X22, ⟨Lc22, hQ22, lq22, yq22, zq22⟩, st22⟩ := Jvm.LawKit.callS X21 hx (y := (⟨"java/lang/Math", "max", "(JJ)J"⟩ : MethodName)) ho10 (mvT hZ10 (hw _ (own_w 294 rfl))) (mvT hZ10 (hw _ (own_w 295 rfl))) (mvT hZ10 (hw _ (own_w 92 rfl))) (mvT hZ10 (hw _ (own_w 296 rfl))) (by decide) (backOf (W := 0) (rMj l Z a0 hw [] (0 : Int64) (ti - (p1.toInt64))  T10.heap n0 Z10 ) hZ10 (hw _ (own_w 296 rfl)) (hw _ (own_w 92 rfl)) (by decide) (by decide)) (g := (mkF m 99 #[.val (.int p1), .val (.int p2), .val (.int p3), .val (.int p4), .val (.int p5), .val (.long (p1.toInt64)), .second, .val (.long ti), .second, .val (.long ((p3 &&& (1048575 : Int32)).toInt64)), .second, .val (.long ((p4 &&& (1048575 : Int32)).toInt64)), .second, .val (.ref b2o), .val (.double (FP.l2d (own_cost ((p1.toInt64)) (((p3 &&& (1048575 : Int32)).toInt64)) (((p4 &&& (1048575 : Int32)).toInt64)) (ti)))), .second, .val (.long r21), .second, .unset, .unset, .unset, .unset] [(.long (ti - (p1.toInt64))), (.long (0 : Int64))])) rfl (by rw [hml]; rfl) (argsL := [(.long (0 : Int64)), (.long (ti - (p1.toInt64)))]) (rest := []) (lenOf pd_34 rfl) rfl (by show 2 * 0 + _ ≤ _; exact Nat.le_of_eq rfl) (hb hby at_99) (fun _ _ => ⟨rfl, e21, (by decide : 69 + 0 ≤ _), (by decide : 3296 + 0 ≤ _)⟩)
  dsimp only [Pt.U, Pt.locs, Pt.cells, Pt.slots] at X22 lq22 yq22 zq22 st22 hQ22
  subst yq22 zq22
  replace X22 : Stand _ _ _ _ _ _ _ _ _ _ _ _ 69 3296 := X22
  obtain ⟨r22, hr22, rfl, N22q, e22⟩ := hQ22
  have N22 : Fr n0 Lq22 := by rw [lq22]; exact Fr.app N21 N22q
  obtain ⟨fs, hr, hrun, hended, hwd⟩ := Jvm.Stand.leaveW (s := s) (vm₁ := T10.vm) X22 hS10 (Nat.le_trans (Nat.le_refl _) (Nat.le_of_eq (congrArg Array.size e22).symm)) (v := some (.int (1 : Int32))) (fun h => by rw [Bd.returns] at h; cases h)
  refine ⟨_, _, pre0 _ ?_, hrun, hended, _, _, rfl, ?_, hwd.1, hwd.2.1, hwd.2.2.1, hwd.2.2.2.mono (by decide) (by decide)⟩
  · show Steps p.tables e below (s₁.setTop (mkF m 0 #[.val (.int p1), .val (.int p2), .val (.int p3), .val (.int p4), .val (.int p5), .unset, .unset, .unset, .unset, .unset, .unset, .unset, .unset, .unset, .unset, .unset, .unset, .unset, .unset, .unset, .unset, .unset] [])) _
    refine XS.iloadN X0.here hx rfl (hb hby at_0) rfl ?_
    refine XS.i2l X0.here hx rfl (hb hby at_1) rfl ?_
    refine XS.lstore X0.here hx rfl (hb hby at_2) rfl (l' := #[.val (.int p1), .val (.int p2), .val (.int p3), .val (.int p4), .val (.int p5), .val (.long (p1.toInt64)), .second, .unset, .unset, .unset, .unset, .unset, .unset, .unset, .unset, .unset, .unset, .unset, .unset, .unset, .unset, .unset]) rfl ?_
    refine sg1 _ ?_
    refine XS.lstore X0.here hx rfl (hb hby at_30) rfl (l' := #[.val (.int p1), .val (.int p2), .val (.int p3), .val (.int p4), .val (.int p5), .val (.long (p1.toInt64)), .second, .val (.long ti), .second, .unset, .unset, .unset, .unset, .unset, .unset, .unset, .unset, .unset, .unset, .unset, .unset, .unset]) rfl ?_
    refine XS.iloadN X0.here hx rfl (hb hby at_32) rfl ?_
    refine X0.ldcInt hx hown (mvT hZ (hw _ (own_w 0 rfl))) (g := (mkF m 33 #[.val (.int p1), .val (.int p2), .val (.int p3), .val (.int p4), .val (.int p5), .val (.long (p1.toInt64)), .second, .val (.long ti), .second, .unset, .unset, .unset, .unset, .unset, .unset, .unset, .unset, .unset, .unset, .unset, .unset, .unset] [(.int p3)])) rfl (hb hby at_33) _ ?_
    refine XS.iand X0.here hx rfl (hb hby at_35) rfl ?_
    refine XS.i2l X0.here hx rfl (hb hby at_36) rfl ?_
    refine XS.lstore X0.here hx rfl (hb hby at_37) rfl (l' := #[.val (.int p1), .val (.int p2), .val (.int p3), .val (.int p4), .val (.int p5), .val (.long (p1.toInt64)), .second, .val (.long ti), .second, .val (.long ((p3 &&& (1048575 : Int32)).toInt64)), .second, .unset, .unset, .unset, .unset, .unset, .unset, .unset, .unset, .unset, .unset, .unset]) rfl ?_
    refine XS.iloadN X0.here hx rfl (hb hby at_39) rfl ?_
    refine X0.ldcInt hx hown (mvT hZ (hw _ (own_w 0 rfl))) (g := (mkF m 40 #[.val (.int p1), .val (.int p2), .val (.int p3), .val (.int p4), .val (.int p5), .val (.long (p1.toInt64)), .second, .val (.long ti), .second, .val (.long ((p3 &&& (1048575 : Int32)).toInt64)), .second, .unset, .unset, .unset, .unset, .unset, .unset, .unset, .unset, .unset, .unset, .unset] [(.int p4)])) rfl (hb hby at_40) _ ?_
    refine XS.iand X0.here hx rfl (hb hby at_42) rfl ?_
    refine XS.i2l X0.here hx rfl (hb hby at_43) rfl ?_
    refine XS.lstore X0.here hx rfl (hb hby at_44) rfl (l' := #[.val (.int p1), .val (.int p2), .val (.int p3), .val (.int p4), .val (.int p5), .val (.long (p1.toInt64)), .second, .val (.long ti), .second, .val (.long ((p3 &&& (1048575 : Int32)).toInt64)), .second, .val (.long ((p4 &&& (1048575 : Int32)).toInt64)), .second, .unset, .unset, .unset, .unset, .unset, .unset, .unset, .unset, .unset]) rfl ?_
    refine st2 _ ?_
    refine XS.dup X2.here hx rfl (hb hby at_49) rfl rfl ?_
    refine st7 _ ?_
    refine XS.lload X7.here hx rfl (hb hby at_52) rfl ?_
    refine XS.l2dS X7.here hx rfl (hb hby at_54) rfl rfl ?_
    refine XS.lload X7.here hx rfl (hb hby at_55) rfl ?_
    refine XS.l2dS X7.here hx rfl (hb hby at_57) rfl rfl ?_
    refine XS.lload X7.here hx rfl (hb hby at_58) rfl ?_
    refine XS.l2dS X7.here hx rfl (hb hby at_60) rfl rfl ?_
    refine XS.lload X7.here hx rfl (hb hby at_61) rfl ?_
    refine XS.l2dS X7.here hx rfl (hb hby at_63) rfl rfl ?_
    refine XS.lload X7.here hx rfl (hb hby at_64) rfl ?_
    refine XS.l2dS X7.here hx rfl (hb hby at_66) rfl rfl ?_
    refine st10.trans ?_
    refine XS.astore X10.here hx rfl (hb hby at_70) rfl rfl (l' := #[.val (.int p1), .val (.int p2), .val (.int p3), .val (.int p4), .val (.int p5), .val (.long (p1.toInt64)), .second, .val (.long ti), .second, .val (.long ((p3 &&& (1048575 : Int32)).toInt64)), .second, .val (.long ((p4 &&& (1048575 : Int32)).toInt64)), .second, .val (.ref b2o), .unset, .unset, .unset, .unset, .unset, .unset, .unset, .unset]) rfl ?_
    refine XS.aload X10.here hx rfl (hb hby at_72) rfl rfl ?_
    refine XS.lload X10.here hx rfl (hb hby at_74) rfl ?_
    refine XS.l2dS X10.here hx rfl (hb hby at_76) rfl rfl ?_
    refine st20.trans ?_
    refine XS.dstore X20.here hx rfl (hb hby at_80) rfl (l' := #[.val (.int p1), .val (.int p2), .val (.int p3), .val (.int p4), .val (.int p5), .val (.long (p1.toInt64)), .second, .val (.long ti), .second, .val (.long ((p3 &&& (1048575 : Int32)).toInt64)), .second, .val (.long ((p4 &&& (1048575 : Int32)).toInt64)), .second, .val (.ref b2o), .val (.double (FP.l2d (own_cost ((p1.toInt64)) (((p3 &&& (1048575 : Int32)).toInt64)) (((p4 &&& (1048575 : Int32)).toInt64)) (ti)))), .second, .unset, .unset, .unset, .unset, .unset, .unset]) rfl ?_
    refine XS.lconst X20.here hx rfl (hb hby at_82) ?_
    refine XS.lload X20.here hx rfl (hb hby at_83) rfl ?_
    refine XS.lload X20.here hx rfl (hb hby at_85) rfl ?_
    refine XS.lsub X20.here hx rfl (hb hby at_87) rfl ?_
    refine st21 _ ?_
    show Steps p.tables e below (T21.setTop (mkF m 91 #[.val (.int p1), .val (.int p2), .val (.int p3), .val (.int p4), .val (.int p5), .val (.long (p1.toInt64)), .second, .val (.long ti), .second, .val (.long ((p3 &&& (1048575 : Int32)).toInt64)), .second, .val (.long ((p4 &&& (1048575 : Int32)).toInt64)), .second, .val (.ref b2o), .val (.double (FP.l2d (own_cost ((p1.toInt64)) (((p3 &&& (1048575 : Int32)).toInt64)) (((p4 &&& (1048575 : Int32)).toInt64)) (ti)))), .second, .unset, .unset, .unset, .unset, .unset, .unset] [(.long r21)])) _
    refine XS.lstore X21.here hx rfl (hb hby at_91) rfl (l' := #[.val (.int p1), .val (.int p2), .val (.int p3), .val (.int p4), .val (.int p5), .val (.long (p1.toInt64)), .second, .val (.long ti), .second, .val (.long ((p3 &&& (1048575 : Int32)).toInt64)), .second, .val (.long ((p4 &&& (1048575 : Int32)).toInt64)), .second, .val (.ref b2o), .val (.double (FP.l2d (own_cost ((p1.toInt64)) (((p3 &&& (1048575 : Int32)).toInt64)) (((p4 &&& (1048575 : Int32)).toInt64)) (ti)))), .second, .val (.long r21), .second, .unset, .unset, .unset, .unset]) rfl ?_
    refine XS.lconst X21.here hx rfl (hb hby at_93) ?_
    refine XS.lload X21.here hx rfl (hb hby at_94) rfl ?_
    refine XS.lload X21.here hx rfl (hb hby at_96) rfl ?_
    refine XS.lsub X21.here hx rfl (hb hby at_98) rfl ?_
    refine st22 _ ?_
    refine XS.lstore X22.here hx rfl (hb hby at_102) rfl (l' := #[.val (.int p1), .val (.int p2), .val (.int p3), .val (.int p4), .val (.int p5), .val (.long (p1.toInt64)), .second, .val (.long ti), .second, .val (.long ((p3 &&& (1048575 : Int32)).toInt64)), .second, .val (.long ((p4 &&& (1048575 : Int32)).toInt64)), .second, .val (.ref b2o), .val (.double (FP.l2d (own_cost ((p1.toInt64)) (((p3 &&& (1048575 : Int32)).toInt64)) (((p4 &&& (1048575 : Int32)).toInt64)) (ti)))), .second, .val (.long r21), .second, .val (.long r22), .second, .unset, .unset]) rfl ?_
    refine XS.lload X22.here hx rfl (hb hby at_104) rfl ?_
    refine XS.lload X22.here hx rfl (hb hby at_106) rfl ?_
    refine XS.lmul X22.here hx rfl (hb hby at_108) rfl ?_
    refine XS.lload X22.here hx rfl (hb hby at_109) rfl ?_
    refine XS.lload X22.here hx rfl (hb hby at_111) rfl ?_
    refine XS.lmul X22.here hx rfl (hb hby at_113) rfl ?_
    refine XS.ladd X22.here hx rfl (hb hby at_114) rfl ?_
    refine XS.lstore X22.here hx rfl (hb hby at_115) rfl (l' := #[.val (.int p1), .val (.int p2), .val (.int p3), .val (.int p4), .val (.int p5), .val (.long (p1.toInt64)), .second, .val (.long ti), .second, .val (.long ((p3 &&& (1048575 : Int32)).toInt64)), .second, .val (.long ((p4 &&& (1048575 : Int32)).toInt64)), .second, .val (.ref b2o), .val (.double (FP.l2d (own_cost ((p1.toInt64)) (((p3 &&& (1048575 : Int32)).toInt64)) (((p4 &&& (1048575 : Int32)).toInt64)) (ti)))), .second, .val (.long r21), .second, .val (.long r22), .second, .val (.long ((((p3 &&& (1048575 : Int32)).toInt64) * r21) + (((p4 &&& (1048575 : Int32)).toInt64) * r22))), .second]) rfl ?_
    refine XS.dload X22.here hx rfl (hb hby at_117) rfl ?_
    refine XS.lload X22.here hx rfl (hb hby at_119) rfl ?_
    refine XS.l2dS X22.here hx rfl (hb hby at_121) rfl rfl ?_
    refine XS.dcmpS X22.here hx rfl (hb hby at_122) rfl (v := (0 : Int32)) (dcmpV_eq (congrArg FP.l2d (own_eq (own_inI _) hit hr21 hr22)) (Jvm.Free.Fl.l2d_fin _).noNaN _) ?_
    refine XS.ifNo X22.here hx rfl (hb hby at_123) rfl ((if0 _ _).trans (teq (by decide)).2) ?_
    refine XS.iconst X22.here hx rfl (hb hby at_126) ?_
    refine XS.goto X22.here hx rfl (pc0 := 127) (pc' := 131) rfl (hb hby at_127) (by decide) (by decide) ?_
    show Steps p.tables e below (T22.setTop (mkF m 131 #[.val (.int p1), .val (.int p2), .val (.int p3), .val (.int p4), .val (.int p5), .val (.long (p1.toInt64)), .second, .val (.long ti), .second, .val (.long ((p3 &&& (1048575 : Int32)).toInt64)), .second, .val (.long ((p4 &&& (1048575 : Int32)).toInt64)), .second, .val (.ref b2o), .val (.double (FP.l2d (own_cost ((p1.toInt64)) (((p3 &&& (1048575 : Int32)).toInt64)) (((p4 &&& (1048575 : Int32)).toInt64)) (ti)))), .second, .val (.long r21), .second, .val (.long r22), .second, .val (.long ((((p3 &&& (1048575 : Int32)).toInt64) * r21) + (((p4 &&& (1048575 : Int32)).toInt64) * r22))), .second] [(.int (1 : Int32))])) _
    exact retN X22 hx (t := .boolean) Bd.returns (by simp) (hb hby at_131) hr
  · show Qrm0 Z p1 p2 p3 p4 p5 eo ci ca rcl tb G1 h0 n0 _ T22.heap _
    exact ⟨rfl, N22⟩
set_option maxRecDepth 65536 in
set_option maxHeartbeats 40000000 in
theorem comes_1 {Post : Tables → Env → Array Value → State → Outcome → State → Prop} (hpost : ∀ tb e args s v u, (limb_1_1.after args s (.returned v) u = true ∧ limb_1_2.after args s (.returned v) u = true) → ReturnedEndW s (.returned v) u (Jvm.fieldLocs frame_1_writes args s ++ Jvm.arrayLocs frame_1_arrays args s ++ Jvm.staticLocs frame_1_statics s) 104 16896 → Post tb e args s (.returned v) u) :
    ArmFor flags0 classFile x code maxLocals ret World_1 tables_1 room_1 Calls_1 rest_1 Pre_1 Post := by
  intro l hfl _ _ p e ha hc hk s m args below hf hA hF happ hP
  obtain ⟨hcalls, hrest, hpre⟩ := hP
  obtain ⟨-, -, -, hnamed, -, -, -, hat⟩ := (Spec.applies_iff hf).mp happ
  obtain ⟨hg, hn⟩ := and_e (Cond.before_iff.mp (show (Jvm.Cond.and given_1 narrow_1).before args s = true from hpre))
  obtain ⟨hcount, hg0⟩ := and_e hg
  obtain ⟨ha0, hg1⟩ := and_e hg0
  obtain ⟨ha1, hg2⟩ := and_e hg1
  obtain ⟨ha2, hg3⟩ := and_e hg2
  obtain ⟨ha3, hg4⟩ := and_e hg3
  obtain ⟨w0, w1, w2, w3, w4, rfl⟩ : ∃ w0 w1 w2 w3 w4 : Value, args = #[w0, w1, w2, w3, w4] := by
    have hs : args.size = 5 := by simpa [Cond.value, given_1] using hcount
    obtain ⟨L⟩ := args
    match L, hs with
    | [w0, w1, w2, w3, w4], _ => exact ⟨w0, w1, w2, w3, w4, rfl⟩
  have hw := fun d (hd : d ∈ tables_1) => atoms_spec (ws := Jvm.Cond.code x code maxLocals ret :: tables_1) hat d (List.mem_cons_of_mem _ hd)
  have hfit : Fit s := fun {y c} hc i hi => by
    obtain ⟨ha, rfl⟩ := Array.getElem?_eq_some_iff.mp hc
    have q := List.all_eq_true.mp ((Array.all_eq_true_iff_forall_mem.mp hF) _ (Array.getElem_mem ha)) i (List.mem_range.mpr hi)
    simpa [Array.getElem?_eq_getElem hi] using q
  obtain ⟨i0, ei0⟩ := is_v ha0
  obtain rfl : w0 = (.int i0) := Option.some.inj ei0
  obtain ⟨i1, ei1⟩ := is_v ha1
  obtain rfl : w1 = (.int i1) := Option.some.inj ei1
  obtain ⟨i2, ei2⟩ := is_v ha2
  obtain rfl : w2 = (.int i2) := Option.some.inj ei2
  obtain ⟨i3, ei3⟩ := is_v ha3
  obtain rfl : w3 = (.int i3) := Option.some.inj ei3
  obtain ⟨i4, ei4⟩ := is_v hg4
  obtain rfl : w4 = (.int i4) := Option.some.inj ei4
  obtain ⟨hsets, hown0⟩ := atoms_of _ (rest_1_c_eq ▸ (show rest_1_c.before _ s = true from hrest))
  have hcw := hsets _ (own_w 6 rfl)
  have n3 := not_v (Cond.before_iff.mp hcw)
  obtain ⟨G1, eG1⟩ := is_v (Cond.before_iff.mp (hsets _ (own_w 5 rfl)))
  have O_2 := Sta.start eG1 (Or.inl (hsets _ (own_w 4 rfl)))
  have P5 : ¬ (G1 = (0 : Int32)) := gotF (Cond.eq_ints eG1 (Term.int_eval (0))) n3
  obtain ⟨eo, eeo⟩ := exa_v (Cond.before_iff.mp (hsets _ (own_w 2 rfl)))
  have O_E := Sta.start eeo (Or.inl (hsets _ (own_w 1 rfl)))
  have O_EE := Exa.start eeo (Cond.before_iff.mp (hsets _ (own_w 2 rfl)))
  have te := null_v (Cond.before_iff.mp (hsets _ (own_w 3 rfl)))
  rw [fld_at eeo] at te
  have O_EV := Fld.start te
  obtain ⟨ci, eci⟩ := exa_v (Cond.before_iff.mp (hsets _ (own_w 15 rfl)))
  have O_CI := Sta.start eci (Or.inl (hsets _ (own_w 14 rfl)))
  have O_CE := Exa.start eci (Cond.before_iff.mp (hsets _ (own_w 15 rfl)))
  obtain ⟨ca, eca⟩ := arr_v (Cond.before_iff.mp (hsets _ (own_w 18 rfl)))
  have O_CA := Sta.start eca (Or.inl (hsets _ (own_w 17 rfl)))
  obtain ⟨rcl, RA⟩ := Arr.start eca (Cond.before_iff.mp (hsets _ (own_w 18 rfl)))
  have RV : rcl.slots[65]? = some (.int (8552417 : Int32)) := (elem_in (own_eqint (Cond.before_iff.mp (hsets _ (own_w 86 rfl)))) eca (Term.int_eval 65) RA.1).2
  obtain ⟨tb, etb⟩ := exa_v (Cond.before_iff.mp (hsets _ (own_w 279 rfl)))
  have O_BT := Sta.start etb (Or.inl (hsets _ (own_w 278 rfl)))
  have O_BE := Exa.start etb (Cond.before_iff.mp (hsets _ (own_w 279 rfl)))
  have tv := own_eqint (Cond.before_iff.mp (hsets _ (own_w 280 rfl)))
  rw [fld_at etb] at tv
  have O_BV := Fld.start tv
  have hEL : EW s _ own_EL := (EW.cons (hw _ (own_w 105 rfl)) (by decide +kernel) (EW.cons (hw _ (own_w 231 rfl)) (by decide +kernel) (EW.cons (hw _ (own_w 127 rfl)) (by decide +kernel) (EW.cons (hw _ (own_w 229 rfl)) (by decide +kernel) (EW.cons (hw _ (own_w 230 rfl)) (by decide +kernel) (EW.cons (hw _ (own_w 4 rfl)) (by decide +kernel) EW.nil))))))
  have hheld : ∀ p ∈ own_EL, Jvm.Lit.constHeld s p.1 p.2 := fun p hp => hcalls.1 p ((by decide +kernel : ∀ p ∈ own_EL, p ∈ consts_1) p hp)
  obtain ⟨n, o, h1, h2, h3, _, L, rfl, ⟨rfl, N⟩, hq⟩ := rm0 l s _ hw tables_1 i0 i1 i2 i3 i4 eo ci ca rcl tb G1 s.heap s.heap.size (Nat.le_refl _) (Old.start s) O_2 P5 O_E O_EE O_EV O_CI O_CE O_CA RA RV O_BT O_BE O_BV hEL hheld hcw p e ha hc hk s m _ below hf ((Spec.applies_iff_loose hf).mp happ).1 ⟨rfl, State.Warmed39.refl s, rfl, rfl⟩ trivial
  refine ⟨n, _, h1, h2, h3, hpost _ _ _ _ _ _ ⟨Cond.after_iff.mpr rfl, Cond.after_iff.mpr (eq_i res_at (Term.int_eval (1)) rfl)⟩ ⟨hq.1, hq.2.1, hq.2.2.1, (hq.2.2.2.sift fun y hy => Or.inr (N y hy)).mono (by decide) (by decide)⟩⟩
theorem main_1_1 : Claimed_1_1 := comes_1 fun _ _ _ _ _ _ h hF => ⟨h.1, hF⟩
theorem main_1_2 : Claimed_1_2 := comes_1 fun _ _ _ _ _ _ h hF => ⟨h.2, hF⟩
end Jvm.Pilot.@@N@@
namespace Jvm.Pilot.@@N@@
open Jvm Jvm.ClassFile Sem Op Lib Jvm.Free Jvm.Stand Jvm.Pilot.@@N@@.Jvm.D
/-! MADE BY PROGRAM (witnessworld.py) out of the Statement's table words and the real class files: 34 classes; the members and pool entries that the words name. The judged class is class 1, her method 1. -/
namespace start1
open Jvm.ClassFile
def u (s : String) : CpInfo := .utf8 (stringToUtf16 s)
/-- a pool by its gaps: so many unusable entries, then the entry; so many at the end -/
def gap : Nat → List CpInfo → List CpInfo
  | 0, r => r
  | n + 1, r => .unusable :: gap n r
def poolList (es : List (Nat × CpInfo)) (last : Nat) : List CpInfo := es.foldr (fun e r => gap e.1 (e.2 :: r)) (gap last [])
def pool (es : List (Nat × CpInfo)) (last : Nat) : Array CpInfo := ⟨poolList es last⟩
def fileOf (pool : Array CpInfo) (this : Nat) (attrs : Array Attribute := #[]) (ms : Array MethodInfo := #[]) (fl : Nat := 33) (sup : Nat := 0) (ifs : Array Nat := #[]) (fds : Array FieldInfo := #[]) : ClassFile where
  minorVersion := 0
  majorVersion := 65
  constantPool := pool
  accessFlags := fl
  thisClass := this
  superClass := sup
  interfaces := ifs
  fields := fds
  methods := ms
  attributes := attrs
def plain (name : String) (sup : Option ClassId) : Class where
  name := name
  kind := .ordinary
  loader := none
  accessFlags := 33
  super := sup
  interfaces := #[]
  cf := none
  fields := #[]
  methods := #[]
  instanceTypes := #[]
  staticTypes := #[]
  resolved := #[]
  callSites := []
  init := .initialized
  statics := none
  mirror := none

def pool0 : Array CpInfo := pool [(5, u "<init>"), (0, u "()V"), (1, .class_ 10), (1, u "java/lang/Object")] 113

def k0c0 : Code := { maxStack := 0, maxLocals := 1, code := object_method_1_code, exceptionTable := #[], attributes := #[] }
def k0m0 : Method := { name := "<init>", desc := "()V", sig := { parameters := [], returnType := none }, accessFlags := 1, code := some k0c0 }
/-- java/lang/Object -/
def k0 : Class := { plain "java/lang/Object" none with
  accessFlags := 33
  interfaces := #[]
  cf := some (fileOf pool0 8 #[] #[{ accessFlags := 1, nameIndex := 5, descriptorIndex := 6, attributes := #[] }] 33 0 #[] #[])
  fields := #[]
  methods := #[k0m0]
  instanceTypes := #[]
  staticTypes := #[]
  resolved := Array.replicate 124 none
  statics := none }

def pool1 : Array CpInfo := pool [(2, .class_ 4), (1, u "java/lang/Object"), (0, u "<init>"), (0, u "()V"), (0, .long 2), (1, .integer 1048575), (0, .class_ 11), (0, u "com/example/glidepath/glidepath/instance/Aircraft"), (0, .string 13), (0, u "A"), (0, .methodref 10 15), (0, .nameAndType 5 16), (0, u "(Ljava/lang/String;DDDDD)V"), (0, .methodref 10 18), (0, .nameAndType 19 20), (0, u "cost"), (0, u "(D)D"), (0, .methodref 22 23), (0, .class_ 24), (0, .nameAndType 25 26), (0, u "java/lang/Math"), (0, u "max"), (0, u "(JJ)J"), (0, .class_ 28), (0, u "com/example/glidepath/glidepath/instance/AircraftCostPinLaw"), (2, u "law"), (0, u "(IIIII)Z")] 3

def k1m0 : Method := { name := "<init>", desc := "()V", sig := { parameters := [], returnType := none }, accessFlags := 1, code := none }
def k1c1 : Code := { maxStack := 13, maxLocals := 22, code := code, exceptionTable := #[], attributes := #[] }
def k1m1 : Method := { name := "law", desc := "(IIIII)Z", sig := { parameters := [.int, .int, .int, .int, .int], returnType := some .boolean }, accessFlags := 9, code := some k1c1 }
/-- com/example/glidepath/glidepath/instance/AircraftCostPinLaw -/
def k1 : Class := { plain "com/example/glidepath/glidepath/instance/AircraftCostPinLaw" (some 0) with
  accessFlags := 49
  interfaces := #[]
  cf := some (fileOf pool1 27 #[] #[{ accessFlags := 1, nameIndex := 5, descriptorIndex := 6, attributes := #[] }, { accessFlags := 9, nameIndex := 31, descriptorIndex := 32, attributes := #[] }] 49 2 #[] #[])
  fields := #[]
  methods := #[k1m0, k1m1]
  instanceTypes := #[]
  staticTypes := #[]
  resolved := Array.replicate 36 none
  statics := none }

def pool2 : Array CpInfo := pool [(1, .methodref 2 3), (0, .class_ 4), (0, .nameAndType 5 6), (0, u "java/lang/Object"), (0, u "<init>"), (0, u "()V"), (0, .class_ 8), (0, u "java/lang/Record")] 13

def k2c0 : Code := { maxStack := 1, maxLocals := 1, code := jdk_30_method_1_code, exceptionTable := #[], attributes := #[] }
def k2m0 : Method := { name := "<init>", desc := "()V", sig := { parameters := [], returnType := none }, accessFlags := 4, code := some k2c0 }
/-- java/lang/Record -/
def k2 : Class := { plain "java/lang/Record" (some 0) with
  accessFlags := 1057
  interfaces := #[]
  cf := some (fileOf pool2 7 #[] #[{ accessFlags := 4, nameIndex := 5, descriptorIndex := 6, attributes := #[] }] 1057 2 #[] #[])
  fields := #[]
  methods := #[k2m0]
  instanceTypes := #[]
  staticTypes := #[]
  resolved := Array.replicate 22 none
  statics := none }

def pool3 : Array CpInfo := pool [(1, .methodref 2 3), (0, .class_ 4), (0, .nameAndType 5 6), (0, u "java/lang/Record"), (0, u "<init>"), (0, u "()V"), (0, .string 8), (0, u "id"), (0, .methodref 10 11), (0, .class_ 12), (0, .nameAndType 13 14), (0, u "java/util/Objects"), (0, u "requireNonNull"), (0, u "(Ljava/lang/Object;Ljava/lang/String;)Ljava/lang/Object;"), (0, .string 16), (0, u "category"), (0, .string 18), (0, u "route"), (0, .methodref 20 21), (0, .class_ 22), (0, .nameAndType 23 24), (0, u "java/lang/String"), (0, u "isBlank"), (0, u "()Z"), (7, .methodref 33 34), (0, .class_ 35), (0, .nameAndType 36 37), (0, u "java/lang/Double"), (0, u "isFinite"), (0, u "(D)Z"), (0, .string 39), (0, u "target landing time is not a finite number"), (0, .methodref 41 42), (0, .class_ 43), (0, .nameAndType 44 45), (0, u "com/example/glidepath/glidepath/instance/Aircraft"), (0, u "require"), (0, u "(ZLjava/lang/String;Ljava/lang/String;)V"), (0, .string 47), (0, u "earliest landing time is not a finite number"), (0, .methodref 33 49), (0, .nameAndType 50 37), (0, u "isNaN"), (0, .string 52), (0, u "latest landing time is not a number"), (0, .string 54), (0, u "earliest landing time is after the latest"), (0, .string 56), (0, u "early"), (0, .methodref 41 58), (0, .nameAndType 59 60), (0, u "requireRate"), (0, u "(DLjava/lang/String;Ljava/lang/String;)V"), (0, .string 62), (0, u "late"), (0, .invokeDynamic 0 64), (0, .nameAndType 65 66), (0, u "apply"), (0, u "()Ljava/util/function/Function;"), (0, .methodref 68 69), (0, .class_ 70), (0, .nameAndType 71 72), (0, u "java/util/Optional"), (0, u "map"), (0, u "(Ljava/util/function/Function;)Ljava/util/Optional;"), (0, .methodref 74 75), (0, .class_ 76), (0, .nameAndType 77 78), (0, u "java/lang/Boolean"), (0, u "valueOf"), (0, u "(Z)Ljava/lang/Boolean;"), (0, .methodref 68 80), (0, .nameAndType 81 82), (0, u "orElse"), (0, u "(Ljava/lang/Object;)Ljava/lang/Object;"), (0, .methodref 74 84), (0, .nameAndType 85 24), (0, u "booleanValue"), (0, .string 87), (0, u "category is blank"), (0, .invokeDynamic 1 64), (0, .string 90), (0, u "route is blank"), (0, .fieldref 41 92), (0, .nameAndType 8 93), (0, u "Ljava/lang/String;"), (0, .fieldref 41 95), (0, .nameAndType 96 97), (0, u "target"), (0, u "D"), (0, .fieldref 41 99), (0, .nameAndType 100 97), (0, u "earliest"), (0, .fieldref 41 102), (0, .nameAndType 103 97), (0, u "latest"), (0, .fieldref 41 105), (0, .nameAndType 106 97), (0, u "costEarly"), (0, .fieldref 41 108), (0, .nameAndType 109 97), (0, u "costLate"), (0, .fieldref 41 111), (0, .nameAndType 16 112), (0, u "Ljava/util/Optional;"), (0, .fieldref 41 114), (0, .nameAndType 18 112), (0, .methodref 68 116), (0, .nameAndType 117 118), (0, u "empty"), (0, u "()Ljava/util/Optional;"), (0, .methodref 41 120), (0, .nameAndType 5 121), (0, u "(Ljava/lang/String;DDDDDLjava/util/Optional;Ljava/util/Optional;)V"), (0, .class_ 123), (0, u "java/lang/StringBuilder"), (0, .methodref 122 3), (0, .string 126), (0, u "cost of landing "), (0, .methodref 122 128), (0, .nameAndType 129 130), (0, u "append"), (0, u "(Ljava/lang/String;)Ljava/lang/StringBuilder;"), (0, .methodref 122 132), (0, .nameAndType 133 134), (0, u "toString"), (0, u "()Ljava/lang/String;"), (0, .string 136), (0, u " is not a finite number"), (0, .string 138), (0, u " is negative"), (22, u "(Ljava/lang/String;DDDDD)V"), (0, u "cost"), (0, u "(D)D"), (4, u "lambda$new$1"), (0, u "(Ljava/lang/String;)Ljava/lang/Boolean;"), (0, u "lambda$new$0"), (4, .methodType 82), (0, .methodHandle 6 177), (0, .methodref 41 178), (0, .nameAndType 170 169), (0, .methodType 169), (0, .methodHandle 6 181), (0, .methodref 41 182), (0, .nameAndType 168 169), (10, .methodHandle 6 194), (0, .methodref 195 196), (0, .class_ 197), (0, .nameAndType 198 199), (0, u "java/lang/invoke/LambdaMetafactory"), (0, u "metafactory"), (0, u "(Ljava/lang/invoke/MethodHandles$Lookup;Ljava/lang/String;Ljava/lang/invoke/MethodType;Ljava/lang/invoke/MethodType;Ljava/lang/invoke/MethodHandle;Ljava/lang/invoke/MethodType;)Ljava/lang/invoke/CallSite;")] 13

def k3c0 : Code := { maxStack := 4, maxLocals := 14, code := prog_13_method_1_code, exceptionTable := #[], attributes := #[] }
def k3m0 : Method := { name := "<init>", desc := "(Ljava/lang/String;DDDDDLjava/util/Optional;Ljava/util/Optional;)V", sig := { parameters := [(.object "java/lang/String"), .double, .double, .double, .double, .double, (.object "java/util/Optional"), (.object "java/util/Optional")], returnType := none }, accessFlags := 1, code := some k3c0 }
def k3c1 : Code := { maxStack := 14, maxLocals := 12, code := prog_13_method_2_code, exceptionTable := #[], attributes := #[] }
def k3m1 : Method := { name := "<init>", desc := "(Ljava/lang/String;DDDDD)V", sig := { parameters := [(.object "java/lang/String"), .double, .double, .double, .double, .double], returnType := none }, accessFlags := 1, code := some k3c1 }
def k3c2 : Code := { maxStack := 6, maxLocals := 5, code := prog_13_method_3_code, exceptionTable := #[], attributes := #[] }
def k3m2 : Method := { name := "cost", desc := "(D)D", sig := { parameters := [.double], returnType := some .double }, accessFlags := 1, code := some k3c2 }
def k3c3 : Code := { maxStack := 4, maxLocals := 5, code := prog_13_method_4_code, exceptionTable := #[], attributes := #[] }
def k3m3 : Method := { name := "requireRate", desc := "(DLjava/lang/String;Ljava/lang/String;)V", sig := { parameters := [.double, (.object "java/lang/String"), (.object "java/lang/String")], returnType := none }, accessFlags := 10, code := some k3c3 }
def k3c4 : Code := { maxStack := 4, maxLocals := 3, code := prog_13_method_5_code, exceptionTable := #[], attributes := #[] }
def k3m4 : Method := { name := "require", desc := "(ZLjava/lang/String;Ljava/lang/String;)V", sig := { parameters := [.boolean, (.object "java/lang/String"), (.object "java/lang/String")], returnType := none }, accessFlags := 10, code := some k3c4 }
def k3c5 : Code := { maxStack := 1, maxLocals := 1, code := ⟨#[0x2a, 0xb6, 0x00, 0x13, 0x9a, 0x00, 0x07, 0x04, 0xa7, 0x00, 0x04, 0x03, 0xb8, 0x00, 0x49, 0xb0]⟩, exceptionTable := #[], attributes := #[] }
def k3m5 : Method := { name := "lambda$new$1", desc := "(Ljava/lang/String;)Ljava/lang/Boolean;", sig := { parameters := [(.object "java/lang/String")], returnType := some (.object "java/lang/Boolean") }, accessFlags := 4106, code := some k3c5 }
def k3c6 : Code := { maxStack := 1, maxLocals := 1, code := ⟨#[0x2a, 0xb6, 0x00, 0x13, 0x9a, 0x00, 0x07, 0x04, 0xa7, 0x00, 0x04, 0x03, 0xb8, 0x00, 0x49, 0xb0]⟩, exceptionTable := #[], attributes := #[] }
def k3m6 : Method := { name := "lambda$new$0", desc := "(Ljava/lang/String;)Ljava/lang/Boolean;", sig := { parameters := [(.object "java/lang/String")], returnType := some (.object "java/lang/Boolean") }, accessFlags := 4106, code := some k3c6 }
/-- com/example/glidepath/glidepath/instance/Aircraft -/
def k3 : Class := { plain "com/example/glidepath/glidepath/instance/Aircraft" (some 2) with
  accessFlags := 49
  interfaces := #[]
  cf := some (fileOf pool3 41 #[.bootstrapMethods #[⟨193, #[175, 176, 179]⟩, ⟨193, #[175, 180, 179]⟩, ⟨0, #[]⟩]] #[{ accessFlags := 1, nameIndex := 5, descriptorIndex := 121, attributes := #[] }, { accessFlags := 1, nameIndex := 5, descriptorIndex := 161, attributes := #[] }, { accessFlags := 1, nameIndex := 162, descriptorIndex := 163, attributes := #[] }, { accessFlags := 10, nameIndex := 59, descriptorIndex := 60, attributes := #[] }, { accessFlags := 10, nameIndex := 44, descriptorIndex := 45, attributes := #[] }, { accessFlags := 4106, nameIndex := 168, descriptorIndex := 169, attributes := #[] }, { accessFlags := 4106, nameIndex := 170, descriptorIndex := 169, attributes := #[] }] 49 2 #[] #[{ accessFlags := 18, nameIndex := 8, descriptorIndex := 93, attributes := #[] }, { accessFlags := 18, nameIndex := 96, descriptorIndex := 97, attributes := #[] }, { accessFlags := 18, nameIndex := 100, descriptorIndex := 97, attributes := #[] }, { accessFlags := 18, nameIndex := 103, descriptorIndex := 97, attributes := #[] }, { accessFlags := 18, nameIndex := 106, descriptorIndex := 97, attributes := #[] }, { accessFlags := 18, nameIndex := 109, descriptorIndex := 97, attributes := #[] }, { accessFlags := 18, nameIndex := 16, descriptorIndex := 112, attributes := #[] }, { accessFlags := 18, nameIndex := 18, descriptorIndex := 112, attributes := #[] }])
  fields := #[{ name := "id", type := (.object "java/lang/String"), accessFlags := 18, slot := 0, constantValue := 0 }, { name := "target", type := .double, accessFlags := 18, slot := 1, constantValue := 0 }, { name := "earliest", type := .double, accessFlags := 18, slot := 2, constantValue := 0 }, { name := "latest", type := .double, accessFlags := 18, slot := 3, constantValue := 0 }, { name := "costEarly", type := .double, accessFlags := 18, slot := 4, constantValue := 0 }, { name := "costLate", type := .double, accessFlags := 18, slot := 5, constantValue := 0 }, { name := "category", type := (.object "java/util/Optional"), accessFlags := 18, slot := 6, constantValue := 0 }, { name := "route", type := (.object "java/util/Optional"), accessFlags := 18, slot := 7, constantValue := 0 }]
  methods := #[k3m0, k3m1, k3m2, k3m3, k3m4, k3m5, k3m6]
  instanceTypes := #[(.object "java/lang/String"), .double, .double, .double, .double, .double, (.object "java/util/Optional"), (.object "java/util/Optional")]
  staticTypes := #[]
  resolved := Array.replicate 213 none
  callSites := [(0, 121, .constant 5), (0, 150, .constant 6)]
  statics := none }

def pool4 : Array CpInfo := pool [(1, .class_ 2), (0, u "java/io/Serializable"), (0, .class_ 4), (0, u "java/lang/Object")] 2

/-- java/io/Serializable -/
def k4 : Class := { plain "java/io/Serializable" (some 0) with
  accessFlags := 1537
  interfaces := #[]
  cf := some (fileOf pool4 1 #[] #[] 1537 3 #[] #[])
  fields := #[]
  methods := #[]
  instanceTypes := #[]
  staticTypes := #[]
  resolved := Array.replicate 7 none
  statics := none }

def pool5 : Array CpInfo := pool [(1, .class_ 2), (0, u "java/lang/Comparable"), (0, .class_ 4), (0, u "java/lang/Object")] 7

/-- java/lang/Comparable -/
def k5 : Class := { plain "java/lang/Comparable" (some 0) with
  accessFlags := 1537
  interfaces := #[]
  cf := some (fileOf pool5 1 #[] #[] 1537 3 #[] #[])
  fields := #[]
  methods := #[]
  instanceTypes := #[]
  staticTypes := #[]
  resolved := Array.replicate 12 none
  statics := none }

def pool6 : Array CpInfo := pool [(2, .class_ 4), (1, u "java/lang/CharSequence"), (42, .class_ 48), (0, u "java/lang/CharSequence$1CodePointIterator"), (10, .class_ 60), (0, u "java/lang/CharSequence$1CharIterator"), (5, .class_ 67), (0, u "java/lang/Object")] 63

/-- java/lang/CharSequence -/
def k6 : Class := { plain "java/lang/CharSequence" (some 0) with
  accessFlags := 1537
  interfaces := #[]
  cf := some (fileOf pool6 2 #[.nestMembers #[47, 59]] #[] 1537 66 #[] #[])
  fields := #[]
  methods := #[]
  instanceTypes := #[]
  staticTypes := #[]
  resolved := Array.replicate 131 none
  statics := none }

def pool7 : Array CpInfo := pool [(1, .class_ 2), (0, u "java/lang/constant/Constable"), (0, .class_ 4), (0, u "java/lang/Object")] 6

/-- java/lang/constant/Constable -/
def k7 : Class := { plain "java/lang/constant/Constable" (some 0) with
  accessFlags := 1537
  interfaces := #[]
  cf := some (fileOf pool7 1 #[] #[] 1537 3 #[] #[])
  fields := #[]
  methods := #[]
  instanceTypes := #[]
  staticTypes := #[]
  resolved := Array.replicate 11 none
  statics := none }

def pool8 : Array CpInfo := pool [(1, .class_ 2), (0, u "java/lang/constant/ConstantDesc"), (0, .class_ 4), (0, u "java/lang/Object")] 32

/-- java/lang/constant/ConstantDesc -/
def k8 : Class := { plain "java/lang/constant/ConstantDesc" (some 0) with
  accessFlags := 1537
  interfaces := #[]
  cf := some (fileOf pool8 1 #[] #[] 1537 3 #[] #[])
  fields := #[]
  methods := #[]
  instanceTypes := #[]
  staticTypes := #[]
  resolved := Array.replicate 37 none
  statics := none }

def pool9 : Array CpInfo := pool [(1, .methodref 2 3), (0, .class_ 4), (0, .nameAndType 5 6), (0, u "java/lang/Object"), (0, u "<init>"), (0, u "()V"), (2, .fieldref 10 11), (0, .class_ 12), (0, .nameAndType 13 14), (0, u "java/lang/String"), (0, u "value"), (0, u "[B"), (0, .fieldref 10 16), (0, .nameAndType 17 18), (0, u "coder"), (0, u "B"), (2, u "hash"), (0, u "I"), (2, u "hashIsZero"), (0, u "Z"), (11, .fieldref 10 39), (0, .nameAndType 40 26), (0, u "COMPACT_STRINGS"), (13, .methodref 55 56), (0, .class_ 57), (0, .nameAndType 58 59), (0, u "java/util/Arrays"), (0, u "copyOfRange"), (0, u "([BII)[B"), (47, .class_ 109), (1, u "java/lang/StringLatin1"), (32, u "()Z"), (50, .class_ 195), (1, u "java/lang/System"), (16, .methodref 193 213), (0, .nameAndType 214 215), (0, u "arraycopy"), (0, u "(Ljava/lang/Object;ILjava/lang/Object;II)V"), (118, u "()I"), (0, .methodref 10 336), (0, .nameAndType 17 337), (0, u "()B"), (2, u "()[B"), (148, .methodref 10 490), (0, .nameAndType 5 491), (0, u "(Ljava/lang/AbstractStringBuilder;Ljava/lang/Void;)V"), (0, .methodref 10 493), (0, .nameAndType 494 142), (0, u "isLatin1"), (10, .methodref 10 506), (0, .nameAndType 507 334), (0, u "length"), (24, u "getBytes"), (16, .methodref 550 506), (0, .class_ 551), (0, u "java/lang/AbstractStringBuilder"), (0, .methodref 550 553), (0, .nameAndType 554 340), (0, u "getValue"), (20, .class_ 576), (0, u "java/lang/CharSequence"), (22, u "CASE_INSENSITIVE_ORDER"), (0, u "Ljava/util/Comparator;"), (30, u "([B)I"), (189, u "([BIB)V"), (54, .methodref 10 877), (0, .nameAndType 878 334), (0, u "indexOfNonWhitespace"), (45, .methodref 107 925), (0, .nameAndType 878 631), (26, u "isBlank"), (94, .methodref 550 493), (53, u "serialPersistentFields"), (0, u "[Ljava/io/ObjectStreamField;"), (0, .class_ 1104), (0, u "java/lang/String$CaseInsensitiveComparator"), (1, .class_ 1107), (0, u "java/io/Serializable"), (0, .class_ 1109), (0, u "java/lang/Comparable"), (0, .class_ 1111), (0, u "java/lang/constant/Constable"), (0, .class_ 1113), (0, u "java/lang/constant/ConstantDesc"), (2, u "serialVersionUID"), (0, u "J"), (3, u "REPL"), (0, u "C"), (2, u "LATIN1"), (1, u "UTF16"), (105, u "(Ljava/lang/StringBuilder;)V")] 217

def k9m0 : Method := { name := "<init>", desc := "()V", sig := { parameters := [], returnType := none }, accessFlags := 1, code := none }
def k9c1 : Code := { maxStack := 3, maxLocals := 2, code := jdk_42_method_53_code, exceptionTable := #[], attributes := #[] }
def k9m1 : Method := { name := "<init>", desc := "(Ljava/lang/StringBuilder;)V", sig := { parameters := [(.object "java/lang/StringBuilder")], returnType := none }, accessFlags := 1, code := some k9c1 }
def k9c2 : Code := { maxStack := 2, maxLocals := 1, code := jdk_42_method_54_code, exceptionTable := #[], attributes := #[] }
def k9m2 : Method := { name := "length", desc := "()I", sig := { parameters := [], returnType := some .int }, accessFlags := 1, code := some k9c2 }
def k9c3 : Code := { maxStack := 2, maxLocals := 1, code := jdk_42_method_117_code, exceptionTable := #[], attributes := #[] }
def k9m3 : Method := { name := "isBlank", desc := "()Z", sig := { parameters := [], returnType := some .boolean }, accessFlags := 1, code := some k9c3 }
def k9c4 : Code := { maxStack := 1, maxLocals := 1, code := jdk_42_method_120_code, exceptionTable := #[], attributes := #[] }
def k9m4 : Method := { name := "indexOfNonWhitespace", desc := "()I", sig := { parameters := [], returnType := some .int }, accessFlags := 2, code := some k9c4 }
def k9c5 : Code := { maxStack := 5, maxLocals := 4, code := jdk_42_method_147_code, exceptionTable := #[], attributes := #[] }
def k9m5 : Method := { name := "getBytes", desc := "([BIB)V", sig := { parameters := [(.array .byte), .int, .byte], returnType := none }, accessFlags := 0, code := some k9c5 }
def k9c6 : Code := { maxStack := 5, maxLocals := 5, code := jdk_42_method_150_code, exceptionTable := #[], attributes := #[] }
def k9m6 : Method := { name := "<init>", desc := "(Ljava/lang/AbstractStringBuilder;Ljava/lang/Void;)V", sig := { parameters := [(.object "java/lang/AbstractStringBuilder"), (.object "java/lang/Void")], returnType := none }, accessFlags := 0, code := some k9c6 }
def k9c7 : Code := { maxStack := 1, maxLocals := 1, code := jdk_42_method_152_code, exceptionTable := #[], attributes := #[] }
def k9m7 : Method := { name := "coder", desc := "()B", sig := { parameters := [], returnType := some .byte }, accessFlags := 0, code := some k9c7 }
def k9c8 : Code := { maxStack := 1, maxLocals := 1, code := jdk_42_method_154_code, exceptionTable := #[], attributes := #[] }
def k9m8 : Method := { name := "isLatin1", desc := "()Z", sig := { parameters := [], returnType := some .boolean }, accessFlags := 0, code := some k9c8 }
/-- java/lang/String -/
def k9 : Class := { plain "java/lang/String" (some 0) with
  accessFlags := 49
  interfaces := #[4, 5, 6, 7, 8]
  cf := some (fileOf pool9 10 #[.nestMembers #[1103]] #[{ accessFlags := 1, nameIndex := 5, descriptorIndex := 6, attributes := #[] }, { accessFlags := 1, nameIndex := 5, descriptorIndex := 1233, attributes := #[] }, { accessFlags := 1, nameIndex := 507, descriptorIndex := 334, attributes := #[] }, { accessFlags := 1, nameIndex := 952, descriptorIndex := 142, attributes := #[] }, { accessFlags := 2, nameIndex := 878, descriptorIndex := 334, attributes := #[] }, { accessFlags := 0, nameIndex := 532, descriptorIndex := 821, attributes := #[] }, { accessFlags := 0, nameIndex := 5, descriptorIndex := 491, attributes := #[] }, { accessFlags := 0, nameIndex := 17, descriptorIndex := 337, attributes := #[] }, { accessFlags := 0, nameIndex := 494, descriptorIndex := 142, attributes := #[] }] 49 2 #[1106, 1108, 575, 1110, 1112] #[{ accessFlags := 18, nameIndex := 13, descriptorIndex := 14, attributes := #[] }, { accessFlags := 18, nameIndex := 17, descriptorIndex := 18, attributes := #[] }, { accessFlags := 2, nameIndex := 21, descriptorIndex := 22, attributes := #[] }, { accessFlags := 2, nameIndex := 25, descriptorIndex := 26, attributes := #[] }, { accessFlags := 26, nameIndex := 1116, descriptorIndex := 1117, attributes := #[] }, { accessFlags := 24, nameIndex := 40, descriptorIndex := 26, attributes := #[] }, { accessFlags := 26, nameIndex := 1101, descriptorIndex := 1102, attributes := #[] }, { accessFlags := 26, nameIndex := 1121, descriptorIndex := 1122, attributes := #[] }, { accessFlags := 25, nameIndex := 599, descriptorIndex := 600, attributes := #[] }, { accessFlags := 24, nameIndex := 1125, descriptorIndex := 18, attributes := #[] }, { accessFlags := 24, nameIndex := 1127, descriptorIndex := 18, attributes := #[] }])
  fields := #[{ name := "value", type := (.array .byte), accessFlags := 18, slot := 0, constantValue := 0 }, { name := "coder", type := .byte, accessFlags := 18, slot := 1, constantValue := 0 }, { name := "hash", type := .int, accessFlags := 2, slot := 2, constantValue := 0 }, { name := "hashIsZero", type := .boolean, accessFlags := 2, slot := 3, constantValue := 0 }, { name := "serialVersionUID", type := .long, accessFlags := 26, slot := 0, constantValue := 0 }, { name := "COMPACT_STRINGS", type := .boolean, accessFlags := 24, slot := 1, constantValue := 0 }, { name := "serialPersistentFields", type := (.array (.object "java/io/ObjectStreamField")), accessFlags := 26, slot := 2, constantValue := 0 }, { name := "REPL", type := .char, accessFlags := 26, slot := 3, constantValue := 0 }, { name := "CASE_INSENSITIVE_ORDER", type := (.object "java/util/Comparator"), accessFlags := 25, slot := 4, constantValue := 0 }, { name := "LATIN1", type := .byte, accessFlags := 24, slot := 5, constantValue := 0 }, { name := "UTF16", type := .byte, accessFlags := 24, slot := 6, constantValue := 0 }]
  methods := #[k9m0, k9m1, k9m2, k9m3, k9m4, k9m5, k9m6, k9m7, k9m8]
  instanceTypes := #[(.array .byte), .byte, .int, .boolean]
  staticTypes := #[.long, .boolean, (.array (.object "java/io/ObjectStreamField")), .char, (.object "java/util/Comparator"), .byte, .byte]
  resolved := Array.replicate 1451 none
  statics := some 0 }

def pool10 : Array CpInfo := pool [(1, .fieldref 2 3), (0, .class_ 4), (0, .nameAndType 5 6), (0, u "java/util/Optional"), (0, u "EMPTY"), (0, u "Ljava/util/Optional;"), (1, .class_ 10), (1, u "java/lang/Object"), (2, .fieldref 2 14), (0, .nameAndType 15 16), (0, u "value"), (0, u "Ljava/lang/Object;"), (0, .methodref 18 19), (0, .class_ 20), (0, .nameAndType 21 22), (0, u "java/util/Objects"), (0, u "requireNonNull"), (0, u "(Ljava/lang/Object;)Ljava/lang/Object;"), (20, .methodref 2 44), (0, .nameAndType 45 46), (0, u "isEmpty"), (0, u "()Z"), (6, .methodref 2 54), (0, .nameAndType 55 56), (0, u "empty"), (0, u "()Ljava/util/Optional;"), (89, u "map"), (0, u "(Ljava/util/function/Function;)Ljava/util/Optional;"), (17, u "orElse")] 21

def k10c0 : Code := { maxStack := 1, maxLocals := 1, code := jdk_32_method_1_code, exceptionTable := #[], attributes := #[] }
def k10m0 : Method := { name := "empty", desc := "()Ljava/util/Optional;", sig := { parameters := [], returnType := some (.object "java/util/Optional") }, accessFlags := 9, code := some k10c0 }
def k10c1 : Code := { maxStack := 1, maxLocals := 1, code := jdk_32_method_7_code, exceptionTable := #[], attributes := #[] }
def k10m1 : Method := { name := "isEmpty", desc := "()Z", sig := { parameters := [], returnType := some .boolean }, accessFlags := 1, code := some k10c1 }
def k10c2 : Code := { maxStack := 2, maxLocals := 2, code := jdk_32_method_11_code, exceptionTable := #[], attributes := #[] }
def k10m2 : Method := { name := "map", desc := "(Ljava/util/function/Function;)Ljava/util/Optional;", sig := { parameters := [(.object "java/util/function/Function")], returnType := some (.object "java/util/Optional") }, accessFlags := 1, code := some k10c2 }
def k10c3 : Code := { maxStack := 1, maxLocals := 2, code := jdk_32_method_15_code, exceptionTable := #[], attributes := #[] }
def k10m3 : Method := { name := "orElse", desc := "(Ljava/lang/Object;)Ljava/lang/Object;", sig := { parameters := [(.object "java/lang/Object")], returnType := some (.object "java/lang/Object") }, accessFlags := 1, code := some k10c3 }
/-- java/util/Optional -/
def k10 : Class := { plain "java/util/Optional" (some 0) with
  accessFlags := 49
  interfaces := #[]
  cf := some (fileOf pool10 2 #[] #[{ accessFlags := 9, nameIndex := 55, descriptorIndex := 56, attributes := #[] }, { accessFlags := 1, nameIndex := 45, descriptorIndex := 46, attributes := #[] }, { accessFlags := 1, nameIndex := 146, descriptorIndex := 147, attributes := #[] }, { accessFlags := 1, nameIndex := 165, descriptorIndex := 22, attributes := #[] }] 49 8 #[] #[{ accessFlags := 26, nameIndex := 5, descriptorIndex := 6, attributes := #[] }, { accessFlags := 18, nameIndex := 15, descriptorIndex := 16, attributes := #[] }])
  fields := #[{ name := "EMPTY", type := (.object "java/util/Optional"), accessFlags := 26, slot := 0, constantValue := 0 }, { name := "value", type := (.object "java/lang/Object"), accessFlags := 18, slot := 0, constantValue := 0 }]
  methods := #[k10m0, k10m1, k10m2, k10m3]
  instanceTypes := #[(.object "java/lang/Object")]
  staticTypes := #[(.object "java/util/Optional")]
  resolved := Array.replicate 187 none
  statics := some 1 }

def pool11 : Array CpInfo := pool [(2, .class_ 4), (1, u "java/lang/Object"), (0, u "<init>"), (0, u "()V"), (35, .class_ 44), (1, u "java/util/Objects"), (0, u "requireNonNull"), (0, u "(Ljava/lang/Object;)Ljava/lang/Object;"), (47, u "(Ljava/lang/Object;Ljava/lang/String;)Ljava/lang/Object;")] 89

def k11m0 : Method := { name := "<init>", desc := "()V", sig := { parameters := [], returnType := none }, accessFlags := 2, code := none }
def k11c1 : Code := { maxStack := 2, maxLocals := 1, code := jdk_31_method_10_code, exceptionTable := #[], attributes := #[] }
def k11m1 : Method := { name := "requireNonNull", desc := "(Ljava/lang/Object;)Ljava/lang/Object;", sig := { parameters := [(.object "java/lang/Object")], returnType := some (.object "java/lang/Object") }, accessFlags := 9, code := some k11c1 }
def k11c2 : Code := { maxStack := 3, maxLocals := 2, code := jdk_31_method_11_code, exceptionTable := #[], attributes := #[] }
def k11m2 : Method := { name := "requireNonNull", desc := "(Ljava/lang/Object;Ljava/lang/String;)Ljava/lang/Object;", sig := { parameters := [(.object "java/lang/Object"), (.object "java/lang/String")], returnType := some (.object "java/lang/Object") }, accessFlags := 9, code := some k11c2 }
/-- java/util/Objects -/
def k11 : Class := { plain "java/util/Objects" (some 0) with
  accessFlags := 49
  interfaces := #[]
  cf := some (fileOf pool11 42 #[] #[{ accessFlags := 2, nameIndex := 5, descriptorIndex := 6, attributes := #[] }, { accessFlags := 9, nameIndex := 45, descriptorIndex := 46, attributes := #[] }, { accessFlags := 9, nameIndex := 45, descriptorIndex := 94, attributes := #[] }] 49 2 #[] #[])
  fields := #[]
  methods := #[k11m0, k11m1, k11m2]
  instanceTypes := #[]
  staticTypes := #[]
  resolved := Array.replicate 184 none
  statics := none }

def pool12 : Array CpInfo := pool [(4, .class_ 6), (1, u "java/lang/Object"), (0, u "<init>"), (0, u "()V"), (5, .class_ 16), (1, u "java/lang/StringLatin1"), (33, .methodref 14 51), (0, .nameAndType 52 53), (0, u "getChar"), (0, u "([BI)C"), (3, u "([B)I"), (8, .fieldref 67 68), (0, .class_ 69), (0, .nameAndType 70 71), (0, u "java/lang/CharacterDataLatin1"), (0, u "instance"), (0, u "Ljava/lang/CharacterDataLatin1;"), (19, u "(I)Z"), (29, u "$assertionsDisabled"), (0, u "Z"), (88, .methodref 67 212), (0, .nameAndType 213 91), (0, u "isWhitespace"), (2, u "indexOfNonWhitespace"), (4, .class_ 223), (1, u "java/lang/StringLatin1$LinesSpliterator"), (166, .class_ 391), (0, u "java/lang/StringLatin1$CharsSpliterator")] 3

def k12m0 : Method := { name := "<init>", desc := "()V", sig := { parameters := [], returnType := none }, accessFlags := 0, code := none }
def k12c1 : Code := { maxStack := 2, maxLocals := 4, code := jdk_43_method_37_code, exceptionTable := #[], attributes := #[] }
def k12m1 : Method := { name := "indexOfNonWhitespace", desc := "([B)I", sig := { parameters := [(.array .byte)], returnType := some .int }, accessFlags := 9, code := some k12c1 }
def k12c2 : Code := { maxStack := 2, maxLocals := 2, code := jdk_43_method_44_code, exceptionTable := #[], attributes := #[] }
def k12m2 : Method := { name := "getChar", desc := "([BI)C", sig := { parameters := [(.array .byte), .int], returnType := some .char }, accessFlags := 9, code := some k12c2 }
/-- java/lang/StringLatin1 -/
def k12 : Class := { plain "java/lang/StringLatin1" (some 0) with
  accessFlags := 48
  interfaces := #[]
  cf := some (fileOf pool12 14 #[.nestMembers #[390, 221]] #[{ accessFlags := 0, nameIndex := 7, descriptorIndex := 8, attributes := #[] }, { accessFlags := 9, nameIndex := 216, descriptorIndex := 57, attributes := #[] }, { accessFlags := 9, nameIndex := 52, descriptorIndex := 53, attributes := #[] }] 48 4 #[] #[{ accessFlags := 4120, nameIndex := 121, descriptorIndex := 122, attributes := #[] }])
  fields := #[{ name := "$assertionsDisabled", type := .boolean, accessFlags := 4120, slot := 0, constantValue := 0 }]
  methods := #[k12m0, k12m1, k12m2]
  instanceTypes := #[]
  staticTypes := #[.boolean]
  resolved := Array.replicate 395 none
  statics := none }

def pool13 : Array CpInfo := pool [(2, .class_ 4), (1, u "java/lang/Object"), (0, u "<init>"), (0, u "()V"), (1, .class_ 10), (1, u "java/lang/CharacterData")] 75

def k13m0 : Method := { name := "<init>", desc := "()V", sig := { parameters := [], returnType := none }, accessFlags := 0, code := none }
/-- java/lang/CharacterData -/
def k13 : Class := { plain "java/lang/CharacterData" (some 0) with
  accessFlags := 1056
  interfaces := #[]
  cf := some (fileOf pool13 8 #[] #[{ accessFlags := 0, nameIndex := 5, descriptorIndex := 6, attributes := #[] }] 1056 2 #[] #[])
  fields := #[]
  methods := #[k13m0]
  instanceTypes := #[]
  staticTypes := #[]
  resolved := Array.replicate 86 none
  statics := none }

def pool14 : Array CpInfo := pool [(1, .fieldref 2 3), (0, .class_ 4), (0, .nameAndType 5 6), (0, u "java/lang/CharacterDataLatin1"), (0, u "A"), (0, u "[I"), (2, u "B"), (0, u "[C"), (3, u "(I)I"), (0, .methodref 2 16), (0, .nameAndType 17 14), (0, u "getProperties"), (3, u "(I)Z"), (5, u "DIGITS"), (0, u "[B"), (8, u "sharpsMap"), (1, .class_ 41), (1, u "java/lang/CharacterData"), (0, u "<init>"), (0, u "()V"), (3, u "instance"), (0, u "Ljava/lang/CharacterDataLatin1;"), (78, u "isWhitespace")] 13

def k14c0 : Code := { maxStack := 2, maxLocals := 4, code := jdk_116_method_1_code, exceptionTable := #[], attributes := #[] }
def k14m0 : Method := { name := "getProperties", desc := "(I)I", sig := { parameters := [.int], returnType := some .int }, accessFlags := 0, code := some k14c0 }
def k14c1 : Code := { maxStack := 2, maxLocals := 3, code := jdk_116_method_26_code, exceptionTable := #[], attributes := #[] }
def k14m1 : Method := { name := "isWhitespace", desc := "(I)Z", sig := { parameters := [.int], returnType := some .boolean }, accessFlags := 0, code := some k14c1 }
def k14m2 : Method := { name := "<init>", desc := "()V", sig := { parameters := [], returnType := none }, accessFlags := 2, code := none }
/-- java/lang/CharacterDataLatin1 -/
def k14 : Class := { plain "java/lang/CharacterDataLatin1" (some 13) with
  accessFlags := 32
  interfaces := #[]
  cf := some (fileOf pool14 2 #[] #[{ accessFlags := 0, nameIndex := 17, descriptorIndex := 14, attributes := #[] }, { accessFlags := 0, nameIndex := 127, descriptorIndex := 21, attributes := #[] }, { accessFlags := 2, nameIndex := 42, descriptorIndex := 43, attributes := #[] }] 32 39 #[] #[{ accessFlags := 26, nameIndex := 27, descriptorIndex := 28, attributes := #[] }, { accessFlags := 8, nameIndex := 37, descriptorIndex := 10, attributes := #[] }, { accessFlags := 24, nameIndex := 47, descriptorIndex := 48, attributes := #[] }, { accessFlags := 24, nameIndex := 5, descriptorIndex := 6, attributes := #[] }, { accessFlags := 24, nameIndex := 9, descriptorIndex := 10, attributes := #[] }])
  fields := #[{ name := "DIGITS", type := (.array .byte), accessFlags := 26, slot := 0, constantValue := 0 }, { name := "sharpsMap", type := (.array .char), accessFlags := 8, slot := 1, constantValue := 0 }, { name := "instance", type := (.object "java/lang/CharacterDataLatin1"), accessFlags := 24, slot := 2, constantValue := 0 }, { name := "A", type := (.array .int), accessFlags := 24, slot := 3, constantValue := 0 }, { name := "B", type := (.array .char), accessFlags := 24, slot := 4, constantValue := 0 }]
  methods := #[k14m0, k14m1, k14m2]
  instanceTypes := #[]
  staticTypes := #[(.array .byte), (.array .char), (.object "java/lang/CharacterDataLatin1"), (.array .int), (.array .char)]
  resolved := Array.replicate 141 none
  statics := some 2 }

def pool15 : Array CpInfo := pool [(2, .class_ 4), (1, u "java/lang/Object"), (0, u "<init>"), (0, u "()V"), (1, .class_ 10), (1, u "java/lang/Number"), (2, .class_ 14), (0, u "java/io/Serializable"), (0, u "serialVersionUID"), (0, u "J")] 20

def k15m0 : Method := { name := "<init>", desc := "()V", sig := { parameters := [], returnType := none }, accessFlags := 1, code := none }
/-- java/lang/Number -/
def k15 : Class := { plain "java/lang/Number" (some 0) with
  accessFlags := 1057
  interfaces := #[4]
  cf := some (fileOf pool15 8 #[] #[{ accessFlags := 1, nameIndex := 5, descriptorIndex := 6, attributes := #[] }] 1057 2 #[13] #[{ accessFlags := 26, nameIndex := 15, descriptorIndex := 16, attributes := #[] }])
  fields := #[{ name := "serialVersionUID", type := .long, accessFlags := 26, slot := 0, constantValue := 0 }]
  methods := #[k15m0]
  instanceTypes := #[]
  staticTypes := #[.long]
  resolved := Array.replicate 37 none
  statics := none }

def pool16 : Array CpInfo := pool [(1, .class_ 2), (0, u "java/lang/Double"), (10, u "isFinite"), (0, u "(D)Z"), (8, .class_ 25), (1, u "java/lang/Math"), (12, .methodref 23 39), (0, .nameAndType 40 41), (0, u "abs"), (0, u "(D)D"), (69, .double 9218868437227405311), (2, .class_ 116), (1, u "java/lang/Number"), (3, u "value"), (0, u "D"), (2, u "isNaN"), (48, u "TYPE"), (0, u "Ljava/lang/Class;"), (0, .class_ 176), (0, u "java/lang/Comparable"), (0, .class_ 178), (0, u "java/lang/constant/Constable"), (0, .class_ 180), (0, u "java/lang/constant/ConstantDesc"), (0, u "POSITIVE_INFINITY"), (3, u "NEGATIVE_INFINITY"), (2, u "NaN"), (2, u "MAX_VALUE"), (0, u "MIN_NORMAL"), (0, u "MIN_VALUE"), (2, u "SIZE"), (0, u "I"), (1, u "PRECISION"), (1, u "MAX_EXPONENT"), (1, u "MIN_EXPONENT"), (1, u "BYTES"), (3, u "serialVersionUID"), (0, u "J")] 79

def k16c0 : Code := { maxStack := 4, maxLocals := 2, code := jdk_117_method_6_code, exceptionTable := #[], attributes := #[] }
def k16m0 : Method := { name := "isNaN", desc := "(D)Z", sig := { parameters := [.double], returnType := some .boolean }, accessFlags := 9, code := some k16c0 }
def k16c1 : Code := { maxStack := 4, maxLocals := 2, code := jdk_117_method_8_code, exceptionTable := #[], attributes := #[] }
def k16m1 : Method := { name := "isFinite", desc := "(D)Z", sig := { parameters := [.double], returnType := some .boolean }, accessFlags := 9, code := some k16c1 }
/-- java/lang/Double -/
def k16 : Class := { plain "java/lang/Double" (some 15) with
  accessFlags := 49
  interfaces := #[5, 7, 8]
  cf := some (fileOf pool16 1 #[] #[{ accessFlags := 9, nameIndex := 124, descriptorIndex := 14, attributes := #[] }, { accessFlags := 9, nameIndex := 13, descriptorIndex := 14, attributes := #[] }] 49 114 #[175, 177, 179] #[{ accessFlags := 25, nameIndex := 181, descriptorIndex := 121, attributes := #[] }, { accessFlags := 25, nameIndex := 185, descriptorIndex := 121, attributes := #[] }, { accessFlags := 25, nameIndex := 188, descriptorIndex := 121, attributes := #[] }, { accessFlags := 25, nameIndex := 191, descriptorIndex := 121, attributes := #[] }, { accessFlags := 25, nameIndex := 192, descriptorIndex := 121, attributes := #[] }, { accessFlags := 25, nameIndex := 193, descriptorIndex := 121, attributes := #[] }, { accessFlags := 25, nameIndex := 196, descriptorIndex := 197, attributes := #[] }, { accessFlags := 25, nameIndex := 199, descriptorIndex := 197, attributes := #[] }, { accessFlags := 25, nameIndex := 201, descriptorIndex := 197, attributes := #[] }, { accessFlags := 25, nameIndex := 203, descriptorIndex := 197, attributes := #[] }, { accessFlags := 25, nameIndex := 205, descriptorIndex := 197, attributes := #[] }, { accessFlags := 25, nameIndex := 173, descriptorIndex := 174, attributes := #[] }, { accessFlags := 18, nameIndex := 120, descriptorIndex := 121, attributes := #[] }, { accessFlags := 26, nameIndex := 209, descriptorIndex := 210, attributes := #[] }])
  fields := #[{ name := "POSITIVE_INFINITY", type := .double, accessFlags := 25, slot := 0, constantValue := 0 }, { name := "NEGATIVE_INFINITY", type := .double, accessFlags := 25, slot := 1, constantValue := 0 }, { name := "NaN", type := .double, accessFlags := 25, slot := 2, constantValue := 0 }, { name := "MAX_VALUE", type := .double, accessFlags := 25, slot := 3, constantValue := 0 }, { name := "MIN_NORMAL", type := .double, accessFlags := 25, slot := 4, constantValue := 0 }, { name := "MIN_VALUE", type := .double, accessFlags := 25, slot := 5, constantValue := 0 }, { name := "SIZE", type := .int, accessFlags := 25, slot := 6, constantValue := 0 }, { name := "PRECISION", type := .int, accessFlags := 25, slot := 7, constantValue := 0 }, { name := "MAX_EXPONENT", type := .int, accessFlags := 25, slot := 8, constantValue := 0 }, { name := "MIN_EXPONENT", type := .int, accessFlags := 25, slot := 9, constantValue := 0 }, { name := "BYTES", type := .int, accessFlags := 25, slot := 10, constantValue := 0 }, { name := "TYPE", type := (.object "java/lang/Class"), accessFlags := 25, slot := 11, constantValue := 0 }, { name := "value", type := .double, accessFlags := 18, slot := 0, constantValue := 0 }, { name := "serialVersionUID", type := .long, accessFlags := 26, slot := 12, constantValue := 0 }]
  methods := #[k16m0, k16m1]
  instanceTypes := #[.double]
  staticTypes := #[.double, .double, .double, .double, .double, .double, .int, .int, .int, .int, .int, (.object "java/lang/Class"), .long]
  resolved := Array.replicate 290 none
  statics := none }

def pool17 : Array CpInfo := pool [(1, .class_ 2), (0, u "java/lang/Math"), (1, .class_ 6), (1, u "java/lang/Object"), (0, u "<init>"), (0, u "()V"), (5, u "(D)D"), (83, .class_ 100), (1, u "java/lang/Math$RandomNumberGeneratorHolder"), (20, u "(JJ)J"), (2, u "abs"), (47, u "negativeZeroFloatBits"), (0, u "J"), (2, u "negativeZeroDoubleBits"), (21, u "max"), (2, u "min"), (43, u "$assertionsDisabled"), (0, u "Z"), (88, u "(II)I"), (2, u "twoToTheDoubleScaleDown"), (0, u "D"), (4, u "twoToTheDoubleScaleUp"), (9, u "E"), (3, u "PI"), (2, u "TAU"), (2, u "DEGREES_TO_RADIANS"), (0, u "RADIANS_TO_DEGREES")] 94

def k17m0 : Method := { name := "<init>", desc := "()V", sig := { parameters := [], returnType := none }, accessFlags := 2, code := none }
def k17c1 : Code := { maxStack := 4, maxLocals := 2, code := jdk_29_method_64_code, exceptionTable := #[], attributes := #[] }
def k17m1 : Method := { name := "abs", desc := "(D)D", sig := { parameters := [.double], returnType := some .double }, accessFlags := 9, code := some k17c1 }
def k17c2 : Code := { maxStack := 2, maxLocals := 2, code := jdk_29_method_65_code, exceptionTable := #[], attributes := #[] }
def k17m2 : Method := { name := "max", desc := "(II)I", sig := { parameters := [.int, .int], returnType := some .int }, accessFlags := 9, code := some k17c2 }
def k17c3 : Code := { maxStack := 4, maxLocals := 4, code := jdk_29_method_66_code, exceptionTable := #[], attributes := #[] }
def k17m3 : Method := { name := "max", desc := "(JJ)J", sig := { parameters := [.long, .long], returnType := some .long }, accessFlags := 9, code := some k17c3 }
def k17c4 : Code := { maxStack := 2, maxLocals := 2, code := jdk_29_method_69_code, exceptionTable := #[], attributes := #[] }
def k17m4 : Method := { name := "min", desc := "(II)I", sig := { parameters := [.int, .int], returnType := some .int }, accessFlags := 9, code := some k17c4 }
/-- java/lang/Math -/
def k17 : Class := { plain "java/lang/Math" (some 0) with
  accessFlags := 49
  interfaces := #[]
  cf := some (fileOf pool17 1 #[.nestMembers #[98]] #[{ accessFlags := 2, nameIndex := 7, descriptorIndex := 8, attributes := #[] }, { accessFlags := 9, nameIndex := 124, descriptorIndex := 14, attributes := #[] }, { accessFlags := 9, nameIndex := 198, descriptorIndex := 335, attributes := #[] }, { accessFlags := 9, nameIndex := 198, descriptorIndex := 121, attributes := #[] }, { accessFlags := 9, nameIndex := 201, descriptorIndex := 335, attributes := #[] }] 49 4 #[] #[{ accessFlags := 25, nameIndex := 354, descriptorIndex := 339, attributes := #[] }, { accessFlags := 25, nameIndex := 358, descriptorIndex := 339, attributes := #[] }, { accessFlags := 25, nameIndex := 361, descriptorIndex := 339, attributes := #[] }, { accessFlags := 26, nameIndex := 364, descriptorIndex := 339, attributes := #[] }, { accessFlags := 26, nameIndex := 365, descriptorIndex := 339, attributes := #[] }, { accessFlags := 26, nameIndex := 172, descriptorIndex := 173, attributes := #[] }, { accessFlags := 26, nameIndex := 176, descriptorIndex := 173, attributes := #[] }, { accessFlags := 8, nameIndex := 344, descriptorIndex := 339, attributes := #[] }, { accessFlags := 8, nameIndex := 338, descriptorIndex := 339, attributes := #[] }, { accessFlags := 4120, nameIndex := 245, descriptorIndex := 246, attributes := #[] }])
  fields := #[{ name := "E", type := .double, accessFlags := 25, slot := 0, constantValue := 0 }, { name := "PI", type := .double, accessFlags := 25, slot := 1, constantValue := 0 }, { name := "TAU", type := .double, accessFlags := 25, slot := 2, constantValue := 0 }, { name := "DEGREES_TO_RADIANS", type := .double, accessFlags := 26, slot := 3, constantValue := 0 }, { name := "RADIANS_TO_DEGREES", type := .double, accessFlags := 26, slot := 4, constantValue := 0 }, { name := "negativeZeroFloatBits", type := .long, accessFlags := 26, slot := 5, constantValue := 0 }, { name := "negativeZeroDoubleBits", type := .long, accessFlags := 26, slot := 6, constantValue := 0 }, { name := "twoToTheDoubleScaleUp", type := .double, accessFlags := 8, slot := 7, constantValue := 0 }, { name := "twoToTheDoubleScaleDown", type := .double, accessFlags := 8, slot := 8, constantValue := 0 }, { name := "$assertionsDisabled", type := .boolean, accessFlags := 4120, slot := 9, constantValue := 0 }]
  methods := #[k17m0, k17m1, k17m2, k17m3, k17m4]
  instanceTypes := #[]
  staticTypes := #[.double, .double, .double, .double, .double, .long, .long, .double, .double, .boolean]
  resolved := Array.replicate 460 none
  statics := none }

def pool18 : Array CpInfo := pool [(1, .class_ 2), (0, u "java/lang/Appendable"), (0, .class_ 4), (0, u "java/lang/Object")] 9

/-- java/lang/Appendable -/
def k18 : Class := { plain "java/lang/Appendable" (some 0) with
  accessFlags := 1537
  interfaces := #[]
  cf := some (fileOf pool18 1 #[] #[] 1537 3 #[] #[])
  fields := #[]
  methods := #[]
  instanceTypes := #[]
  staticTypes := #[]
  resolved := Array.replicate 14 none
  statics := none }

def pool19 : Array CpInfo := pool [(1, .class_ 2), (0, u "java/lang/String"), (0, .methodref 4 5), (0, .class_ 6), (0, .nameAndType 7 8), (0, u "java/lang/Object"), (0, u "<init>"), (0, u "()V"), (1, .class_ 12), (1, u "java/lang/AbstractStringBuilder"), (0, u "EMPTYVALUE"), (0, u "[B"), (0, .fieldref 10 16), (0, .nameAndType 17 14), (0, u "value"), (0, .fieldref 1 19), (0, .nameAndType 20 21), (0, u "COMPACT_STRINGS"), (0, u "Z"), (0, .fieldref 10 23), (0, .nameAndType 24 25), (0, u "coder"), (0, u "B"), (6, .methodref 1 33), (0, .nameAndType 34 35), (0, u "length"), (0, u "()I"), (3, .integer 2147483647), (0, .methodref 1 41), (0, .nameAndType 24 42), (0, u "()B"), (2, u "append"), (0, u "(Ljava/lang/String;)Ljava/lang/AbstractStringBuilder;"), (1, .class_ 49), (0, u "java/lang/CharSequence"), (19, u "(Ljava/lang/String;)V"), (5, u "maybeLatin1"), (3, .fieldref 10 80), (0, .nameAndType 81 82), (0, u "count"), (0, u "I"), (2, u "isLatin1"), (0, u "()Z"), (13, .methodref 10 101), (0, .nameAndType 102 103), (0, u "ensureCapacityInternal"), (0, u "(I)V"), (0, .methodref 10 105), (0, .nameAndType 106 107), (0, u "newCapacity"), (0, u "(I)I"), (0, .methodref 109 110), (0, .class_ 111), (0, .nameAndType 112 113), (0, u "java/util/Arrays"), (0, u "copyOf"), (0, u "([BI)[B"), (0, .methodref 115 116), (0, .class_ 117), (0, .nameAndType 118 119), (0, u "jdk/internal/util/ArraysSupport"), (0, u "newLength"), (0, u "(III)I"), (88, .methodref 10 209), (0, .nameAndType 210 211), (0, u "putStringAt"), (0, u "(ILjava/lang/String;)V"), (5, u "inflateIfNeededFor"), (2, .nameAndType 221 222), (0, u "getBytes"), (0, u "([BIB)V"), (174, .methodref 10 398), (0, .nameAndType 217 69), (0, .methodref 1 220), (3, u "()[B"), (40, .class_ 445), (0, u "java/lang/Appendable"), (106, u "getValue")] 56

def k19m0 : Method := { name := "<init>", desc := "()V", sig := { parameters := [], returnType := none }, accessFlags := 0, code := none }
def k19c1 : Code := { maxStack := 2, maxLocals := 2, code := jdk_68_method_2_code, exceptionTable := #[], attributes := #[] }
def k19m1 : Method := { name := "<init>", desc := "(I)V", sig := { parameters := [.int], returnType := none }, accessFlags := 0, code := some k19c1 }
def k19c2 : Code := { maxStack := 1, maxLocals := 1, code := jdk_68_method_6_code, exceptionTable := #[], attributes := #[] }
def k19m2 : Method := { name := "length", desc := "()I", sig := { parameters := [], returnType := some .int }, accessFlags := 1, code := some k19c2 }
def k19c3 : Code := { maxStack := 4, maxLocals := 3, code := jdk_68_method_9_code, exceptionTable := #[], attributes := #[] }
def k19m3 : Method := { name := "ensureCapacityInternal", desc := "(I)V", sig := { parameters := [.int], returnType := none }, accessFlags := 2, code := some k19c3 }
def k19c4 : Code := { maxStack := 5, maxLocals := 6, code := jdk_68_method_10_code, exceptionTable := #[], attributes := #[] }
def k19m4 : Method := { name := "newCapacity", desc := "(I)I", sig := { parameters := [.int], returnType := some .int }, accessFlags := 2, code := some k19c4 }
def k19c5 : Code := { maxStack := 3, maxLocals := 3, code := jdk_68_method_22_code, exceptionTable := #[], attributes := #[] }
def k19m5 : Method := { name := "append", desc := "(Ljava/lang/String;)Ljava/lang/AbstractStringBuilder;", sig := { parameters := [(.object "java/lang/String")], returnType := some (.object "java/lang/AbstractStringBuilder") }, accessFlags := 1, code := some k19c5 }
def k19c6 : Code := { maxStack := 1, maxLocals := 1, code := jdk_68_method_64_code, exceptionTable := #[], attributes := #[] }
def k19m6 : Method := { name := "getValue", desc := "()[B", sig := { parameters := [], returnType := some (.array .byte) }, accessFlags := 16, code := some k19c6 }
def k19c7 : Code := { maxStack := 1, maxLocals := 1, code := jdk_68_method_68_code, exceptionTable := #[], attributes := #[] }
def k19m7 : Method := { name := "isLatin1", desc := "()Z", sig := { parameters := [], returnType := some .boolean }, accessFlags := 16, code := some k19c7 }
def k19c8 : Code := { maxStack := 2, maxLocals := 2, code := jdk_68_method_71_code, exceptionTable := #[], attributes := #[] }
def k19m8 : Method := { name := "inflateIfNeededFor", desc := "(Ljava/lang/String;)V", sig := { parameters := [(.object "java/lang/String")], returnType := none }, accessFlags := 2, code := some k19c8 }
def k19c9 : Code := { maxStack := 4, maxLocals := 3, code := jdk_68_method_73_code, exceptionTable := #[], attributes := #[] }
def k19m9 : Method := { name := "putStringAt", desc := "(ILjava/lang/String;)V", sig := { parameters := [.int, (.object "java/lang/String")], returnType := none }, accessFlags := 2, code := some k19c9 }
/-- java/lang/AbstractStringBuilder -/
def k19 : Class := { plain "java/lang/AbstractStringBuilder" (some 0) with
  accessFlags := 1056
  interfaces := #[18, 6]
  cf := some (fileOf pool19 10 #[] #[{ accessFlags := 0, nameIndex := 7, descriptorIndex := 8, attributes := #[] }, { accessFlags := 0, nameIndex := 7, descriptorIndex := 103, attributes := #[] }, { accessFlags := 1, nameIndex := 34, descriptorIndex := 35, attributes := #[] }, { accessFlags := 2, nameIndex := 102, descriptorIndex := 103, attributes := #[] }, { accessFlags := 2, nameIndex := 106, descriptorIndex := 107, attributes := #[] }, { accessFlags := 1, nameIndex := 45, descriptorIndex := 46, attributes := #[] }, { accessFlags := 16, nameIndex := 552, descriptorIndex := 403, attributes := #[] }, { accessFlags := 16, nameIndex := 85, descriptorIndex := 86, attributes := #[] }, { accessFlags := 2, nameIndex := 217, descriptorIndex := 69, attributes := #[] }, { accessFlags := 2, nameIndex := 210, descriptorIndex := 211, attributes := #[] }] 1056 4 #[444, 48] #[{ accessFlags := 0, nameIndex := 17, descriptorIndex := 14, attributes := #[] }, { accessFlags := 0, nameIndex := 24, descriptorIndex := 25, attributes := #[] }, { accessFlags := 0, nameIndex := 75, descriptorIndex := 21, attributes := #[] }, { accessFlags := 0, nameIndex := 81, descriptorIndex := 82, attributes := #[] }, { accessFlags := 26, nameIndex := 13, descriptorIndex := 14, attributes := #[] }])
  fields := #[{ name := "value", type := (.array .byte), accessFlags := 0, slot := 0, constantValue := 0 }, { name := "coder", type := .byte, accessFlags := 0, slot := 1, constantValue := 0 }, { name := "maybeLatin1", type := .boolean, accessFlags := 0, slot := 2, constantValue := 0 }, { name := "count", type := .int, accessFlags := 0, slot := 3, constantValue := 0 }, { name := "EMPTYVALUE", type := (.array .byte), accessFlags := 26, slot := 0, constantValue := 0 }]
  methods := #[k19m0, k19m1, k19m2, k19m3, k19m4, k19m5, k19m6, k19m7, k19m8, k19m9]
  instanceTypes := #[(.array .byte), .byte, .boolean, .int]
  staticTypes := #[(.array .byte)]
  resolved := Array.replicate 609 none
  statics := none }

def pool20 : Array CpInfo := pool [(1, .methodref 2 3), (0, .class_ 4), (0, .nameAndType 5 6), (0, u "java/lang/AbstractStringBuilder"), (0, u "<init>"), (0, u "(I)V"), (11, .class_ 20), (1, u "java/lang/String"), (3, .class_ 26), (1, u "java/lang/StringBuilder"), (0, u "append"), (0, u "(Ljava/lang/String;)Ljava/lang/StringBuilder;"), (0, .methodref 2 30), (0, .nameAndType 27 31), (0, u "(Ljava/lang/String;)Ljava/lang/AbstractStringBuilder;"), (105, .methodref 18 138), (0, .nameAndType 5 139), (0, u "(Ljava/lang/StringBuilder;)V"), (5, u "()V"), (10, u "()I"), (186, .methodref 2 344), (0, .nameAndType 345 156), (0, u "length"), (3, .class_ 350), (0, u "java/lang/Appendable"), (0, .class_ 352), (0, u "java/io/Serializable"), (0, .class_ 354), (0, u "java/lang/Comparable"), (0, .class_ 356), (0, u "java/lang/CharSequence"), (0, u "serialVersionUID"), (0, u "J"), (40, u "toString"), (0, u "()Ljava/lang/String;")] 21

def k20c0 : Code := { maxStack := 2, maxLocals := 1, code := jdk_67_method_1_code, exceptionTable := #[], attributes := #[] }
def k20m0 : Method := { name := "<init>", desc := "()V", sig := { parameters := [], returnType := none }, accessFlags := 1, code := some k20c0 }
def k20c1 : Code := { maxStack := 2, maxLocals := 2, code := jdk_67_method_7_code, exceptionTable := #[], attributes := #[] }
def k20m1 : Method := { name := "append", desc := "(Ljava/lang/String;)Ljava/lang/StringBuilder;", sig := { parameters := [(.object "java/lang/String")], returnType := some (.object "java/lang/StringBuilder") }, accessFlags := 1, code := some k20c1 }
def k20c2 : Code := { maxStack := 3, maxLocals := 1, code := jdk_67_method_42_code, exceptionTable := #[], attributes := #[] }
def k20m2 : Method := { name := "toString", desc := "()Ljava/lang/String;", sig := { parameters := [], returnType := some (.object "java/lang/String") }, accessFlags := 1, code := some k20c2 }
def k20c3 : Code := { maxStack := 1, maxLocals := 1, code := jdk_67_method_93_code, exceptionTable := #[], attributes := #[] }
def k20m3 : Method := { name := "length", desc := "()I", sig := { parameters := [], returnType := some .int }, accessFlags := 4161, code := some k20c3 }
/-- java/lang/StringBuilder -/
def k20 : Class := { plain "java/lang/StringBuilder" (some 19) with
  accessFlags := 49
  interfaces := #[18, 4, 5, 6]
  cf := some (fileOf pool20 24 #[] #[{ accessFlags := 1, nameIndex := 5, descriptorIndex := 145, attributes := #[] }, { accessFlags := 1, nameIndex := 27, descriptorIndex := 28, attributes := #[] }, { accessFlags := 1, nameIndex := 399, descriptorIndex := 400, attributes := #[] }, { accessFlags := 4161, nameIndex := 345, descriptorIndex := 156, attributes := #[] }] 49 2 #[349, 351, 353, 355] #[{ accessFlags := 24, nameIndex := 357, descriptorIndex := 358, attributes := #[] }])
  fields := #[{ name := "serialVersionUID", type := .long, accessFlags := 24, slot := 0, constantValue := 0 }]
  methods := #[k20m0, k20m1, k20m2, k20m3]
  instanceTypes := #[(.array .byte), .byte, .boolean, .int]
  staticTypes := #[.long]
  resolved := Array.replicate 422 none
  statics := none }

def pool21 : Array CpInfo := pool [(2, .class_ 4), (1, u "java/lang/Object"), (0, u "<init>"), (0, u "()V"), (1, .class_ 10), (1, u "java/lang/System"), (0, u "allowSecurityManager"), (0, u "I"), (16, u "cons"), (0, u "Ljava/io/Console;"), (77, .class_ 110), (1, u "java/lang/System$CallersHolder"), (43, u "initialErrStream"), (0, u "Ljava/io/PrintStream;"), (19, u "security"), (0, u "Ljava/lang/SecurityManager;"), (31, .class_ 209), (0, u "java/lang/System$1"), (7, u "props"), (0, u "Ljava/util/Properties;"), (2, u "lineSeparator"), (0, u "Ljava/lang/String;"), (96, .class_ 321), (1, u "java/lang/System$LoggerFinder"), (5, .class_ 328), (0, u "java/lang/System$Logger"), (67, u "err"), (2, u "out"), (91, u "notSupportedJnuEncoding"), (15, u "in"), (17, u "initialIn"), (0, u "Ljava/io/InputStream;"), (35, u "bootLayer"), (0, u "Ljava/lang/ModuleLayer;"), (99, .class_ 664), (0, u "java/lang/System$2"), (9, u "NEVER"), (2, u "MAYBE"), (49, u "arraycopy"), (0, u "(Ljava/lang/Object;ILjava/lang/Object;II)V"), (72, .class_ 802), (0, u "java/lang/System$Logger$Level")] 31

def k21m0 : Method := { name := "<init>", desc := "()V", sig := { parameters := [], returnType := none }, accessFlags := 2, code := none }
def k21m1 : Method := { name := "arraycopy", desc := "(Ljava/lang/Object;ILjava/lang/Object;II)V", sig := { parameters := [(.object "java/lang/Object"), .int, (.object "java/lang/Object"), .int, .int], returnType := none }, accessFlags := 265, code := none }
/-- java/lang/System -/
def k21 : Class := { plain "java/lang/System" (some 0) with
  accessFlags := 49
  interfaces := #[]
  cf := some (fileOf pool21 8 #[.nestMembers #[319, 327, 801, 108, 663, 208]] #[{ accessFlags := 2, nameIndex := 5, descriptorIndex := 6, attributes := #[] }, { accessFlags := 265, nameIndex := 727, descriptorIndex := 728, attributes := #[] }] 49 2 #[] #[{ accessFlags := 25, nameIndex := 507, descriptorIndex := 526, attributes := #[] }, { accessFlags := 25, nameIndex := 399, descriptorIndex := 155, attributes := #[] }, { accessFlags := 25, nameIndex := 396, descriptorIndex := 155, attributes := #[] }, { accessFlags := 10, nameIndex := 525, descriptorIndex := 526, attributes := #[] }, { accessFlags := 26, nameIndex := 674, descriptorIndex := 12, attributes := #[] }, { accessFlags := 26, nameIndex := 677, descriptorIndex := 12, attributes := #[] }, { accessFlags := 10, nameIndex := 11, descriptorIndex := 12, attributes := #[] }, { accessFlags := 74, nameIndex := 175, descriptorIndex := 176, attributes := #[] }, { accessFlags := 10, nameIndex := 491, descriptorIndex := 222, attributes := #[] }, { accessFlags := 74, nameIndex := 29, descriptorIndex := 30, attributes := #[] }, { accessFlags := 74, nameIndex := 154, descriptorIndex := 155, attributes := #[] }, { accessFlags := 10, nameIndex := 217, descriptorIndex := 218, attributes := #[] }, { accessFlags := 10, nameIndex := 221, descriptorIndex := 222, attributes := #[] }, { accessFlags := 8, nameIndex := 562, descriptorIndex := 563, attributes := #[] }])
  fields := #[{ name := "in", type := (.object "java/io/InputStream"), accessFlags := 25, slot := 0, constantValue := 0 }, { name := "out", type := (.object "java/io/PrintStream"), accessFlags := 25, slot := 1, constantValue := 0 }, { name := "err", type := (.object "java/io/PrintStream"), accessFlags := 25, slot := 2, constantValue := 0 }, { name := "initialIn", type := (.object "java/io/InputStream"), accessFlags := 10, slot := 3, constantValue := 0 }, { name := "NEVER", type := .int, accessFlags := 26, slot := 4, constantValue := 0 }, { name := "MAYBE", type := .int, accessFlags := 26, slot := 5, constantValue := 0 }, { name := "allowSecurityManager", type := .int, accessFlags := 10, slot := 6, constantValue := 0 }, { name := "security", type := (.object "java/lang/SecurityManager"), accessFlags := 74, slot := 7, constantValue := 0 }, { name := "notSupportedJnuEncoding", type := (.object "java/lang/String"), accessFlags := 10, slot := 8, constantValue := 0 }, { name := "cons", type := (.object "java/io/Console"), accessFlags := 74, slot := 9, constantValue := 0 }, { name := "initialErrStream", type := (.object "java/io/PrintStream"), accessFlags := 74, slot := 10, constantValue := 0 }, { name := "props", type := (.object "java/util/Properties"), accessFlags := 10, slot := 11, constantValue := 0 }, { name := "lineSeparator", type := (.object "java/lang/String"), accessFlags := 10, slot := 12, constantValue := 0 }, { name := "bootLayer", type := (.object "java/lang/ModuleLayer"), accessFlags := 8, slot := 13, constantValue := 0 }]
  methods := #[k21m0, k21m1]
  instanceTypes := #[]
  staticTypes := #[(.object "java/io/InputStream"), (.object "java/io/PrintStream"), (.object "java/io/PrintStream"), (.object "java/io/InputStream"), .int, .int, .int, (.object "java/lang/SecurityManager"), (.object "java/lang/String"), (.object "java/io/Console"), (.object "java/io/PrintStream"), (.object "java/util/Properties"), (.object "java/lang/String"), (.object "java/lang/ModuleLayer")]
  resolved := Array.replicate 834 none
  statics := none }

def pool22 : Array CpInfo := pool [(9, u "<init>"), (6, .class_ 18), (1, u "java/lang/Object"), (0, u "()V"), (1, .class_ 23), (1, u "jdk/internal/util/ArraysSupport"), (0, u "LOG2_ARRAY_LONG_INDEX_SCALE"), (0, u "I"), (2, u "U"), (0, u "Ljdk/internal/misc/Unsafe;"), (8, u "BIG_ENDIAN"), (0, u "Z"), (8, u "LOG2_BYTE_BIT_SIZE"), (4, u "LOG2_ARRAY_INT_INDEX_SCALE"), (54, u "JLA"), (0, u "Ljdk/internal/access/JavaLangAccess;"), (11, u "LOG2_ARRAY_BOOLEAN_INDEX_SCALE"), (9, u "LOG2_ARRAY_BYTE_INDEX_SCALE"), (5, u "LOG2_ARRAY_CHAR_INDEX_SCALE"), (5, u "LOG2_ARRAY_SHORT_INDEX_SCALE"), (18, u "LOG2_ARRAY_FLOAT_INDEX_SCALE"), (24, u "LOG2_ARRAY_DOUBLE_INDEX_SCALE"), (6, .methodref 195 196), (0, .class_ 197), (0, .nameAndType 198 199), (0, u "java/lang/Math"), (0, u "max"), (0, u "(II)I"), (0, .integer 2147483639), (76, u "T_BOOLEAN"), (2, u "T_CHAR"), (1, u "T_FLOAT"), (1, u "T_DOUBLE"), (1, u "T_BYTE"), (1, u "T_SHORT"), (1, u "T_INT"), (1, u "T_LONG"), (1, u "SOFT_MAX_ARRAY_LENGTH"), (56, u "newLength"), (0, u "(III)I")] 25

def k22m0 : Method := { name := "<init>", desc := "()V", sig := { parameters := [], returnType := none }, accessFlags := 2, code := none }
def k22c1 : Code := { maxStack := 3, maxLocals := 4, code := jdk_48_method_27_code, exceptionTable := #[], attributes := #[] }
def k22m1 : Method := { name := "newLength", desc := "(III)I", sig := { parameters := [.int, .int, .int], returnType := some .int }, accessFlags := 9, code := some k22c1 }
/-- jdk/internal/util/ArraysSupport -/
def k22 : Class := { plain "jdk/internal/util/ArraysSupport" (some 0) with
  accessFlags := 33
  interfaces := #[]
  cf := some (fileOf pool22 21 #[] #[{ accessFlags := 2, nameIndex := 9, descriptorIndex := 19, attributes := #[] }, { accessFlags := 9, nameIndex := 351, descriptorIndex := 352, attributes := #[] }] 33 16 #[] #[{ accessFlags := 24, nameIndex := 28, descriptorIndex := 29, attributes := #[] }, { accessFlags := 26, nameIndex := 38, descriptorIndex := 39, attributes := #[] }, { accessFlags := 25, nameIndex := 121, descriptorIndex := 25, attributes := #[] }, { accessFlags := 25, nameIndex := 131, descriptorIndex := 25, attributes := #[] }, { accessFlags := 25, nameIndex := 137, descriptorIndex := 25, attributes := #[] }, { accessFlags := 25, nameIndex := 143, descriptorIndex := 25, attributes := #[] }, { accessFlags := 25, nameIndex := 53, descriptorIndex := 25, attributes := #[] }, { accessFlags := 25, nameIndex := 24, descriptorIndex := 25, attributes := #[] }, { accessFlags := 25, nameIndex := 162, descriptorIndex := 25, attributes := #[] }, { accessFlags := 25, nameIndex := 187, descriptorIndex := 25, attributes := #[] }, { accessFlags := 26, nameIndex := 48, descriptorIndex := 25, attributes := #[] }, { accessFlags := 25, nameIndex := 277, descriptorIndex := 25, attributes := #[] }, { accessFlags := 25, nameIndex := 280, descriptorIndex := 25, attributes := #[] }, { accessFlags := 25, nameIndex := 282, descriptorIndex := 25, attributes := #[] }, { accessFlags := 25, nameIndex := 284, descriptorIndex := 25, attributes := #[] }, { accessFlags := 25, nameIndex := 286, descriptorIndex := 25, attributes := #[] }, { accessFlags := 25, nameIndex := 288, descriptorIndex := 25, attributes := #[] }, { accessFlags := 25, nameIndex := 290, descriptorIndex := 25, attributes := #[] }, { accessFlags := 25, nameIndex := 292, descriptorIndex := 25, attributes := #[] }, { accessFlags := 26, nameIndex := 108, descriptorIndex := 109, attributes := #[] }, { accessFlags := 25, nameIndex := 294, descriptorIndex := 25, attributes := #[] }])
  fields := #[{ name := "U", type := (.object "jdk/internal/misc/Unsafe"), accessFlags := 24, slot := 0, constantValue := 0 }, { name := "BIG_ENDIAN", type := .boolean, accessFlags := 26, slot := 1, constantValue := 0 }, { name := "LOG2_ARRAY_BOOLEAN_INDEX_SCALE", type := .int, accessFlags := 25, slot := 2, constantValue := 0 }, { name := "LOG2_ARRAY_BYTE_INDEX_SCALE", type := .int, accessFlags := 25, slot := 3, constantValue := 0 }, { name := "LOG2_ARRAY_CHAR_INDEX_SCALE", type := .int, accessFlags := 25, slot := 4, constantValue := 0 }, { name := "LOG2_ARRAY_SHORT_INDEX_SCALE", type := .int, accessFlags := 25, slot := 5, constantValue := 0 }, { name := "LOG2_ARRAY_INT_INDEX_SCALE", type := .int, accessFlags := 25, slot := 6, constantValue := 0 }, { name := "LOG2_ARRAY_LONG_INDEX_SCALE", type := .int, accessFlags := 25, slot := 7, constantValue := 0 }, { name := "LOG2_ARRAY_FLOAT_INDEX_SCALE", type := .int, accessFlags := 25, slot := 8, constantValue := 0 }, { name := "LOG2_ARRAY_DOUBLE_INDEX_SCALE", type := .int, accessFlags := 25, slot := 9, constantValue := 0 }, { name := "LOG2_BYTE_BIT_SIZE", type := .int, accessFlags := 26, slot := 10, constantValue := 0 }, { name := "T_BOOLEAN", type := .int, accessFlags := 25, slot := 11, constantValue := 0 }, { name := "T_CHAR", type := .int, accessFlags := 25, slot := 12, constantValue := 0 }, { name := "T_FLOAT", type := .int, accessFlags := 25, slot := 13, constantValue := 0 }, { name := "T_DOUBLE", type := .int, accessFlags := 25, slot := 14, constantValue := 0 }, { name := "T_BYTE", type := .int, accessFlags := 25, slot := 15, constantValue := 0 }, { name := "T_SHORT", type := .int, accessFlags := 25, slot := 16, constantValue := 0 }, { name := "T_INT", type := .int, accessFlags := 25, slot := 17, constantValue := 0 }, { name := "T_LONG", type := .int, accessFlags := 25, slot := 18, constantValue := 0 }, { name := "JLA", type := (.object "jdk/internal/access/JavaLangAccess"), accessFlags := 26, slot := 19, constantValue := 0 }, { name := "SOFT_MAX_ARRAY_LENGTH", type := .int, accessFlags := 25, slot := 20, constantValue := 0 }]
  methods := #[k22m0, k22m1]
  instanceTypes := #[]
  staticTypes := #[(.object "jdk/internal/misc/Unsafe"), .boolean, .int, .int, .int, .int, .int, .int, .int, .int, .int, .int, .int, .int, .int, .int, .int, .int, .int, (.object "jdk/internal/access/JavaLangAccess"), .int]
  resolved := Array.replicate 378 none
  statics := none }

def pool23 : Array CpInfo := pool [(2, .class_ 4), (1, u "java/lang/Object"), (0, u "<init>"), (0, u "()V"), (7, .class_ 16), (1, u "java/util/Arrays"), (57, .class_ 76), (1, u "java/util/Arrays$NaturalOrder"), (36, .class_ 115), (1, u "java/util/Arrays$LegacyMergeSort"), (1, u "Z"), (21, u "copyOfRange"), (10, .methodref 151 152), (0, .class_ 153), (0, .nameAndType 154 155), (0, u "java/lang/System"), (0, u "arraycopy"), (0, u "(Ljava/lang/Object;ILjava/lang/Object;II)V"), (146, u "copyOf"), (1, .methodref 305 306), (0, .class_ 307), (0, .nameAndType 308 309), (0, u "java/lang/Math"), (0, u "min"), (0, u "(II)I"), (29, .methodref 14 340), (0, .nameAndType 341 342), (0, u "copyOfRangeByte"), (0, u "([BII)[B"), (0, .methodref 14 344), (0, .nameAndType 345 346), (0, u "checkLength"), (0, u "(II)V"), (28, .class_ 376), (0, u "java/util/Arrays$ArrayList"), (68, u "$assertionsDisabled"), (269, u "MIN_ARRAY_SORT_GRAN"), (0, u "I"), (2, u "INSERTIONSORT_THRESHOLD"), (149, u "([BI)[B"), (105, .class_ 976), (0, u "java/util/Arrays$ArrayItr")] 52

def k23m0 : Method := { name := "<init>", desc := "()V", sig := { parameters := [], returnType := none }, accessFlags := 2, code := none }
def k23c1 : Code := { maxStack := 6, maxLocals := 3, code := jdk_65_method_121_code, exceptionTable := #[], attributes := #[] }
def k23m1 : Method := { name := "copyOf", desc := "([BI)[B", sig := { parameters := [(.array .byte), .int], returnType := some (.array .byte) }, accessFlags := 9, code := some k23c1 }
def k23c2 : Code := { maxStack := 4, maxLocals := 2, code := jdk_65_method_131_code, exceptionTable := #[], attributes := #[] }
def k23m2 : Method := { name := "checkLength", desc := "(II)V", sig := { parameters := [.int, .int], returnType := none }, accessFlags := 10, code := some k23c2 }
def k23c3 : Code := { maxStack := 3, maxLocals := 3, code := jdk_65_method_132_code, exceptionTable := #[], attributes := #[] }
def k23m3 : Method := { name := "copyOfRange", desc := "([BII)[B", sig := { parameters := [(.array .byte), .int, .int], returnType := some (.array .byte) }, accessFlags := 9, code := some k23c3 }
def k23c4 : Code := { maxStack := 6, maxLocals := 5, code := jdk_65_method_133_code, exceptionTable := #[], attributes := #[] }
def k23m4 : Method := { name := "copyOfRangeByte", desc := "([BII)[B", sig := { parameters := [(.array .byte), .int, .int], returnType := some (.array .byte) }, accessFlags := 10, code := some k23c4 }
/-- java/util/Arrays -/
def k23 : Class := { plain "java/util/Arrays" (some 0) with
  accessFlags := 49
  interfaces := #[]
  cf := some (fileOf pool23 14 #[.nestMembers #[975, 375, 113, 74]] #[{ accessFlags := 2, nameIndex := 5, descriptorIndex := 6, attributes := #[] }, { accessFlags := 9, nameIndex := 302, descriptorIndex := 869, attributes := #[] }, { accessFlags := 10, nameIndex := 345, descriptorIndex := 346, attributes := #[] }, { accessFlags := 9, nameIndex := 139, descriptorIndex := 342, attributes := #[] }, { accessFlags := 10, nameIndex := 341, descriptorIndex := 342, attributes := #[] }] 49 2 #[] #[{ accessFlags := 26, nameIndex := 715, descriptorIndex := 716, attributes := #[] }, { accessFlags := 26, nameIndex := 719, descriptorIndex := 716, attributes := #[] }, { accessFlags := 4120, nameIndex := 445, descriptorIndex := 117, attributes := #[] }])
  fields := #[{ name := "MIN_ARRAY_SORT_GRAN", type := .int, accessFlags := 26, slot := 0, constantValue := 0 }, { name := "INSERTIONSORT_THRESHOLD", type := .int, accessFlags := 26, slot := 1, constantValue := 0 }, { name := "$assertionsDisabled", type := .boolean, accessFlags := 4120, slot := 2, constantValue := 0 }]
  methods := #[k23m0, k23m1, k23m2, k23m3, k23m4]
  instanceTypes := #[]
  staticTypes := #[.int, .int, .boolean]
  resolved := Array.replicate 1029 none
  statics := none }

def pool24 : Array CpInfo := pool [(6, u "(Ljava/lang/Object;)Ljava/lang/Object;"), (2, u "apply"), (6, .class_ 18), (1, u "java/util/function/Function"), (0, .class_ 20), (0, u "java/lang/Object")] 56

def k24m0 : Method := { name := "apply", desc := "(Ljava/lang/Object;)Ljava/lang/Object;", sig := { parameters := [(.object "java/lang/Object")], returnType := some (.object "java/lang/Object") }, accessFlags := 1025, code := none }
/-- java/util/function/Function -/
def k24 : Class := { plain "java/util/function/Function" (some 0) with
  accessFlags := 1537
  interfaces := #[]
  cf := some (fileOf pool24 16 #[] #[{ accessFlags := 1025, nameIndex := 9, descriptorIndex := 6, attributes := #[] }] 1537 19 #[] #[])
  fields := #[]
  methods := #[k24m0]
  instanceTypes := #[]
  staticTypes := #[]
  resolved := Array.replicate 77 none
  statics := none }

def pool25 : Array CpInfo := pool [(2, .class_ 4), (1, u "java/lang/Object"), (2, .fieldref 8 9), (0, .class_ 10), (0, .nameAndType 11 12), (0, u "java/lang/Boolean"), (0, u "value"), (0, u "Z"), (14, .fieldref 8 28), (0, .nameAndType 29 30), (0, u "TRUE"), (0, u "Ljava/lang/Boolean;"), (2, u "FALSE"), (2, u "valueOf"), (7, u "booleanValue"), (0, u "()Z"), (41, u "TYPE"), (0, u "Ljava/lang/Class;"), (0, .class_ 90), (0, u "java/io/Serializable"), (0, .class_ 92), (0, u "java/lang/Comparable"), (0, .class_ 94), (0, u "java/lang/constant/Constable"), (2, u "serialVersionUID"), (0, u "J"), (18, u "(Z)Ljava/lang/Boolean;")] 34

def k25c0 : Code := { maxStack := 1, maxLocals := 1, code := jdk_2055_method_4_code, exceptionTable := #[], attributes := #[] }
def k25m0 : Method := { name := "booleanValue", desc := "()Z", sig := { parameters := [], returnType := some .boolean }, accessFlags := 1, code := some k25c0 }
def k25c1 : Code := { maxStack := 1, maxLocals := 1, code := jdk_2055_method_5_code, exceptionTable := #[], attributes := #[] }
def k25m1 : Method := { name := "valueOf", desc := "(Z)Ljava/lang/Boolean;", sig := { parameters := [.boolean], returnType := some (.object "java/lang/Boolean") }, accessFlags := 9, code := some k25c1 }
/-- java/lang/Boolean -/
def k25 : Class := { plain "java/lang/Boolean" (some 0) with
  accessFlags := 49
  interfaces := #[4, 5, 7]
  cf := some (fileOf pool25 8 #[] #[{ accessFlags := 1, nameIndex := 44, descriptorIndex := 45, attributes := #[] }, { accessFlags := 9, nameIndex := 36, descriptorIndex := 117, attributes := #[] }] 49 2 #[89, 91, 93] #[{ accessFlags := 25, nameIndex := 29, descriptorIndex := 30, attributes := #[] }, { accessFlags := 25, nameIndex := 33, descriptorIndex := 30, attributes := #[] }, { accessFlags := 25, nameIndex := 87, descriptorIndex := 88, attributes := #[] }, { accessFlags := 18, nameIndex := 11, descriptorIndex := 12, attributes := #[] }, { accessFlags := 26, nameIndex := 97, descriptorIndex := 98, attributes := #[] }])
  fields := #[{ name := "TRUE", type := (.object "java/lang/Boolean"), accessFlags := 25, slot := 0, constantValue := 0 }, { name := "FALSE", type := (.object "java/lang/Boolean"), accessFlags := 25, slot := 1, constantValue := 0 }, { name := "TYPE", type := (.object "java/lang/Class"), accessFlags := 25, slot := 2, constantValue := 0 }, { name := "value", type := .boolean, accessFlags := 18, slot := 0, constantValue := 0 }, { name := "serialVersionUID", type := .long, accessFlags := 26, slot := 3, constantValue := 0 }]
  methods := #[k25m0, k25m1]
  instanceTypes := #[.boolean]
  staticTypes := #[(.object "java/lang/Boolean"), (.object "java/lang/Boolean"), (.object "java/lang/Class"), .long]
  resolved := Array.replicate 152 none
  statics := some 3 }

def pool26 : Array CpInfo := pool [(2, .class_ 4), (1, u "java/lang/Object"), (0, u "<init>"), (0, u "()V"), (17, .class_ 26), (1, u "jdk/internal/util/Preconditions"), (28, .class_ 56), (0, u "jdk/internal/util/Preconditions$4"), (57, .class_ 115), (0, u "jdk/internal/util/Preconditions$1"), (7, u "SIOOBE_FORMATTER"), (0, u "Ljava/util/function/BiFunction;"), (0, .class_ 126), (0, u "jdk/internal/util/Preconditions$2"), (3, u "AIOOBE_FORMATTER"), (0, .class_ 132), (0, u "jdk/internal/util/Preconditions$3"), (3, u "IOOBE_FORMATTER")] 57

def k26m0 : Method := { name := "<init>", desc := "()V", sig := { parameters := [], returnType := none }, accessFlags := 1, code := none }
/-- jdk/internal/util/Preconditions -/
def k26 : Class := { plain "jdk/internal/util/Preconditions" (some 0) with
  accessFlags := 33
  interfaces := #[]
  cf := some (fileOf pool26 24 #[.nestMembers #[55, 131, 125, 114]] #[{ accessFlags := 1, nameIndex := 5, descriptorIndex := 6, attributes := #[] }] 33 2 #[] #[{ accessFlags := 25, nameIndex := 123, descriptorIndex := 124, attributes := #[] }, { accessFlags := 25, nameIndex := 130, descriptorIndex := 124, attributes := #[] }, { accessFlags := 25, nameIndex := 136, descriptorIndex := 124, attributes := #[] }])
  fields := #[{ name := "SIOOBE_FORMATTER", type := (.object "java/util/function/BiFunction"), accessFlags := 25, slot := 0, constantValue := 0 }, { name := "AIOOBE_FORMATTER", type := (.object "java/util/function/BiFunction"), accessFlags := 25, slot := 1, constantValue := 0 }, { name := "IOOBE_FORMATTER", type := (.object "java/util/function/BiFunction"), accessFlags := 25, slot := 2, constantValue := 0 }]
  methods := #[k26m0]
  instanceTypes := #[]
  staticTypes := #[(.object "java/util/function/BiFunction"), (.object "java/util/function/BiFunction"), (.object "java/util/function/BiFunction")]
  resolved := Array.replicate 194 none
  statics := some 4 }

def pool27 : Array CpInfo := pool [(1, u "java/lang/Cloneable"), (0, .class_ 1), (0, u "java/lang/Object"), (0, .class_ 3)] 3

/-- java/lang/Cloneable -/
def k27 : Class := { plain "java/lang/Cloneable" (some 0) with
  accessFlags := 1537
  interfaces := #[]
  cf := some (fileOf pool27 2 #[] #[] 1537 4 #[] #[])
  fields := #[]
  methods := #[]
  instanceTypes := #[]
  staticTypes := #[]
  resolved := Array.replicate 8 none
  statics := none }

/-- the primitive byte -/
def k28 : Class := { plain "byte" none with kind := .primitive 'B', accessFlags := 0x411 }
/-- [B -/
def k29 : Class := { plain "[B" (some 0) with kind := .array 28 .byte, interfaces := #[27, 4], accessFlags := 1041 }

/-- the primitive int -/
def k30 : Class := { plain "int" none with kind := .primitive 'I', accessFlags := 0x411 }
/-- [I -/
def k31 : Class := { plain "[I" (some 0) with kind := .array 30 .int, interfaces := #[27, 4], accessFlags := 1041 }

def classes0 : Array Class := #[k0, k1, k2, k3, k4, k5, k6, k7, k8, k9, k10, k11, k12, k13, k14, k15, k16, k17, k18, k19, k20, k21, k22, k23, k24, k25, k26, k27, k28, k29, k30, k31]
/-- the class that the rule has made for the site at 121 of com/example/glidepath/glidepath/instance/Aircraft.<init> -/
def k32 : Class := Jvm.LamKit.madeRec { classes := classes0 } "com/example/glidepath/glidepath/instance/Aircraft" (Jvm.Lambda.Shape.mk "java/util/function/Function" "apply" (Jvm.ClassFile.MethodDescriptor.mk ([(Jvm.ClassFile.FieldType.object "java/lang/Object")] : List Jvm.ClassFile.FieldType) (Option.some (Jvm.ClassFile.FieldType.object "java/lang/Object"))) ([] : List Jvm.ClassFile.FieldType) (6 : Nat) "com/example/glidepath/glidepath/instance/Aircraft" "lambda$new$0" (Jvm.ClassFile.MethodDescriptor.mk ([(Jvm.ClassFile.FieldType.object "java/lang/String")] : List Jvm.ClassFile.FieldType) (Option.some (Jvm.ClassFile.FieldType.object "java/lang/Boolean"))) false (Jvm.ClassFile.MethodDescriptor.mk ([(Jvm.ClassFile.FieldType.object "java/lang/String")] : List Jvm.ClassFile.FieldType) (Option.some (Jvm.ClassFile.FieldType.object "java/lang/Boolean")))) 32

/-- the class that the rule has made for the site at 150 of com/example/glidepath/glidepath/instance/Aircraft.<init> -/
def k33 : Class := Jvm.LamKit.madeRec { classes := classes0 } "com/example/glidepath/glidepath/instance/Aircraft" (Jvm.Lambda.Shape.mk "java/util/function/Function" "apply" (Jvm.ClassFile.MethodDescriptor.mk ([(Jvm.ClassFile.FieldType.object "java/lang/Object")] : List Jvm.ClassFile.FieldType) (Option.some (Jvm.ClassFile.FieldType.object "java/lang/Object"))) ([] : List Jvm.ClassFile.FieldType) (6 : Nat) "com/example/glidepath/glidepath/instance/Aircraft" "lambda$new$1" (Jvm.ClassFile.MethodDescriptor.mk ([(Jvm.ClassFile.FieldType.object "java/lang/String")] : List Jvm.ClassFile.FieldType) (Option.some (Jvm.ClassFile.FieldType.object "java/lang/Boolean"))) false (Jvm.ClassFile.MethodDescriptor.mk ([(Jvm.ClassFile.FieldType.object "java/lang/String")] : List Jvm.ClassFile.FieldType) (Option.some (Jvm.ClassFile.FieldType.object "java/lang/Boolean")))) 33

def heap : Heap := #[{ cls := 9, slots := #[.long 0, .int 1, .null, .int 0, .null, .int 0, .int 0], vm := .statics 9 },
  { cls := 10, slots := #[.ref 7], vm := .statics 10 },
  { cls := 14, slots := #[.null, .null, .ref 8, .ref 9, .null], vm := .statics 14 },
  { cls := 25, slots := #[.ref 10, .null, .null, .long 0], vm := .statics 25 },
  { cls := 26, slots := #[.null, .null, .null], vm := .statics 26 },
  { cls := 32, slots := #[], vm := .none },
  { cls := 33, slots := #[], vm := .none },
  { cls := 10, slots := #[.null], vm := .none },
  { cls := 14, slots := #[], vm := .none },
  { cls := 31, slots := #[.int 1207963663, .int 1207963663, .int 1207963663, .int 1207963663, .int 1207963663, .int 1207963663, .int 1207963663, .int 1207963663, .int 1207963663, .int 1476411407, .int 1342193679, .int 1476411407, .int 1610629135, .int 1342193679, .int 1207963663, .int 1207963663, .int 1207963663, .int 1207963663, .int 1207963663, .int 1207963663, .int 1207963663, .int 1207963663, .int 1207963663, .int 1207963663, .int 1207963663, .int 1207963663, .int 1207963663, .int 1207963663, .int 1342193679, .int 1342193679, .int 1342193679, .int 1476411407, .int 1610629132, .int 1744830488, .int 1744830488, .int 671088664, .int 671113242, .int 671088664, .int 1744830488, .int 1744830488, .int (-402653163), .int (-402653162), .int 1744830488, .int 536870937, .int 939524120, .int 536870932, .int 939524120, .int 939524120, .int 402667017, .int 402667017, .int 402667017, .int 402667017, .int 402667017, .int 402667017, .int 402667017, .int 402667017, .int 402667017, .int 402667017, .int 939524120, .int 1744830488, .int (-402653159), .int 1744830489, .int (-402653159), .int 1744830488, .int 1744830488, .int 8552417, .int 8552417, .int 8552417, .int 8552417, .int 8552417, .int 8552417, .int 8552417, .int 8552417, .int 8552417, .int 8552417, .int 8552417, .int 8552417, .int 8552417, .int 8552417, .int 8552417, .int 8552417, .int 8552417, .int 8552417, .int 8552417, .int 8552417, .int 8552417, .int 8552417, .int 8552417, .int 8552417, .int 8552417, .int 8552417, .int (-402653163), .int 1744830488, .int (-402653162), .int 1744830491, .int 1744850967, .int 1744830491, .int 8486882, .int 8486882, .int 8486882, .int 8486882, .int 8486882, .int 8486882, .int 8486882, .int 8486882, .int 8486882, .int 8486882, .int 8486882, .int 8486882, .int 8486882, .int 8486882, .int 8486882, .int 8486882, .int 8486882, .int 8486882, .int 8486882, .int 8486882, .int 8486882, .int 8486882, .int 8486882, .int 8486882, .int 8486882, .int 8486882, .int (-402653163), .int 1744830489, .int (-402653162), .int 1744830489, .int 1207963663, .int 1207963663, .int 1207963663, .int 1207963663, .int 1207963663, .int 1207963663, .int 1342181391, .int 1207963663, .int 1207963663, .int 1207963663, .int 1207963663, .int 1207963663, .int 1207963663, .int 1207963663, .int 1207963663, .int 1207963663, .int 1207963663, .int 1207963663, .int 1207963663, .int 1207963663, .int 1207963663, .int 1207963663, .int 1207963663, .int 1207963663, .int 1207963663, .int 1207963663, .int 1207963663, .int 1207963663, .int 1207963663, .int 1207963663, .int 1207963663, .int 1207963663, .int 1207963663, .int 939524108, .int 1744830488, .int 671113242, .int 671113242, .int 671113242, .int 671113242, .int 1744830492, .int 1744830488, .int 1744830491, .int 1744830492, .int 28677, .int (-402653155), .int 1744830489, .int 1207963664, .int 1744830492, .int 1744830491, .int 671088668, .int 671088665, .int 402654731, .int 402654731, .int 1744830491, .int 134049794, .int 1744830488, .int 1744830488, .int 1744830491, .int 402654475, .int 28677, .int (-402653154), .int 1744832523, .int 1744832523, .int 1744832523, .int 1744830488, .int 8548353, .int 8548353, .int 8548353, .int 8548353, .int 8548353, .int 8548353, .int 8548353, .int 8548353, .int 8548353, .int 8548353, .int 8548353, .int 8548353, .int 8548353, .int 8548353, .int 8548353, .int 8548353, .int 8548353, .int 8548353, .int 8548353, .int 8548353, .int 8548353, .int 8548353, .int 8548353, .int 1744830489, .int 8548353, .int 8548353, .int 8548353, .int 8548353, .int 8548353, .int 8548353, .int 8548353, .int 134049794, .int 8482818, .int 8482818, .int 8482818, .int 8482818, .int 8482818, .int 8482818, .int 8482818, .int 8482818, .int 8482818, .int 8482818, .int 8482818, .int 8482818, .int 8482818, .int 8482818, .int 8482818, .int 8482818, .int 8482818, .int 8482818, .int 8482818, .int 8482818, .int 8482818, .int 8482818, .int 8482818, .int 1744830489, .int 8482818, .int 8482818, .int 8482818, .int 8482818, .int 8482818, .int 8482818, .int 8482818, .int 102592514], vm := .none },
  { cls := 25, slots := #[.int 1], vm := .none }]
def classes : Array Class := #[k0, k1, k2, k3, k4, k5, k6, k7, k8, k9, k10, k11, k12, k13, k14, k15, k16, k17, k18, k19, k20, k21, k22, k23, k24, k25, k26, k27, k28, k29, k30, k31, k32, k33]
def interned : List (Array UInt16 × Addr) := []
def slotsUsed : Nat := 278
def theMethod : MethodId := ⟨1, 1⟩
def args0 : Array Value := #[.int 5, .int 6, .int 7, .int 8, .int 9]
def aboutOver (below : List Frame) : State where
  vm := { classes := classes, interned := interned.toArray }
  heap := heap
  slotsUsed := slotsUsed
  threads := #[{ frames := .invoking theMethod args0 :: below }]
def below0 : List Frame := [.native { method := ⟨0, 0⟩, args := #[] }]
def about1 : State := aboutOver below0
def p0 : Program := .bare "" "" ""
def e0 : Env := launch0.env 0 0 0
theorem w_frames : about1.frames = Frame.invoking theMethod args0 :: below0 := rfl
set_option maxRecDepth 65536 in
theorem w_args : argsFit about1.vm theMethod args0 = true := by decide +kernel
set_option maxRecDepth 65536 in
theorem w_heap : heapFits about1 = true := by decide +kernel
set_option maxRecDepth 65536 in
theorem w_runnable : about1.curStatus? = some .runnable := by decide +kernel
set_option maxRecDepth 65536 in
theorem w_alone : about1.alone = true := by decide +kernel
set_option maxRecDepth 65536 in
theorem w_named : about1.methodNamed? x = some theMethod := by decide +kernel
set_option maxRecDepth 65536 in
theorem w_hears : about1.hears theMethod below0 = true := by decide +kernel
set_option maxRecDepth 65536 in
theorem w_ripe : about1.ripe theMethod args0 below0 = true := by decide +kernel
theorem w_running : about1.status = .running := rfl
set_option maxRecDepth 65536 in
theorem w_room : about1.hasRoom e0.platform room_1 = true :=
  launch0.hasRoom_least _ room_1 (by decide +kernel) (by decide +kernel) (by decide +kernel) (by decide +kernel) (by decide +kernel) (by decide +kernel)
theorem allAtoms_all (ts : List Jvm.Cond) (a : Array Jvm.Value) (st : Jvm.State) : (allAtoms ts).before a st = ts.all (fun c => c.before a st) := by
  induction ts with
  | nil => rfl
  | cons c t ih =>
    show (Jvm.Cond.and c (allAtoms t)).before a st = _
    rw [Jvm.Cond.before_and, ih, List.all_cons]
def words1 : List Jvm.Cond := Jvm.Cond.code x code maxLocals ret :: tables_1
/-- a 'code' word, met by the world's own term for the bytes: nothing is compared byte by byte -/
theorem code_word {y : MethodName} {bytes : ByteArray} {mx : Nat} {rt : Option FieldType} {a : Array Value} {s : State} {m : MethodId} {meth : Method} {c : Code} (h1 : s.methodNamed? y = some m) (h2 : s.vm.method? m = some meth) (h3 : meth.code = some c) (h4 : c.code = bytes)
    (h5 : (c.maxLocals == mx && c.exceptionTable.isEmpty && decide (c.maxStack ≤ mostOperands) && decide (meth.sig.returnType = rt) && !meth.locks && decide (parseMethodDescriptor y.desc = some meth.sig)) = true) : (Jvm.Cond.code y bytes mx rt).before a s = true := by
  simp only [Bool.and_eq_true, beq_iff_eq, Bool.not_eq_true', decide_eq_true_eq] at h5
  obtain ⟨⟨⟨⟨⟨g1, g2⟩, g3⟩, g4⟩, g5⟩, g6⟩ := h5
  simp [Cond.before, Cond.holds, Cond.value, h1, h2, h3, h4, g1, g2, g3, g4, g5, g6]
def isCode : Jvm.Cond → Bool
  | .code _ _ _ _ => true
  | _ => false
theorem all_split {L : List Jvm.Cond} {P : Jvm.Cond → Bool} (h1 : L.all (fun c => isCode c || P c) = true) (h2 : ∀ c ∈ L.filter isCode, P c = true) : L.all P = true := by
  refine List.all_eq_true.mpr fun c hc => ?_
  have h := List.all_eq_true.mp h1 c hc
  rcases Bool.eq_false_or_eq_true (isCode c) with hi | hi
  · exact h2 c (List.mem_filter.mpr ⟨hc, hi⟩)
  · simpa [hi] using h
set_option maxRecDepth 65536 in
theorem w_c0 : (Jvm.Cond.code x code maxLocals ret).before args0 about1 = true := code_word (m := ⟨1, 1⟩) (meth := k1m1) (c := k1c1) (by decide +kernel) rfl rfl rfl (by decide +kernel)
set_option maxRecDepth 65536 in
theorem w_c1 : (Jvm.Cond.code ({ cls := "com/example/glidepath/glidepath/instance/Aircraft", name := "<init>", desc := "(Ljava/lang/String;DDDDD)V" } : Jvm.MethodName) prog_13_method_2_code (12 : Nat) (Option.none : Option Jvm.ClassFile.FieldType)).before args0 about1 = true := code_word (m := ⟨3, 1⟩) (meth := k3m1) (c := k3c1) (by decide +kernel) rfl rfl rfl (by decide +kernel)
set_option maxRecDepth 65536 in
theorem w_c2 : (Jvm.Cond.code ({ cls := "java/util/Optional", name := "empty", desc := "()Ljava/util/Optional;" } : Jvm.MethodName) jdk_32_method_1_code (1 : Nat) (Option.some (Jvm.ClassFile.FieldType.object "java/util/Optional"))).before args0 about1 = true := code_word (m := ⟨10, 0⟩) (meth := k10m0) (c := k10c0) (by decide +kernel) rfl rfl rfl (by decide +kernel)
set_option maxRecDepth 65536 in
theorem w_c3 : (Jvm.Cond.code ({ cls := "com/example/glidepath/glidepath/instance/Aircraft", name := "<init>", desc := "(Ljava/lang/String;DDDDDLjava/util/Optional;Ljava/util/Optional;)V" } : Jvm.MethodName) prog_13_method_1_code (14 : Nat) (Option.none : Option Jvm.ClassFile.FieldType)).before args0 about1 = true := code_word (m := ⟨3, 0⟩) (meth := k3m0) (c := k3c0) (by decide +kernel) rfl rfl rfl (by decide +kernel)
set_option maxRecDepth 65536 in
theorem w_c4 : (Jvm.Cond.code ({ cls := "java/lang/Record", name := "<init>", desc := "()V" } : Jvm.MethodName) jdk_30_method_1_code (1 : Nat) (Option.none : Option Jvm.ClassFile.FieldType)).before args0 about1 = true := code_word (m := ⟨2, 0⟩) (meth := k2m0) (c := k2c0) (by decide +kernel) rfl rfl rfl (by decide +kernel)
set_option maxRecDepth 65536 in
theorem w_c5 : (Jvm.Cond.code ({ cls := "java/lang/Object", name := "<init>", desc := "()V" } : Jvm.MethodName) object_method_1_code (1 : Nat) (Option.none : Option Jvm.ClassFile.FieldType)).before args0 about1 = true := code_word (m := ⟨0, 0⟩) (meth := k0m0) (c := k0c0) (by decide +kernel) rfl rfl rfl (by decide +kernel)
set_option maxRecDepth 65536 in
theorem w_c6 : (Jvm.Cond.code ({ cls := "java/util/Objects", name := "requireNonNull", desc := "(Ljava/lang/Object;Ljava/lang/String;)Ljava/lang/Object;" } : Jvm.MethodName) jdk_31_method_11_code (2 : Nat) (Option.some (Jvm.ClassFile.FieldType.object "java/lang/Object"))).before args0 about1 = true := code_word (m := ⟨11, 2⟩) (meth := k11m2) (c := k11c2) (by decide +kernel) rfl rfl rfl (by decide +kernel)
set_option maxRecDepth 65536 in
theorem w_c7 : (Jvm.Cond.code ({ cls := "java/lang/String", name := "isBlank", desc := "()Z" } : Jvm.MethodName) jdk_42_method_117_code (1 : Nat) (Option.some Jvm.ClassFile.FieldType.boolean)).before args0 about1 = true := code_word (m := ⟨9, 3⟩) (meth := k9m3) (c := k9c3) (by decide +kernel) rfl rfl rfl (by decide +kernel)
set_option maxRecDepth 65536 in
theorem w_c8 : (Jvm.Cond.code ({ cls := "java/lang/String", name := "indexOfNonWhitespace", desc := "()I" } : Jvm.MethodName) jdk_42_method_120_code (1 : Nat) (Option.some Jvm.ClassFile.FieldType.int)).before args0 about1 = true := code_word (m := ⟨9, 4⟩) (meth := k9m4) (c := k9c4) (by decide +kernel) rfl rfl rfl (by decide +kernel)
set_option maxRecDepth 65536 in
theorem w_c9 : (Jvm.Cond.code ({ cls := "java/lang/String", name := "isLatin1", desc := "()Z" } : Jvm.MethodName) jdk_42_method_154_code (1 : Nat) (Option.some Jvm.ClassFile.FieldType.boolean)).before args0 about1 = true := code_word (m := ⟨9, 8⟩) (meth := k9m8) (c := k9c8) (by decide +kernel) rfl rfl rfl (by decide +kernel)
set_option maxRecDepth 65536 in
theorem w_c10 : (Jvm.Cond.code ({ cls := "java/lang/StringLatin1", name := "indexOfNonWhitespace", desc := "([B)I" } : Jvm.MethodName) jdk_43_method_37_code (4 : Nat) (Option.some Jvm.ClassFile.FieldType.int)).before args0 about1 = true := code_word (m := ⟨12, 1⟩) (meth := k12m1) (c := k12c1) (by decide +kernel) rfl rfl rfl (by decide +kernel)
set_option maxRecDepth 65536 in
theorem w_c11 : (Jvm.Cond.code ({ cls := "java/lang/StringLatin1", name := "getChar", desc := "([BI)C" } : Jvm.MethodName) jdk_43_method_44_code (2 : Nat) (Option.some Jvm.ClassFile.FieldType.char)).before args0 about1 = true := code_word (m := ⟨12, 2⟩) (meth := k12m2) (c := k12c2) (by decide +kernel) rfl rfl rfl (by decide +kernel)
set_option maxRecDepth 65536 in
theorem w_c12 : (Jvm.Cond.code ({ cls := "java/lang/CharacterDataLatin1", name := "isWhitespace", desc := "(I)Z" } : Jvm.MethodName) jdk_116_method_26_code (3 : Nat) (Option.some Jvm.ClassFile.FieldType.boolean)).before args0 about1 = true := code_word (m := ⟨14, 1⟩) (meth := k14m1) (c := k14c1) (by decide +kernel) rfl rfl rfl (by decide +kernel)
set_option maxRecDepth 65536 in
theorem w_c13 : (Jvm.Cond.code ({ cls := "java/lang/CharacterDataLatin1", name := "getProperties", desc := "(I)I" } : Jvm.MethodName) jdk_116_method_1_code (4 : Nat) (Option.some Jvm.ClassFile.FieldType.int)).before args0 about1 = true := code_word (m := ⟨14, 0⟩) (meth := k14m0) (c := k14c0) (by decide +kernel) rfl rfl rfl (by decide +kernel)
set_option maxRecDepth 65536 in
theorem w_c14 : (Jvm.Cond.code ({ cls := "java/lang/String", name := "length", desc := "()I" } : Jvm.MethodName) jdk_42_method_54_code (1 : Nat) (Option.some Jvm.ClassFile.FieldType.int)).before args0 about1 = true := code_word (m := ⟨9, 2⟩) (meth := k9m2) (c := k9c2) (by decide +kernel) rfl rfl rfl (by decide +kernel)
set_option maxRecDepth 65536 in
theorem w_c15 : (Jvm.Cond.code ({ cls := "java/lang/String", name := "coder", desc := "()B" } : Jvm.MethodName) jdk_42_method_152_code (1 : Nat) (Option.some Jvm.ClassFile.FieldType.byte)).before args0 about1 = true := code_word (m := ⟨9, 7⟩) (meth := k9m7) (c := k9c7) (by decide +kernel) rfl rfl rfl (by decide +kernel)
set_option maxRecDepth 65536 in
theorem w_c16 : (Jvm.Cond.code ({ cls := "java/lang/Double", name := "isFinite", desc := "(D)Z" } : Jvm.MethodName) jdk_117_method_8_code (2 : Nat) (Option.some Jvm.ClassFile.FieldType.boolean)).before args0 about1 = true := code_word (m := ⟨16, 1⟩) (meth := k16m1) (c := k16c1) (by decide +kernel) rfl rfl rfl (by decide +kernel)
set_option maxRecDepth 65536 in
theorem w_c17 : (Jvm.Cond.code ({ cls := "java/lang/Math", name := "abs", desc := "(D)D" } : Jvm.MethodName) jdk_29_method_64_code (2 : Nat) (Option.some Jvm.ClassFile.FieldType.double)).before args0 about1 = true := code_word (m := ⟨17, 1⟩) (meth := k17m1) (c := k17c1) (by decide +kernel) rfl rfl rfl (by decide +kernel)
set_option maxRecDepth 65536 in
theorem w_c18 : (Jvm.Cond.code ({ cls := "com/example/glidepath/glidepath/instance/Aircraft", name := "require", desc := "(ZLjava/lang/String;Ljava/lang/String;)V" } : Jvm.MethodName) prog_13_method_5_code (3 : Nat) (Option.none : Option Jvm.ClassFile.FieldType)).before args0 about1 = true := code_word (m := ⟨3, 4⟩) (meth := k3m4) (c := k3c4) (by decide +kernel) rfl rfl rfl (by decide +kernel)
set_option maxRecDepth 65536 in
theorem w_c19 : (Jvm.Cond.code ({ cls := "java/lang/Double", name := "isNaN", desc := "(D)Z" } : Jvm.MethodName) jdk_117_method_6_code (2 : Nat) (Option.some Jvm.ClassFile.FieldType.boolean)).before args0 about1 = true := code_word (m := ⟨16, 0⟩) (meth := k16m0) (c := k16c0) (by decide +kernel) rfl rfl rfl (by decide +kernel)
set_option maxRecDepth 65536 in
theorem w_c20 : (Jvm.Cond.code ({ cls := "com/example/glidepath/glidepath/instance/Aircraft", name := "requireRate", desc := "(DLjava/lang/String;Ljava/lang/String;)V" } : Jvm.MethodName) prog_13_method_4_code (5 : Nat) (Option.none : Option Jvm.ClassFile.FieldType)).before args0 about1 = true := code_word (m := ⟨3, 3⟩) (meth := k3m3) (c := k3c3) (by decide +kernel) rfl rfl rfl (by decide +kernel)
set_option maxRecDepth 65536 in
theorem w_c21 : (Jvm.Cond.code ({ cls := "java/lang/StringBuilder", name := "<init>", desc := "()V" } : Jvm.MethodName) jdk_67_method_1_code (1 : Nat) (Option.none : Option Jvm.ClassFile.FieldType)).before args0 about1 = true := code_word (m := ⟨20, 0⟩) (meth := k20m0) (c := k20c0) (by decide +kernel) rfl rfl rfl (by decide +kernel)
set_option maxRecDepth 65536 in
theorem w_c22 : (Jvm.Cond.code ({ cls := "java/lang/AbstractStringBuilder", name := "<init>", desc := "(I)V" } : Jvm.MethodName) jdk_68_method_2_code (2 : Nat) (Option.none : Option Jvm.ClassFile.FieldType)).before args0 about1 = true := code_word (m := ⟨19, 1⟩) (meth := k19m1) (c := k19c1) (by decide +kernel) rfl rfl rfl (by decide +kernel)
set_option maxRecDepth 65536 in
theorem w_c23 : (Jvm.Cond.code ({ cls := "java/lang/StringBuilder", name := "append", desc := "(Ljava/lang/String;)Ljava/lang/StringBuilder;" } : Jvm.MethodName) jdk_67_method_7_code (2 : Nat) (Option.some (Jvm.ClassFile.FieldType.object "java/lang/StringBuilder"))).before args0 about1 = true := code_word (m := ⟨20, 1⟩) (meth := k20m1) (c := k20c1) (by decide +kernel) rfl rfl rfl (by decide +kernel)
set_option maxRecDepth 65536 in
theorem w_c24 : (Jvm.Cond.code ({ cls := "java/lang/AbstractStringBuilder", name := "append", desc := "(Ljava/lang/String;)Ljava/lang/AbstractStringBuilder;" } : Jvm.MethodName) jdk_68_method_22_code (3 : Nat) (Option.some (Jvm.ClassFile.FieldType.object "java/lang/AbstractStringBuilder"))).before args0 about1 = true := code_word (m := ⟨19, 5⟩) (meth := k19m5) (c := k19c5) (by decide +kernel) rfl rfl rfl (by decide +kernel)
set_option maxRecDepth 65536 in
theorem w_c25 : (Jvm.Cond.code ({ cls := "java/lang/AbstractStringBuilder", name := "ensureCapacityInternal", desc := "(I)V" } : Jvm.MethodName) jdk_68_method_9_code (3 : Nat) (Option.none : Option Jvm.ClassFile.FieldType)).before args0 about1 = true := code_word (m := ⟨19, 3⟩) (meth := k19m3) (c := k19c3) (by decide +kernel) rfl rfl rfl (by decide +kernel)
set_option maxRecDepth 65536 in
theorem w_c26 : (Jvm.Cond.code ({ cls := "java/lang/AbstractStringBuilder", name := "putStringAt", desc := "(ILjava/lang/String;)V" } : Jvm.MethodName) jdk_68_method_73_code (3 : Nat) (Option.none : Option Jvm.ClassFile.FieldType)).before args0 about1 = true := code_word (m := ⟨19, 9⟩) (meth := k19m9) (c := k19c9) (by decide +kernel) rfl rfl rfl (by decide +kernel)
set_option maxRecDepth 65536 in
theorem w_c27 : (Jvm.Cond.code ({ cls := "java/lang/AbstractStringBuilder", name := "inflateIfNeededFor", desc := "(Ljava/lang/String;)V" } : Jvm.MethodName) jdk_68_method_71_code (2 : Nat) (Option.none : Option Jvm.ClassFile.FieldType)).before args0 about1 = true := code_word (m := ⟨19, 8⟩) (meth := k19m8) (c := k19c8) (by decide +kernel) rfl rfl rfl (by decide +kernel)
set_option maxRecDepth 65536 in
theorem w_c28 : (Jvm.Cond.code ({ cls := "java/lang/String", name := "getBytes", desc := "([BIB)V" } : Jvm.MethodName) jdk_42_method_147_code (4 : Nat) (Option.none : Option Jvm.ClassFile.FieldType)).before args0 about1 = true := code_word (m := ⟨9, 5⟩) (meth := k9m5) (c := k9c5) (by decide +kernel) rfl rfl rfl (by decide +kernel)
set_option maxRecDepth 65536 in
theorem w_c29 : (Jvm.Cond.code ({ cls := "java/lang/AbstractStringBuilder", name := "newCapacity", desc := "(I)I" } : Jvm.MethodName) jdk_68_method_10_code (6 : Nat) (Option.some Jvm.ClassFile.FieldType.int)).before args0 about1 = true := code_word (m := ⟨19, 4⟩) (meth := k19m4) (c := k19c4) (by decide +kernel) rfl rfl rfl (by decide +kernel)
set_option maxRecDepth 65536 in
theorem w_c30 : (Jvm.Cond.code ({ cls := "jdk/internal/util/ArraysSupport", name := "newLength", desc := "(III)I" } : Jvm.MethodName) jdk_48_method_27_code (4 : Nat) (Option.some Jvm.ClassFile.FieldType.int)).before args0 about1 = true := code_word (m := ⟨22, 1⟩) (meth := k22m1) (c := k22c1) (by decide +kernel) rfl rfl rfl (by decide +kernel)
set_option maxRecDepth 65536 in
theorem w_c31 : (Jvm.Cond.code ({ cls := "java/lang/Math", name := "max", desc := "(II)I" } : Jvm.MethodName) jdk_29_method_65_code (2 : Nat) (Option.some Jvm.ClassFile.FieldType.int)).before args0 about1 = true := code_word (m := ⟨17, 2⟩) (meth := k17m2) (c := k17c2) (by decide +kernel) rfl rfl rfl (by decide +kernel)
set_option maxRecDepth 65536 in
theorem w_c32 : (Jvm.Cond.code ({ cls := "java/util/Arrays", name := "copyOf", desc := "([BI)[B" } : Jvm.MethodName) jdk_65_method_121_code (3 : Nat) (Option.some (Jvm.ClassFile.FieldType.array Jvm.ClassFile.FieldType.byte))).before args0 about1 = true := code_word (m := ⟨23, 1⟩) (meth := k23m1) (c := k23c1) (by decide +kernel) rfl rfl rfl (by decide +kernel)
set_option maxRecDepth 65536 in
theorem w_c33 : (Jvm.Cond.code ({ cls := "java/lang/Math", name := "min", desc := "(II)I" } : Jvm.MethodName) jdk_29_method_69_code (2 : Nat) (Option.some Jvm.ClassFile.FieldType.int)).before args0 about1 = true := code_word (m := ⟨17, 4⟩) (meth := k17m4) (c := k17c4) (by decide +kernel) rfl rfl rfl (by decide +kernel)
set_option maxRecDepth 65536 in
theorem w_c34 : (Jvm.Cond.code ({ cls := "java/lang/StringBuilder", name := "toString", desc := "()Ljava/lang/String;" } : Jvm.MethodName) jdk_67_method_42_code (1 : Nat) (Option.some (Jvm.ClassFile.FieldType.object "java/lang/String"))).before args0 about1 = true := code_word (m := ⟨20, 2⟩) (meth := k20m2) (c := k20c2) (by decide +kernel) rfl rfl rfl (by decide +kernel)
set_option maxRecDepth 65536 in
theorem w_c35 : (Jvm.Cond.code ({ cls := "java/lang/String", name := "<init>", desc := "(Ljava/lang/StringBuilder;)V" } : Jvm.MethodName) jdk_42_method_53_code (2 : Nat) (Option.none : Option Jvm.ClassFile.FieldType)).before args0 about1 = true := code_word (m := ⟨9, 1⟩) (meth := k9m1) (c := k9c1) (by decide +kernel) rfl rfl rfl (by decide +kernel)
set_option maxRecDepth 65536 in
theorem w_c36 : (Jvm.Cond.code ({ cls := "java/lang/String", name := "<init>", desc := "(Ljava/lang/AbstractStringBuilder;Ljava/lang/Void;)V" } : Jvm.MethodName) jdk_42_method_150_code (5 : Nat) (Option.none : Option Jvm.ClassFile.FieldType)).before args0 about1 = true := code_word (m := ⟨9, 6⟩) (meth := k9m6) (c := k9c6) (by decide +kernel) rfl rfl rfl (by decide +kernel)
set_option maxRecDepth 65536 in
theorem w_c37 : (Jvm.Cond.code ({ cls := "java/lang/AbstractStringBuilder", name := "getValue", desc := "()[B" } : Jvm.MethodName) jdk_68_method_64_code (1 : Nat) (Option.some (Jvm.ClassFile.FieldType.array Jvm.ClassFile.FieldType.byte))).before args0 about1 = true := code_word (m := ⟨19, 6⟩) (meth := k19m6) (c := k19c6) (by decide +kernel) rfl rfl rfl (by decide +kernel)
set_option maxRecDepth 65536 in
theorem w_c38 : (Jvm.Cond.code ({ cls := "java/lang/StringBuilder", name := "length", desc := "()I" } : Jvm.MethodName) jdk_67_method_93_code (1 : Nat) (Option.some Jvm.ClassFile.FieldType.int)).before args0 about1 = true := code_word (m := ⟨20, 3⟩) (meth := k20m3) (c := k20c3) (by decide +kernel) rfl rfl rfl (by decide +kernel)
set_option maxRecDepth 65536 in
theorem w_c39 : (Jvm.Cond.code ({ cls := "java/lang/AbstractStringBuilder", name := "length", desc := "()I" } : Jvm.MethodName) jdk_68_method_6_code (1 : Nat) (Option.some Jvm.ClassFile.FieldType.int)).before args0 about1 = true := code_word (m := ⟨19, 2⟩) (meth := k19m2) (c := k19c2) (by decide +kernel) rfl rfl rfl (by decide +kernel)
set_option maxRecDepth 65536 in
theorem w_c40 : (Jvm.Cond.code ({ cls := "java/lang/AbstractStringBuilder", name := "isLatin1", desc := "()Z" } : Jvm.MethodName) jdk_68_method_68_code (1 : Nat) (Option.some Jvm.ClassFile.FieldType.boolean)).before args0 about1 = true := code_word (m := ⟨19, 7⟩) (meth := k19m7) (c := k19c7) (by decide +kernel) rfl rfl rfl (by decide +kernel)
set_option maxRecDepth 65536 in
theorem w_c41 : (Jvm.Cond.code ({ cls := "java/util/Arrays", name := "copyOfRange", desc := "([BII)[B" } : Jvm.MethodName) jdk_65_method_132_code (3 : Nat) (Option.some (Jvm.ClassFile.FieldType.array Jvm.ClassFile.FieldType.byte))).before args0 about1 = true := code_word (m := ⟨23, 3⟩) (meth := k23m3) (c := k23c3) (by decide +kernel) rfl rfl rfl (by decide +kernel)
set_option maxRecDepth 65536 in
theorem w_c42 : (Jvm.Cond.code ({ cls := "java/util/Arrays", name := "copyOfRangeByte", desc := "([BII)[B" } : Jvm.MethodName) jdk_65_method_133_code (5 : Nat) (Option.some (Jvm.ClassFile.FieldType.array Jvm.ClassFile.FieldType.byte))).before args0 about1 = true := code_word (m := ⟨23, 4⟩) (meth := k23m4) (c := k23c4) (by decide +kernel) rfl rfl rfl (by decide +kernel)
set_option maxRecDepth 65536 in
theorem w_c43 : (Jvm.Cond.code ({ cls := "java/util/Arrays", name := "checkLength", desc := "(II)V" } : Jvm.MethodName) jdk_65_method_131_code (2 : Nat) (Option.none : Option Jvm.ClassFile.FieldType)).before args0 about1 = true := code_word (m := ⟨23, 2⟩) (meth := k23m2) (c := k23c2) (by decide +kernel) rfl rfl rfl (by decide +kernel)
set_option maxRecDepth 65536 in
theorem w_c44 : (Jvm.Cond.code ({ cls := "java/util/Optional", name := "map", desc := "(Ljava/util/function/Function;)Ljava/util/Optional;" } : Jvm.MethodName) jdk_32_method_11_code (2 : Nat) (Option.some (Jvm.ClassFile.FieldType.object "java/util/Optional"))).before args0 about1 = true := code_word (m := ⟨10, 2⟩) (meth := k10m2) (c := k10c2) (by decide +kernel) rfl rfl rfl (by decide +kernel)
set_option maxRecDepth 65536 in
theorem w_c45 : (Jvm.Cond.code ({ cls := "java/util/Objects", name := "requireNonNull", desc := "(Ljava/lang/Object;)Ljava/lang/Object;" } : Jvm.MethodName) jdk_31_method_10_code (1 : Nat) (Option.some (Jvm.ClassFile.FieldType.object "java/lang/Object"))).before args0 about1 = true := code_word (m := ⟨11, 1⟩) (meth := k11m1) (c := k11c1) (by decide +kernel) rfl rfl rfl (by decide +kernel)
set_option maxRecDepth 65536 in
theorem w_c46 : (Jvm.Cond.code ({ cls := "java/util/Optional", name := "isEmpty", desc := "()Z" } : Jvm.MethodName) jdk_32_method_7_code (1 : Nat) (Option.some Jvm.ClassFile.FieldType.boolean)).before args0 about1 = true := code_word (m := ⟨10, 1⟩) (meth := k10m1) (c := k10c1) (by decide +kernel) rfl rfl rfl (by decide +kernel)
set_option maxRecDepth 65536 in
theorem w_c47 : (Jvm.Cond.code ({ cls := "java/lang/Boolean", name := "valueOf", desc := "(Z)Ljava/lang/Boolean;" } : Jvm.MethodName) jdk_2055_method_5_code (1 : Nat) (Option.some (Jvm.ClassFile.FieldType.object "java/lang/Boolean"))).before args0 about1 = true := code_word (m := ⟨25, 1⟩) (meth := k25m1) (c := k25c1) (by decide +kernel) rfl rfl rfl (by decide +kernel)
set_option maxRecDepth 65536 in
theorem w_c48 : (Jvm.Cond.code ({ cls := "java/util/Optional", name := "orElse", desc := "(Ljava/lang/Object;)Ljava/lang/Object;" } : Jvm.MethodName) jdk_32_method_15_code (2 : Nat) (Option.some (Jvm.ClassFile.FieldType.object "java/lang/Object"))).before args0 about1 = true := code_word (m := ⟨10, 3⟩) (meth := k10m3) (c := k10c3) (by decide +kernel) rfl rfl rfl (by decide +kernel)
set_option maxRecDepth 65536 in
theorem w_c49 : (Jvm.Cond.code ({ cls := "java/lang/Boolean", name := "booleanValue", desc := "()Z" } : Jvm.MethodName) jdk_2055_method_4_code (1 : Nat) (Option.some Jvm.ClassFile.FieldType.boolean)).before args0 about1 = true := code_word (m := ⟨25, 0⟩) (meth := k25m0) (c := k25c0) (by decide +kernel) rfl rfl rfl (by decide +kernel)
set_option maxRecDepth 65536 in
theorem w_c50 : (Jvm.Cond.code ({ cls := "com/example/glidepath/glidepath/instance/Aircraft", name := "cost", desc := "(D)D" } : Jvm.MethodName) prog_13_method_3_code (5 : Nat) (Option.some Jvm.ClassFile.FieldType.double)).before args0 about1 = true := code_word (m := ⟨3, 2⟩) (meth := k3m2) (c := k3c2) (by decide +kernel) rfl rfl rfl (by decide +kernel)
set_option maxRecDepth 65536 in
theorem w_c51 : (Jvm.Cond.code ({ cls := "java/lang/Math", name := "max", desc := "(JJ)J" } : Jvm.MethodName) jdk_29_method_66_code (4 : Nat) (Option.some Jvm.ClassFile.FieldType.long)).before args0 about1 = true := code_word (m := ⟨17, 3⟩) (meth := k17m3) (c := k17c3) (by decide +kernel) rfl rfl rfl (by decide +kernel)
def codes1 : List Jvm.Cond := [Jvm.Cond.code x code maxLocals ret, Jvm.Cond.code ({ cls := "com/example/glidepath/glidepath/instance/Aircraft", name := "<init>", desc := "(Ljava/lang/String;DDDDD)V" } : Jvm.MethodName) prog_13_method_2_code (12 : Nat) (Option.none : Option Jvm.ClassFile.FieldType), Jvm.Cond.code ({ cls := "java/util/Optional", name := "empty", desc := "()Ljava/util/Optional;" } : Jvm.MethodName) jdk_32_method_1_code (1 : Nat) (Option.some (Jvm.ClassFile.FieldType.object "java/util/Optional")), Jvm.Cond.code ({ cls := "com/example/glidepath/glidepath/instance/Aircraft", name := "<init>", desc := "(Ljava/lang/String;DDDDDLjava/util/Optional;Ljava/util/Optional;)V" } : Jvm.MethodName) prog_13_method_1_code (14 : Nat) (Option.none : Option Jvm.ClassFile.FieldType), Jvm.Cond.code ({ cls := "java/lang/Record", name := "<init>", desc := "()V" } : Jvm.MethodName) jdk_30_method_1_code (1 : Nat) (Option.none : Option Jvm.ClassFile.FieldType), Jvm.Cond.code ({ cls := "java/lang/Object", name := "<init>", desc := "()V" } : Jvm.MethodName) object_method_1_code (1 : Nat) (Option.none : Option Jvm.ClassFile.FieldType), Jvm.Cond.code ({ cls := "java/util/Objects", name := "requireNonNull", desc := "(Ljava/lang/Object;Ljava/lang/String;)Ljava/lang/Object;" } : Jvm.MethodName) jdk_31_method_11_code (2 : Nat) (Option.some (Jvm.ClassFile.FieldType.object "java/lang/Object")), Jvm.Cond.code ({ cls := "java/lang/String", name := "isBlank", desc := "()Z" } : Jvm.MethodName) jdk_42_method_117_code (1 : Nat) (Option.some Jvm.ClassFile.FieldType.boolean), Jvm.Cond.code ({ cls := "java/lang/String", name := "indexOfNonWhitespace", desc := "()I" } : Jvm.MethodName) jdk_42_method_120_code (1 : Nat) (Option.some Jvm.ClassFile.FieldType.int), Jvm.Cond.code ({ cls := "java/lang/String", name := "isLatin1", desc := "()Z" } : Jvm.MethodName) jdk_42_method_154_code (1 : Nat) (Option.some Jvm.ClassFile.FieldType.boolean), Jvm.Cond.code ({ cls := "java/lang/StringLatin1", name := "indexOfNonWhitespace", desc := "([B)I" } : Jvm.MethodName) jdk_43_method_37_code (4 : Nat) (Option.some Jvm.ClassFile.FieldType.int), Jvm.Cond.code ({ cls := "java/lang/StringLatin1", name := "getChar", desc := "([BI)C" } : Jvm.MethodName) jdk_43_method_44_code (2 : Nat) (Option.some Jvm.ClassFile.FieldType.char), Jvm.Cond.code ({ cls := "java/lang/CharacterDataLatin1", name := "isWhitespace", desc := "(I)Z" } : Jvm.MethodName) jdk_116_method_26_code (3 : Nat) (Option.some Jvm.ClassFile.FieldType.boolean), Jvm.Cond.code ({ cls := "java/lang/CharacterDataLatin1", name := "getProperties", desc := "(I)I" } : Jvm.MethodName) jdk_116_method_1_code (4 : Nat) (Option.some Jvm.ClassFile.FieldType.int), Jvm.Cond.code ({ cls := "java/lang/String", name := "length", desc := "()I" } : Jvm.MethodName) jdk_42_method_54_code (1 : Nat) (Option.some Jvm.ClassFile.FieldType.int), Jvm.Cond.code ({ cls := "java/lang/String", name := "coder", desc := "()B" } : Jvm.MethodName) jdk_42_method_152_code (1 : Nat) (Option.some Jvm.ClassFile.FieldType.byte), Jvm.Cond.code ({ cls := "java/lang/Double", name := "isFinite", desc := "(D)Z" } : Jvm.MethodName) jdk_117_method_8_code (2 : Nat) (Option.some Jvm.ClassFile.FieldType.boolean), Jvm.Cond.code ({ cls := "java/lang/Math", name := "abs", desc := "(D)D" } : Jvm.MethodName) jdk_29_method_64_code (2 : Nat) (Option.some Jvm.ClassFile.FieldType.double), Jvm.Cond.code ({ cls := "com/example/glidepath/glidepath/instance/Aircraft", name := "require", desc := "(ZLjava/lang/String;Ljava/lang/String;)V" } : Jvm.MethodName) prog_13_method_5_code (3 : Nat) (Option.none : Option Jvm.ClassFile.FieldType), Jvm.Cond.code ({ cls := "java/lang/Double", name := "isNaN", desc := "(D)Z" } : Jvm.MethodName) jdk_117_method_6_code (2 : Nat) (Option.some Jvm.ClassFile.FieldType.boolean), Jvm.Cond.code ({ cls := "com/example/glidepath/glidepath/instance/Aircraft", name := "requireRate", desc := "(DLjava/lang/String;Ljava/lang/String;)V" } : Jvm.MethodName) prog_13_method_4_code (5 : Nat) (Option.none : Option Jvm.ClassFile.FieldType), Jvm.Cond.code ({ cls := "java/lang/StringBuilder", name := "<init>", desc := "()V" } : Jvm.MethodName) jdk_67_method_1_code (1 : Nat) (Option.none : Option Jvm.ClassFile.FieldType), Jvm.Cond.code ({ cls := "java/lang/AbstractStringBuilder", name := "<init>", desc := "(I)V" } : Jvm.MethodName) jdk_68_method_2_code (2 : Nat) (Option.none : Option Jvm.ClassFile.FieldType), Jvm.Cond.code ({ cls := "java/lang/StringBuilder", name := "append", desc := "(Ljava/lang/String;)Ljava/lang/StringBuilder;" } : Jvm.MethodName) jdk_67_method_7_code (2 : Nat) (Option.some (Jvm.ClassFile.FieldType.object "java/lang/StringBuilder")), Jvm.Cond.code ({ cls := "java/lang/AbstractStringBuilder", name := "append", desc := "(Ljava/lang/String;)Ljava/lang/AbstractStringBuilder;" } : Jvm.MethodName) jdk_68_method_22_code (3 : Nat) (Option.some (Jvm.ClassFile.FieldType.object "java/lang/AbstractStringBuilder")), Jvm.Cond.code ({ cls := "java/lang/AbstractStringBuilder", name := "ensureCapacityInternal", desc := "(I)V" } : Jvm.MethodName) jdk_68_method_9_code (3 : Nat) (Option.none : Option Jvm.ClassFile.FieldType), Jvm.Cond.code ({ cls := "java/lang/AbstractStringBuilder", name := "putStringAt", desc := "(ILjava/lang/String;)V" } : Jvm.MethodName) jdk_68_method_73_code (3 : Nat) (Option.none : Option Jvm.ClassFile.FieldType), Jvm.Cond.code ({ cls := "java/lang/AbstractStringBuilder", name := "inflateIfNeededFor", desc := "(Ljava/lang/String;)V" } : Jvm.MethodName) jdk_68_method_71_code (2 : Nat) (Option.none : Option Jvm.ClassFile.FieldType), Jvm.Cond.code ({ cls := "java/lang/String", name := "getBytes", desc := "([BIB)V" } : Jvm.MethodName) jdk_42_method_147_code (4 : Nat) (Option.none : Option Jvm.ClassFile.FieldType), Jvm.Cond.code ({ cls := "java/lang/AbstractStringBuilder", name := "newCapacity", desc := "(I)I" } : Jvm.MethodName) jdk_68_method_10_code (6 : Nat) (Option.some Jvm.ClassFile.FieldType.int), Jvm.Cond.code ({ cls := "jdk/internal/util/ArraysSupport", name := "newLength", desc := "(III)I" } : Jvm.MethodName) jdk_48_method_27_code (4 : Nat) (Option.some Jvm.ClassFile.FieldType.int), Jvm.Cond.code ({ cls := "java/lang/Math", name := "max", desc := "(II)I" } : Jvm.MethodName) jdk_29_method_65_code (2 : Nat) (Option.some Jvm.ClassFile.FieldType.int), Jvm.Cond.code ({ cls := "java/util/Arrays", name := "copyOf", desc := "([BI)[B" } : Jvm.MethodName) jdk_65_method_121_code (3 : Nat) (Option.some (Jvm.ClassFile.FieldType.array Jvm.ClassFile.FieldType.byte)), Jvm.Cond.code ({ cls := "java/lang/Math", name := "min", desc := "(II)I" } : Jvm.MethodName) jdk_29_method_69_code (2 : Nat) (Option.some Jvm.ClassFile.FieldType.int), Jvm.Cond.code ({ cls := "java/lang/StringBuilder", name := "toString", desc := "()Ljava/lang/String;" } : Jvm.MethodName) jdk_67_method_42_code (1 : Nat) (Option.some (Jvm.ClassFile.FieldType.object "java/lang/String")), Jvm.Cond.code ({ cls := "java/lang/String", name := "<init>", desc := "(Ljava/lang/StringBuilder;)V" } : Jvm.MethodName) jdk_42_method_53_code (2 : Nat) (Option.none : Option Jvm.ClassFile.FieldType), Jvm.Cond.code ({ cls := "java/lang/String", name := "<init>", desc := "(Ljava/lang/AbstractStringBuilder;Ljava/lang/Void;)V" } : Jvm.MethodName) jdk_42_method_150_code (5 : Nat) (Option.none : Option Jvm.ClassFile.FieldType), Jvm.Cond.code ({ cls := "java/lang/AbstractStringBuilder", name := "getValue", desc := "()[B" } : Jvm.MethodName) jdk_68_method_64_code (1 : Nat) (Option.some (Jvm.ClassFile.FieldType.array Jvm.ClassFile.FieldType.byte)), Jvm.Cond.code ({ cls := "java/lang/StringBuilder", name := "length", desc := "()I" } : Jvm.MethodName) jdk_67_method_93_code (1 : Nat) (Option.some Jvm.ClassFile.FieldType.int), Jvm.Cond.code ({ cls := "java/lang/AbstractStringBuilder", name := "length", desc := "()I" } : Jvm.MethodName) jdk_68_method_6_code (1 : Nat) (Option.some Jvm.ClassFile.FieldType.int), Jvm.Cond.code ({ cls := "java/lang/AbstractStringBuilder", name := "isLatin1", desc := "()Z" } : Jvm.MethodName) jdk_68_method_68_code (1 : Nat) (Option.some Jvm.ClassFile.FieldType.boolean), Jvm.Cond.code ({ cls := "java/util/Arrays", name := "copyOfRange", desc := "([BII)[B" } : Jvm.MethodName) jdk_65_method_132_code (3 : Nat) (Option.some (Jvm.ClassFile.FieldType.array Jvm.ClassFile.FieldType.byte)), Jvm.Cond.code ({ cls := "java/util/Arrays", name := "copyOfRangeByte", desc := "([BII)[B" } : Jvm.MethodName) jdk_65_method_133_code (5 : Nat) (Option.some (Jvm.ClassFile.FieldType.array Jvm.ClassFile.FieldType.byte)), Jvm.Cond.code ({ cls := "java/util/Arrays", name := "checkLength", desc := "(II)V" } : Jvm.MethodName) jdk_65_method_131_code (2 : Nat) (Option.none : Option Jvm.ClassFile.FieldType), Jvm.Cond.code ({ cls := "java/util/Optional", name := "map", desc := "(Ljava/util/function/Function;)Ljava/util/Optional;" } : Jvm.MethodName) jdk_32_method_11_code (2 : Nat) (Option.some (Jvm.ClassFile.FieldType.object "java/util/Optional")), Jvm.Cond.code ({ cls := "java/util/Objects", name := "requireNonNull", desc := "(Ljava/lang/Object;)Ljava/lang/Object;" } : Jvm.MethodName) jdk_31_method_10_code (1 : Nat) (Option.some (Jvm.ClassFile.FieldType.object "java/lang/Object")), Jvm.Cond.code ({ cls := "java/util/Optional", name := "isEmpty", desc := "()Z" } : Jvm.MethodName) jdk_32_method_7_code (1 : Nat) (Option.some Jvm.ClassFile.FieldType.boolean), Jvm.Cond.code ({ cls := "java/lang/Boolean", name := "valueOf", desc := "(Z)Ljava/lang/Boolean;" } : Jvm.MethodName) jdk_2055_method_5_code (1 : Nat) (Option.some (Jvm.ClassFile.FieldType.object "java/lang/Boolean")), Jvm.Cond.code ({ cls := "java/util/Optional", name := "orElse", desc := "(Ljava/lang/Object;)Ljava/lang/Object;" } : Jvm.MethodName) jdk_32_method_15_code (2 : Nat) (Option.some (Jvm.ClassFile.FieldType.object "java/lang/Object")), Jvm.Cond.code ({ cls := "java/lang/Boolean", name := "booleanValue", desc := "()Z" } : Jvm.MethodName) jdk_2055_method_4_code (1 : Nat) (Option.some Jvm.ClassFile.FieldType.boolean), Jvm.Cond.code ({ cls := "com/example/glidepath/glidepath/instance/Aircraft", name := "cost", desc := "(D)D" } : Jvm.MethodName) prog_13_method_3_code (5 : Nat) (Option.some Jvm.ClassFile.FieldType.double), Jvm.Cond.code ({ cls := "java/lang/Math", name := "max", desc := "(JJ)J" } : Jvm.MethodName) jdk_29_method_66_code (4 : Nat) (Option.some Jvm.ClassFile.FieldType.long)]
set_option maxRecDepth 65536 in
theorem codes_eq : words1.filter isCode = codes1 := rfl
theorem w_codes : ∀ c ∈ words1.filter isCode, c.before args0 about1 = true := by
  rw [codes_eq]
  intro c hc
  simp only [codes1, List.mem_cons, List.not_mem_nil, or_false] at hc
  rcases hc with rfl | rfl | rfl | rfl | rfl | rfl | rfl | rfl | rfl | rfl | rfl | rfl | rfl | rfl | rfl | rfl | rfl | rfl | rfl | rfl | rfl | rfl | rfl | rfl | rfl | rfl | rfl | rfl | rfl | rfl | rfl | rfl | rfl | rfl | rfl | rfl | rfl | rfl | rfl | rfl | rfl | rfl | rfl | rfl | rfl | rfl | rfl | rfl | rfl | rfl | rfl | rfl
  · exact w_c0
  · exact w_c1
  · exact w_c2
  · exact w_c3
  · exact w_c4
  · exact w_c5
  · exact w_c6
  · exact w_c7
  · exact w_c8
  · exact w_c9
  · exact w_c10
  · exact w_c11
  · exact w_c12
  · exact w_c13
  · exact w_c14
  · exact w_c15
  · exact w_c16
  · exact w_c17
  · exact w_c18
  · exact w_c19
  · exact w_c20
  · exact w_c21
  · exact w_c22
  · exact w_c23
  · exact w_c24
  · exact w_c25
  · exact w_c26
  · exact w_c27
  · exact w_c28
  · exact w_c29
  · exact w_c30
  · exact w_c31
  · exact w_c32
  · exact w_c33
  · exact w_c34
  · exact w_c35
  · exact w_c36
  · exact w_c37
  · exact w_c38
  · exact w_c39
  · exact w_c40
  · exact w_c41
  · exact w_c42
  · exact w_c43
  · exact w_c44
  · exact w_c45
  · exact w_c46
  · exact w_c47
  · exact w_c48
  · exact w_c49
  · exact w_c50
  · exact w_c51
set_option maxRecDepth 65536 in
theorem w_t1 : (words1.take 24).all (fun c => isCode c || c.before args0 about1) = true := by decide +kernel
set_option maxRecDepth 65536 in
theorem w_t2 : ((words1.drop 24).take 24).all (fun c => isCode c || c.before args0 about1) = true := by decide +kernel
set_option maxRecDepth 65536 in
theorem w_t3 : (((words1.drop 24).drop 24).take 24).all (fun c => isCode c || c.before args0 about1) = true := by decide +kernel
set_option maxRecDepth 65536 in
theorem w_t4 : ((((words1.drop 24).drop 24).drop 24).take 24).all (fun c => isCode c || c.before args0 about1) = true := by decide +kernel
set_option maxRecDepth 65536 in
theorem w_t5 : (((((words1.drop 24).drop 24).drop 24).drop 24).take 24).all (fun c => isCode c || c.before args0 about1) = true := by decide +kernel
set_option maxRecDepth 65536 in
theorem w_t6 : ((((((words1.drop 24).drop 24).drop 24).drop 24).drop 24).take 24).all (fun c => isCode c || c.before args0 about1) = true := by decide +kernel
set_option maxRecDepth 65536 in
theorem w_t7 : (((((((words1.drop 24).drop 24).drop 24).drop 24).drop 24).drop 24).take 24).all (fun c => isCode c || c.before args0 about1) = true := by decide +kernel
set_option maxRecDepth 65536 in
theorem w_t8 : ((((((((words1.drop 24).drop 24).drop 24).drop 24).drop 24).drop 24).drop 24).take 24).all (fun c => isCode c || c.before args0 about1) = true := by decide +kernel
set_option maxRecDepth 65536 in
theorem w_t9 : (((((((((words1.drop 24).drop 24).drop 24).drop 24).drop 24).drop 24).drop 24).drop 24).take 24).all (fun c => isCode c || c.before args0 about1) = true := by decide +kernel
set_option maxRecDepth 65536 in
theorem w_t10 : ((((((((((words1.drop 24).drop 24).drop 24).drop 24).drop 24).drop 24).drop 24).drop 24).drop 24).take 24).all (fun c => isCode c || c.before args0 about1) = true := by decide +kernel
set_option maxRecDepth 65536 in
theorem w_t11 : (((((((((((words1.drop 24).drop 24).drop 24).drop 24).drop 24).drop 24).drop 24).drop 24).drop 24).drop 24).take 24).all (fun c => isCode c || c.before args0 about1) = true := by decide +kernel
set_option maxRecDepth 65536 in
theorem w_t12 : ((((((((((((words1.drop 24).drop 24).drop 24).drop 24).drop 24).drop 24).drop 24).drop 24).drop 24).drop 24).drop 24).take 24).all (fun c => isCode c || c.before args0 about1) = true := by decide +kernel
set_option maxRecDepth 65536 in
theorem w_t13 : ((((((((((((words1.drop 24).drop 24).drop 24).drop 24).drop 24).drop 24).drop 24).drop 24).drop 24).drop 24).drop 24).drop 24).all (fun c => isCode c || c.before args0 about1) = true := by decide +kernel
theorem w_tables : (allAtoms (Jvm.Cond.code x code maxLocals ret :: tables_1)).before args0 about1 = true := by
  rw [allAtoms_all]
  show words1.all (fun c => c.before args0 about1) = true
  refine all_split ?_ w_codes
  rw [← List.take_append_drop 24 words1, List.all_append, w_t1, ← List.take_append_drop 24 (words1.drop 24), List.all_append, w_t2, ← List.take_append_drop 24 ((words1.drop 24).drop 24), List.all_append, w_t3, ← List.take_append_drop 24 (((words1.drop 24).drop 24).drop 24), List.all_append, w_t4, ← List.take_append_drop 24 ((((words1.drop 24).drop 24).drop 24).drop 24), List.all_append, w_t5, ← List.take_append_drop 24 (((((words1.drop 24).drop 24).drop 24).drop 24).drop 24), List.all_append, w_t6, ← List.take_append_drop 24 ((((((words1.drop 24).drop 24).drop 24).drop 24).drop 24).drop 24), List.all_append, w_t7, ← List.take_append_drop 24 (((((((words1.drop 24).drop 24).drop 24).drop 24).drop 24).drop 24).drop 24), List.all_append, w_t8, ← List.take_append_drop 24 ((((((((words1.drop 24).drop 24).drop 24).drop 24).drop 24).drop 24).drop 24).drop 24), List.all_append, w_t9, ← List.take_append_drop 24 (((((((((words1.drop 24).drop 24).drop 24).drop 24).drop 24).drop 24).drop 24).drop 24).drop 24), List.all_append, w_t10, ← List.take_append_drop 24 ((((((((((words1.drop 24).drop 24).drop 24).drop 24).drop 24).drop 24).drop 24).drop 24).drop 24).drop 24), List.all_append, w_t11, ← List.take_append_drop 24 (((((((((((words1.drop 24).drop 24).drop 24).drop 24).drop 24).drop 24).drop 24).drop 24).drop 24).drop 24).drop 24), List.all_append, w_t12, w_t13]
  rfl
set_option maxRecDepth 65536 in
theorem w_rest : rest_1_c.before args0 about1 = true := by decide +kernel
set_option maxRecDepth 65536 in
theorem w_case : (Jvm.Cond.and given_1 narrow_1).before args0 about1 = true := by decide +kernel
set_option maxRecDepth 65536 in
theorem w_consts : constsHeld consts_1 about1 := Jvm.Lit.constsHeldB_iff.mp (by decide +kernel)
theorem w_applies : (headSpec (Jvm.Cond.code x code maxLocals ret :: tables_1) room_1).applies x e0.platform about1 = true :=
  (Spec.applies_iff w_frames).mpr ⟨w_running, w_runnable, w_alone, w_named, w_hears, w_ripe, w_room, w_tables⟩
theorem atStart : AtStart classFile x code maxLocals ret World_1 tables_1 room_1 Calls_1 rest_1 Pre_1 launch0 p0 e0 about1 theMethod args0 below0 :=
  ⟨lists_1, trivial, launch0.admits_env _ _ _, launch0.least_env, fairChoices_fair.cas, fairChoices_fair.clock, w_frames, w_args, w_heap, w_applies, ⟨w_consts, trivial⟩, w_rest, w_case⟩
end start1
theorem witness_1 : WitnessClaimed_1 := ⟨start1.p0, start1.e0, start1.about1, start1.theMethod, start1.args0, start1.below0, start1.atStart⟩
end Jvm.Pilot.@@N@@

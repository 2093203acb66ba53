import JvmDerived
import JvmDerived.Pilot.@@N@@Statement
import JvmDerived.Pilot.@@N@@Code
set_option linter.unusedVariables false
set_option linter.unusedSimpArgs false
namespace Jvm.RoadKit
open Sem ClassFile Op Lib Jvm.Stand Jvm.Free Jvm.LawKit
section New
variable {p : Program} {l : Launch} {e : Env} {R : Room} {s : State} {m : MethodId} {args : Array Value} {below : List Frame} {meth : Method} {c : Code} {T : State} {locs : List Loc} {cells slots : Nat}
theorem retI (X : Stand p l e R s m args below meth c T locs cells slots) (hx : p.tables.exec = Jvm.exec) {pc : Nat} {Ls : Array Slot} {z : Int32} {rest : List Value} (hret : meth.sig.returnType = some .int) (hd : decode c.code pc = .ok (.ireturn, 1)) {fs : List Frame}
    (hl : ∀ (f : JFrame) (acts : List Action), f.method = m → f.locked = none → f.entered = [] → (doReturn e (T.setTop f) acts (some (.int z))).1 = T.setFrames fs) : Steps p.tables e below (T.setTop (mkF m pc Ls (.int z :: rest))) (T.setFrames fs) := by
  have hm' : T.vm.method? m = some meth := X.method'
  have hn : narrow .int (.int z) = .int z := rfl
  show Steps p.tables e below (T.setTop { method := m, pc := pc, locals := Ls, stack := _ :: rest, locked := none }) _
  jvm_step X.here [X.here.top, hx, hd, hm', hret, hn]
  first | (intro acts; rw [hl _ acts rfl rfl rfl]) | rw [hl _ _ rfl rfl rfl]
  exact Steps.refl _
end New
end Jvm.RoadKit
namespace Jvm.Pilot.@@N@@
open Jvm Jvm.ClassFile Sem Op Lib Jvm.Free Jvm.Stand Jvm.LawKit Jvm.RoadKit Bundle Jvm.Pilot.@@N@@.Jvm.D
theorem own_eqint {args : Array Value} {first s : State} {o : Option Outcome} {idx : List Nat} {t : Term} {n : Int32} (h : (Jvm.Cond.eq t (.int n)).value args first o s idx = some true) : t.eval args first o idx s = some (.int n) := by
  obtain ⟨x, y, hx, hy, -, k⟩ := cmp_v (Or.inl h)
  obtain rfl : y = .int n := (Option.some.inj ((Term.int_eval n).symm.trans hy)).symm
  obtain ⟨z, rfl⟩ := k
  simp only [Cond.value, hx, hy] at h
  rw [hx, show z = n by simpa using h]
theorem own_stakeep {Z : State} {h h' : Heap} {C n d : String} {v : Value} (K : Keep h h' []) (F : Sta Z h C n d v) : Sta Z h' C n d v := F.ext ⟨K.1, fun a c q => K.2.1 a c q nin0⟩
theorem own_selpriv {s : State} {args : Array Value} {y : MethodName} {n : Nat} (hi : (Jvm.Cond.instantiable y.cls n).before args s = true) (hp : s.PrivateAt y) (hinst : (Jvm.Cond.instanceMethod y).before args s = true) (hy : y.cls ≠ "java/lang/invoke/MethodHandle" ∧ y.cls ≠ "java/lang/invoke/VarHandle") : (Jvm.Cond.selects y.cls y y).before args s = true := by
  obtain ⟨c, k, h1, h2, h3, h4, -⟩ := Cond.instantiable_spec hi
  exact selects_self_of_private h1 h2 (Bool.or_eq_false_iff.mp h4).1 hp hinst hy
theorem own_lceq {a b : Int64} (h : a = b) : lcmpW a b = 0 := by subst h; simp [lcmpW, Int64.lt_irrefl]
theorem own_lcne {a b : Int64} (h : ¬ a = b) : ¬ lcmpW a b = 0 := by
  unfold lcmpW; split
  · decide
  · first | decide | (rw [if_neg h]; decide)
theorem own_lcgt {a b : Int64} (h : b < a) : (0 : Int32) < lcmpW a b := by unfold lcmpW; rw [if_pos h]; decide
theorem own_lcngt {a b : Int64} (h : ¬ b < a) : ¬ (0 : Int32) < lcmpW a b := by unfold lcmpW; rw [if_neg h]; split <;> decide
theorem own_lclt {a b : Int64} (h : a < b) : lcmpW a b < (0 : Int32) := by
  have h1 : ¬ b < a := fun q => by rw [Int64.lt_iff_toInt_lt] at h q; omega
  have h2 : ¬ a = b := fun q => by subst q; rw [Int64.lt_iff_toInt_lt] at h; omega
  unfold lcmpW; rw [if_neg h1, if_neg h2]; decide
theorem own_lcnlt {a b : Int64} (h : ¬ a < b) : ¬ lcmpW a b < (0 : Int32) := by
  unfold lcmpW; split
  · decide
  · split
    · decide
    · rename_i h1 h2; exact absurd (Int64.toInt_inj.mp (by simp only [gt_iff_lt, Int64.lt_iff_toInt_lt] at h h1; omega)) h2
theorem own_pick (w : Nat → Addr) (j : Nat) (h : j < 17) : ([Value.ref (w 0), Value.ref (w 1), Value.ref (w 2), Value.ref (w 3), Value.ref (w 4), Value.ref (w 5), Value.ref (w 6), Value.ref (w 7), Value.ref (w 8), Value.ref (w 9), Value.ref (w 10), Value.ref (w 11), Value.ref (w 12), Value.ref (w 13), Value.ref (w 14), Value.ref (w 15), Value.ref (w 16)]).getD j .null = .ref (w j) := by
  have q : j = 0 ∨ j = 1 ∨ j = 2 ∨ j = 3 ∨ j = 4 ∨ j = 5 ∨ j = 6 ∨ j = 7 ∨ j = 8 ∨ j = 9 ∨ j = 10 ∨ j = 11 ∨ j = 12 ∨ j = 13 ∨ j = 14 ∨ j = 15 ∨ j = 16 := by omega
  rcases q with rfl | rfl | rfl | rfl | rfl | rfl | rfl | rfl | rfl | rfl | rfl | rfl | rfl | rfl | rfl | rfl | rfl <;> rfl
theorem own_all17 {P : Nat → Prop} (h0 : P 0) (h1 : P 1) (h2 : P 2) (h3 : P 3) (h4 : P 4) (h5 : P 5) (h6 : P 6) (h7 : P 7) (h8 : P 8) (h9 : P 9) (h10 : P 10) (h11 : P 11) (h12 : P 12) (h13 : P 13) (h14 : P 14) (h15 : P 15) (h16 : P 16) : ∀ k, k < 17 → P k := fun k hk => by
  have q : k = 0 ∨ k = 1 ∨ k = 2 ∨ k = 3 ∨ k = 4 ∨ k = 5 ∨ k = 6 ∨ k = 7 ∨ k = 8 ∨ k = 9 ∨ k = 10 ∨ k = 11 ∨ k = 12 ∨ k = 13 ∨ k = 14 ∨ k = 15 ∨ k = 16 := by omega
  rcases q with rfl | rfl | rfl | rfl | rfl | rfl | rfl | rfl | rfl | rfl | rfl | rfl | rfl | rfl | rfl | rfl | rfl <;> assumption
theorem own_all11 {P : Nat → Prop} (h0 : P 0) (h1 : P 1) (h2 : P 2) (h3 : P 3) (h4 : P 4) (h5 : P 5) (h6 : P 6) (h7 : P 7) (h8 : P 8) (h9 : P 9) (h10 : P 10) : ∀ k, k < 11 → P k := fun k hk => by
  have q : k = 0 ∨ k = 1 ∨ k = 2 ∨ k = 3 ∨ k = 4 ∨ k = 5 ∨ k = 6 ∨ k = 7 ∨ k = 8 ∨ k = 9 ∨ k = 10 := by omega
  rcases q with rfl | rfl | rfl | rfl | rfl | rfl | rfl | rfl | rfl | rfl | rfl <;> assumption
theorem own_all6 {P : Nat → Prop} (h11 : P 11) (h12 : P 12) (h13 : P 13) (h14 : P 14) (h15 : P 15) (h16 : P 16) : ∀ k, ¬ k < 11 → k < 17 → P k := fun k hk hk' => by
  have q : k = 11 ∨ k = 12 ∨ k = 13 ∨ k = 14 ∨ k = 15 ∨ k = 16 := by omega
  rcases q with rfl | rfl | rfl | rfl | rfl | rfl <;> assumption
theorem own_i17 {p : Int32} (h : p < (17 : Int32)) : p.toNatClampNeg < 17 := by
  rw [Int32.lt_iff_toInt_lt, show (17 : Int32).toInt = 17 from rfl] at h; show p.toInt.toNat < 17; omega
theorem own_i11 {p : Int32} (h : p < (11 : Int32)) : p.toNatClampNeg < 11 := by
  rw [Int32.lt_iff_toInt_lt, show (11 : Int32).toInt = 11 from rfl] at h; show p.toInt.toNat < 11; omega
theorem own_n11 {p : Int32} (h : ¬ p < (11 : Int32)) : ¬ p.toNatClampNeg < 11 := by
  rw [Int32.lt_iff_toInt_lt, show (11 : Int32).toInt = 11 from rfl] at h; show ¬ p.toInt.toNat < 11; omega
theorem own_idx (x : Int32) : ¬ ((x &&& (2147483647 : Int32)) % (17 : Int32)) < 0 ∧ ((x &&& (2147483647 : Int32)) % (17 : Int32)) < (17 : Int32) := by
  have h0 : 0 ≤ (x &&& (2147483647 : Int32)).toInt := (c_andS x 2147483647).2.2 (by decide)
  have h1 : ((x &&& (2147483647 : Int32)) % (17 : Int32)).toInt = (x &&& (2147483647 : Int32)).toInt % 17 := (c_irem _ _ 17 rfl).1 h0
  rw [Int32.lt_iff_toInt_lt, Int32.lt_iff_toInt_lt, h1, show (0 : Int32).toInt = 0 from rfl, show (17 : Int32).toInt = 17 from rfl]
  omega
theorem own_eqref {args : Array Value} {first s : State} {o : Option Outcome} {idx : List Nat} {t u : Term} {x : Addr} (h : (Jvm.Cond.eq t u).value args first o s idx = some true) (hu : u.eval args first o idx s = some (.ref x)) : t.eval args first o idx s = some (.ref x) := by
  obtain ⟨a, b, ha, hb, k1, k2⟩ := cmp_v (Or.inl h)
  obtain rfl : b = .ref x := Option.some.inj (hb.symm.trans hu)
  have q := gotT (eq_R ha hb k2.2 rfl) h
  rw [ha, q]
theorem d1_0 : decode method_2_code 0 = .ok (.bipush 17, 2) := by decide +kernel
theorem d1_2 : decode method_2_code 2 = .ok (.anewarray 7, 3) := by decide +kernel
theorem d1_5 : decode method_2_code 5 = .ok (.dup, 1) := by decide +kernel
theorem d1_6 : decode method_2_code 6 = .ok (.iconst 0, 1) := by decide +kernel
theorem d1_7 : decode method_2_code 7 = .ok (.getstatic 9, 3) := by decide +kernel
theorem d1_10 : decode method_2_code 10 = .ok (.aastore, 1) := by decide +kernel
theorem d1_11 : decode method_2_code 11 = .ok (.dup, 1) := by decide +kernel
theorem d1_12 : decode method_2_code 12 = .ok (.iconst 1, 1) := by decide +kernel
theorem d1_13 : decode method_2_code 13 = .ok (.getstatic 13, 3) := by decide +kernel
theorem d1_16 : decode method_2_code 16 = .ok (.aastore, 1) := by decide +kernel
theorem d1_17 : decode method_2_code 17 = .ok (.dup, 1) := by decide +kernel
theorem d1_18 : decode method_2_code 18 = .ok (.iconst 2, 1) := by decide +kernel
theorem d1_19 : decode method_2_code 19 = .ok (.getstatic 16, 3) := by decide +kernel
theorem d1_22 : decode method_2_code 22 = .ok (.aastore, 1) := by decide +kernel
theorem d1_23 : decode method_2_code 23 = .ok (.dup, 1) := by decide +kernel
theorem d1_24 : decode method_2_code 24 = .ok (.iconst 3, 1) := by decide +kernel
theorem d1_25 : decode method_2_code 25 = .ok (.getstatic 19, 3) := by decide +kernel
theorem d1_28 : decode method_2_code 28 = .ok (.aastore, 1) := by decide +kernel
theorem d1_29 : decode method_2_code 29 = .ok (.dup, 1) := by decide +kernel
theorem d1_30 : decode method_2_code 30 = .ok (.iconst 4, 1) := by decide +kernel
theorem d1_31 : decode method_2_code 31 = .ok (.getstatic 22, 3) := by decide +kernel
theorem d1_34 : decode method_2_code 34 = .ok (.aastore, 1) := by decide +kernel
theorem d1_35 : decode method_2_code 35 = .ok (.dup, 1) := by decide +kernel
theorem d1_36 : decode method_2_code 36 = .ok (.iconst 5, 1) := by decide +kernel
theorem d1_37 : decode method_2_code 37 = .ok (.getstatic 25, 3) := by decide +kernel
theorem d1_40 : decode method_2_code 40 = .ok (.aastore, 1) := by decide +kernel
theorem d1_41 : decode method_2_code 41 = .ok (.dup, 1) := by decide +kernel
theorem d1_42 : decode method_2_code 42 = .ok (.bipush 6, 2) := by decide +kernel
theorem d1_44 : decode method_2_code 44 = .ok (.getstatic 28, 3) := by decide +kernel
theorem d1_47 : decode method_2_code 47 = .ok (.aastore, 1) := by decide +kernel
theorem d1_48 : decode method_2_code 48 = .ok (.dup, 1) := by decide +kernel
theorem d1_49 : decode method_2_code 49 = .ok (.bipush 7, 2) := by decide +kernel
theorem d1_51 : decode method_2_code 51 = .ok (.getstatic 31, 3) := by decide +kernel
theorem d1_54 : decode method_2_code 54 = .ok (.aastore, 1) := by decide +kernel
theorem d1_55 : decode method_2_code 55 = .ok (.dup, 1) := by decide +kernel
theorem d1_56 : decode method_2_code 56 = .ok (.bipush 8, 2) := by decide +kernel
theorem d1_58 : decode method_2_code 58 = .ok (.getstatic 34, 3) := by decide +kernel
theorem d1_61 : decode method_2_code 61 = .ok (.aastore, 1) := by decide +kernel
theorem d1_62 : decode method_2_code 62 = .ok (.dup, 1) := by decide +kernel
theorem d1_63 : decode method_2_code 63 = .ok (.bipush 9, 2) := by decide +kernel
theorem d1_65 : decode method_2_code 65 = .ok (.getstatic 37, 3) := by decide +kernel
theorem d1_68 : decode method_2_code 68 = .ok (.aastore, 1) := by decide +kernel
theorem d1_69 : decode method_2_code 69 = .ok (.dup, 1) := by decide +kernel
theorem d1_70 : decode method_2_code 70 = .ok (.bipush 10, 2) := by decide +kernel
theorem d1_72 : decode method_2_code 72 = .ok (.getstatic 40, 3) := by decide +kernel
theorem d1_75 : decode method_2_code 75 = .ok (.aastore, 1) := by decide +kernel
theorem d1_76 : decode method_2_code 76 = .ok (.dup, 1) := by decide +kernel
theorem d1_77 : decode method_2_code 77 = .ok (.bipush 11, 2) := by decide +kernel
theorem d1_79 : decode method_2_code 79 = .ok (.getstatic 43, 3) := by decide +kernel
theorem d1_82 : decode method_2_code 82 = .ok (.aastore, 1) := by decide +kernel
theorem d1_83 : decode method_2_code 83 = .ok (.dup, 1) := by decide +kernel
theorem d1_84 : decode method_2_code 84 = .ok (.bipush 12, 2) := by decide +kernel
theorem d1_86 : decode method_2_code 86 = .ok (.getstatic 46, 3) := by decide +kernel
theorem d1_89 : decode method_2_code 89 = .ok (.aastore, 1) := by decide +kernel
theorem d1_90 : decode method_2_code 90 = .ok (.dup, 1) := by decide +kernel
theorem d1_91 : decode method_2_code 91 = .ok (.bipush 13, 2) := by decide +kernel
theorem d1_93 : decode method_2_code 93 = .ok (.getstatic 49, 3) := by decide +kernel
theorem d1_96 : decode method_2_code 96 = .ok (.aastore, 1) := by decide +kernel
theorem d1_97 : decode method_2_code 97 = .ok (.dup, 1) := by decide +kernel
theorem d1_98 : decode method_2_code 98 = .ok (.bipush 14, 2) := by decide +kernel
theorem d1_100 : decode method_2_code 100 = .ok (.getstatic 52, 3) := by decide +kernel
theorem d1_103 : decode method_2_code 103 = .ok (.aastore, 1) := by decide +kernel
theorem d1_104 : decode method_2_code 104 = .ok (.dup, 1) := by decide +kernel
theorem d1_105 : decode method_2_code 105 = .ok (.bipush 15, 2) := by decide +kernel
theorem d1_107 : decode method_2_code 107 = .ok (.getstatic 55, 3) := by decide +kernel
theorem d1_110 : decode method_2_code 110 = .ok (.aastore, 1) := by decide +kernel
theorem d1_111 : decode method_2_code 111 = .ok (.dup, 1) := by decide +kernel
theorem d1_112 : decode method_2_code 112 = .ok (.bipush 16, 2) := by decide +kernel
theorem d1_114 : decode method_2_code 114 = .ok (.getstatic 58, 3) := by decide +kernel
theorem d1_117 : decode method_2_code 117 = .ok (.aastore, 1) := by decide +kernel
theorem d1_118 : decode method_2_code 118 = .ok (.astore_n 1, 1) := by decide +kernel
theorem d1_119 : decode method_2_code 119 = .ok (.aload_n 1, 1) := by decide +kernel
theorem d1_120 : decode method_2_code 120 = .ok (.iload_n 0, 1) := by decide +kernel
theorem d1_121 : decode method_2_code 121 = .ok (.aaload, 1) := by decide +kernel
theorem d1_122 : decode method_2_code 122 = .ok (.areturn, 1) := by decide +kernel
theorem pn_1 : plainName "com/example/keysteward/keysteward/cli/OptionTakesValuePinLaw" = true := by first | (simp [plainName, overriddenIn]; done) | decide +kernel
theorem ef_rm1 (m : MethodId) (p1 : Int32) : entryFrame m #[(.int p1)] 2 = mkF m 0 #[.val (.int p1), .unset] [] := by first | (simp [entryFrame, mkF, argsToLocals, Value.category]; done) | rfl
def Qrm1 (Z : State) (p1 : Int32) (w : Nat → Addr) (h0 : Heap) (n0 : Nat) (v : Option Value) (h : Heap) (L : List Loc) : Prop := ∃ z : Addr, z = w p1.toNatClampNeg ∧ v = some (.ref z) ∧ Fr n0 L ∧ Keep h0 h [] ∧ True
set_option maxRecDepth 65536 in
set_option maxHeartbeats 40000000 in
theorem rm1 (l : Launch) (Z : State) (a0 : Array Value) (hw : ∀ d ∈ tables_1, d.before a0 Z = true) (ws : List Jvm.Cond) (p1 : Int32) (w : Nat → Addr) (h0 : Heap) (n0 : Nat) (Z0 : n0 ≤ h0.size) (S0 : Sta Z h0 "com/example/keysteward/keysteward/cli/Option" "STORE" "Lcom/example/keysteward/keysteward/cli/Option;" (.ref (w 0))) (S1 : Sta Z h0 "com/example/keysteward/keysteward/cli/Option" "PASSPHRASE_FILE" "Lcom/example/keysteward/keysteward/cli/Option;" (.ref (w 1))) (S2 : Sta Z h0 "com/example/keysteward/keysteward/cli/Option" "ACCOUNT" "Lcom/example/keysteward/keysteward/cli/Option;" (.ref (w 2))) (S3 : Sta Z h0 "com/example/keysteward/keysteward/cli/Option" "DAYS" "Lcom/example/keysteward/keysteward/cli/Option;" (.ref (w 3))) (S4 : Sta Z h0 "com/example/keysteward/keysteward/cli/Option" "CERT_OUT" "Lcom/example/keysteward/keysteward/cli/Option;" (.ref (w 4))) (S5 : Sta Z h0 "com/example/keysteward/keysteward/cli/Option" "SCOPE" "Lcom/example/keysteward/keysteward/cli/Option;" (.ref (w 5))) (S6 : Sta Z h0 "com/example/keysteward/keysteward/cli/Option" "AUDIENCE" "Lcom/example/keysteward/keysteward/cli/Option;" (.ref (w 6))) (S7 : Sta Z h0 "com/example/keysteward/keysteward/cli/Option" "LIFETIME" "Lcom/example/keysteward/keysteward/cli/Option;" (.ref (w 7))) (S8 : Sta Z h0 "com/example/keysteward/keysteward/cli/Option" "KEY" "Lcom/example/keysteward/keysteward/cli/Option;" (.ref (w 8))) (S9 : Sta Z h0 "com/example/keysteward/keysteward/cli/Option" "PORT" "Lcom/example/keysteward/keysteward/cli/Option;" (.ref (w 9))) (S10 : Sta Z h0 "com/example/keysteward/keysteward/cli/Option" "PROJECT" "Lcom/example/keysteward/keysteward/cli/Option;" (.ref (w 10))) (S11 : Sta Z h0 "com/example/keysteward/keysteward/cli/Option" "REMOVE_ORIGINAL" "Lcom/example/keysteward/keysteward/cli/Option;" (.ref (w 11))) (S12 : Sta Z h0 "com/example/keysteward/keysteward/cli/Option" "VERIFY" "Lcom/example/keysteward/keysteward/cli/Option;" (.ref (w 12))) (S13 : Sta Z h0 "com/example/keysteward/keysteward/cli/Option" "HISTORY" "Lcom/example/keysteward/keysteward/cli/Option;" (.ref (w 13))) (S14 : Sta Z h0 "com/example/keysteward/keysteward/cli/Option" "PLACES" "Lcom/example/keysteward/keysteward/cli/Option;" (.ref (w 14))) (S15 : Sta Z h0 "com/example/keysteward/keysteward/cli/Option" "JSON" "Lcom/example/keysteward/keysteward/cli/Option;" (.ref (w 15))) (S16 : Sta Z h0 "com/example/keysteward/keysteward/cli/Option" "HELP" "Lcom/example/keysteward/keysteward/cli/Option;" (.ref (w 16))) (EX : ∀ k, k < 17 → Exa Z h0 (w k) "com/example/keysteward/keysteward/cli/Option") (hlo : ¬ p1 < 0) (hhi : p1 < (17 : Int32)) :
    MetFree l (⟨"com/example/keysteward/keysteward/cli/OptionTakesValuePinLaw", "pick", "(I)Lcom/example/keysteward/keysteward/cli/Option;"⟩ : MethodName) (head1 (Jvm.Cond.code (⟨"com/example/keysteward/keysteward/cli/OptionTakesValuePinLaw", "pick", "(I)Lcom/example/keysteward/keysteward/cli/Option;"⟩ : MethodName) method_2_code 2 (some (.object "com/example/keysteward/keysteward/cli/Option")) :: ws) ({ frames := 0, cells := 1, slots := 17, locals := 0 } : Room)) (fun a U => a = #[(.int p1)] ∧ Z.Warmed39 U.vm ∧ U.heap = h0) (fun _ _ _ _ _ => True) (fun _ U o U' => ∃ v L, o = .returned v ∧ Qrm1 Z p1 w h0 n0 v U'.heap L ∧ FrameEnd U o U' L ({ frames := 0, cells := 1, slots := 17, locals := 0 } : Room).cells ({ frames := 0, cells := 1, slots := 17, locals := 0 } : Room).slots) := by
  refine MetFree.of_bodySF (plainFor_of_name pn_1) hisR ?_
  intro p e s m args below meth c s₁ Bd hml0 hP hK
  obtain ⟨rfl, hZ, hh⟩ := hP
  have hx := Bd.exec
  have hby := Bd.bytes
  have hml : c.maxLocals = 2 := hml0
  have hown : s.vm.findClass "com/example/keysteward/keysteward/cli/OptionTakesValuePinLaw" = some m.cls := findClass_of_methodNamed Bd.named
  have hnm := (name_of_methodNamed Bd.named Bd.method).1
  have X0 : Stand p l e ({ frames := 0, cells := 1, slots := 17, locals := 0 } : Room) s m #[(.int p1)] below meth c s₁ [] 0 0 := Stand.of_body Bd
  have e0 : s₁.heap = h0 := by rw [← hh, Bd.state]; rfl
  have N0 := Fr.nil n0
  have pre0 : ∀ t, Steps p.tables e below (s₁.setTop (mkF m 0 #[.val (.int p1), .unset] [])) t → Steps p.tables e below (s₁.setTop (entryFrame m #[(.int p1)] 2)) t := fun t k => castTop (ef_rm1 m p1) k
  obtain ⟨T1, h1, k1, X1, e1, E1, A1, O1, st1⟩ := newR X0 hx hZ hown (hw _ (List.mem_of_getElem? (i := 5) rfl)) (hw _ (List.mem_of_getElem? (i := 6) rfl)) e0 (g := (mkF m 2 #[.val (.int p1), .unset] [(.int (17 : Int32))])) rfl (hb hby d1_2) rfl (by decide) (cap := 17) (by decide) (by decide) (by decide) (by decide)
  obtain ⟨b1o, g1⟩ : ∃ z, z = h0.size := ⟨_, rfl⟩
  have b1 : n0 ≤ b1o := Nat.le_trans Z0 (Nat.le_of_eq g1.symm)
  have bk1 : h0.size ≤ b1o := Nat.le_trans (Keep.refl h0 []).1 (Nat.le_of_eq g1.symm)
  have ne2 : (w 0) ≠ b1o := Nat.ne_of_lt (Nat.lt_of_lt_of_le (EX 0 (by decide)).lt (Nat.le_of_eq g1.symm))
  have ne3 : (w 1) ≠ b1o := Nat.ne_of_lt (Nat.lt_of_lt_of_le (EX 1 (by decide)).lt (Nat.le_of_eq g1.symm))
  have ne4 : (w 2) ≠ b1o := Nat.ne_of_lt (Nat.lt_of_lt_of_le (EX 2 (by decide)).lt (Nat.le_of_eq g1.symm))
  have ne5 : (w 3) ≠ b1o := Nat.ne_of_lt (Nat.lt_of_lt_of_le (EX 3 (by decide)).lt (Nat.le_of_eq g1.symm))
  have ne6 : (w 4) ≠ b1o := Nat.ne_of_lt (Nat.lt_of_lt_of_le (EX 4 (by decide)).lt (Nat.le_of_eq g1.symm))
  have ne7 : (w 5) ≠ b1o := Nat.ne_of_lt (Nat.lt_of_lt_of_le (EX 5 (by decide)).lt (Nat.le_of_eq g1.symm))
  have ne8 : (w 6) ≠ b1o := Nat.ne_of_lt (Nat.lt_of_lt_of_le (EX 6 (by decide)).lt (Nat.le_of_eq g1.symm))
  have ne9 : (w 7) ≠ b1o := Nat.ne_of_lt (Nat.lt_of_lt_of_le (EX 7 (by decide)).lt (Nat.le_of_eq g1.symm))
  have ne10 : (w 8) ≠ b1o := Nat.ne_of_lt (Nat.lt_of_lt_of_le (EX 8 (by decide)).lt (Nat.le_of_eq g1.symm))
  have ne11 : (w 9) ≠ b1o := Nat.ne_of_lt (Nat.lt_of_lt_of_le (EX 9 (by decide)).lt (Nat.le_of_eq g1.symm))
  have ne12 : (w 10) ≠ b1o := Nat.ne_of_lt (Nat.lt_of_lt_of_le (EX 10 (by decide)).lt (Nat.le_of_eq g1.symm))
  have ne13 : (w 11) ≠ b1o := Nat.ne_of_lt (Nat.lt_of_lt_of_le (EX 11 (by decide)).lt (Nat.le_of_eq g1.symm))
  have ne14 : (w 12) ≠ b1o := Nat.ne_of_lt (Nat.lt_of_lt_of_le (EX 12 (by decide)).lt (Nat.le_of_eq g1.symm))
  have ne15 : (w 13) ≠ b1o := Nat.ne_of_lt (Nat.lt_of_lt_of_le (EX 13 (by decide)).lt (Nat.le_of_eq g1.symm))
  have ne16 : (w 14) ≠ b1o := Nat.ne_of_lt (Nat.lt_of_lt_of_le (EX 14 (by decide)).lt (Nat.le_of_eq g1.symm))
  have ne17 : (w 15) ≠ b1o := Nat.ne_of_lt (Nat.lt_of_lt_of_le (EX 15 (by decide)).lt (Nat.le_of_eq g1.symm))
  have ne18 : (w 16) ≠ b1o := Nat.ne_of_lt (Nat.lt_of_lt_of_le (EX 16 (by decide)).lt (Nat.le_of_eq g1.symm))
  rw [← g1] at A1 st1
  have Z1 : n0 ≤ h1.size := Nat.le_trans Z0 E1.1
  have K1 : Keep h0 h1 [] := (Keep.refl h0 []).ext E1
  have V1 : Arv Z h1 b1o k1 (.object "com/example/keysteward/keysteward/cli/Option") (17 : Int32) [.null, .null, .null, .null, .null, .null, .null, .null, .null, .null, .null, .null, .null, .null, .null, .null, .null] .null := (Arv.new A1 (by decide)).pad (pad_rep [] .null 17)
  have f19 := (S0.ext E1)
  obtain ⟨T20, X20, e20, st20⟩ := getS2 X1 hx hZ hown (host := "") (Or.inl (hw _ (List.mem_of_getElem? (i := 7) rfl))) Via.refl e1 f19 (g := (mkF m 7 #[.val (.int p1), .unset] [(.int (0 : Int32)), (.ref b1o), (.ref b1o)])) rfl (hb hby d1_7)
  obtain ⟨cl21, Ar21, qk21, Sz21, Nn21, Hh21, Gg21⟩ := V1
  have hin22 : ¬ ((0 : Int32) < 0 ∨ cl21.slots.size ≤ ((0 : Int32)).toNatClampNeg) := inb_of Sz21 ⟨by decide, by decide⟩
  have f23 := ((EX 0 (by decide)).ext E1)
  obtain ⟨T22, h22, X22, e22, W22, st22⟩ := stR X20 hx hZ e20 Ar21 (j := (0 : Int32)) hin22 rfl (Sto.ofV Ar21 qk21 O1 (Ins.self f23)) (g := (mkF m 10 #[.val (.int p1), .unset] [(.ref (w 0)), (.int (0 : Int32)), (.ref b1o), (.ref b1o)])) rfl rfl (hb hby d1_10)
  have N22 := Fr.snoc X22 N0 b1
  have Z22 : n0 ≤ h22.size := by rw [W22.size]; exact Z1
  have K22 : Keep h0 h22 [] := K1.wr W22 (Or.inr bk1)
  have V22 : Arv Z h22 b1o k1 (.object "com/example/keysteward/keysteward/cli/Option") (17 : Int32) [(.ref (w 0)), .null, .null, .null, .null, .null, .null, .null, .null, .null, .null, .null, .null, .null, .null, .null, .null] .null := Arv.set Ar21 qk21 Sz21 Nn21 Hh21 Gg21 rfl W22 0 rfl (Nat.le_of_ble_eq_true rfl)
  have f24 := ((S1.ext E1).wr W22)
  obtain ⟨T25, X25, e25, st25⟩ := getS2 X22 hx hZ hown (host := "") (Or.inl (hw _ (List.mem_of_getElem? (i := 11) rfl))) Via.refl e22 f24 (g := (mkF m 13 #[.val (.int p1), .unset] [(.int (1 : Int32)), (.ref b1o), (.ref b1o)])) rfl (hb hby d1_13)
  obtain ⟨cl26, Ar26, qk26, Sz26, Nn26, Hh26, Gg26⟩ := V22
  have hin27 : ¬ ((1 : Int32) < 0 ∨ cl26.slots.size ≤ ((1 : Int32)).toNatClampNeg) := inb_of Sz26 ⟨by decide, by decide⟩
  have f28 := (((EX 1 (by decide)).ext E1).wr W22)
  obtain ⟨T27, h27, X27, e27, W27, st27⟩ := stR X25 hx hZ e25 Ar26 (j := (1 : Int32)) hin27 rfl (Sto.ofV Ar26 qk26 O1 (Ins.self f28)) (g := (mkF m 16 #[.val (.int p1), .unset] [(.ref (w 1)), (.int (1 : Int32)), (.ref b1o), (.ref b1o)])) rfl rfl (hb hby d1_16)
  have N27 := Fr.snoc X27 N22 b1
  have Z27 : n0 ≤ h27.size := by rw [W27.size]; exact Z22
  have K27 : Keep h0 h27 [] := K22.wr W27 (Or.inr bk1)
  have V27 : Arv Z h27 b1o k1 (.object "com/example/keysteward/keysteward/cli/Option") (17 : Int32) [(.ref (w 0)), (.ref (w 1)), .null, .null, .null, .null, .null, .null, .null, .null, .null, .null, .null, .null, .null, .null, .null] .null := Arv.set Ar26 qk26 Sz26 Nn26 Hh26 Gg26 rfl W27 1 rfl (Nat.le_of_ble_eq_true rfl)
  have f29 := (((S2.ext E1).wr W22).wr W27)
  obtain ⟨T30, X30, e30, st30⟩ := getS2 X27 hx hZ hown (host := "") (Or.inl (hw _ (List.mem_of_getElem? (i := 13) rfl))) Via.refl e27 f29 (g := (mkF m 19 #[.val (.int p1), .unset] [(.int (2 : Int32)), (.ref b1o), (.ref b1o)])) rfl (hb hby d1_19)
  obtain ⟨cl31, Ar31, qk31, Sz31, Nn31, Hh31, Gg31⟩ := V27
  have hin32 : ¬ ((2 : Int32) < 0 ∨ cl31.slots.size ≤ ((2 : Int32)).toNatClampNeg) := inb_of Sz31 ⟨by decide, by decide⟩
  have f33 := ((((EX 2 (by decide)).ext E1).wr W22).wr W27)
  obtain ⟨T32, h32, X32, e32, W32, st32⟩ := stR X30 hx hZ e30 Ar31 (j := (2 : Int32)) hin32 rfl (Sto.ofV Ar31 qk31 O1 (Ins.self f33)) (g := (mkF m 22 #[.val (.int p1), .unset] [(.ref (w 2)), (.int (2 : Int32)), (.ref b1o), (.ref b1o)])) rfl rfl (hb hby d1_22)
  have N32 := Fr.snoc X32 N27 b1
  have Z32 : n0 ≤ h32.size := by rw [W32.size]; exact Z27
  have K32 : Keep h0 h32 [] := K27.wr W32 (Or.inr bk1)
  have V32 : Arv Z h32 b1o k1 (.object "com/example/keysteward/keysteward/cli/Option") (17 : Int32) [(.ref (w 0)), (.ref (w 1)), (.ref (w 2)), .null, .null, .null, .null, .null, .null, .null, .null, .null, .null, .null, .null, .null, .null] .null := Arv.set Ar31 qk31 Sz31 Nn31 Hh31 Gg31 rfl W32 2 rfl (Nat.le_of_ble_eq_true rfl)
  have f34 := ((((S3.ext E1).wr W22).wr W27).wr W32)
  obtain ⟨T35, X35, e35, st35⟩ := getS2 X32 hx hZ hown (host := "") (Or.inl (hw _ (List.mem_of_getElem? (i := 15) rfl))) Via.refl e32 f34 (g := (mkF m 25 #[.val (.int p1), .unset] [(.int (3 : Int32)), (.ref b1o), (.ref b1o)])) rfl (hb hby d1_25)
  obtain ⟨cl36, Ar36, qk36, Sz36, Nn36, Hh36, Gg36⟩ := V32
  have hin37 : ¬ ((3 : Int32) < 0 ∨ cl36.slots.size ≤ ((3 : Int32)).toNatClampNeg) := inb_of Sz36 ⟨by decide, by decide⟩
  have f38 := (((((EX 3 (by decide)).ext E1).wr W22).wr W27).wr W32)
  obtain ⟨T37, h37, X37, e37, W37, st37⟩ := stR X35 hx hZ e35 Ar36 (j := (3 : Int32)) hin37 rfl (Sto.ofV Ar36 qk36 O1 (Ins.self f38)) (g := (mkF m 28 #[.val (.int p1), .unset] [(.ref (w 3)), (.int (3 : Int32)), (.ref b1o), (.ref b1o)])) rfl rfl (hb hby d1_28)
  have N37 := Fr.snoc X37 N32 b1
  have Z37 : n0 ≤ h37.size := by rw [W37.size]; exact Z32
  have K37 : Keep h0 h37 [] := K32.wr W37 (Or.inr bk1)
  have V37 : Arv Z h37 b1o k1 (.object "com/example/keysteward/keysteward/cli/Option") (17 : Int32) [(.ref (w 0)), (.ref (w 1)), (.ref (w 2)), (.ref (w 3)), .null, .null, .null, .null, .null, .null, .null, .null, .null, .null, .null, .null, .null] .null := Arv.set Ar36 qk36 Sz36 Nn36 Hh36 Gg36 rfl W37 3 rfl (Nat.le_of_ble_eq_true rfl)
  have f39 := (((((S4.ext E1).wr W22).wr W27).wr W32).wr W37)
  obtain ⟨T40, X40, e40, st40⟩ := getS2 X37 hx hZ hown (host := "") (Or.inl (hw _ (List.mem_of_getElem? (i := 17) rfl))) Via.refl e37 f39 (g := (mkF m 31 #[.val (.int p1), .unset] [(.int (4 : Int32)), (.ref b1o), (.ref b1o)])) rfl (hb hby d1_31)
  obtain ⟨cl41, Ar41, qk41, Sz41, Nn41, Hh41, Gg41⟩ := V37
  have hin42 : ¬ ((4 : Int32) < 0 ∨ cl41.slots.size ≤ ((4 : Int32)).toNatClampNeg) := inb_of Sz41 ⟨by decide, by decide⟩
  have f43 := ((((((EX 4 (by decide)).ext E1).wr W22).wr W27).wr W32).wr W37)
  obtain ⟨T42, h42, X42, e42, W42, st42⟩ := stR X40 hx hZ e40 Ar41 (j := (4 : Int32)) hin42 rfl (Sto.ofV Ar41 qk41 O1 (Ins.self f43)) (g := (mkF m 34 #[.val (.int p1), .unset] [(.ref (w 4)), (.int (4 : Int32)), (.ref b1o), (.ref b1o)])) rfl rfl (hb hby d1_34)
  have N42 := Fr.snoc X42 N37 b1
  have Z42 : n0 ≤ h42.size := by rw [W42.size]; exact Z37
  have K42 : Keep h0 h42 [] := K37.wr W42 (Or.inr bk1)
  have V42 : Arv Z h42 b1o k1 (.object "com/example/keysteward/keysteward/cli/Option") (17 : Int32) [(.ref (w 0)), (.ref (w 1)), (.ref (w 2)), (.ref (w 3)), (.ref (w 4)), .null, .null, .null, .null, .null, .null, .null, .null, .null, .null, .null, .null] .null := Arv.set Ar41 qk41 Sz41 Nn41 Hh41 Gg41 rfl W42 4 rfl (Nat.le_of_ble_eq_true rfl)
  have f44 := ((((((S5.ext E1).wr W22).wr W27).wr W32).wr W37).wr W42)
  obtain ⟨T45, X45, e45, st45⟩ := getS2 X42 hx hZ hown (host := "") (Or.inl (hw _ (List.mem_of_getElem? (i := 19) rfl))) Via.refl e42 f44 (g := (mkF m 37 #[.val (.int p1), .unset] [(.int (5 : Int32)), (.ref b1o), (.ref b1o)])) rfl (hb hby d1_37)
  obtain ⟨cl46, Ar46, qk46, Sz46, Nn46, Hh46, Gg46⟩ := V42
  have hin47 : ¬ ((5 : Int32) < 0 ∨ cl46.slots.size ≤ ((5 : Int32)).toNatClampNeg) := inb_of Sz46 ⟨by decide, by decide⟩
  have f48 := (((((((EX 5 (by decide)).ext E1).wr W22).wr W27).wr W32).wr W37).wr W42)
  obtain ⟨T47, h47, X47, e47, W47, st47⟩ := stR X45 hx hZ e45 Ar46 (j := (5 : Int32)) hin47 rfl (Sto.ofV Ar46 qk46 O1 (Ins.self f48)) (g := (mkF m 40 #[.val (.int p1), .unset] [(.ref (w 5)), (.int (5 : Int32)), (.ref b1o), (.ref b1o)])) rfl rfl (hb hby d1_40)
  have N47 := Fr.snoc X47 N42 b1
  have Z47 : n0 ≤ h47.size := by rw [W47.size]; exact Z42
  have K47 : Keep h0 h47 [] := K42.wr W47 (Or.inr bk1)
  have V47 : Arv Z h47 b1o k1 (.object "com/example/keysteward/keysteward/cli/Option") (17 : Int32) [(.ref (w 0)), (.ref (w 1)), (.ref (w 2)), (.ref (w 3)), (.ref (w 4)), (.ref (w 5)), .null, .null, .null, .null, .null, .null, .null, .null, .null, .null, .null] .null := Arv.set Ar46 qk46 Sz46 Nn46 Hh46 Gg46 rfl W47 5 rfl (Nat.le_of_ble_eq_true rfl)
  have f49 := (((((((S6.ext E1).wr W22).wr W27).wr W32).wr W37).wr W42).wr W47)
  obtain ⟨T50, X50, e50, st50⟩ := getS2 X47 hx hZ hown (host := "") (Or.inl (hw _ (List.mem_of_getElem? (i := 21) rfl))) Via.refl e47 f49 (g := (mkF m 44 #[.val (.int p1), .unset] [(.int (6 : Int32)), (.ref b1o), (.ref b1o)])) rfl (hb hby d1_44)
  obtain ⟨cl51, Ar51, qk51, Sz51, Nn51, Hh51, Gg51⟩ := V47
  have hin52 : ¬ ((6 : Int32) < 0 ∨ cl51.slots.size ≤ ((6 : Int32)).toNatClampNeg) := inb_of Sz51 ⟨by decide, by decide⟩
  have f53 := ((((((((EX 6 (by decide)).ext E1).wr W22).wr W27).wr W32).wr W37).wr W42).wr W47)
  obtain ⟨T52, h52, X52, e52, W52, st52⟩ := stR X50 hx hZ e50 Ar51 (j := (6 : Int32)) hin52 rfl (Sto.ofV Ar51 qk51 O1 (Ins.self f53)) (g := (mkF m 47 #[.val (.int p1), .unset] [(.ref (w 6)), (.int (6 : Int32)), (.ref b1o), (.ref b1o)])) rfl rfl (hb hby d1_47)
  have N52 := Fr.snoc X52 N47 b1
  have Z52 : n0 ≤ h52.size := by rw [W52.size]; exact Z47
  have K52 : Keep h0 h52 [] := K47.wr W52 (Or.inr bk1)
  have V52 : Arv Z h52 b1o k1 (.object "com/example/keysteward/keysteward/cli/Option") (17 : Int32) [(.ref (w 0)), (.ref (w 1)), (.ref (w 2)), (.ref (w 3)), (.ref (w 4)), (.ref (w 5)), (.ref (w 6)), .null, .null, .null, .null, .null, .null, .null, .null, .null, .null] .null := Arv.set Ar51 qk51 Sz51 Nn51 Hh51 Gg51 rfl W52 6 rfl (Nat.le_of_ble_eq_true rfl)
  have f54 := ((((((((S7.ext E1).wr W22).wr W27).wr W32).wr W37).wr W42).wr W47).wr W52)
  obtain ⟨T55, X55, e55, st55⟩ := getS2 X52 hx hZ hown (host := "") (Or.inl (hw _ (List.mem_of_getElem? (i := 23) rfl))) Via.refl e52 f54 (g := (mkF m 51 #[.val (.int p1), .unset] [(.int (7 : Int32)), (.ref b1o), (.ref b1o)])) rfl (hb hby d1_51)
  obtain ⟨cl56, Ar56, qk56, Sz56, Nn56, Hh56, Gg56⟩ := V52
  have hin57 : ¬ ((7 : Int32) < 0 ∨ cl56.slots.size ≤ ((7 : Int32)).toNatClampNeg) := inb_of Sz56 ⟨by decide, by decide⟩
  have f58 := (((((((((EX 7 (by decide)).ext E1).wr W22).wr W27).wr W32).wr W37).wr W42).wr W47).wr W52)
  obtain ⟨T57, h57, X57, e57, W57, st57⟩ := stR X55 hx hZ e55 Ar56 (j := (7 : Int32)) hin57 rfl (Sto.ofV Ar56 qk56 O1 (Ins.self f58)) (g := (mkF m 54 #[.val (.int p1), .unset] [(.ref (w 7)), (.int (7 : Int32)), (.ref b1o), (.ref b1o)])) rfl rfl (hb hby d1_54)
  have N57 := Fr.snoc X57 N52 b1
  have Z57 : n0 ≤ h57.size := by rw [W57.size]; exact Z52
  have K57 : Keep h0 h57 [] := K52.wr W57 (Or.inr bk1)
  have V57 : Arv Z h57 b1o k1 (.object "com/example/keysteward/keysteward/cli/Option") (17 : Int32) [(.ref (w 0)), (.ref (w 1)), (.ref (w 2)), (.ref (w 3)), (.ref (w 4)), (.ref (w 5)), (.ref (w 6)), (.ref (w 7)), .null, .null, .null, .null, .null, .null, .null, .null, .null] .null := Arv.set Ar56 qk56 Sz56 Nn56 Hh56 Gg56 rfl W57 7 rfl (Nat.le_of_ble_eq_true rfl)
  have f59 := (((((((((S8.ext E1).wr W22).wr W27).wr W32).wr W37).wr W42).wr W47).wr W52).wr W57)
  obtain ⟨T60, X60, e60, st60⟩ := getS2 X57 hx hZ hown (host := "") (Or.inl (hw _ (List.mem_of_getElem? (i := 25) rfl))) Via.refl e57 f59 (g := (mkF m 58 #[.val (.int p1), .unset] [(.int (8 : Int32)), (.ref b1o), (.ref b1o)])) rfl (hb hby d1_58)
  obtain ⟨cl61, Ar61, qk61, Sz61, Nn61, Hh61, Gg61⟩ := V57
  have hin62 : ¬ ((8 : Int32) < 0 ∨ cl61.slots.size ≤ ((8 : Int32)).toNatClampNeg) := inb_of Sz61 ⟨by decide, by decide⟩
  have f63 := ((((((((((EX 8 (by decide)).ext E1).wr W22).wr W27).wr W32).wr W37).wr W42).wr W47).wr W52).wr W57)
  obtain ⟨T62, h62, X62, e62, W62, st62⟩ := stR X60 hx hZ e60 Ar61 (j := (8 : Int32)) hin62 rfl (Sto.ofV Ar61 qk61 O1 (Ins.self f63)) (g := (mkF m 61 #[.val (.int p1), .unset] [(.ref (w 8)), (.int (8 : Int32)), (.ref b1o), (.ref b1o)])) rfl rfl (hb hby d1_61)
  have N62 := Fr.snoc X62 N57 b1
  have Z62 : n0 ≤ h62.size := by rw [W62.size]; exact Z57
  have K62 : Keep h0 h62 [] := K57.wr W62 (Or.inr bk1)
  have V62 : Arv Z h62 b1o k1 (.object "com/example/keysteward/keysteward/cli/Option") (17 : Int32) [(.ref (w 0)), (.ref (w 1)), (.ref (w 2)), (.ref (w 3)), (.ref (w 4)), (.ref (w 5)), (.ref (w 6)), (.ref (w 7)), (.ref (w 8)), .null, .null, .null, .null, .null, .null, .null, .null] .null := Arv.set Ar61 qk61 Sz61 Nn61 Hh61 Gg61 rfl W62 8 rfl (Nat.le_of_ble_eq_true rfl)
  have f64 := ((((((((((S9.ext E1).wr W22).wr W27).wr W32).wr W37).wr W42).wr W47).wr W52).wr W57).wr W62)
  obtain ⟨T65, X65, e65, st65⟩ := getS2 X62 hx hZ hown (host := "") (Or.inl (hw _ (List.mem_of_getElem? (i := 27) rfl))) Via.refl e62 f64 (g := (mkF m 65 #[.val (.int p1), .unset] [(.int (9 : Int32)), (.ref b1o), (.ref b1o)])) rfl (hb hby d1_65)
  obtain ⟨cl66, Ar66, qk66, Sz66, Nn66, Hh66, Gg66⟩ := V62
  have hin67 : ¬ ((9 : Int32) < 0 ∨ cl66.slots.size ≤ ((9 : Int32)).toNatClampNeg) := inb_of Sz66 ⟨by decide, by decide⟩
  have f68 := (((((((((((EX 9 (by decide)).ext E1).wr W22).wr W27).wr W32).wr W37).wr W42).wr W47).wr W52).wr W57).wr W62)
  obtain ⟨T67, h67, X67, e67, W67, st67⟩ := stR X65 hx hZ e65 Ar66 (j := (9 : Int32)) hin67 rfl (Sto.ofV Ar66 qk66 O1 (Ins.self f68)) (g := (mkF m 68 #[.val (.int p1), .unset] [(.ref (w 9)), (.int (9 : Int32)), (.ref b1o), (.ref b1o)])) rfl rfl (hb hby d1_68)
  have N67 := Fr.snoc X67 N62 b1
  have Z67 : n0 ≤ h67.size := by rw [W67.size]; exact Z62
  have K67 : Keep h0 h67 [] := K62.wr W67 (Or.inr bk1)
  have V67 : Arv Z h67 b1o k1 (.object "com/example/keysteward/keysteward/cli/Option") (17 : Int32) [(.ref (w 0)), (.ref (w 1)), (.ref (w 2)), (.ref (w 3)), (.ref (w 4)), (.ref (w 5)), (.ref (w 6)), (.ref (w 7)), (.ref (w 8)), (.ref (w 9)), .null, .null, .null, .null, .null, .null, .null] .null := Arv.set Ar66 qk66 Sz66 Nn66 Hh66 Gg66 rfl W67 9 rfl (Nat.le_of_ble_eq_true rfl)
  have f69 := (((((((((((S10.ext E1).wr W22).wr W27).wr W32).wr W37).wr W42).wr W47).wr W52).wr W57).wr W62).wr W67)
  obtain ⟨T70, X70, e70, st70⟩ := getS2 X67 hx hZ hown (host := "") (Or.inl (hw _ (List.mem_of_getElem? (i := 29) rfl))) Via.refl e67 f69 (g := (mkF m 72 #[.val (.int p1), .unset] [(.int (10 : Int32)), (.ref b1o), (.ref b1o)])) rfl (hb hby d1_72)
  obtain ⟨cl71, Ar71, qk71, Sz71, Nn71, Hh71, Gg71⟩ := V67
  have hin72 : ¬ ((10 : Int32) < 0 ∨ cl71.slots.size ≤ ((10 : Int32)).toNatClampNeg) := inb_of Sz71 ⟨by decide, by decide⟩
  have f73 := ((((((((((((EX 10 (by decide)).ext E1).wr W22).wr W27).wr W32).wr W37).wr W42).wr W47).wr W52).wr W57).wr W62).wr W67)
  obtain ⟨T72, h72, X72, e72, W72, st72⟩ := stR X70 hx hZ e70 Ar71 (j := (10 : Int32)) hin72 rfl (Sto.ofV Ar71 qk71 O1 (Ins.self f73)) (g := (mkF m 75 #[.val (.int p1), .unset] [(.ref (w 10)), (.int (10 : Int32)), (.ref b1o), (.ref b1o)])) rfl rfl (hb hby d1_75)
  have N72 := Fr.snoc X72 N67 b1
  have Z72 : n0 ≤ h72.size := by rw [W72.size]; exact Z67
  have K72 : Keep h0 h72 [] := K67.wr W72 (Or.inr bk1)
  have V72 : Arv Z h72 b1o k1 (.object "com/example/keysteward/keysteward/cli/Option") (17 : Int32) [(.ref (w 0)), (.ref (w 1)), (.ref (w 2)), (.ref (w 3)), (.ref (w 4)), (.ref (w 5)), (.ref (w 6)), (.ref (w 7)), (.ref (w 8)), (.ref (w 9)), (.ref (w 10)), .null, .null, .null, .null, .null, .null] .null := Arv.set Ar71 qk71 Sz71 Nn71 Hh71 Gg71 rfl W72 10 rfl (Nat.le_of_ble_eq_true rfl)
  have f74 := ((((((((((((S11.ext E1).wr W22).wr W27).wr W32).wr W37).wr W42).wr W47).wr W52).wr W57).wr W62).wr W67).wr W72)
  obtain ⟨T75, X75, e75, st75⟩ := getS2 X72 hx hZ hown (host := "") (Or.inl (hw _ (List.mem_of_getElem? (i := 31) rfl))) Via.refl e72 f74 (g := (mkF m 79 #[.val (.int p1), .unset] [(.int (11 : Int32)), (.ref b1o), (.ref b1o)])) rfl (hb hby d1_79)
  obtain ⟨cl76, Ar76, qk76, Sz76, Nn76, Hh76, Gg76⟩ := V72
  have hin77 : ¬ ((11 : Int32) < 0 ∨ cl76.slots.size ≤ ((11 : Int32)).toNatClampNeg) := inb_of Sz76 ⟨by decide, by decide⟩
  have f78 := (((((((((((((EX 11 (by decide)).ext E1).wr W22).wr W27).wr W32).wr W37).wr W42).wr W47).wr W52).wr W57).wr W62).wr W67).wr W72)
  obtain ⟨T77, h77, X77, e77, W77, st77⟩ := stR X75 hx hZ e75 Ar76 (j := (11 : Int32)) hin77 rfl (Sto.ofV Ar76 qk76 O1 (Ins.self f78)) (g := (mkF m 82 #[.val (.int p1), .unset] [(.ref (w 11)), (.int (11 : Int32)), (.ref b1o), (.ref b1o)])) rfl rfl (hb hby d1_82)
  have N77 := Fr.snoc X77 N72 b1
  have Z77 : n0 ≤ h77.size := by rw [W77.size]; exact Z72
  have K77 : Keep h0 h77 [] := K72.wr W77 (Or.inr bk1)
  have V77 : Arv Z h77 b1o k1 (.object "com/example/keysteward/keysteward/cli/Option") (17 : Int32) [(.ref (w 0)), (.ref (w 1)), (.ref (w 2)), (.ref (w 3)), (.ref (w 4)), (.ref (w 5)), (.ref (w 6)), (.ref (w 7)), (.ref (w 8)), (.ref (w 9)), (.ref (w 10)), (.ref (w 11)), .null, .null, .null, .null, .null] .null := Arv.set Ar76 qk76 Sz76 Nn76 Hh76 Gg76 rfl W77 11 rfl (Nat.le_of_ble_eq_true rfl)
  have f79 := (((((((((((((S12.ext E1).wr W22).wr W27).wr W32).wr W37).wr W42).wr W47).wr W52).wr W57).wr W62).wr W67).wr W72).wr W77)
  obtain ⟨T80, X80, e80, st80⟩ := getS2 X77 hx hZ hown (host := "") (Or.inl (hw _ (List.mem_of_getElem? (i := 33) rfl))) Via.refl e77 f79 (g := (mkF m 86 #[.val (.int p1), .unset] [(.int (12 : Int32)), (.ref b1o), (.ref b1o)])) rfl (hb hby d1_86)
  obtain ⟨cl81, Ar81, qk81, Sz81, Nn81, Hh81, Gg81⟩ := V77
  have hin82 : ¬ ((12 : Int32) < 0 ∨ cl81.slots.size ≤ ((12 : Int32)).toNatClampNeg) := inb_of Sz81 ⟨by decide, by decide⟩
  have f83 := ((((((((((((((EX 12 (by decide)).ext E1).wr W22).wr W27).wr W32).wr W37).wr W42).wr W47).wr W52).wr W57).wr W62).wr W67).wr W72).wr W77)
  obtain ⟨T82, h82, X82, e82, W82, st82⟩ := stR X80 hx hZ e80 Ar81 (j := (12 : Int32)) hin82 rfl (Sto.ofV Ar81 qk81 O1 (Ins.self f83)) (g := (mkF m 89 #[.val (.int p1), .unset] [(.ref (w 12)), (.int (12 : Int32)), (.ref b1o), (.ref b1o)])) rfl rfl (hb hby d1_89)
  have N82 := Fr.snoc X82 N77 b1
  have Z82 : n0 ≤ h82.size := by rw [W82.size]; exact Z77
  have K82 : Keep h0 h82 [] := K77.wr W82 (Or.inr bk1)
  have V82 : Arv Z h82 b1o k1 (.object "com/example/keysteward/keysteward/cli/Option") (17 : Int32) [(.ref (w 0)), (.ref (w 1)), (.ref (w 2)), (.ref (w 3)), (.ref (w 4)), (.ref (w 5)), (.ref (w 6)), (.ref (w 7)), (.ref (w 8)), (.ref (w 9)), (.ref (w 10)), (.ref (w 11)), (.ref (w 12)), .null, .null, .null, .null] .null := Arv.set Ar81 qk81 Sz81 Nn81 Hh81 Gg81 rfl W82 12 rfl (Nat.le_of_ble_eq_true rfl)
  have f84 := ((((((((((((((S13.ext E1).wr W22).wr W27).wr W32).wr W37).wr W42).wr W47).wr W52).wr W57).wr W62).wr W67).wr W72).wr W77).wr W82)
  obtain ⟨T85, X85, e85, st85⟩ := getS2 X82 hx hZ hown (host := "") (Or.inl (hw _ (List.mem_of_getElem? (i := 35) rfl))) Via.refl e82 f84 (g := (mkF m 93 #[.val (.int p1), .unset] [(.int (13 : Int32)), (.ref b1o), (.ref b1o)])) rfl (hb hby d1_93)
  obtain ⟨cl86, Ar86, qk86, Sz86, Nn86, Hh86, Gg86⟩ := V82
  have hin87 : ¬ ((13 : Int32) < 0 ∨ cl86.slots.size ≤ ((13 : Int32)).toNatClampNeg) := inb_of Sz86 ⟨by decide, by decide⟩
  have f88 := (((((((((((((((EX 13 (by decide)).ext E1).wr W22).wr W27).wr W32).wr W37).wr W42).wr W47).wr W52).wr W57).wr W62).wr W67).wr W72).wr W77).wr W82)
  obtain ⟨T87, h87, X87, e87, W87, st87⟩ := stR X85 hx hZ e85 Ar86 (j := (13 : Int32)) hin87 rfl (Sto.ofV Ar86 qk86 O1 (Ins.self f88)) (g := (mkF m 96 #[.val (.int p1), .unset] [(.ref (w 13)), (.int (13 : Int32)), (.ref b1o), (.ref b1o)])) rfl rfl (hb hby d1_96)
  have N87 := Fr.snoc X87 N82 b1
  have Z87 : n0 ≤ h87.size := by rw [W87.size]; exact Z82
  have K87 : Keep h0 h87 [] := K82.wr W87 (Or.inr bk1)
  have V87 : Arv Z h87 b1o k1 (.object "com/example/keysteward/keysteward/cli/Option") (17 : Int32) [(.ref (w 0)), (.ref (w 1)), (.ref (w 2)), (.ref (w 3)), (.ref (w 4)), (.ref (w 5)), (.ref (w 6)), (.ref (w 7)), (.ref (w 8)), (.ref (w 9)), (.ref (w 10)), (.ref (w 11)), (.ref (w 12)), (.ref (w 13)), .null, .null, .null] .null := Arv.set Ar86 qk86 Sz86 Nn86 Hh86 Gg86 rfl W87 13 rfl (Nat.le_of_ble_eq_true rfl)
  have f89 := (((((((((((((((S14.ext E1).wr W22).wr W27).wr W32).wr W37).wr W42).wr W47).wr W52).wr W57).wr W62).wr W67).wr W72).wr W77).wr W82).wr W87)
  obtain ⟨T90, X90, e90, st90⟩ := getS2 X87 hx hZ hown (host := "") (Or.inl (hw _ (List.mem_of_getElem? (i := 37) rfl))) Via.refl e87 f89 (g := (mkF m 100 #[.val (.int p1), .unset] [(.int (14 : Int32)), (.ref b1o), (.ref b1o)])) rfl (hb hby d1_100)
  obtain ⟨cl91, Ar91, qk91, Sz91, Nn91, Hh91, Gg91⟩ := V87
  have hin92 : ¬ ((14 : Int32) < 0 ∨ cl91.slots.size ≤ ((14 : Int32)).toNatClampNeg) := inb_of Sz91 ⟨by decide, by decide⟩
  have f93 := ((((((((((((((((EX 14 (by decide)).ext E1).wr W22).wr W27).wr W32).wr W37).wr W42).wr W47).wr W52).wr W57).wr W62).wr W67).wr W72).wr W77).wr W82).wr W87)
  obtain ⟨T92, h92, X92, e92, W92, st92⟩ := stR X90 hx hZ e90 Ar91 (j := (14 : Int32)) hin92 rfl (Sto.ofV Ar91 qk91 O1 (Ins.self f93)) (g := (mkF m 103 #[.val (.int p1), .unset] [(.ref (w 14)), (.int (14 : Int32)), (.ref b1o), (.ref b1o)])) rfl rfl (hb hby d1_103)
  have N92 := Fr.snoc X92 N87 b1
  have Z92 : n0 ≤ h92.size := by rw [W92.size]; exact Z87
  have K92 : Keep h0 h92 [] := K87.wr W92 (Or.inr bk1)
  have V92 : Arv Z h92 b1o k1 (.object "com/example/keysteward/keysteward/cli/Option") (17 : Int32) [(.ref (w 0)), (.ref (w 1)), (.ref (w 2)), (.ref (w 3)), (.ref (w 4)), (.ref (w 5)), (.ref (w 6)), (.ref (w 7)), (.ref (w 8)), (.ref (w 9)), (.ref (w 10)), (.ref (w 11)), (.ref (w 12)), (.ref (w 13)), (.ref (w 14)), .null, .null] .null := Arv.set Ar91 qk91 Sz91 Nn91 Hh91 Gg91 rfl W92 14 rfl (Nat.le_of_ble_eq_true rfl)
  have f94 := ((((((((((((((((S15.ext E1).wr W22).wr W27).wr W32).wr W37).wr W42).wr W47).wr W52).wr W57).wr W62).wr W67).wr W72).wr W77).wr W82).wr W87).wr W92)
  obtain ⟨T95, X95, e95, st95⟩ := getS2 X92 hx hZ hown (host := "") (Or.inl (hw _ (List.mem_of_getElem? (i := 39) rfl))) Via.refl e92 f94 (g := (mkF m 107 #[.val (.int p1), .unset] [(.int (15 : Int32)), (.ref b1o), (.ref b1o)])) rfl (hb hby d1_107)
  obtain ⟨cl96, Ar96, qk96, Sz96, Nn96, Hh96, Gg96⟩ := V92
  have hin97 : ¬ ((15 : Int32) < 0 ∨ cl96.slots.size ≤ ((15 : Int32)).toNatClampNeg) := inb_of Sz96 ⟨by decide, by decide⟩
  have f98 := (((((((((((((((((EX 15 (by decide)).ext E1).wr W22).wr W27).wr W32).wr W37).wr W42).wr W47).wr W52).wr W57).wr W62).wr W67).wr W72).wr W77).wr W82).wr W87).wr W92)
  obtain ⟨T97, h97, X97, e97, W97, st97⟩ := stR X95 hx hZ e95 Ar96 (j := (15 : Int32)) hin97 rfl (Sto.ofV Ar96 qk96 O1 (Ins.self f98)) (g := (mkF m 110 #[.val (.int p1), .unset] [(.ref (w 15)), (.int (15 : Int32)), (.ref b1o), (.ref b1o)])) rfl rfl (hb hby d1_110)
  have N97 := Fr.snoc X97 N92 b1
  have Z97 : n0 ≤ h97.size := by rw [W97.size]; exact Z92
  have K97 : Keep h0 h97 [] := K92.wr W97 (Or.inr bk1)
  have V97 : Arv Z h97 b1o k1 (.object "com/example/keysteward/keysteward/cli/Option") (17 : Int32) [(.ref (w 0)), (.ref (w 1)), (.ref (w 2)), (.ref (w 3)), (.ref (w 4)), (.ref (w 5)), (.ref (w 6)), (.ref (w 7)), (.ref (w 8)), (.ref (w 9)), (.ref (w 10)), (.ref (w 11)), (.ref (w 12)), (.ref (w 13)), (.ref (w 14)), (.ref (w 15)), .null] .null := Arv.set Ar96 qk96 Sz96 Nn96 Hh96 Gg96 rfl W97 15 rfl (Nat.le_of_ble_eq_true rfl)
  have f99 := (((((((((((((((((S16.ext E1).wr W22).wr W27).wr W32).wr W37).wr W42).wr W47).wr W52).wr W57).wr W62).wr W67).wr W72).wr W77).wr W82).wr W87).wr W92).wr W97)
  obtain ⟨T100, X100, e100, st100⟩ := getS2 X97 hx hZ hown (host := "") (Or.inl (hw _ (List.mem_of_getElem? (i := 41) rfl))) Via.refl e97 f99 (g := (mkF m 114 #[.val (.int p1), .unset] [(.int (16 : Int32)), (.ref b1o), (.ref b1o)])) rfl (hb hby d1_114)
  obtain ⟨cl101, Ar101, qk101, Sz101, Nn101, Hh101, Gg101⟩ := V97
  have hin102 : ¬ ((16 : Int32) < 0 ∨ cl101.slots.size ≤ ((16 : Int32)).toNatClampNeg) := inb_of Sz101 ⟨by decide, by decide⟩
  have f103 := ((((((((((((((((((EX 16 (by decide)).ext E1).wr W22).wr W27).wr W32).wr W37).wr W42).wr W47).wr W52).wr W57).wr W62).wr W67).wr W72).wr W77).wr W82).wr W87).wr W92).wr W97)
  obtain ⟨T102, h102, X102, e102, W102, st102⟩ := stR X100 hx hZ e100 Ar101 (j := (16 : Int32)) hin102 rfl (Sto.ofV Ar101 qk101 O1 (Ins.self f103)) (g := (mkF m 117 #[.val (.int p1), .unset] [(.ref (w 16)), (.int (16 : Int32)), (.ref b1o), (.ref b1o)])) rfl rfl (hb hby d1_117)
  have N102 := Fr.snoc X102 N97 b1
  have Z102 : n0 ≤ h102.size := by rw [W102.size]; exact Z97
  have K102 : Keep h0 h102 [] := K97.wr W102 (Or.inr bk1)
  have V102 : Arv Z h102 b1o k1 (.object "com/example/keysteward/keysteward/cli/Option") (17 : Int32) [(.ref (w 0)), (.ref (w 1)), (.ref (w 2)), (.ref (w 3)), (.ref (w 4)), (.ref (w 5)), (.ref (w 6)), (.ref (w 7)), (.ref (w 8)), (.ref (w 9)), (.ref (w 10)), (.ref (w 11)), (.ref (w 12)), (.ref (w 13)), (.ref (w 14)), (.ref (w 15)), (.ref (w 16))] .null := Arv.set Ar101 qk101 Sz101 Nn101 Hh101 Gg101 rfl W102 16 rfl (Nat.le_of_ble_eq_true rfl)
  obtain ⟨cl104, Ar104, qk104, Sz104, Nn104, Hh104, Gg104⟩ := V102
  have hin105 : ¬ (p1 < 0 ∨ cl104.slots.size ≤ (p1).toNatClampNeg) := inb_of Sz104 ⟨hlo, hhi⟩
  have hat105 : cl104.slots[(p1).toNatClampNeg]? = some (.ref (w p1.toNatClampNeg)) := Has.at Hh104 hin105 (own_pick w _ (own_i17 hhi))
  obtain ⟨fs, hr, hrun, hended, hW, hsame⟩ := X102.leave (v := some (.ref (w p1.toNatClampNeg))) (fun h => by rw [Bd.returns] at h; cases h)
  refine ⟨_, _, pre0 _ ?_, hrun, hended, _, _, rfl, ?_, ⟨_, rfl⟩, hW, hsame.mono (by decide) (by decide)⟩
  · show Steps p.tables e below (s₁.setTop (mkF m 0 #[.val (.int p1), .unset] [])) _
    refine XS.bipush X0.here hx rfl (hb hby d1_0) ?_
    show Steps p.tables e below (s₁.setTop (mkF m 2 #[.val (.int p1), .unset] [(.int (17 : Int32))])) _
    refine st1 _ ?_
    show Steps p.tables e below (T1.setTop (mkF m 5 #[.val (.int p1), .unset] [(.ref b1o)])) _
    refine XS.dup X1.here hx rfl (hb hby d1_5) rfl rfl ?_
    show Steps p.tables e below (T1.setTop (mkF m 6 #[.val (.int p1), .unset] [(.ref b1o), (.ref b1o)])) _
    refine XS.iconst X1.here hx rfl (hb hby d1_6) ?_
    show Steps p.tables e below (T1.setTop (mkF m 7 #[.val (.int p1), .unset] [(.int (0 : Int32)), (.ref b1o), (.ref b1o)])) _
    refine st20 _ ?_
    show Steps p.tables e below (T20.setTop (mkF m 10 #[.val (.int p1), .unset] [(.ref (w 0)), (.int (0 : Int32)), (.ref b1o), (.ref b1o)])) _
    refine st22 _ ?_
    show Steps p.tables e below (T22.setTop (mkF m 11 #[.val (.int p1), .unset] [(.ref b1o)])) _
    refine XS.dup X22.here hx rfl (hb hby d1_11) rfl rfl ?_
    show Steps p.tables e below (T22.setTop (mkF m 12 #[.val (.int p1), .unset] [(.ref b1o), (.ref b1o)])) _
    refine XS.iconst X22.here hx rfl (hb hby d1_12) ?_
    show Steps p.tables e below (T22.setTop (mkF m 13 #[.val (.int p1), .unset] [(.int (1 : Int32)), (.ref b1o), (.ref b1o)])) _
    refine st25 _ ?_
    show Steps p.tables e below (T25.setTop (mkF m 16 #[.val (.int p1), .unset] [(.ref (w 1)), (.int (1 : Int32)), (.ref b1o), (.ref b1o)])) _
    refine st27 _ ?_
    show Steps p.tables e below (T27.setTop (mkF m 17 #[.val (.int p1), .unset] [(.ref b1o)])) _
    refine XS.dup X27.here hx rfl (hb hby d1_17) rfl rfl ?_
    show Steps p.tables e below (T27.setTop (mkF m 18 #[.val (.int p1), .unset] [(.ref b1o), (.ref b1o)])) _
    refine XS.iconst X27.here hx rfl (hb hby d1_18) ?_
    show Steps p.tables e below (T27.setTop (mkF m 19 #[.val (.int p1), .unset] [(.int (2 : Int32)), (.ref b1o), (.ref b1o)])) _
    refine st30 _ ?_
    show Steps p.tables e below (T30.setTop (mkF m 22 #[.val (.int p1), .unset] [(.ref (w 2)), (.int (2 : Int32)), (.ref b1o), (.ref b1o)])) _
    refine st32 _ ?_
    show Steps p.tables e below (T32.setTop (mkF m 23 #[.val (.int p1), .unset] [(.ref b1o)])) _
    refine XS.dup X32.here hx rfl (hb hby d1_23) rfl rfl ?_
    show Steps p.tables e below (T32.setTop (mkF m 24 #[.val (.int p1), .unset] [(.ref b1o), (.ref b1o)])) _
    refine XS.iconst X32.here hx rfl (hb hby d1_24) ?_
    show Steps p.tables e below (T32.setTop (mkF m 25 #[.val (.int p1), .unset] [(.int (3 : Int32)), (.ref b1o), (.ref b1o)])) _
    refine st35 _ ?_
    show Steps p.tables e below (T35.setTop (mkF m 28 #[.val (.int p1), .unset] [(.ref (w 3)), (.int (3 : Int32)), (.ref b1o), (.ref b1o)])) _
    refine st37 _ ?_
    show Steps p.tables e below (T37.setTop (mkF m 29 #[.val (.int p1), .unset] [(.ref b1o)])) _
    refine XS.dup X37.here hx rfl (hb hby d1_29) rfl rfl ?_
    show Steps p.tables e below (T37.setTop (mkF m 30 #[.val (.int p1), .unset] [(.ref b1o), (.ref b1o)])) _
    refine XS.iconst X37.here hx rfl (hb hby d1_30) ?_
    show Steps p.tables e below (T37.setTop (mkF m 31 #[.val (.int p1), .unset] [(.int (4 : Int32)), (.ref b1o), (.ref b1o)])) _
    refine st40 _ ?_
    show Steps p.tables e below (T40.setTop (mkF m 34 #[.val (.int p1), .unset] [(.ref (w 4)), (.int (4 : Int32)), (.ref b1o), (.ref b1o)])) _
    refine st42 _ ?_
    show Steps p.tables e below (T42.setTop (mkF m 35 #[.val (.int p1), .unset] [(.ref b1o)])) _
    refine XS.dup X42.here hx rfl (hb hby d1_35) rfl rfl ?_
    show Steps p.tables e below (T42.setTop (mkF m 36 #[.val (.int p1), .unset] [(.ref b1o), (.ref b1o)])) _
    refine XS.iconst X42.here hx rfl (hb hby d1_36) ?_
    show Steps p.tables e below (T42.setTop (mkF m 37 #[.val (.int p1), .unset] [(.int (5 : Int32)), (.ref b1o), (.ref b1o)])) _
    refine st45 _ ?_
    show Steps p.tables e below (T45.setTop (mkF m 40 #[.val (.int p1), .unset] [(.ref (w 5)), (.int (5 : Int32)), (.ref b1o), (.ref b1o)])) _
    refine st47 _ ?_
    show Steps p.tables e below (T47.setTop (mkF m 41 #[.val (.int p1), .unset] [(.ref b1o)])) _
    refine XS.dup X47.here hx rfl (hb hby d1_41) rfl rfl ?_
    show Steps p.tables e below (T47.setTop (mkF m 42 #[.val (.int p1), .unset] [(.ref b1o), (.ref b1o)])) _
    refine XS.bipush X47.here hx rfl (hb hby d1_42) ?_
    show Steps p.tables e below (T47.setTop (mkF m 44 #[.val (.int p1), .unset] [(.int (6 : Int32)), (.ref b1o), (.ref b1o)])) _
    refine st50 _ ?_
    show Steps p.tables e below (T50.setTop (mkF m 47 #[.val (.int p1), .unset] [(.ref (w 6)), (.int (6 : Int32)), (.ref b1o), (.ref b1o)])) _
    refine st52 _ ?_
    show Steps p.tables e below (T52.setTop (mkF m 48 #[.val (.int p1), .unset] [(.ref b1o)])) _
    refine XS.dup X52.here hx rfl (hb hby d1_48) rfl rfl ?_
    show Steps p.tables e below (T52.setTop (mkF m 49 #[.val (.int p1), .unset] [(.ref b1o), (.ref b1o)])) _
    refine XS.bipush X52.here hx rfl (hb hby d1_49) ?_
    show Steps p.tables e below (T52.setTop (mkF m 51 #[.val (.int p1), .unset] [(.int (7 : Int32)), (.ref b1o), (.ref b1o)])) _
    refine st55 _ ?_
    show Steps p.tables e below (T55.setTop (mkF m 54 #[.val (.int p1), .unset] [(.ref (w 7)), (.int (7 : Int32)), (.ref b1o), (.ref b1o)])) _
    refine st57 _ ?_
    show Steps p.tables e below (T57.setTop (mkF m 55 #[.val (.int p1), .unset] [(.ref b1o)])) _
    refine XS.dup X57.here hx rfl (hb hby d1_55) rfl rfl ?_
    show Steps p.tables e below (T57.setTop (mkF m 56 #[.val (.int p1), .unset] [(.ref b1o), (.ref b1o)])) _
    refine XS.bipush X57.here hx rfl (hb hby d1_56) ?_
    show Steps p.tables e below (T57.setTop (mkF m 58 #[.val (.int p1), .unset] [(.int (8 : Int32)), (.ref b1o), (.ref b1o)])) _
    refine st60 _ ?_
    show Steps p.tables e below (T60.setTop (mkF m 61 #[.val (.int p1), .unset] [(.ref (w 8)), (.int (8 : Int32)), (.ref b1o), (.ref b1o)])) _
    refine st62 _ ?_
    show Steps p.tables e below (T62.setTop (mkF m 62 #[.val (.int p1), .unset] [(.ref b1o)])) _
    refine XS.dup X62.here hx rfl (hb hby d1_62) rfl rfl ?_
    show Steps p.tables e below (T62.setTop (mkF m 63 #[.val (.int p1), .unset] [(.ref b1o), (.ref b1o)])) _
    refine XS.bipush X62.here hx rfl (hb hby d1_63) ?_
    show Steps p.tables e below (T62.setTop (mkF m 65 #[.val (.int p1), .unset] [(.int (9 : Int32)), (.ref b1o), (.ref b1o)])) _
    refine st65 _ ?_
    show Steps p.tables e below (T65.setTop (mkF m 68 #[.val (.int p1), .unset] [(.ref (w 9)), (.int (9 : Int32)), (.ref b1o), (.ref b1o)])) _
    refine st67 _ ?_
    show Steps p.tables e below (T67.setTop (mkF m 69 #[.val (.int p1), .unset] [(.ref b1o)])) _
    refine XS.dup X67.here hx rfl (hb hby d1_69) rfl rfl ?_
    show Steps p.tables e below (T67.setTop (mkF m 70 #[.val (.int p1), .unset] [(.ref b1o), (.ref b1o)])) _
    refine XS.bipush X67.here hx rfl (hb hby d1_70) ?_
    show Steps p.tables e below (T67.setTop (mkF m 72 #[.val (.int p1), .unset] [(.int (10 : Int32)), (.ref b1o), (.ref b1o)])) _
    refine st70 _ ?_
    show Steps p.tables e below (T70.setTop (mkF m 75 #[.val (.int p1), .unset] [(.ref (w 10)), (.int (10 : Int32)), (.ref b1o), (.ref b1o)])) _
    refine st72 _ ?_
    show Steps p.tables e below (T72.setTop (mkF m 76 #[.val (.int p1), .unset] [(.ref b1o)])) _
    refine XS.dup X72.here hx rfl (hb hby d1_76) rfl rfl ?_
    show Steps p.tables e below (T72.setTop (mkF m 77 #[.val (.int p1), .unset] [(.ref b1o), (.ref b1o)])) _
    refine XS.bipush X72.here hx rfl (hb hby d1_77) ?_
    show Steps p.tables e below (T72.setTop (mkF m 79 #[.val (.int p1), .unset] [(.int (11 : Int32)), (.ref b1o), (.ref b1o)])) _
    refine st75 _ ?_
    show Steps p.tables e below (T75.setTop (mkF m 82 #[.val (.int p1), .unset] [(.ref (w 11)), (.int (11 : Int32)), (.ref b1o), (.ref b1o)])) _
    refine st77 _ ?_
    show Steps p.tables e below (T77.setTop (mkF m 83 #[.val (.int p1), .unset] [(.ref b1o)])) _
    refine XS.dup X77.here hx rfl (hb hby d1_83) rfl rfl ?_
    show Steps p.tables e below (T77.setTop (mkF m 84 #[.val (.int p1), .unset] [(.ref b1o), (.ref b1o)])) _
    refine XS.bipush X77.here hx rfl (hb hby d1_84) ?_
    show Steps p.tables e below (T77.setTop (mkF m 86 #[.val (.int p1), .unset] [(.int (12 : Int32)), (.ref b1o), (.ref b1o)])) _
    refine st80 _ ?_
    show Steps p.tables e below (T80.setTop (mkF m 89 #[.val (.int p1), .unset] [(.ref (w 12)), (.int (12 : Int32)), (.ref b1o), (.ref b1o)])) _
    refine st82 _ ?_
    show Steps p.tables e below (T82.setTop (mkF m 90 #[.val (.int p1), .unset] [(.ref b1o)])) _
    refine XS.dup X82.here hx rfl (hb hby d1_90) rfl rfl ?_
    show Steps p.tables e below (T82.setTop (mkF m 91 #[.val (.int p1), .unset] [(.ref b1o), (.ref b1o)])) _
    refine XS.bipush X82.here hx rfl (hb hby d1_91) ?_
    show Steps p.tables e below (T82.setTop (mkF m 93 #[.val (.int p1), .unset] [(.int (13 : Int32)), (.ref b1o), (.ref b1o)])) _
    refine st85 _ ?_
    show Steps p.tables e below (T85.setTop (mkF m 96 #[.val (.int p1), .unset] [(.ref (w 13)), (.int (13 : Int32)), (.ref b1o), (.ref b1o)])) _
    refine st87 _ ?_
    show Steps p.tables e below (T87.setTop (mkF m 97 #[.val (.int p1), .unset] [(.ref b1o)])) _
    refine XS.dup X87.here hx rfl (hb hby d1_97) rfl rfl ?_
    show Steps p.tables e below (T87.setTop (mkF m 98 #[.val (.int p1), .unset] [(.ref b1o), (.ref b1o)])) _
    refine XS.bipush X87.here hx rfl (hb hby d1_98) ?_
    show Steps p.tables e below (T87.setTop (mkF m 100 #[.val (.int p1), .unset] [(.int (14 : Int32)), (.ref b1o), (.ref b1o)])) _
    refine st90 _ ?_
    show Steps p.tables e below (T90.setTop (mkF m 103 #[.val (.int p1), .unset] [(.ref (w 14)), (.int (14 : Int32)), (.ref b1o), (.ref b1o)])) _
    refine st92 _ ?_
    show Steps p.tables e below (T92.setTop (mkF m 104 #[.val (.int p1), .unset] [(.ref b1o)])) _
    refine XS.dup X92.here hx rfl (hb hby d1_104) rfl rfl ?_
    show Steps p.tables e below (T92.setTop (mkF m 105 #[.val (.int p1), .unset] [(.ref b1o), (.ref b1o)])) _
    refine XS.bipush X92.here hx rfl (hb hby d1_105) ?_
    show Steps p.tables e below (T92.setTop (mkF m 107 #[.val (.int p1), .unset] [(.int (15 : Int32)), (.ref b1o), (.ref b1o)])) _
    refine st95 _ ?_
    show Steps p.tables e below (T95.setTop (mkF m 110 #[.val (.int p1), .unset] [(.ref (w 15)), (.int (15 : Int32)), (.ref b1o), (.ref b1o)])) _
    refine st97 _ ?_
    show Steps p.tables e below (T97.setTop (mkF m 111 #[.val (.int p1), .unset] [(.ref b1o)])) _
    refine XS.dup X97.here hx rfl (hb hby d1_111) rfl rfl ?_
    show Steps p.tables e below (T97.setTop (mkF m 112 #[.val (.int p1), .unset] [(.ref b1o), (.ref b1o)])) _
    refine XS.bipush X97.here hx rfl (hb hby d1_112) ?_
    show Steps p.tables e below (T97.setTop (mkF m 114 #[.val (.int p1), .unset] [(.int (16 : Int32)), (.ref b1o), (.ref b1o)])) _
    refine st100 _ ?_
    show Steps p.tables e below (T100.setTop (mkF m 117 #[.val (.int p1), .unset] [(.ref (w 16)), (.int (16 : Int32)), (.ref b1o), (.ref b1o)])) _
    refine st102 _ ?_
    show Steps p.tables e below (T102.setTop (mkF m 118 #[.val (.int p1), .unset] [(.ref b1o)])) _
    refine XS.astoreN X102.here hx rfl (hb hby d1_118) rfl rfl (l' := #[.val (.int p1), .val (.ref b1o)]) rfl ?_
    show Steps p.tables e below (T102.setTop (mkF m 119 #[.val (.int p1), .val (.ref b1o)] [])) _
    refine XS.aloadN X102.here hx rfl (hb hby d1_119) rfl rfl ?_
    show Steps p.tables e below (T102.setTop (mkF m 120 #[.val (.int p1), .val (.ref b1o)] [(.ref b1o)])) _
    refine XS.iloadN X102.here hx rfl (hb hby d1_120) rfl ?_
    show Steps p.tables e below (T102.setTop (mkF m 121 #[.val (.int p1), .val (.ref b1o)] [(.int p1), (.ref b1o)])) _
    refine X102.aaload hx (j := p1) (v := (.ref (w p1.toNatClampNeg))) (by rw [e102]; exact Ar104.1) (State.isArrayOf_alike hZ.alike Ar104.2.1) rfl Ar104.2.2 hin105 hat105 (g := (mkF m 121 #[.val (.int p1), .val (.ref b1o)] [(.int p1), (.ref b1o)])) rfl rfl (hb hby d1_121) _ ?_
    show Steps p.tables e below (T102.setTop (mkF m 122 #[.val (.int p1), .val (.ref b1o)] [(.ref (w p1.toNatClampNeg))])) _
    exact X102.areturnOut hx rfl Bd.returns rfl (hb hby d1_122) hr
  · show Qrm1 Z p1 w h0 n0 _ T102.heap _
    exact ⟨_, rfl, rfl, N102, by rw [e102]; exact K102, trivial⟩
theorem d2_0 : decode prog_8_method_5_code 0 = .ok (.aload_n 0, 1) := by decide +kernel
theorem d2_1 : decode prog_8_method_5_code 1 = .ok (.getfield 78, 3) := by decide +kernel
theorem d2_4 : decode prog_8_method_5_code 4 = .ok (.ifnull 7, 3) := by decide +kernel
theorem d2_7 : decode prog_8_method_5_code 7 = .ok (.iconst 1, 1) := by decide +kernel
theorem d2_8 : decode prog_8_method_5_code 8 = .ok (.goto 4, 3) := by decide +kernel
theorem d2_12 : decode prog_8_method_5_code 12 = .ok (.ireturn, 1) := by decide +kernel
theorem pn_2 : plainName "com/example/keysteward/keysteward/cli/Option" = true := by first | (simp [plainName, overriddenIn]; done) | decide +kernel
theorem ef_rm2a (m : MethodId) (a1 : Addr) : entryFrame m #[(.ref a1)] 1 = mkF m 0 #[.val (.ref a1)] [] := by first | (simp [entryFrame, mkF, argsToLocals, Value.category]; done) | rfl
def Qrm2a (Z : State) (a1 : Addr) (xv : Addr) (h0 : Heap) (n0 : Nat) (v : Option Value) (h : Heap) (L : List Loc) : Prop := ∃ z : Int32, z = (1) ∧ v = some (.int z) ∧ Fr n0 L ∧ h = h0
set_option maxRecDepth 65536 in
set_option maxHeartbeats 40000000 in
theorem rm2a (l : Launch) (Z : State) (a0 : Array Value) (hw : ∀ d ∈ tables_1, d.before a0 Z = true) (ws : List Jvm.Cond) (a1 : Addr) (xv : Addr) (h0 : Heap) (n0 : Nat) (Z0 : n0 ≤ h0.size) (F : Fld Z h0 a1 "com/example/keysteward/keysteward/cli/Option" "valueName" "Ljava/lang/String;" (.ref xv)) :
    MetFree l (⟨"com/example/keysteward/keysteward/cli/Option", "takesValue", "()Z"⟩ : MethodName) (head1 (Jvm.Cond.code (⟨"com/example/keysteward/keysteward/cli/Option", "takesValue", "()Z"⟩ : MethodName) prog_8_method_5_code 1 (some .boolean) :: ws) ({ frames := 0, cells := 0, slots := 0, locals := 0 } : Room)) (fun a U => a = #[(.ref a1)] ∧ Z.Warmed39 U.vm ∧ U.heap = h0) (fun _ _ _ _ _ => True) (fun _ U o U' => ∃ v L, o = .returned v ∧ Qrm2a Z a1 xv h0 n0 v U'.heap L ∧ FrameEnd U o U' L ({ frames := 0, cells := 0, slots := 0, locals := 0 } : Room).cells ({ frames := 0, cells := 0, slots := 0, locals := 0 } : Room).slots) := by
  refine MetFree.of_bodySF (plainFor_of_name pn_2) hisR ?_
  intro p e s m args below meth c s₁ Bd hml0 hP hK
  obtain ⟨rfl, hZ, hh⟩ := hP
  have hx := Bd.exec
  have hby := Bd.bytes
  have hml : c.maxLocals = 1 := hml0
  have hown : s.vm.findClass "com/example/keysteward/keysteward/cli/Option" = some m.cls := findClass_of_methodNamed Bd.named
  have hnm := (name_of_methodNamed Bd.named Bd.method).1
  have X0 : Stand p l e ({ frames := 0, cells := 0, slots := 0, locals := 0 } : Room) s m #[(.ref a1)] below meth c s₁ [] 0 0 := Stand.of_body Bd
  have e0 : s₁.heap = h0 := by rw [← hh, Bd.state]; rfl
  have N0 := Fr.nil n0
  have pre0 : ∀ t, Steps p.tables e below (s₁.setTop (mkF m 0 #[.val (.ref a1)] [])) t → Steps p.tables e below (s₁.setTop (entryFrame m #[(.ref a1)] 1)) t := fun t k => castTop (ef_rm2a m a1) k
  obtain ⟨T1, X1, e1, st1⟩ := getF X0 hx hZ hown (host := "") (Or.inl (hw _ (List.mem_of_getElem? (i := 48) rfl))) Via.refl e0 F (g := (mkF m 1 #[.val (.ref a1)] [(.ref a1)])) rfl rfl (hb hby d2_1)
  obtain ⟨fs, hr, hrun, hended, hW, hsame⟩ := X1.leave (v := some (.int (1 : Int32))) (fun h => by rw [Bd.returns] at h; cases h)
  refine ⟨_, _, pre0 _ ?_, hrun, hended, _, _, rfl, ?_, ⟨_, rfl⟩, hW, hsame.mono (by decide) (by decide)⟩
  · show Steps p.tables e below (s₁.setTop (mkF m 0 #[.val (.ref a1)] [])) _
    refine XS.aloadN X0.here hx rfl (hb hby d2_0) rfl rfl ?_
    show Steps p.tables e below (s₁.setTop (mkF m 1 #[.val (.ref a1)] [(.ref a1)])) _
    refine st1 _ ?_
    show Steps p.tables e below (T1.setTop (mkF m 4 #[.val (.ref a1)] [(.ref xv)])) _
    refine XS.ifnullNo X1.here hx rfl (hb hby d2_4) rfl ?_
    show Steps p.tables e below (T1.setTop (mkF m 7 #[.val (.ref a1)] [])) _
    refine XS.iconst X1.here hx rfl (hb hby d2_7) ?_
    show Steps p.tables e below (T1.setTop (mkF m 8 #[.val (.ref a1)] [(.int (1 : Int32))])) _
    refine XS.goto X1.here hx rfl (pc0 := 8) (pc' := 12) rfl (hb hby d2_8) (by decide) (by decide) ?_
    show Steps p.tables e below (T1.setTop (mkF m 12 #[.val (.ref a1)] [(.int (1 : Int32))])) _
    exact retN X1 hx (t := .boolean) Bd.returns (by simp) (hb hby d2_12) hr
  · show Qrm2a Z a1 xv h0 n0 _ T1.heap _
    exact ⟨_, rfl, rfl, N0, e1⟩
theorem d2_11 : decode prog_8_method_5_code 11 = .ok (.iconst 0, 1) := by decide +kernel
theorem ef_rm2b (m : MethodId) (a1 : Addr) : entryFrame m #[(.ref a1)] 1 = mkF m 0 #[.val (.ref a1)] [] := by first | (simp [entryFrame, mkF, argsToLocals, Value.category]; done) | rfl
def Qrm2b (Z : State) (a1 : Addr) (h0 : Heap) (n0 : Nat) (v : Option Value) (h : Heap) (L : List Loc) : Prop := ∃ z : Int32, z = (0) ∧ v = some (.int z) ∧ Fr n0 L ∧ h = h0
set_option maxRecDepth 65536 in
set_option maxHeartbeats 40000000 in
theorem rm2b (l : Launch) (Z : State) (a0 : Array Value) (hw : ∀ d ∈ tables_1, d.before a0 Z = true) (ws : List Jvm.Cond) (a1 : Addr) (h0 : Heap) (n0 : Nat) (Z0 : n0 ≤ h0.size) (F : Fld Z h0 a1 "com/example/keysteward/keysteward/cli/Option" "valueName" "Ljava/lang/String;" .null) :
    MetFree l (⟨"com/example/keysteward/keysteward/cli/Option", "takesValue", "()Z"⟩ : MethodName) (head1 (Jvm.Cond.code (⟨"com/example/keysteward/keysteward/cli/Option", "takesValue", "()Z"⟩ : MethodName) prog_8_method_5_code 1 (some .boolean) :: ws) ({ frames := 0, cells := 0, slots := 0, locals := 0 } : Room)) (fun a U => a = #[(.ref a1)] ∧ Z.Warmed39 U.vm ∧ U.heap = h0) (fun _ _ _ _ _ => True) (fun _ U o U' => ∃ v L, o = .returned v ∧ Qrm2b Z a1 h0 n0 v U'.heap L ∧ FrameEnd U o U' L ({ frames := 0, cells := 0, slots := 0, locals := 0 } : Room).cells ({ frames := 0, cells := 0, slots := 0, locals := 0 } : Room).slots) := by
  refine MetFree.of_bodySF (plainFor_of_name pn_2) hisR ?_
  intro p e s m args below meth c s₁ Bd hml0 hP hK
  obtain ⟨rfl, hZ, hh⟩ := hP
  have hx := Bd.exec
  have hby := Bd.bytes
  have hml : c.maxLocals = 1 := hml0
  have hown : s.vm.findClass "com/example/keysteward/keysteward/cli/Option" = some m.cls := findClass_of_methodNamed Bd.named
  have hnm := (name_of_methodNamed Bd.named Bd.method).1
  have X0 : Stand p l e ({ frames := 0, cells := 0, slots := 0, locals := 0 } : Room) s m #[(.ref a1)] below meth c s₁ [] 0 0 := Stand.of_body Bd
  have e0 : s₁.heap = h0 := by rw [← hh, Bd.state]; rfl
  have N0 := Fr.nil n0
  have pre0 : ∀ t, Steps p.tables e below (s₁.setTop (mkF m 0 #[.val (.ref a1)] [])) t → Steps p.tables e below (s₁.setTop (entryFrame m #[(.ref a1)] 1)) t := fun t k => castTop (ef_rm2b m a1) k
  obtain ⟨T1, X1, e1, st1⟩ := getF X0 hx hZ hown (host := "") (Or.inl (hw _ (List.mem_of_getElem? (i := 48) rfl))) Via.refl e0 F (g := (mkF m 1 #[.val (.ref a1)] [(.ref a1)])) rfl rfl (hb hby d2_1)
  obtain ⟨fs, hr, hrun, hended, hW, hsame⟩ := X1.leave (v := some (.int (0 : Int32))) (fun h => by rw [Bd.returns] at h; cases h)
  refine ⟨_, _, pre0 _ ?_, hrun, hended, _, _, rfl, ?_, ⟨_, rfl⟩, hW, hsame.mono (by decide) (by decide)⟩
  · show Steps p.tables e below (s₁.setTop (mkF m 0 #[.val (.ref a1)] [])) _
    refine XS.aloadN X0.here hx rfl (hb hby d2_0) rfl rfl ?_
    show Steps p.tables e below (s₁.setTop (mkF m 1 #[.val (.ref a1)] [(.ref a1)])) _
    refine st1 _ ?_
    show Steps p.tables e below (T1.setTop (mkF m 4 #[.val (.ref a1)] [.null])) _
    refine XS.ifnullYes X1.here hx rfl (pc0 := 4) (pc' := 11) rfl (hb hby d2_4) rfl (by decide) (by decide) ?_
    show Steps p.tables e below (T1.setTop (mkF m 11 #[.val (.ref a1)] [])) _
    refine XS.iconst X1.here hx rfl (hb hby d2_11) ?_
    show Steps p.tables e below (T1.setTop (mkF m 12 #[.val (.ref a1)] [(.int (0 : Int32))])) _
    exact retN X1 hx (t := .boolean) Bd.returns (by simp) (hb hby d2_12) hr
  · show Qrm2b Z a1 h0 n0 _ T1.heap _
    exact ⟨_, rfl, rfl, N0, e1⟩
theorem d3_0 : decode prog_8_method_6_code 0 = .ok (.aload_n 0, 1) := by decide +kernel
theorem d3_1 : decode prog_8_method_6_code 1 = .ok (.getfield 81, 3) := by decide +kernel
theorem d3_4 : decode prog_8_method_6_code 4 = .ok (.ireturn, 1) := by decide +kernel
theorem pn_3 : plainName "com/example/keysteward/keysteward/cli/Option" = true := by first | (simp [plainName, overriddenIn]; done) | decide +kernel
theorem ef_rm3 (m : MethodId) (a1 : Addr) : entryFrame m #[(.ref a1)] 1 = mkF m 0 #[.val (.ref a1)] [] := by first | (simp [entryFrame, mkF, argsToLocals, Value.category]; done) | rfl
def Qrm3 (Z : State) (a1 : Addr) (rz : Int32) (h0 : Heap) (n0 : Nat) (v : Option Value) (h : Heap) (L : List Loc) : Prop := ∃ z : Int32, z = (nar .boolean rz) ∧ v = some (.int z) ∧ Fr n0 L ∧ h = h0
set_option maxRecDepth 65536 in
set_option maxHeartbeats 40000000 in
theorem rm3 (l : Launch) (Z : State) (a0 : Array Value) (hw : ∀ d ∈ tables_1, d.before a0 Z = true) (ws : List Jvm.Cond) (a1 : Addr) (rz : Int32) (h0 : Heap) (n0 : Nat) (Z0 : n0 ≤ h0.size) (F : Fld Z h0 a1 "com/example/keysteward/keysteward/cli/Option" "repeatable" "Z" (.int rz)) :
    MetFree l (⟨"com/example/keysteward/keysteward/cli/Option", "repeatable", "()Z"⟩ : MethodName) (head1 (Jvm.Cond.code (⟨"com/example/keysteward/keysteward/cli/Option", "repeatable", "()Z"⟩ : MethodName) prog_8_method_6_code 1 (some .boolean) :: ws) ({ frames := 0, cells := 0, slots := 0, locals := 0 } : Room)) (fun a U => a = #[(.ref a1)] ∧ Z.Warmed39 U.vm ∧ U.heap = h0) (fun _ _ _ _ _ => True) (fun _ U o U' => ∃ v L, o = .returned v ∧ Qrm3 Z a1 rz h0 n0 v U'.heap L ∧ FrameEnd U o U' L ({ frames := 0, cells := 0, slots := 0, locals := 0 } : Room).cells ({ frames := 0, cells := 0, slots := 0, locals := 0 } : Room).slots) := by
  refine MetFree.of_bodySF (plainFor_of_name pn_3) hisR ?_
  intro p e s m args below meth c s₁ Bd hml0 hP hK
  obtain ⟨rfl, hZ, hh⟩ := hP
  have hx := Bd.exec
  have hby := Bd.bytes
  have hml : c.maxLocals = 1 := hml0
  have hown : s.vm.findClass "com/example/keysteward/keysteward/cli/Option" = some m.cls := findClass_of_methodNamed Bd.named
  have hnm := (name_of_methodNamed Bd.named Bd.method).1
  have X0 : Stand p l e ({ frames := 0, cells := 0, slots := 0, locals := 0 } : Room) s m #[(.ref a1)] below meth c s₁ [] 0 0 := Stand.of_body Bd
  have e0 : s₁.heap = h0 := by rw [← hh, Bd.state]; rfl
  have N0 := Fr.nil n0
  have pre0 : ∀ t, Steps p.tables e below (s₁.setTop (mkF m 0 #[.val (.ref a1)] [])) t → Steps p.tables e below (s₁.setTop (entryFrame m #[(.ref a1)] 1)) t := fun t k => castTop (ef_rm3 m a1) k
  obtain ⟨T1, X1, e1, st1⟩ := getF X0 hx hZ hown (host := "") (Or.inl (hw _ (List.mem_of_getElem? (i := 55) rfl))) Via.refl e0 F (g := (mkF m 1 #[.val (.ref a1)] [(.ref a1)])) rfl rfl (hb hby d3_1)
  obtain ⟨fs, hr, hrun, hended, hW, hsame⟩ := X1.leave (v := some (.int (nar .boolean rz))) (fun h => by rw [Bd.returns] at h; cases h)
  refine ⟨_, _, pre0 _ ?_, hrun, hended, _, _, rfl, ?_, ⟨_, rfl⟩, hW, hsame.mono (by decide) (by decide)⟩
  · show Steps p.tables e below (s₁.setTop (mkF m 0 #[.val (.ref a1)] [])) _
    refine XS.aloadN X0.here hx rfl (hb hby d3_0) rfl rfl ?_
    show Steps p.tables e below (s₁.setTop (mkF m 1 #[.val (.ref a1)] [(.ref a1)])) _
    refine st1 _ ?_
    show Steps p.tables e below (T1.setTop (mkF m 4 #[.val (.ref a1)] [(.int rz)])) _
    exact retN X1 hx (t := .boolean) Bd.returns (by simp) (hb hby d3_4) hr
  · show Qrm3 Z a1 rz h0 n0 _ T1.heap _
    exact ⟨_, rfl, rfl, N0, e1⟩
theorem pd_0 : parseMethodDescriptor "(I)Lcom/example/keysteward/keysteward/cli/Option;" = some ⟨[.int], some (.object "com/example/keysteward/keysteward/cli/Option")⟩ := by decide +kernel
theorem pd_1 : parseMethodDescriptor "()Z" = some ⟨[], some .boolean⟩ := by decide +kernel
theorem pn_0 : plainName "com/example/keysteward/keysteward/cli/OptionTakesValuePinLaw" = true := by first | (simp [plainName, overriddenIn]; done) | decide +kernel
theorem ef_rm0 (m : MethodId) (p1 : Int32) : entryFrame m #[(.int p1)] maxLocals = mkF m 0 #[.val (.int p1), .unset, .unset, .unset, .unset] [] := by first | (simp [entryFrame, mkF, argsToLocals, Value.category, maxLocals]; done) | rfl
def Qrm0 (Z : State) (p1 : Int32) (w : Nat → Addr) (h0 : Heap) (n0 : Nat) (v : Option Value) (h : Heap) (L : List Loc) : Prop := v = some (.int 1) ∧ Fr n0 L
set_option maxRecDepth 65536 in
set_option maxHeartbeats 40000000 in
theorem rm0 (l : Launch) (Z : State) (a0 : Array Value) (hw : ∀ d ∈ tables_1, d.before a0 Z = true) (ws : List Jvm.Cond) (p1 : Int32) (w : Nat → Addr) (h0 : Heap) (n0 : Nat) (Z0 : n0 ≤ h0.size) (S0 : Sta Z h0 "com/example/keysteward/keysteward/cli/Option" "STORE" "Lcom/example/keysteward/keysteward/cli/Option;" (.ref (w 0))) (S1 : Sta Z h0 "com/example/keysteward/keysteward/cli/Option" "PASSPHRASE_FILE" "Lcom/example/keysteward/keysteward/cli/Option;" (.ref (w 1))) (S2 : Sta Z h0 "com/example/keysteward/keysteward/cli/Option" "ACCOUNT" "Lcom/example/keysteward/keysteward/cli/Option;" (.ref (w 2))) (S3 : Sta Z h0 "com/example/keysteward/keysteward/cli/Option" "DAYS" "Lcom/example/keysteward/keysteward/cli/Option;" (.ref (w 3))) (S4 : Sta Z h0 "com/example/keysteward/keysteward/cli/Option" "CERT_OUT" "Lcom/example/keysteward/keysteward/cli/Option;" (.ref (w 4))) (S5 : Sta Z h0 "com/example/keysteward/keysteward/cli/Option" "SCOPE" "Lcom/example/keysteward/keysteward/cli/Option;" (.ref (w 5))) (S6 : Sta Z h0 "com/example/keysteward/keysteward/cli/Option" "AUDIENCE" "Lcom/example/keysteward/keysteward/cli/Option;" (.ref (w 6))) (S7 : Sta Z h0 "com/example/keysteward/keysteward/cli/Option" "LIFETIME" "Lcom/example/keysteward/keysteward/cli/Option;" (.ref (w 7))) (S8 : Sta Z h0 "com/example/keysteward/keysteward/cli/Option" "KEY" "Lcom/example/keysteward/keysteward/cli/Option;" (.ref (w 8))) (S9 : Sta Z h0 "com/example/keysteward/keysteward/cli/Option" "PORT" "Lcom/example/keysteward/keysteward/cli/Option;" (.ref (w 9))) (S10 : Sta Z h0 "com/example/keysteward/keysteward/cli/Option" "PROJECT" "Lcom/example/keysteward/keysteward/cli/Option;" (.ref (w 10))) (S11 : Sta Z h0 "com/example/keysteward/keysteward/cli/Option" "REMOVE_ORIGINAL" "Lcom/example/keysteward/keysteward/cli/Option;" (.ref (w 11))) (S12 : Sta Z h0 "com/example/keysteward/keysteward/cli/Option" "VERIFY" "Lcom/example/keysteward/keysteward/cli/Option;" (.ref (w 12))) (S13 : Sta Z h0 "com/example/keysteward/keysteward/cli/Option" "HISTORY" "Lcom/example/keysteward/keysteward/cli/Option;" (.ref (w 13))) (S14 : Sta Z h0 "com/example/keysteward/keysteward/cli/Option" "PLACES" "Lcom/example/keysteward/keysteward/cli/Option;" (.ref (w 14))) (S15 : Sta Z h0 "com/example/keysteward/keysteward/cli/Option" "JSON" "Lcom/example/keysteward/keysteward/cli/Option;" (.ref (w 15))) (S16 : Sta Z h0 "com/example/keysteward/keysteward/cli/Option" "HELP" "Lcom/example/keysteward/keysteward/cli/Option;" (.ref (w 16))) (EX : ∀ k, k < 17 → Exa Z h0 (w k) "com/example/keysteward/keysteward/cli/Option") (FV : ∀ k, k < 11 → ∃ x : Addr, Fld Z h0 (w k) "com/example/keysteward/keysteward/cli/Option" "valueName" "Ljava/lang/String;" (.ref x)) (FN : ∀ k, ¬ k < 11 → k < 17 → Fld Z h0 (w k) "com/example/keysteward/keysteward/cli/Option" "valueName" "Ljava/lang/String;" .null ∧ Fld Z h0 (w k) "com/example/keysteward/keysteward/cli/Option" "repeatable" "Z" (.int (0 : Int32))) (FR : ∀ k, k < 17 → ∃ r : Int32, Fld Z h0 (w k) "com/example/keysteward/keysteward/cli/Option" "repeatable" "Z" (.int r)) :
    MetFree l x (head1 (Jvm.Cond.code x code maxLocals ret :: ws) room_1) (fun a U => a = #[(.int p1)] ∧ Z.Warmed39 U.vm ∧ U.heap = h0) (fun _ _ _ _ _ => True) (fun _ U o U' => ∃ v L, o = .returned v ∧ Qrm0 Z p1 w h0 n0 v U'.heap L ∧ FrameEnd U o U' L room_1.cells room_1.slots) := by
  refine MetFree.of_bodySF (plainFor_of_name pn_0) hisR ?_
  intro p e s m args below meth c s₁ Bd hml0 hP hK
  obtain ⟨rfl, hZ, hh⟩ := hP
  have hx := Bd.exec
  have hby := Bd.bytes
  have hml : c.maxLocals = 5 := hml0
  have hown : s.vm.findClass "com/example/keysteward/keysteward/cli/OptionTakesValuePinLaw" = some m.cls := findClass_of_methodNamed Bd.named
  have hnm := (name_of_methodNamed Bd.named Bd.method).1
  have X0 : Stand p l e room_1 s m #[(.int p1)] below meth c s₁ [] 0 0 := Stand.of_body Bd
  have e0 : s₁.heap = h0 := by rw [← hh, Bd.state]; rfl
  have N0 := Fr.nil n0
  have pre0 : ∀ t, Steps p.tables e below (s₁.setTop (mkF m 0 #[.val (.int p1), .unset, .unset, .unset, .unset] [])) t → Steps p.tables e below (s₁.setTop (entryFrame m #[(.int p1)] maxLocals)) t := fun t k => castTop (ef_rm0 m p1) k
  obtain ⟨i, hi⟩ : ∃ z : Int32, z = ((p1 &&& (2147483647 : Int32)) % (17 : Int32)) := ⟨_, rfl⟩
  have hib : ¬ i < 0 ∧ i < (17 : Int32) := by rw [hi]; exact own_idx p1
  obtain ⟨_, _, ⟨T1, L1, k1, n1⟩, -, X1, ⟨Lc1, hQ1, l1, y1, z1⟩, st1⟩ := Jvm.LawKit.callS X0 hx (y := (⟨"com/example/keysteward/keysteward/cli/OptionTakesValuePinLaw", "pick", "(I)Lcom/example/keysteward/keysteward/cli/Option;"⟩ : MethodName)) hown (mvT hZ (hw _ (List.mem_of_getElem? (i := 1) rfl))) (mvT hZ (hw _ (List.mem_of_getElem? (i := 2) rfl))) (mvT hZ (hw _ (List.mem_of_getElem? (i := 3) rfl))) (mvT hZ (hw _ (List.mem_of_getElem? (i := 4) rfl))) (by decide) (backOf (W := 0) (rm1 l Z a0 hw [] i w h0 n0 Z0 S0 S1 S2 S3 S4 S5 S6 S7 S8 S9 S10 S11 S12 S13 S14 S15 S16 EX hib.1 hib.2) hZ (hw _ (List.mem_of_getElem? (i := 4) rfl)) (hw _ (List.mem_of_getElem? (i := 3) rfl)) (by decide) (by decide)) (g := (mkF m 9 #[.val (.int p1), .val (.int i), .unset, .unset, .unset] [(.int i)])) rfl (by rw [hml]; rfl) (argsL := [(.int i)]) (rest := []) (lenOf pd_0 rfl) rfl (by show 2 * 0 + _ ≤ _; exact Nat.le_of_eq rfl) (hb hby at_9) (fun _ _ => ⟨rfl, e0, (by decide : 0 + 1 ≤ _), (by decide : 0 + 17 ≤ _)⟩)
  dsimp only [Pt.U, Pt.locs, Pt.cells, Pt.slots] at X1 l1 y1 z1 st1 hQ1
  subst l1 y1 z1
  obtain ⟨r1, hr1, rfl, N1q, KC1, u1⟩ := hQ1
  have N1 := Fr.app N0 N1q
  have Z1 : n0 ≤ T1.heap.size := Nat.le_trans Z0 KC1.1
  have EL : Exa Z h0 r1 "com/example/keysteward/keysteward/cli/Option" := by rw [hr1]; exact EX _ (own_i17 hib.2)
  by_cases hc16 : i < (11 : Int32)
  · obtain ⟨xv, Fv⟩ := FV _ (own_i11 hc16)
    obtain ⟨rz, Fr0⟩ := FR _ (own_i17 hib.2)
    rw [← hr1] at Fv Fr0
    have f3 := (Fv.keep KC1 nin0)
    have f4 := (EL.keep KC1)
    obtain ⟨cq2, kq2, q2a, q2b, q2c⟩ := isOf hZ rfl f4
    obtain ⟨_, _, ⟨T2, L2, k2, n2⟩, -, X2, ⟨Lc2, hQ2, l2, y2, z2⟩, st2⟩ := X1.virtualBack hx (y := (⟨"com/example/keysteward/keysteward/cli/Option", "takesValue", "()Z"⟩ : MethodName)) (z := (⟨"com/example/keysteward/keysteward/cli/Option", "takesValue", "()Z"⟩ : MethodName)) hown (mvT hZ (hw _ (List.mem_of_getElem? (i := 43) rfl))) (mvT hZ (hw _ (List.mem_of_getElem? (i := 44) rfl))) (notFace_of_selects (args := #[]) (mvT hZ (hw _ (List.mem_of_getElem? (i := 46) rfl)))) (mvT hZ (hw _ (List.mem_of_getElem? (i := 46) rfl))) (mvT hZ (hw _ (List.mem_of_getElem? (i := 45) rfl))) (by decide) (backOf (W := 0) (rm2a l Z a0 hw [] r1 xv T1.heap n0 Z1 f3) hZ (hw _ (List.mem_of_getElem? (i := 47) rfl)) (hw _ (List.mem_of_getElem? (i := 8) rfl)) (by decide) (by decide)) q2a q2c (g := (mkF m 26 #[.val (.int p1), .val (.int i), .val (.ref r1), .val (.int (1 : Int32)), .unset] [(.ref r1)])) rfl (by rw [hml]; rfl) (Steps.refl _) (argsL := []) (rest := []) (lenOf pd_1 rfl) rfl (by show 2 * 0 + _ ≤ _; exact Nat.le_of_eq rfl) (hb hby at_26) (fun _ _ => ⟨rfl, rfl, (by decide : 1 + 0 ≤ _), (by decide : 17 + 0 ≤ _)⟩)
    dsimp only [Pt.U, Pt.locs, Pt.cells, Pt.slots] at X2 l2 y2 z2 st2 hQ2
    subst l2 y2 z2
    obtain ⟨r2, hr2, rfl, N2q, e2⟩ := hQ2
    have N2 := Fr.app N1 N2q
    have f6 := (Fr0.keep KC1 nin0)
    obtain ⟨cq5, kq5, q5a, q5b, q5c⟩ := isOf hZ e2 f4
    obtain ⟨_, _, ⟨T5, L5, k5, n5⟩, -, X5, ⟨Lc5, hQ5, l5, y5, z5⟩, st5⟩ := X2.virtualBack hx (y := (⟨"com/example/keysteward/keysteward/cli/Option", "repeatable", "()Z"⟩ : MethodName)) (z := (⟨"com/example/keysteward/keysteward/cli/Option", "repeatable", "()Z"⟩ : MethodName)) hown (mvT hZ (hw _ (List.mem_of_getElem? (i := 50) rfl))) (mvT hZ (hw _ (List.mem_of_getElem? (i := 51) rfl))) (notFace_of_selects (args := #[]) (mvT hZ (hw _ (List.mem_of_getElem? (i := 53) rfl)))) (mvT hZ (hw _ (List.mem_of_getElem? (i := 53) rfl))) (mvT hZ (hw _ (List.mem_of_getElem? (i := 52) rfl))) (by decide) (backOf (W := 0) (rm3 l Z a0 hw [] r1 rz T1.heap n0 Z1 f6) hZ (hw _ (List.mem_of_getElem? (i := 54) rfl)) (hw _ (List.mem_of_getElem? (i := 8) rfl)) (by decide) (by decide)) q5a q5c (g := (mkF m 40 #[.val (.int p1), .val (.int i), .val (.ref r1), .val (.int (1 : Int32)), .val (.int r2)] [(.ref r1)])) rfl (by rw [hml]; rfl) (Steps.refl _) (argsL := []) (rest := []) (lenOf pd_1 rfl) rfl (by show 2 * 0 + _ ≤ _; exact Nat.le_of_eq rfl) (hb hby at_40) (fun _ _ => ⟨rfl, e2, (by decide : 1 + 0 ≤ _), (by decide : 17 + 0 ≤ _)⟩)
    dsimp only [Pt.U, Pt.locs, Pt.cells, Pt.slots] at X5 l5 y5 z5 st5 hQ5
    subst l5 y5 z5
    obtain ⟨r5, hr5, rfl, N5q, e5⟩ := hQ5
    have N5 := Fr.app N2 N5q
    by_cases hc43 : r5 = (0 : Int32)
    · obtain ⟨fs, hr, hrun, hended, hW, hsame⟩ := X5.leave (v := some (.int (1 : Int32))) (fun h => by rw [Bd.returns] at h; cases h)
      refine ⟨_, _, pre0 _ ?_, hrun, hended, _, _, rfl, ?_, ⟨_, rfl⟩, hW, hsame.mono (by decide) (by decide)⟩
      · show Steps p.tables e below (s₁.setTop (mkF m 0 #[.val (.int p1), .unset, .unset, .unset, .unset] [])) _
        refine XS.iloadN X0.here hx rfl (hb hby at_0) rfl ?_
        show Steps p.tables e below (s₁.setTop (mkF m 1 #[.val (.int p1), .unset, .unset, .unset, .unset] [(.int p1)])) _
        refine X0.ldcInt hx hown (mvT hZ (hw _ (List.mem_of_getElem? (i := 0) rfl))) (g := (mkF m 1 #[.val (.int p1), .unset, .unset, .unset, .unset] [(.int p1)])) rfl (hb hby at_1) _ ?_
        show Steps p.tables e below (s₁.setTop (mkF m 3 #[.val (.int p1), .unset, .unset, .unset, .unset] [(.int (2147483647 : Int32)), (.int p1)])) _
        refine XS.iand X0.here hx rfl (hb hby at_3) rfl ?_
        show Steps p.tables e below (s₁.setTop (mkF m 4 #[.val (.int p1), .unset, .unset, .unset, .unset] [(.int (p1 &&& (2147483647 : Int32)))])) _
        refine XS.bipush X0.here hx rfl (hb hby at_4) ?_
        show Steps p.tables e below (s₁.setTop (mkF m 6 #[.val (.int p1), .unset, .unset, .unset, .unset] [(.int (17 : Int32)), (.int (p1 &&& (2147483647 : Int32)))])) _
        refine iremM X0 hx rfl (hb hby at_6) rfl (by decide) ?_
        show Steps p.tables e below (s₁.setTop (mkF m 7 #[.val (.int p1), .unset, .unset, .unset, .unset] [(.int ((p1 &&& (2147483647 : Int32)) % (17 : Int32)))])) _
        refine XS.istoreN X0.here hx rfl (hb hby at_7) rfl (l' := #[.val (.int p1), .val (.int ((p1 &&& (2147483647 : Int32)) % (17 : Int32))), .unset, .unset, .unset]) rfl ?_
        show Steps p.tables e below (s₁.setTop (mkF m 8 #[.val (.int p1), .val (.int ((p1 &&& (2147483647 : Int32)) % (17 : Int32))), .unset, .unset, .unset] [])) _
        rw [← hi]
        show Steps p.tables e below (s₁.setTop (mkF m 8 #[.val (.int p1), .val (.int i), .unset, .unset, .unset] [])) _
        refine XS.iloadN X0.here hx rfl (hb hby at_8) rfl ?_
        show Steps p.tables e below (s₁.setTop (mkF m 9 #[.val (.int p1), .val (.int i), .unset, .unset, .unset] [(.int i)])) _
        refine st1 _ ?_
        show Steps p.tables e below (T1.setTop (mkF m 12 #[.val (.int p1), .val (.int i), .unset, .unset, .unset] [(.ref r1)])) _
        refine XS.astoreN X1.here hx rfl (hb hby at_12) rfl rfl (l' := #[.val (.int p1), .val (.int i), .val (.ref r1), .unset, .unset]) rfl ?_
        show Steps p.tables e below (T1.setTop (mkF m 13 #[.val (.int p1), .val (.int i), .val (.ref r1), .unset, .unset] [])) _
        refine XS.iloadN X1.here hx rfl (hb hby at_13) rfl ?_
        show Steps p.tables e below (T1.setTop (mkF m 14 #[.val (.int p1), .val (.int i), .val (.ref r1), .unset, .unset] [(.int i)])) _
        refine XS.bipush X1.here hx rfl (hb hby at_14) ?_
        show Steps p.tables e below (T1.setTop (mkF m 16 #[.val (.int p1), .val (.int i), .val (.ref r1), .unset, .unset] [(.int (11 : Int32)), (.int i)])) _
        refine XS.icmpNo X1.here hx rfl (hb hby at_16) rfl (tlt hc16).2.1 ?_
        show Steps p.tables e below (T1.setTop (mkF m 19 #[.val (.int p1), .val (.int i), .val (.ref r1), .unset, .unset] [])) _
        refine XS.iconst X1.here hx rfl (hb hby at_19) ?_
        show Steps p.tables e below (T1.setTop (mkF m 20 #[.val (.int p1), .val (.int i), .val (.ref r1), .unset, .unset] [(.int (1 : Int32))])) _
        refine XS.goto X1.here hx rfl (pc0 := 20) (pc' := 24) rfl (hb hby at_20) (by decide) (by decide) ?_
        show Steps p.tables e below (T1.setTop (mkF m 24 #[.val (.int p1), .val (.int i), .val (.ref r1), .unset, .unset] [(.int (1 : Int32))])) _
        refine XS.istoreN X1.here hx rfl (hb hby at_24) rfl (l' := #[.val (.int p1), .val (.int i), .val (.ref r1), .val (.int (1 : Int32)), .unset]) rfl ?_
        show Steps p.tables e below (T1.setTop (mkF m 25 #[.val (.int p1), .val (.int i), .val (.ref r1), .val (.int (1 : Int32)), .unset] [])) _
        refine XS.aloadN X1.here hx rfl (hb hby at_25) rfl rfl ?_
        show Steps p.tables e below (T1.setTop (mkF m 26 #[.val (.int p1), .val (.int i), .val (.ref r1), .val (.int (1 : Int32)), .unset] [(.ref r1)])) _
        refine st2.trans ?_
        show Steps p.tables e below (T2.setTop (mkF m 29 #[.val (.int p1), .val (.int i), .val (.ref r1), .val (.int (1 : Int32)), .unset] [(.int r2)])) _
        refine XS.istore X2.here hx rfl (hb hby at_29) rfl (l' := #[.val (.int p1), .val (.int i), .val (.ref r1), .val (.int (1 : Int32)), .val (.int r2)]) rfl ?_
        show Steps p.tables e below (T2.setTop (mkF m 31 #[.val (.int p1), .val (.int i), .val (.ref r1), .val (.int (1 : Int32)), .val (.int r2)] [])) _
        refine XS.iload X2.here hx rfl (hb hby at_31) rfl ?_
        show Steps p.tables e below (T2.setTop (mkF m 33 #[.val (.int p1), .val (.int i), .val (.ref r1), .val (.int (1 : Int32)), .val (.int r2)] [(.int r2)])) _
        refine XS.iloadN X2.here hx rfl (hb hby at_33) rfl ?_
        show Steps p.tables e below (T2.setTop (mkF m 34 #[.val (.int p1), .val (.int i), .val (.ref r1), .val (.int (1 : Int32)), .val (.int r2)] [(.int (1 : Int32)), (.int r2)])) _
        refine XS.icmpYes X2.here hx rfl (pc0 := 34) (pc' := 39) rfl (hb hby at_34) rfl (teq hr2).1 (by decide) (by decide) ?_
        show Steps p.tables e below (T2.setTop (mkF m 39 #[.val (.int p1), .val (.int i), .val (.ref r1), .val (.int (1 : Int32)), .val (.int r2)] [])) _
        refine XS.aloadN X2.here hx rfl (hb hby at_39) rfl rfl ?_
        show Steps p.tables e below (T2.setTop (mkF m 40 #[.val (.int p1), .val (.int i), .val (.ref r1), .val (.int (1 : Int32)), .val (.int r2)] [(.ref r1)])) _
        refine st5.trans ?_
        show Steps p.tables e below (T5.setTop (mkF m 43 #[.val (.int p1), .val (.int i), .val (.ref r1), .val (.int (1 : Int32)), .val (.int r2)] [(.int r5)])) _
        refine XS.ifYes X5.here hx rfl (pc0 := 43) (pc' := 53) rfl (hb hby at_43) rfl ((if0 _ _).trans (teq hc43).1) (by decide) (by decide) ?_
        show Steps p.tables e below (T5.setTop (mkF m 53 #[.val (.int p1), .val (.int i), .val (.ref r1), .val (.int (1 : Int32)), .val (.int r2)] [])) _
        refine XS.iconst X5.here hx rfl (hb hby at_53) ?_
        show Steps p.tables e below (T5.setTop (mkF m 54 #[.val (.int p1), .val (.int i), .val (.ref r1), .val (.int (1 : Int32)), .val (.int r2)] [(.int (1 : Int32))])) _
        exact retN X5 hx (t := .boolean) Bd.returns (by simp) (hb hby at_54) hr
      · show Qrm0 Z p1 w h0 n0 _ T5.heap _
        exact ⟨rfl, N5⟩
    · obtain ⟨fs, hr, hrun, hended, hW, hsame⟩ := X5.leave (v := some (.int (1 : Int32))) (fun h => by rw [Bd.returns] at h; cases h)
      refine ⟨_, _, pre0 _ ?_, hrun, hended, _, _, rfl, ?_, ⟨_, rfl⟩, hW, hsame.mono (by decide) (by decide)⟩
      · show Steps p.tables e below (s₁.setTop (mkF m 0 #[.val (.int p1), .unset, .unset, .unset, .unset] [])) _
        refine XS.iloadN X0.here hx rfl (hb hby at_0) rfl ?_
        show Steps p.tables e below (s₁.setTop (mkF m 1 #[.val (.int p1), .unset, .unset, .unset, .unset] [(.int p1)])) _
        refine X0.ldcInt hx hown (mvT hZ (hw _ (List.mem_of_getElem? (i := 0) rfl))) (g := (mkF m 1 #[.val (.int p1), .unset, .unset, .unset, .unset] [(.int p1)])) rfl (hb hby at_1) _ ?_
        show Steps p.tables e below (s₁.setTop (mkF m 3 #[.val (.int p1), .unset, .unset, .unset, .unset] [(.int (2147483647 : Int32)), (.int p1)])) _
        refine XS.iand X0.here hx rfl (hb hby at_3) rfl ?_
        show Steps p.tables e below (s₁.setTop (mkF m 4 #[.val (.int p1), .unset, .unset, .unset, .unset] [(.int (p1 &&& (2147483647 : Int32)))])) _
        refine XS.bipush X0.here hx rfl (hb hby at_4) ?_
        show Steps p.tables e below (s₁.setTop (mkF m 6 #[.val (.int p1), .unset, .unset, .unset, .unset] [(.int (17 : Int32)), (.int (p1 &&& (2147483647 : Int32)))])) _
        refine iremM X0 hx rfl (hb hby at_6) rfl (by decide) ?_
        show Steps p.tables e below (s₁.setTop (mkF m 7 #[.val (.int p1), .unset, .unset, .unset, .unset] [(.int ((p1 &&& (2147483647 : Int32)) % (17 : Int32)))])) _
        refine XS.istoreN X0.here hx rfl (hb hby at_7) rfl (l' := #[.val (.int p1), .val (.int ((p1 &&& (2147483647 : Int32)) % (17 : Int32))), .unset, .unset, .unset]) rfl ?_
        show Steps p.tables e below (s₁.setTop (mkF m 8 #[.val (.int p1), .val (.int ((p1 &&& (2147483647 : Int32)) % (17 : Int32))), .unset, .unset, .unset] [])) _
        rw [← hi]
        show Steps p.tables e below (s₁.setTop (mkF m 8 #[.val (.int p1), .val (.int i), .unset, .unset, .unset] [])) _
        refine XS.iloadN X0.here hx rfl (hb hby at_8) rfl ?_
        show Steps p.tables e below (s₁.setTop (mkF m 9 #[.val (.int p1), .val (.int i), .unset, .unset, .unset] [(.int i)])) _
        refine st1 _ ?_
        show Steps p.tables e below (T1.setTop (mkF m 12 #[.val (.int p1), .val (.int i), .unset, .unset, .unset] [(.ref r1)])) _
        refine XS.astoreN X1.here hx rfl (hb hby at_12) rfl rfl (l' := #[.val (.int p1), .val (.int i), .val (.ref r1), .unset, .unset]) rfl ?_
        show Steps p.tables e below (T1.setTop (mkF m 13 #[.val (.int p1), .val (.int i), .val (.ref r1), .unset, .unset] [])) _
        refine XS.iloadN X1.here hx rfl (hb hby at_13) rfl ?_
        show Steps p.tables e below (T1.setTop (mkF m 14 #[.val (.int p1), .val (.int i), .val (.ref r1), .unset, .unset] [(.int i)])) _
        refine XS.bipush X1.here hx rfl (hb hby at_14) ?_
        show Steps p.tables e below (T1.setTop (mkF m 16 #[.val (.int p1), .val (.int i), .val (.ref r1), .unset, .unset] [(.int (11 : Int32)), (.int i)])) _
        refine XS.icmpNo X1.here hx rfl (hb hby at_16) rfl (tlt hc16).2.1 ?_
        show Steps p.tables e below (T1.setTop (mkF m 19 #[.val (.int p1), .val (.int i), .val (.ref r1), .unset, .unset] [])) _
        refine XS.iconst X1.here hx rfl (hb hby at_19) ?_
        show Steps p.tables e below (T1.setTop (mkF m 20 #[.val (.int p1), .val (.int i), .val (.ref r1), .unset, .unset] [(.int (1 : Int32))])) _
        refine XS.goto X1.here hx rfl (pc0 := 20) (pc' := 24) rfl (hb hby at_20) (by decide) (by decide) ?_
        show Steps p.tables e below (T1.setTop (mkF m 24 #[.val (.int p1), .val (.int i), .val (.ref r1), .unset, .unset] [(.int (1 : Int32))])) _
        refine XS.istoreN X1.here hx rfl (hb hby at_24) rfl (l' := #[.val (.int p1), .val (.int i), .val (.ref r1), .val (.int (1 : Int32)), .unset]) rfl ?_
        show Steps p.tables e below (T1.setTop (mkF m 25 #[.val (.int p1), .val (.int i), .val (.ref r1), .val (.int (1 : Int32)), .unset] [])) _
        refine XS.aloadN X1.here hx rfl (hb hby at_25) rfl rfl ?_
        show Steps p.tables e below (T1.setTop (mkF m 26 #[.val (.int p1), .val (.int i), .val (.ref r1), .val (.int (1 : Int32)), .unset] [(.ref r1)])) _
        refine st2.trans ?_
        show Steps p.tables e below (T2.setTop (mkF m 29 #[.val (.int p1), .val (.int i), .val (.ref r1), .val (.int (1 : Int32)), .unset] [(.int r2)])) _
        refine XS.istore X2.here hx rfl (hb hby at_29) rfl (l' := #[.val (.int p1), .val (.int i), .val (.ref r1), .val (.int (1 : Int32)), .val (.int r2)]) rfl ?_
        show Steps p.tables e below (T2.setTop (mkF m 31 #[.val (.int p1), .val (.int i), .val (.ref r1), .val (.int (1 : Int32)), .val (.int r2)] [])) _
        refine XS.iload X2.here hx rfl (hb hby at_31) rfl ?_
        show Steps p.tables e below (T2.setTop (mkF m 33 #[.val (.int p1), .val (.int i), .val (.ref r1), .val (.int (1 : Int32)), .val (.int r2)] [(.int r2)])) _
        refine XS.iloadN X2.here hx rfl (hb hby at_33) rfl ?_
        show Steps p.tables e below (T2.setTop (mkF m 34 #[.val (.int p1), .val (.int i), .val (.ref r1), .val (.int (1 : Int32)), .val (.int r2)] [(.int (1 : Int32)), (.int r2)])) _
        refine XS.icmpYes X2.here hx rfl (pc0 := 34) (pc' := 39) rfl (hb hby at_34) rfl (teq hr2).1 (by decide) (by decide) ?_
        show Steps p.tables e below (T2.setTop (mkF m 39 #[.val (.int p1), .val (.int i), .val (.ref r1), .val (.int (1 : Int32)), .val (.int r2)] [])) _
        refine XS.aloadN X2.here hx rfl (hb hby at_39) rfl rfl ?_
        show Steps p.tables e below (T2.setTop (mkF m 40 #[.val (.int p1), .val (.int i), .val (.ref r1), .val (.int (1 : Int32)), .val (.int r2)] [(.ref r1)])) _
        refine st5.trans ?_
        show Steps p.tables e below (T5.setTop (mkF m 43 #[.val (.int p1), .val (.int i), .val (.ref r1), .val (.int (1 : Int32)), .val (.int r2)] [(.int r5)])) _
        refine XS.ifNo X5.here hx rfl (hb hby at_43) rfl ((if0 _ _).trans (feq hc43).1) ?_
        show Steps p.tables e below (T5.setTop (mkF m 46 #[.val (.int p1), .val (.int i), .val (.ref r1), .val (.int (1 : Int32)), .val (.int r2)] [])) _
        refine XS.iload X5.here hx rfl (hb hby at_46) rfl ?_
        show Steps p.tables e below (T5.setTop (mkF m 48 #[.val (.int p1), .val (.int i), .val (.ref r1), .val (.int (1 : Int32)), .val (.int r2)] [(.int r2)])) _
        refine XS.ifYes X5.here hx rfl (pc0 := 48) (pc' := 53) rfl (hb hby at_48) rfl ((if0 _ _).trans (feq (by rw [hr2]; decide)).2) (by decide) (by decide) ?_
        show Steps p.tables e below (T5.setTop (mkF m 53 #[.val (.int p1), .val (.int i), .val (.ref r1), .val (.int (1 : Int32)), .val (.int r2)] [])) _
        refine XS.iconst X5.here hx rfl (hb hby at_53) ?_
        show Steps p.tables e below (T5.setTop (mkF m 54 #[.val (.int p1), .val (.int i), .val (.ref r1), .val (.int (1 : Int32)), .val (.int r2)] [(.int (1 : Int32))])) _
        exact retN X5 hx (t := .boolean) Bd.returns (by simp) (hb hby at_54) hr
      · show Qrm0 Z p1 w h0 n0 _ T5.heap _
        exact ⟨rfl, N5⟩
  · obtain ⟨Fv, Fr0⟩ := FN _ (own_n11 hc16) (own_i17 hib.2)
    rw [← hr1] at Fv Fr0
    have f8 := (Fv.keep KC1 nin0)
    have f9 := (EL.keep KC1)
    obtain ⟨cq7, kq7, q7a, q7b, q7c⟩ := isOf hZ rfl f9
    obtain ⟨_, _, ⟨T7, L7, k7, n7⟩, -, X7, ⟨Lc7, hQ7, l7, y7, z7⟩, st7⟩ := X1.virtualBack hx (y := (⟨"com/example/keysteward/keysteward/cli/Option", "takesValue", "()Z"⟩ : MethodName)) (z := (⟨"com/example/keysteward/keysteward/cli/Option", "takesValue", "()Z"⟩ : MethodName)) hown (mvT hZ (hw _ (List.mem_of_getElem? (i := 43) rfl))) (mvT hZ (hw _ (List.mem_of_getElem? (i := 44) rfl))) (notFace_of_selects (args := #[]) (mvT hZ (hw _ (List.mem_of_getElem? (i := 46) rfl)))) (mvT hZ (hw _ (List.mem_of_getElem? (i := 46) rfl))) (mvT hZ (hw _ (List.mem_of_getElem? (i := 45) rfl))) (by decide) (backOf (W := 0) (rm2b l Z a0 hw [] r1  T1.heap n0 Z1 f8) hZ (hw _ (List.mem_of_getElem? (i := 47) rfl)) (hw _ (List.mem_of_getElem? (i := 8) rfl)) (by decide) (by decide)) q7a q7c (g := (mkF m 26 #[.val (.int p1), .val (.int i), .val (.ref r1), .val (.int (0 : Int32)), .unset] [(.ref r1)])) rfl (by rw [hml]; rfl) (Steps.refl _) (argsL := []) (rest := []) (lenOf pd_1 rfl) rfl (by show 2 * 0 + _ ≤ _; exact Nat.le_of_eq rfl) (hb hby at_26) (fun _ _ => ⟨rfl, rfl, (by decide : 1 + 0 ≤ _), (by decide : 17 + 0 ≤ _)⟩)
    dsimp only [Pt.U, Pt.locs, Pt.cells, Pt.slots] at X7 l7 y7 z7 st7 hQ7
    subst l7 y7 z7
    obtain ⟨r7, hr7, rfl, N7q, e7⟩ := hQ7
    have N7 := Fr.app N1 N7q
    have f11 := (Fr0.keep KC1 nin0)
    obtain ⟨cq10, kq10, q10a, q10b, q10c⟩ := isOf hZ e7 f9
    obtain ⟨_, _, ⟨T10, L10, k10, n10⟩, -, X10, ⟨Lc10, hQ10, l10, y10, z10⟩, st10⟩ := X7.virtualBack hx (y := (⟨"com/example/keysteward/keysteward/cli/Option", "repeatable", "()Z"⟩ : MethodName)) (z := (⟨"com/example/keysteward/keysteward/cli/Option", "repeatable", "()Z"⟩ : MethodName)) hown (mvT hZ (hw _ (List.mem_of_getElem? (i := 50) rfl))) (mvT hZ (hw _ (List.mem_of_getElem? (i := 51) rfl))) (notFace_of_selects (args := #[]) (mvT hZ (hw _ (List.mem_of_getElem? (i := 53) rfl)))) (mvT hZ (hw _ (List.mem_of_getElem? (i := 53) rfl))) (mvT hZ (hw _ (List.mem_of_getElem? (i := 52) rfl))) (by decide) (backOf (W := 0) (rm3 l Z a0 hw [] r1 (0 : Int32) T1.heap n0 Z1 f11) hZ (hw _ (List.mem_of_getElem? (i := 54) rfl)) (hw _ (List.mem_of_getElem? (i := 8) rfl)) (by decide) (by decide)) q10a q10c (g := (mkF m 40 #[.val (.int p1), .val (.int i), .val (.ref r1), .val (.int (0 : Int32)), .val (.int r7)] [(.ref r1)])) rfl (by rw [hml]; rfl) (Steps.refl _) (argsL := []) (rest := []) (lenOf pd_1 rfl) rfl (by show 2 * 0 + _ ≤ _; exact Nat.le_of_eq rfl) (hb hby at_40) (fun _ _ => ⟨rfl, e7, (by decide : 1 + 0 ≤ _), (by decide : 17 + 0 ≤ _)⟩)
    dsimp only [Pt.U, Pt.locs, Pt.cells, Pt.slots] at X10 l10 y10 z10 st10 hQ10
    subst l10 y10 z10
    obtain ⟨r10, hr10, rfl, N10q, e10⟩ := hQ10
    have N10 := Fr.app N7 N10q
    obtain ⟨fs, hr, hrun, hended, hW, hsame⟩ := X10.leave (v := some (.int (1 : Int32))) (fun h => by rw [Bd.returns] at h; cases h)
    refine ⟨_, _, pre0 _ ?_, hrun, hended, _, _, rfl, ?_, ⟨_, rfl⟩, hW, hsame.mono (by decide) (by decide)⟩
    · show Steps p.tables e below (s₁.setTop (mkF m 0 #[.val (.int p1), .unset, .unset, .unset, .unset] [])) _
      refine XS.iloadN X0.here hx rfl (hb hby at_0) rfl ?_
      show Steps p.tables e below (s₁.setTop (mkF m 1 #[.val (.int p1), .unset, .unset, .unset, .unset] [(.int p1)])) _
      refine X0.ldcInt hx hown (mvT hZ (hw _ (List.mem_of_getElem? (i := 0) rfl))) (g := (mkF m 1 #[.val (.int p1), .unset, .unset, .unset, .unset] [(.int p1)])) rfl (hb hby at_1) _ ?_
      show Steps p.tables e below (s₁.setTop (mkF m 3 #[.val (.int p1), .unset, .unset, .unset, .unset] [(.int (2147483647 : Int32)), (.int p1)])) _
      refine XS.iand X0.here hx rfl (hb hby at_3) rfl ?_
      show Steps p.tables e below (s₁.setTop (mkF m 4 #[.val (.int p1), .unset, .unset, .unset, .unset] [(.int (p1 &&& (2147483647 : Int32)))])) _
      refine XS.bipush X0.here hx rfl (hb hby at_4) ?_
      show Steps p.tables e below (s₁.setTop (mkF m 6 #[.val (.int p1), .unset, .unset, .unset, .unset] [(.int (17 : Int32)), (.int (p1 &&& (2147483647 : Int32)))])) _
      refine iremM X0 hx rfl (hb hby at_6) rfl (by decide) ?_
      show Steps p.tables e below (s₁.setTop (mkF m 7 #[.val (.int p1), .unset, .unset, .unset, .unset] [(.int ((p1 &&& (2147483647 : Int32)) % (17 : Int32)))])) _
      refine XS.istoreN X0.here hx rfl (hb hby at_7) rfl (l' := #[.val (.int p1), .val (.int ((p1 &&& (2147483647 : Int32)) % (17 : Int32))), .unset, .unset, .unset]) rfl ?_
      show Steps p.tables e below (s₁.setTop (mkF m 8 #[.val (.int p1), .val (.int ((p1 &&& (2147483647 : Int32)) % (17 : Int32))), .unset, .unset, .unset] [])) _
      rw [← hi]
      show Steps p.tables e below (s₁.setTop (mkF m 8 #[.val (.int p1), .val (.int i), .unset, .unset, .unset] [])) _
      refine XS.iloadN X0.here hx rfl (hb hby at_8) rfl ?_
      show Steps p.tables e below (s₁.setTop (mkF m 9 #[.val (.int p1), .val (.int i), .unset, .unset, .unset] [(.int i)])) _
      refine st1 _ ?_
      show Steps p.tables e below (T1.setTop (mkF m 12 #[.val (.int p1), .val (.int i), .unset, .unset, .unset] [(.ref r1)])) _
      refine XS.astoreN X1.here hx rfl (hb hby at_12) rfl rfl (l' := #[.val (.int p1), .val (.int i), .val (.ref r1), .unset, .unset]) rfl ?_
      show Steps p.tables e below (T1.setTop (mkF m 13 #[.val (.int p1), .val (.int i), .val (.ref r1), .unset, .unset] [])) _
      refine XS.iloadN X1.here hx rfl (hb hby at_13) rfl ?_
      show Steps p.tables e below (T1.setTop (mkF m 14 #[.val (.int p1), .val (.int i), .val (.ref r1), .unset, .unset] [(.int i)])) _
      refine XS.bipush X1.here hx rfl (hb hby at_14) ?_
      show Steps p.tables e below (T1.setTop (mkF m 16 #[.val (.int p1), .val (.int i), .val (.ref r1), .unset, .unset] [(.int (11 : Int32)), (.int i)])) _
      refine XS.icmpYes X1.here hx rfl (pc0 := 16) (pc' := 23) rfl (hb hby at_16) rfl (flt hc16).2.1 (by decide) (by decide) ?_
      show Steps p.tables e below (T1.setTop (mkF m 23 #[.val (.int p1), .val (.int i), .val (.ref r1), .unset, .unset] [])) _
      refine XS.iconst X1.here hx rfl (hb hby at_23) ?_
      show Steps p.tables e below (T1.setTop (mkF m 24 #[.val (.int p1), .val (.int i), .val (.ref r1), .unset, .unset] [(.int (0 : Int32))])) _
      refine XS.istoreN X1.here hx rfl (hb hby at_24) rfl (l' := #[.val (.int p1), .val (.int i), .val (.ref r1), .val (.int (0 : Int32)), .unset]) rfl ?_
      show Steps p.tables e below (T1.setTop (mkF m 25 #[.val (.int p1), .val (.int i), .val (.ref r1), .val (.int (0 : Int32)), .unset] [])) _
      refine XS.aloadN X1.here hx rfl (hb hby at_25) rfl rfl ?_
      show Steps p.tables e below (T1.setTop (mkF m 26 #[.val (.int p1), .val (.int i), .val (.ref r1), .val (.int (0 : Int32)), .unset] [(.ref r1)])) _
      refine st7.trans ?_
      show Steps p.tables e below (T7.setTop (mkF m 29 #[.val (.int p1), .val (.int i), .val (.ref r1), .val (.int (0 : Int32)), .unset] [(.int r7)])) _
      refine XS.istore X7.here hx rfl (hb hby at_29) rfl (l' := #[.val (.int p1), .val (.int i), .val (.ref r1), .val (.int (0 : Int32)), .val (.int r7)]) rfl ?_
      show Steps p.tables e below (T7.setTop (mkF m 31 #[.val (.int p1), .val (.int i), .val (.ref r1), .val (.int (0 : Int32)), .val (.int r7)] [])) _
      refine XS.iload X7.here hx rfl (hb hby at_31) rfl ?_
      show Steps p.tables e below (T7.setTop (mkF m 33 #[.val (.int p1), .val (.int i), .val (.ref r1), .val (.int (0 : Int32)), .val (.int r7)] [(.int r7)])) _
      refine XS.iloadN X7.here hx rfl (hb hby at_33) rfl ?_
      show Steps p.tables e below (T7.setTop (mkF m 34 #[.val (.int p1), .val (.int i), .val (.ref r1), .val (.int (0 : Int32)), .val (.int r7)] [(.int (0 : Int32)), (.int r7)])) _
      refine XS.icmpYes X7.here hx rfl (pc0 := 34) (pc' := 39) rfl (hb hby at_34) rfl (teq hr7).1 (by decide) (by decide) ?_
      show Steps p.tables e below (T7.setTop (mkF m 39 #[.val (.int p1), .val (.int i), .val (.ref r1), .val (.int (0 : Int32)), .val (.int r7)] [])) _
      refine XS.aloadN X7.here hx rfl (hb hby at_39) rfl rfl ?_
      show Steps p.tables e below (T7.setTop (mkF m 40 #[.val (.int p1), .val (.int i), .val (.ref r1), .val (.int (0 : Int32)), .val (.int r7)] [(.ref r1)])) _
      refine st10.trans ?_
      show Steps p.tables e below (T10.setTop (mkF m 43 #[.val (.int p1), .val (.int i), .val (.ref r1), .val (.int (0 : Int32)), .val (.int r7)] [(.int r10)])) _
      refine XS.ifYes X10.here hx rfl (pc0 := 43) (pc' := 53) rfl (hb hby at_43) rfl ((if0 _ _).trans (teq (by rw [hr10]; rfl)).1) (by decide) (by decide) ?_
      show Steps p.tables e below (T10.setTop (mkF m 53 #[.val (.int p1), .val (.int i), .val (.ref r1), .val (.int (0 : Int32)), .val (.int r7)] [])) _
      refine XS.iconst X10.here hx rfl (hb hby at_53) ?_
      show Steps p.tables e below (T10.setTop (mkF m 54 #[.val (.int p1), .val (.int i), .val (.ref r1), .val (.int (0 : Int32)), .val (.int r7)] [(.int (1 : Int32))])) _
      exact retN X10 hx (t := .boolean) Bd.returns (by simp) (hb hby at_54) hr
    · show Qrm0 Z p1 w h0 n0 _ T10.heap _
      exact ⟨rfl, N10⟩
set_option maxRecDepth 65536 in
set_option maxHeartbeats 40000000 in
theorem comes_1 {Post : Tables → Env → Array Value → State → Outcome → State → Prop} (hpost : ∀ tb e args s v u, (limb_1_1.after args s (.returned v) u = true ∧ limb_1_2.after args s (.returned v) u = true) → FrameEnd s (.returned v) u (Jvm.fieldLocs frame_1_writes args s ++ Jvm.arrayLocs frame_1_arrays args s ++ Jvm.staticLocs frame_1_statics s) 16 128 → Post tb e args s (.returned v) u) :
    ArmFor flags0 classFile x code maxLocals ret World_1 tables_1 room_1 Calls_1 rest_1 Pre_1 Post := by
  intro l hfl _ _ p e ha hc hk s m args below hf hA hF happ hP
  obtain ⟨hcalls, hrest, hpre⟩ := hP
  obtain ⟨-, -, -, hnamed, -, -, -, hat⟩ := (Spec.applies_iff hf).mp happ
  obtain ⟨hg, hn⟩ := and_e (Cond.before_iff.mp (show (Jvm.Cond.and given_1 narrow_1).before args s = true from hpre))
  obtain ⟨hcount, hg0⟩ := and_e hg
  obtain ⟨w0, rfl⟩ : ∃ w0 : Value, args = #[w0] := by
    have hs : args.size = 1 := by simpa [Cond.value, given_1] using hcount
    obtain ⟨L⟩ := args
    match L, hs with
    | [w0], _ => exact ⟨w0, rfl⟩
  have hw := fun d (hd : d ∈ tables_1) => atoms_spec (ws := Jvm.Cond.code x code maxLocals ret :: tables_1) hat d (List.mem_cons_of_mem _ hd)
  have hfit : Fit s := fun {y c} hc i hi => by
    obtain ⟨ha, rfl⟩ := Array.getElem?_eq_some_iff.mp hc
    have q := List.all_eq_true.mp ((Array.all_eq_true_iff_forall_mem.mp hF) _ (Array.getElem_mem ha)) i (List.mem_range.mpr hi)
    simpa [Array.getElem?_eq_getElem hi] using q
  obtain ⟨i0, ei0⟩ := is_v hg0
  obtain rfl : w0 = (.int i0) := Option.some.inj ei0
  obtain ⟨c0, hn⟩ := and_e hn
  obtain ⟨c1, hn⟩ := and_e hn
  obtain ⟨c2, hn⟩ := and_e hn
  obtain ⟨c3, hn⟩ := and_e hn
  obtain ⟨c4, hn⟩ := and_e hn
  obtain ⟨c5, hn⟩ := and_e hn
  obtain ⟨c6, hn⟩ := and_e hn
  obtain ⟨c7, hn⟩ := and_e hn
  obtain ⟨c8, hn⟩ := and_e hn
  obtain ⟨c9, hn⟩ := and_e hn
  obtain ⟨c10, hn⟩ := and_e hn
  obtain ⟨c11, hn⟩ := and_e hn
  obtain ⟨c12, hn⟩ := and_e hn
  obtain ⟨c13, hn⟩ := and_e hn
  obtain ⟨c14, hn⟩ := and_e hn
  obtain ⟨c15, hn⟩ := and_e hn
  obtain ⟨c16, hn⟩ := and_e hn
  obtain ⟨c17, hn⟩ := and_e hn
  obtain ⟨c18, hn⟩ := and_e hn
  obtain ⟨c19, hn⟩ := and_e hn
  obtain ⟨c20, hn⟩ := and_e hn
  obtain ⟨c21, hn⟩ := and_e hn
  obtain ⟨c22, hn⟩ := and_e hn
  obtain ⟨c23, hn⟩ := and_e hn
  obtain ⟨c24, hn⟩ := and_e hn
  obtain ⟨c25, hn⟩ := and_e hn
  obtain ⟨c26, hn⟩ := and_e hn
  obtain ⟨c27, hn⟩ := and_e hn
  obtain ⟨c28, hn⟩ := and_e hn
  obtain ⟨c29, hn⟩ := and_e hn
  obtain ⟨c30, hn⟩ := and_e hn
  obtain ⟨c31, hn⟩ := and_e hn
  obtain ⟨c32, hn⟩ := and_e hn
  obtain ⟨c33, hn⟩ := and_e hn
  obtain ⟨c34, hn⟩ := and_e hn
  obtain ⟨c35, hn⟩ := and_e hn
  obtain ⟨c36, hn⟩ := and_e hn
  obtain ⟨c37, hn⟩ := and_e hn
  obtain ⟨c38, hn⟩ := and_e hn
  obtain ⟨c39, hn⟩ := and_e hn
  obtain ⟨c40, hn⟩ := and_e hn
  obtain ⟨c41, hn⟩ := and_e hn
  obtain ⟨c42, hn⟩ := and_e hn
  obtain ⟨c43, hn⟩ := and_e hn
  obtain ⟨c44, hn⟩ := and_e hn
  obtain ⟨c45, hn⟩ := and_e hn
  obtain ⟨c46, hn⟩ := and_e hn
  obtain ⟨c47, hn⟩ := and_e hn
  obtain ⟨c48, hn⟩ := and_e hn
  obtain ⟨c49, hn⟩ := and_e hn
  have c50 := hn
  obtain ⟨o0, e0⟩ := exa_v c0
  have S0 := Sta.start e0 (Or.inr ⟨(hw _ (List.mem_of_getElem? (i := 8) rfl)), (hw _ (List.mem_of_getElem? (i := 9) rfl))⟩)
  have X0 := Exa.start e0 c0
  obtain ⟨o1, e1⟩ := exa_v c1
  have S1 := Sta.start e1 (Or.inr ⟨(hw _ (List.mem_of_getElem? (i := 8) rfl)), (hw _ (List.mem_of_getElem? (i := 12) rfl))⟩)
  have X1 := Exa.start e1 c1
  obtain ⟨o2, e2⟩ := exa_v c2
  have S2 := Sta.start e2 (Or.inr ⟨(hw _ (List.mem_of_getElem? (i := 8) rfl)), (hw _ (List.mem_of_getElem? (i := 14) rfl))⟩)
  have X2 := Exa.start e2 c2
  obtain ⟨o3, e3⟩ := exa_v c3
  have S3 := Sta.start e3 (Or.inr ⟨(hw _ (List.mem_of_getElem? (i := 8) rfl)), (hw _ (List.mem_of_getElem? (i := 16) rfl))⟩)
  have X3 := Exa.start e3 c3
  obtain ⟨o4, e4⟩ := exa_v c4
  have S4 := Sta.start e4 (Or.inr ⟨(hw _ (List.mem_of_getElem? (i := 8) rfl)), (hw _ (List.mem_of_getElem? (i := 18) rfl))⟩)
  have X4 := Exa.start e4 c4
  obtain ⟨o5, e5⟩ := exa_v c5
  have S5 := Sta.start e5 (Or.inr ⟨(hw _ (List.mem_of_getElem? (i := 8) rfl)), (hw _ (List.mem_of_getElem? (i := 20) rfl))⟩)
  have X5 := Exa.start e5 c5
  obtain ⟨o6, e6⟩ := exa_v c6
  have S6 := Sta.start e6 (Or.inr ⟨(hw _ (List.mem_of_getElem? (i := 8) rfl)), (hw _ (List.mem_of_getElem? (i := 22) rfl))⟩)
  have X6 := Exa.start e6 c6
  obtain ⟨o7, e7⟩ := exa_v c7
  have S7 := Sta.start e7 (Or.inr ⟨(hw _ (List.mem_of_getElem? (i := 8) rfl)), (hw _ (List.mem_of_getElem? (i := 24) rfl))⟩)
  have X7 := Exa.start e7 c7
  obtain ⟨o8, e8⟩ := exa_v c8
  have S8 := Sta.start e8 (Or.inr ⟨(hw _ (List.mem_of_getElem? (i := 8) rfl)), (hw _ (List.mem_of_getElem? (i := 26) rfl))⟩)
  have X8 := Exa.start e8 c8
  obtain ⟨o9, e9⟩ := exa_v c9
  have S9 := Sta.start e9 (Or.inr ⟨(hw _ (List.mem_of_getElem? (i := 8) rfl)), (hw _ (List.mem_of_getElem? (i := 28) rfl))⟩)
  have X9 := Exa.start e9 c9
  obtain ⟨o10, e10⟩ := exa_v c10
  have S10 := Sta.start e10 (Or.inr ⟨(hw _ (List.mem_of_getElem? (i := 8) rfl)), (hw _ (List.mem_of_getElem? (i := 30) rfl))⟩)
  have X10 := Exa.start e10 c10
  obtain ⟨o11, e11⟩ := exa_v c11
  have S11 := Sta.start e11 (Or.inr ⟨(hw _ (List.mem_of_getElem? (i := 8) rfl)), (hw _ (List.mem_of_getElem? (i := 32) rfl))⟩)
  have X11 := Exa.start e11 c11
  obtain ⟨o12, e12⟩ := exa_v c12
  have S12 := Sta.start e12 (Or.inr ⟨(hw _ (List.mem_of_getElem? (i := 8) rfl)), (hw _ (List.mem_of_getElem? (i := 34) rfl))⟩)
  have X12 := Exa.start e12 c12
  obtain ⟨o13, e13⟩ := exa_v c13
  have S13 := Sta.start e13 (Or.inr ⟨(hw _ (List.mem_of_getElem? (i := 8) rfl)), (hw _ (List.mem_of_getElem? (i := 36) rfl))⟩)
  have X13 := Exa.start e13 c13
  obtain ⟨o14, e14⟩ := exa_v c14
  have S14 := Sta.start e14 (Or.inr ⟨(hw _ (List.mem_of_getElem? (i := 8) rfl)), (hw _ (List.mem_of_getElem? (i := 38) rfl))⟩)
  have X14 := Exa.start e14 c14
  obtain ⟨o15, e15⟩ := exa_v c15
  have S15 := Sta.start e15 (Or.inr ⟨(hw _ (List.mem_of_getElem? (i := 8) rfl)), (hw _ (List.mem_of_getElem? (i := 40) rfl))⟩)
  have X15 := Exa.start e15 c15
  obtain ⟨o16, e16⟩ := exa_v c16
  have S16 := Sta.start e16 (Or.inr ⟨(hw _ (List.mem_of_getElem? (i := 8) rfl)), (hw _ (List.mem_of_getElem? (i := 42) rfl))⟩)
  have X16 := Exa.start e16 c16
  obtain ⟨x0, q0⟩ := exa_v c17
  have v0 := q0
  rw [fld_at e0] at v0
  have G0 := Fld.start v0
  obtain ⟨x3, q3⟩ := exa_v c19
  have v3 := q3
  rw [fld_at e3] at v3
  have G3 := Fld.start v3
  obtain ⟨x8, q8⟩ := exa_v c21
  have v8 := q8
  rw [fld_at e8] at v8
  have G8 := Fld.start v8
  obtain ⟨x6, q6⟩ := exa_v c25
  have v6 := q6
  rw [fld_at e6] at v6
  have G6 := Fld.start v6
  obtain ⟨x7, q7⟩ := exa_v c27
  have v7 := q7
  rw [fld_at e7] at v7
  have G7 := Fld.start v7
  obtain ⟨x2, q2⟩ := exa_v c29
  have v2 := q2
  rw [fld_at e2] at v2
  have G2 := Fld.start v2
  obtain ⟨x1, q1⟩ := exa_v c33
  have v1 := q1
  rw [fld_at e1] at v1
  have G1 := Fld.start v1
  obtain ⟨x10, q10⟩ := exa_v c39
  have v10 := q10
  rw [fld_at e10] at v10
  have G10 := Fld.start v10
  obtain ⟨x5, q5⟩ := exa_v c45
  have v5 := q5
  rw [fld_at e5] at v5
  have G5 := Fld.start v5
  have v9 := own_eqref c23 q3
  rw [fld_at e9] at v9
  have G9 := Fld.start v9
  have v4 := own_eqref c37 q1
  rw [fld_at e4] at v4
  have G4 := Fld.start v4
  have v11 := null_v c31
  rw [fld_at e11] at v11
  have G11 := Fld.start v11
  have v13 := null_v c35
  rw [fld_at e13] at v13
  have G13 := Fld.start v13
  have v16 := null_v c41
  rw [fld_at e16] at v16
  have G16 := Fld.start v16
  have v15 := null_v c43
  rw [fld_at e15] at v15
  have G15 := Fld.start v15
  have v14 := null_v c47
  rw [fld_at e14] at v14
  have G14 := Fld.start v14
  have v12 := null_v c49
  rw [fld_at e12] at v12
  have G12 := Fld.start v12
  have u0 := own_eqint c18
  rw [fld_at e0] at u0
  have H0 := Fld.start u0
  have u3 := own_eqint c20
  rw [fld_at e3] at u3
  have H3 := Fld.start u3
  have u8 := own_eqint c22
  rw [fld_at e8] at u8
  have H8 := Fld.start u8
  have u9 := own_eqint c24
  rw [fld_at e9] at u9
  have H9 := Fld.start u9
  have u6 := own_eqint c26
  rw [fld_at e6] at u6
  have H6 := Fld.start u6
  have u7 := own_eqint c28
  rw [fld_at e7] at u7
  have H7 := Fld.start u7
  have u2 := own_eqint c30
  rw [fld_at e2] at u2
  have H2 := Fld.start u2
  have u11 := own_eqint c32
  rw [fld_at e11] at u11
  have H11 := Fld.start u11
  have u1 := own_eqint c34
  rw [fld_at e1] at u1
  have H1 := Fld.start u1
  have u13 := own_eqint c36
  rw [fld_at e13] at u13
  have H13 := Fld.start u13
  have u4 := own_eqint c38
  rw [fld_at e4] at u4
  have H4 := Fld.start u4
  have u10 := own_eqint c40
  rw [fld_at e10] at u10
  have H10 := Fld.start u10
  have u16 := own_eqint c42
  rw [fld_at e16] at u16
  have H16 := Fld.start u16
  have u15 := own_eqint c44
  rw [fld_at e15] at u15
  have H15 := Fld.start u15
  have u5 := own_eqint c46
  rw [fld_at e5] at u5
  have H5 := Fld.start u5
  have u14 := own_eqint c48
  rw [fld_at e14] at u14
  have H14 := Fld.start u14
  have u12 := own_eqint c50
  rw [fld_at e12] at u12
  have H12 := Fld.start u12
  obtain ⟨w, hwd⟩ : ∃ w : Nat → Addr, w = fun k => [o0, o1, o2, o3, o4, o5, o6, o7, o8, o9, o10, o11, o12, o13, o14, o15, o16].getD k 0 := ⟨_, rfl⟩
  have z0 : o0 = w 0 := by rw [hwd]; rfl
  have z1 : o1 = w 1 := by rw [hwd]; rfl
  have z2 : o2 = w 2 := by rw [hwd]; rfl
  have z3 : o3 = w 3 := by rw [hwd]; rfl
  have z4 : o4 = w 4 := by rw [hwd]; rfl
  have z5 : o5 = w 5 := by rw [hwd]; rfl
  have z6 : o6 = w 6 := by rw [hwd]; rfl
  have z7 : o7 = w 7 := by rw [hwd]; rfl
  have z8 : o8 = w 8 := by rw [hwd]; rfl
  have z9 : o9 = w 9 := by rw [hwd]; rfl
  have z10 : o10 = w 10 := by rw [hwd]; rfl
  have z11 : o11 = w 11 := by rw [hwd]; rfl
  have z12 : o12 = w 12 := by rw [hwd]; rfl
  have z13 : o13 = w 13 := by rw [hwd]; rfl
  have z14 : o14 = w 14 := by rw [hwd]; rfl
  have z15 : o15 = w 15 := by rw [hwd]; rfl
  have z16 : o16 = w 16 := by rw [hwd]; rfl
  rw [z0] at S0 X0 G0 H0
  rw [z1] at S1 X1 G1 H1
  rw [z2] at S2 X2 G2 H2
  rw [z3] at S3 X3 G3 H3
  rw [z4] at S4 X4 G4 H4
  rw [z5] at S5 X5 G5 H5
  rw [z6] at S6 X6 G6 H6
  rw [z7] at S7 X7 G7 H7
  rw [z8] at S8 X8 G8 H8
  rw [z9] at S9 X9 G9 H9
  rw [z10] at S10 X10 G10 H10
  rw [z11] at S11 X11 G11 H11
  rw [z12] at S12 X12 G12 H12
  rw [z13] at S13 X13 G13 H13
  rw [z14] at S14 X14 G14 H14
  rw [z15] at S15 X15 G15 H15
  rw [z16] at S16 X16 G16 H16
  obtain ⟨n, o, h1, h2, h3, _, L, rfl, ⟨rfl, N⟩, hq⟩ := rm0 l s _ hw tables_1 i0 w s.heap s.heap.size (Nat.le_refl _) S0 S1 S2 S3 S4 S5 S6 S7 S8 S9 S10 S11 S12 S13 S14 S15 S16 (own_all17 X0 X1 X2 X3 X4 X5 X6 X7 X8 X9 X10 X11 X12 X13 X14 X15 X16) (own_all11 ⟨_, G0⟩ ⟨_, G1⟩ ⟨_, G2⟩ ⟨_, G3⟩ ⟨_, G4⟩ ⟨_, G5⟩ ⟨_, G6⟩ ⟨_, G7⟩ ⟨_, G8⟩ ⟨_, G9⟩ ⟨_, G10⟩) (own_all6 ⟨G11, H11⟩ ⟨G12, H12⟩ ⟨G13, H13⟩ ⟨G14, H14⟩ ⟨G15, H15⟩ ⟨G16, H16⟩) (own_all17 ⟨_, H0⟩ ⟨_, H1⟩ ⟨_, H2⟩ ⟨_, H3⟩ ⟨_, H4⟩ ⟨_, H5⟩ ⟨_, H6⟩ ⟨_, H7⟩ ⟨_, H8⟩ ⟨_, H9⟩ ⟨_, H10⟩ ⟨_, H11⟩ ⟨_, H12⟩ ⟨_, H13⟩ ⟨_, H14⟩ ⟨_, H15⟩ ⟨_, H16⟩) p e ha hc hk s m _ below hf ((Spec.applies_iff_loose hf).mp happ).1 ⟨rfl, State.Warmed39.refl s, rfl⟩ trivial
  refine ⟨n, _, h1, h2, h3, hpost _ _ _ _ _ _ ⟨Cond.after_iff.mpr rfl, Cond.after_iff.mpr (eq_i res_at (Term.int_eval (1)) rfl)⟩ ⟨hq.1, hq.2.1, (hq.2.2.sift fun y hy => Or.inr (N y hy)).mono (by decide) (by decide)⟩⟩
theorem main_1_1 : Claimed_1_1 := comes_1 fun _ _ _ _ _ _ h hF => ⟨h.1, hF⟩
theorem main_1_2 : Claimed_1_2 := comes_1 fun _ _ _ _ _ _ h hF => ⟨h.2, hF⟩
end Jvm.Pilot.@@N@@
namespace Jvm.Pilot.@@N@@
open Jvm Jvm.ClassFile Sem Op Lib Jvm.Free Jvm.Stand Jvm.Pilot.@@N@@.Jvm.D
/-! MADE BY PROGRAM (witnessworld.py) out of the Statement's table words and the real class files: 16 classes; the members and pool entries that the words name. The judged class is class 1, her method 2. -/
namespace start1
open Jvm.ClassFile
def u (s : String) : CpInfo := .utf8 (stringToUtf16 s)
/-- a pool by its gaps: so many unusable entries, then the entry; so many at the end -/
def gap : Nat → List CpInfo → List CpInfo
  | 0, r => r
  | n + 1, r => .unusable :: gap n r
def poolList (es : List (Nat × CpInfo)) (last : Nat) : List CpInfo := es.foldr (fun e r => gap e.1 (e.2 :: r)) (gap last [])
def pool (es : List (Nat × CpInfo)) (last : Nat) : Array CpInfo := ⟨poolList es last⟩
def fileOf (pool : Array CpInfo) (this : Nat) (attrs : Array Attribute := #[]) (ms : Array MethodInfo := #[]) (fl : Nat := 33) (sup : Nat := 0) (ifs : Array Nat := #[]) (fds : Array FieldInfo := #[]) : ClassFile where
  minorVersion := 0
  majorVersion := 65
  constantPool := pool
  accessFlags := fl
  thisClass := this
  superClass := sup
  interfaces := ifs
  fields := fds
  methods := ms
  attributes := attrs
def plain (name : String) (sup : Option ClassId) : Class where
  name := name
  kind := .ordinary
  loader := none
  accessFlags := 33
  super := sup
  interfaces := #[]
  cf := none
  fields := #[]
  methods := #[]
  instanceTypes := #[]
  staticTypes := #[]
  resolved := #[]
  callSites := []
  init := .initialized
  statics := none
  mirror := none

def pool0 : Array CpInfo := pool [(5, u "<init>"), (0, u "()V"), (1, .class_ 10), (1, u "java/lang/Object")] 113

def k0m0 : Method := { name := "<init>", desc := "()V", sig := { parameters := [], returnType := none }, accessFlags := 1, code := none }
/-- java/lang/Object -/
def k0 : Class := { plain "java/lang/Object" none with
  accessFlags := 33
  interfaces := #[]
  cf := some (fileOf pool0 8 #[] #[{ accessFlags := 1, nameIndex := 5, descriptorIndex := 6, attributes := #[] }] 33 0 #[] #[])
  fields := #[]
  methods := #[k0m0]
  instanceTypes := #[]
  staticTypes := #[]
  resolved := Array.replicate 124 none
  statics := none }

def pool1 : Array CpInfo := pool [(2, .class_ 4), (1, u "java/lang/Object"), (0, u "<init>"), (0, u "()V"), (0, .class_ 8), (0, u "com/example/keysteward/keysteward/cli/Option"), (0, .fieldref 7 10), (0, .nameAndType 11 12), (0, u "STORE"), (0, u "Lcom/example/keysteward/keysteward/cli/Option;"), (0, .fieldref 7 14), (0, .nameAndType 15 12), (0, u "PASSPHRASE_FILE"), (0, .fieldref 7 17), (0, .nameAndType 18 12), (0, u "ACCOUNT"), (0, .fieldref 7 20), (0, .nameAndType 21 12), (0, u "DAYS"), (0, .fieldref 7 23), (0, .nameAndType 24 12), (0, u "CERT_OUT"), (0, .fieldref 7 26), (0, .nameAndType 27 12), (0, u "SCOPE"), (0, .fieldref 7 29), (0, .nameAndType 30 12), (0, u "AUDIENCE"), (0, .fieldref 7 32), (0, .nameAndType 33 12), (0, u "LIFETIME"), (0, .fieldref 7 35), (0, .nameAndType 36 12), (0, u "KEY"), (0, .fieldref 7 38), (0, .nameAndType 39 12), (0, u "PORT"), (0, .fieldref 7 41), (0, .nameAndType 42 12), (0, u "PROJECT"), (0, .fieldref 7 44), (0, .nameAndType 45 12), (0, u "REMOVE_ORIGINAL"), (0, .fieldref 7 47), (0, .nameAndType 48 12), (0, u "VERIFY"), (0, .fieldref 7 50), (0, .nameAndType 51 12), (0, u "HISTORY"), (0, .fieldref 7 53), (0, .nameAndType 54 12), (0, u "PLACES"), (0, .fieldref 7 56), (0, .nameAndType 57 12), (0, u "JSON"), (0, .fieldref 7 59), (0, .nameAndType 60 12), (0, u "HELP"), (0, .integer 2147483647), (0, .methodref 63 64), (0, .class_ 65), (0, .nameAndType 66 67), (0, u "com/example/keysteward/keysteward/cli/OptionTakesValuePinLaw"), (0, u "pick"), (0, u "(I)Lcom/example/keysteward/keysteward/cli/Option;"), (0, .methodref 7 69), (0, .nameAndType 70 71), (0, u "takesValue"), (0, u "()Z"), (0, .methodref 7 73), (0, .nameAndType 74 71), (0, u "repeatable"), (2, u "law"), (0, u "(I)Z")] 3

def k1m0 : Method := { name := "<init>", desc := "()V", sig := { parameters := [], returnType := none }, accessFlags := 1, code := none }
def k1c1 : Code := { maxStack := 4, maxLocals := 2, code := method_2_code, exceptionTable := #[], attributes := #[] }
def k1m1 : Method := { name := "pick", desc := "(I)Lcom/example/keysteward/keysteward/cli/Option;", sig := { parameters := [.int], returnType := some (.object "com/example/keysteward/keysteward/cli/Option") }, accessFlags := 10, code := some k1c1 }
def k1c2 : Code := { maxStack := 2, maxLocals := 5, code := code, exceptionTable := #[], attributes := #[] }
def k1m2 : Method := { name := "law", desc := "(I)Z", sig := { parameters := [.int], returnType := some .boolean }, accessFlags := 9, code := some k1c2 }
/-- com/example/keysteward/keysteward/cli/OptionTakesValuePinLaw -/
def k1 : Class := { plain "com/example/keysteward/keysteward/cli/OptionTakesValuePinLaw" (some 0) with
  accessFlags := 49
  interfaces := #[]
  cf := some (fileOf pool1 63 #[] #[{ accessFlags := 1, nameIndex := 5, descriptorIndex := 6, attributes := #[] }, { accessFlags := 10, nameIndex := 66, descriptorIndex := 67, attributes := #[] }, { accessFlags := 9, nameIndex := 77, descriptorIndex := 78, attributes := #[] }] 49 2 #[] #[])
  fields := #[]
  methods := #[k1m0, k1m1, k1m2]
  instanceTypes := #[]
  staticTypes := #[]
  resolved := Array.replicate 82 none
  statics := none }

def pool2 : Array CpInfo := pool [(1, .class_ 2), (0, u "java/lang/constant/Constable"), (0, .class_ 4), (0, u "java/lang/Object")] 6

/-- java/lang/constant/Constable -/
def k2 : Class := { plain "java/lang/constant/Constable" (some 0) with
  accessFlags := 1537
  interfaces := #[]
  cf := some (fileOf pool2 1 #[] #[] 1537 3 #[] #[])
  fields := #[]
  methods := #[]
  instanceTypes := #[]
  staticTypes := #[]
  resolved := Array.replicate 11 none
  statics := none }

def pool3 : Array CpInfo := pool [(1, .class_ 2), (0, u "java/lang/Comparable"), (0, .class_ 4), (0, u "java/lang/Object")] 7

/-- java/lang/Comparable -/
def k3 : Class := { plain "java/lang/Comparable" (some 0) with
  accessFlags := 1537
  interfaces := #[]
  cf := some (fileOf pool3 1 #[] #[] 1537 3 #[] #[])
  fields := #[]
  methods := #[]
  instanceTypes := #[]
  staticTypes := #[]
  resolved := Array.replicate 12 none
  statics := none }

def pool4 : Array CpInfo := pool [(1, .class_ 2), (0, u "java/io/Serializable"), (0, .class_ 4), (0, u "java/lang/Object")] 2

/-- java/io/Serializable -/
def k4 : Class := { plain "java/io/Serializable" (some 0) with
  accessFlags := 1537
  interfaces := #[]
  cf := some (fileOf pool4 1 #[] #[] 1537 3 #[] #[])
  fields := #[]
  methods := #[]
  instanceTypes := #[]
  staticTypes := #[]
  resolved := Array.replicate 7 none
  statics := none }

def pool5 : Array CpInfo := pool [(2, .class_ 4), (1, u "java/lang/Enum"), (0, u "name"), (0, u "Ljava/lang/String;"), (2, u "ordinal"), (0, u "I"), (1, .class_ 14), (1, u "java/lang/Object"), (4, u "hash"), (86, .class_ 108), (1, u "java/lang/Enum$EnumDesc"), (2, .class_ 112), (0, u "java/lang/constant/Constable"), (0, .class_ 114), (0, u "java/lang/Comparable"), (0, .class_ 116), (0, u "java/io/Serializable")] 87

/-- java/lang/Enum -/
def k5 : Class := { plain "java/lang/Enum" (some 0) with
  accessFlags := 1057
  interfaces := #[2, 3, 4]
  cf := some (fileOf pool5 2 #[.nestMembers #[106]] #[] 1057 12 #[111, 113, 115] #[{ accessFlags := 18, nameIndex := 5, descriptorIndex := 6, attributes := #[] }, { accessFlags := 18, nameIndex := 9, descriptorIndex := 10, attributes := #[] }, { accessFlags := 2, nameIndex := 19, descriptorIndex := 10, attributes := #[] }])
  fields := #[{ name := "name", type := (.object "java/lang/String"), accessFlags := 18, slot := 0, constantValue := 0 }, { name := "ordinal", type := .int, accessFlags := 18, slot := 1, constantValue := 0 }, { name := "hash", type := .int, accessFlags := 2, slot := 2, constantValue := 0 }]
  methods := #[]
  instanceTypes := #[(.object "java/lang/String"), .int, .int]
  staticTypes := #[]
  resolved := Array.replicate 204 none
  statics := none }

def pool6 : Array CpInfo := pool [(1, .class_ 2), (0, u "com/example/keysteward/keysteward/cli/Option"), (2, u "STORE"), (0, u "Lcom/example/keysteward/keysteward/cli/Option;"), (2, u "PASSPHRASE_FILE"), (2, u "ACCOUNT"), (2, u "DAYS"), (2, u "CERT_OUT"), (2, u "SCOPE"), (2, u "AUDIENCE"), (2, u "LIFETIME"), (2, u "KEY"), (2, u "PORT"), (2, u "PROJECT"), (2, u "REMOVE_ORIGINAL"), (2, u "VERIFY"), (2, u "HISTORY"), (2, u "PLACES"), (2, u "JSON"), (2, u "HELP"), (2, u "$VALUES"), (0, u "[Lcom/example/keysteward/keysteward/cli/Option;"), (6, .class_ 67), (1, u "java/lang/Enum"), (8, u "name"), (0, u "Ljava/lang/String;"), (0, .fieldref 1 79), (0, .nameAndType 80 77), (0, u "valueName"), (0, .fieldref 1 82), (0, .nameAndType 83 84), (0, u "repeatable"), (0, u "Z"), (30, u "takesValue"), (0, u "()Z")] 132

def k6c0 : Code := { maxStack := 1, maxLocals := 1, code := prog_8_method_5_code, exceptionTable := #[], attributes := #[] }
def k6m0 : Method := { name := "takesValue", desc := "()Z", sig := { parameters := [], returnType := some .boolean }, accessFlags := 0, code := some k6c0 }
def k6c1 : Code := { maxStack := 1, maxLocals := 1, code := prog_8_method_6_code, exceptionTable := #[], attributes := #[] }
def k6m1 : Method := { name := "repeatable", desc := "()Z", sig := { parameters := [], returnType := some .boolean }, accessFlags := 0, code := some k6c1 }
/-- com/example/keysteward/keysteward/cli/Option -/
def k6 : Class := { plain "com/example/keysteward/keysteward/cli/Option" (some 5) with
  accessFlags := 16432
  interfaces := #[]
  cf := some (fileOf pool6 1 #[] #[{ accessFlags := 0, nameIndex := 115, descriptorIndex := 116, attributes := #[] }, { accessFlags := 0, nameIndex := 83, descriptorIndex := 116, attributes := #[] }] 16432 65 #[] #[{ accessFlags := 16409, nameIndex := 5, descriptorIndex := 6, attributes := #[] }, { accessFlags := 16409, nameIndex := 9, descriptorIndex := 6, attributes := #[] }, { accessFlags := 16409, nameIndex := 12, descriptorIndex := 6, attributes := #[] }, { accessFlags := 16409, nameIndex := 15, descriptorIndex := 6, attributes := #[] }, { accessFlags := 16409, nameIndex := 18, descriptorIndex := 6, attributes := #[] }, { accessFlags := 16409, nameIndex := 21, descriptorIndex := 6, attributes := #[] }, { accessFlags := 16409, nameIndex := 24, descriptorIndex := 6, attributes := #[] }, { accessFlags := 16409, nameIndex := 27, descriptorIndex := 6, attributes := #[] }, { accessFlags := 16409, nameIndex := 30, descriptorIndex := 6, attributes := #[] }, { accessFlags := 16409, nameIndex := 33, descriptorIndex := 6, attributes := #[] }, { accessFlags := 16409, nameIndex := 36, descriptorIndex := 6, attributes := #[] }, { accessFlags := 16409, nameIndex := 39, descriptorIndex := 6, attributes := #[] }, { accessFlags := 16409, nameIndex := 42, descriptorIndex := 6, attributes := #[] }, { accessFlags := 16409, nameIndex := 45, descriptorIndex := 6, attributes := #[] }, { accessFlags := 16409, nameIndex := 48, descriptorIndex := 6, attributes := #[] }, { accessFlags := 16409, nameIndex := 51, descriptorIndex := 6, attributes := #[] }, { accessFlags := 16409, nameIndex := 54, descriptorIndex := 6, attributes := #[] }, { accessFlags := 18, nameIndex := 76, descriptorIndex := 77, attributes := #[] }, { accessFlags := 18, nameIndex := 80, descriptorIndex := 77, attributes := #[] }, { accessFlags := 18, nameIndex := 83, descriptorIndex := 84, attributes := #[] }, { accessFlags := 4122, nameIndex := 57, descriptorIndex := 58, attributes := #[] }])
  fields := #[{ name := "STORE", type := (.object "com/example/keysteward/keysteward/cli/Option"), accessFlags := 16409, slot := 0, constantValue := 0 }, { name := "PASSPHRASE_FILE", type := (.object "com/example/keysteward/keysteward/cli/Option"), accessFlags := 16409, slot := 1, constantValue := 0 }, { name := "ACCOUNT", type := (.object "com/example/keysteward/keysteward/cli/Option"), accessFlags := 16409, slot := 2, constantValue := 0 }, { name := "DAYS", type := (.object "com/example/keysteward/keysteward/cli/Option"), accessFlags := 16409, slot := 3, constantValue := 0 }, { name := "CERT_OUT", type := (.object "com/example/keysteward/keysteward/cli/Option"), accessFlags := 16409, slot := 4, constantValue := 0 }, { name := "SCOPE", type := (.object "com/example/keysteward/keysteward/cli/Option"), accessFlags := 16409, slot := 5, constantValue := 0 }, { name := "AUDIENCE", type := (.object "com/example/keysteward/keysteward/cli/Option"), accessFlags := 16409, slot := 6, constantValue := 0 }, { name := "LIFETIME", type := (.object "com/example/keysteward/keysteward/cli/Option"), accessFlags := 16409, slot := 7, constantValue := 0 }, { name := "KEY", type := (.object "com/example/keysteward/keysteward/cli/Option"), accessFlags := 16409, slot := 8, constantValue := 0 }, { name := "PORT", type := (.object "com/example/keysteward/keysteward/cli/Option"), accessFlags := 16409, slot := 9, constantValue := 0 }, { name := "PROJECT", type := (.object "com/example/keysteward/keysteward/cli/Option"), accessFlags := 16409, slot := 10, constantValue := 0 }, { name := "REMOVE_ORIGINAL", type := (.object "com/example/keysteward/keysteward/cli/Option"), accessFlags := 16409, slot := 11, constantValue := 0 }, { name := "VERIFY", type := (.object "com/example/keysteward/keysteward/cli/Option"), accessFlags := 16409, slot := 12, constantValue := 0 }, { name := "HISTORY", type := (.object "com/example/keysteward/keysteward/cli/Option"), accessFlags := 16409, slot := 13, constantValue := 0 }, { name := "PLACES", type := (.object "com/example/keysteward/keysteward/cli/Option"), accessFlags := 16409, slot := 14, constantValue := 0 }, { name := "JSON", type := (.object "com/example/keysteward/keysteward/cli/Option"), accessFlags := 16409, slot := 15, constantValue := 0 }, { name := "HELP", type := (.object "com/example/keysteward/keysteward/cli/Option"), accessFlags := 16409, slot := 16, constantValue := 0 }, { name := "name", type := (.object "java/lang/String"), accessFlags := 18, slot := 3, constantValue := 0 }, { name := "valueName", type := (.object "java/lang/String"), accessFlags := 18, slot := 4, constantValue := 0 }, { name := "repeatable", type := .boolean, accessFlags := 18, slot := 5, constantValue := 0 }, { name := "$VALUES", type := (.array (.object "com/example/keysteward/keysteward/cli/Option")), accessFlags := 4122, slot := 17, constantValue := 0 }]
  methods := #[k6m0, k6m1]
  instanceTypes := #[(.object "java/lang/String"), .int, .int, (.object "java/lang/String"), (.object "java/lang/String"), .boolean]
  staticTypes := #[(.object "com/example/keysteward/keysteward/cli/Option"), (.object "com/example/keysteward/keysteward/cli/Option"), (.object "com/example/keysteward/keysteward/cli/Option"), (.object "com/example/keysteward/keysteward/cli/Option"), (.object "com/example/keysteward/keysteward/cli/Option"), (.object "com/example/keysteward/keysteward/cli/Option"), (.object "com/example/keysteward/keysteward/cli/Option"), (.object "com/example/keysteward/keysteward/cli/Option"), (.object "com/example/keysteward/keysteward/cli/Option"), (.object "com/example/keysteward/keysteward/cli/Option"), (.object "com/example/keysteward/keysteward/cli/Option"), (.object "com/example/keysteward/keysteward/cli/Option"), (.object "com/example/keysteward/keysteward/cli/Option"), (.object "com/example/keysteward/keysteward/cli/Option"), (.object "com/example/keysteward/keysteward/cli/Option"), (.object "com/example/keysteward/keysteward/cli/Option"), (.object "com/example/keysteward/keysteward/cli/Option"), (.array (.object "com/example/keysteward/keysteward/cli/Option"))]
  resolved := Array.replicate 249 none
  statics := some 0 }

def pool7 : Array CpInfo := pool [(2, .class_ 4), (1, u "java/lang/CharSequence"), (42, .class_ 48), (0, u "java/lang/CharSequence$1CodePointIterator"), (10, .class_ 60), (0, u "java/lang/CharSequence$1CharIterator"), (5, .class_ 67), (0, u "java/lang/Object")] 63

/-- java/lang/CharSequence -/
def k7 : Class := { plain "java/lang/CharSequence" (some 0) with
  accessFlags := 1537
  interfaces := #[]
  cf := some (fileOf pool7 2 #[.nestMembers #[47, 59]] #[] 1537 66 #[] #[])
  fields := #[]
  methods := #[]
  instanceTypes := #[]
  staticTypes := #[]
  resolved := Array.replicate 131 none
  statics := none }

def pool8 : Array CpInfo := pool [(1, .class_ 2), (0, u "java/lang/constant/ConstantDesc"), (0, .class_ 4), (0, u "java/lang/Object")] 32

/-- java/lang/constant/ConstantDesc -/
def k8 : Class := { plain "java/lang/constant/ConstantDesc" (some 0) with
  accessFlags := 1537
  interfaces := #[]
  cf := some (fileOf pool8 1 #[] #[] 1537 3 #[] #[])
  fields := #[]
  methods := #[]
  instanceTypes := #[]
  staticTypes := #[]
  resolved := Array.replicate 37 none
  statics := none }

def pool9 : Array CpInfo := pool [(2, .class_ 4), (1, u "java/lang/Object"), (0, u "<init>"), (0, u "()V"), (3, .class_ 12), (1, u "java/lang/String"), (0, u "value"), (0, u "[B"), (2, u "coder"), (0, u "B"), (2, u "hash"), (0, u "I"), (2, u "hashIsZero"), (0, u "Z"), (13, u "COMPACT_STRINGS"), (534, .class_ 576), (0, u "java/lang/CharSequence"), (22, u "CASE_INSENSITIVE_ORDER"), (0, u "Ljava/util/Comparator;"), (500, u "serialPersistentFields"), (0, u "[Ljava/io/ObjectStreamField;"), (0, .class_ 1104), (0, u "java/lang/String$CaseInsensitiveComparator"), (1, .class_ 1107), (0, u "java/io/Serializable"), (0, .class_ 1109), (0, u "java/lang/Comparable"), (0, .class_ 1111), (0, u "java/lang/constant/Constable"), (0, .class_ 1113), (0, u "java/lang/constant/ConstantDesc"), (2, u "serialVersionUID"), (0, u "J"), (3, u "REPL"), (0, u "C"), (2, u "LATIN1"), (1, u "UTF16")] 323

def k9m0 : Method := { name := "<init>", desc := "()V", sig := { parameters := [], returnType := none }, accessFlags := 1, code := none }
/-- java/lang/String -/
def k9 : Class := { plain "java/lang/String" (some 0) with
  accessFlags := 49
  interfaces := #[4, 3, 7, 2, 8]
  cf := some (fileOf pool9 10 #[.nestMembers #[1103]] #[{ accessFlags := 1, nameIndex := 5, descriptorIndex := 6, attributes := #[] }] 49 2 #[1106, 1108, 575, 1110, 1112] #[{ accessFlags := 18, nameIndex := 13, descriptorIndex := 14, attributes := #[] }, { accessFlags := 18, nameIndex := 17, descriptorIndex := 18, attributes := #[] }, { accessFlags := 2, nameIndex := 21, descriptorIndex := 22, attributes := #[] }, { accessFlags := 2, nameIndex := 25, descriptorIndex := 26, attributes := #[] }, { accessFlags := 26, nameIndex := 1116, descriptorIndex := 1117, attributes := #[] }, { accessFlags := 24, nameIndex := 40, descriptorIndex := 26, attributes := #[] }, { accessFlags := 26, nameIndex := 1101, descriptorIndex := 1102, attributes := #[] }, { accessFlags := 26, nameIndex := 1121, descriptorIndex := 1122, attributes := #[] }, { accessFlags := 25, nameIndex := 599, descriptorIndex := 600, attributes := #[] }, { accessFlags := 24, nameIndex := 1125, descriptorIndex := 18, attributes := #[] }, { accessFlags := 24, nameIndex := 1127, descriptorIndex := 18, attributes := #[] }])
  fields := #[{ name := "value", type := (.array .byte), accessFlags := 18, slot := 0, constantValue := 0 }, { name := "coder", type := .byte, accessFlags := 18, slot := 1, constantValue := 0 }, { name := "hash", type := .int, accessFlags := 2, slot := 2, constantValue := 0 }, { name := "hashIsZero", type := .boolean, accessFlags := 2, slot := 3, constantValue := 0 }, { name := "serialVersionUID", type := .long, accessFlags := 26, slot := 0, constantValue := 0 }, { name := "COMPACT_STRINGS", type := .boolean, accessFlags := 24, slot := 1, constantValue := 0 }, { name := "serialPersistentFields", type := (.array (.object "java/io/ObjectStreamField")), accessFlags := 26, slot := 2, constantValue := 0 }, { name := "REPL", type := .char, accessFlags := 26, slot := 3, constantValue := 0 }, { name := "CASE_INSENSITIVE_ORDER", type := (.object "java/util/Comparator"), accessFlags := 25, slot := 4, constantValue := 0 }, { name := "LATIN1", type := .byte, accessFlags := 24, slot := 5, constantValue := 0 }, { name := "UTF16", type := .byte, accessFlags := 24, slot := 6, constantValue := 0 }]
  methods := #[k9m0]
  instanceTypes := #[(.array .byte), .byte, .int, .boolean]
  staticTypes := #[.long, .boolean, (.array (.object "java/io/ObjectStreamField")), .char, (.object "java/util/Comparator"), .byte, .byte]
  resolved := Array.replicate 1451 none
  statics := none }

def pool10 : Array CpInfo := pool [(1, u "java/lang/Cloneable"), (0, .class_ 1), (0, u "java/lang/Object"), (0, .class_ 3)] 3

/-- java/lang/Cloneable -/
def k10 : Class := { plain "java/lang/Cloneable" (some 0) with
  accessFlags := 1537
  interfaces := #[]
  cf := some (fileOf pool10 2 #[] #[] 1537 4 #[] #[])
  fields := #[]
  methods := #[]
  instanceTypes := #[]
  staticTypes := #[]
  resolved := Array.replicate 8 none
  statics := none }

/-- the primitive byte -/
def k11 : Class := { plain "byte" none with kind := .primitive 'B', accessFlags := 0x411 }
/-- [B -/
def k12 : Class := { plain "[B" (some 0) with kind := .array 11 .byte, interfaces := #[10, 4], accessFlags := 1041 }

/-- the primitive int -/
def k13 : Class := { plain "int" none with kind := .primitive 'I', accessFlags := 0x411 }
/-- [I -/
def k14 : Class := { plain "[I" (some 0) with kind := .array 13 .int, interfaces := #[10, 4], accessFlags := 1041 }

/-- [Lcom/example/keysteward/keysteward/cli/Option; -/
def k15 : Class := { plain "[Lcom/example/keysteward/keysteward/cli/Option;" (some 0) with kind := .array 6 (.object "com/example/keysteward/keysteward/cli/Option"), interfaces := #[10, 4], accessFlags := 1041 }

def heap : Heap := #[{ cls := 6, slots := #[.ref 2, .ref 3, .ref 4, .ref 5, .ref 6, .ref 7, .ref 8, .ref 9, .ref 10, .ref 11, .ref 12, .ref 13, .ref 14, .ref 15, .ref 16, .ref 17, .ref 18, .null], vm := .statics 6 },
  { cls := 9, slots := #[.null, .int 0, .int 0, .int 0], vm := .none },
  { cls := 6, slots := #[.null, .int 0, .int 0, .null, .ref 1, .int 0], vm := .none },
  { cls := 6, slots := #[.null, .int 1, .int 0, .null, .ref 1, .int 0], vm := .none },
  { cls := 6, slots := #[.null, .int 2, .int 0, .null, .ref 1, .int 0], vm := .none },
  { cls := 6, slots := #[.null, .int 3, .int 0, .null, .ref 1, .int 0], vm := .none },
  { cls := 6, slots := #[.null, .int 4, .int 0, .null, .ref 1, .int 0], vm := .none },
  { cls := 6, slots := #[.null, .int 5, .int 0, .null, .ref 1, .int 1], vm := .none },
  { cls := 6, slots := #[.null, .int 6, .int 0, .null, .ref 1, .int 0], vm := .none },
  { cls := 6, slots := #[.null, .int 7, .int 0, .null, .ref 1, .int 0], vm := .none },
  { cls := 6, slots := #[.null, .int 8, .int 0, .null, .ref 1, .int 0], vm := .none },
  { cls := 6, slots := #[.null, .int 9, .int 0, .null, .ref 1, .int 0], vm := .none },
  { cls := 6, slots := #[.null, .int 10, .int 0, .null, .ref 1, .int 0], vm := .none },
  { cls := 6, slots := #[.null, .int 11, .int 0, .null, .null, .int 0], vm := .none },
  { cls := 6, slots := #[.null, .int 12, .int 0, .null, .null, .int 0], vm := .none },
  { cls := 6, slots := #[.null, .int 13, .int 0, .null, .null, .int 0], vm := .none },
  { cls := 6, slots := #[.null, .int 14, .int 0, .null, .null, .int 0], vm := .none },
  { cls := 6, slots := #[.null, .int 15, .int 0, .null, .null, .int 0], vm := .none },
  { cls := 6, slots := #[.null, .int 16, .int 0, .null, .null, .int 0], vm := .none }]
def classes : Array Class := #[k0, k1, k2, k3, k4, k5, k6, k7, k8, k9, k10, k11, k12, k13, k14, k15]
def interned : List (Array UInt16 × Addr) := []
def slotsUsed : Nat := 124
def theMethod : MethodId := ⟨1, 2⟩
def args0 : Array Value := #[.int 5]
def aboutOver (below : List Frame) : State where
  vm := { classes := classes, interned := interned.toArray }
  heap := heap
  slotsUsed := slotsUsed
  threads := #[{ frames := .invoking theMethod args0 :: below }]
def below0 : List Frame := [.native { method := ⟨0, 0⟩, args := #[] }]
def about1 : State := aboutOver below0
def p0 : Program := .bare "" "" ""
def e0 : Env := launch0.env 0 0 0
theorem w_frames : about1.frames = Frame.invoking theMethod args0 :: below0 := rfl
set_option maxRecDepth 65536 in
theorem w_args : argsFit about1.vm theMethod args0 = true := by decide +kernel
set_option maxRecDepth 65536 in
theorem w_heap : heapFits about1 = true := by decide +kernel
set_option maxRecDepth 65536 in
theorem w_runnable : about1.curStatus? = some .runnable := by decide +kernel
set_option maxRecDepth 65536 in
theorem w_alone : about1.alone = true := by decide +kernel
set_option maxRecDepth 65536 in
theorem w_named : about1.methodNamed? x = some theMethod := by decide +kernel
set_option maxRecDepth 65536 in
theorem w_hears : about1.hears theMethod below0 = true := by decide +kernel
set_option maxRecDepth 65536 in
theorem w_ripe : about1.ripe theMethod args0 below0 = true := by decide +kernel
theorem w_running : about1.status = .running := rfl
set_option maxRecDepth 65536 in
theorem w_room : about1.hasRoom e0.platform room_1 = true :=
  launch0.hasRoom_least _ room_1 (by decide +kernel) (by decide +kernel) (by decide +kernel) (by decide +kernel) (by decide +kernel) (by decide +kernel)
theorem allAtoms_all (ts : List Jvm.Cond) (a : Array Jvm.Value) (st : Jvm.State) : (allAtoms ts).before a st = ts.all (fun c => c.before a st) := by
  induction ts with
  | nil => rfl
  | cons c t ih =>
    show (Jvm.Cond.and c (allAtoms t)).before a st = _
    rw [Jvm.Cond.before_and, ih, List.all_cons]
def words1 : List Jvm.Cond := Jvm.Cond.code x code maxLocals ret :: tables_1
/-- a 'code' word, met by the world's own term for the bytes: nothing is compared byte by byte -/
theorem code_word {y : MethodName} {bytes : ByteArray} {mx : Nat} {rt : Option FieldType} {a : Array Value} {s : State} {m : MethodId} {meth : Method} {c : Code} (h1 : s.methodNamed? y = some m) (h2 : s.vm.method? m = some meth) (h3 : meth.code = some c) (h4 : c.code = bytes)
    (h5 : (c.maxLocals == mx && c.exceptionTable.isEmpty && decide (c.maxStack ≤ mostOperands) && decide (meth.sig.returnType = rt) && !meth.locks && decide (parseMethodDescriptor y.desc = some meth.sig)) = true) : (Jvm.Cond.code y bytes mx rt).before a s = true := by
  simp only [Bool.and_eq_true, beq_iff_eq, Bool.not_eq_true', decide_eq_true_eq] at h5
  obtain ⟨⟨⟨⟨⟨g1, g2⟩, g3⟩, g4⟩, g5⟩, g6⟩ := h5
  simp [Cond.before, Cond.holds, Cond.value, h1, h2, h3, h4, g1, g2, g3, g4, g5, g6]
def isCode : Jvm.Cond → Bool
  | .code _ _ _ _ => true
  | _ => false
theorem all_split {L : List Jvm.Cond} {P : Jvm.Cond → Bool} (h1 : L.all (fun c => isCode c || P c) = true) (h2 : ∀ c ∈ L.filter isCode, P c = true) : L.all P = true := by
  refine List.all_eq_true.mpr fun c hc => ?_
  have h := List.all_eq_true.mp h1 c hc
  rcases Bool.eq_false_or_eq_true (isCode c) with hi | hi
  · exact h2 c (List.mem_filter.mpr ⟨hc, hi⟩)
  · simpa [hi] using h
set_option maxRecDepth 65536 in
theorem w_c0 : (Jvm.Cond.code x code maxLocals ret).before args0 about1 = true := code_word (m := ⟨1, 2⟩) (meth := k1m2) (c := k1c2) (by decide +kernel) rfl rfl rfl (by decide +kernel)
set_option maxRecDepth 65536 in
theorem w_c1 : (Jvm.Cond.code ({ cls := "com/example/keysteward/keysteward/cli/OptionTakesValuePinLaw", name := "pick", desc := "(I)Lcom/example/keysteward/keysteward/cli/Option;" } : Jvm.MethodName) method_2_code (2 : Nat) (Option.some (Jvm.ClassFile.FieldType.object "com/example/keysteward/keysteward/cli/Option"))).before args0 about1 = true := code_word (m := ⟨1, 1⟩) (meth := k1m1) (c := k1c1) (by decide +kernel) rfl rfl rfl (by decide +kernel)
set_option maxRecDepth 65536 in
theorem w_c2 : (Jvm.Cond.code ({ cls := "com/example/keysteward/keysteward/cli/Option", name := "takesValue", desc := "()Z" } : Jvm.MethodName) prog_8_method_5_code (1 : Nat) (Option.some Jvm.ClassFile.FieldType.boolean)).before args0 about1 = true := code_word (m := ⟨6, 0⟩) (meth := k6m0) (c := k6c0) (by decide +kernel) rfl rfl rfl (by decide +kernel)
set_option maxRecDepth 65536 in
theorem w_c3 : (Jvm.Cond.code ({ cls := "com/example/keysteward/keysteward/cli/Option", name := "repeatable", desc := "()Z" } : Jvm.MethodName) prog_8_method_6_code (1 : Nat) (Option.some Jvm.ClassFile.FieldType.boolean)).before args0 about1 = true := code_word (m := ⟨6, 1⟩) (meth := k6m1) (c := k6c1) (by decide +kernel) rfl rfl rfl (by decide +kernel)
def codes1 : List Jvm.Cond := [Jvm.Cond.code x code maxLocals ret, Jvm.Cond.code ({ cls := "com/example/keysteward/keysteward/cli/OptionTakesValuePinLaw", name := "pick", desc := "(I)Lcom/example/keysteward/keysteward/cli/Option;" } : Jvm.MethodName) method_2_code (2 : Nat) (Option.some (Jvm.ClassFile.FieldType.object "com/example/keysteward/keysteward/cli/Option")), Jvm.Cond.code ({ cls := "com/example/keysteward/keysteward/cli/Option", name := "takesValue", desc := "()Z" } : Jvm.MethodName) prog_8_method_5_code (1 : Nat) (Option.some Jvm.ClassFile.FieldType.boolean), Jvm.Cond.code ({ cls := "com/example/keysteward/keysteward/cli/Option", name := "repeatable", desc := "()Z" } : Jvm.MethodName) prog_8_method_6_code (1 : Nat) (Option.some Jvm.ClassFile.FieldType.boolean)]
set_option maxRecDepth 65536 in
theorem codes_eq : words1.filter isCode = codes1 := rfl
theorem w_codes : ∀ c ∈ words1.filter isCode, c.before args0 about1 = true := by
  rw [codes_eq]
  intro c hc
  simp only [codes1, List.mem_cons, List.not_mem_nil, or_false] at hc
  rcases hc with rfl | rfl | rfl | rfl
  · exact w_c0
  · exact w_c1
  · exact w_c2
  · exact w_c3
set_option maxRecDepth 65536 in
theorem w_t1 : (words1.take 24).all (fun c => isCode c || c.before args0 about1) = true := by decide +kernel
set_option maxRecDepth 65536 in
theorem w_t2 : ((words1.drop 24).take 24).all (fun c => isCode c || c.before args0 about1) = true := by decide +kernel
set_option maxRecDepth 65536 in
theorem w_t3 : ((words1.drop 24).drop 24).all (fun c => isCode c || c.before args0 about1) = true := by decide +kernel
theorem w_tables : (allAtoms (Jvm.Cond.code x code maxLocals ret :: tables_1)).before args0 about1 = true := by
  rw [allAtoms_all]
  show words1.all (fun c => c.before args0 about1) = true
  refine all_split ?_ w_codes
  rw [← List.take_append_drop 24 words1, List.all_append, w_t1, ← List.take_append_drop 24 (words1.drop 24), List.all_append, w_t2, w_t3]
  rfl
set_option maxRecDepth 65536 in
theorem w_case : (Jvm.Cond.and given_1 narrow_1).before args0 about1 = true := by decide +kernel
theorem w_applies : (headSpec (Jvm.Cond.code x code maxLocals ret :: tables_1) room_1).applies x e0.platform about1 = true :=
  (Spec.applies_iff w_frames).mpr ⟨w_running, w_runnable, w_alone, w_named, w_hears, w_ripe, w_room, w_tables⟩
theorem atStart : AtStart classFile x code maxLocals ret World_1 tables_1 room_1 Calls_1 rest_1 Pre_1 launch0 p0 e0 about1 theMethod args0 below0 :=
  ⟨lists_1, trivial, launch0.admits_env _ _ _, launch0.least_env, fairChoices_fair.cas, fairChoices_fair.clock, w_frames, w_args, w_heap, w_applies, trivial, trivial, w_case⟩
end start1
theorem witness_1 : WitnessClaimed_1 := ⟨start1.p0, start1.e0, start1.about1, start1.theMethod, start1.args0, start1.below0, start1.atStart⟩
end Jvm.Pilot.@@N@@

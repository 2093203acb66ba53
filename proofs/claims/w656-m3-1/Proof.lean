import JvmDerived
import JvmDerived.Pilot.@@N@@Statement
import JvmDerived.Pilot.@@N@@Code
set_option linter.unusedVariables false
set_option linter.unusedSimpArgs false
namespace Jvm.RoadKit
open Sem ClassFile Op Lib Jvm.Stand Jvm.Free Jvm.LawKit
section New
variable {p : Program} {l : Launch} {e : Env} {R : Room} {s : State} {m : MethodId} {args : Array Value} {below : List Frame} {meth : Method} {c : Code} {T : State} {locs : List Loc} {cells slots : Nat}
theorem retI (X : Stand p l e R s m args below meth c T locs cells slots) (hx : p.tables.exec = Jvm.exec) {pc : Nat} {Ls : Array Slot} {z : Int32} {rest : List Value} (hret : meth.sig.returnType = some .int) (hd : decode c.code pc = .ok (.ireturn, 1)) {fs : List Frame}
    (hl : ∀ (f : JFrame) (acts : List Action), f.method = m → f.locked = none → f.entered = [] → (doReturn e (T.setTop f) acts (some (.int z))).1 = T.setFrames fs) : Steps p.tables e below (T.setTop (mkF m pc Ls (.int z :: rest))) (T.setFrames fs) := by
  have hm' : T.vm.method? m = some meth := X.method'
  have hn : narrow .int (.int z) = .int z := rfl
  show Steps p.tables e below (T.setTop { method := m, pc := pc, locals := Ls, stack := _ :: rest, locked := none }) _
  jvm_step X.here [X.here.top, hx, hd, hm', hret, hn]
  first | (intro acts; rw [hl _ acts rfl rfl rfl]) | rw [hl _ _ rfl rfl rfl]
  exact Steps.refl _
end New
end Jvm.RoadKit
namespace Jvm.Pilot.@@N@@
open Jvm Jvm.ClassFile Sem Op Lib Jvm.Free Jvm.Stand Jvm.LawKit Jvm.RoadKit Bundle Jvm.Pilot.@@N@@.Jvm.D
theorem own_eqint {args : Array Value} {first s : State} {o : Option Outcome} {idx : List Nat} {t : Term} {n : Int32} (h : (Jvm.Cond.eq t (.int n)).value args first o s idx = some true) : t.eval args first o idx s = some (.int n) := by
  obtain ⟨x, y, hx, hy, -, k⟩ := cmp_v (Or.inl h)
  obtain rfl : y = .int n := (Option.some.inj ((Term.int_eval n).symm.trans hy)).symm
  obtain ⟨z, rfl⟩ := k
  simp only [Cond.value, hx, hy] at h
  rw [hx, show z = n by simpa using h]
theorem own_stakeep {Z : State} {h h' : Heap} {C n d : String} {v : Value} (K : Keep h h' []) (F : Sta Z h C n d v) : Sta Z h' C n d v := F.ext ⟨K.1, fun a c q => K.2.1 a c q nin0⟩
theorem own_selpriv {s : State} {args : Array Value} {y : MethodName} {n : Nat} (hi : (Jvm.Cond.instantiable y.cls n).before args s = true) (hp : s.PrivateAt y) (hinst : (Jvm.Cond.instanceMethod y).before args s = true) (hy : y.cls ≠ "java/lang/invoke/MethodHandle" ∧ y.cls ≠ "java/lang/invoke/VarHandle") : (Jvm.Cond.selects y.cls y y).before args s = true := by
  obtain ⟨c, k, h1, h2, h3, h4, -⟩ := Cond.instantiable_spec hi
  exact selects_self_of_private h1 h2 (Bool.or_eq_false_iff.mp h4).1 hp hinst hy
theorem own_lceq {a b : Int64} (h : a = b) : lcmpW a b = 0 := by subst h; simp [lcmpW, Int64.lt_irrefl]
theorem own_lcne {a b : Int64} (h : ¬ a = b) : ¬ lcmpW a b = 0 := by
  unfold lcmpW; split
  · decide
  · first | decide | (rw [if_neg h]; decide)
theorem own_lcgt {a b : Int64} (h : b < a) : (0 : Int32) < lcmpW a b := by unfold lcmpW; rw [if_pos h]; decide
theorem own_lcngt {a b : Int64} (h : ¬ b < a) : ¬ (0 : Int32) < lcmpW a b := by unfold lcmpW; rw [if_neg h]; split <;> decide
theorem own_lclt {a b : Int64} (h : a < b) : lcmpW a b < (0 : Int32) := by
  have h1 : ¬ b < a := fun q => by rw [Int64.lt_iff_toInt_lt] at h q; omega
  have h2 : ¬ a = b := fun q => by subst q; rw [Int64.lt_iff_toInt_lt] at h; omega
  unfold lcmpW; rw [if_neg h1, if_neg h2]; decide
theorem own_lcnlt {a b : Int64} (h : ¬ a < b) : ¬ lcmpW a b < (0 : Int32) := by
  unfold lcmpW; split
  · decide
  · split
    · decide
    · rename_i h1 h2; exact absurd (Int64.toInt_inj.mp (by simp only [gt_iff_lt, Int64.lt_iff_toInt_lt] at h h1; omega)) h2
def own_min (a b : Int64) : Int64 := if b < a then b else a
theorem own_minI (a b : Int64) : (own_min a b).toInt ≤ a.toInt ∧ (own_min a b).toInt ≤ b.toInt ∧ ((own_min a b).toInt = a.toInt ∨ (own_min a b).toInt = b.toInt) := by
  unfold own_min; split
  · rename_i h; rw [Int64.lt_iff_toInt_lt] at h; omega
  · rename_i h; rw [Int64.lt_iff_toInt_lt] at h; omega
theorem own_room (fl fo hp : Int64) (h1 : 0 ≤ fl.toInt) (h2 : 0 ≤ fo.toInt) (h3 : fo.toInt < 1073741824) (h4 : 0 ≤ hp.toInt) (r : Int32) (hr : r = (own_min (2147483647 : Int64) (own_min ((fl - fo) - (64 : Int64)) (hp / (262144 : Int64)))).toInt32) :
    ¬ ((fl - fo) - (64 : Int64)) < r.toInt64 ∧ ¬ hp < (r.toInt64 * (262144 : Int64)) ∧ (r = (2147483647 : Int32) ∨ ((fl - fo) - (64 : Int64)) < (r.toInt64 + (1 : Int64)) ∨ hp < ((r.toInt64 + (1 : Int64)) * (262144 : Int64))) := by
  have u1 := fl.toInt_lt; have u3 := hp.toInt_lt
  have a1 := c_lsub fl fo; have a2 := c_lsub (fl - fo) 64
  have k64 : (64 : Int64).toInt = 64 := rfl
  have k1 : (1 : Int64).toInt = 1 := rfl
  have kp : (262144 : Int64).toInt = 262144 := rfl
  have km : (2147483647 : Int64).toInt = 2147483647 := rfl
  have kn : (2147483647 : Int32).toInt = 2147483647 := rfl
  have b1 := (fl - fo).toInt_lt; have b2 := (fl - fo).le_toInt
  have c1 := ((fl - fo) - 64).toInt_lt; have c2 := ((fl - fo) - 64).le_toInt
  have d1 := (c_ldiv hp 262144 262144 rfl (by decide)).1 h4
  generalize hf : (fl - fo) - (64 : Int64) = files at *
  generalize hq : hp / (262144 : Int64) = q at *
  have m1 := own_minI files q
  have m2 := own_minI 2147483647 (own_min files q)
  generalize own_min files q = y at *
  generalize own_min (2147483647 : Int64) y = z at *
  have e1 := c_l2i z
  have e2 := z.toInt32.toInt_lt; have e3 := z.toInt32.le_toInt
  rw [← hr] at e1 e2 e3
  have e4 := c_i2l r
  generalize r.toInt64 = rl at *
  have f1 := c_lmul rl 262144; have f2 := c_ladd rl 1; have f3 := c_lmul (rl + 1) 262144
  have g1 := (rl * 262144).toInt_lt; have g2 := (rl * 262144).le_toInt
  have g3 := (rl + 1).toInt_lt; have g4 := (rl + 1).le_toInt
  have g5 := ((rl + 1) * 262144).toInt_lt; have g6 := ((rl + 1) * 262144).le_toInt
  simp only [Int64.lt_iff_toInt_lt]
  rw [← Int32.toInt_inj]
  rw [kp] at f1 f3
  rw [k64] at a2
  rw [k1] at f2
  rw [kn]
  rw [km] at m2
  clear hr hf hq
  have hfo : (fl - fo).toInt = fl.toInt - fo.toInt := by omega
  have hfi : files.toInt = fl.toInt - fo.toInt - 64 := by omega
  have hz : r.toInt = z.toInt := by omega
  have hrl : rl.toInt = z.toInt := by omega
  have hr1 : (rl + 1).toInt = z.toInt + 1 := by omega
  have hm1 : (rl * 262144).toInt = z.toInt * 262144 := by omega
  have hm2 : ((rl + 1) * 262144).toInt = (z.toInt + 1) * 262144 := by omega
  rw [hrl, hr1, hm1, hm2, hz]
  refine ⟨by omega, by omega, ?_⟩
  omega
theorem d2_0 : decode jdk_29_method_70_code 0 = .ok (.lload_n 0, 1) := by decide +kernel
theorem d2_1 : decode jdk_29_method_70_code 1 = .ok (.lload_n 2, 1) := by decide +kernel
theorem d2_2 : decode jdk_29_method_70_code 2 = .ok (.lcmp, 1) := by decide +kernel
theorem d2_3 : decode jdk_29_method_70_code 3 = .ok (.ifCond .gt 7, 3) := by decide +kernel
theorem d2_6 : decode jdk_29_method_70_code 6 = .ok (.lload_n 0, 1) := by decide +kernel
theorem d2_7 : decode jdk_29_method_70_code 7 = .ok (.goto 4, 3) := by decide +kernel
theorem d2_10 : decode jdk_29_method_70_code 10 = .ok (.lload_n 2, 1) := by decide +kernel
theorem d2_11 : decode jdk_29_method_70_code 11 = .ok (.lreturn, 1) := by decide +kernel
theorem ef_rm2 (m : MethodId) (q1 : Int64) (q2 : Int64) : entryFrame m #[(.long q1), (.long q2)] 4 = mkF m 0 #[.val (.long q1), .second, .val (.long q2), .second] [] := by first | (simp [entryFrame, mkF, argsToLocals, Value.category]; done) | rfl
def Qrm2 (Z : State) (q1 : Int64) (q2 : Int64) (h0 : Heap) (n0 : Nat) (v : Option Value) (h : Heap) (L : List Loc) : Prop := ∃ z : Int64, z = (own_min q1 q2) ∧ v = some (.long z) ∧ Fr n0 L ∧ h = h0
set_option maxRecDepth 65536 in
set_option maxHeartbeats 40000000 in
theorem rm2 (l : Launch) (Z : State) (a0 : Array Value) (hw : ∀ d ∈ tables_1, d.before a0 Z = true) (ws : List Jvm.Cond) (q1 : Int64) (q2 : Int64) (h0 : Heap) (n0 : Nat) (Z0 : n0 ≤ h0.size) :
    MetFree l (⟨"java/lang/Math", "min", "(JJ)J"⟩ : MethodName) (head1 (Jvm.Cond.code (⟨"java/lang/Math", "min", "(JJ)J"⟩ : MethodName) jdk_29_method_70_code 4 (some .long) :: ws) ({ frames := 0, cells := 0, slots := 0, locals := 0 } : Room)) (fun a U => a = #[(.long q1), (.long q2)] ∧ Z.Warmed39 U.vm ∧ U.heap = h0) (fun _ _ _ _ _ => True) (fun _ U o U' => ∃ v L, o = .returned v ∧ Qrm2 Z q1 q2 h0 n0 v U'.heap L ∧ FrameEnd U o U' L ({ frames := 0, cells := 0, slots := 0, locals := 0 } : Room).cells ({ frames := 0, cells := 0, slots := 0, locals := 0 } : Room).slots) := by
  refine MetFree.of_bodySF (Jvm.Free.JP.mathPlain rfl (by decide +kernel)) hisR ?_
  intro p e s m args below meth c s₁ Bd hml0 hP hK
  obtain ⟨rfl, hZ, hh⟩ := hP
  have hx := Bd.exec
  have hby := Bd.bytes
  have hml : c.maxLocals = 4 := hml0
  have hown : s.vm.findClass "java/lang/Math" = some m.cls := findClass_of_methodNamed Bd.named
  have hnm := (name_of_methodNamed Bd.named Bd.method).1
  have X0 : Stand p l e ({ frames := 0, cells := 0, slots := 0, locals := 0 } : Room) s m #[(.long q1), (.long q2)] below meth c s₁ [] 0 0 := Stand.of_body Bd
  have e0 : s₁.heap = h0 := by rw [← hh, Bd.state]; rfl
  have N0 := Fr.nil n0
  have pre0 : ∀ t, Steps p.tables e below (s₁.setTop (mkF m 0 #[.val (.long q1), .second, .val (.long q2), .second] [])) t → Steps p.tables e below (s₁.setTop (entryFrame m #[(.long q1), (.long q2)] 4)) t := fun t k => castTop (ef_rm2 m q1 q2) k
  by_cases hc3 : q2 < q1
  · obtain ⟨fs, hr, hrun, hended, hW, hsame⟩ := X0.leave (v := some (.long q2)) (fun h => by rw [Bd.returns] at h; cases h)
    refine ⟨_, _, pre0 _ ?_, hrun, hended, _, _, rfl, ?_, ⟨_, rfl⟩, hW, hsame.mono (by decide) (by decide)⟩
    · show Steps p.tables e below (s₁.setTop (mkF m 0 #[.val (.long q1), .second, .val (.long q2), .second] [])) _
      refine XS.lloadN X0.here hx rfl (hb hby d2_0) rfl ?_
      show Steps p.tables e below (s₁.setTop (mkF m 1 #[.val (.long q1), .second, .val (.long q2), .second] [(.long q1)])) _
      refine XS.lloadN X0.here hx rfl (hb hby d2_1) rfl ?_
      show Steps p.tables e below (s₁.setTop (mkF m 2 #[.val (.long q1), .second, .val (.long q2), .second] [(.long q2), (.long q1)])) _
      refine XS.lcmp X0.here hx rfl (hb hby d2_2) rfl ?_
      show Steps p.tables e below (s₁.setTop (mkF m 3 #[.val (.long q1), .second, .val (.long q2), .second] [(.int (lcmpW q1 q2))])) _
      refine XS.ifYes X0.here hx rfl (pc0 := 3) (pc' := 10) rfl (hb hby d2_3) rfl ((if0 _ _).trans (tlt (own_lcgt hc3)).2.2.1) (by decide) (by decide) ?_
      show Steps p.tables e below (s₁.setTop (mkF m 10 #[.val (.long q1), .second, .val (.long q2), .second] [])) _
      refine XS.lloadN X0.here hx rfl (hb hby d2_10) rfl ?_
      show Steps p.tables e below (s₁.setTop (mkF m 11 #[.val (.long q1), .second, .val (.long q2), .second] [(.long q2)])) _
      exact X0.lreturnOut hx Bd.returns (hb hby d2_11) hr
    · show Qrm2 Z q1 q2 h0 n0 _ s₁.heap _
      exact ⟨_, by simp [own_min, hc3], rfl, N0, e0⟩
  · obtain ⟨fs, hr, hrun, hended, hW, hsame⟩ := X0.leave (v := some (.long q1)) (fun h => by rw [Bd.returns] at h; cases h)
    refine ⟨_, _, pre0 _ ?_, hrun, hended, _, _, rfl, ?_, ⟨_, rfl⟩, hW, hsame.mono (by decide) (by decide)⟩
    · show Steps p.tables e below (s₁.setTop (mkF m 0 #[.val (.long q1), .second, .val (.long q2), .second] [])) _
      refine XS.lloadN X0.here hx rfl (hb hby d2_0) rfl ?_
      show Steps p.tables e below (s₁.setTop (mkF m 1 #[.val (.long q1), .second, .val (.long q2), .second] [(.long q1)])) _
      refine XS.lloadN X0.here hx rfl (hb hby d2_1) rfl ?_
      show Steps p.tables e below (s₁.setTop (mkF m 2 #[.val (.long q1), .second, .val (.long q2), .second] [(.long q2), (.long q1)])) _
      refine XS.lcmp X0.here hx rfl (hb hby d2_2) rfl ?_
      show Steps p.tables e below (s₁.setTop (mkF m 3 #[.val (.long q1), .second, .val (.long q2), .second] [(.int (lcmpW q1 q2))])) _
      refine XS.ifNo X0.here hx rfl (hb hby d2_3) rfl ((if0 _ _).trans (flt (own_lcngt hc3)).2.2.1) ?_
      show Steps p.tables e below (s₁.setTop (mkF m 6 #[.val (.long q1), .second, .val (.long q2), .second] [])) _
      refine XS.lloadN X0.here hx rfl (hb hby d2_6) rfl ?_
      show Steps p.tables e below (s₁.setTop (mkF m 7 #[.val (.long q1), .second, .val (.long q2), .second] [(.long q1)])) _
      refine XS.goto X0.here hx rfl (pc0 := 7) (pc' := 11) rfl (hb hby d2_7) (by decide) (by decide) ?_
      show Steps p.tables e below (s₁.setTop (mkF m 11 #[.val (.long q1), .second, .val (.long q2), .second] [(.long q1)])) _
      exact X0.lreturnOut hx Bd.returns (hb hby d2_11) hr
    · show Qrm2 Z q1 q2 h0 n0 _ s₁.heap _
      exact ⟨_, by simp [own_min, hc3], rfl, N0, e0⟩
theorem pd_0 : parseMethodDescriptor "(JJ)J" = some ⟨[.long, .long], some .long⟩ := by decide +kernel
theorem d1_0 : decode prog_26_method_2_code 0 = .ok (.lload_n 0, 1) := by decide +kernel
theorem d1_1 : decode prog_26_method_2_code 1 = .ok (.lload_n 2, 1) := by decide +kernel
theorem d1_2 : decode prog_26_method_2_code 2 = .ok (.lsub, 1) := by decide +kernel
theorem d1_3 : decode prog_26_method_2_code 3 = .ok (.ldc2_w 39, 3) := by decide +kernel
theorem d1_6 : decode prog_26_method_2_code 6 = .ok (.lsub, 1) := by decide +kernel
theorem d1_7 : decode prog_26_method_2_code 7 = .ok (.lstore 6, 2) := by decide +kernel
theorem d1_9 : decode prog_26_method_2_code 9 = .ok (.lload 4, 2) := by decide +kernel
theorem d1_11 : decode prog_26_method_2_code 11 = .ok (.ldc2_w 41, 3) := by decide +kernel
theorem d1_14 : decode prog_26_method_2_code 14 = .ok (.ldiv, 1) := by decide +kernel
theorem d1_15 : decode prog_26_method_2_code 15 = .ok (.lstore 8, 2) := by decide +kernel
theorem d1_17 : decode prog_26_method_2_code 17 = .ok (.ldc2_w 43, 3) := by decide +kernel
theorem d1_20 : decode prog_26_method_2_code 20 = .ok (.lload 6, 2) := by decide +kernel
theorem d1_22 : decode prog_26_method_2_code 22 = .ok (.lload 8, 2) := by decide +kernel
theorem d1_24 : decode prog_26_method_2_code 24 = .ok (.invokestatic 45, 3) := by decide +kernel
theorem d1_27 : decode prog_26_method_2_code 27 = .ok (.invokestatic 45, 3) := by decide +kernel
theorem d1_30 : decode prog_26_method_2_code 30 = .ok (.l2i, 1) := by decide +kernel
theorem d1_31 : decode prog_26_method_2_code 31 = .ok (.ireturn, 1) := by decide +kernel
theorem pn_1 : plainName "com/example/zorgbrug/zorgbrug/http/PeerConnections" = true := by first | (simp [plainName, overriddenIn]; done) | decide +kernel
theorem ef_rm1 (m : MethodId) (q1 : Int64) (q2 : Int64) (q3 : Int64) : entryFrame m #[(.long q1), (.long q2), (.long q3)] 10 = mkF m 0 #[.val (.long q1), .second, .val (.long q2), .second, .val (.long q3), .second, .unset, .unset, .unset, .unset] [] := by first | (simp [entryFrame, mkF, argsToLocals, Value.category]; done) | rfl
def Qrm1 (Z : State) (q1 : Int64) (q2 : Int64) (q3 : Int64) (h0 : Heap) (n0 : Nat) (v : Option Value) (h : Heap) (L : List Loc) : Prop := ∃ z : Int32, z = ((own_min (2147483647 : Int64) (own_min ((q1 - q2) - (64 : Int64)) (q3 / (262144 : Int64)))).toInt32) ∧ v = some (.int z) ∧ Fr n0 L ∧ h = h0
set_option maxRecDepth 65536 in
set_option maxHeartbeats 40000000 in
theorem rm1 (l : Launch) (Z : State) (a0 : Array Value) (hw : ∀ d ∈ tables_1, d.before a0 Z = true) (ws : List Jvm.Cond) (q1 : Int64) (q2 : Int64) (q3 : Int64) (h0 : Heap) (n0 : Nat) (Z0 : n0 ≤ h0.size) :
    MetFree l (⟨"com/example/zorgbrug/zorgbrug/http/PeerConnections", "room", "(JJJ)I"⟩ : MethodName) (head1 (Jvm.Cond.code (⟨"com/example/zorgbrug/zorgbrug/http/PeerConnections", "room", "(JJJ)I"⟩ : MethodName) prog_26_method_2_code 10 (some .int) :: ws) ({ frames := 1, cells := 0, slots := 0, locals := 17 } : Room)) (fun a U => a = #[(.long q1), (.long q2), (.long q3)] ∧ Z.Warmed39 U.vm ∧ U.heap = h0) (fun _ _ _ _ _ => True) (fun _ U o U' => ∃ v L, o = .returned v ∧ Qrm1 Z q1 q2 q3 h0 n0 v U'.heap L ∧ FrameEnd U o U' L ({ frames := 1, cells := 0, slots := 0, locals := 17 } : Room).cells ({ frames := 1, cells := 0, slots := 0, locals := 17 } : Room).slots) := by
  refine MetFree.of_bodySF (plainFor_of_name pn_1) hisR ?_
  intro p e s m args below meth c s₁ Bd hml0 hP hK
  obtain ⟨rfl, hZ, hh⟩ := hP
  have hx := Bd.exec
  have hby := Bd.bytes
  have hml : c.maxLocals = 10 := hml0
  have hown : s.vm.findClass "com/example/zorgbrug/zorgbrug/http/PeerConnections" = some m.cls := findClass_of_methodNamed Bd.named
  have hnm := (name_of_methodNamed Bd.named Bd.method).1
  have X0 : Stand p l e ({ frames := 1, cells := 0, slots := 0, locals := 17 } : Room) s m #[(.long q1), (.long q2), (.long q3)] below meth c s₁ [] 0 0 := Stand.of_body Bd
  have e0 : s₁.heap = h0 := by rw [← hh, Bd.state]; rfl
  have N0 := Fr.nil n0
  have pre0 : ∀ t, Steps p.tables e below (s₁.setTop (mkF m 0 #[.val (.long q1), .second, .val (.long q2), .second, .val (.long q3), .second, .unset, .unset, .unset, .unset] [])) t → Steps p.tables e below (s₁.setTop (entryFrame m #[(.long q1), (.long q2), (.long q3)] 10)) t := fun t k => castTop (ef_rm1 m q1 q2 q3) k
  obtain ⟨_, _, ⟨T1, L1, k1, n1⟩, -, X1, ⟨Lc1, hQ1, l1, y1, z1⟩, st1⟩ := Jvm.LawKit.callS X0 hx (y := (⟨"java/lang/Math", "min", "(JJ)J"⟩ : MethodName)) hown (mvT hZ (hw _ (List.mem_of_getElem? (i := 10) rfl))) (mvT hZ (hw _ (List.mem_of_getElem? (i := 11) rfl))) (mvT hZ (hw _ (List.mem_of_getElem? (i := 12) rfl))) (mvT hZ (hw _ (List.mem_of_getElem? (i := 13) rfl))) (by decide) (backOf (W := 2) (rm2 l Z a0 hw [] ((q1 - q2) - (64 : Int64)) (q3 / (262144 : Int64))  h0 n0 Z0 ) hZ (hw _ (List.mem_of_getElem? (i := 13) rfl)) (hw _ (List.mem_of_getElem? (i := 12) rfl)) (by decide) (by decide)) (g := (mkF m 24 #[.val (.long q1), .second, .val (.long q2), .second, .val (.long q3), .second, .val (.long ((q1 - q2) - (64 : Int64))), .second, .val (.long (q3 / (262144 : Int64))), .second] [(.long (q3 / (262144 : Int64))), (.long ((q1 - q2) - (64 : Int64))), (.long (2147483647 : Int64))])) rfl (by rw [hml]; rfl) (argsL := [(.long ((q1 - q2) - (64 : Int64))), (.long (q3 / (262144 : Int64)))]) (rest := [(.long (2147483647 : Int64))]) (lenOf pd_0 rfl) rfl (by show 2 * 0 + _ ≤ _; exact Nat.le_of_eq rfl) (hb hby d1_24) (fun _ _ => ⟨rfl, e0, (by decide : 0 + 0 ≤ _), (by decide : 0 + 0 ≤ _)⟩)
  dsimp only [Pt.U, Pt.locs, Pt.cells, Pt.slots] at X1 l1 y1 z1 st1 hQ1
  subst l1 y1 z1
  obtain ⟨r1, hr1, rfl, N1q, e1⟩ := hQ1
  have N1 := Fr.app N0 N1q
  obtain ⟨_, _, ⟨T2, L2, k2, n2⟩, -, X2, ⟨Lc2, hQ2, l2, y2, z2⟩, st2⟩ := Jvm.LawKit.callS X1 hx (y := (⟨"java/lang/Math", "min", "(JJ)J"⟩ : MethodName)) hown (mvT hZ (hw _ (List.mem_of_getElem? (i := 10) rfl))) (mvT hZ (hw _ (List.mem_of_getElem? (i := 11) rfl))) (mvT hZ (hw _ (List.mem_of_getElem? (i := 12) rfl))) (mvT hZ (hw _ (List.mem_of_getElem? (i := 13) rfl))) (by decide) (backOf (W := 0) (rm2 l Z a0 hw [] (2147483647 : Int64) r1  h0 n0 Z0 ) hZ (hw _ (List.mem_of_getElem? (i := 13) rfl)) (hw _ (List.mem_of_getElem? (i := 12) rfl)) (by decide) (by decide)) (g := (mkF m 27 #[.val (.long q1), .second, .val (.long q2), .second, .val (.long q3), .second, .val (.long ((q1 - q2) - (64 : Int64))), .second, .val (.long (q3 / (262144 : Int64))), .second] [(.long r1), (.long (2147483647 : Int64))])) rfl (by rw [hml]; rfl) (argsL := [(.long (2147483647 : Int64)), (.long r1)]) (rest := []) (lenOf pd_0 rfl) rfl (by show 2 * 0 + _ ≤ _; exact Nat.le_of_eq rfl) (hb hby d1_27) (fun _ _ => ⟨rfl, e1, (by decide : 0 + 0 ≤ _), (by decide : 0 + 0 ≤ _)⟩)
  dsimp only [Pt.U, Pt.locs, Pt.cells, Pt.slots] at X2 l2 y2 z2 st2 hQ2
  subst l2 y2 z2
  obtain ⟨r2, hr2, rfl, N2q, e2⟩ := hQ2
  have N2 := Fr.app N1 N2q
  obtain ⟨fs, hr, hrun, hended, hW, hsame⟩ := X2.leave (v := some (.int (r2.toInt32))) (fun h => by rw [Bd.returns] at h; cases h)
  refine ⟨_, _, pre0 _ ?_, hrun, hended, _, _, rfl, ?_, ⟨_, rfl⟩, hW, hsame.mono (by decide) (by decide)⟩
  · show Steps p.tables e below (s₁.setTop (mkF m 0 #[.val (.long q1), .second, .val (.long q2), .second, .val (.long q3), .second, .unset, .unset, .unset, .unset] [])) _
    refine XS.lloadN X0.here hx rfl (hb hby d1_0) rfl ?_
    show Steps p.tables e below (s₁.setTop (mkF m 1 #[.val (.long q1), .second, .val (.long q2), .second, .val (.long q3), .second, .unset, .unset, .unset, .unset] [(.long q1)])) _
    refine XS.lloadN X0.here hx rfl (hb hby d1_1) rfl ?_
    show Steps p.tables e below (s₁.setTop (mkF m 2 #[.val (.long q1), .second, .val (.long q2), .second, .val (.long q3), .second, .unset, .unset, .unset, .unset] [(.long q2), (.long q1)])) _
    refine XS.lsub X0.here hx rfl (hb hby d1_2) rfl ?_
    show Steps p.tables e below (s₁.setTop (mkF m 3 #[.val (.long q1), .second, .val (.long q2), .second, .val (.long q3), .second, .unset, .unset, .unset, .unset] [(.long (q1 - q2))])) _
    refine X0.ldc2Long hx hown (mvT hZ (hw _ (List.mem_of_getElem? (i := 7) rfl))) (g := (mkF m 3 #[.val (.long q1), .second, .val (.long q2), .second, .val (.long q3), .second, .unset, .unset, .unset, .unset] [(.long (q1 - q2))])) rfl (hb hby d1_3) _ ?_
    show Steps p.tables e below (s₁.setTop (mkF m 6 #[.val (.long q1), .second, .val (.long q2), .second, .val (.long q3), .second, .unset, .unset, .unset, .unset] [(.long (64 : Int64)), (.long (q1 - q2))])) _
    refine XS.lsub X0.here hx rfl (hb hby d1_6) rfl ?_
    show Steps p.tables e below (s₁.setTop (mkF m 7 #[.val (.long q1), .second, .val (.long q2), .second, .val (.long q3), .second, .unset, .unset, .unset, .unset] [(.long ((q1 - q2) - (64 : Int64)))])) _
    refine XS.lstore X0.here hx rfl (hb hby d1_7) rfl (l' := #[.val (.long q1), .second, .val (.long q2), .second, .val (.long q3), .second, .val (.long ((q1 - q2) - (64 : Int64))), .second, .unset, .unset]) rfl ?_
    show Steps p.tables e below (s₁.setTop (mkF m 9 #[.val (.long q1), .second, .val (.long q2), .second, .val (.long q3), .second, .val (.long ((q1 - q2) - (64 : Int64))), .second, .unset, .unset] [])) _
    refine XS.lload X0.here hx rfl (hb hby d1_9) rfl ?_
    show Steps p.tables e below (s₁.setTop (mkF m 11 #[.val (.long q1), .second, .val (.long q2), .second, .val (.long q3), .second, .val (.long ((q1 - q2) - (64 : Int64))), .second, .unset, .unset] [(.long q3)])) _
    refine X0.ldc2Long hx hown (mvT hZ (hw _ (List.mem_of_getElem? (i := 8) rfl))) (g := (mkF m 11 #[.val (.long q1), .second, .val (.long q2), .second, .val (.long q3), .second, .val (.long ((q1 - q2) - (64 : Int64))), .second, .unset, .unset] [(.long q3)])) rfl (hb hby d1_11) _ ?_
    show Steps p.tables e below (s₁.setTop (mkF m 14 #[.val (.long q1), .second, .val (.long q2), .second, .val (.long q3), .second, .val (.long ((q1 - q2) - (64 : Int64))), .second, .unset, .unset] [(.long (262144 : Int64)), (.long q3)])) _
    refine XS.ldiv X0.here hx rfl (hb hby d1_14) rfl (by decide) ?_
    show Steps p.tables e below (s₁.setTop (mkF m 15 #[.val (.long q1), .second, .val (.long q2), .second, .val (.long q3), .second, .val (.long ((q1 - q2) - (64 : Int64))), .second, .unset, .unset] [(.long (q3 / (262144 : Int64)))])) _
    refine XS.lstore X0.here hx rfl (hb hby d1_15) rfl (l' := #[.val (.long q1), .second, .val (.long q2), .second, .val (.long q3), .second, .val (.long ((q1 - q2) - (64 : Int64))), .second, .val (.long (q3 / (262144 : Int64))), .second]) rfl ?_
    show Steps p.tables e below (s₁.setTop (mkF m 17 #[.val (.long q1), .second, .val (.long q2), .second, .val (.long q3), .second, .val (.long ((q1 - q2) - (64 : Int64))), .second, .val (.long (q3 / (262144 : Int64))), .second] [])) _
    refine X0.ldc2Long hx hown (mvT hZ (hw _ (List.mem_of_getElem? (i := 9) rfl))) (g := (mkF m 17 #[.val (.long q1), .second, .val (.long q2), .second, .val (.long q3), .second, .val (.long ((q1 - q2) - (64 : Int64))), .second, .val (.long (q3 / (262144 : Int64))), .second] [])) rfl (hb hby d1_17) _ ?_
    show Steps p.tables e below (s₁.setTop (mkF m 20 #[.val (.long q1), .second, .val (.long q2), .second, .val (.long q3), .second, .val (.long ((q1 - q2) - (64 : Int64))), .second, .val (.long (q3 / (262144 : Int64))), .second] [(.long (2147483647 : Int64))])) _
    refine XS.lload X0.here hx rfl (hb hby d1_20) rfl ?_
    show Steps p.tables e below (s₁.setTop (mkF m 22 #[.val (.long q1), .second, .val (.long q2), .second, .val (.long q3), .second, .val (.long ((q1 - q2) - (64 : Int64))), .second, .val (.long (q3 / (262144 : Int64))), .second] [(.long ((q1 - q2) - (64 : Int64))), (.long (2147483647 : Int64))])) _
    refine XS.lload X0.here hx rfl (hb hby d1_22) rfl ?_
    show Steps p.tables e below (s₁.setTop (mkF m 24 #[.val (.long q1), .second, .val (.long q2), .second, .val (.long q3), .second, .val (.long ((q1 - q2) - (64 : Int64))), .second, .val (.long (q3 / (262144 : Int64))), .second] [(.long (q3 / (262144 : Int64))), (.long ((q1 - q2) - (64 : Int64))), (.long (2147483647 : Int64))])) _
    refine st1 _ ?_
    show Steps p.tables e below (T1.setTop (mkF m 27 #[.val (.long q1), .second, .val (.long q2), .second, .val (.long q3), .second, .val (.long ((q1 - q2) - (64 : Int64))), .second, .val (.long (q3 / (262144 : Int64))), .second] [(.long r1), (.long (2147483647 : Int64))])) _
    refine st2 _ ?_
    show Steps p.tables e below (T2.setTop (mkF m 30 #[.val (.long q1), .second, .val (.long q2), .second, .val (.long q3), .second, .val (.long ((q1 - q2) - (64 : Int64))), .second, .val (.long (q3 / (262144 : Int64))), .second] [(.long r2)])) _
    refine XS.l2i X2.here hx rfl (hb hby d1_30) rfl ?_
    show Steps p.tables e below (T2.setTop (mkF m 31 #[.val (.long q1), .second, .val (.long q2), .second, .val (.long q3), .second, .val (.long ((q1 - q2) - (64 : Int64))), .second, .val (.long (q3 / (262144 : Int64))), .second] [(.int (r2.toInt32))])) _
    exact retI X2 hx Bd.returns (hb hby d1_31) hr
  · show Qrm1 Z q1 q2 q3 h0 n0 _ T2.heap _
    exact ⟨_, by rw [hr2, hr1], rfl, N2, e2⟩
theorem pd_1 : parseMethodDescriptor "(JJJ)I" = some ⟨[.long, .long, .long], some .int⟩ := by decide +kernel
theorem pn_0 : plainName "com/example/zorgbrug/zorgbrug/http/PeerConnectionsRoomPinLaw" = true := by first | (simp [plainName, overriddenIn]; done) | decide +kernel
theorem ef_rm0 (m : MethodId) (q1 : Int64) (q2 : Int64) (q3 : Int64) (p4 : Int32) : entryFrame m #[(.long q1), (.long q2), (.long q3), (.int p4)] maxLocals = mkF m 0 #[.val (.long q1), .second, .val (.long q2), .second, .val (.long q3), .second, .val (.int p4), .unset, .unset, .unset, .unset, .unset, .unset, .unset, .unset, .unset, .unset, .unset, .unset, .unset, .unset, .unset] [] := by first | (simp [entryFrame, mkF, argsToLocals, Value.category, maxLocals]; done) | rfl
def Qrm0 (Z : State) (q1 : Int64) (q2 : Int64) (q3 : Int64) (p4 : Int32) (h0 : Heap) (n0 : Nat) (v : Option Value) (h : Heap) (L : List Loc) : Prop := v = some (.int 1) ∧ Fr n0 L
set_option maxRecDepth 65536 in
set_option maxHeartbeats 40000000 in
theorem rm0 (l : Launch) (Z : State) (a0 : Array Value) (hw : ∀ d ∈ tables_1, d.before a0 Z = true) (ws : List Jvm.Cond) (q1 : Int64) (q2 : Int64) (q3 : Int64) (p4 : Int32) (h0 : Heap) (n0 : Nat) (Z0 : n0 ≤ h0.size) :
    MetFree l x (head1 (Jvm.Cond.code x code maxLocals ret :: ws) room_1) (fun a U => a = #[(.long q1), (.long q2), (.long q3), (.int p4)] ∧ Z.Warmed39 U.vm ∧ U.heap = h0) (fun _ _ _ _ _ => True) (fun _ U o U' => ∃ v L, o = .returned v ∧ Qrm0 Z q1 q2 q3 p4 h0 n0 v U'.heap L ∧ FrameEnd U o U' L room_1.cells room_1.slots) := by
  refine MetFree.of_bodySF (plainFor_of_name pn_0) hisR ?_
  intro p e s m args below meth c s₁ Bd hml0 hP hK
  obtain ⟨rfl, hZ, hh⟩ := hP
  have hx := Bd.exec
  have hby := Bd.bytes
  have hml : c.maxLocals = 22 := hml0
  have hown : s.vm.findClass "com/example/zorgbrug/zorgbrug/http/PeerConnectionsRoomPinLaw" = some m.cls := findClass_of_methodNamed Bd.named
  have hnm := (name_of_methodNamed Bd.named Bd.method).1
  have X0 : Stand p l e room_1 s m #[(.long q1), (.long q2), (.long q3), (.int p4)] below meth c s₁ [] 0 0 := Stand.of_body Bd
  have e0 : s₁.heap = h0 := by rw [← hh, Bd.state]; rfl
  have N0 := Fr.nil n0
  have pre0 : ∀ t, Steps p.tables e below (s₁.setTop (mkF m 0 #[.val (.long q1), .second, .val (.long q2), .second, .val (.long q3), .second, .val (.int p4), .unset, .unset, .unset, .unset, .unset, .unset, .unset, .unset, .unset, .unset, .unset, .unset, .unset, .unset, .unset] [])) t → Steps p.tables e below (s₁.setTop (entryFrame m #[(.long q1), (.long q2), (.long q3), (.int p4)] maxLocals)) t := fun t k => castTop (ef_rm0 m q1 q2 q3 p4) k
  obtain ⟨fl, hfl⟩ : ∃ z : Int64, z = (if (p4 &&& (1 : Int32)) = (0 : Int32) then (q1 &&& (9223372036854775807 : Int64)) else (q1 &&& (1048575 : Int64))) := ⟨_, rfl⟩
  have sg1 : ∀ t, Steps p.tables e below (s₁.setTop (mkF m 20 #[.val (.long q1), .second, .val (.long q2), .second, .val (.long q3), .second, .val (.int p4), .unset, .unset, .unset, .unset, .unset, .unset, .unset, .unset, .unset, .unset, .unset, .unset, .unset, .unset, .unset] [(.long fl)])) t → Steps p.tables e below (s₁.setTop (mkF m 0 #[.val (.long q1), .second, .val (.long q2), .second, .val (.long q3), .second, .val (.int p4), .unset, .unset, .unset, .unset, .unset, .unset, .unset, .unset, .unset, .unset, .unset, .unset, .unset, .unset, .unset] [])) t := by
    intro t kt
    by_cases hj1_4 : (p4 &&& (1 : Int32)) = (0 : Int32)
    · rw [if_pos hj1_4] at hfl
      subst hfl
      show Steps p.tables e below (s₁.setTop (mkF m 0 #[.val (.long q1), .second, .val (.long q2), .second, .val (.long q3), .second, .val (.int p4), .unset, .unset, .unset, .unset, .unset, .unset, .unset, .unset, .unset, .unset, .unset, .unset, .unset, .unset, .unset] [])) _
      refine XS.iload X0.here hx rfl (hb hby at_0) rfl ?_
      show Steps p.tables e below (s₁.setTop (mkF m 2 #[.val (.long q1), .second, .val (.long q2), .second, .val (.long q3), .second, .val (.int p4), .unset, .unset, .unset, .unset, .unset, .unset, .unset, .unset, .unset, .unset, .unset, .unset, .unset, .unset, .unset] [(.int p4)])) _
      refine XS.iconst X0.here hx rfl (hb hby at_2) ?_
      show Steps p.tables e below (s₁.setTop (mkF m 3 #[.val (.long q1), .second, .val (.long q2), .second, .val (.long q3), .second, .val (.int p4), .unset, .unset, .unset, .unset, .unset, .unset, .unset, .unset, .unset, .unset, .unset, .unset, .unset, .unset, .unset] [(.int (1 : Int32)), (.int p4)])) _
      refine XS.iand X0.here hx rfl (hb hby at_3) rfl ?_
      show Steps p.tables e below (s₁.setTop (mkF m 4 #[.val (.long q1), .second, .val (.long q2), .second, .val (.long q3), .second, .val (.int p4), .unset, .unset, .unset, .unset, .unset, .unset, .unset, .unset, .unset, .unset, .unset, .unset, .unset, .unset, .unset] [(.int (p4 &&& (1 : Int32)))])) _
      refine XS.ifNo X0.here hx rfl (hb hby at_4) rfl ((if0 _ _).trans (teq hj1_4).2) ?_
      show Steps p.tables e below (s₁.setTop (mkF m 7 #[.val (.long q1), .second, .val (.long q2), .second, .val (.long q3), .second, .val (.int p4), .unset, .unset, .unset, .unset, .unset, .unset, .unset, .unset, .unset, .unset, .unset, .unset, .unset, .unset, .unset] [])) _
      refine XS.lloadN X0.here hx rfl (hb hby at_7) rfl ?_
      show Steps p.tables e below (s₁.setTop (mkF m 8 #[.val (.long q1), .second, .val (.long q2), .second, .val (.long q3), .second, .val (.int p4), .unset, .unset, .unset, .unset, .unset, .unset, .unset, .unset, .unset, .unset, .unset, .unset, .unset, .unset, .unset] [(.long q1)])) _
      refine X0.ldc2Long hx hown (mvT hZ (hw _ (List.mem_of_getElem? (i := 0) rfl))) (g := (mkF m 8 #[.val (.long q1), .second, .val (.long q2), .second, .val (.long q3), .second, .val (.int p4), .unset, .unset, .unset, .unset, .unset, .unset, .unset, .unset, .unset, .unset, .unset, .unset, .unset, .unset, .unset] [(.long q1)])) rfl (hb hby at_8) _ ?_
      show Steps p.tables e below (s₁.setTop (mkF m 11 #[.val (.long q1), .second, .val (.long q2), .second, .val (.long q3), .second, .val (.int p4), .unset, .unset, .unset, .unset, .unset, .unset, .unset, .unset, .unset, .unset, .unset, .unset, .unset, .unset, .unset] [(.long (9223372036854775807 : Int64)), (.long q1)])) _
      refine XS.land X0.here hx rfl (hb hby at_11) rfl ?_
      show Steps p.tables e below (s₁.setTop (mkF m 12 #[.val (.long q1), .second, .val (.long q2), .second, .val (.long q3), .second, .val (.int p4), .unset, .unset, .unset, .unset, .unset, .unset, .unset, .unset, .unset, .unset, .unset, .unset, .unset, .unset, .unset] [(.long (q1 &&& (9223372036854775807 : Int64)))])) _
      refine XS.goto X0.here hx rfl (pc0 := 12) (pc' := 20) rfl (hb hby at_12) (by decide) (by decide) ?_
      exact kt
    · rw [if_neg hj1_4] at hfl
      subst hfl
      show Steps p.tables e below (s₁.setTop (mkF m 0 #[.val (.long q1), .second, .val (.long q2), .second, .val (.long q3), .second, .val (.int p4), .unset, .unset, .unset, .unset, .unset, .unset, .unset, .unset, .unset, .unset, .unset, .unset, .unset, .unset, .unset] [])) _
      refine XS.iload X0.here hx rfl (hb hby at_0) rfl ?_
      show Steps p.tables e below (s₁.setTop (mkF m 2 #[.val (.long q1), .second, .val (.long q2), .second, .val (.long q3), .second, .val (.int p4), .unset, .unset, .unset, .unset, .unset, .unset, .unset, .unset, .unset, .unset, .unset, .unset, .unset, .unset, .unset] [(.int p4)])) _
      refine XS.iconst X0.here hx rfl (hb hby at_2) ?_
      show Steps p.tables e below (s₁.setTop (mkF m 3 #[.val (.long q1), .second, .val (.long q2), .second, .val (.long q3), .second, .val (.int p4), .unset, .unset, .unset, .unset, .unset, .unset, .unset, .unset, .unset, .unset, .unset, .unset, .unset, .unset, .unset] [(.int (1 : Int32)), (.int p4)])) _
      refine XS.iand X0.here hx rfl (hb hby at_3) rfl ?_
      show Steps p.tables e below (s₁.setTop (mkF m 4 #[.val (.long q1), .second, .val (.long q2), .second, .val (.long q3), .second, .val (.int p4), .unset, .unset, .unset, .unset, .unset, .unset, .unset, .unset, .unset, .unset, .unset, .unset, .unset, .unset, .unset] [(.int (p4 &&& (1 : Int32)))])) _
      refine XS.ifYes X0.here hx rfl (pc0 := 4) (pc' := 15) rfl (hb hby at_4) rfl ((if0 _ _).trans (feq hj1_4).2) (by decide) (by decide) ?_
      show Steps p.tables e below (s₁.setTop (mkF m 15 #[.val (.long q1), .second, .val (.long q2), .second, .val (.long q3), .second, .val (.int p4), .unset, .unset, .unset, .unset, .unset, .unset, .unset, .unset, .unset, .unset, .unset, .unset, .unset, .unset, .unset] [])) _
      refine XS.lloadN X0.here hx rfl (hb hby at_15) rfl ?_
      show Steps p.tables e below (s₁.setTop (mkF m 16 #[.val (.long q1), .second, .val (.long q2), .second, .val (.long q3), .second, .val (.int p4), .unset, .unset, .unset, .unset, .unset, .unset, .unset, .unset, .unset, .unset, .unset, .unset, .unset, .unset, .unset] [(.long q1)])) _
      refine X0.ldc2Long hx hown (mvT hZ (hw _ (List.mem_of_getElem? (i := 17) rfl))) (g := (mkF m 16 #[.val (.long q1), .second, .val (.long q2), .second, .val (.long q3), .second, .val (.int p4), .unset, .unset, .unset, .unset, .unset, .unset, .unset, .unset, .unset, .unset, .unset, .unset, .unset, .unset, .unset] [(.long q1)])) rfl (hb hby at_16) _ ?_
      show Steps p.tables e below (s₁.setTop (mkF m 19 #[.val (.long q1), .second, .val (.long q2), .second, .val (.long q3), .second, .val (.int p4), .unset, .unset, .unset, .unset, .unset, .unset, .unset, .unset, .unset, .unset, .unset, .unset, .unset, .unset, .unset] [(.long (1048575 : Int64)), (.long q1)])) _
      refine XS.land X0.here hx rfl (hb hby at_19) rfl ?_
      exact kt
  obtain ⟨hp, hhp⟩ : ∃ z : Int64, z = (if (p4 &&& (2 : Int32)) = (0 : Int32) then (q3 &&& (9223372036854775807 : Int64)) else (q3 &&& (1099511627775 : Int64))) := ⟨_, rfl⟩
  have sg2 : ∀ t, Steps p.tables e below (s₁.setTop (mkF m 51 #[.val (.long q1), .second, .val (.long q2), .second, .val (.long q3), .second, .val (.int p4), .val (.long fl), .second, .val (.long (q2 &&& (1073741823 : Int64))), .second, .unset, .unset, .unset, .unset, .unset, .unset, .unset, .unset, .unset, .unset, .unset] [(.long hp)])) t → Steps p.tables e below (s₁.setTop (mkF m 29 #[.val (.long q1), .second, .val (.long q2), .second, .val (.long q3), .second, .val (.int p4), .val (.long fl), .second, .val (.long (q2 &&& (1073741823 : Int64))), .second, .unset, .unset, .unset, .unset, .unset, .unset, .unset, .unset, .unset, .unset, .unset] [])) t := by
    intro t kt
    by_cases hj2_33 : (p4 &&& (2 : Int32)) = (0 : Int32)
    · rw [if_pos hj2_33] at hhp
      subst hhp
      show Steps p.tables e below (s₁.setTop (mkF m 29 #[.val (.long q1), .second, .val (.long q2), .second, .val (.long q3), .second, .val (.int p4), .val (.long fl), .second, .val (.long (q2 &&& (1073741823 : Int64))), .second, .unset, .unset, .unset, .unset, .unset, .unset, .unset, .unset, .unset, .unset, .unset] [])) _
      refine XS.iload X0.here hx rfl (hb hby at_29) rfl ?_
      show Steps p.tables e below (s₁.setTop (mkF m 31 #[.val (.long q1), .second, .val (.long q2), .second, .val (.long q3), .second, .val (.int p4), .val (.long fl), .second, .val (.long (q2 &&& (1073741823 : Int64))), .second, .unset, .unset, .unset, .unset, .unset, .unset, .unset, .unset, .unset, .unset, .unset] [(.int p4)])) _
      refine XS.iconst X0.here hx rfl (hb hby at_31) ?_
      show Steps p.tables e below (s₁.setTop (mkF m 32 #[.val (.long q1), .second, .val (.long q2), .second, .val (.long q3), .second, .val (.int p4), .val (.long fl), .second, .val (.long (q2 &&& (1073741823 : Int64))), .second, .unset, .unset, .unset, .unset, .unset, .unset, .unset, .unset, .unset, .unset, .unset] [(.int (2 : Int32)), (.int p4)])) _
      refine XS.iand X0.here hx rfl (hb hby at_32) rfl ?_
      show Steps p.tables e below (s₁.setTop (mkF m 33 #[.val (.long q1), .second, .val (.long q2), .second, .val (.long q3), .second, .val (.int p4), .val (.long fl), .second, .val (.long (q2 &&& (1073741823 : Int64))), .second, .unset, .unset, .unset, .unset, .unset, .unset, .unset, .unset, .unset, .unset, .unset] [(.int (p4 &&& (2 : Int32)))])) _
      refine XS.ifNo X0.here hx rfl (hb hby at_33) rfl ((if0 _ _).trans (teq hj2_33).2) ?_
      show Steps p.tables e below (s₁.setTop (mkF m 36 #[.val (.long q1), .second, .val (.long q2), .second, .val (.long q3), .second, .val (.int p4), .val (.long fl), .second, .val (.long (q2 &&& (1073741823 : Int64))), .second, .unset, .unset, .unset, .unset, .unset, .unset, .unset, .unset, .unset, .unset, .unset] [])) _
      refine XS.lload X0.here hx rfl (hb hby at_36) rfl ?_
      show Steps p.tables e below (s₁.setTop (mkF m 38 #[.val (.long q1), .second, .val (.long q2), .second, .val (.long q3), .second, .val (.int p4), .val (.long fl), .second, .val (.long (q2 &&& (1073741823 : Int64))), .second, .unset, .unset, .unset, .unset, .unset, .unset, .unset, .unset, .unset, .unset, .unset] [(.long q3)])) _
      refine X0.ldc2Long hx hown (mvT hZ (hw _ (List.mem_of_getElem? (i := 0) rfl))) (g := (mkF m 38 #[.val (.long q1), .second, .val (.long q2), .second, .val (.long q3), .second, .val (.int p4), .val (.long fl), .second, .val (.long (q2 &&& (1073741823 : Int64))), .second, .unset, .unset, .unset, .unset, .unset, .unset, .unset, .unset, .unset, .unset, .unset] [(.long q3)])) rfl (hb hby at_38) _ ?_
      show Steps p.tables e below (s₁.setTop (mkF m 41 #[.val (.long q1), .second, .val (.long q2), .second, .val (.long q3), .second, .val (.int p4), .val (.long fl), .second, .val (.long (q2 &&& (1073741823 : Int64))), .second, .unset, .unset, .unset, .unset, .unset, .unset, .unset, .unset, .unset, .unset, .unset] [(.long (9223372036854775807 : Int64)), (.long q3)])) _
      refine XS.land X0.here hx rfl (hb hby at_41) rfl ?_
      show Steps p.tables e below (s₁.setTop (mkF m 42 #[.val (.long q1), .second, .val (.long q2), .second, .val (.long q3), .second, .val (.int p4), .val (.long fl), .second, .val (.long (q2 &&& (1073741823 : Int64))), .second, .unset, .unset, .unset, .unset, .unset, .unset, .unset, .unset, .unset, .unset, .unset] [(.long (q3 &&& (9223372036854775807 : Int64)))])) _
      refine XS.goto X0.here hx rfl (pc0 := 42) (pc' := 51) rfl (hb hby at_42) (by decide) (by decide) ?_
      exact kt
    · rw [if_neg hj2_33] at hhp
      subst hhp
      show Steps p.tables e below (s₁.setTop (mkF m 29 #[.val (.long q1), .second, .val (.long q2), .second, .val (.long q3), .second, .val (.int p4), .val (.long fl), .second, .val (.long (q2 &&& (1073741823 : Int64))), .second, .unset, .unset, .unset, .unset, .unset, .unset, .unset, .unset, .unset, .unset, .unset] [])) _
      refine XS.iload X0.here hx rfl (hb hby at_29) rfl ?_
      show Steps p.tables e below (s₁.setTop (mkF m 31 #[.val (.long q1), .second, .val (.long q2), .second, .val (.long q3), .second, .val (.int p4), .val (.long fl), .second, .val (.long (q2 &&& (1073741823 : Int64))), .second, .unset, .unset, .unset, .unset, .unset, .unset, .unset, .unset, .unset, .unset, .unset] [(.int p4)])) _
      refine XS.iconst X0.here hx rfl (hb hby at_31) ?_
      show Steps p.tables e below (s₁.setTop (mkF m 32 #[.val (.long q1), .second, .val (.long q2), .second, .val (.long q3), .second, .val (.int p4), .val (.long fl), .second, .val (.long (q2 &&& (1073741823 : Int64))), .second, .unset, .unset, .unset, .unset, .unset, .unset, .unset, .unset, .unset, .unset, .unset] [(.int (2 : Int32)), (.int p4)])) _
      refine XS.iand X0.here hx rfl (hb hby at_32) rfl ?_
      show Steps p.tables e below (s₁.setTop (mkF m 33 #[.val (.long q1), .second, .val (.long q2), .second, .val (.long q3), .second, .val (.int p4), .val (.long fl), .second, .val (.long (q2 &&& (1073741823 : Int64))), .second, .unset, .unset, .unset, .unset, .unset, .unset, .unset, .unset, .unset, .unset, .unset] [(.int (p4 &&& (2 : Int32)))])) _
      refine XS.ifYes X0.here hx rfl (pc0 := 33) (pc' := 45) rfl (hb hby at_33) rfl ((if0 _ _).trans (feq hj2_33).2) (by decide) (by decide) ?_
      show Steps p.tables e below (s₁.setTop (mkF m 45 #[.val (.long q1), .second, .val (.long q2), .second, .val (.long q3), .second, .val (.int p4), .val (.long fl), .second, .val (.long (q2 &&& (1073741823 : Int64))), .second, .unset, .unset, .unset, .unset, .unset, .unset, .unset, .unset, .unset, .unset, .unset] [])) _
      refine XS.lload X0.here hx rfl (hb hby at_45) rfl ?_
      show Steps p.tables e below (s₁.setTop (mkF m 47 #[.val (.long q1), .second, .val (.long q2), .second, .val (.long q3), .second, .val (.int p4), .val (.long fl), .second, .val (.long (q2 &&& (1073741823 : Int64))), .second, .unset, .unset, .unset, .unset, .unset, .unset, .unset, .unset, .unset, .unset, .unset] [(.long q3)])) _
      refine X0.ldc2Long hx hown (mvT hZ (hw _ (List.mem_of_getElem? (i := 2) rfl))) (g := (mkF m 47 #[.val (.long q1), .second, .val (.long q2), .second, .val (.long q3), .second, .val (.int p4), .val (.long fl), .second, .val (.long (q2 &&& (1073741823 : Int64))), .second, .unset, .unset, .unset, .unset, .unset, .unset, .unset, .unset, .unset, .unset, .unset] [(.long q3)])) rfl (hb hby at_47) _ ?_
      show Steps p.tables e below (s₁.setTop (mkF m 50 #[.val (.long q1), .second, .val (.long q2), .second, .val (.long q3), .second, .val (.int p4), .val (.long fl), .second, .val (.long (q2 &&& (1073741823 : Int64))), .second, .unset, .unset, .unset, .unset, .unset, .unset, .unset, .unset, .unset, .unset, .unset] [(.long (1099511627775 : Int64)), (.long q3)])) _
      refine XS.land X0.here hx rfl (hb hby at_50) rfl ?_
      exact kt
  obtain ⟨_, _, ⟨T3, L3, k3, n3⟩, -, X3, ⟨Lc3, hQ3, l3, y3, z3⟩, st3⟩ := Jvm.LawKit.callS X0 hx (y := (⟨"com/example/zorgbrug/zorgbrug/http/PeerConnections", "room", "(JJJ)I"⟩ : MethodName)) hown (mvT hZ (hw _ (List.mem_of_getElem? (i := 3) rfl))) (mvT hZ (hw _ (List.mem_of_getElem? (i := 4) rfl))) (mvT hZ (hw _ (List.mem_of_getElem? (i := 5) rfl))) (mvT hZ (hw _ (List.mem_of_getElem? (i := 6) rfl))) (by decide) (backOf (W := 0) (rm1 l Z a0 hw [] fl (q2 &&& (1073741823 : Int64)) hp  h0 n0 Z0 ) hZ (hw _ (List.mem_of_getElem? (i := 6) rfl)) (hw _ (List.mem_of_getElem? (i := 5) rfl)) (by decide) (by decide)) (g := (mkF m 59 #[.val (.long q1), .second, .val (.long q2), .second, .val (.long q3), .second, .val (.int p4), .val (.long fl), .second, .val (.long (q2 &&& (1073741823 : Int64))), .second, .val (.long hp), .second, .unset, .unset, .unset, .unset, .unset, .unset, .unset, .unset, .unset] [(.long hp), (.long (q2 &&& (1073741823 : Int64))), (.long fl)])) rfl (by rw [hml]; rfl) (argsL := [(.long fl), (.long (q2 &&& (1073741823 : Int64))), (.long hp)]) (rest := []) (lenOf pd_1 rfl) rfl (by show 2 * 0 + _ ≤ _; exact Nat.le_of_eq rfl) (hb hby at_59) (fun _ _ => ⟨rfl, e0, (by decide : 0 + 0 ≤ _), (by decide : 0 + 0 ≤ _)⟩)
  dsimp only [Pt.U, Pt.locs, Pt.cells, Pt.slots] at X3 l3 y3 z3 st3 hQ3
  subst l3 y3 z3
  obtain ⟨r3, hr3, rfl, N3q, e3⟩ := hQ3
  have N3 := Fr.app N0 N3q
  have own := own_room fl (q2 &&& (1073741823 : Int64)) hp (by rw [hfl]; split <;> exact (c_andSL _ _).2.2 (by decide)) ((c_andSL _ _).2.2 (by decide)) (by rw [c_maskL q2 1073741823 30 (by decide) (by decide)]; omega) (by rw [hhp]; split <;> exact (c_andSL _ _).2.2 (by decide)) r3 hr3
  by_cases hc115 : r3 = (2147483647 : Int32)
  · obtain ⟨fs, hr, hrun, hended, hW, hsame⟩ := X3.leave (v := some (.int (1 : Int32))) (fun h => by rw [Bd.returns] at h; cases h)
    refine ⟨_, _, pre0 _ ?_, hrun, hended, _, _, rfl, ?_, ⟨_, rfl⟩, hW, hsame.mono (by decide) (by decide)⟩
    · show Steps p.tables e below (s₁.setTop (mkF m 0 #[.val (.long q1), .second, .val (.long q2), .second, .val (.long q3), .second, .val (.int p4), .unset, .unset, .unset, .unset, .unset, .unset, .unset, .unset, .unset, .unset, .unset, .unset, .unset, .unset, .unset] [])) _
      refine sg1 _ ?_
      show Steps p.tables e below (s₁.setTop (mkF m 20 #[.val (.long q1), .second, .val (.long q2), .second, .val (.long q3), .second, .val (.int p4), .unset, .unset, .unset, .unset, .unset, .unset, .unset, .unset, .unset, .unset, .unset, .unset, .unset, .unset, .unset] [(.long fl)])) _
      refine XS.lstore X0.here hx rfl (hb hby at_20) rfl (l' := #[.val (.long q1), .second, .val (.long q2), .second, .val (.long q3), .second, .val (.int p4), .val (.long fl), .second, .unset, .unset, .unset, .unset, .unset, .unset, .unset, .unset, .unset, .unset, .unset, .unset, .unset]) rfl ?_
      show Steps p.tables e below (s₁.setTop (mkF m 22 #[.val (.long q1), .second, .val (.long q2), .second, .val (.long q3), .second, .val (.int p4), .val (.long fl), .second, .unset, .unset, .unset, .unset, .unset, .unset, .unset, .unset, .unset, .unset, .unset, .unset, .unset] [])) _
      refine XS.lloadN X0.here hx rfl (hb hby at_22) rfl ?_
      show Steps p.tables e below (s₁.setTop (mkF m 23 #[.val (.long q1), .second, .val (.long q2), .second, .val (.long q3), .second, .val (.int p4), .val (.long fl), .second, .unset, .unset, .unset, .unset, .unset, .unset, .unset, .unset, .unset, .unset, .unset, .unset, .unset] [(.long q2)])) _
      refine X0.ldc2Long hx hown (mvT hZ (hw _ (List.mem_of_getElem? (i := 1) rfl))) (g := (mkF m 23 #[.val (.long q1), .second, .val (.long q2), .second, .val (.long q3), .second, .val (.int p4), .val (.long fl), .second, .unset, .unset, .unset, .unset, .unset, .unset, .unset, .unset, .unset, .unset, .unset, .unset, .unset] [(.long q2)])) rfl (hb hby at_23) _ ?_
      show Steps p.tables e below (s₁.setTop (mkF m 26 #[.val (.long q1), .second, .val (.long q2), .second, .val (.long q3), .second, .val (.int p4), .val (.long fl), .second, .unset, .unset, .unset, .unset, .unset, .unset, .unset, .unset, .unset, .unset, .unset, .unset, .unset] [(.long (1073741823 : Int64)), (.long q2)])) _
      refine XS.land X0.here hx rfl (hb hby at_26) rfl ?_
      show Steps p.tables e below (s₁.setTop (mkF m 27 #[.val (.long q1), .second, .val (.long q2), .second, .val (.long q3), .second, .val (.int p4), .val (.long fl), .second, .unset, .unset, .unset, .unset, .unset, .unset, .unset, .unset, .unset, .unset, .unset, .unset, .unset] [(.long (q2 &&& (1073741823 : Int64)))])) _
      refine XS.lstore X0.here hx rfl (hb hby at_27) rfl (l' := #[.val (.long q1), .second, .val (.long q2), .second, .val (.long q3), .second, .val (.int p4), .val (.long fl), .second, .val (.long (q2 &&& (1073741823 : Int64))), .second, .unset, .unset, .unset, .unset, .unset, .unset, .unset, .unset, .unset, .unset, .unset]) rfl ?_
      show Steps p.tables e below (s₁.setTop (mkF m 29 #[.val (.long q1), .second, .val (.long q2), .second, .val (.long q3), .second, .val (.int p4), .val (.long fl), .second, .val (.long (q2 &&& (1073741823 : Int64))), .second, .unset, .unset, .unset, .unset, .unset, .unset, .unset, .unset, .unset, .unset, .unset] [])) _
      refine sg2 _ ?_
      show Steps p.tables e below (s₁.setTop (mkF m 51 #[.val (.long q1), .second, .val (.long q2), .second, .val (.long q3), .second, .val (.int p4), .val (.long fl), .second, .val (.long (q2 &&& (1073741823 : Int64))), .second, .unset, .unset, .unset, .unset, .unset, .unset, .unset, .unset, .unset, .unset, .unset] [(.long hp)])) _
      refine XS.lstore X0.here hx rfl (hb hby at_51) rfl (l' := #[.val (.long q1), .second, .val (.long q2), .second, .val (.long q3), .second, .val (.int p4), .val (.long fl), .second, .val (.long (q2 &&& (1073741823 : Int64))), .second, .val (.long hp), .second, .unset, .unset, .unset, .unset, .unset, .unset, .unset, .unset, .unset]) rfl ?_
      show Steps p.tables e below (s₁.setTop (mkF m 53 #[.val (.long q1), .second, .val (.long q2), .second, .val (.long q3), .second, .val (.int p4), .val (.long fl), .second, .val (.long (q2 &&& (1073741823 : Int64))), .second, .val (.long hp), .second, .unset, .unset, .unset, .unset, .unset, .unset, .unset, .unset, .unset] [])) _
      refine XS.lload X0.here hx rfl (hb hby at_53) rfl ?_
      show Steps p.tables e below (s₁.setTop (mkF m 55 #[.val (.long q1), .second, .val (.long q2), .second, .val (.long q3), .second, .val (.int p4), .val (.long fl), .second, .val (.long (q2 &&& (1073741823 : Int64))), .second, .val (.long hp), .second, .unset, .unset, .unset, .unset, .unset, .unset, .unset, .unset, .unset] [(.long fl)])) _
      refine XS.lload X0.here hx rfl (hb hby at_55) rfl ?_
      show Steps p.tables e below (s₁.setTop (mkF m 57 #[.val (.long q1), .second, .val (.long q2), .second, .val (.long q3), .second, .val (.int p4), .val (.long fl), .second, .val (.long (q2 &&& (1073741823 : Int64))), .second, .val (.long hp), .second, .unset, .unset, .unset, .unset, .unset, .unset, .unset, .unset, .unset] [(.long (q2 &&& (1073741823 : Int64))), (.long fl)])) _
      refine XS.lload X0.here hx rfl (hb hby at_57) rfl ?_
      show Steps p.tables e below (s₁.setTop (mkF m 59 #[.val (.long q1), .second, .val (.long q2), .second, .val (.long q3), .second, .val (.int p4), .val (.long fl), .second, .val (.long (q2 &&& (1073741823 : Int64))), .second, .val (.long hp), .second, .unset, .unset, .unset, .unset, .unset, .unset, .unset, .unset, .unset] [(.long hp), (.long (q2 &&& (1073741823 : Int64))), (.long fl)])) _
      refine st3 _ ?_
      show Steps p.tables e below (T3.setTop (mkF m 62 #[.val (.long q1), .second, .val (.long q2), .second, .val (.long q3), .second, .val (.int p4), .val (.long fl), .second, .val (.long (q2 &&& (1073741823 : Int64))), .second, .val (.long hp), .second, .unset, .unset, .unset, .unset, .unset, .unset, .unset, .unset, .unset] [(.int r3)])) _
      refine XS.istore X3.here hx rfl (hb hby at_62) rfl (l' := #[.val (.long q1), .second, .val (.long q2), .second, .val (.long q3), .second, .val (.int p4), .val (.long fl), .second, .val (.long (q2 &&& (1073741823 : Int64))), .second, .val (.long hp), .second, .val (.int r3), .unset, .unset, .unset, .unset, .unset, .unset, .unset, .unset]) rfl ?_
      show Steps p.tables e below (T3.setTop (mkF m 64 #[.val (.long q1), .second, .val (.long q2), .second, .val (.long q3), .second, .val (.int p4), .val (.long fl), .second, .val (.long (q2 &&& (1073741823 : Int64))), .second, .val (.long hp), .second, .val (.int r3), .unset, .unset, .unset, .unset, .unset, .unset, .unset, .unset] [])) _
      refine XS.lload X3.here hx rfl (hb hby at_64) rfl ?_
      show Steps p.tables e below (T3.setTop (mkF m 66 #[.val (.long q1), .second, .val (.long q2), .second, .val (.long q3), .second, .val (.int p4), .val (.long fl), .second, .val (.long (q2 &&& (1073741823 : Int64))), .second, .val (.long hp), .second, .val (.int r3), .unset, .unset, .unset, .unset, .unset, .unset, .unset, .unset] [(.long fl)])) _
      refine XS.lload X3.here hx rfl (hb hby at_66) rfl ?_
      show Steps p.tables e below (T3.setTop (mkF m 68 #[.val (.long q1), .second, .val (.long q2), .second, .val (.long q3), .second, .val (.int p4), .val (.long fl), .second, .val (.long (q2 &&& (1073741823 : Int64))), .second, .val (.long hp), .second, .val (.int r3), .unset, .unset, .unset, .unset, .unset, .unset, .unset, .unset] [(.long (q2 &&& (1073741823 : Int64))), (.long fl)])) _
      refine XS.lsub X3.here hx rfl (hb hby at_68) rfl ?_
      show Steps p.tables e below (T3.setTop (mkF m 69 #[.val (.long q1), .second, .val (.long q2), .second, .val (.long q3), .second, .val (.int p4), .val (.long fl), .second, .val (.long (q2 &&& (1073741823 : Int64))), .second, .val (.long hp), .second, .val (.int r3), .unset, .unset, .unset, .unset, .unset, .unset, .unset, .unset] [(.long (fl - (q2 &&& (1073741823 : Int64))))])) _
      refine X3.ldc2Long hx hown (mvT hZ (hw _ (List.mem_of_getElem? (i := 14) rfl))) (g := (mkF m 69 #[.val (.long q1), .second, .val (.long q2), .second, .val (.long q3), .second, .val (.int p4), .val (.long fl), .second, .val (.long (q2 &&& (1073741823 : Int64))), .second, .val (.long hp), .second, .val (.int r3), .unset, .unset, .unset, .unset, .unset, .unset, .unset, .unset] [(.long (fl - (q2 &&& (1073741823 : Int64))))])) rfl (hb hby at_69) _ ?_
      show Steps p.tables e below (T3.setTop (mkF m 72 #[.val (.long q1), .second, .val (.long q2), .second, .val (.long q3), .second, .val (.int p4), .val (.long fl), .second, .val (.long (q2 &&& (1073741823 : Int64))), .second, .val (.long hp), .second, .val (.int r3), .unset, .unset, .unset, .unset, .unset, .unset, .unset, .unset] [(.long (64 : Int64)), (.long (fl - (q2 &&& (1073741823 : Int64))))])) _
      refine XS.lsub X3.here hx rfl (hb hby at_72) rfl ?_
      show Steps p.tables e below (T3.setTop (mkF m 73 #[.val (.long q1), .second, .val (.long q2), .second, .val (.long q3), .second, .val (.int p4), .val (.long fl), .second, .val (.long (q2 &&& (1073741823 : Int64))), .second, .val (.long hp), .second, .val (.int r3), .unset, .unset, .unset, .unset, .unset, .unset, .unset, .unset] [(.long ((fl - (q2 &&& (1073741823 : Int64))) - (64 : Int64)))])) _
      refine XS.lstore X3.here hx rfl (hb hby at_73) rfl (l' := #[.val (.long q1), .second, .val (.long q2), .second, .val (.long q3), .second, .val (.int p4), .val (.long fl), .second, .val (.long (q2 &&& (1073741823 : Int64))), .second, .val (.long hp), .second, .val (.int r3), .val (.long ((fl - (q2 &&& (1073741823 : Int64))) - (64 : Int64))), .second, .unset, .unset, .unset, .unset, .unset, .unset]) rfl ?_
      show Steps p.tables e below (T3.setTop (mkF m 75 #[.val (.long q1), .second, .val (.long q2), .second, .val (.long q3), .second, .val (.int p4), .val (.long fl), .second, .val (.long (q2 &&& (1073741823 : Int64))), .second, .val (.long hp), .second, .val (.int r3), .val (.long ((fl - (q2 &&& (1073741823 : Int64))) - (64 : Int64))), .second, .unset, .unset, .unset, .unset, .unset, .unset] [])) _
      refine X3.ldc2Long hx hown (mvT hZ (hw _ (List.mem_of_getElem? (i := 15) rfl))) (g := (mkF m 75 #[.val (.long q1), .second, .val (.long q2), .second, .val (.long q3), .second, .val (.int p4), .val (.long fl), .second, .val (.long (q2 &&& (1073741823 : Int64))), .second, .val (.long hp), .second, .val (.int r3), .val (.long ((fl - (q2 &&& (1073741823 : Int64))) - (64 : Int64))), .second, .unset, .unset, .unset, .unset, .unset, .unset] [])) rfl (hb hby at_75) _ ?_
      show Steps p.tables e below (T3.setTop (mkF m 78 #[.val (.long q1), .second, .val (.long q2), .second, .val (.long q3), .second, .val (.int p4), .val (.long fl), .second, .val (.long (q2 &&& (1073741823 : Int64))), .second, .val (.long hp), .second, .val (.int r3), .val (.long ((fl - (q2 &&& (1073741823 : Int64))) - (64 : Int64))), .second, .unset, .unset, .unset, .unset, .unset, .unset] [(.long (262144 : Int64))])) _
      refine XS.lstore X3.here hx rfl (hb hby at_78) rfl (l' := #[.val (.long q1), .second, .val (.long q2), .second, .val (.long q3), .second, .val (.int p4), .val (.long fl), .second, .val (.long (q2 &&& (1073741823 : Int64))), .second, .val (.long hp), .second, .val (.int r3), .val (.long ((fl - (q2 &&& (1073741823 : Int64))) - (64 : Int64))), .second, .val (.long (262144 : Int64)), .second, .unset, .unset, .unset, .unset]) rfl ?_
      show Steps p.tables e below (T3.setTop (mkF m 80 #[.val (.long q1), .second, .val (.long q2), .second, .val (.long q3), .second, .val (.int p4), .val (.long fl), .second, .val (.long (q2 &&& (1073741823 : Int64))), .second, .val (.long hp), .second, .val (.int r3), .val (.long ((fl - (q2 &&& (1073741823 : Int64))) - (64 : Int64))), .second, .val (.long (262144 : Int64)), .second, .unset, .unset, .unset, .unset] [])) _
      refine XS.iload X3.here hx rfl (hb hby at_80) rfl ?_
      show Steps p.tables e below (T3.setTop (mkF m 82 #[.val (.long q1), .second, .val (.long q2), .second, .val (.long q3), .second, .val (.int p4), .val (.long fl), .second, .val (.long (q2 &&& (1073741823 : Int64))), .second, .val (.long hp), .second, .val (.int r3), .val (.long ((fl - (q2 &&& (1073741823 : Int64))) - (64 : Int64))), .second, .val (.long (262144 : Int64)), .second, .unset, .unset, .unset, .unset] [(.int r3)])) _
      refine XS.i2l X3.here hx rfl (hb hby at_82) rfl ?_
      show Steps p.tables e below (T3.setTop (mkF m 83 #[.val (.long q1), .second, .val (.long q2), .second, .val (.long q3), .second, .val (.int p4), .val (.long fl), .second, .val (.long (q2 &&& (1073741823 : Int64))), .second, .val (.long hp), .second, .val (.int r3), .val (.long ((fl - (q2 &&& (1073741823 : Int64))) - (64 : Int64))), .second, .val (.long (262144 : Int64)), .second, .unset, .unset, .unset, .unset] [(.long (r3.toInt64))])) _
      refine XS.lstore X3.here hx rfl (hb hby at_83) rfl (l' := #[.val (.long q1), .second, .val (.long q2), .second, .val (.long q3), .second, .val (.int p4), .val (.long fl), .second, .val (.long (q2 &&& (1073741823 : Int64))), .second, .val (.long hp), .second, .val (.int r3), .val (.long ((fl - (q2 &&& (1073741823 : Int64))) - (64 : Int64))), .second, .val (.long (262144 : Int64)), .second, .val (.long (r3.toInt64)), .second, .unset, .unset]) rfl ?_
      show Steps p.tables e below (T3.setTop (mkF m 85 #[.val (.long q1), .second, .val (.long q2), .second, .val (.long q3), .second, .val (.int p4), .val (.long fl), .second, .val (.long (q2 &&& (1073741823 : Int64))), .second, .val (.long hp), .second, .val (.int r3), .val (.long ((fl - (q2 &&& (1073741823 : Int64))) - (64 : Int64))), .second, .val (.long (262144 : Int64)), .second, .val (.long (r3.toInt64)), .second, .unset, .unset] [])) _
      refine XS.lload X3.here hx rfl (hb hby at_85) rfl ?_
      show Steps p.tables e below (T3.setTop (mkF m 87 #[.val (.long q1), .second, .val (.long q2), .second, .val (.long q3), .second, .val (.int p4), .val (.long fl), .second, .val (.long (q2 &&& (1073741823 : Int64))), .second, .val (.long hp), .second, .val (.int r3), .val (.long ((fl - (q2 &&& (1073741823 : Int64))) - (64 : Int64))), .second, .val (.long (262144 : Int64)), .second, .val (.long (r3.toInt64)), .second, .unset, .unset] [(.long (r3.toInt64))])) _
      refine XS.lload X3.here hx rfl (hb hby at_87) rfl ?_
      show Steps p.tables e below (T3.setTop (mkF m 89 #[.val (.long q1), .second, .val (.long q2), .second, .val (.long q3), .second, .val (.int p4), .val (.long fl), .second, .val (.long (q2 &&& (1073741823 : Int64))), .second, .val (.long hp), .second, .val (.int r3), .val (.long ((fl - (q2 &&& (1073741823 : Int64))) - (64 : Int64))), .second, .val (.long (262144 : Int64)), .second, .val (.long (r3.toInt64)), .second, .unset, .unset] [(.long ((fl - (q2 &&& (1073741823 : Int64))) - (64 : Int64))), (.long (r3.toInt64))])) _
      refine XS.lcmp X3.here hx rfl (hb hby at_89) rfl ?_
      show Steps p.tables e below (T3.setTop (mkF m 90 #[.val (.long q1), .second, .val (.long q2), .second, .val (.long q3), .second, .val (.int p4), .val (.long fl), .second, .val (.long (q2 &&& (1073741823 : Int64))), .second, .val (.long hp), .second, .val (.int r3), .val (.long ((fl - (q2 &&& (1073741823 : Int64))) - (64 : Int64))), .second, .val (.long (262144 : Int64)), .second, .val (.long (r3.toInt64)), .second, .unset, .unset] [(.int (lcmpW (r3.toInt64) ((fl - (q2 &&& (1073741823 : Int64))) - (64 : Int64))))])) _
      refine XS.ifNo X3.here hx rfl (hb hby at_90) rfl ((if0 _ _).trans (flt (own_lcngt own.1)).2.2.1) ?_
      show Steps p.tables e below (T3.setTop (mkF m 93 #[.val (.long q1), .second, .val (.long q2), .second, .val (.long q3), .second, .val (.int p4), .val (.long fl), .second, .val (.long (q2 &&& (1073741823 : Int64))), .second, .val (.long hp), .second, .val (.int r3), .val (.long ((fl - (q2 &&& (1073741823 : Int64))) - (64 : Int64))), .second, .val (.long (262144 : Int64)), .second, .val (.long (r3.toInt64)), .second, .unset, .unset] [])) _
      refine XS.lload X3.here hx rfl (hb hby at_93) rfl ?_
      show Steps p.tables e below (T3.setTop (mkF m 95 #[.val (.long q1), .second, .val (.long q2), .second, .val (.long q3), .second, .val (.int p4), .val (.long fl), .second, .val (.long (q2 &&& (1073741823 : Int64))), .second, .val (.long hp), .second, .val (.int r3), .val (.long ((fl - (q2 &&& (1073741823 : Int64))) - (64 : Int64))), .second, .val (.long (262144 : Int64)), .second, .val (.long (r3.toInt64)), .second, .unset, .unset] [(.long (r3.toInt64))])) _
      refine XS.lload X3.here hx rfl (hb hby at_95) rfl ?_
      show Steps p.tables e below (T3.setTop (mkF m 97 #[.val (.long q1), .second, .val (.long q2), .second, .val (.long q3), .second, .val (.int p4), .val (.long fl), .second, .val (.long (q2 &&& (1073741823 : Int64))), .second, .val (.long hp), .second, .val (.int r3), .val (.long ((fl - (q2 &&& (1073741823 : Int64))) - (64 : Int64))), .second, .val (.long (262144 : Int64)), .second, .val (.long (r3.toInt64)), .second, .unset, .unset] [(.long (262144 : Int64)), (.long (r3.toInt64))])) _
      refine XS.lmul X3.here hx rfl (hb hby at_97) rfl ?_
      show Steps p.tables e below (T3.setTop (mkF m 98 #[.val (.long q1), .second, .val (.long q2), .second, .val (.long q3), .second, .val (.int p4), .val (.long fl), .second, .val (.long (q2 &&& (1073741823 : Int64))), .second, .val (.long hp), .second, .val (.int r3), .val (.long ((fl - (q2 &&& (1073741823 : Int64))) - (64 : Int64))), .second, .val (.long (262144 : Int64)), .second, .val (.long (r3.toInt64)), .second, .unset, .unset] [(.long ((r3.toInt64) * (262144 : Int64)))])) _
      refine XS.lload X3.here hx rfl (hb hby at_98) rfl ?_
      show Steps p.tables e below (T3.setTop (mkF m 100 #[.val (.long q1), .second, .val (.long q2), .second, .val (.long q3), .second, .val (.int p4), .val (.long fl), .second, .val (.long (q2 &&& (1073741823 : Int64))), .second, .val (.long hp), .second, .val (.int r3), .val (.long ((fl - (q2 &&& (1073741823 : Int64))) - (64 : Int64))), .second, .val (.long (262144 : Int64)), .second, .val (.long (r3.toInt64)), .second, .unset, .unset] [(.long hp), (.long ((r3.toInt64) * (262144 : Int64)))])) _
      refine XS.lcmp X3.here hx rfl (hb hby at_100) rfl ?_
      show Steps p.tables e below (T3.setTop (mkF m 101 #[.val (.long q1), .second, .val (.long q2), .second, .val (.long q3), .second, .val (.int p4), .val (.long fl), .second, .val (.long (q2 &&& (1073741823 : Int64))), .second, .val (.long hp), .second, .val (.int r3), .val (.long ((fl - (q2 &&& (1073741823 : Int64))) - (64 : Int64))), .second, .val (.long (262144 : Int64)), .second, .val (.long (r3.toInt64)), .second, .unset, .unset] [(.int (lcmpW ((r3.toInt64) * (262144 : Int64)) hp))])) _
      refine XS.ifNo X3.here hx rfl (hb hby at_101) rfl ((if0 _ _).trans (flt (own_lcngt own.2.1)).2.2.1) ?_
      show Steps p.tables e below (T3.setTop (mkF m 104 #[.val (.long q1), .second, .val (.long q2), .second, .val (.long q3), .second, .val (.int p4), .val (.long fl), .second, .val (.long (q2 &&& (1073741823 : Int64))), .second, .val (.long hp), .second, .val (.int r3), .val (.long ((fl - (q2 &&& (1073741823 : Int64))) - (64 : Int64))), .second, .val (.long (262144 : Int64)), .second, .val (.long (r3.toInt64)), .second, .unset, .unset] [])) _
      refine XS.iconst X3.here hx rfl (hb hby at_104) ?_
      show Steps p.tables e below (T3.setTop (mkF m 105 #[.val (.long q1), .second, .val (.long q2), .second, .val (.long q3), .second, .val (.int p4), .val (.long fl), .second, .val (.long (q2 &&& (1073741823 : Int64))), .second, .val (.long hp), .second, .val (.int r3), .val (.long ((fl - (q2 &&& (1073741823 : Int64))) - (64 : Int64))), .second, .val (.long (262144 : Int64)), .second, .val (.long (r3.toInt64)), .second, .unset, .unset] [(.int (1 : Int32))])) _
      refine XS.goto X3.here hx rfl (pc0 := 105) (pc' := 109) rfl (hb hby at_105) (by decide) (by decide) ?_
      show Steps p.tables e below (T3.setTop (mkF m 109 #[.val (.long q1), .second, .val (.long q2), .second, .val (.long q3), .second, .val (.int p4), .val (.long fl), .second, .val (.long (q2 &&& (1073741823 : Int64))), .second, .val (.long hp), .second, .val (.int r3), .val (.long ((fl - (q2 &&& (1073741823 : Int64))) - (64 : Int64))), .second, .val (.long (262144 : Int64)), .second, .val (.long (r3.toInt64)), .second, .unset, .unset] [(.int (1 : Int32))])) _
      refine XS.istore X3.here hx rfl (hb hby at_109) rfl (l' := #[.val (.long q1), .second, .val (.long q2), .second, .val (.long q3), .second, .val (.int p4), .val (.long fl), .second, .val (.long (q2 &&& (1073741823 : Int64))), .second, .val (.long hp), .second, .val (.int r3), .val (.long ((fl - (q2 &&& (1073741823 : Int64))) - (64 : Int64))), .second, .val (.long (262144 : Int64)), .second, .val (.long (r3.toInt64)), .second, .val (.int (1 : Int32)), .unset]) rfl ?_
      show Steps p.tables e below (T3.setTop (mkF m 111 #[.val (.long q1), .second, .val (.long q2), .second, .val (.long q3), .second, .val (.int p4), .val (.long fl), .second, .val (.long (q2 &&& (1073741823 : Int64))), .second, .val (.long hp), .second, .val (.int r3), .val (.long ((fl - (q2 &&& (1073741823 : Int64))) - (64 : Int64))), .second, .val (.long (262144 : Int64)), .second, .val (.long (r3.toInt64)), .second, .val (.int (1 : Int32)), .unset] [])) _
      refine XS.iload X3.here hx rfl (hb hby at_111) rfl ?_
      show Steps p.tables e below (T3.setTop (mkF m 113 #[.val (.long q1), .second, .val (.long q2), .second, .val (.long q3), .second, .val (.int p4), .val (.long fl), .second, .val (.long (q2 &&& (1073741823 : Int64))), .second, .val (.long hp), .second, .val (.int r3), .val (.long ((fl - (q2 &&& (1073741823 : Int64))) - (64 : Int64))), .second, .val (.long (262144 : Int64)), .second, .val (.long (r3.toInt64)), .second, .val (.int (1 : Int32)), .unset] [(.int r3)])) _
      refine X3.ldcInt hx hown (mvT hZ (hw _ (List.mem_of_getElem? (i := 16) rfl))) (g := (mkF m 113 #[.val (.long q1), .second, .val (.long q2), .second, .val (.long q3), .second, .val (.int p4), .val (.long fl), .second, .val (.long (q2 &&& (1073741823 : Int64))), .second, .val (.long hp), .second, .val (.int r3), .val (.long ((fl - (q2 &&& (1073741823 : Int64))) - (64 : Int64))), .second, .val (.long (262144 : Int64)), .second, .val (.long (r3.toInt64)), .second, .val (.int (1 : Int32)), .unset] [(.int r3)])) rfl (hb hby at_113) _ ?_
      show Steps p.tables e below (T3.setTop (mkF m 115 #[.val (.long q1), .second, .val (.long q2), .second, .val (.long q3), .second, .val (.int p4), .val (.long fl), .second, .val (.long (q2 &&& (1073741823 : Int64))), .second, .val (.long hp), .second, .val (.int r3), .val (.long ((fl - (q2 &&& (1073741823 : Int64))) - (64 : Int64))), .second, .val (.long (262144 : Int64)), .second, .val (.long (r3.toInt64)), .second, .val (.int (1 : Int32)), .unset] [(.int (2147483647 : Int32)), (.int r3)])) _
      refine XS.icmpYes X3.here hx rfl (pc0 := 115) (pc' := 141) rfl (hb hby at_115) rfl (teq hc115).1 (by decide) (by decide) ?_
      show Steps p.tables e below (T3.setTop (mkF m 141 #[.val (.long q1), .second, .val (.long q2), .second, .val (.long q3), .second, .val (.int p4), .val (.long fl), .second, .val (.long (q2 &&& (1073741823 : Int64))), .second, .val (.long hp), .second, .val (.int r3), .val (.long ((fl - (q2 &&& (1073741823 : Int64))) - (64 : Int64))), .second, .val (.long (262144 : Int64)), .second, .val (.long (r3.toInt64)), .second, .val (.int (1 : Int32)), .unset] [])) _
      refine XS.iconst X3.here hx rfl (hb hby at_141) ?_
      show Steps p.tables e below (T3.setTop (mkF m 142 #[.val (.long q1), .second, .val (.long q2), .second, .val (.long q3), .second, .val (.int p4), .val (.long fl), .second, .val (.long (q2 &&& (1073741823 : Int64))), .second, .val (.long hp), .second, .val (.int r3), .val (.long ((fl - (q2 &&& (1073741823 : Int64))) - (64 : Int64))), .second, .val (.long (262144 : Int64)), .second, .val (.long (r3.toInt64)), .second, .val (.int (1 : Int32)), .unset] [(.int (1 : Int32))])) _
      refine XS.goto X3.here hx rfl (pc0 := 142) (pc' := 146) rfl (hb hby at_142) (by decide) (by decide) ?_
      show Steps p.tables e below (T3.setTop (mkF m 146 #[.val (.long q1), .second, .val (.long q2), .second, .val (.long q3), .second, .val (.int p4), .val (.long fl), .second, .val (.long (q2 &&& (1073741823 : Int64))), .second, .val (.long hp), .second, .val (.int r3), .val (.long ((fl - (q2 &&& (1073741823 : Int64))) - (64 : Int64))), .second, .val (.long (262144 : Int64)), .second, .val (.long (r3.toInt64)), .second, .val (.int (1 : Int32)), .unset] [(.int (1 : Int32))])) _
      refine XS.istore X3.here hx rfl (hb hby at_146) rfl (l' := #[.val (.long q1), .second, .val (.long q2), .second, .val (.long q3), .second, .val (.int p4), .val (.long fl), .second, .val (.long (q2 &&& (1073741823 : Int64))), .second, .val (.long hp), .second, .val (.int r3), .val (.long ((fl - (q2 &&& (1073741823 : Int64))) - (64 : Int64))), .second, .val (.long (262144 : Int64)), .second, .val (.long (r3.toInt64)), .second, .val (.int (1 : Int32)), .val (.int (1 : Int32))]) rfl ?_
      show Steps p.tables e below (T3.setTop (mkF m 148 #[.val (.long q1), .second, .val (.long q2), .second, .val (.long q3), .second, .val (.int p4), .val (.long fl), .second, .val (.long (q2 &&& (1073741823 : Int64))), .second, .val (.long hp), .second, .val (.int r3), .val (.long ((fl - (q2 &&& (1073741823 : Int64))) - (64 : Int64))), .second, .val (.long (262144 : Int64)), .second, .val (.long (r3.toInt64)), .second, .val (.int (1 : Int32)), .val (.int (1 : Int32))] [])) _
      refine XS.iload X3.here hx rfl (hb hby at_148) rfl ?_
      show Steps p.tables e below (T3.setTop (mkF m 150 #[.val (.long q1), .second, .val (.long q2), .second, .val (.long q3), .second, .val (.int p4), .val (.long fl), .second, .val (.long (q2 &&& (1073741823 : Int64))), .second, .val (.long hp), .second, .val (.int r3), .val (.long ((fl - (q2 &&& (1073741823 : Int64))) - (64 : Int64))), .second, .val (.long (262144 : Int64)), .second, .val (.long (r3.toInt64)), .second, .val (.int (1 : Int32)), .val (.int (1 : Int32))] [(.int (1 : Int32))])) _
      refine XS.ifNo X3.here hx rfl (hb hby at_150) rfl ((if0 _ _).trans (feq (by decide)).1) ?_
      show Steps p.tables e below (T3.setTop (mkF m 153 #[.val (.long q1), .second, .val (.long q2), .second, .val (.long q3), .second, .val (.int p4), .val (.long fl), .second, .val (.long (q2 &&& (1073741823 : Int64))), .second, .val (.long hp), .second, .val (.int r3), .val (.long ((fl - (q2 &&& (1073741823 : Int64))) - (64 : Int64))), .second, .val (.long (262144 : Int64)), .second, .val (.long (r3.toInt64)), .second, .val (.int (1 : Int32)), .val (.int (1 : Int32))] [])) _
      refine XS.iload X3.here hx rfl (hb hby at_153) rfl ?_
      show Steps p.tables e below (T3.setTop (mkF m 155 #[.val (.long q1), .second, .val (.long q2), .second, .val (.long q3), .second, .val (.int p4), .val (.long fl), .second, .val (.long (q2 &&& (1073741823 : Int64))), .second, .val (.long hp), .second, .val (.int r3), .val (.long ((fl - (q2 &&& (1073741823 : Int64))) - (64 : Int64))), .second, .val (.long (262144 : Int64)), .second, .val (.long (r3.toInt64)), .second, .val (.int (1 : Int32)), .val (.int (1 : Int32))] [(.int (1 : Int32))])) _
      refine XS.ifNo X3.here hx rfl (hb hby at_155) rfl ((if0 _ _).trans (feq (by decide)).1) ?_
      show Steps p.tables e below (T3.setTop (mkF m 158 #[.val (.long q1), .second, .val (.long q2), .second, .val (.long q3), .second, .val (.int p4), .val (.long fl), .second, .val (.long (q2 &&& (1073741823 : Int64))), .second, .val (.long hp), .second, .val (.int r3), .val (.long ((fl - (q2 &&& (1073741823 : Int64))) - (64 : Int64))), .second, .val (.long (262144 : Int64)), .second, .val (.long (r3.toInt64)), .second, .val (.int (1 : Int32)), .val (.int (1 : Int32))] [])) _
      refine XS.iconst X3.here hx rfl (hb hby at_158) ?_
      show Steps p.tables e below (T3.setTop (mkF m 159 #[.val (.long q1), .second, .val (.long q2), .second, .val (.long q3), .second, .val (.int p4), .val (.long fl), .second, .val (.long (q2 &&& (1073741823 : Int64))), .second, .val (.long hp), .second, .val (.int r3), .val (.long ((fl - (q2 &&& (1073741823 : Int64))) - (64 : Int64))), .second, .val (.long (262144 : Int64)), .second, .val (.long (r3.toInt64)), .second, .val (.int (1 : Int32)), .val (.int (1 : Int32))] [(.int (1 : Int32))])) _
      refine XS.goto X3.here hx rfl (pc0 := 159) (pc' := 163) rfl (hb hby at_159) (by decide) (by decide) ?_
      show Steps p.tables e below (T3.setTop (mkF m 163 #[.val (.long q1), .second, .val (.long q2), .second, .val (.long q3), .second, .val (.int p4), .val (.long fl), .second, .val (.long (q2 &&& (1073741823 : Int64))), .second, .val (.long hp), .second, .val (.int r3), .val (.long ((fl - (q2 &&& (1073741823 : Int64))) - (64 : Int64))), .second, .val (.long (262144 : Int64)), .second, .val (.long (r3.toInt64)), .second, .val (.int (1 : Int32)), .val (.int (1 : Int32))] [(.int (1 : Int32))])) _
      exact retN X3 hx (t := .boolean) Bd.returns (by simp) (hb hby at_163) hr
    · show Qrm0 Z q1 q2 q3 p4 h0 n0 _ T3.heap _
      exact ⟨rfl, N3⟩
  · by_cases hc125 : ((fl - (q2 &&& (1073741823 : Int64))) - (64 : Int64)) < ((r3.toInt64) + (1 : Int64))
    · obtain ⟨fs, hr, hrun, hended, hW, hsame⟩ := X3.leave (v := some (.int (1 : Int32))) (fun h => by rw [Bd.returns] at h; cases h)
      refine ⟨_, _, pre0 _ ?_, hrun, hended, _, _, rfl, ?_, ⟨_, rfl⟩, hW, hsame.mono (by decide) (by decide)⟩
      · show Steps p.tables e below (s₁.setTop (mkF m 0 #[.val (.long q1), .second, .val (.long q2), .second, .val (.long q3), .second, .val (.int p4), .unset, .unset, .unset, .unset, .unset, .unset, .unset, .unset, .unset, .unset, .unset, .unset, .unset, .unset, .unset] [])) _
        refine sg1 _ ?_
        show Steps p.tables e below (s₁.setTop (mkF m 20 #[.val (.long q1), .second, .val (.long q2), .second, .val (.long q3), .second, .val (.int p4), .unset, .unset, .unset, .unset, .unset, .unset, .unset, .unset, .unset, .unset, .unset, .unset, .unset, .unset, .unset] [(.long fl)])) _
        refine XS.lstore X0.here hx rfl (hb hby at_20) rfl (l' := #[.val (.long q1), .second, .val (.long q2), .second, .val (.long q3), .second, .val (.int p4), .val (.long fl), .second, .unset, .unset, .unset, .unset, .unset, .unset, .unset, .unset, .unset, .unset, .unset, .unset, .unset]) rfl ?_
        show Steps p.tables e below (s₁.setTop (mkF m 22 #[.val (.long q1), .second, .val (.long q2), .second, .val (.long q3), .second, .val (.int p4), .val (.long fl), .second, .unset, .unset, .unset, .unset, .unset, .unset, .unset, .unset, .unset, .unset, .unset, .unset, .unset] [])) _
        refine XS.lloadN X0.here hx rfl (hb hby at_22) rfl ?_
        show Steps p.tables e below (s₁.setTop (mkF m 23 #[.val (.long q1), .second, .val (.long q2), .second, .val (.long q3), .second, .val (.int p4), .val (.long fl), .second, .unset, .unset, .unset, .unset, .unset, .unset, .unset, .unset, .unset, .unset, .unset, .unset, .unset] [(.long q2)])) _
        refine X0.ldc2Long hx hown (mvT hZ (hw _ (List.mem_of_getElem? (i := 1) rfl))) (g := (mkF m 23 #[.val (.long q1), .second, .val (.long q2), .second, .val (.long q3), .second, .val (.int p4), .val (.long fl), .second, .unset, .unset, .unset, .unset, .unset, .unset, .unset, .unset, .unset, .unset, .unset, .unset, .unset] [(.long q2)])) rfl (hb hby at_23) _ ?_
        show Steps p.tables e below (s₁.setTop (mkF m 26 #[.val (.long q1), .second, .val (.long q2), .second, .val (.long q3), .second, .val (.int p4), .val (.long fl), .second, .unset, .unset, .unset, .unset, .unset, .unset, .unset, .unset, .unset, .unset, .unset, .unset, .unset] [(.long (1073741823 : Int64)), (.long q2)])) _
        refine XS.land X0.here hx rfl (hb hby at_26) rfl ?_
        show Steps p.tables e below (s₁.setTop (mkF m 27 #[.val (.long q1), .second, .val (.long q2), .second, .val (.long q3), .second, .val (.int p4), .val (.long fl), .second, .unset, .unset, .unset, .unset, .unset, .unset, .unset, .unset, .unset, .unset, .unset, .unset, .unset] [(.long (q2 &&& (1073741823 : Int64)))])) _
        refine XS.lstore X0.here hx rfl (hb hby at_27) rfl (l' := #[.val (.long q1), .second, .val (.long q2), .second, .val (.long q3), .second, .val (.int p4), .val (.long fl), .second, .val (.long (q2 &&& (1073741823 : Int64))), .second, .unset, .unset, .unset, .unset, .unset, .unset, .unset, .unset, .unset, .unset, .unset]) rfl ?_
        show Steps p.tables e below (s₁.setTop (mkF m 29 #[.val (.long q1), .second, .val (.long q2), .second, .val (.long q3), .second, .val (.int p4), .val (.long fl), .second, .val (.long (q2 &&& (1073741823 : Int64))), .second, .unset, .unset, .unset, .unset, .unset, .unset, .unset, .unset, .unset, .unset, .unset] [])) _
        refine sg2 _ ?_
        show Steps p.tables e below (s₁.setTop (mkF m 51 #[.val (.long q1), .second, .val (.long q2), .second, .val (.long q3), .second, .val (.int p4), .val (.long fl), .second, .val (.long (q2 &&& (1073741823 : Int64))), .second, .unset, .unset, .unset, .unset, .unset, .unset, .unset, .unset, .unset, .unset, .unset] [(.long hp)])) _
        refine XS.lstore X0.here hx rfl (hb hby at_51) rfl (l' := #[.val (.long q1), .second, .val (.long q2), .second, .val (.long q3), .second, .val (.int p4), .val (.long fl), .second, .val (.long (q2 &&& (1073741823 : Int64))), .second, .val (.long hp), .second, .unset, .unset, .unset, .unset, .unset, .unset, .unset, .unset, .unset]) rfl ?_
        show Steps p.tables e below (s₁.setTop (mkF m 53 #[.val (.long q1), .second, .val (.long q2), .second, .val (.long q3), .second, .val (.int p4), .val (.long fl), .second, .val (.long (q2 &&& (1073741823 : Int64))), .second, .val (.long hp), .second, .unset, .unset, .unset, .unset, .unset, .unset, .unset, .unset, .unset] [])) _
        refine XS.lload X0.here hx rfl (hb hby at_53) rfl ?_
        show Steps p.tables e below (s₁.setTop (mkF m 55 #[.val (.long q1), .second, .val (.long q2), .second, .val (.long q3), .second, .val (.int p4), .val (.long fl), .second, .val (.long (q2 &&& (1073741823 : Int64))), .second, .val (.long hp), .second, .unset, .unset, .unset, .unset, .unset, .unset, .unset, .unset, .unset] [(.long fl)])) _
        refine XS.lload X0.here hx rfl (hb hby at_55) rfl ?_
        show Steps p.tables e below (s₁.setTop (mkF m 57 #[.val (.long q1), .second, .val (.long q2), .second, .val (.long q3), .second, .val (.int p4), .val (.long fl), .second, .val (.long (q2 &&& (1073741823 : Int64))), .second, .val (.long hp), .second, .unset, .unset, .unset, .unset, .unset, .unset, .unset, .unset, .unset] [(.long (q2 &&& (1073741823 : Int64))), (.long fl)])) _
        refine XS.lload X0.here hx rfl (hb hby at_57) rfl ?_
        show Steps p.tables e below (s₁.setTop (mkF m 59 #[.val (.long q1), .second, .val (.long q2), .second, .val (.long q3), .second, .val (.int p4), .val (.long fl), .second, .val (.long (q2 &&& (1073741823 : Int64))), .second, .val (.long hp), .second, .unset, .unset, .unset, .unset, .unset, .unset, .unset, .unset, .unset] [(.long hp), (.long (q2 &&& (1073741823 : Int64))), (.long fl)])) _
        refine st3 _ ?_
        show Steps p.tables e below (T3.setTop (mkF m 62 #[.val (.long q1), .second, .val (.long q2), .second, .val (.long q3), .second, .val (.int p4), .val (.long fl), .second, .val (.long (q2 &&& (1073741823 : Int64))), .second, .val (.long hp), .second, .unset, .unset, .unset, .unset, .unset, .unset, .unset, .unset, .unset] [(.int r3)])) _
        refine XS.istore X3.here hx rfl (hb hby at_62) rfl (l' := #[.val (.long q1), .second, .val (.long q2), .second, .val (.long q3), .second, .val (.int p4), .val (.long fl), .second, .val (.long (q2 &&& (1073741823 : Int64))), .second, .val (.long hp), .second, .val (.int r3), .unset, .unset, .unset, .unset, .unset, .unset, .unset, .unset]) rfl ?_
        show Steps p.tables e below (T3.setTop (mkF m 64 #[.val (.long q1), .second, .val (.long q2), .second, .val (.long q3), .second, .val (.int p4), .val (.long fl), .second, .val (.long (q2 &&& (1073741823 : Int64))), .second, .val (.long hp), .second, .val (.int r3), .unset, .unset, .unset, .unset, .unset, .unset, .unset, .unset] [])) _
        refine XS.lload X3.here hx rfl (hb hby at_64) rfl ?_
        show Steps p.tables e below (T3.setTop (mkF m 66 #[.val (.long q1), .second, .val (.long q2), .second, .val (.long q3), .second, .val (.int p4), .val (.long fl), .second, .val (.long (q2 &&& (1073741823 : Int64))), .second, .val (.long hp), .second, .val (.int r3), .unset, .unset, .unset, .unset, .unset, .unset, .unset, .unset] [(.long fl)])) _
        refine XS.lload X3.here hx rfl (hb hby at_66) rfl ?_
        show Steps p.tables e below (T3.setTop (mkF m 68 #[.val (.long q1), .second, .val (.long q2), .second, .val (.long q3), .second, .val (.int p4), .val (.long fl), .second, .val (.long (q2 &&& (1073741823 : Int64))), .second, .val (.long hp), .second, .val (.int r3), .unset, .unset, .unset, .unset, .unset, .unset, .unset, .unset] [(.long (q2 &&& (1073741823 : Int64))), (.long fl)])) _
        refine XS.lsub X3.here hx rfl (hb hby at_68) rfl ?_
        show Steps p.tables e below (T3.setTop (mkF m 69 #[.val (.long q1), .second, .val (.long q2), .second, .val (.long q3), .second, .val (.int p4), .val (.long fl), .second, .val (.long (q2 &&& (1073741823 : Int64))), .second, .val (.long hp), .second, .val (.int r3), .unset, .unset, .unset, .unset, .unset, .unset, .unset, .unset] [(.long (fl - (q2 &&& (1073741823 : Int64))))])) _
        refine X3.ldc2Long hx hown (mvT hZ (hw _ (List.mem_of_getElem? (i := 14) rfl))) (g := (mkF m 69 #[.val (.long q1), .second, .val (.long q2), .second, .val (.long q3), .second, .val (.int p4), .val (.long fl), .second, .val (.long (q2 &&& (1073741823 : Int64))), .second, .val (.long hp), .second, .val (.int r3), .unset, .unset, .unset, .unset, .unset, .unset, .unset, .unset] [(.long (fl - (q2 &&& (1073741823 : Int64))))])) rfl (hb hby at_69) _ ?_
        show Steps p.tables e below (T3.setTop (mkF m 72 #[.val (.long q1), .second, .val (.long q2), .second, .val (.long q3), .second, .val (.int p4), .val (.long fl), .second, .val (.long (q2 &&& (1073741823 : Int64))), .second, .val (.long hp), .second, .val (.int r3), .unset, .unset, .unset, .unset, .unset, .unset, .unset, .unset] [(.long (64 : Int64)), (.long (fl - (q2 &&& (1073741823 : Int64))))])) _
        refine XS.lsub X3.here hx rfl (hb hby at_72) rfl ?_
        show Steps p.tables e below (T3.setTop (mkF m 73 #[.val (.long q1), .second, .val (.long q2), .second, .val (.long q3), .second, .val (.int p4), .val (.long fl), .second, .val (.long (q2 &&& (1073741823 : Int64))), .second, .val (.long hp), .second, .val (.int r3), .unset, .unset, .unset, .unset, .unset, .unset, .unset, .unset] [(.long ((fl - (q2 &&& (1073741823 : Int64))) - (64 : Int64)))])) _
        refine XS.lstore X3.here hx rfl (hb hby at_73) rfl (l' := #[.val (.long q1), .second, .val (.long q2), .second, .val (.long q3), .second, .val (.int p4), .val (.long fl), .second, .val (.long (q2 &&& (1073741823 : Int64))), .second, .val (.long hp), .second, .val (.int r3), .val (.long ((fl - (q2 &&& (1073741823 : Int64))) - (64 : Int64))), .second, .unset, .unset, .unset, .unset, .unset, .unset]) rfl ?_
        show Steps p.tables e below (T3.setTop (mkF m 75 #[.val (.long q1), .second, .val (.long q2), .second, .val (.long q3), .second, .val (.int p4), .val (.long fl), .second, .val (.long (q2 &&& (1073741823 : Int64))), .second, .val (.long hp), .second, .val (.int r3), .val (.long ((fl - (q2 &&& (1073741823 : Int64))) - (64 : Int64))), .second, .unset, .unset, .unset, .unset, .unset, .unset] [])) _
        refine X3.ldc2Long hx hown (mvT hZ (hw _ (List.mem_of_getElem? (i := 15) rfl))) (g := (mkF m 75 #[.val (.long q1), .second, .val (.long q2), .second, .val (.long q3), .second, .val (.int p4), .val (.long fl), .second, .val (.long (q2 &&& (1073741823 : Int64))), .second, .val (.long hp), .second, .val (.int r3), .val (.long ((fl - (q2 &&& (1073741823 : Int64))) - (64 : Int64))), .second, .unset, .unset, .unset, .unset, .unset, .unset] [])) rfl (hb hby at_75) _ ?_
        show Steps p.tables e below (T3.setTop (mkF m 78 #[.val (.long q1), .second, .val (.long q2), .second, .val (.long q3), .second, .val (.int p4), .val (.long fl), .second, .val (.long (q2 &&& (1073741823 : Int64))), .second, .val (.long hp), .second, .val (.int r3), .val (.long ((fl - (q2 &&& (1073741823 : Int64))) - (64 : Int64))), .second, .unset, .unset, .unset, .unset, .unset, .unset] [(.long (262144 : Int64))])) _
        refine XS.lstore X3.here hx rfl (hb hby at_78) rfl (l' := #[.val (.long q1), .second, .val (.long q2), .second, .val (.long q3), .second, .val (.int p4), .val (.long fl), .second, .val (.long (q2 &&& (1073741823 : Int64))), .second, .val (.long hp), .second, .val (.int r3), .val (.long ((fl - (q2 &&& (1073741823 : Int64))) - (64 : Int64))), .second, .val (.long (262144 : Int64)), .second, .unset, .unset, .unset, .unset]) rfl ?_
        show Steps p.tables e below (T3.setTop (mkF m 80 #[.val (.long q1), .second, .val (.long q2), .second, .val (.long q3), .second, .val (.int p4), .val (.long fl), .second, .val (.long (q2 &&& (1073741823 : Int64))), .second, .val (.long hp), .second, .val (.int r3), .val (.long ((fl - (q2 &&& (1073741823 : Int64))) - (64 : Int64))), .second, .val (.long (262144 : Int64)), .second, .unset, .unset, .unset, .unset] [])) _
        refine XS.iload X3.here hx rfl (hb hby at_80) rfl ?_
        show Steps p.tables e below (T3.setTop (mkF m 82 #[.val (.long q1), .second, .val (.long q2), .second, .val (.long q3), .second, .val (.int p4), .val (.long fl), .second, .val (.long (q2 &&& (1073741823 : Int64))), .second, .val (.long hp), .second, .val (.int r3), .val (.long ((fl - (q2 &&& (1073741823 : Int64))) - (64 : Int64))), .second, .val (.long (262144 : Int64)), .second, .unset, .unset, .unset, .unset] [(.int r3)])) _
        refine XS.i2l X3.here hx rfl (hb hby at_82) rfl ?_
        show Steps p.tables e below (T3.setTop (mkF m 83 #[.val (.long q1), .second, .val (.long q2), .second, .val (.long q3), .second, .val (.int p4), .val (.long fl), .second, .val (.long (q2 &&& (1073741823 : Int64))), .second, .val (.long hp), .second, .val (.int r3), .val (.long ((fl - (q2 &&& (1073741823 : Int64))) - (64 : Int64))), .second, .val (.long (262144 : Int64)), .second, .unset, .unset, .unset, .unset] [(.long (r3.toInt64))])) _
        refine XS.lstore X3.here hx rfl (hb hby at_83) rfl (l' := #[.val (.long q1), .second, .val (.long q2), .second, .val (.long q3), .second, .val (.int p4), .val (.long fl), .second, .val (.long (q2 &&& (1073741823 : Int64))), .second, .val (.long hp), .second, .val (.int r3), .val (.long ((fl - (q2 &&& (1073741823 : Int64))) - (64 : Int64))), .second, .val (.long (262144 : Int64)), .second, .val (.long (r3.toInt64)), .second, .unset, .unset]) rfl ?_
        show Steps p.tables e below (T3.setTop (mkF m 85 #[.val (.long q1), .second, .val (.long q2), .second, .val (.long q3), .second, .val (.int p4), .val (.long fl), .second, .val (.long (q2 &&& (1073741823 : Int64))), .second, .val (.long hp), .second, .val (.int r3), .val (.long ((fl - (q2 &&& (1073741823 : Int64))) - (64 : Int64))), .second, .val (.long (262144 : Int64)), .second, .val (.long (r3.toInt64)), .second, .unset, .unset] [])) _
        refine XS.lload X3.here hx rfl (hb hby at_85) rfl ?_
        show Steps p.tables e below (T3.setTop (mkF m 87 #[.val (.long q1), .second, .val (.long q2), .second, .val (.long q3), .second, .val (.int p4), .val (.long fl), .second, .val (.long (q2 &&& (1073741823 : Int64))), .second, .val (.long hp), .second, .val (.int r3), .val (.long ((fl - (q2 &&& (1073741823 : Int64))) - (64 : Int64))), .second, .val (.long (262144 : Int64)), .second, .val (.long (r3.toInt64)), .second, .unset, .unset] [(.long (r3.toInt64))])) _
        refine XS.lload X3.here hx rfl (hb hby at_87) rfl ?_
        show Steps p.tables e below (T3.setTop (mkF m 89 #[.val (.long q1), .second, .val (.long q2), .second, .val (.long q3), .second, .val (.int p4), .val (.long fl), .second, .val (.long (q2 &&& (1073741823 : Int64))), .second, .val (.long hp), .second, .val (.int r3), .val (.long ((fl - (q2 &&& (1073741823 : Int64))) - (64 : Int64))), .second, .val (.long (262144 : Int64)), .second, .val (.long (r3.toInt64)), .second, .unset, .unset] [(.long ((fl - (q2 &&& (1073741823 : Int64))) - (64 : Int64))), (.long (r3.toInt64))])) _
        refine XS.lcmp X3.here hx rfl (hb hby at_89) rfl ?_
        show Steps p.tables e below (T3.setTop (mkF m 90 #[.val (.long q1), .second, .val (.long q2), .second, .val (.long q3), .second, .val (.int p4), .val (.long fl), .second, .val (.long (q2 &&& (1073741823 : Int64))), .second, .val (.long hp), .second, .val (.int r3), .val (.long ((fl - (q2 &&& (1073741823 : Int64))) - (64 : Int64))), .second, .val (.long (262144 : Int64)), .second, .val (.long (r3.toInt64)), .second, .unset, .unset] [(.int (lcmpW (r3.toInt64) ((fl - (q2 &&& (1073741823 : Int64))) - (64 : Int64))))])) _
        refine XS.ifNo X3.here hx rfl (hb hby at_90) rfl ((if0 _ _).trans (flt (own_lcngt own.1)).2.2.1) ?_
        show Steps p.tables e below (T3.setTop (mkF m 93 #[.val (.long q1), .second, .val (.long q2), .second, .val (.long q3), .second, .val (.int p4), .val (.long fl), .second, .val (.long (q2 &&& (1073741823 : Int64))), .second, .val (.long hp), .second, .val (.int r3), .val (.long ((fl - (q2 &&& (1073741823 : Int64))) - (64 : Int64))), .second, .val (.long (262144 : Int64)), .second, .val (.long (r3.toInt64)), .second, .unset, .unset] [])) _
        refine XS.lload X3.here hx rfl (hb hby at_93) rfl ?_
        show Steps p.tables e below (T3.setTop (mkF m 95 #[.val (.long q1), .second, .val (.long q2), .second, .val (.long q3), .second, .val (.int p4), .val (.long fl), .second, .val (.long (q2 &&& (1073741823 : Int64))), .second, .val (.long hp), .second, .val (.int r3), .val (.long ((fl - (q2 &&& (1073741823 : Int64))) - (64 : Int64))), .second, .val (.long (262144 : Int64)), .second, .val (.long (r3.toInt64)), .second, .unset, .unset] [(.long (r3.toInt64))])) _
        refine XS.lload X3.here hx rfl (hb hby at_95) rfl ?_
        show Steps p.tables e below (T3.setTop (mkF m 97 #[.val (.long q1), .second, .val (.long q2), .second, .val (.long q3), .second, .val (.int p4), .val (.long fl), .second, .val (.long (q2 &&& (1073741823 : Int64))), .second, .val (.long hp), .second, .val (.int r3), .val (.long ((fl - (q2 &&& (1073741823 : Int64))) - (64 : Int64))), .second, .val (.long (262144 : Int64)), .second, .val (.long (r3.toInt64)), .second, .unset, .unset] [(.long (262144 : Int64)), (.long (r3.toInt64))])) _
        refine XS.lmul X3.here hx rfl (hb hby at_97) rfl ?_
        show Steps p.tables e below (T3.setTop (mkF m 98 #[.val (.long q1), .second, .val (.long q2), .second, .val (.long q3), .second, .val (.int p4), .val (.long fl), .second, .val (.long (q2 &&& (1073741823 : Int64))), .second, .val (.long hp), .second, .val (.int r3), .val (.long ((fl - (q2 &&& (1073741823 : Int64))) - (64 : Int64))), .second, .val (.long (262144 : Int64)), .second, .val (.long (r3.toInt64)), .second, .unset, .unset] [(.long ((r3.toInt64) * (262144 : Int64)))])) _
        refine XS.lload X3.here hx rfl (hb hby at_98) rfl ?_
        show Steps p.tables e below (T3.setTop (mkF m 100 #[.val (.long q1), .second, .val (.long q2), .second, .val (.long q3), .second, .val (.int p4), .val (.long fl), .second, .val (.long (q2 &&& (1073741823 : Int64))), .second, .val (.long hp), .second, .val (.int r3), .val (.long ((fl - (q2 &&& (1073741823 : Int64))) - (64 : Int64))), .second, .val (.long (262144 : Int64)), .second, .val (.long (r3.toInt64)), .second, .unset, .unset] [(.long hp), (.long ((r3.toInt64) * (262144 : Int64)))])) _
        refine XS.lcmp X3.here hx rfl (hb hby at_100) rfl ?_
        show Steps p.tables e below (T3.setTop (mkF m 101 #[.val (.long q1), .second, .val (.long q2), .second, .val (.long q3), .second, .val (.int p4), .val (.long fl), .second, .val (.long (q2 &&& (1073741823 : Int64))), .second, .val (.long hp), .second, .val (.int r3), .val (.long ((fl - (q2 &&& (1073741823 : Int64))) - (64 : Int64))), .second, .val (.long (262144 : Int64)), .second, .val (.long (r3.toInt64)), .second, .unset, .unset] [(.int (lcmpW ((r3.toInt64) * (262144 : Int64)) hp))])) _
        refine XS.ifNo X3.here hx rfl (hb hby at_101) rfl ((if0 _ _).trans (flt (own_lcngt own.2.1)).2.2.1) ?_
        show Steps p.tables e below (T3.setTop (mkF m 104 #[.val (.long q1), .second, .val (.long q2), .second, .val (.long q3), .second, .val (.int p4), .val (.long fl), .second, .val (.long (q2 &&& (1073741823 : Int64))), .second, .val (.long hp), .second, .val (.int r3), .val (.long ((fl - (q2 &&& (1073741823 : Int64))) - (64 : Int64))), .second, .val (.long (262144 : Int64)), .second, .val (.long (r3.toInt64)), .second, .unset, .unset] [])) _
        refine XS.iconst X3.here hx rfl (hb hby at_104) ?_
        show Steps p.tables e below (T3.setTop (mkF m 105 #[.val (.long q1), .second, .val (.long q2), .second, .val (.long q3), .second, .val (.int p4), .val (.long fl), .second, .val (.long (q2 &&& (1073741823 : Int64))), .second, .val (.long hp), .second, .val (.int r3), .val (.long ((fl - (q2 &&& (1073741823 : Int64))) - (64 : Int64))), .second, .val (.long (262144 : Int64)), .second, .val (.long (r3.toInt64)), .second, .unset, .unset] [(.int (1 : Int32))])) _
        refine XS.goto X3.here hx rfl (pc0 := 105) (pc' := 109) rfl (hb hby at_105) (by decide) (by decide) ?_
        show Steps p.tables e below (T3.setTop (mkF m 109 #[.val (.long q1), .second, .val (.long q2), .second, .val (.long q3), .second, .val (.int p4), .val (.long fl), .second, .val (.long (q2 &&& (1073741823 : Int64))), .second, .val (.long hp), .second, .val (.int r3), .val (.long ((fl - (q2 &&& (1073741823 : Int64))) - (64 : Int64))), .second, .val (.long (262144 : Int64)), .second, .val (.long (r3.toInt64)), .second, .unset, .unset] [(.int (1 : Int32))])) _
        refine XS.istore X3.here hx rfl (hb hby at_109) rfl (l' := #[.val (.long q1), .second, .val (.long q2), .second, .val (.long q3), .second, .val (.int p4), .val (.long fl), .second, .val (.long (q2 &&& (1073741823 : Int64))), .second, .val (.long hp), .second, .val (.int r3), .val (.long ((fl - (q2 &&& (1073741823 : Int64))) - (64 : Int64))), .second, .val (.long (262144 : Int64)), .second, .val (.long (r3.toInt64)), .second, .val (.int (1 : Int32)), .unset]) rfl ?_
        show Steps p.tables e below (T3.setTop (mkF m 111 #[.val (.long q1), .second, .val (.long q2), .second, .val (.long q3), .second, .val (.int p4), .val (.long fl), .second, .val (.long (q2 &&& (1073741823 : Int64))), .second, .val (.long hp), .second, .val (.int r3), .val (.long ((fl - (q2 &&& (1073741823 : Int64))) - (64 : Int64))), .second, .val (.long (262144 : Int64)), .second, .val (.long (r3.toInt64)), .second, .val (.int (1 : Int32)), .unset] [])) _
        refine XS.iload X3.here hx rfl (hb hby at_111) rfl ?_
        show Steps p.tables e below (T3.setTop (mkF m 113 #[.val (.long q1), .second, .val (.long q2), .second, .val (.long q3), .second, .val (.int p4), .val (.long fl), .second, .val (.long (q2 &&& (1073741823 : Int64))), .second, .val (.long hp), .second, .val (.int r3), .val (.long ((fl - (q2 &&& (1073741823 : Int64))) - (64 : Int64))), .second, .val (.long (262144 : Int64)), .second, .val (.long (r3.toInt64)), .second, .val (.int (1 : Int32)), .unset] [(.int r3)])) _
        refine X3.ldcInt hx hown (mvT hZ (hw _ (List.mem_of_getElem? (i := 16) rfl))) (g := (mkF m 113 #[.val (.long q1), .second, .val (.long q2), .second, .val (.long q3), .second, .val (.int p4), .val (.long fl), .second, .val (.long (q2 &&& (1073741823 : Int64))), .second, .val (.long hp), .second, .val (.int r3), .val (.long ((fl - (q2 &&& (1073741823 : Int64))) - (64 : Int64))), .second, .val (.long (262144 : Int64)), .second, .val (.long (r3.toInt64)), .second, .val (.int (1 : Int32)), .unset] [(.int r3)])) rfl (hb hby at_113) _ ?_
        show Steps p.tables e below (T3.setTop (mkF m 115 #[.val (.long q1), .second, .val (.long q2), .second, .val (.long q3), .second, .val (.int p4), .val (.long fl), .second, .val (.long (q2 &&& (1073741823 : Int64))), .second, .val (.long hp), .second, .val (.int r3), .val (.long ((fl - (q2 &&& (1073741823 : Int64))) - (64 : Int64))), .second, .val (.long (262144 : Int64)), .second, .val (.long (r3.toInt64)), .second, .val (.int (1 : Int32)), .unset] [(.int (2147483647 : Int32)), (.int r3)])) _
        refine XS.icmpNo X3.here hx rfl (hb hby at_115) rfl (feq hc115).1 ?_
        show Steps p.tables e below (T3.setTop (mkF m 118 #[.val (.long q1), .second, .val (.long q2), .second, .val (.long q3), .second, .val (.int p4), .val (.long fl), .second, .val (.long (q2 &&& (1073741823 : Int64))), .second, .val (.long hp), .second, .val (.int r3), .val (.long ((fl - (q2 &&& (1073741823 : Int64))) - (64 : Int64))), .second, .val (.long (262144 : Int64)), .second, .val (.long (r3.toInt64)), .second, .val (.int (1 : Int32)), .unset] [])) _
        refine XS.lload X3.here hx rfl (hb hby at_118) rfl ?_
        show Steps p.tables e below (T3.setTop (mkF m 120 #[.val (.long q1), .second, .val (.long q2), .second, .val (.long q3), .second, .val (.int p4), .val (.long fl), .second, .val (.long (q2 &&& (1073741823 : Int64))), .second, .val (.long hp), .second, .val (.int r3), .val (.long ((fl - (q2 &&& (1073741823 : Int64))) - (64 : Int64))), .second, .val (.long (262144 : Int64)), .second, .val (.long (r3.toInt64)), .second, .val (.int (1 : Int32)), .unset] [(.long (r3.toInt64))])) _
        refine XS.lconst X3.here hx rfl (hb hby at_120) ?_
        show Steps p.tables e below (T3.setTop (mkF m 121 #[.val (.long q1), .second, .val (.long q2), .second, .val (.long q3), .second, .val (.int p4), .val (.long fl), .second, .val (.long (q2 &&& (1073741823 : Int64))), .second, .val (.long hp), .second, .val (.int r3), .val (.long ((fl - (q2 &&& (1073741823 : Int64))) - (64 : Int64))), .second, .val (.long (262144 : Int64)), .second, .val (.long (r3.toInt64)), .second, .val (.int (1 : Int32)), .unset] [(.long (1 : Int64)), (.long (r3.toInt64))])) _
        refine XS.ladd X3.here hx rfl (hb hby at_121) rfl ?_
        show Steps p.tables e below (T3.setTop (mkF m 122 #[.val (.long q1), .second, .val (.long q2), .second, .val (.long q3), .second, .val (.int p4), .val (.long fl), .second, .val (.long (q2 &&& (1073741823 : Int64))), .second, .val (.long hp), .second, .val (.int r3), .val (.long ((fl - (q2 &&& (1073741823 : Int64))) - (64 : Int64))), .second, .val (.long (262144 : Int64)), .second, .val (.long (r3.toInt64)), .second, .val (.int (1 : Int32)), .unset] [(.long ((r3.toInt64) + (1 : Int64)))])) _
        refine XS.lload X3.here hx rfl (hb hby at_122) rfl ?_
        show Steps p.tables e below (T3.setTop (mkF m 124 #[.val (.long q1), .second, .val (.long q2), .second, .val (.long q3), .second, .val (.int p4), .val (.long fl), .second, .val (.long (q2 &&& (1073741823 : Int64))), .second, .val (.long hp), .second, .val (.int r3), .val (.long ((fl - (q2 &&& (1073741823 : Int64))) - (64 : Int64))), .second, .val (.long (262144 : Int64)), .second, .val (.long (r3.toInt64)), .second, .val (.int (1 : Int32)), .unset] [(.long ((fl - (q2 &&& (1073741823 : Int64))) - (64 : Int64))), (.long ((r3.toInt64) + (1 : Int64)))])) _
        refine XS.lcmp X3.here hx rfl (hb hby at_124) rfl ?_
        show Steps p.tables e below (T3.setTop (mkF m 125 #[.val (.long q1), .second, .val (.long q2), .second, .val (.long q3), .second, .val (.int p4), .val (.long fl), .second, .val (.long (q2 &&& (1073741823 : Int64))), .second, .val (.long hp), .second, .val (.int r3), .val (.long ((fl - (q2 &&& (1073741823 : Int64))) - (64 : Int64))), .second, .val (.long (262144 : Int64)), .second, .val (.long (r3.toInt64)), .second, .val (.int (1 : Int32)), .unset] [(.int (lcmpW ((r3.toInt64) + (1 : Int64)) ((fl - (q2 &&& (1073741823 : Int64))) - (64 : Int64))))])) _
        refine XS.ifYes X3.here hx rfl (pc0 := 125) (pc' := 141) rfl (hb hby at_125) rfl ((if0 _ _).trans (tlt (own_lcgt hc125)).2.2.1) (by decide) (by decide) ?_
        show Steps p.tables e below (T3.setTop (mkF m 141 #[.val (.long q1), .second, .val (.long q2), .second, .val (.long q3), .second, .val (.int p4), .val (.long fl), .second, .val (.long (q2 &&& (1073741823 : Int64))), .second, .val (.long hp), .second, .val (.int r3), .val (.long ((fl - (q2 &&& (1073741823 : Int64))) - (64 : Int64))), .second, .val (.long (262144 : Int64)), .second, .val (.long (r3.toInt64)), .second, .val (.int (1 : Int32)), .unset] [])) _
        refine XS.iconst X3.here hx rfl (hb hby at_141) ?_
        show Steps p.tables e below (T3.setTop (mkF m 142 #[.val (.long q1), .second, .val (.long q2), .second, .val (.long q3), .second, .val (.int p4), .val (.long fl), .second, .val (.long (q2 &&& (1073741823 : Int64))), .second, .val (.long hp), .second, .val (.int r3), .val (.long ((fl - (q2 &&& (1073741823 : Int64))) - (64 : Int64))), .second, .val (.long (262144 : Int64)), .second, .val (.long (r3.toInt64)), .second, .val (.int (1 : Int32)), .unset] [(.int (1 : Int32))])) _
        refine XS.goto X3.here hx rfl (pc0 := 142) (pc' := 146) rfl (hb hby at_142) (by decide) (by decide) ?_
        show Steps p.tables e below (T3.setTop (mkF m 146 #[.val (.long q1), .second, .val (.long q2), .second, .val (.long q3), .second, .val (.int p4), .val (.long fl), .second, .val (.long (q2 &&& (1073741823 : Int64))), .second, .val (.long hp), .second, .val (.int r3), .val (.long ((fl - (q2 &&& (1073741823 : Int64))) - (64 : Int64))), .second, .val (.long (262144 : Int64)), .second, .val (.long (r3.toInt64)), .second, .val (.int (1 : Int32)), .unset] [(.int (1 : Int32))])) _
        refine XS.istore X3.here hx rfl (hb hby at_146) rfl (l' := #[.val (.long q1), .second, .val (.long q2), .second, .val (.long q3), .second, .val (.int p4), .val (.long fl), .second, .val (.long (q2 &&& (1073741823 : Int64))), .second, .val (.long hp), .second, .val (.int r3), .val (.long ((fl - (q2 &&& (1073741823 : Int64))) - (64 : Int64))), .second, .val (.long (262144 : Int64)), .second, .val (.long (r3.toInt64)), .second, .val (.int (1 : Int32)), .val (.int (1 : Int32))]) rfl ?_
        show Steps p.tables e below (T3.setTop (mkF m 148 #[.val (.long q1), .second, .val (.long q2), .second, .val (.long q3), .second, .val (.int p4), .val (.long fl), .second, .val (.long (q2 &&& (1073741823 : Int64))), .second, .val (.long hp), .second, .val (.int r3), .val (.long ((fl - (q2 &&& (1073741823 : Int64))) - (64 : Int64))), .second, .val (.long (262144 : Int64)), .second, .val (.long (r3.toInt64)), .second, .val (.int (1 : Int32)), .val (.int (1 : Int32))] [])) _
        refine XS.iload X3.here hx rfl (hb hby at_148) rfl ?_
        show Steps p.tables e below (T3.setTop (mkF m 150 #[.val (.long q1), .second, .val (.long q2), .second, .val (.long q3), .second, .val (.int p4), .val (.long fl), .second, .val (.long (q2 &&& (1073741823 : Int64))), .second, .val (.long hp), .second, .val (.int r3), .val (.long ((fl - (q2 &&& (1073741823 : Int64))) - (64 : Int64))), .second, .val (.long (262144 : Int64)), .second, .val (.long (r3.toInt64)), .second, .val (.int (1 : Int32)), .val (.int (1 : Int32))] [(.int (1 : Int32))])) _
        refine XS.ifNo X3.here hx rfl (hb hby at_150) rfl ((if0 _ _).trans (feq (by decide)).1) ?_
        show Steps p.tables e below (T3.setTop (mkF m 153 #[.val (.long q1), .second, .val (.long q2), .second, .val (.long q3), .second, .val (.int p4), .val (.long fl), .second, .val (.long (q2 &&& (1073741823 : Int64))), .second, .val (.long hp), .second, .val (.int r3), .val (.long ((fl - (q2 &&& (1073741823 : Int64))) - (64 : Int64))), .second, .val (.long (262144 : Int64)), .second, .val (.long (r3.toInt64)), .second, .val (.int (1 : Int32)), .val (.int (1 : Int32))] [])) _
        refine XS.iload X3.here hx rfl (hb hby at_153) rfl ?_
        show Steps p.tables e below (T3.setTop (mkF m 155 #[.val (.long q1), .second, .val (.long q2), .second, .val (.long q3), .second, .val (.int p4), .val (.long fl), .second, .val (.long (q2 &&& (1073741823 : Int64))), .second, .val (.long hp), .second, .val (.int r3), .val (.long ((fl - (q2 &&& (1073741823 : Int64))) - (64 : Int64))), .second, .val (.long (262144 : Int64)), .second, .val (.long (r3.toInt64)), .second, .val (.int (1 : Int32)), .val (.int (1 : Int32))] [(.int (1 : Int32))])) _
        refine XS.ifNo X3.here hx rfl (hb hby at_155) rfl ((if0 _ _).trans (feq (by decide)).1) ?_
        show Steps p.tables e below (T3.setTop (mkF m 158 #[.val (.long q1), .second, .val (.long q2), .second, .val (.long q3), .second, .val (.int p4), .val (.long fl), .second, .val (.long (q2 &&& (1073741823 : Int64))), .second, .val (.long hp), .second, .val (.int r3), .val (.long ((fl - (q2 &&& (1073741823 : Int64))) - (64 : Int64))), .second, .val (.long (262144 : Int64)), .second, .val (.long (r3.toInt64)), .second, .val (.int (1 : Int32)), .val (.int (1 : Int32))] [])) _
        refine XS.iconst X3.here hx rfl (hb hby at_158) ?_
        show Steps p.tables e below (T3.setTop (mkF m 159 #[.val (.long q1), .second, .val (.long q2), .second, .val (.long q3), .second, .val (.int p4), .val (.long fl), .second, .val (.long (q2 &&& (1073741823 : Int64))), .second, .val (.long hp), .second, .val (.int r3), .val (.long ((fl - (q2 &&& (1073741823 : Int64))) - (64 : Int64))), .second, .val (.long (262144 : Int64)), .second, .val (.long (r3.toInt64)), .second, .val (.int (1 : Int32)), .val (.int (1 : Int32))] [(.int (1 : Int32))])) _
        refine XS.goto X3.here hx rfl (pc0 := 159) (pc' := 163) rfl (hb hby at_159) (by decide) (by decide) ?_
        show Steps p.tables e below (T3.setTop (mkF m 163 #[.val (.long q1), .second, .val (.long q2), .second, .val (.long q3), .second, .val (.int p4), .val (.long fl), .second, .val (.long (q2 &&& (1073741823 : Int64))), .second, .val (.long hp), .second, .val (.int r3), .val (.long ((fl - (q2 &&& (1073741823 : Int64))) - (64 : Int64))), .second, .val (.long (262144 : Int64)), .second, .val (.long (r3.toInt64)), .second, .val (.int (1 : Int32)), .val (.int (1 : Int32))] [(.int (1 : Int32))])) _
        exact retN X3 hx (t := .boolean) Bd.returns (by simp) (hb hby at_163) hr
      · show Qrm0 Z q1 q2 q3 p4 h0 n0 _ T3.heap _
        exact ⟨rfl, N3⟩
    · obtain ⟨fs, hr, hrun, hended, hW, hsame⟩ := X3.leave (v := some (.int (1 : Int32))) (fun h => by rw [Bd.returns] at h; cases h)
      refine ⟨_, _, pre0 _ ?_, hrun, hended, _, _, rfl, ?_, ⟨_, rfl⟩, hW, hsame.mono (by decide) (by decide)⟩
      · show Steps p.tables e below (s₁.setTop (mkF m 0 #[.val (.long q1), .second, .val (.long q2), .second, .val (.long q3), .second, .val (.int p4), .unset, .unset, .unset, .unset, .unset, .unset, .unset, .unset, .unset, .unset, .unset, .unset, .unset, .unset, .unset] [])) _
        refine sg1 _ ?_
        show Steps p.tables e below (s₁.setTop (mkF m 20 #[.val (.long q1), .second, .val (.long q2), .second, .val (.long q3), .second, .val (.int p4), .unset, .unset, .unset, .unset, .unset, .unset, .unset, .unset, .unset, .unset, .unset, .unset, .unset, .unset, .unset] [(.long fl)])) _
        refine XS.lstore X0.here hx rfl (hb hby at_20) rfl (l' := #[.val (.long q1), .second, .val (.long q2), .second, .val (.long q3), .second, .val (.int p4), .val (.long fl), .second, .unset, .unset, .unset, .unset, .unset, .unset, .unset, .unset, .unset, .unset, .unset, .unset, .unset]) rfl ?_
        show Steps p.tables e below (s₁.setTop (mkF m 22 #[.val (.long q1), .second, .val (.long q2), .second, .val (.long q3), .second, .val (.int p4), .val (.long fl), .second, .unset, .unset, .unset, .unset, .unset, .unset, .unset, .unset, .unset, .unset, .unset, .unset, .unset] [])) _
        refine XS.lloadN X0.here hx rfl (hb hby at_22) rfl ?_
        show Steps p.tables e below (s₁.setTop (mkF m 23 #[.val (.long q1), .second, .val (.long q2), .second, .val (.long q3), .second, .val (.int p4), .val (.long fl), .second, .unset, .unset, .unset, .unset, .unset, .unset, .unset, .unset, .unset, .unset, .unset, .unset, .unset] [(.long q2)])) _
        refine X0.ldc2Long hx hown (mvT hZ (hw _ (List.mem_of_getElem? (i := 1) rfl))) (g := (mkF m 23 #[.val (.long q1), .second, .val (.long q2), .second, .val (.long q3), .second, .val (.int p4), .val (.long fl), .second, .unset, .unset, .unset, .unset, .unset, .unset, .unset, .unset, .unset, .unset, .unset, .unset, .unset] [(.long q2)])) rfl (hb hby at_23) _ ?_
        show Steps p.tables e below (s₁.setTop (mkF m 26 #[.val (.long q1), .second, .val (.long q2), .second, .val (.long q3), .second, .val (.int p4), .val (.long fl), .second, .unset, .unset, .unset, .unset, .unset, .unset, .unset, .unset, .unset, .unset, .unset, .unset, .unset] [(.long (1073741823 : Int64)), (.long q2)])) _
        refine XS.land X0.here hx rfl (hb hby at_26) rfl ?_
        show Steps p.tables e below (s₁.setTop (mkF m 27 #[.val (.long q1), .second, .val (.long q2), .second, .val (.long q3), .second, .val (.int p4), .val (.long fl), .second, .unset, .unset, .unset, .unset, .unset, .unset, .unset, .unset, .unset, .unset, .unset, .unset, .unset] [(.long (q2 &&& (1073741823 : Int64)))])) _
        refine XS.lstore X0.here hx rfl (hb hby at_27) rfl (l' := #[.val (.long q1), .second, .val (.long q2), .second, .val (.long q3), .second, .val (.int p4), .val (.long fl), .second, .val (.long (q2 &&& (1073741823 : Int64))), .second, .unset, .unset, .unset, .unset, .unset, .unset, .unset, .unset, .unset, .unset, .unset]) rfl ?_
        show Steps p.tables e below (s₁.setTop (mkF m 29 #[.val (.long q1), .second, .val (.long q2), .second, .val (.long q3), .second, .val (.int p4), .val (.long fl), .second, .val (.long (q2 &&& (1073741823 : Int64))), .second, .unset, .unset, .unset, .unset, .unset, .unset, .unset, .unset, .unset, .unset, .unset] [])) _
        refine sg2 _ ?_
        show Steps p.tables e below (s₁.setTop (mkF m 51 #[.val (.long q1), .second, .val (.long q2), .second, .val (.long q3), .second, .val (.int p4), .val (.long fl), .second, .val (.long (q2 &&& (1073741823 : Int64))), .second, .unset, .unset, .unset, .unset, .unset, .unset, .unset, .unset, .unset, .unset, .unset] [(.long hp)])) _
        refine XS.lstore X0.here hx rfl (hb hby at_51) rfl (l' := #[.val (.long q1), .second, .val (.long q2), .second, .val (.long q3), .second, .val (.int p4), .val (.long fl), .second, .val (.long (q2 &&& (1073741823 : Int64))), .second, .val (.long hp), .second, .unset, .unset, .unset, .unset, .unset, .unset, .unset, .unset, .unset]) rfl ?_
        show Steps p.tables e below (s₁.setTop (mkF m 53 #[.val (.long q1), .second, .val (.long q2), .second, .val (.long q3), .second, .val (.int p4), .val (.long fl), .second, .val (.long (q2 &&& (1073741823 : Int64))), .second, .val (.long hp), .second, .unset, .unset, .unset, .unset, .unset, .unset, .unset, .unset, .unset] [])) _
        refine XS.lload X0.here hx rfl (hb hby at_53) rfl ?_
        show Steps p.tables e below (s₁.setTop (mkF m 55 #[.val (.long q1), .second, .val (.long q2), .second, .val (.long q3), .second, .val (.int p4), .val (.long fl), .second, .val (.long (q2 &&& (1073741823 : Int64))), .second, .val (.long hp), .second, .unset, .unset, .unset, .unset, .unset, .unset, .unset, .unset, .unset] [(.long fl)])) _
        refine XS.lload X0.here hx rfl (hb hby at_55) rfl ?_
        show Steps p.tables e below (s₁.setTop (mkF m 57 #[.val (.long q1), .second, .val (.long q2), .second, .val (.long q3), .second, .val (.int p4), .val (.long fl), .second, .val (.long (q2 &&& (1073741823 : Int64))), .second, .val (.long hp), .second, .unset, .unset, .unset, .unset, .unset, .unset, .unset, .unset, .unset] [(.long (q2 &&& (1073741823 : Int64))), (.long fl)])) _
        refine XS.lload X0.here hx rfl (hb hby at_57) rfl ?_
        show Steps p.tables e below (s₁.setTop (mkF m 59 #[.val (.long q1), .second, .val (.long q2), .second, .val (.long q3), .second, .val (.int p4), .val (.long fl), .second, .val (.long (q2 &&& (1073741823 : Int64))), .second, .val (.long hp), .second, .unset, .unset, .unset, .unset, .unset, .unset, .unset, .unset, .unset] [(.long hp), (.long (q2 &&& (1073741823 : Int64))), (.long fl)])) _
        refine st3 _ ?_
        show Steps p.tables e below (T3.setTop (mkF m 62 #[.val (.long q1), .second, .val (.long q2), .second, .val (.long q3), .second, .val (.int p4), .val (.long fl), .second, .val (.long (q2 &&& (1073741823 : Int64))), .second, .val (.long hp), .second, .unset, .unset, .unset, .unset, .unset, .unset, .unset, .unset, .unset] [(.int r3)])) _
        refine XS.istore X3.here hx rfl (hb hby at_62) rfl (l' := #[.val (.long q1), .second, .val (.long q2), .second, .val (.long q3), .second, .val (.int p4), .val (.long fl), .second, .val (.long (q2 &&& (1073741823 : Int64))), .second, .val (.long hp), .second, .val (.int r3), .unset, .unset, .unset, .unset, .unset, .unset, .unset, .unset]) rfl ?_
        show Steps p.tables e below (T3.setTop (mkF m 64 #[.val (.long q1), .second, .val (.long q2), .second, .val (.long q3), .second, .val (.int p4), .val (.long fl), .second, .val (.long (q2 &&& (1073741823 : Int64))), .second, .val (.long hp), .second, .val (.int r3), .unset, .unset, .unset, .unset, .unset, .unset, .unset, .unset] [])) _
        refine XS.lload X3.here hx rfl (hb hby at_64) rfl ?_
        show Steps p.tables e below (T3.setTop (mkF m 66 #[.val (.long q1), .second, .val (.long q2), .second, .val (.long q3), .second, .val (.int p4), .val (.long fl), .second, .val (.long (q2 &&& (1073741823 : Int64))), .second, .val (.long hp), .second, .val (.int r3), .unset, .unset, .unset, .unset, .unset, .unset, .unset, .unset] [(.long fl)])) _
        refine XS.lload X3.here hx rfl (hb hby at_66) rfl ?_
        show Steps p.tables e below (T3.setTop (mkF m 68 #[.val (.long q1), .second, .val (.long q2), .second, .val (.long q3), .second, .val (.int p4), .val (.long fl), .second, .val (.long (q2 &&& (1073741823 : Int64))), .second, .val (.long hp), .second, .val (.int r3), .unset, .unset, .unset, .unset, .unset, .unset, .unset, .unset] [(.long (q2 &&& (1073741823 : Int64))), (.long fl)])) _
        refine XS.lsub X3.here hx rfl (hb hby at_68) rfl ?_
        show Steps p.tables e below (T3.setTop (mkF m 69 #[.val (.long q1), .second, .val (.long q2), .second, .val (.long q3), .second, .val (.int p4), .val (.long fl), .second, .val (.long (q2 &&& (1073741823 : Int64))), .second, .val (.long hp), .second, .val (.int r3), .unset, .unset, .unset, .unset, .unset, .unset, .unset, .unset] [(.long (fl - (q2 &&& (1073741823 : Int64))))])) _
        refine X3.ldc2Long hx hown (mvT hZ (hw _ (List.mem_of_getElem? (i := 14) rfl))) (g := (mkF m 69 #[.val (.long q1), .second, .val (.long q2), .second, .val (.long q3), .second, .val (.int p4), .val (.long fl), .second, .val (.long (q2 &&& (1073741823 : Int64))), .second, .val (.long hp), .second, .val (.int r3), .unset, .unset, .unset, .unset, .unset, .unset, .unset, .unset] [(.long (fl - (q2 &&& (1073741823 : Int64))))])) rfl (hb hby at_69) _ ?_
        show Steps p.tables e below (T3.setTop (mkF m 72 #[.val (.long q1), .second, .val (.long q2), .second, .val (.long q3), .second, .val (.int p4), .val (.long fl), .second, .val (.long (q2 &&& (1073741823 : Int64))), .second, .val (.long hp), .second, .val (.int r3), .unset, .unset, .unset, .unset, .unset, .unset, .unset, .unset] [(.long (64 : Int64)), (.long (fl - (q2 &&& (1073741823 : Int64))))])) _
        refine XS.lsub X3.here hx rfl (hb hby at_72) rfl ?_
        show Steps p.tables e below (T3.setTop (mkF m 73 #[.val (.long q1), .second, .val (.long q2), .second, .val (.long q3), .second, .val (.int p4), .val (.long fl), .second, .val (.long (q2 &&& (1073741823 : Int64))), .second, .val (.long hp), .second, .val (.int r3), .unset, .unset, .unset, .unset, .unset, .unset, .unset, .unset] [(.long ((fl - (q2 &&& (1073741823 : Int64))) - (64 : Int64)))])) _
        refine XS.lstore X3.here hx rfl (hb hby at_73) rfl (l' := #[.val (.long q1), .second, .val (.long q2), .second, .val (.long q3), .second, .val (.int p4), .val (.long fl), .second, .val (.long (q2 &&& (1073741823 : Int64))), .second, .val (.long hp), .second, .val (.int r3), .val (.long ((fl - (q2 &&& (1073741823 : Int64))) - (64 : Int64))), .second, .unset, .unset, .unset, .unset, .unset, .unset]) rfl ?_
        show Steps p.tables e below (T3.setTop (mkF m 75 #[.val (.long q1), .second, .val (.long q2), .second, .val (.long q3), .second, .val (.int p4), .val (.long fl), .second, .val (.long (q2 &&& (1073741823 : Int64))), .second, .val (.long hp), .second, .val (.int r3), .val (.long ((fl - (q2 &&& (1073741823 : Int64))) - (64 : Int64))), .second, .unset, .unset, .unset, .unset, .unset, .unset] [])) _
        refine X3.ldc2Long hx hown (mvT hZ (hw _ (List.mem_of_getElem? (i := 15) rfl))) (g := (mkF m 75 #[.val (.long q1), .second, .val (.long q2), .second, .val (.long q3), .second, .val (.int p4), .val (.long fl), .second, .val (.long (q2 &&& (1073741823 : Int64))), .second, .val (.long hp), .second, .val (.int r3), .val (.long ((fl - (q2 &&& (1073741823 : Int64))) - (64 : Int64))), .second, .unset, .unset, .unset, .unset, .unset, .unset] [])) rfl (hb hby at_75) _ ?_
        show Steps p.tables e below (T3.setTop (mkF m 78 #[.val (.long q1), .second, .val (.long q2), .second, .val (.long q3), .second, .val (.int p4), .val (.long fl), .second, .val (.long (q2 &&& (1073741823 : Int64))), .second, .val (.long hp), .second, .val (.int r3), .val (.long ((fl - (q2 &&& (1073741823 : Int64))) - (64 : Int64))), .second, .unset, .unset, .unset, .unset, .unset, .unset] [(.long (262144 : Int64))])) _
        refine XS.lstore X3.here hx rfl (hb hby at_78) rfl (l' := #[.val (.long q1), .second, .val (.long q2), .second, .val (.long q3), .second, .val (.int p4), .val (.long fl), .second, .val (.long (q2 &&& (1073741823 : Int64))), .second, .val (.long hp), .second, .val (.int r3), .val (.long ((fl - (q2 &&& (1073741823 : Int64))) - (64 : Int64))), .second, .val (.long (262144 : Int64)), .second, .unset, .unset, .unset, .unset]) rfl ?_
        show Steps p.tables e below (T3.setTop (mkF m 80 #[.val (.long q1), .second, .val (.long q2), .second, .val (.long q3), .second, .val (.int p4), .val (.long fl), .second, .val (.long (q2 &&& (1073741823 : Int64))), .second, .val (.long hp), .second, .val (.int r3), .val (.long ((fl - (q2 &&& (1073741823 : Int64))) - (64 : Int64))), .second, .val (.long (262144 : Int64)), .second, .unset, .unset, .unset, .unset] [])) _
        refine XS.iload X3.here hx rfl (hb hby at_80) rfl ?_
        show Steps p.tables e below (T3.setTop (mkF m 82 #[.val (.long q1), .second, .val (.long q2), .second, .val (.long q3), .second, .val (.int p4), .val (.long fl), .second, .val (.long (q2 &&& (1073741823 : Int64))), .second, .val (.long hp), .second, .val (.int r3), .val (.long ((fl - (q2 &&& (1073741823 : Int64))) - (64 : Int64))), .second, .val (.long (262144 : Int64)), .second, .unset, .unset, .unset, .unset] [(.int r3)])) _
        refine XS.i2l X3.here hx rfl (hb hby at_82) rfl ?_
        show Steps p.tables e below (T3.setTop (mkF m 83 #[.val (.long q1), .second, .val (.long q2), .second, .val (.long q3), .second, .val (.int p4), .val (.long fl), .second, .val (.long (q2 &&& (1073741823 : Int64))), .second, .val (.long hp), .second, .val (.int r3), .val (.long ((fl - (q2 &&& (1073741823 : Int64))) - (64 : Int64))), .second, .val (.long (262144 : Int64)), .second, .unset, .unset, .unset, .unset] [(.long (r3.toInt64))])) _
        refine XS.lstore X3.here hx rfl (hb hby at_83) rfl (l' := #[.val (.long q1), .second, .val (.long q2), .second, .val (.long q3), .second, .val (.int p4), .val (.long fl), .second, .val (.long (q2 &&& (1073741823 : Int64))), .second, .val (.long hp), .second, .val (.int r3), .val (.long ((fl - (q2 &&& (1073741823 : Int64))) - (64 : Int64))), .second, .val (.long (262144 : Int64)), .second, .val (.long (r3.toInt64)), .second, .unset, .unset]) rfl ?_
        show Steps p.tables e below (T3.setTop (mkF m 85 #[.val (.long q1), .second, .val (.long q2), .second, .val (.long q3), .second, .val (.int p4), .val (.long fl), .second, .val (.long (q2 &&& (1073741823 : Int64))), .second, .val (.long hp), .second, .val (.int r3), .val (.long ((fl - (q2 &&& (1073741823 : Int64))) - (64 : Int64))), .second, .val (.long (262144 : Int64)), .second, .val (.long (r3.toInt64)), .second, .unset, .unset] [])) _
        refine XS.lload X3.here hx rfl (hb hby at_85) rfl ?_
        show Steps p.tables e below (T3.setTop (mkF m 87 #[.val (.long q1), .second, .val (.long q2), .second, .val (.long q3), .second, .val (.int p4), .val (.long fl), .second, .val (.long (q2 &&& (1073741823 : Int64))), .second, .val (.long hp), .second, .val (.int r3), .val (.long ((fl - (q2 &&& (1073741823 : Int64))) - (64 : Int64))), .second, .val (.long (262144 : Int64)), .second, .val (.long (r3.toInt64)), .second, .unset, .unset] [(.long (r3.toInt64))])) _
        refine XS.lload X3.here hx rfl (hb hby at_87) rfl ?_
        show Steps p.tables e below (T3.setTop (mkF m 89 #[.val (.long q1), .second, .val (.long q2), .second, .val (.long q3), .second, .val (.int p4), .val (.long fl), .second, .val (.long (q2 &&& (1073741823 : Int64))), .second, .val (.long hp), .second, .val (.int r3), .val (.long ((fl - (q2 &&& (1073741823 : Int64))) - (64 : Int64))), .second, .val (.long (262144 : Int64)), .second, .val (.long (r3.toInt64)), .second, .unset, .unset] [(.long ((fl - (q2 &&& (1073741823 : Int64))) - (64 : Int64))), (.long (r3.toInt64))])) _
        refine XS.lcmp X3.here hx rfl (hb hby at_89) rfl ?_
        show Steps p.tables e below (T3.setTop (mkF m 90 #[.val (.long q1), .second, .val (.long q2), .second, .val (.long q3), .second, .val (.int p4), .val (.long fl), .second, .val (.long (q2 &&& (1073741823 : Int64))), .second, .val (.long hp), .second, .val (.int r3), .val (.long ((fl - (q2 &&& (1073741823 : Int64))) - (64 : Int64))), .second, .val (.long (262144 : Int64)), .second, .val (.long (r3.toInt64)), .second, .unset, .unset] [(.int (lcmpW (r3.toInt64) ((fl - (q2 &&& (1073741823 : Int64))) - (64 : Int64))))])) _
        refine XS.ifNo X3.here hx rfl (hb hby at_90) rfl ((if0 _ _).trans (flt (own_lcngt own.1)).2.2.1) ?_
        show Steps p.tables e below (T3.setTop (mkF m 93 #[.val (.long q1), .second, .val (.long q2), .second, .val (.long q3), .second, .val (.int p4), .val (.long fl), .second, .val (.long (q2 &&& (1073741823 : Int64))), .second, .val (.long hp), .second, .val (.int r3), .val (.long ((fl - (q2 &&& (1073741823 : Int64))) - (64 : Int64))), .second, .val (.long (262144 : Int64)), .second, .val (.long (r3.toInt64)), .second, .unset, .unset] [])) _
        refine XS.lload X3.here hx rfl (hb hby at_93) rfl ?_
        show Steps p.tables e below (T3.setTop (mkF m 95 #[.val (.long q1), .second, .val (.long q2), .second, .val (.long q3), .second, .val (.int p4), .val (.long fl), .second, .val (.long (q2 &&& (1073741823 : Int64))), .second, .val (.long hp), .second, .val (.int r3), .val (.long ((fl - (q2 &&& (1073741823 : Int64))) - (64 : Int64))), .second, .val (.long (262144 : Int64)), .second, .val (.long (r3.toInt64)), .second, .unset, .unset] [(.long (r3.toInt64))])) _
        refine XS.lload X3.here hx rfl (hb hby at_95) rfl ?_
        show Steps p.tables e below (T3.setTop (mkF m 97 #[.val (.long q1), .second, .val (.long q2), .second, .val (.long q3), .second, .val (.int p4), .val (.long fl), .second, .val (.long (q2 &&& (1073741823 : Int64))), .second, .val (.long hp), .second, .val (.int r3), .val (.long ((fl - (q2 &&& (1073741823 : Int64))) - (64 : Int64))), .second, .val (.long (262144 : Int64)), .second, .val (.long (r3.toInt64)), .second, .unset, .unset] [(.long (262144 : Int64)), (.long (r3.toInt64))])) _
        refine XS.lmul X3.here hx rfl (hb hby at_97) rfl ?_
        show Steps p.tables e below (T3.setTop (mkF m 98 #[.val (.long q1), .second, .val (.long q2), .second, .val (.long q3), .second, .val (.int p4), .val (.long fl), .second, .val (.long (q2 &&& (1073741823 : Int64))), .second, .val (.long hp), .second, .val (.int r3), .val (.long ((fl - (q2 &&& (1073741823 : Int64))) - (64 : Int64))), .second, .val (.long (262144 : Int64)), .second, .val (.long (r3.toInt64)), .second, .unset, .unset] [(.long ((r3.toInt64) * (262144 : Int64)))])) _
        refine XS.lload X3.here hx rfl (hb hby at_98) rfl ?_
        show Steps p.tables e below (T3.setTop (mkF m 100 #[.val (.long q1), .second, .val (.long q2), .second, .val (.long q3), .second, .val (.int p4), .val (.long fl), .second, .val (.long (q2 &&& (1073741823 : Int64))), .second, .val (.long hp), .second, .val (.int r3), .val (.long ((fl - (q2 &&& (1073741823 : Int64))) - (64 : Int64))), .second, .val (.long (262144 : Int64)), .second, .val (.long (r3.toInt64)), .second, .unset, .unset] [(.long hp), (.long ((r3.toInt64) * (262144 : Int64)))])) _
        refine XS.lcmp X3.here hx rfl (hb hby at_100) rfl ?_
        show Steps p.tables e below (T3.setTop (mkF m 101 #[.val (.long q1), .second, .val (.long q2), .second, .val (.long q3), .second, .val (.int p4), .val (.long fl), .second, .val (.long (q2 &&& (1073741823 : Int64))), .second, .val (.long hp), .second, .val (.int r3), .val (.long ((fl - (q2 &&& (1073741823 : Int64))) - (64 : Int64))), .second, .val (.long (262144 : Int64)), .second, .val (.long (r3.toInt64)), .second, .unset, .unset] [(.int (lcmpW ((r3.toInt64) * (262144 : Int64)) hp))])) _
        refine XS.ifNo X3.here hx rfl (hb hby at_101) rfl ((if0 _ _).trans (flt (own_lcngt own.2.1)).2.2.1) ?_
        show Steps p.tables e below (T3.setTop (mkF m 104 #[.val (.long q1), .second, .val (.long q2), .second, .val (.long q3), .second, .val (.int p4), .val (.long fl), .second, .val (.long (q2 &&& (1073741823 : Int64))), .second, .val (.long hp), .second, .val (.int r3), .val (.long ((fl - (q2 &&& (1073741823 : Int64))) - (64 : Int64))), .second, .val (.long (262144 : Int64)), .second, .val (.long (r3.toInt64)), .second, .unset, .unset] [])) _
        refine XS.iconst X3.here hx rfl (hb hby at_104) ?_
        show Steps p.tables e below (T3.setTop (mkF m 105 #[.val (.long q1), .second, .val (.long q2), .second, .val (.long q3), .second, .val (.int p4), .val (.long fl), .second, .val (.long (q2 &&& (1073741823 : Int64))), .second, .val (.long hp), .second, .val (.int r3), .val (.long ((fl - (q2 &&& (1073741823 : Int64))) - (64 : Int64))), .second, .val (.long (262144 : Int64)), .second, .val (.long (r3.toInt64)), .second, .unset, .unset] [(.int (1 : Int32))])) _
        refine XS.goto X3.here hx rfl (pc0 := 105) (pc' := 109) rfl (hb hby at_105) (by decide) (by decide) ?_
        show Steps p.tables e below (T3.setTop (mkF m 109 #[.val (.long q1), .second, .val (.long q2), .second, .val (.long q3), .second, .val (.int p4), .val (.long fl), .second, .val (.long (q2 &&& (1073741823 : Int64))), .second, .val (.long hp), .second, .val (.int r3), .val (.long ((fl - (q2 &&& (1073741823 : Int64))) - (64 : Int64))), .second, .val (.long (262144 : Int64)), .second, .val (.long (r3.toInt64)), .second, .unset, .unset] [(.int (1 : Int32))])) _
        refine XS.istore X3.here hx rfl (hb hby at_109) rfl (l' := #[.val (.long q1), .second, .val (.long q2), .second, .val (.long q3), .second, .val (.int p4), .val (.long fl), .second, .val (.long (q2 &&& (1073741823 : Int64))), .second, .val (.long hp), .second, .val (.int r3), .val (.long ((fl - (q2 &&& (1073741823 : Int64))) - (64 : Int64))), .second, .val (.long (262144 : Int64)), .second, .val (.long (r3.toInt64)), .second, .val (.int (1 : Int32)), .unset]) rfl ?_
        show Steps p.tables e below (T3.setTop (mkF m 111 #[.val (.long q1), .second, .val (.long q2), .second, .val (.long q3), .second, .val (.int p4), .val (.long fl), .second, .val (.long (q2 &&& (1073741823 : Int64))), .second, .val (.long hp), .second, .val (.int r3), .val (.long ((fl - (q2 &&& (1073741823 : Int64))) - (64 : Int64))), .second, .val (.long (262144 : Int64)), .second, .val (.long (r3.toInt64)), .second, .val (.int (1 : Int32)), .unset] [])) _
        refine XS.iload X3.here hx rfl (hb hby at_111) rfl ?_
        show Steps p.tables e below (T3.setTop (mkF m 113 #[.val (.long q1), .second, .val (.long q2), .second, .val (.long q3), .second, .val (.int p4), .val (.long fl), .second, .val (.long (q2 &&& (1073741823 : Int64))), .second, .val (.long hp), .second, .val (.int r3), .val (.long ((fl - (q2 &&& (1073741823 : Int64))) - (64 : Int64))), .second, .val (.long (262144 : Int64)), .second, .val (.long (r3.toInt64)), .second, .val (.int (1 : Int32)), .unset] [(.int r3)])) _
        refine X3.ldcInt hx hown (mvT hZ (hw _ (List.mem_of_getElem? (i := 16) rfl))) (g := (mkF m 113 #[.val (.long q1), .second, .val (.long q2), .second, .val (.long q3), .second, .val (.int p4), .val (.long fl), .second, .val (.long (q2 &&& (1073741823 : Int64))), .second, .val (.long hp), .second, .val (.int r3), .val (.long ((fl - (q2 &&& (1073741823 : Int64))) - (64 : Int64))), .second, .val (.long (262144 : Int64)), .second, .val (.long (r3.toInt64)), .second, .val (.int (1 : Int32)), .unset] [(.int r3)])) rfl (hb hby at_113) _ ?_
        show Steps p.tables e below (T3.setTop (mkF m 115 #[.val (.long q1), .second, .val (.long q2), .second, .val (.long q3), .second, .val (.int p4), .val (.long fl), .second, .val (.long (q2 &&& (1073741823 : Int64))), .second, .val (.long hp), .second, .val (.int r3), .val (.long ((fl - (q2 &&& (1073741823 : Int64))) - (64 : Int64))), .second, .val (.long (262144 : Int64)), .second, .val (.long (r3.toInt64)), .second, .val (.int (1 : Int32)), .unset] [(.int (2147483647 : Int32)), (.int r3)])) _
        refine XS.icmpNo X3.here hx rfl (hb hby at_115) rfl (feq hc115).1 ?_
        show Steps p.tables e below (T3.setTop (mkF m 118 #[.val (.long q1), .second, .val (.long q2), .second, .val (.long q3), .second, .val (.int p4), .val (.long fl), .second, .val (.long (q2 &&& (1073741823 : Int64))), .second, .val (.long hp), .second, .val (.int r3), .val (.long ((fl - (q2 &&& (1073741823 : Int64))) - (64 : Int64))), .second, .val (.long (262144 : Int64)), .second, .val (.long (r3.toInt64)), .second, .val (.int (1 : Int32)), .unset] [])) _
        refine XS.lload X3.here hx rfl (hb hby at_118) rfl ?_
        show Steps p.tables e below (T3.setTop (mkF m 120 #[.val (.long q1), .second, .val (.long q2), .second, .val (.long q3), .second, .val (.int p4), .val (.long fl), .second, .val (.long (q2 &&& (1073741823 : Int64))), .second, .val (.long hp), .second, .val (.int r3), .val (.long ((fl - (q2 &&& (1073741823 : Int64))) - (64 : Int64))), .second, .val (.long (262144 : Int64)), .second, .val (.long (r3.toInt64)), .second, .val (.int (1 : Int32)), .unset] [(.long (r3.toInt64))])) _
        refine XS.lconst X3.here hx rfl (hb hby at_120) ?_
        show Steps p.tables e below (T3.setTop (mkF m 121 #[.val (.long q1), .second, .val (.long q2), .second, .val (.long q3), .second, .val (.int p4), .val (.long fl), .second, .val (.long (q2 &&& (1073741823 : Int64))), .second, .val (.long hp), .second, .val (.int r3), .val (.long ((fl - (q2 &&& (1073741823 : Int64))) - (64 : Int64))), .second, .val (.long (262144 : Int64)), .second, .val (.long (r3.toInt64)), .second, .val (.int (1 : Int32)), .unset] [(.long (1 : Int64)), (.long (r3.toInt64))])) _
        refine XS.ladd X3.here hx rfl (hb hby at_121) rfl ?_
        show Steps p.tables e below (T3.setTop (mkF m 122 #[.val (.long q1), .second, .val (.long q2), .second, .val (.long q3), .second, .val (.int p4), .val (.long fl), .second, .val (.long (q2 &&& (1073741823 : Int64))), .second, .val (.long hp), .second, .val (.int r3), .val (.long ((fl - (q2 &&& (1073741823 : Int64))) - (64 : Int64))), .second, .val (.long (262144 : Int64)), .second, .val (.long (r3.toInt64)), .second, .val (.int (1 : Int32)), .unset] [(.long ((r3.toInt64) + (1 : Int64)))])) _
        refine XS.lload X3.here hx rfl (hb hby at_122) rfl ?_
        show Steps p.tables e below (T3.setTop (mkF m 124 #[.val (.long q1), .second, .val (.long q2), .second, .val (.long q3), .second, .val (.int p4), .val (.long fl), .second, .val (.long (q2 &&& (1073741823 : Int64))), .second, .val (.long hp), .second, .val (.int r3), .val (.long ((fl - (q2 &&& (1073741823 : Int64))) - (64 : Int64))), .second, .val (.long (262144 : Int64)), .second, .val (.long (r3.toInt64)), .second, .val (.int (1 : Int32)), .unset] [(.long ((fl - (q2 &&& (1073741823 : Int64))) - (64 : Int64))), (.long ((r3.toInt64) + (1 : Int64)))])) _
        refine XS.lcmp X3.here hx rfl (hb hby at_124) rfl ?_
        show Steps p.tables e below (T3.setTop (mkF m 125 #[.val (.long q1), .second, .val (.long q2), .second, .val (.long q3), .second, .val (.int p4), .val (.long fl), .second, .val (.long (q2 &&& (1073741823 : Int64))), .second, .val (.long hp), .second, .val (.int r3), .val (.long ((fl - (q2 &&& (1073741823 : Int64))) - (64 : Int64))), .second, .val (.long (262144 : Int64)), .second, .val (.long (r3.toInt64)), .second, .val (.int (1 : Int32)), .unset] [(.int (lcmpW ((r3.toInt64) + (1 : Int64)) ((fl - (q2 &&& (1073741823 : Int64))) - (64 : Int64))))])) _
        refine XS.ifNo X3.here hx rfl (hb hby at_125) rfl ((if0 _ _).trans (flt (own_lcngt hc125)).2.2.1) ?_
        show Steps p.tables e below (T3.setTop (mkF m 128 #[.val (.long q1), .second, .val (.long q2), .second, .val (.long q3), .second, .val (.int p4), .val (.long fl), .second, .val (.long (q2 &&& (1073741823 : Int64))), .second, .val (.long hp), .second, .val (.int r3), .val (.long ((fl - (q2 &&& (1073741823 : Int64))) - (64 : Int64))), .second, .val (.long (262144 : Int64)), .second, .val (.long (r3.toInt64)), .second, .val (.int (1 : Int32)), .unset] [])) _
        refine XS.lload X3.here hx rfl (hb hby at_128) rfl ?_
        show Steps p.tables e below (T3.setTop (mkF m 130 #[.val (.long q1), .second, .val (.long q2), .second, .val (.long q3), .second, .val (.int p4), .val (.long fl), .second, .val (.long (q2 &&& (1073741823 : Int64))), .second, .val (.long hp), .second, .val (.int r3), .val (.long ((fl - (q2 &&& (1073741823 : Int64))) - (64 : Int64))), .second, .val (.long (262144 : Int64)), .second, .val (.long (r3.toInt64)), .second, .val (.int (1 : Int32)), .unset] [(.long (r3.toInt64))])) _
        refine XS.lconst X3.here hx rfl (hb hby at_130) ?_
        show Steps p.tables e below (T3.setTop (mkF m 131 #[.val (.long q1), .second, .val (.long q2), .second, .val (.long q3), .second, .val (.int p4), .val (.long fl), .second, .val (.long (q2 &&& (1073741823 : Int64))), .second, .val (.long hp), .second, .val (.int r3), .val (.long ((fl - (q2 &&& (1073741823 : Int64))) - (64 : Int64))), .second, .val (.long (262144 : Int64)), .second, .val (.long (r3.toInt64)), .second, .val (.int (1 : Int32)), .unset] [(.long (1 : Int64)), (.long (r3.toInt64))])) _
        refine XS.ladd X3.here hx rfl (hb hby at_131) rfl ?_
        show Steps p.tables e below (T3.setTop (mkF m 132 #[.val (.long q1), .second, .val (.long q2), .second, .val (.long q3), .second, .val (.int p4), .val (.long fl), .second, .val (.long (q2 &&& (1073741823 : Int64))), .second, .val (.long hp), .second, .val (.int r3), .val (.long ((fl - (q2 &&& (1073741823 : Int64))) - (64 : Int64))), .second, .val (.long (262144 : Int64)), .second, .val (.long (r3.toInt64)), .second, .val (.int (1 : Int32)), .unset] [(.long ((r3.toInt64) + (1 : Int64)))])) _
        refine XS.lload X3.here hx rfl (hb hby at_132) rfl ?_
        show Steps p.tables e below (T3.setTop (mkF m 134 #[.val (.long q1), .second, .val (.long q2), .second, .val (.long q3), .second, .val (.int p4), .val (.long fl), .second, .val (.long (q2 &&& (1073741823 : Int64))), .second, .val (.long hp), .second, .val (.int r3), .val (.long ((fl - (q2 &&& (1073741823 : Int64))) - (64 : Int64))), .second, .val (.long (262144 : Int64)), .second, .val (.long (r3.toInt64)), .second, .val (.int (1 : Int32)), .unset] [(.long (262144 : Int64)), (.long ((r3.toInt64) + (1 : Int64)))])) _
        refine XS.lmul X3.here hx rfl (hb hby at_134) rfl ?_
        show Steps p.tables e below (T3.setTop (mkF m 135 #[.val (.long q1), .second, .val (.long q2), .second, .val (.long q3), .second, .val (.int p4), .val (.long fl), .second, .val (.long (q2 &&& (1073741823 : Int64))), .second, .val (.long hp), .second, .val (.int r3), .val (.long ((fl - (q2 &&& (1073741823 : Int64))) - (64 : Int64))), .second, .val (.long (262144 : Int64)), .second, .val (.long (r3.toInt64)), .second, .val (.int (1 : Int32)), .unset] [(.long (((r3.toInt64) + (1 : Int64)) * (262144 : Int64)))])) _
        refine XS.lload X3.here hx rfl (hb hby at_135) rfl ?_
        show Steps p.tables e below (T3.setTop (mkF m 137 #[.val (.long q1), .second, .val (.long q2), .second, .val (.long q3), .second, .val (.int p4), .val (.long fl), .second, .val (.long (q2 &&& (1073741823 : Int64))), .second, .val (.long hp), .second, .val (.int r3), .val (.long ((fl - (q2 &&& (1073741823 : Int64))) - (64 : Int64))), .second, .val (.long (262144 : Int64)), .second, .val (.long (r3.toInt64)), .second, .val (.int (1 : Int32)), .unset] [(.long hp), (.long (((r3.toInt64) + (1 : Int64)) * (262144 : Int64)))])) _
        refine XS.lcmp X3.here hx rfl (hb hby at_137) rfl ?_
        show Steps p.tables e below (T3.setTop (mkF m 138 #[.val (.long q1), .second, .val (.long q2), .second, .val (.long q3), .second, .val (.int p4), .val (.long fl), .second, .val (.long (q2 &&& (1073741823 : Int64))), .second, .val (.long hp), .second, .val (.int r3), .val (.long ((fl - (q2 &&& (1073741823 : Int64))) - (64 : Int64))), .second, .val (.long (262144 : Int64)), .second, .val (.long (r3.toInt64)), .second, .val (.int (1 : Int32)), .unset] [(.int (lcmpW (((r3.toInt64) + (1 : Int64)) * (262144 : Int64)) hp))])) _
        refine XS.ifNo X3.here hx rfl (hb hby at_138) rfl ((if0 _ _).trans (tlt (own_lcgt ((own.2.2.resolve_left hc115).resolve_left hc125))).2.2.2) ?_
        show Steps p.tables e below (T3.setTop (mkF m 141 #[.val (.long q1), .second, .val (.long q2), .second, .val (.long q3), .second, .val (.int p4), .val (.long fl), .second, .val (.long (q2 &&& (1073741823 : Int64))), .second, .val (.long hp), .second, .val (.int r3), .val (.long ((fl - (q2 &&& (1073741823 : Int64))) - (64 : Int64))), .second, .val (.long (262144 : Int64)), .second, .val (.long (r3.toInt64)), .second, .val (.int (1 : Int32)), .unset] [])) _
        refine XS.iconst X3.here hx rfl (hb hby at_141) ?_
        show Steps p.tables e below (T3.setTop (mkF m 142 #[.val (.long q1), .second, .val (.long q2), .second, .val (.long q3), .second, .val (.int p4), .val (.long fl), .second, .val (.long (q2 &&& (1073741823 : Int64))), .second, .val (.long hp), .second, .val (.int r3), .val (.long ((fl - (q2 &&& (1073741823 : Int64))) - (64 : Int64))), .second, .val (.long (262144 : Int64)), .second, .val (.long (r3.toInt64)), .second, .val (.int (1 : Int32)), .unset] [(.int (1 : Int32))])) _
        refine XS.goto X3.here hx rfl (pc0 := 142) (pc' := 146) rfl (hb hby at_142) (by decide) (by decide) ?_
        show Steps p.tables e below (T3.setTop (mkF m 146 #[.val (.long q1), .second, .val (.long q2), .second, .val (.long q3), .second, .val (.int p4), .val (.long fl), .second, .val (.long (q2 &&& (1073741823 : Int64))), .second, .val (.long hp), .second, .val (.int r3), .val (.long ((fl - (q2 &&& (1073741823 : Int64))) - (64 : Int64))), .second, .val (.long (262144 : Int64)), .second, .val (.long (r3.toInt64)), .second, .val (.int (1 : Int32)), .unset] [(.int (1 : Int32))])) _
        refine XS.istore X3.here hx rfl (hb hby at_146) rfl (l' := #[.val (.long q1), .second, .val (.long q2), .second, .val (.long q3), .second, .val (.int p4), .val (.long fl), .second, .val (.long (q2 &&& (1073741823 : Int64))), .second, .val (.long hp), .second, .val (.int r3), .val (.long ((fl - (q2 &&& (1073741823 : Int64))) - (64 : Int64))), .second, .val (.long (262144 : Int64)), .second, .val (.long (r3.toInt64)), .second, .val (.int (1 : Int32)), .val (.int (1 : Int32))]) rfl ?_
        show Steps p.tables e below (T3.setTop (mkF m 148 #[.val (.long q1), .second, .val (.long q2), .second, .val (.long q3), .second, .val (.int p4), .val (.long fl), .second, .val (.long (q2 &&& (1073741823 : Int64))), .second, .val (.long hp), .second, .val (.int r3), .val (.long ((fl - (q2 &&& (1073741823 : Int64))) - (64 : Int64))), .second, .val (.long (262144 : Int64)), .second, .val (.long (r3.toInt64)), .second, .val (.int (1 : Int32)), .val (.int (1 : Int32))] [])) _
        refine XS.iload X3.here hx rfl (hb hby at_148) rfl ?_
        show Steps p.tables e below (T3.setTop (mkF m 150 #[.val (.long q1), .second, .val (.long q2), .second, .val (.long q3), .second, .val (.int p4), .val (.long fl), .second, .val (.long (q2 &&& (1073741823 : Int64))), .second, .val (.long hp), .second, .val (.int r3), .val (.long ((fl - (q2 &&& (1073741823 : Int64))) - (64 : Int64))), .second, .val (.long (262144 : Int64)), .second, .val (.long (r3.toInt64)), .second, .val (.int (1 : Int32)), .val (.int (1 : Int32))] [(.int (1 : Int32))])) _
        refine XS.ifNo X3.here hx rfl (hb hby at_150) rfl ((if0 _ _).trans (feq (by decide)).1) ?_
        show Steps p.tables e below (T3.setTop (mkF m 153 #[.val (.long q1), .second, .val (.long q2), .second, .val (.long q3), .second, .val (.int p4), .val (.long fl), .second, .val (.long (q2 &&& (1073741823 : Int64))), .second, .val (.long hp), .second, .val (.int r3), .val (.long ((fl - (q2 &&& (1073741823 : Int64))) - (64 : Int64))), .second, .val (.long (262144 : Int64)), .second, .val (.long (r3.toInt64)), .second, .val (.int (1 : Int32)), .val (.int (1 : Int32))] [])) _
        refine XS.iload X3.here hx rfl (hb hby at_153) rfl ?_
        show Steps p.tables e below (T3.setTop (mkF m 155 #[.val (.long q1), .second, .val (.long q2), .second, .val (.long q3), .second, .val (.int p4), .val (.long fl), .second, .val (.long (q2 &&& (1073741823 : Int64))), .second, .val (.long hp), .second, .val (.int r3), .val (.long ((fl - (q2 &&& (1073741823 : Int64))) - (64 : Int64))), .second, .val (.long (262144 : Int64)), .second, .val (.long (r3.toInt64)), .second, .val (.int (1 : Int32)), .val (.int (1 : Int32))] [(.int (1 : Int32))])) _
        refine XS.ifNo X3.here hx rfl (hb hby at_155) rfl ((if0 _ _).trans (feq (by decide)).1) ?_
        show Steps p.tables e below (T3.setTop (mkF m 158 #[.val (.long q1), .second, .val (.long q2), .second, .val (.long q3), .second, .val (.int p4), .val (.long fl), .second, .val (.long (q2 &&& (1073741823 : Int64))), .second, .val (.long hp), .second, .val (.int r3), .val (.long ((fl - (q2 &&& (1073741823 : Int64))) - (64 : Int64))), .second, .val (.long (262144 : Int64)), .second, .val (.long (r3.toInt64)), .second, .val (.int (1 : Int32)), .val (.int (1 : Int32))] [])) _
        refine XS.iconst X3.here hx rfl (hb hby at_158) ?_
        show Steps p.tables e below (T3.setTop (mkF m 159 #[.val (.long q1), .second, .val (.long q2), .second, .val (.long q3), .second, .val (.int p4), .val (.long fl), .second, .val (.long (q2 &&& (1073741823 : Int64))), .second, .val (.long hp), .second, .val (.int r3), .val (.long ((fl - (q2 &&& (1073741823 : Int64))) - (64 : Int64))), .second, .val (.long (262144 : Int64)), .second, .val (.long (r3.toInt64)), .second, .val (.int (1 : Int32)), .val (.int (1 : Int32))] [(.int (1 : Int32))])) _
        refine XS.goto X3.here hx rfl (pc0 := 159) (pc' := 163) rfl (hb hby at_159) (by decide) (by decide) ?_
        show Steps p.tables e below (T3.setTop (mkF m 163 #[.val (.long q1), .second, .val (.long q2), .second, .val (.long q3), .second, .val (.int p4), .val (.long fl), .second, .val (.long (q2 &&& (1073741823 : Int64))), .second, .val (.long hp), .second, .val (.int r3), .val (.long ((fl - (q2 &&& (1073741823 : Int64))) - (64 : Int64))), .second, .val (.long (262144 : Int64)), .second, .val (.long (r3.toInt64)), .second, .val (.int (1 : Int32)), .val (.int (1 : Int32))] [(.int (1 : Int32))])) _
        exact retN X3 hx (t := .boolean) Bd.returns (by simp) (hb hby at_163) hr
      · show Qrm0 Z q1 q2 q3 p4 h0 n0 _ T3.heap _
        exact ⟨rfl, N3⟩
set_option maxRecDepth 65536 in
set_option maxHeartbeats 40000000 in
theorem comes_1 {Post : Tables → Env → Array Value → State → Outcome → State → Prop} (hpost : ∀ tb e args s v u, (limb_1_1.after args s (.returned v) u = true ∧ limb_1_2.after args s (.returned v) u = true) → FrameEnd s (.returned v) u (Jvm.fieldLocs frame_1_writes args s ++ Jvm.arrayLocs frame_1_arrays args s ++ Jvm.staticLocs frame_1_statics s) 0 0 → Post tb e args s (.returned v) u) :
    ArmFor flags0 classFile x code maxLocals ret World_1 tables_1 room_1 Calls_1 rest_1 Pre_1 Post := by
  intro l hfl _ _ p e ha hc hk s m args below hf hA hF happ hP
  obtain ⟨hcalls, hrest, hpre⟩ := hP
  obtain ⟨-, -, -, hnamed, -, -, -, hat⟩ := (Spec.applies_iff hf).mp happ
  obtain ⟨hg, hn⟩ := and_e (Cond.before_iff.mp (show (Jvm.Cond.and given_1 narrow_1).before args s = true from hpre))
  obtain ⟨hcount, hg0⟩ := and_e hg
  obtain ⟨ha0, hg1⟩ := and_e hg0
  obtain ⟨ha1, hg2⟩ := and_e hg1
  obtain ⟨ha2, hg3⟩ := and_e hg2
  obtain ⟨w0, w1, w2, w3, rfl⟩ : ∃ w0 w1 w2 w3 : Value, args = #[w0, w1, w2, w3] := by
    have hs : args.size = 4 := by simpa [Cond.value, given_1] using hcount
    obtain ⟨L⟩ := args
    match L, hs with
    | [w0, w1, w2, w3], _ => exact ⟨w0, w1, w2, w3, rfl⟩
  have hw := fun d (hd : d ∈ tables_1) => atoms_spec (ws := Jvm.Cond.code x code maxLocals ret :: tables_1) hat d (List.mem_cons_of_mem _ hd)
  have hfit : Fit s := fun {y c} hc i hi => by
    obtain ⟨ha, rfl⟩ := Array.getElem?_eq_some_iff.mp hc
    have q := List.all_eq_true.mp ((Array.all_eq_true_iff_forall_mem.mp hF) _ (Array.getElem_mem ha)) i (List.mem_range.mpr hi)
    simpa [Array.getElem?_eq_getElem hi] using q
  obtain ⟨i0, ei0⟩ := isL_v ha0
  obtain rfl : w0 = (.long i0) := Option.some.inj ei0
  obtain ⟨i1, ei1⟩ := isL_v ha1
  obtain rfl : w1 = (.long i1) := Option.some.inj ei1
  obtain ⟨i2, ei2⟩ := isL_v ha2
  obtain rfl : w2 = (.long i2) := Option.some.inj ei2
  obtain ⟨i3, ei3⟩ := is_v hg3
  obtain rfl : w3 = (.int i3) := Option.some.inj ei3
  obtain ⟨n, o, h1, h2, h3, _, L, rfl, ⟨rfl, N⟩, hq⟩ := rm0 l s _ hw tables_1 i0 i1 i2 i3  s.heap s.heap.size (Nat.le_refl _)  p e ha hc hk s m _ below hf ((Spec.applies_iff_loose hf).mp happ).1 ⟨rfl, State.Warmed39.refl s, rfl⟩ trivial
  refine ⟨n, _, h1, h2, h3, hpost _ _ _ _ _ _ ⟨Cond.after_iff.mpr rfl, Cond.after_iff.mpr (eq_i res_at (Term.int_eval (1)) rfl)⟩ ⟨hq.1, hq.2.1, (hq.2.2.sift fun y hy => Or.inr (N y hy)).mono (by decide) (by decide)⟩⟩
theorem main_1_1 : Claimed_1_1 := comes_1 fun _ _ _ _ _ _ h hF => ⟨h.1, hF⟩
theorem main_1_2 : Claimed_1_2 := comes_1 fun _ _ _ _ _ _ h hF => ⟨h.2, hF⟩
end Jvm.Pilot.@@N@@
namespace Jvm.Pilot.@@N@@
open Jvm Jvm.ClassFile Sem Op Lib Jvm.Free Jvm.Stand Jvm.Pilot.@@N@@.Jvm.D
/-! MADE BY PROGRAM (witnessworld.py) out of the Statement's table words and the real class files: 10 classes; the members and pool entries that the words name. The judged class is class 1, her method 1. -/
namespace start1
open Jvm.ClassFile
def u (s : String) : CpInfo := .utf8 (stringToUtf16 s)
/-- a pool by its gaps: so many unusable entries, then the entry; so many at the end -/
def gap : Nat → List CpInfo → List CpInfo
  | 0, r => r
  | n + 1, r => .unusable :: gap n r
def poolList (es : List (Nat × CpInfo)) (last : Nat) : List CpInfo := es.foldr (fun e r => gap e.1 (e.2 :: r)) (gap last [])
def pool (es : List (Nat × CpInfo)) (last : Nat) : Array CpInfo := ⟨poolList es last⟩
def fileOf (pool : Array CpInfo) (this : Nat) (attrs : Array Attribute := #[]) (ms : Array MethodInfo := #[]) (fl : Nat := 33) (sup : Nat := 0) (ifs : Array Nat := #[]) (fds : Array FieldInfo := #[]) : ClassFile where
  minorVersion := 0
  majorVersion := 65
  constantPool := pool
  accessFlags := fl
  thisClass := this
  superClass := sup
  interfaces := ifs
  fields := fds
  methods := ms
  attributes := attrs
def plain (name : String) (sup : Option ClassId) : Class where
  name := name
  kind := .ordinary
  loader := none
  accessFlags := 33
  super := sup
  interfaces := #[]
  cf := none
  fields := #[]
  methods := #[]
  instanceTypes := #[]
  staticTypes := #[]
  resolved := #[]
  callSites := []
  init := .initialized
  statics := none
  mirror := none

def pool0 : Array CpInfo := pool [(5, u "<init>"), (0, u "()V"), (1, .class_ 10), (1, u "java/lang/Object")] 113

def k0m0 : Method := { name := "<init>", desc := "()V", sig := { parameters := [], returnType := none }, accessFlags := 1, code := none }
/-- java/lang/Object -/
def k0 : Class := { plain "java/lang/Object" none with
  accessFlags := 33
  interfaces := #[]
  cf := some (fileOf pool0 8 #[] #[{ accessFlags := 1, nameIndex := 5, descriptorIndex := 6, attributes := #[] }] 33 0 #[] #[])
  fields := #[]
  methods := #[k0m0]
  instanceTypes := #[]
  staticTypes := #[]
  resolved := Array.replicate 124 none
  statics := none }

def pool1 : Array CpInfo := pool [(2, .class_ 4), (1, u "java/lang/Object"), (0, u "<init>"), (0, u "()V"), (2, .long 9223372036854775807), (1, .long 1048575), (1, .long 1073741823), (1, .long 1099511627775), (1, .methodref 18 19), (0, .class_ 20), (0, .nameAndType 21 22), (0, u "com/example/zorgbrug/zorgbrug/http/PeerConnections"), (0, u "room"), (0, u "(JJJ)I"), (0, .long 64), (1, .long 262144), (3, .integer 2147483647), (0, .class_ 31), (0, u "com/example/zorgbrug/zorgbrug/http/PeerConnectionsRoomPinLaw"), (2, u "law"), (0, u "(JJJI)Z")] 3

def k1m0 : Method := { name := "<init>", desc := "()V", sig := { parameters := [], returnType := none }, accessFlags := 1, code := none }
def k1c1 : Code := { maxStack := 6, maxLocals := 22, code := code, exceptionTable := #[], attributes := #[] }
def k1m1 : Method := { name := "law", desc := "(JJJI)Z", sig := { parameters := [.long, .long, .long, .int], returnType := some .boolean }, accessFlags := 9, code := some k1c1 }
/-- com/example/zorgbrug/zorgbrug/http/PeerConnectionsRoomPinLaw -/
def k1 : Class := { plain "com/example/zorgbrug/zorgbrug/http/PeerConnectionsRoomPinLaw" (some 0) with
  accessFlags := 49
  interfaces := #[]
  cf := some (fileOf pool1 30 #[] #[{ accessFlags := 1, nameIndex := 5, descriptorIndex := 6, attributes := #[] }, { accessFlags := 9, nameIndex := 34, descriptorIndex := 35, attributes := #[] }] 49 2 #[] #[])
  fields := #[]
  methods := #[k1m0, k1m1]
  instanceTypes := #[]
  staticTypes := #[]
  resolved := Array.replicate 39 none
  statics := none }

def pool2 : Array CpInfo := pool [(2, .class_ 4), (1, u "java/lang/Object"), (0, u "<init>"), (0, u "()V"), (4, .class_ 13), (1, u "com/example/zorgbrug/zorgbrug/http/PeerConnections"), (0, u "peerOfConnection"), (0, u "Ljava/util/Map;"), (2, u "peers"), (4, u "GIVES_UP_FIRST"), (0, u "Ljava/util/Comparator;"), (5, u "ranking"), (0, u "Ljava/util/TreeSet;"), (5, u "maxConnections"), (0, u "I"), (0, .long 64), (1, .long 262144), (1, .long 2147483647), (1, .methodref 46 47), (0, .class_ 48), (0, .nameAndType 49 50), (0, u "java/lang/Math"), (0, u "min"), (0, u "(JJ)J"), (30, u "room"), (0, u "(JJJ)I"), (19, .class_ 103), (0, u "com/example/zorgbrug/zorgbrug/http/PeerConnections$Peer"), (72, u "changes"), (0, u "J"), (54, u "MAX_PER_PEER"), (2, u "SPARE_FILES"), (1, u "HEAP_BYTES_PER_CONNECTION"), (0, u "IPV6_NETWORK_BYTES")] 92

def k2m0 : Method := { name := "<init>", desc := "()V", sig := { parameters := [], returnType := none }, accessFlags := 0, code := none }
def k2c1 : Code := { maxStack := 6, maxLocals := 10, code := prog_26_method_2_code, exceptionTable := #[], attributes := #[] }
def k2m1 : Method := { name := "room", desc := "(JJJ)I", sig := { parameters := [.long, .long, .long], returnType := some .int }, accessFlags := 8, code := some k2c1 }
/-- com/example/zorgbrug/zorgbrug/http/PeerConnections -/
def k2 : Class := { plain "com/example/zorgbrug/zorgbrug/http/PeerConnections" (some 0) with
  accessFlags := 48
  interfaces := #[]
  cf := some (fileOf pool2 11 #[.nestMembers #[102]] #[{ accessFlags := 0, nameIndex := 5, descriptorIndex := 6, attributes := #[] }, { accessFlags := 8, nameIndex := 81, descriptorIndex := 82, attributes := #[] }] 48 2 #[] #[{ accessFlags := 24, nameIndex := 232, descriptorIndex := 38, attributes := #[] }, { accessFlags := 24, nameIndex := 235, descriptorIndex := 38, attributes := #[] }, { accessFlags := 24, nameIndex := 237, descriptorIndex := 177, attributes := #[] }, { accessFlags := 26, nameIndex := 238, descriptorIndex := 38, attributes := #[] }, { accessFlags := 26, nameIndex := 23, descriptorIndex := 24, attributes := #[] }, { accessFlags := 18, nameIndex := 14, descriptorIndex := 15, attributes := #[] }, { accessFlags := 18, nameIndex := 18, descriptorIndex := 15, attributes := #[] }, { accessFlags := 18, nameIndex := 30, descriptorIndex := 31, attributes := #[] }, { accessFlags := 2, nameIndex := 37, descriptorIndex := 38, attributes := #[] }, { accessFlags := 2, nameIndex := 176, descriptorIndex := 177, attributes := #[] }])
  fields := #[{ name := "MAX_PER_PEER", type := .int, accessFlags := 24, slot := 0, constantValue := 0 }, { name := "SPARE_FILES", type := .int, accessFlags := 24, slot := 1, constantValue := 0 }, { name := "HEAP_BYTES_PER_CONNECTION", type := .long, accessFlags := 24, slot := 2, constantValue := 0 }, { name := "IPV6_NETWORK_BYTES", type := .int, accessFlags := 26, slot := 3, constantValue := 0 }, { name := "GIVES_UP_FIRST", type := (.object "java/util/Comparator"), accessFlags := 26, slot := 4, constantValue := 0 }, { name := "peerOfConnection", type := (.object "java/util/Map"), accessFlags := 18, slot := 0, constantValue := 0 }, { name := "peers", type := (.object "java/util/Map"), accessFlags := 18, slot := 1, constantValue := 0 }, { name := "ranking", type := (.object "java/util/TreeSet"), accessFlags := 18, slot := 2, constantValue := 0 }, { name := "maxConnections", type := .int, accessFlags := 2, slot := 3, constantValue := 0 }, { name := "changes", type := .long, accessFlags := 2, slot := 4, constantValue := 0 }]
  methods := #[k2m0, k2m1]
  instanceTypes := #[(.object "java/util/Map"), (.object "java/util/Map"), (.object "java/util/TreeSet"), .int, .long]
  staticTypes := #[.int, .int, .long, .int, (.object "java/util/Comparator")]
  resolved := Array.replicate 331 none
  statics := none }

def pool3 : Array CpInfo := pool [(1, .class_ 2), (0, u "java/lang/Math"), (1, .class_ 6), (1, u "java/lang/Object"), (0, u "<init>"), (0, u "()V"), (89, .class_ 100), (1, u "java/lang/Math$RandomNumberGeneratorHolder"), (20, u "(JJ)J"), (50, u "negativeZeroFloatBits"), (0, u "J"), (2, u "negativeZeroDoubleBits"), (24, u "min"), (43, u "$assertionsDisabled"), (0, u "Z"), (91, u "twoToTheDoubleScaleDown"), (0, u "D"), (4, u "twoToTheDoubleScaleUp"), (9, u "E"), (3, u "PI"), (2, u "TAU"), (2, u "DEGREES_TO_RADIANS"), (0, u "RADIANS_TO_DEGREES")] 94

def k3m0 : Method := { name := "<init>", desc := "()V", sig := { parameters := [], returnType := none }, accessFlags := 2, code := none }
def k3c1 : Code := { maxStack := 4, maxLocals := 4, code := jdk_29_method_70_code, exceptionTable := #[], attributes := #[] }
def k3m1 : Method := { name := "min", desc := "(JJ)J", sig := { parameters := [.long, .long], returnType := some .long }, accessFlags := 9, code := some k3c1 }
/-- java/lang/Math -/
def k3 : Class := { plain "java/lang/Math" (some 0) with
  accessFlags := 49
  interfaces := #[]
  cf := some (fileOf pool3 1 #[.nestMembers #[98]] #[{ accessFlags := 2, nameIndex := 7, descriptorIndex := 8, attributes := #[] }, { accessFlags := 9, nameIndex := 201, descriptorIndex := 121, attributes := #[] }] 49 4 #[] #[{ accessFlags := 25, nameIndex := 354, descriptorIndex := 339, attributes := #[] }, { accessFlags := 25, nameIndex := 358, descriptorIndex := 339, attributes := #[] }, { accessFlags := 25, nameIndex := 361, descriptorIndex := 339, attributes := #[] }, { accessFlags := 26, nameIndex := 364, descriptorIndex := 339, attributes := #[] }, { accessFlags := 26, nameIndex := 365, descriptorIndex := 339, attributes := #[] }, { accessFlags := 26, nameIndex := 172, descriptorIndex := 173, attributes := #[] }, { accessFlags := 26, nameIndex := 176, descriptorIndex := 173, attributes := #[] }, { accessFlags := 8, nameIndex := 344, descriptorIndex := 339, attributes := #[] }, { accessFlags := 8, nameIndex := 338, descriptorIndex := 339, attributes := #[] }, { accessFlags := 4120, nameIndex := 245, descriptorIndex := 246, attributes := #[] }])
  fields := #[{ name := "E", type := .double, accessFlags := 25, slot := 0, constantValue := 0 }, { name := "PI", type := .double, accessFlags := 25, slot := 1, constantValue := 0 }, { name := "TAU", type := .double, accessFlags := 25, slot := 2, constantValue := 0 }, { name := "DEGREES_TO_RADIANS", type := .double, accessFlags := 26, slot := 3, constantValue := 0 }, { name := "RADIANS_TO_DEGREES", type := .double, accessFlags := 26, slot := 4, constantValue := 0 }, { name := "negativeZeroFloatBits", type := .long, accessFlags := 26, slot := 5, constantValue := 0 }, { name := "negativeZeroDoubleBits", type := .long, accessFlags := 26, slot := 6, constantValue := 0 }, { name := "twoToTheDoubleScaleUp", type := .double, accessFlags := 8, slot := 7, constantValue := 0 }, { name := "twoToTheDoubleScaleDown", type := .double, accessFlags := 8, slot := 8, constantValue := 0 }, { name := "$assertionsDisabled", type := .boolean, accessFlags := 4120, slot := 9, constantValue := 0 }]
  methods := #[k3m0, k3m1]
  instanceTypes := #[]
  staticTypes := #[.double, .double, .double, .double, .double, .long, .long, .double, .double, .boolean]
  resolved := Array.replicate 460 none
  statics := none }

def pool4 : Array CpInfo := pool [(1, u "java/lang/Cloneable"), (0, .class_ 1), (0, u "java/lang/Object"), (0, .class_ 3)] 3

/-- java/lang/Cloneable -/
def k4 : Class := { plain "java/lang/Cloneable" (some 0) with
  accessFlags := 1537
  interfaces := #[]
  cf := some (fileOf pool4 2 #[] #[] 1537 4 #[] #[])
  fields := #[]
  methods := #[]
  instanceTypes := #[]
  staticTypes := #[]
  resolved := Array.replicate 8 none
  statics := none }

def pool5 : Array CpInfo := pool [(1, u "java/io/Serializable"), (0, .class_ 1), (0, u "java/lang/Object"), (0, .class_ 3)] 3

/-- java/io/Serializable -/
def k5 : Class := { plain "java/io/Serializable" (some 0) with
  accessFlags := 1537
  interfaces := #[]
  cf := some (fileOf pool5 2 #[] #[] 1537 4 #[] #[])
  fields := #[]
  methods := #[]
  instanceTypes := #[]
  staticTypes := #[]
  resolved := Array.replicate 8 none
  statics := none }

/-- the primitive byte -/
def k6 : Class := { plain "byte" none with kind := .primitive 'B', accessFlags := 0x411 }
/-- [B -/
def k7 : Class := { plain "[B" (some 0) with kind := .array 6 .byte, interfaces := #[4, 5], accessFlags := 1041 }

/-- the primitive int -/
def k8 : Class := { plain "int" none with kind := .primitive 'I', accessFlags := 0x411 }
/-- [I -/
def k9 : Class := { plain "[I" (some 0) with kind := .array 8 .int, interfaces := #[4, 5], accessFlags := 1041 }

def heap : Heap := #[]
def classes : Array Class := #[k0, k1, k2, k3, k4, k5, k6, k7, k8, k9]
def interned : List (Array UInt16 × Addr) := []
def slotsUsed : Nat := 0
def theMethod : MethodId := ⟨1, 1⟩
def args0 : Array Value := #[.long 5000, .long 300, .long 1000000000, .int 7]
def aboutOver (below : List Frame) : State where
  vm := { classes := classes, interned := interned.toArray }
  heap := heap
  slotsUsed := slotsUsed
  threads := #[{ frames := .invoking theMethod args0 :: below }]
def below0 : List Frame := [.native { method := ⟨0, 0⟩, args := #[] }]
def about1 : State := aboutOver below0
def p0 : Program := .bare "" "" ""
def e0 : Env := launch0.env 0 0 0
theorem w_frames : about1.frames = Frame.invoking theMethod args0 :: below0 := rfl
set_option maxRecDepth 65536 in
theorem w_args : argsFit about1.vm theMethod args0 = true := by decide +kernel
set_option maxRecDepth 65536 in
theorem w_heap : heapFits about1 = true := by decide +kernel
set_option maxRecDepth 65536 in
theorem w_runnable : about1.curStatus? = some .runnable := by decide +kernel
set_option maxRecDepth 65536 in
theorem w_alone : about1.alone = true := by decide +kernel
set_option maxRecDepth 65536 in
theorem w_named : about1.methodNamed? x = some theMethod := by decide +kernel
set_option maxRecDepth 65536 in
theorem w_hears : about1.hears theMethod below0 = true := by decide +kernel
set_option maxRecDepth 65536 in
theorem w_ripe : about1.ripe theMethod args0 below0 = true := by decide +kernel
theorem w_running : about1.status = .running := rfl
set_option maxRecDepth 65536 in
theorem w_room : about1.hasRoom e0.platform room_1 = true :=
  launch0.hasRoom_least _ room_1 (by decide +kernel) (by decide +kernel) (by decide +kernel) (by decide +kernel) (by decide +kernel) (by decide +kernel)
theorem allAtoms_all (ts : List Jvm.Cond) (a : Array Jvm.Value) (st : Jvm.State) : (allAtoms ts).before a st = ts.all (fun c => c.before a st) := by
  induction ts with
  | nil => rfl
  | cons c t ih =>
    show (Jvm.Cond.and c (allAtoms t)).before a st = _
    rw [Jvm.Cond.before_and, ih, List.all_cons]
def words1 : List Jvm.Cond := Jvm.Cond.code x code maxLocals ret :: tables_1
/-- a 'code' word, met by the world's own term for the bytes: nothing is compared byte by byte -/
theorem code_word {y : MethodName} {bytes : ByteArray} {mx : Nat} {rt : Option FieldType} {a : Array Value} {s : State} {m : MethodId} {meth : Method} {c : Code} (h1 : s.methodNamed? y = some m) (h2 : s.vm.method? m = some meth) (h3 : meth.code = some c) (h4 : c.code = bytes)
    (h5 : (c.maxLocals == mx && c.exceptionTable.isEmpty && decide (c.maxStack ≤ mostOperands) && decide (meth.sig.returnType = rt) && !meth.locks && decide (parseMethodDescriptor y.desc = some meth.sig)) = true) : (Jvm.Cond.code y bytes mx rt).before a s = true := by
  simp only [Bool.and_eq_true, beq_iff_eq, Bool.not_eq_true', decide_eq_true_eq] at h5
  obtain ⟨⟨⟨⟨⟨g1, g2⟩, g3⟩, g4⟩, g5⟩, g6⟩ := h5
  simp [Cond.before, Cond.holds, Cond.value, h1, h2, h3, h4, g1, g2, g3, g4, g5, g6]
def isCode : Jvm.Cond → Bool
  | .code _ _ _ _ => true
  | _ => false
theorem all_split {L : List Jvm.Cond} {P : Jvm.Cond → Bool} (h1 : L.all (fun c => isCode c || P c) = true) (h2 : ∀ c ∈ L.filter isCode, P c = true) : L.all P = true := by
  refine List.all_eq_true.mpr fun c hc => ?_
  have h := List.all_eq_true.mp h1 c hc
  rcases Bool.eq_false_or_eq_true (isCode c) with hi | hi
  · exact h2 c (List.mem_filter.mpr ⟨hc, hi⟩)
  · simpa [hi] using h
set_option maxRecDepth 65536 in
theorem w_c0 : (Jvm.Cond.code x code maxLocals ret).before args0 about1 = true := code_word (m := ⟨1, 1⟩) (meth := k1m1) (c := k1c1) (by decide +kernel) rfl rfl rfl (by decide +kernel)
set_option maxRecDepth 65536 in
theorem w_c1 : (Jvm.Cond.code ({ cls := "com/example/zorgbrug/zorgbrug/http/PeerConnections", name := "room", desc := "(JJJ)I" } : Jvm.MethodName) prog_26_method_2_code (10 : Nat) (Option.some Jvm.ClassFile.FieldType.int)).before args0 about1 = true := code_word (m := ⟨2, 1⟩) (meth := k2m1) (c := k2c1) (by decide +kernel) rfl rfl rfl (by decide +kernel)
set_option maxRecDepth 65536 in
theorem w_c2 : (Jvm.Cond.code ({ cls := "java/lang/Math", name := "min", desc := "(JJ)J" } : Jvm.MethodName) jdk_29_method_70_code (4 : Nat) (Option.some Jvm.ClassFile.FieldType.long)).before args0 about1 = true := code_word (m := ⟨3, 1⟩) (meth := k3m1) (c := k3c1) (by decide +kernel) rfl rfl rfl (by decide +kernel)
def codes1 : List Jvm.Cond := [Jvm.Cond.code x code maxLocals ret, Jvm.Cond.code ({ cls := "com/example/zorgbrug/zorgbrug/http/PeerConnections", name := "room", desc := "(JJJ)I" } : Jvm.MethodName) prog_26_method_2_code (10 : Nat) (Option.some Jvm.ClassFile.FieldType.int), Jvm.Cond.code ({ cls := "java/lang/Math", name := "min", desc := "(JJ)J" } : Jvm.MethodName) jdk_29_method_70_code (4 : Nat) (Option.some Jvm.ClassFile.FieldType.long)]
set_option maxRecDepth 65536 in
theorem codes_eq : words1.filter isCode = codes1 := rfl
theorem w_codes : ∀ c ∈ words1.filter isCode, c.before args0 about1 = true := by
  rw [codes_eq]
  intro c hc
  simp only [codes1, List.mem_cons, List.not_mem_nil, or_false] at hc
  rcases hc with rfl | rfl | rfl
  · exact w_c0
  · exact w_c1
  · exact w_c2
set_option maxRecDepth 65536 in
theorem w_t1 : words1.all (fun c => isCode c || c.before args0 about1) = true := by decide +kernel
theorem w_tables : (allAtoms (Jvm.Cond.code x code maxLocals ret :: tables_1)).before args0 about1 = true := by
  rw [allAtoms_all]
  show words1.all (fun c => c.before args0 about1) = true
  refine all_split ?_ w_codes
  rw [w_t1]
set_option maxRecDepth 65536 in
theorem w_case : (Jvm.Cond.and given_1 narrow_1).before args0 about1 = true := by decide +kernel
theorem w_applies : (headSpec (Jvm.Cond.code x code maxLocals ret :: tables_1) room_1).applies x e0.platform about1 = true :=
  (Spec.applies_iff w_frames).mpr ⟨w_running, w_runnable, w_alone, w_named, w_hears, w_ripe, w_room, w_tables⟩
theorem atStart : AtStart classFile x code maxLocals ret World_1 tables_1 room_1 Calls_1 rest_1 Pre_1 launch0 p0 e0 about1 theMethod args0 below0 :=
  ⟨lists_1, trivial, launch0.admits_env _ _ _, launch0.least_env, fairChoices_fair.cas, fairChoices_fair.clock, w_frames, w_args, w_heap, w_applies, trivial, trivial, w_case⟩
end start1
theorem witness_1 : WitnessClaimed_1 := ⟨start1.p0, start1.e0, start1.about1, start1.theMethod, start1.args0, start1.below0, start1.atStart⟩
end Jvm.Pilot.@@N@@

import JvmDerived
import JvmDerived.Pilot.@@N@@Statement
import JvmDerived.Pilot.@@N@@Code
set_option linter.unusedVariables false
set_option linter.unusedSimpArgs false
namespace Jvm.RoadKit
open Sem ClassFile Op Lib Jvm.Stand Jvm.Free Jvm.LawKit
section New
variable {p : Program} {l : Launch} {e : Env} {R : Room} {s : State} {m : MethodId} {args : Array Value} {below : List Frame} {meth : Method} {c : Code} {T : State} {locs : List Loc} {cells slots : Nat}
theorem retI (X : Stand p l e R s m args below meth c T locs cells slots) (hx : p.tables.exec = Jvm.exec) {pc : Nat} {Ls : Array Slot} {z : Int32} {rest : List Value} (hret : meth.sig.returnType = some .int) (hd : decode c.code pc = .ok (.ireturn, 1)) {fs : List Frame}
    (hl : ∀ (f : JFrame) (acts : List Action), f.method = m → f.locked = none → f.entered = [] → (doReturn e (T.setTop f) acts (some (.int z))).1 = T.setFrames fs) : Steps p.tables e below (T.setTop (mkF m pc Ls (.int z :: rest))) (T.setFrames fs) := by
  have hm' : T.vm.method? m = some meth := X.method'
  have hn : narrow .int (.int z) = .int z := rfl
  show Steps p.tables e below (T.setTop { method := m, pc := pc, locals := Ls, stack := _ :: rest, locked := none }) _
  jvm_step X.here [X.here.top, hx, hd, hm', hret, hn]
  first | (intro acts; rw [hl _ acts rfl rfl rfl]) | rw [hl _ _ rfl rfl rfl]
  exact Steps.refl _
end New
end Jvm.RoadKit
namespace Jvm.Pilot.@@N@@
open Jvm Jvm.ClassFile Sem Op Lib Jvm.Free Jvm.Stand Jvm.LawKit Jvm.RoadKit Bundle Jvm.Pilot.@@N@@.Jvm.D
theorem own_w {α : Type _} {l : List α} {a : α} (i : Nat) (h : l[i]? = some a) : a ∈ l := List.mem_of_getElem? h
theorem own_eqint {args : Array Value} {first s : State} {o : Option Outcome} {idx : List Nat} {t : Term} {n : Int32} (h : (Jvm.Cond.eq t (.int n)).value args first o s idx = some true) : t.eval args first o idx s = some (.int n) := by
  obtain ⟨x, y, hx, hy, -, k⟩ := cmp_v (Or.inl h)
  obtain rfl : y = .int n := (Option.some.inj ((Term.int_eval n).symm.trans hy)).symm
  obtain ⟨z, rfl⟩ := k
  simp only [Cond.value, hx, hy] at h
  rw [hx, show z = n by simpa using h]
theorem own_stakeep {Z : State} {h h' : Heap} {C n d : String} {v : Value} (K : Keep h h' []) (F : Sta Z h C n d v) : Sta Z h' C n d v := F.ext ⟨K.1, fun a c q => K.2.1 a c q nin0⟩
theorem own_selpriv {s : State} {args : Array Value} {y : MethodName} {n : Nat} (hi : (Jvm.Cond.instantiable y.cls n).before args s = true) (hp : s.PrivateAt y) (hinst : (Jvm.Cond.instanceMethod y).before args s = true) (hy : y.cls ≠ "java/lang/invoke/MethodHandle" ∧ y.cls ≠ "java/lang/invoke/VarHandle") : (Jvm.Cond.selects y.cls y y).before args s = true := by
  obtain ⟨c, k, h1, h2, h3, h4, -⟩ := Cond.instantiable_spec hi
  exact selects_self_of_private h1 h2 (Bool.or_eq_false_iff.mp h4).1 hp hinst hy
theorem own_lceq {a b : Int64} (h : a = b) : lcmpW a b = 0 := by subst h; simp [lcmpW, Int64.lt_irrefl]
theorem own_lcne {a b : Int64} (h : ¬ a = b) : ¬ lcmpW a b = 0 := by
  unfold lcmpW; split
  · decide
  · first | decide | (rw [if_neg h]; decide)
theorem own_lcgt {a b : Int64} (h : b < a) : (0 : Int32) < lcmpW a b := by unfold lcmpW; rw [if_pos h]; decide
theorem own_lcngt {a b : Int64} (h : ¬ b < a) : ¬ (0 : Int32) < lcmpW a b := by unfold lcmpW; rw [if_neg h]; split <;> decide
theorem own_lclt {a b : Int64} (h : a < b) : lcmpW a b < (0 : Int32) := by
  have h1 : ¬ b < a := fun q => by rw [Int64.lt_iff_toInt_lt] at h q; omega
  have h2 : ¬ a = b := fun q => by subst q; rw [Int64.lt_iff_toInt_lt] at h; omega
  unfold lcmpW; rw [if_neg h1, if_neg h2]; decide
theorem own_lcnlt {a b : Int64} (h : ¬ a < b) : ¬ lcmpW a b < (0 : Int32) := by
  unfold lcmpW; split
  · decide
  · split
    · decide
    · rename_i h1 h2; exact absurd (Int64.toInt_inj.mp (by simp only [gt_iff_lt, Int64.lt_iff_toInt_lt] at h h1; omega)) h2
theorem own_kI {Z : State} {a0 : Array Value} {K : String} {n : Nat} (w : (Cond.instantiable K n).before a0 Z = true) : ∃ (t : ClassId) (kt : Class), Z.vm.findClass K = some t ∧ Z.vm.classes[t]? = some kt ∧ kt.kind = .ordinary ∧ kt.isInterface = false := by
  obtain ⟨c, k, h1, h2, h3, h4, -⟩ := Cond.instantiable_spec w
  exact ⟨c, k, h1, h2, h3, (Bool.or_eq_false_iff.mp h4).1⟩
theorem own_nsroot {Z : State} {a0 : Array Value} {O K : String} {n : Nat} (w : (Cond.noSuperclass O).before a0 Z = true) (wk : (Cond.instantiable K n).before a0 Z = true) (hn : O ≠ K) : NS Z O K := by
  obtain ⟨c, k, h1, h2, h3, -, -⟩ := Cond.noSuperclass_spec w
  obtain ⟨t, kt, g1, -⟩ := own_kI wk
  have ne := ids_ne h1 g1 hn
  refine ⟨c, t, h1, g1, fun fuel => ?_⟩
  cases fuel with
  | zero => rfl
  | succ f => simp [Vm.isSubclassAux, ne, h2, h3]
theorem own_nsno {Z : State} {a0 : Array Value} {D S K : String} {n : Nat} (w : (Cond.superclass D S).before a0 Z = true) (wk : (Cond.instantiable K n).before a0 Z = true) (ns : NS Z D K) (hn : D ≠ K) : ∃ c t, Z.vm.findClass D = some c ∧ Z.vm.findClass K = some t ∧ Z.vm.assignable c t = false := by
  obtain ⟨c, t, h0, g0, n3⟩ := ns
  obtain ⟨p, k, kp, h1, h2, h3, h4, h5, -, h7⟩ := Cond.superclass_spec h0 w
  obtain ⟨t', kt, g1, g2, g5, g7⟩ := own_kI wk
  cases g0.symm.trans g1
  have ne := ids_ne h0 g0 hn
  refine ⟨c, t, h0, g0, ?_⟩
  show Z.vm.assignableAux (255 + 1) c t = false
  simp [Vm.assignableAux, ne, h2, g2, h5, g5, g7, Vm.isSubclass, n3]
theorem own_neE {Z : State} {h : Heap} {a b : Addr} {D K : String} (A : Exa Z h a D) (B : Exa Z h b K) (hn : D ≠ K) : a ≠ b := fun e => by
  subst e
  obtain ⟨c, k, h1, h2, -⟩ := A
  obtain ⟨c', k', g1, g2, -⟩ := B
  cases h1.symm.trans g1
  exact ids_ne h2 g2 hn rfl
theorem own_mir {Z s : State} {args : Array Value} {D : String} {mr : Addr} (hZ : Z.Warmed39 s.vm) (M : Mir Z D mr) : (Term.mirror D).eval args s none [] s = some (.ref mr) := by
  obtain ⟨c, k, h1, h2, h3, -⟩ := M
  obtain ⟨k', q, ek⟩ := hZ.alike.2.2 _ _ h2
  have f : s.vm.findClass D = some c := by rw [hZ.alike.findClass]; exact h1
  have mk : k'.mirror = some mr := by rw [ek]; exact h3
  simp [Term.eval, f, q, mk]

theorem d3_0 : decode jdk_22_method_1_code 0 = .ok (.aload_n 0, 1) := by decide +kernel
theorem d3_1 : decode jdk_22_method_1_code 1 = .ok (.invokespecial 1, 3) := by decide +kernel
theorem d3_4 : decode jdk_22_method_1_code 4 = .ok (.return_, 1) := by decide +kernel
theorem pn_3 : plainName "java/util/AbstractCollection" = true := by first | (simp [plainName, overriddenIn]; done) | decide +kernel
theorem ef_rAC (m : MethodId) (a1 : Addr) : entryFrame m #[(.ref a1)] 1 = mkF m 0 #[.val (.ref a1)] [] := by first | (simp [entryFrame, mkF, argsToLocals, Value.category]; done) | rfl
def QrAC (Z : State) (a1 : Addr) (h0 : Heap) (n0 : Nat) (v : Option Value) (h : Heap) (L : List Loc) : Prop := v = none ∧ Fr n0 L ∧ h = h0
set_option maxRecDepth 65536 in
set_option maxHeartbeats 40000000 in
theorem rAC (l : Launch) (Z : State) (a0 : Array Value) (hw : ∀ d ∈ tables_1, d.before a0 Z = true) (ws : List Jvm.Cond) (a1 : Addr) (h0 : Heap) (n0 : Nat) (Z0 : n0 ≤ h0.size) :
    MetFree l (⟨"java/util/AbstractCollection", "<init>", "()V"⟩ : MethodName) (head1 (Jvm.Cond.code (⟨"java/util/AbstractCollection", "<init>", "()V"⟩ : MethodName) jdk_22_method_1_code 1 none :: ws) ({ frames := 1, cells := 0, slots := 0, locals := 12 } : Room)) (fun a U => a = #[(.ref a1)] ∧ Z.Warmed39 U.vm ∧ U.heap = h0) (fun _ _ _ _ _ => True) (fun _ U o U' => ∃ v L, o = .returned v ∧ QrAC Z a1 h0 n0 v U'.heap L ∧ FrameEnd U o U' L ({ frames := 1, cells := 0, slots := 0, locals := 12 } : Room).cells ({ frames := 1, cells := 0, slots := 0, locals := 12 } : Room).slots) := by
  refine MetFree.of_bodySF (plainFor_of_name pn_3) hisR ?_
  intro p e s m args below meth c s₁ Bd hml0 hP hK
  obtain ⟨rfl, hZ, hh⟩ := hP
  have hx := Bd.exec
  have hby := Bd.bytes
  have hml : c.maxLocals = 1 := hml0
  have hown : s.vm.findClass "java/util/AbstractCollection" = some m.cls := findClass_of_methodNamed Bd.named
  have hnm := (name_of_methodNamed Bd.named Bd.method).1
  have X0 : Stand p l e ({ frames := 1, cells := 0, slots := 0, locals := 12 } : Room) s m #[(.ref a1)] below meth c s₁ [] 0 0 := Stand.of_body Bd
  have e0 : s₁.heap = h0 := by rw [← hh, Bd.state]; rfl
  have N0 := Fr.nil n0
  have pre0 : ∀ t, Steps p.tables e below (s₁.setTop (mkF m 0 #[.val (.ref a1)] [])) t → Steps p.tables e below (s₁.setTop (entryFrame m #[(.ref a1)] 1)) t := fun t k => castTop (ef_rAC m a1) k
  obtain ⟨T1, X1, e1, st1⟩ := initO X0 hx hZ hown (hw _ (own_w 18 rfl)) (hw _ (own_w 19 rfl)) (hw _ (own_w 20 rfl)) e0 (g := (mkF m 1 #[.val (.ref a1)] [(.ref a1)])) rfl (by rw [hml]; rfl) rfl (hb hby d3_1) (by decide) (W := 0) (by show 2 * 0 + _ ≤ _; exact Nat.le_of_eq rfl) (by decide)
  obtain ⟨fs, hr, hrun, hended, hW, hsame⟩ := X1.leave (v := none) (fun _ => rfl) (BodyLoose.notSynchronized Bd)
  refine ⟨_, _, pre0 _ ?_, hrun, hended, _, _, rfl, ?_, ⟨_, rfl⟩, hW, hsame.mono (by decide) (by decide)⟩
  · show Steps p.tables e below (s₁.setTop (mkF m 0 #[.val (.ref a1)] [])) _
    refine XS.aloadN X0.here hx rfl (hb hby d3_0) rfl rfl ?_
    refine st1 _ ?_
    show Steps p.tables e below (T1.setTop (mkF m 4 #[.val (.ref a1)] [])) _
    exact X1.returnOut hx Bd.returns (hb hby d3_4) hr
  · show QrAC Z a1 h0 n0 _ T1.heap _
    exact ⟨rfl, N0, e1⟩
theorem d6_0 : decode jdk_30_method_1_code 0 = .ok (.aload_n 0, 1) := by decide +kernel
theorem d6_1 : decode jdk_30_method_1_code 1 = .ok (.invokespecial 1, 3) := by decide +kernel
theorem d6_4 : decode jdk_30_method_1_code 4 = .ok (.return_, 1) := by decide +kernel
theorem pn_6 : plainName "java/lang/Record" = true := by first | (simp [plainName, overriddenIn]; done) | decide +kernel
theorem ef_rRE (m : MethodId) (a1 : Addr) : entryFrame m #[(.ref a1)] 1 = mkF m 0 #[.val (.ref a1)] [] := by first | (simp [entryFrame, mkF, argsToLocals, Value.category]; done) | rfl
def QrRE (Z : State) (a1 : Addr) (h0 : Heap) (n0 : Nat) (v : Option Value) (h : Heap) (L : List Loc) : Prop := v = none ∧ Fr n0 L ∧ h = h0
set_option maxRecDepth 65536 in
set_option maxHeartbeats 40000000 in
theorem rRE (l : Launch) (Z : State) (a0 : Array Value) (hw : ∀ d ∈ tables_1, d.before a0 Z = true) (ws : List Jvm.Cond) (a1 : Addr) (h0 : Heap) (n0 : Nat) (Z0 : n0 ≤ h0.size) :
    MetFree l (⟨"java/lang/Record", "<init>", "()V"⟩ : MethodName) (head1 (Jvm.Cond.code (⟨"java/lang/Record", "<init>", "()V"⟩ : MethodName) jdk_30_method_1_code 1 none :: ws) ({ frames := 1, cells := 0, slots := 0, locals := 12 } : Room)) (fun a U => a = #[(.ref a1)] ∧ Z.Warmed39 U.vm ∧ U.heap = h0) (fun _ _ _ _ _ => True) (fun _ U o U' => ∃ v L, o = .returned v ∧ QrRE Z a1 h0 n0 v U'.heap L ∧ FrameEnd U o U' L ({ frames := 1, cells := 0, slots := 0, locals := 12 } : Room).cells ({ frames := 1, cells := 0, slots := 0, locals := 12 } : Room).slots) := by
  refine MetFree.of_bodySF (plainFor_of_name pn_6) hisR ?_
  intro p e s m args below meth c s₁ Bd hml0 hP hK
  obtain ⟨rfl, hZ, hh⟩ := hP
  have hx := Bd.exec
  have hby := Bd.bytes
  have hml : c.maxLocals = 1 := hml0
  have hown : s.vm.findClass "java/lang/Record" = some m.cls := findClass_of_methodNamed Bd.named
  have hnm := (name_of_methodNamed Bd.named Bd.method).1
  have X0 : Stand p l e ({ frames := 1, cells := 0, slots := 0, locals := 12 } : Room) s m #[(.ref a1)] below meth c s₁ [] 0 0 := Stand.of_body Bd
  have e0 : s₁.heap = h0 := by rw [← hh, Bd.state]; rfl
  have N0 := Fr.nil n0
  have pre0 : ∀ t, Steps p.tables e below (s₁.setTop (mkF m 0 #[.val (.ref a1)] [])) t → Steps p.tables e below (s₁.setTop (entryFrame m #[(.ref a1)] 1)) t := fun t k => castTop (ef_rRE m a1) k
  obtain ⟨T1, X1, e1, st1⟩ := initO X0 hx hZ hown (hw _ (own_w 37 rfl)) (hw _ (own_w 19 rfl)) (hw _ (own_w 20 rfl)) e0 (g := (mkF m 1 #[.val (.ref a1)] [(.ref a1)])) rfl (by rw [hml]; rfl) rfl (hb hby d6_1) (by decide) (W := 0) (by show 2 * 0 + _ ≤ _; exact Nat.le_of_eq rfl) (by decide)
  obtain ⟨fs, hr, hrun, hended, hW, hsame⟩ := X1.leave (v := none) (fun _ => rfl) (BodyLoose.notSynchronized Bd)
  refine ⟨_, _, pre0 _ ?_, hrun, hended, _, _, rfl, ?_, ⟨_, rfl⟩, hW, hsame.mono (by decide) (by decide)⟩
  · show Steps p.tables e below (s₁.setTop (mkF m 0 #[.val (.ref a1)] [])) _
    refine XS.aloadN X0.here hx rfl (hb hby d6_0) rfl rfl ?_
    refine st1 _ ?_
    show Steps p.tables e below (T1.setTop (mkF m 4 #[.val (.ref a1)] [])) _
    exact X1.returnOut hx Bd.returns (hb hby d6_4) hr
  · show QrRE Z a1 h0 n0 _ T1.heap _
    exact ⟨rfl, N0, e1⟩
theorem pd_0 : parseMethodDescriptor "()V" = some ⟨[], none⟩ := by decide +kernel
theorem d31_0 : decode jdk_47_method_1_code 0 = .ok (.aload_n 0, 1) := by decide +kernel
theorem d31_1 : decode jdk_47_method_1_code 1 = .ok (.invokespecial 1, 3) := by decide +kernel
theorem d31_4 : decode jdk_47_method_1_code 4 = .ok (.return_, 1) := by decide +kernel
theorem pn_31 : plainName "java/util/ImmutableCollections$AbstractImmutableCollection" = true := by first | (simp [plainName, overriddenIn]; done) | decide +kernel
theorem ef_rAI (m : MethodId) (a1 : Addr) : entryFrame m #[(.ref a1)] 1 = mkF m 0 #[.val (.ref a1)] [] := by first | (simp [entryFrame, mkF, argsToLocals, Value.category]; done) | rfl
def QrAI (Z : State) (a1 : Addr) (h0 : Heap) (n0 : Nat) (v : Option Value) (h : Heap) (L : List Loc) : Prop := v = none ∧ Fr n0 L ∧ h = h0
set_option maxRecDepth 65536 in
set_option maxHeartbeats 40000000 in
theorem rAI (l : Launch) (Z : State) (a0 : Array Value) (hw : ∀ d ∈ tables_1, d.before a0 Z = true) (ws : List Jvm.Cond) (a1 : Addr) (h0 : Heap) (n0 : Nat) (Z0 : n0 ≤ h0.size) :
    MetFree l (⟨"java/util/ImmutableCollections$AbstractImmutableCollection", "<init>", "()V"⟩ : MethodName) (head1 (Jvm.Cond.code (⟨"java/util/ImmutableCollections$AbstractImmutableCollection", "<init>", "()V"⟩ : MethodName) jdk_47_method_1_code 1 none :: ws) ({ frames := 2, cells := 0, slots := 0, locals := 24 } : Room)) (fun a U => a = #[(.ref a1)] ∧ Z.Warmed39 U.vm ∧ U.heap = h0) (fun _ _ _ _ _ => True) (fun _ U o U' => ∃ v L, o = .returned v ∧ QrAI Z a1 h0 n0 v U'.heap L ∧ FrameEnd U o U' L ({ frames := 2, cells := 0, slots := 0, locals := 24 } : Room).cells ({ frames := 2, cells := 0, slots := 0, locals := 24 } : Room).slots) := by
  refine MetFree.of_bodySF (plainFor_of_name pn_31) hisR ?_
  intro p e s m args below meth c s₁ Bd hml0 hP hK
  obtain ⟨rfl, hZ, hh⟩ := hP
  have hx := Bd.exec
  have hby := Bd.bytes
  have hml : c.maxLocals = 1 := hml0
  have hown : s.vm.findClass "java/util/ImmutableCollections$AbstractImmutableCollection" = some m.cls := findClass_of_methodNamed Bd.named
  have hnm := (name_of_methodNamed Bd.named Bd.method).1
  have X0 : Stand p l e ({ frames := 2, cells := 0, slots := 0, locals := 24 } : Room) s m #[(.ref a1)] below meth c s₁ [] 0 0 := Stand.of_body Bd
  have e0 : s₁.heap = h0 := by rw [← hh, Bd.state]; rfl
  have N0 := Fr.nil n0
  have pre0 : ∀ t, Steps p.tables e below (s₁.setTop (mkF m 0 #[.val (.ref a1)] [])) t → Steps p.tables e below (s₁.setTop (entryFrame m #[(.ref a1)] 1)) t := fun t k => castTop (ef_rAI m a1) k
  obtain ⟨_, _, ⟨T1, Lq1, kq1, nq1⟩, -, X1, ⟨Lc1, hQ1, lq1, yq1, zq1⟩, st1⟩ := X0.specialBack hx (y := (⟨"java/util/AbstractCollection", "<init>", "()V"⟩ : MethodName)) rfl hown (mvT hZ (hw _ (own_w 208 rfl))) (mvT hZ (hw _ (own_w 13 rfl))) (mvT hZ (hw _ (own_w 17 rfl))) (by decide) (backOf (W := 0) (rAC l Z a0 hw [] a1  h0 n0 Z0 ) hZ (hw _ (own_w 17 rfl)) (hw _ (own_w 16 rfl)) (by decide) (by decide)) (g := (mkF m 1 #[.val (.ref a1)] [(.ref a1)])) rfl (by rw [hml]; rfl) (Steps.refl _) (a := a1) (argsL := []) (rest := []) (lenOf pd_0 rfl) rfl (by show 2 * 0 + _ ≤ _; exact Nat.le_of_eq rfl) (hb hby d31_1) (fun _ _ => ⟨rfl, e0, (by decide : 0 + 0 ≤ _), (by decide : 0 + 0 ≤ _)⟩)
  dsimp only [Pt.U, Pt.locs, Pt.cells, Pt.slots] at X1 lq1 yq1 zq1 st1 hQ1
  subst lq1 yq1 zq1
  obtain ⟨rfl, N1q, e1⟩ := hQ1
  have N1 := Fr.app N0 N1q
  obtain ⟨fs, hr, hrun, hended, hW, hsame⟩ := X1.leave (v := none) (fun _ => rfl) (BodyLoose.notSynchronized Bd)
  refine ⟨_, _, pre0 _ ?_, hrun, hended, _, _, rfl, ?_, ⟨_, rfl⟩, hW, hsame.mono (by decide) (by decide)⟩
  · show Steps p.tables e below (s₁.setTop (mkF m 0 #[.val (.ref a1)] [])) _
    refine XS.aloadN X0.here hx rfl (hb hby d31_0) rfl rfl ?_
    refine st1.trans ?_
    show Steps p.tables e below (T1.setTop (mkF m 4 #[.val (.ref a1)] [])) _
    exact X1.returnOut hx Bd.returns (hb hby d31_4) hr
  · show QrAI Z a1 h0 n0 _ T1.heap _
    exact ⟨rfl, N1, e1⟩
theorem d30_0 : decode jdk_46_method_1_code 0 = .ok (.aload_n 0, 1) := by decide +kernel
theorem d30_1 : decode jdk_46_method_1_code 1 = .ok (.invokespecial 1, 3) := by decide +kernel
theorem d30_4 : decode jdk_46_method_1_code 4 = .ok (.return_, 1) := by decide +kernel
theorem pn_30 : plainName "java/util/ImmutableCollections$AbstractImmutableList" = true := by first | (simp [plainName, overriddenIn]; done) | decide +kernel
theorem ef_rAJ (m : MethodId) (a1 : Addr) : entryFrame m #[(.ref a1)] 1 = mkF m 0 #[.val (.ref a1)] [] := by first | (simp [entryFrame, mkF, argsToLocals, Value.category]; done) | rfl
def QrAJ (Z : State) (a1 : Addr) (h0 : Heap) (n0 : Nat) (v : Option Value) (h : Heap) (L : List Loc) : Prop := v = none ∧ Fr n0 L ∧ h = h0
set_option maxRecDepth 65536 in
set_option maxHeartbeats 40000000 in
theorem rAJ (l : Launch) (Z : State) (a0 : Array Value) (hw : ∀ d ∈ tables_1, d.before a0 Z = true) (ws : List Jvm.Cond) (a1 : Addr) (h0 : Heap) (n0 : Nat) (Z0 : n0 ≤ h0.size) :
    MetFree l (⟨"java/util/ImmutableCollections$AbstractImmutableList", "<init>", "()V"⟩ : MethodName) (head1 (Jvm.Cond.code (⟨"java/util/ImmutableCollections$AbstractImmutableList", "<init>", "()V"⟩ : MethodName) jdk_46_method_1_code 1 none :: ws) ({ frames := 3, cells := 0, slots := 0, locals := 36 } : Room)) (fun a U => a = #[(.ref a1)] ∧ Z.Warmed39 U.vm ∧ U.heap = h0) (fun _ _ _ _ _ => True) (fun _ U o U' => ∃ v L, o = .returned v ∧ QrAJ Z a1 h0 n0 v U'.heap L ∧ FrameEnd U o U' L ({ frames := 3, cells := 0, slots := 0, locals := 36 } : Room).cells ({ frames := 3, cells := 0, slots := 0, locals := 36 } : Room).slots) := by
  refine MetFree.of_bodySF (plainFor_of_name pn_30) hisR ?_
  intro p e s m args below meth c s₁ Bd hml0 hP hK
  obtain ⟨rfl, hZ, hh⟩ := hP
  have hx := Bd.exec
  have hby := Bd.bytes
  have hml : c.maxLocals = 1 := hml0
  have hown : s.vm.findClass "java/util/ImmutableCollections$AbstractImmutableList" = some m.cls := findClass_of_methodNamed Bd.named
  have hnm := (name_of_methodNamed Bd.named Bd.method).1
  have X0 : Stand p l e ({ frames := 3, cells := 0, slots := 0, locals := 36 } : Room) s m #[(.ref a1)] below meth c s₁ [] 0 0 := Stand.of_body Bd
  have e0 : s₁.heap = h0 := by rw [← hh, Bd.state]; rfl
  have N0 := Fr.nil n0
  have pre0 : ∀ t, Steps p.tables e below (s₁.setTop (mkF m 0 #[.val (.ref a1)] [])) t → Steps p.tables e below (s₁.setTop (entryFrame m #[(.ref a1)] 1)) t := fun t k => castTop (ef_rAJ m a1) k
  obtain ⟨_, _, ⟨T1, Lq1, kq1, nq1⟩, -, X1, ⟨Lc1, hQ1, lq1, yq1, zq1⟩, st1⟩ := X0.specialBack hx (y := (⟨"java/util/ImmutableCollections$AbstractImmutableCollection", "<init>", "()V"⟩ : MethodName)) rfl hown (mvT hZ (hw _ (own_w 202 rfl))) (mvT hZ (hw _ (own_w 203 rfl))) (mvT hZ (hw _ (own_w 207 rfl))) (by decide) (backOf (W := 0) (rAI l Z a0 hw [] a1  h0 n0 Z0 ) hZ (hw _ (own_w 207 rfl)) (hw _ (own_w 206 rfl)) (by decide) (by decide)) (g := (mkF m 1 #[.val (.ref a1)] [(.ref a1)])) rfl (by rw [hml]; rfl) (Steps.refl _) (a := a1) (argsL := []) (rest := []) (lenOf pd_0 rfl) rfl (by show 2 * 0 + _ ≤ _; exact Nat.le_of_eq rfl) (hb hby d30_1) (fun _ _ => ⟨rfl, e0, (by decide : 0 + 0 ≤ _), (by decide : 0 + 0 ≤ _)⟩)
  dsimp only [Pt.U, Pt.locs, Pt.cells, Pt.slots] at X1 lq1 yq1 zq1 st1 hQ1
  subst lq1 yq1 zq1
  obtain ⟨rfl, N1q, e1⟩ := hQ1
  have N1 := Fr.app N0 N1q
  obtain ⟨fs, hr, hrun, hended, hW, hsame⟩ := X1.leave (v := none) (fun _ => rfl) (BodyLoose.notSynchronized Bd)
  refine ⟨_, _, pre0 _ ?_, hrun, hended, _, _, rfl, ?_, ⟨_, rfl⟩, hW, hsame.mono (by decide) (by decide)⟩
  · show Steps p.tables e below (s₁.setTop (mkF m 0 #[.val (.ref a1)] [])) _
    refine XS.aloadN X0.here hx rfl (hb hby d30_0) rfl rfl ?_
    refine st1.trans ?_
    show Steps p.tables e below (T1.setTop (mkF m 4 #[.val (.ref a1)] [])) _
    exact X1.returnOut hx Bd.returns (hb hby d30_4) hr
  · show QrAJ Z a1 h0 n0 _ T1.heap _
    exact ⟨rfl, N1, e1⟩
theorem d2_0 : decode jdk_39_method_1_code 0 = .ok (.aload_n 0, 1) := by decide +kernel
theorem d2_1 : decode jdk_39_method_1_code 1 = .ok (.invokespecial 1, 3) := by decide +kernel
theorem d2_4 : decode jdk_39_method_1_code 4 = .ok (.aload_n 0, 1) := by decide +kernel
theorem d2_5 : decode jdk_39_method_1_code 5 = .ok (.iconst 0, 1) := by decide +kernel
theorem d2_6 : decode jdk_39_method_1_code 6 = .ok (.putfield 7, 3) := by decide +kernel
theorem d2_9 : decode jdk_39_method_1_code 9 = .ok (.return_, 1) := by decide +kernel
theorem pn_2 : plainName "java/util/AbstractList" = true := by first | (simp [plainName, overriddenIn]; done) | decide +kernel
theorem ef_rAL (m : MethodId) (a1 : Addr) : entryFrame m #[(.ref a1)] 1 = mkF m 0 #[.val (.ref a1)] [] := by first | (simp [entryFrame, mkF, argsToLocals, Value.category]; done) | rfl
def QrAL (Z : State) (a1 : Addr) (h0 : Heap) (n0 : Nat) (v : Option Value) (h : Heap) (L : List Loc) : Prop := v = none ∧ Fr n0 L ∧ Keep h0 h [a1] ∧ Exa Z h a1 "java/util/ArrayList" ∧ Fld Z h a1 "java/util/AbstractList" "modCount" "I" (.int (0 : Int32)) ∧ Fld Z h a1 "java/util/ArrayList" "elementData" "[Ljava/lang/Object;" .null ∧ Fld Z h a1 "java/util/ArrayList" "size" "I" (.int (0 : Int32))
set_option maxRecDepth 65536 in
set_option maxHeartbeats 40000000 in
theorem rAL (l : Launch) (Z : State) (a0 : Array Value) (hw : ∀ d ∈ tables_1, d.before a0 Z = true) (ws : List Jvm.Cond) (a1 : Addr) (h0 : Heap) (n0 : Nat) (Z0 : n0 ≤ h0.size) (E : Exa Z h0 a1 "java/util/ArrayList") (FM : Fld Z h0 a1 "java/util/AbstractList" "modCount" "I" (.int (0 : Int32))) (FE : Fld Z h0 a1 "java/util/ArrayList" "elementData" "[Ljava/lang/Object;" .null) (FZ : Fld Z h0 a1 "java/util/ArrayList" "size" "I" (.int (0 : Int32))) (ga : n0 ≤ a1) :
    MetFree l (⟨"java/util/AbstractList", "<init>", "()V"⟩ : MethodName) (head1 (Jvm.Cond.code (⟨"java/util/AbstractList", "<init>", "()V"⟩ : MethodName) jdk_39_method_1_code 1 none :: ws) ({ frames := 2, cells := 0, slots := 0, locals := 24 } : Room)) (fun a U => a = #[(.ref a1)] ∧ Z.Warmed39 U.vm ∧ U.heap = h0) (fun _ _ _ _ _ => True) (fun _ U o U' => ∃ v L, o = .returned v ∧ QrAL Z a1 h0 n0 v U'.heap L ∧ FrameEnd U o U' L ({ frames := 2, cells := 0, slots := 0, locals := 24 } : Room).cells ({ frames := 2, cells := 0, slots := 0, locals := 24 } : Room).slots) := by
  refine MetFree.of_bodySF (plainFor_of_name pn_2) hisR ?_
  intro p e s m args below meth c s₁ Bd hml0 hP hK
  obtain ⟨rfl, hZ, hh⟩ := hP
  have hx := Bd.exec
  have hby := Bd.bytes
  have hml : c.maxLocals = 1 := hml0
  have hown : s.vm.findClass "java/util/AbstractList" = some m.cls := findClass_of_methodNamed Bd.named
  have hnm := (name_of_methodNamed Bd.named Bd.method).1
  have X0 : Stand p l e ({ frames := 2, cells := 0, slots := 0, locals := 24 } : Room) s m #[(.ref a1)] below meth c s₁ [] 0 0 := Stand.of_body Bd
  have e0 : s₁.heap = h0 := by rw [← hh, Bd.state]; rfl
  have N0 := Fr.nil n0
  have pre0 : ∀ t, Steps p.tables e below (s₁.setTop (mkF m 0 #[.val (.ref a1)] [])) t → Steps p.tables e below (s₁.setTop (entryFrame m #[(.ref a1)] 1)) t := fun t k => castTop (ef_rAL m a1) k
  obtain ⟨_, _, ⟨T1, Lq1, kq1, nq1⟩, -, X1, ⟨Lc1, hQ1, lq1, yq1, zq1⟩, st1⟩ := X0.specialBack hx (y := (⟨"java/util/AbstractCollection", "<init>", "()V"⟩ : MethodName)) rfl hown (mvT hZ (hw _ (own_w 12 rfl))) (mvT hZ (hw _ (own_w 13 rfl))) (mvT hZ (hw _ (own_w 17 rfl))) (by decide) (backOf (W := 0) (rAC l Z a0 hw [] a1  h0 n0 Z0 ) hZ (hw _ (own_w 17 rfl)) (hw _ (own_w 16 rfl)) (by decide) (by decide)) (g := (mkF m 1 #[.val (.ref a1)] [(.ref a1)])) rfl (by rw [hml]; rfl) (Steps.refl _) (a := a1) (argsL := []) (rest := []) (lenOf pd_0 rfl) rfl (by show 2 * 0 + _ ≤ _; exact Nat.le_of_eq rfl) (hb hby d2_1) (fun _ _ => ⟨rfl, e0, (by decide : 0 + 0 ≤ _), (by decide : 0 + 0 ≤ _)⟩)
  dsimp only [Pt.U, Pt.locs, Pt.cells, Pt.slots] at X1 lq1 yq1 zq1 st1 hQ1
  subst lq1 yq1 zq1
  obtain ⟨rfl, N1q, e1⟩ := hQ1
  have N1 := Fr.app N0 N1q
  obtain ⟨T2, h2, X2, e2, W2, st2⟩ := putF X1 hx hZ hown (host := "") (Or.inl (hw _ (own_w 21 rfl))) Via.refl e1 FM E (Or.inl (hw _ (own_w 22 rfl))) (hw _ (own_w 1 rfl)) (ty := .int) (by decide) rfl rfl (g := (mkF m 6 #[.val (.ref a1)] [(.int (0 : Int32)), (.ref a1)])) rfl rfl (hb hby d2_6)
  have N2 := Fr.snoc X2 N1 ga
  have Z2 : n0 ≤ h2.size := by rw [W2.size]; exact Z0
  have K2 : Keep h0 h2 [a1] := (Keep.refl h0 [a1]).wr W2 (Or.inl (own_w 0 rfl))
  have Fw2 := FM.same W2
  obtain ⟨fs, hr, hrun, hended, hW, hsame⟩ := X2.leave (v := none) (fun _ => rfl) (BodyLoose.notSynchronized Bd)
  refine ⟨_, _, pre0 _ ?_, hrun, hended, _, _, rfl, ?_, ⟨_, rfl⟩, hW, hsame.mono (by decide) (by decide)⟩
  · show Steps p.tables e below (s₁.setTop (mkF m 0 #[.val (.ref a1)] [])) _
    refine XS.aloadN X0.here hx rfl (hb hby d2_0) rfl rfl ?_
    refine st1.trans ?_
    refine XS.aloadN X1.here hx rfl (hb hby d2_4) rfl rfl ?_
    refine XS.iconst X1.here hx rfl (hb hby d2_5) ?_
    refine st2 _ ?_
    show Steps p.tables e below (T2.setTop (mkF m 9 #[.val (.ref a1)] [])) _
    exact X2.returnOut hx Bd.returns (hb hby d2_9) hr
  · show QrAL Z a1 h0 n0 _ T2.heap _
    have f3 := (E.wr W2)
    have f4 := (FE.other W2 (Or.inr (slot_ne (Or.inl (hw _ (own_w 25 rfl))) (Or.inl (hw _ (own_w 22 rfl))) (by decide) (t := (.array (.object "java/lang/Object"))) (t' := .int) (by decide) (by decide))))
    have f5 := (FZ.other W2 (Or.inr (slot_ne (Or.inl (hw _ (own_w 62 rfl))) (Or.inl (hw _ (own_w 22 rfl))) (by decide) (t := .int) (t' := .int) (by decide) (by decide))))
    rw [e2]
    exact ⟨rfl, N2, K2, f3, Fw2, f4, f5⟩
theorem d1_0 : decode jdk_38_method_2_code 0 = .ok (.aload_n 0, 1) := by decide +kernel
theorem d1_1 : decode jdk_38_method_2_code 1 = .ok (.invokespecial 1, 3) := by decide +kernel
theorem d1_4 : decode jdk_38_method_2_code 4 = .ok (.aload_n 0, 1) := by decide +kernel
theorem d1_5 : decode jdk_38_method_2_code 5 = .ok (.getstatic 39, 3) := by decide +kernel
theorem d1_8 : decode jdk_38_method_2_code 8 = .ok (.putfield 9, 3) := by decide +kernel
theorem d1_11 : decode jdk_38_method_2_code 11 = .ok (.return_, 1) := by decide +kernel
theorem pn_1 : plainName "java/util/ArrayList" = true := by first | (simp [plainName, overriddenIn]; done) | decide +kernel
theorem ef_rA1 (m : MethodId) (a1 : Addr) : entryFrame m #[(.ref a1)] 1 = mkF m 0 #[.val (.ref a1)] [] := by first | (simp [entryFrame, mkF, argsToLocals, Value.category]; done) | rfl
def QrA1 (Z : State) (a1 : Addr) (d0 : Addr) (h0 : Heap) (n0 : Nat) (v : Option Value) (h : Heap) (L : List Loc) : Prop := v = none ∧ Fr n0 L ∧ Keep h0 h [a1] ∧ Exa Z h a1 "java/util/ArrayList" ∧ Fld Z h a1 "java/util/AbstractList" "modCount" "I" (.int (0 : Int32)) ∧ Fld Z h a1 "java/util/ArrayList" "elementData" "[Ljava/lang/Object;" (.ref d0) ∧ Fld Z h a1 "java/util/ArrayList" "size" "I" (.int (0 : Int32))
set_option maxRecDepth 65536 in
set_option maxHeartbeats 40000000 in
theorem rA1 (l : Launch) (Z : State) (a0 : Array Value) (hw : ∀ d ∈ tables_1, d.before a0 Z = true) (ws : List Jvm.Cond) (a1 : Addr) (d0 : Addr) (h0 : Heap) (n0 : Nat) (Z0 : n0 ≤ h0.size) (E : Exa Z h0 a1 "java/util/ArrayList") (FM : Fld Z h0 a1 "java/util/AbstractList" "modCount" "I" (.int (0 : Int32))) (FE : Fld Z h0 a1 "java/util/ArrayList" "elementData" "[Ljava/lang/Object;" .null) (FZ : Fld Z h0 a1 "java/util/ArrayList" "size" "I" (.int (0 : Int32))) (ga : n0 ≤ a1) (X00 : Old Z n0 h0) (O_D : Sta Z Z.heap "java/util/ArrayList" "DEFAULTCAPACITY_EMPTY_ELEMENTDATA" "[Ljava/lang/Object;" (.ref d0)) :
    MetFree l (⟨"java/util/ArrayList", "<init>", "()V"⟩ : MethodName) (head1 (Jvm.Cond.code (⟨"java/util/ArrayList", "<init>", "()V"⟩ : MethodName) jdk_38_method_2_code 1 none :: ws) ({ frames := 3, cells := 0, slots := 0, locals := 36 } : Room)) (fun a U => a = #[(.ref a1)] ∧ Z.Warmed39 U.vm ∧ U.heap = h0) (fun _ _ _ _ _ => True) (fun _ U o U' => ∃ v L, o = .returned v ∧ QrA1 Z a1 d0 h0 n0 v U'.heap L ∧ FrameEnd U o U' L ({ frames := 3, cells := 0, slots := 0, locals := 36 } : Room).cells ({ frames := 3, cells := 0, slots := 0, locals := 36 } : Room).slots) := by
  refine MetFree.of_bodySF (plainFor_of_name pn_1) hisR ?_
  intro p e s m args below meth c s₁ Bd hml0 hP hK
  obtain ⟨rfl, hZ, hh⟩ := hP
  have hx := Bd.exec
  have hby := Bd.bytes
  have hml : c.maxLocals = 1 := hml0
  have hown : s.vm.findClass "java/util/ArrayList" = some m.cls := findClass_of_methodNamed Bd.named
  have hnm := (name_of_methodNamed Bd.named Bd.method).1
  have X0 : Stand p l e ({ frames := 3, cells := 0, slots := 0, locals := 36 } : Room) s m #[(.ref a1)] below meth c s₁ [] 0 0 := Stand.of_body Bd
  have e0 : s₁.heap = h0 := by rw [← hh, Bd.state]; rfl
  have N0 := Fr.nil n0
  have pre0 : ∀ t, Steps p.tables e below (s₁.setTop (mkF m 0 #[.val (.ref a1)] [])) t → Steps p.tables e below (s₁.setTop (entryFrame m #[(.ref a1)] 1)) t := fun t k => castTop (ef_rA1 m a1) k
  obtain ⟨_, _, ⟨T1, Lq1, kq1, nq1⟩, -, X1, ⟨Lc1, hQ1, lq1, yq1, zq1⟩, st1⟩ := X0.specialBack hx (y := (⟨"java/util/AbstractList", "<init>", "()V"⟩ : MethodName)) rfl hown (mvT hZ (hw _ (own_w 6 rfl))) (mvT hZ (hw _ (own_w 7 rfl))) (mvT hZ (hw _ (own_w 11 rfl))) (by decide) (backOf (W := 0) (rAL l Z a0 hw [] a1  h0 n0 Z0 E FM FE FZ ga) hZ (hw _ (own_w 11 rfl)) (hw _ (own_w 10 rfl)) (by decide) (by decide)) (g := (mkF m 1 #[.val (.ref a1)] [(.ref a1)])) rfl (by rw [hml]; rfl) (Steps.refl _) (a := a1) (argsL := []) (rest := []) (lenOf pd_0 rfl) rfl (by show 2 * 0 + _ ≤ _; exact Nat.le_of_eq rfl) (hb hby d1_1) (fun _ _ => ⟨rfl, e0, (by decide : 0 + 0 ≤ _), (by decide : 0 + 0 ≤ _)⟩)
  dsimp only [Pt.U, Pt.locs, Pt.cells, Pt.slots] at X1 lq1 yq1 zq1 st1 hQ1
  subst lq1 yq1 zq1
  obtain ⟨rfl, N1q, KC1, u1⟩ := hQ1
  have N1 := Fr.app N0 N1q
  have Z1 : n0 ≤ T1.heap.size := Nat.le_trans Z0 KC1.1
  have K1 : Keep h0 T1.heap [a1] := (Keep.refl h0 [a1]).trans KC1 (allS (Or.inl (own_w 0 rfl)) all0)
  obtain ⟨E1', FM1', FE1', FZ1'⟩ := u1
  have f2 := (X00.keep KC1 (allS ga all0))
  obtain ⟨T3, X3, e3, st3⟩ := getS2 X1 hx hZ hown (host := "") (Or.inl (hw _ (own_w 23 rfl))) Via.refl rfl (O_D.ext f2.2) (g := (mkF m 5 #[.val (.ref a1)] [(.ref a1)])) rfl (hb hby d1_5)
  obtain ⟨T4, h4, X4, e4, W4, st4⟩ := putF X3 hx hZ hown (host := "") (Or.inl (hw _ (own_w 24 rfl))) Via.refl e3 FE1' E1' (Or.inl (hw _ (own_w 25 rfl))) (hw _ (own_w 1 rfl)) (ty := (.array (.object "java/lang/Object"))) (by decide) rfl rfl (g := (mkF m 8 #[.val (.ref a1)] [(.ref d0), (.ref a1)])) rfl rfl (hb hby d1_8)
  have N4 := Fr.snoc X4 N1 ga
  have Z4 : n0 ≤ h4.size := by rw [W4.size]; exact Z1
  have K4 : Keep h0 h4 [a1] := K1.wr W4 (Or.inl (own_w 0 rfl))
  have Fw4 := FE1'.same W4
  obtain ⟨fs, hr, hrun, hended, hW, hsame⟩ := X4.leave (v := none) (fun _ => rfl) (BodyLoose.notSynchronized Bd)
  refine ⟨_, _, pre0 _ ?_, hrun, hended, _, _, rfl, ?_, ⟨_, rfl⟩, hW, hsame.mono (by decide) (by decide)⟩
  · show Steps p.tables e below (s₁.setTop (mkF m 0 #[.val (.ref a1)] [])) _
    refine XS.aloadN X0.here hx rfl (hb hby d1_0) rfl rfl ?_
    refine st1.trans ?_
    refine XS.aloadN X1.here hx rfl (hb hby d1_4) rfl rfl ?_
    refine st3 _ ?_
    refine st4 _ ?_
    show Steps p.tables e below (T4.setTop (mkF m 11 #[.val (.ref a1)] [])) _
    exact X4.returnOut hx Bd.returns (hb hby d1_11) hr
  · show QrA1 Z a1 d0 h0 n0 _ T4.heap _
    have f5 := (E1'.wr W4)
    have f6 := (FM1'.other W4 (Or.inr (slot_ne (Or.inl (hw _ (own_w 22 rfl))) (Or.inl (hw _ (own_w 25 rfl))) (by decide) (t := .int) (t' := (.array (.object "java/lang/Object"))) (by decide) (by decide))))
    have f7 := (FZ1'.other W4 (Or.inr (slot_ne (Or.inl (hw _ (own_w 62 rfl))) (Or.inl (hw _ (own_w 25 rfl))) (by decide) (t := .int) (t' := (.array (.object "java/lang/Object"))) (by decide) (by decide))))
    rw [e4]
    exact ⟨rfl, N4, K4, f5, f6, Fw4, f7⟩
theorem d9_0 : decode jdk_38_method_9_code 0 = .ok (.aload_n 0, 1) := by decide +kernel
theorem d9_1 : decode jdk_38_method_9_code 1 = .ok (.getfield 48, 3) := by decide +kernel
theorem d9_4 : decode jdk_38_method_9_code 4 = .ok (.ifCond .ne 7, 3) := by decide +kernel
theorem d9_7 : decode jdk_38_method_9_code 7 = .ok (.iconst 1, 1) := by decide +kernel
theorem d9_8 : decode jdk_38_method_9_code 8 = .ok (.goto 4, 3) := by decide +kernel
theorem d9_12 : decode jdk_38_method_9_code 12 = .ok (.ireturn, 1) := by decide +kernel
theorem pn_9 : plainName "java/util/ArrayList" = true := by first | (simp [plainName, overriddenIn]; done) | decide +kernel
theorem ef_rE0 (m : MethodId) (a1 : Addr) : entryFrame m #[(.ref a1)] 1 = mkF m 0 #[.val (.ref a1)] [] := by first | (simp [entryFrame, mkF, argsToLocals, Value.category]; done) | rfl
def QrE0 (Z : State) (a1 : Addr) (h0 : Heap) (n0 : Nat) (v : Option Value) (h : Heap) (L : List Loc) : Prop := ∃ z : Int32, z = ((1 : Int32)) ∧ v = some (.int z) ∧ Fr n0 L ∧ h = h0
set_option maxRecDepth 65536 in
set_option maxHeartbeats 40000000 in
theorem rE0 (l : Launch) (Z : State) (a0 : Array Value) (hw : ∀ d ∈ tables_1, d.before a0 Z = true) (ws : List Jvm.Cond) (a1 : Addr) (h0 : Heap) (n0 : Nat) (Z0 : n0 ≤ h0.size) (FZ : Fld Z h0 a1 "java/util/ArrayList" "size" "I" (.int (0 : Int32))) :
    MetFree l (⟨"java/util/ArrayList", "isEmpty", "()Z"⟩ : MethodName) (head1 (Jvm.Cond.code (⟨"java/util/ArrayList", "isEmpty", "()Z"⟩ : MethodName) jdk_38_method_9_code 1 (some .boolean) :: ws) ({ frames := 0, cells := 0, slots := 0, locals := 0 } : Room)) (fun a U => a = #[(.ref a1)] ∧ Z.Warmed39 U.vm ∧ U.heap = h0) (fun _ _ _ _ _ => True) (fun _ U o U' => ∃ v L, o = .returned v ∧ QrE0 Z a1 h0 n0 v U'.heap L ∧ FrameEnd U o U' L ({ frames := 0, cells := 0, slots := 0, locals := 0 } : Room).cells ({ frames := 0, cells := 0, slots := 0, locals := 0 } : Room).slots) := by
  refine MetFree.of_bodySF (plainFor_of_name pn_9) hisR ?_
  intro p e s m args below meth c s₁ Bd hml0 hP hK
  obtain ⟨rfl, hZ, hh⟩ := hP
  have hx := Bd.exec
  have hby := Bd.bytes
  have hml : c.maxLocals = 1 := hml0
  have hown : s.vm.findClass "java/util/ArrayList" = some m.cls := findClass_of_methodNamed Bd.named
  have hnm := (name_of_methodNamed Bd.named Bd.method).1
  have X0 : Stand p l e ({ frames := 0, cells := 0, slots := 0, locals := 0 } : Room) s m #[(.ref a1)] below meth c s₁ [] 0 0 := Stand.of_body Bd
  have e0 : s₁.heap = h0 := by rw [← hh, Bd.state]; rfl
  have N0 := Fr.nil n0
  have pre0 : ∀ t, Steps p.tables e below (s₁.setTop (mkF m 0 #[.val (.ref a1)] [])) t → Steps p.tables e below (s₁.setTop (entryFrame m #[(.ref a1)] 1)) t := fun t k => castTop (ef_rE0 m a1) k
  obtain ⟨T1, X1, e1, st1⟩ := getF X0 hx hZ hown (host := "") (Or.inl (hw _ (own_w 61 rfl))) Via.refl e0 FZ (g := (mkF m 1 #[.val (.ref a1)] [(.ref a1)])) rfl rfl (hb hby d9_1)
  obtain ⟨fs, hr, hrun, hended, hW, hsame⟩ := X1.leave (v := some (.int (1 : Int32))) (fun h => by rw [Bd.returns] at h; cases h) (BodyLoose.notSynchronized Bd)
  refine ⟨_, _, pre0 _ ?_, hrun, hended, _, _, rfl, ?_, ⟨_, rfl⟩, hW, hsame.mono (by decide) (by decide)⟩
  · show Steps p.tables e below (s₁.setTop (mkF m 0 #[.val (.ref a1)] [])) _
    refine XS.aloadN X0.here hx rfl (hb hby d9_0) rfl rfl ?_
    refine st1 _ ?_
    refine XS.ifNo X1.here hx rfl (hb hby d9_4) rfl ((if0 _ _).trans (teq (by decide)).2) ?_
    refine XS.iconst X1.here hx rfl (hb hby d9_7) ?_
    refine XS.goto X1.here hx rfl (pc0 := 8) (pc' := 12) rfl (hb hby d9_8) (by decide) (by decide) ?_
    show Steps p.tables e below (T1.setTop (mkF m 12 #[.val (.ref a1)] [(.int (1 : Int32))])) _
    exact retN X1 hx (t := .boolean) Bd.returns (by simp) (hb hby d9_12) hr
  · show QrE0 Z a1 h0 n0 _ T1.heap _
    exact ⟨_, rfl, rfl, N0, e1⟩
theorem d9_11 : decode jdk_38_method_9_code 11 = .ok (.iconst 0, 1) := by decide +kernel
theorem ef_rE1 (m : MethodId) (a1 : Addr) : entryFrame m #[(.ref a1)] 1 = mkF m 0 #[.val (.ref a1)] [] := by first | (simp [entryFrame, mkF, argsToLocals, Value.category]; done) | rfl
def QrE1 (Z : State) (a1 : Addr) (h0 : Heap) (n0 : Nat) (v : Option Value) (h : Heap) (L : List Loc) : Prop := ∃ z : Int32, z = ((0 : Int32)) ∧ v = some (.int z) ∧ Fr n0 L ∧ h = h0
set_option maxRecDepth 65536 in
set_option maxHeartbeats 40000000 in
theorem rE1 (l : Launch) (Z : State) (a0 : Array Value) (hw : ∀ d ∈ tables_1, d.before a0 Z = true) (ws : List Jvm.Cond) (a1 : Addr) (h0 : Heap) (n0 : Nat) (Z0 : n0 ≤ h0.size) (FZ : Fld Z h0 a1 "java/util/ArrayList" "size" "I" (.int (1 : Int32))) :
    MetFree l (⟨"java/util/ArrayList", "isEmpty", "()Z"⟩ : MethodName) (head1 (Jvm.Cond.code (⟨"java/util/ArrayList", "isEmpty", "()Z"⟩ : MethodName) jdk_38_method_9_code 1 (some .boolean) :: ws) ({ frames := 0, cells := 0, slots := 0, locals := 0 } : Room)) (fun a U => a = #[(.ref a1)] ∧ Z.Warmed39 U.vm ∧ U.heap = h0) (fun _ _ _ _ _ => True) (fun _ U o U' => ∃ v L, o = .returned v ∧ QrE1 Z a1 h0 n0 v U'.heap L ∧ FrameEnd U o U' L ({ frames := 0, cells := 0, slots := 0, locals := 0 } : Room).cells ({ frames := 0, cells := 0, slots := 0, locals := 0 } : Room).slots) := by
  refine MetFree.of_bodySF (plainFor_of_name pn_9) hisR ?_
  intro p e s m args below meth c s₁ Bd hml0 hP hK
  obtain ⟨rfl, hZ, hh⟩ := hP
  have hx := Bd.exec
  have hby := Bd.bytes
  have hml : c.maxLocals = 1 := hml0
  have hown : s.vm.findClass "java/util/ArrayList" = some m.cls := findClass_of_methodNamed Bd.named
  have hnm := (name_of_methodNamed Bd.named Bd.method).1
  have X0 : Stand p l e ({ frames := 0, cells := 0, slots := 0, locals := 0 } : Room) s m #[(.ref a1)] below meth c s₁ [] 0 0 := Stand.of_body Bd
  have e0 : s₁.heap = h0 := by rw [← hh, Bd.state]; rfl
  have N0 := Fr.nil n0
  have pre0 : ∀ t, Steps p.tables e below (s₁.setTop (mkF m 0 #[.val (.ref a1)] [])) t → Steps p.tables e below (s₁.setTop (entryFrame m #[(.ref a1)] 1)) t := fun t k => castTop (ef_rE1 m a1) k
  obtain ⟨T1, X1, e1, st1⟩ := getF X0 hx hZ hown (host := "") (Or.inl (hw _ (own_w 61 rfl))) Via.refl e0 FZ (g := (mkF m 1 #[.val (.ref a1)] [(.ref a1)])) rfl rfl (hb hby d9_1)
  obtain ⟨fs, hr, hrun, hended, hW, hsame⟩ := X1.leave (v := some (.int (0 : Int32))) (fun h => by rw [Bd.returns] at h; cases h) (BodyLoose.notSynchronized Bd)
  refine ⟨_, _, pre0 _ ?_, hrun, hended, _, _, rfl, ?_, ⟨_, rfl⟩, hW, hsame.mono (by decide) (by decide)⟩
  · show Steps p.tables e below (s₁.setTop (mkF m 0 #[.val (.ref a1)] [])) _
    refine XS.aloadN X0.here hx rfl (hb hby d9_0) rfl rfl ?_
    refine st1 _ ?_
    refine XS.ifYes X1.here hx rfl (pc0 := 4) (pc' := 11) rfl (hb hby d9_4) rfl ((if0 _ _).trans (feq (by decide)).2) (by decide) (by decide) ?_
    refine XS.iconst X1.here hx rfl (hb hby d9_11) ?_
    show Steps p.tables e below (T1.setTop (mkF m 12 #[.val (.ref a1)] [(.int (0 : Int32))])) _
    exact retN X1 hx (t := .boolean) Bd.returns (by simp) (hb hby d9_12) hr
  · show QrE1 Z a1 h0 n0 _ T1.heap _
    exact ⟨_, rfl, rfl, N0, e1⟩
theorem d33_0 : decode jdk_45_method_2_code 0 = .ok (.aload_n 0, 1) := by decide +kernel
theorem d33_1 : decode jdk_45_method_2_code 1 = .ok (.getfield 7, 3) := by decide +kernel
theorem d33_4 : decode jdk_45_method_2_code 4 = .ok (.arraylength, 1) := by decide +kernel
theorem d33_5 : decode jdk_45_method_2_code 5 = .ok (.ifCond .ne 7, 3) := by decide +kernel
theorem d33_8 : decode jdk_45_method_2_code 8 = .ok (.iconst 1, 1) := by decide +kernel
theorem d33_9 : decode jdk_45_method_2_code 9 = .ok (.goto 4, 3) := by decide +kernel
theorem d33_13 : decode jdk_45_method_2_code 13 = .ok (.ireturn, 1) := by decide +kernel
theorem pn_33 : plainName "java/util/ImmutableCollections$ListN" = true := by first | (simp [plainName, overriddenIn]; done) | decide +kernel
theorem ef_rNE (m : MethodId) (a1 : Addr) : entryFrame m #[(.ref a1)] 1 = mkF m 0 #[.val (.ref a1)] [] := by first | (simp [entryFrame, mkF, argsToLocals, Value.category]; done) | rfl
def QrNE (Z : State) (a1 : Addr) (ee : Addr) (k : ClassId) (h0 : Heap) (n0 : Nat) (v : Option Value) (h : Heap) (L : List Loc) : Prop := ∃ z : Int32, z = ((1 : Int32)) ∧ v = some (.int z) ∧ Fr n0 L ∧ h = h0
set_option maxRecDepth 65536 in
set_option maxHeartbeats 40000000 in
theorem rNE (l : Launch) (Z : State) (a0 : Array Value) (hw : ∀ d ∈ tables_1, d.before a0 Z = true) (ws : List Jvm.Cond) (a1 : Addr) (ee : Addr) (k : ClassId) (h0 : Heap) (n0 : Nat) (Z0 : n0 ≤ h0.size) (X00 : Old Z n0 h0) (O_FL : Fld Z Z.heap a1 "java/util/ImmutableCollections$ListN" "elements" "[Ljava/lang/Object;" (.ref ee)) (O_AE : Arv Z Z.heap ee k (.object "java/lang/Object") (0 : Int32) [] .null) :
    MetFree l (⟨"java/util/ImmutableCollections$ListN", "isEmpty", "()Z"⟩ : MethodName) (head1 (Jvm.Cond.code (⟨"java/util/ImmutableCollections$ListN", "isEmpty", "()Z"⟩ : MethodName) jdk_45_method_2_code 1 (some .boolean) :: ws) ({ frames := 0, cells := 0, slots := 0, locals := 0 } : Room)) (fun a U => a = #[(.ref a1)] ∧ Z.Warmed39 U.vm ∧ U.heap = h0) (fun _ _ _ _ _ => True) (fun _ U o U' => ∃ v L, o = .returned v ∧ QrNE Z a1 ee k h0 n0 v U'.heap L ∧ FrameEnd U o U' L ({ frames := 0, cells := 0, slots := 0, locals := 0 } : Room).cells ({ frames := 0, cells := 0, slots := 0, locals := 0 } : Room).slots) := by
  refine MetFree.of_bodySF (plainFor_of_name pn_33) hisR ?_
  intro p e s m args below meth c s₁ Bd hml0 hP hK
  obtain ⟨rfl, hZ, hh⟩ := hP
  have hx := Bd.exec
  have hby := Bd.bytes
  have hml : c.maxLocals = 1 := hml0
  have hown : s.vm.findClass "java/util/ImmutableCollections$ListN" = some m.cls := findClass_of_methodNamed Bd.named
  have hnm := (name_of_methodNamed Bd.named Bd.method).1
  have X0 : Stand p l e ({ frames := 0, cells := 0, slots := 0, locals := 0 } : Room) s m #[(.ref a1)] below meth c s₁ [] 0 0 := Stand.of_body Bd
  have e0 : s₁.heap = h0 := by rw [← hh, Bd.state]; rfl
  have N0 := Fr.nil n0
  have pre0 : ∀ t, Steps p.tables e below (s₁.setTop (mkF m 0 #[.val (.ref a1)] [])) t → Steps p.tables e below (s₁.setTop (entryFrame m #[(.ref a1)] 1)) t := fun t k => castTop (ef_rNE m a1) k
  obtain ⟨T1, X1, e1, st1⟩ := getF X0 hx hZ hown (host := "") (Or.inl (hw _ (own_w 228 rfl))) Via.refl e0 (O_FL.ext X00.2) (g := (mkF m 1 #[.val (.ref a1)] [(.ref a1)])) rfl rfl (hb hby d33_1)
  obtain ⟨cl2, Ar2, qk2, Sz2, Nn2, Hh2, Gg2⟩ := id ((O_AE.ext X00.2))
  obtain ⟨fs, hr, hrun, hended, hW, hsame⟩ := X1.leave (v := some (.int (1 : Int32))) (fun h => by rw [Bd.returns] at h; cases h) (BodyLoose.notSynchronized Bd)
  refine ⟨_, _, pre0 _ ?_, hrun, hended, _, _, rfl, ?_, ⟨_, rfl⟩, hW, hsame.mono (by decide) (by decide)⟩
  · show Steps p.tables e below (s₁.setTop (mkF m 0 #[.val (.ref a1)] [])) _
    refine XS.aloadN X0.here hx rfl (hb hby d33_0) rfl rfl ?_
    refine st1 _ ?_
    refine X1.arraylength hx (by rw [e1]; exact Ar2.1) (State.isArrayOf_alike hZ.alike Ar2.2.1) (g := (mkF m 4 #[.val (.ref a1)] [(.ref ee)])) rfl rfl (hb hby d33_4) _ ?_
    rw [len_of Sz2 Nn2]
    show Steps p.tables e below (T1.setTop (mkF m 5 #[.val (.ref a1)] [(.int (0 : Int32))])) _
    refine XS.ifNo X1.here hx rfl (hb hby d33_5) rfl ((if0 _ _).trans (teq (by decide)).2) ?_
    refine XS.iconst X1.here hx rfl (hb hby d33_8) ?_
    refine XS.goto X1.here hx rfl (pc0 := 9) (pc' := 13) rfl (hb hby d33_9) (by decide) (by decide) ?_
    show Steps p.tables e below (T1.setTop (mkF m 13 #[.val (.ref a1)] [(.int (1 : Int32))])) _
    exact retN X1 hx (t := .boolean) Bd.returns (by simp) (hb hby d33_13) hr
  · show QrNE Z a1 ee k h0 n0 _ T1.heap _
    exact ⟨_, rfl, rfl, N0, e1⟩
theorem d23_0 : decode jdk_29_method_65_code 0 = .ok (.iload_n 0, 1) := by decide +kernel
theorem d23_1 : decode jdk_29_method_65_code 1 = .ok (.iload_n 1, 1) := by decide +kernel
theorem d23_2 : decode jdk_29_method_65_code 2 = .ok (.if_icmp .lt 7, 3) := by decide +kernel
theorem d23_5 : decode jdk_29_method_65_code 5 = .ok (.iload_n 0, 1) := by decide +kernel
theorem d23_6 : decode jdk_29_method_65_code 6 = .ok (.goto 4, 3) := by decide +kernel
theorem d23_10 : decode jdk_29_method_65_code 10 = .ok (.ireturn, 1) := by decide +kernel
theorem ef_rMx (m : MethodId)  : entryFrame m #[(.int (10 : Int32)), (.int (1 : Int32))] 2 = mkF m 0 #[.val (.int (10 : Int32)), .val (.int (1 : Int32))] [] := by first | (simp [entryFrame, mkF, argsToLocals, Value.category]; done) | rfl
def QrMx (Z : State)  (h0 : Heap) (n0 : Nat) (v : Option Value) (h : Heap) (L : List Loc) : Prop := ∃ z : Int32, z = ((10 : Int32)) ∧ v = some (.int z) ∧ Fr n0 L ∧ h = h0
set_option maxRecDepth 65536 in
set_option maxHeartbeats 40000000 in
theorem rMx (l : Launch) (Z : State) (a0 : Array Value) (hw : ∀ d ∈ tables_1, d.before a0 Z = true) (ws : List Jvm.Cond)  (h0 : Heap) (n0 : Nat) (Z0 : n0 ≤ h0.size) :
    MetFree l (⟨"java/lang/Math", "max", "(II)I"⟩ : MethodName) (head1 (Jvm.Cond.code (⟨"java/lang/Math", "max", "(II)I"⟩ : MethodName) jdk_29_method_65_code 2 (some .int) :: ws) ({ frames := 0, cells := 0, slots := 0, locals := 0 } : Room)) (fun a U => a = #[(.int (10 : Int32)), (.int (1 : Int32))] ∧ Z.Warmed39 U.vm ∧ U.heap = h0) (fun _ _ _ _ _ => True) (fun _ U o U' => ∃ v L, o = .returned v ∧ QrMx Z  h0 n0 v U'.heap L ∧ FrameEnd U o U' L ({ frames := 0, cells := 0, slots := 0, locals := 0 } : Room).cells ({ frames := 0, cells := 0, slots := 0, locals := 0 } : Room).slots) := by
  refine MetFree.of_bodySF (Jvm.Free.JP.mathPlain rfl (by decide +kernel)) hisR ?_
  intro p e s m args below meth c s₁ Bd hml0 hP hK
  obtain ⟨rfl, hZ, hh⟩ := hP
  have hx := Bd.exec
  have hby := Bd.bytes
  have hml : c.maxLocals = 2 := hml0
  have hown : s.vm.findClass "java/lang/Math" = some m.cls := findClass_of_methodNamed Bd.named
  have hnm := (name_of_methodNamed Bd.named Bd.method).1
  have X0 : Stand p l e ({ frames := 0, cells := 0, slots := 0, locals := 0 } : Room) s m #[(.int (10 : Int32)), (.int (1 : Int32))] below meth c s₁ [] 0 0 := Stand.of_body Bd
  have e0 : s₁.heap = h0 := by rw [← hh, Bd.state]; rfl
  have N0 := Fr.nil n0
  have pre0 : ∀ t, Steps p.tables e below (s₁.setTop (mkF m 0 #[.val (.int (10 : Int32)), .val (.int (1 : Int32))] [])) t → Steps p.tables e below (s₁.setTop (entryFrame m #[(.int (10 : Int32)), (.int (1 : Int32))] 2)) t := fun t k => castTop (ef_rMx m ) k
  obtain ⟨fs, hr, hrun, hended, hW, hsame⟩ := X0.leave (v := some (.int (10 : Int32))) (fun h => by rw [Bd.returns] at h; cases h) (BodyLoose.notSynchronized Bd)
  refine ⟨_, _, pre0 _ ?_, hrun, hended, _, _, rfl, ?_, ⟨_, rfl⟩, hW, hsame.mono (by decide) (by decide)⟩
  · show Steps p.tables e below (s₁.setTop (mkF m 0 #[.val (.int (10 : Int32)), .val (.int (1 : Int32))] [])) _
    refine XS.iloadN X0.here hx rfl (hb hby d23_0) rfl ?_
    refine XS.iloadN X0.here hx rfl (hb hby d23_1) rfl ?_
    refine XS.icmpNo X0.here hx rfl (hb hby d23_2) rfl (flt (by decide)).1 ?_
    refine XS.iloadN X0.here hx rfl (hb hby d23_5) rfl ?_
    refine XS.goto X0.here hx rfl (pc0 := 6) (pc' := 10) rfl (hb hby d23_6) (by decide) (by decide) ?_
    show Steps p.tables e below (s₁.setTop (mkF m 10 #[.val (.int (10 : Int32)), .val (.int (1 : Int32))] [(.int (10 : Int32))])) _
    exact retI X0 hx Bd.returns (hb hby d23_10) hr
  · show QrMx Z  h0 n0 _ s₁.heap _
    exact ⟨_, rfl, rfl, N0, e0⟩
theorem d27_0 : decode jdk_29_method_69_code 0 = .ok (.iload_n 0, 1) := by decide +kernel
theorem d27_1 : decode jdk_29_method_69_code 1 = .ok (.iload_n 1, 1) := by decide +kernel
theorem d27_2 : decode jdk_29_method_69_code 2 = .ok (.if_icmp .gt 7, 3) := by decide +kernel
theorem d27_9 : decode jdk_29_method_69_code 9 = .ok (.iload_n 1, 1) := by decide +kernel
theorem d27_10 : decode jdk_29_method_69_code 10 = .ok (.ireturn, 1) := by decide +kernel
theorem ef_rMn (m : MethodId)  : entryFrame m #[(.int (10 : Int32)), (.int (1 : Int32))] 2 = mkF m 0 #[.val (.int (10 : Int32)), .val (.int (1 : Int32))] [] := by first | (simp [entryFrame, mkF, argsToLocals, Value.category]; done) | rfl
def QrMn (Z : State)  (h0 : Heap) (n0 : Nat) (v : Option Value) (h : Heap) (L : List Loc) : Prop := ∃ z : Int32, z = ((1 : Int32)) ∧ v = some (.int z) ∧ Fr n0 L ∧ h = h0
set_option maxRecDepth 65536 in
set_option maxHeartbeats 40000000 in
theorem rMn (l : Launch) (Z : State) (a0 : Array Value) (hw : ∀ d ∈ tables_1, d.before a0 Z = true) (ws : List Jvm.Cond)  (h0 : Heap) (n0 : Nat) (Z0 : n0 ≤ h0.size) :
    MetFree l (⟨"java/lang/Math", "min", "(II)I"⟩ : MethodName) (head1 (Jvm.Cond.code (⟨"java/lang/Math", "min", "(II)I"⟩ : MethodName) jdk_29_method_69_code 2 (some .int) :: ws) ({ frames := 0, cells := 0, slots := 0, locals := 0 } : Room)) (fun a U => a = #[(.int (10 : Int32)), (.int (1 : Int32))] ∧ Z.Warmed39 U.vm ∧ U.heap = h0) (fun _ _ _ _ _ => True) (fun _ U o U' => ∃ v L, o = .returned v ∧ QrMn Z  h0 n0 v U'.heap L ∧ FrameEnd U o U' L ({ frames := 0, cells := 0, slots := 0, locals := 0 } : Room).cells ({ frames := 0, cells := 0, slots := 0, locals := 0 } : Room).slots) := by
  refine MetFree.of_bodySF (Jvm.Free.JP.mathPlain rfl (by decide +kernel)) hisR ?_
  intro p e s m args below meth c s₁ Bd hml0 hP hK
  obtain ⟨rfl, hZ, hh⟩ := hP
  have hx := Bd.exec
  have hby := Bd.bytes
  have hml : c.maxLocals = 2 := hml0
  have hown : s.vm.findClass "java/lang/Math" = some m.cls := findClass_of_methodNamed Bd.named
  have hnm := (name_of_methodNamed Bd.named Bd.method).1
  have X0 : Stand p l e ({ frames := 0, cells := 0, slots := 0, locals := 0 } : Room) s m #[(.int (10 : Int32)), (.int (1 : Int32))] below meth c s₁ [] 0 0 := Stand.of_body Bd
  have e0 : s₁.heap = h0 := by rw [← hh, Bd.state]; rfl
  have N0 := Fr.nil n0
  have pre0 : ∀ t, Steps p.tables e below (s₁.setTop (mkF m 0 #[.val (.int (10 : Int32)), .val (.int (1 : Int32))] [])) t → Steps p.tables e below (s₁.setTop (entryFrame m #[(.int (10 : Int32)), (.int (1 : Int32))] 2)) t := fun t k => castTop (ef_rMn m ) k
  obtain ⟨fs, hr, hrun, hended, hW, hsame⟩ := X0.leave (v := some (.int (1 : Int32))) (fun h => by rw [Bd.returns] at h; cases h) (BodyLoose.notSynchronized Bd)
  refine ⟨_, _, pre0 _ ?_, hrun, hended, _, _, rfl, ?_, ⟨_, rfl⟩, hW, hsame.mono (by decide) (by decide)⟩
  · show Steps p.tables e below (s₁.setTop (mkF m 0 #[.val (.int (10 : Int32)), .val (.int (1 : Int32))] [])) _
    refine XS.iloadN X0.here hx rfl (hb hby d27_0) rfl ?_
    refine XS.iloadN X0.here hx rfl (hb hby d27_1) rfl ?_
    refine XS.icmpYes X0.here hx rfl (pc0 := 2) (pc' := 9) rfl (hb hby d27_2) rfl (tlt (by decide)).2.2.1 (by decide) (by decide) ?_
    refine XS.iloadN X0.here hx rfl (hb hby d27_9) rfl ?_
    show Steps p.tables e below (s₁.setTop (mkF m 10 #[.val (.int (10 : Int32)), .val (.int (1 : Int32))] [(.int (1 : Int32))])) _
    exact retI X0 hx Bd.returns (hb hby d27_10) hr
  · show QrMn Z  h0 n0 _ s₁.heap _
    exact ⟨_, rfl, rfl, N0, e0⟩
theorem d34_0 : decode jdk_2055_method_14_code 0 = .ok (.iload_n 0, 1) := by decide +kernel
theorem d34_1 : decode jdk_2055_method_14_code 1 = .ok (.iload_n 1, 1) := by decide +kernel
theorem d34_2 : decode jdk_2055_method_14_code 2 = .ok (.if_icmp .ne 7, 3) := by decide +kernel
theorem d34_5 : decode jdk_2055_method_14_code 5 = .ok (.iconst 0, 1) := by decide +kernel
theorem d34_6 : decode jdk_2055_method_14_code 6 = .ok (.goto 12, 3) := by decide +kernel
theorem d34_18 : decode jdk_2055_method_14_code 18 = .ok (.ireturn, 1) := by decide +kernel
theorem pn_34 : plainName "java/lang/Boolean" = true := by first | (simp [plainName, overriddenIn]; done) | decide +kernel
theorem ef_rBc (m : MethodId)  : entryFrame m #[(.int (1 : Int32)), (.int (1 : Int32))] 2 = mkF m 0 #[.val (.int (1 : Int32)), .val (.int (1 : Int32))] [] := by first | (simp [entryFrame, mkF, argsToLocals, Value.category]; done) | rfl
def QrBc (Z : State)  (h0 : Heap) (n0 : Nat) (v : Option Value) (h : Heap) (L : List Loc) : Prop := ∃ z : Int32, z = ((0 : Int32)) ∧ v = some (.int z) ∧ Fr n0 L ∧ h = h0
set_option maxRecDepth 65536 in
set_option maxHeartbeats 40000000 in
theorem rBc (l : Launch) (Z : State) (a0 : Array Value) (hw : ∀ d ∈ tables_1, d.before a0 Z = true) (ws : List Jvm.Cond)  (h0 : Heap) (n0 : Nat) (Z0 : n0 ≤ h0.size) :
    MetFree l (⟨"java/lang/Boolean", "compare", "(ZZ)I"⟩ : MethodName) (head1 (Jvm.Cond.code (⟨"java/lang/Boolean", "compare", "(ZZ)I"⟩ : MethodName) jdk_2055_method_14_code 2 (some .int) :: ws) ({ frames := 0, cells := 0, slots := 0, locals := 0 } : Room)) (fun a U => a = #[(.int (1 : Int32)), (.int (1 : Int32))] ∧ Z.Warmed39 U.vm ∧ U.heap = h0) (fun _ _ _ _ _ => True) (fun _ U o U' => ∃ v L, o = .returned v ∧ QrBc Z  h0 n0 v U'.heap L ∧ FrameEnd U o U' L ({ frames := 0, cells := 0, slots := 0, locals := 0 } : Room).cells ({ frames := 0, cells := 0, slots := 0, locals := 0 } : Room).slots) := by
  refine MetFree.of_bodySF (plainFor_of_name pn_34) hisR ?_
  intro p e s m args below meth c s₁ Bd hml0 hP hK
  obtain ⟨rfl, hZ, hh⟩ := hP
  have hx := Bd.exec
  have hby := Bd.bytes
  have hml : c.maxLocals = 2 := hml0
  have hown : s.vm.findClass "java/lang/Boolean" = some m.cls := findClass_of_methodNamed Bd.named
  have hnm := (name_of_methodNamed Bd.named Bd.method).1
  have X0 : Stand p l e ({ frames := 0, cells := 0, slots := 0, locals := 0 } : Room) s m #[(.int (1 : Int32)), (.int (1 : Int32))] below meth c s₁ [] 0 0 := Stand.of_body Bd
  have e0 : s₁.heap = h0 := by rw [← hh, Bd.state]; rfl
  have N0 := Fr.nil n0
  have pre0 : ∀ t, Steps p.tables e below (s₁.setTop (mkF m 0 #[.val (.int (1 : Int32)), .val (.int (1 : Int32))] [])) t → Steps p.tables e below (s₁.setTop (entryFrame m #[(.int (1 : Int32)), (.int (1 : Int32))] 2)) t := fun t k => castTop (ef_rBc m ) k
  obtain ⟨fs, hr, hrun, hended, hW, hsame⟩ := X0.leave (v := some (.int (0 : Int32))) (fun h => by rw [Bd.returns] at h; cases h) (BodyLoose.notSynchronized Bd)
  refine ⟨_, _, pre0 _ ?_, hrun, hended, _, _, rfl, ?_, ⟨_, rfl⟩, hW, hsame.mono (by decide) (by decide)⟩
  · show Steps p.tables e below (s₁.setTop (mkF m 0 #[.val (.int (1 : Int32)), .val (.int (1 : Int32))] [])) _
    refine XS.iloadN X0.here hx rfl (hb hby d34_0) rfl ?_
    refine XS.iloadN X0.here hx rfl (hb hby d34_1) rfl ?_
    refine XS.icmpNo X0.here hx rfl (hb hby d34_2) rfl (teq (by decide)).2 ?_
    refine XS.iconst X0.here hx rfl (hb hby d34_5) ?_
    refine XS.goto X0.here hx rfl (pc0 := 6) (pc' := 18) rfl (hb hby d34_6) (by decide) (by decide) ?_
    show Steps p.tables e below (s₁.setTop (mkF m 18 #[.val (.int (1 : Int32)), .val (.int (1 : Int32))] [(.int (0 : Int32))])) _
    exact retI X0 hx Bd.returns (hb hby d34_18) hr
  · show QrBc Z  h0 n0 _ s₁.heap _
    exact ⟨_, rfl, rfl, N0, e0⟩
theorem d14_0 : decode jdk_35_method_42_code 0 = .ok (.lload_n 0, 1) := by decide +kernel
theorem d14_1 : decode jdk_35_method_42_code 1 = .ok (.lload_n 2, 1) := by decide +kernel
theorem d14_2 : decode jdk_35_method_42_code 2 = .ok (.lcmp, 1) := by decide +kernel
theorem d14_3 : decode jdk_35_method_42_code 3 = .ok (.ifCond .ge 7, 3) := by decide +kernel
theorem d14_6 : decode jdk_35_method_42_code 6 = .ok (.iconst (-1), 1) := by decide +kernel
theorem d14_7 : decode jdk_35_method_42_code 7 = .ok (.goto 14, 3) := by decide +kernel
theorem d14_10 : decode jdk_35_method_42_code 10 = .ok (.lload_n 0, 1) := by decide +kernel
theorem d14_11 : decode jdk_35_method_42_code 11 = .ok (.lload_n 2, 1) := by decide +kernel
theorem d14_12 : decode jdk_35_method_42_code 12 = .ok (.lcmp, 1) := by decide +kernel
theorem d14_13 : decode jdk_35_method_42_code 13 = .ok (.ifCond .ne 7, 3) := by decide +kernel
theorem d14_16 : decode jdk_35_method_42_code 16 = .ok (.iconst 0, 1) := by decide +kernel
theorem d14_17 : decode jdk_35_method_42_code 17 = .ok (.goto 4, 3) := by decide +kernel
theorem d14_20 : decode jdk_35_method_42_code 20 = .ok (.iconst 1, 1) := by decide +kernel
theorem d14_21 : decode jdk_35_method_42_code 21 = .ok (.ireturn, 1) := by decide +kernel
theorem pn_14 : plainName "java/lang/Long" = true := by first | (simp [plainName, overriddenIn]; done) | decide +kernel
theorem ef_rLc (m : MethodId) (q1 : Int64) (q2 : Int64) : entryFrame m #[(.long q1), (.long q2)] 4 = mkF m 0 #[.val (.long q1), .second, .val (.long q2), .second] [] := by first | (simp [entryFrame, mkF, argsToLocals, Value.category]; done) | rfl
def QrLc (Z : State) (q1 : Int64) (q2 : Int64) (h0 : Heap) (n0 : Nat) (v : Option Value) (h : Heap) (L : List Loc) : Prop := ∃ z : Int32, z = (if q1 < q2 then (-1 : Int32) else if q1 = q2 then 0 else 1) ∧ v = some (.int z) ∧ Fr n0 L ∧ h = h0
set_option maxRecDepth 65536 in
set_option maxHeartbeats 40000000 in
theorem rLc (l : Launch) (Z : State) (a0 : Array Value) (hw : ∀ d ∈ tables_1, d.before a0 Z = true) (ws : List Jvm.Cond) (q1 : Int64) (q2 : Int64) (h0 : Heap) (n0 : Nat) (Z0 : n0 ≤ h0.size) :
    MetFree l (⟨"java/lang/Long", "compare", "(JJ)I"⟩ : MethodName) (head1 (Jvm.Cond.code (⟨"java/lang/Long", "compare", "(JJ)I"⟩ : MethodName) jdk_35_method_42_code 4 (some .int) :: ws) ({ frames := 0, cells := 0, slots := 0, locals := 0 } : Room)) (fun a U => a = #[(.long q1), (.long q2)] ∧ Z.Warmed39 U.vm ∧ U.heap = h0) (fun _ _ _ _ _ => True) (fun _ U o U' => ∃ v L, o = .returned v ∧ QrLc Z q1 q2 h0 n0 v U'.heap L ∧ FrameEnd U o U' L ({ frames := 0, cells := 0, slots := 0, locals := 0 } : Room).cells ({ frames := 0, cells := 0, slots := 0, locals := 0 } : Room).slots) := by
  refine MetFree.of_bodySF (plainFor_of_name pn_14) hisR ?_
  intro p e s m args below meth c s₁ Bd hml0 hP hK
  obtain ⟨rfl, hZ, hh⟩ := hP
  have hx := Bd.exec
  have hby := Bd.bytes
  have hml : c.maxLocals = 4 := hml0
  have hown : s.vm.findClass "java/lang/Long" = some m.cls := findClass_of_methodNamed Bd.named
  have hnm := (name_of_methodNamed Bd.named Bd.method).1
  have X0 : Stand p l e ({ frames := 0, cells := 0, slots := 0, locals := 0 } : Room) s m #[(.long q1), (.long q2)] below meth c s₁ [] 0 0 := Stand.of_body Bd
  have e0 : s₁.heap = h0 := by rw [← hh, Bd.state]; rfl
  have N0 := Fr.nil n0
  have pre0 : ∀ t, Steps p.tables e below (s₁.setTop (mkF m 0 #[.val (.long q1), .second, .val (.long q2), .second] [])) t → Steps p.tables e below (s₁.setTop (entryFrame m #[(.long q1), (.long q2)] 4)) t := fun t k => castTop (ef_rLc m q1 q2) k
  by_cases hc3 : q1 < q2
  · obtain ⟨fs, hr, hrun, hended, hW, hsame⟩ := X0.leave (v := some (.int (-1 : Int32))) (fun h => by rw [Bd.returns] at h; cases h) (BodyLoose.notSynchronized Bd)
    refine ⟨_, _, pre0 _ ?_, hrun, hended, _, _, rfl, ?_, ⟨_, rfl⟩, hW, hsame.mono (by decide) (by decide)⟩
    · show Steps p.tables e below (s₁.setTop (mkF m 0 #[.val (.long q1), .second, .val (.long q2), .second] [])) _
      refine XS.lloadN X0.here hx rfl (hb hby d14_0) rfl ?_
      refine XS.lloadN X0.here hx rfl (hb hby d14_1) rfl ?_
      refine XS.lcmp X0.here hx rfl (hb hby d14_2) rfl ?_
      refine XS.ifNo X0.here hx rfl (hb hby d14_3) rfl ((if0 _ _).trans (tlt (own_lclt hc3)).2.1) ?_
      refine XS.iconst X0.here hx rfl (hb hby d14_6) ?_
      refine XS.goto X0.here hx rfl (pc0 := 7) (pc' := 21) rfl (hb hby d14_7) (by decide) (by decide) ?_
      show Steps p.tables e below (s₁.setTop (mkF m 21 #[.val (.long q1), .second, .val (.long q2), .second] [(.int (-1 : Int32))])) _
      exact retI X0 hx Bd.returns (hb hby d14_21) hr
    · show QrLc Z q1 q2 h0 n0 _ s₁.heap _
      exact ⟨_, by simp [*], rfl, N0, e0⟩
  · by_cases hc13 : q1 = q2
    · obtain ⟨fs, hr, hrun, hended, hW, hsame⟩ := X0.leave (v := some (.int (0 : Int32))) (fun h => by rw [Bd.returns] at h; cases h) (BodyLoose.notSynchronized Bd)
      refine ⟨_, _, pre0 _ ?_, hrun, hended, _, _, rfl, ?_, ⟨_, rfl⟩, hW, hsame.mono (by decide) (by decide)⟩
      · show Steps p.tables e below (s₁.setTop (mkF m 0 #[.val (.long q1), .second, .val (.long q2), .second] [])) _
        refine XS.lloadN X0.here hx rfl (hb hby d14_0) rfl ?_
        refine XS.lloadN X0.here hx rfl (hb hby d14_1) rfl ?_
        refine XS.lcmp X0.here hx rfl (hb hby d14_2) rfl ?_
        refine XS.ifYes X0.here hx rfl (pc0 := 3) (pc' := 10) rfl (hb hby d14_3) rfl ((if0 _ _).trans (flt (own_lcnlt hc3)).2.1) (by decide) (by decide) ?_
        refine XS.lloadN X0.here hx rfl (hb hby d14_10) rfl ?_
        refine XS.lloadN X0.here hx rfl (hb hby d14_11) rfl ?_
        refine XS.lcmp X0.here hx rfl (hb hby d14_12) rfl ?_
        refine XS.ifNo X0.here hx rfl (hb hby d14_13) rfl ((if0 _ _).trans (teq (own_lceq hc13)).2) ?_
        refine XS.iconst X0.here hx rfl (hb hby d14_16) ?_
        refine XS.goto X0.here hx rfl (pc0 := 17) (pc' := 21) rfl (hb hby d14_17) (by decide) (by decide) ?_
        show Steps p.tables e below (s₁.setTop (mkF m 21 #[.val (.long q1), .second, .val (.long q2), .second] [(.int (0 : Int32))])) _
        exact retI X0 hx Bd.returns (hb hby d14_21) hr
      · show QrLc Z q1 q2 h0 n0 _ s₁.heap _
        exact ⟨_, by simp [*], rfl, N0, e0⟩
    · obtain ⟨fs, hr, hrun, hended, hW, hsame⟩ := X0.leave (v := some (.int (1 : Int32))) (fun h => by rw [Bd.returns] at h; cases h) (BodyLoose.notSynchronized Bd)
      refine ⟨_, _, pre0 _ ?_, hrun, hended, _, _, rfl, ?_, ⟨_, rfl⟩, hW, hsame.mono (by decide) (by decide)⟩
      · show Steps p.tables e below (s₁.setTop (mkF m 0 #[.val (.long q1), .second, .val (.long q2), .second] [])) _
        refine XS.lloadN X0.here hx rfl (hb hby d14_0) rfl ?_
        refine XS.lloadN X0.here hx rfl (hb hby d14_1) rfl ?_
        refine XS.lcmp X0.here hx rfl (hb hby d14_2) rfl ?_
        refine XS.ifYes X0.here hx rfl (pc0 := 3) (pc' := 10) rfl (hb hby d14_3) rfl ((if0 _ _).trans (flt (own_lcnlt hc3)).2.1) (by decide) (by decide) ?_
        refine XS.lloadN X0.here hx rfl (hb hby d14_10) rfl ?_
        refine XS.lloadN X0.here hx rfl (hb hby d14_11) rfl ?_
        refine XS.lcmp X0.here hx rfl (hb hby d14_12) rfl ?_
        refine XS.ifYes X0.here hx rfl (pc0 := 13) (pc' := 20) rfl (hb hby d14_13) rfl ((if0 _ _).trans (feq (own_lcne hc13)).2) (by decide) (by decide) ?_
        refine XS.iconst X0.here hx rfl (hb hby d14_20) ?_
        show Steps p.tables e below (s₁.setTop (mkF m 21 #[.val (.long q1), .second, .val (.long q2), .second] [(.int (1 : Int32))])) _
        exact retI X0 hx Bd.returns (hb hby d14_21) hr
      · show QrLc Z q1 q2 h0 n0 _ s₁.heap _
        exact ⟨_, by simp [*], rfl, N0, e0⟩
theorem d10_0 : decode jdk_40_method_36_code 0 = .ok (.getstatic 90, 3) := by decide +kernel
theorem d10_3 : decode jdk_40_method_36_code 3 = .ok (.areturn, 1) := by decide +kernel
theorem pn_10 : plainName "java/util/List" = true := by first | (simp [plainName, overriddenIn]; done) | decide +kernel
theorem ef_rO0 (m : MethodId)  : entryFrame m #[] 0 = mkF m 0 #[] [] := by first | (simp [entryFrame, mkF, argsToLocals, Value.category]; done) | rfl
def QrO0 (Z : State) (el : Addr) (h0 : Heap) (n0 : Nat) (v : Option Value) (h : Heap) (L : List Loc) : Prop := v = some (.ref el) ∧ Fr n0 L ∧ h = h0
set_option maxRecDepth 65536 in
set_option maxHeartbeats 40000000 in
theorem rO0 (l : Launch) (Z : State) (a0 : Array Value) (hw : ∀ d ∈ tables_1, d.before a0 Z = true) (ws : List Jvm.Cond) (el : Addr) (h0 : Heap) (n0 : Nat) (Z0 : n0 ≤ h0.size) (X00 : Old Z n0 h0) (O_L : Sta Z Z.heap "java/util/ImmutableCollections" "EMPTY_LIST" "Ljava/util/ImmutableCollections$ListN;" (.ref el)) :
    MetFree l (⟨"java/util/List", "of", "()Ljava/util/List;"⟩ : MethodName) (head1 (Jvm.Cond.code (⟨"java/util/List", "of", "()Ljava/util/List;"⟩ : MethodName) jdk_40_method_36_code 0 (some (.object "java/util/List")) :: ws) ({ frames := 0, cells := 0, slots := 0, locals := 0 } : Room)) (fun a U => a = #[] ∧ Z.Warmed39 U.vm ∧ U.heap = h0) (fun _ _ _ _ _ => True) (fun _ U o U' => ∃ v L, o = .returned v ∧ QrO0 Z el h0 n0 v U'.heap L ∧ FrameEnd U o U' L ({ frames := 0, cells := 0, slots := 0, locals := 0 } : Room).cells ({ frames := 0, cells := 0, slots := 0, locals := 0 } : Room).slots) := by
  refine MetFree.of_bodySF (plainFor_of_name pn_10) hisR ?_
  intro p e s m args below meth c s₁ Bd hml0 hP hK
  obtain ⟨rfl, hZ, hh⟩ := hP
  have hx := Bd.exec
  have hby := Bd.bytes
  have hml : c.maxLocals = 0 := hml0
  have hown : s.vm.findClass "java/util/List" = some m.cls := findClass_of_methodNamed Bd.named
  have hnm := (name_of_methodNamed Bd.named Bd.method).1
  have X0 : Stand p l e ({ frames := 0, cells := 0, slots := 0, locals := 0 } : Room) s m #[] below meth c s₁ [] 0 0 := Stand.of_body Bd
  have e0 : s₁.heap = h0 := by rw [← hh, Bd.state]; rfl
  have N0 := Fr.nil n0
  have pre0 : ∀ t, Steps p.tables e below (s₁.setTop (mkF m 0 #[] [])) t → Steps p.tables e below (s₁.setTop (entryFrame m #[] 0)) t := fun t k => castTop (ef_rO0 m ) k
  obtain ⟨T1, X1, e1, st1⟩ := getS2 X0 hx hZ hown (host := "") (Or.inl (hw _ (own_w 66 rfl))) Via.refl e0 (O_L.ext X00.2) (g := (mkF m 0 #[] [])) rfl (hb hby d10_0)
  obtain ⟨fs, hr, hrun, hended, hW, hsame⟩ := X1.leave (v := some (.ref el)) (fun h => by rw [Bd.returns] at h; cases h) (BodyLoose.notSynchronized Bd)
  refine ⟨_, _, pre0 _ ?_, hrun, hended, _, _, rfl, ?_, ⟨_, rfl⟩, hW, hsame.mono (by decide) (by decide)⟩
  · show Steps p.tables e below (s₁.setTop (mkF m 0 #[] [])) _
    refine st1 _ ?_
    show Steps p.tables e below (T1.setTop (mkF m 3 #[] [(.ref el)])) _
    exact X1.areturnOut hx rfl Bd.returns rfl (hb hby d10_3) hr
  · show QrO0 Z el h0 n0 _ T1.heap _
    exact ⟨rfl, N0, e1⟩
theorem d16_0 : decode jdk_43_method_3_code 0 = .ok (.iload_n 0, 1) := by decide +kernel
theorem d16_1 : decode jdk_43_method_3_code 1 = .ok (.sipush 255, 3) := by decide +kernel
theorem d16_4 : decode jdk_43_method_3_code 4 = .ok (.if_icmp .gt 7, 3) := by decide +kernel
theorem d16_7 : decode jdk_43_method_3_code 7 = .ok (.iconst 1, 1) := by decide +kernel
theorem d16_8 : decode jdk_43_method_3_code 8 = .ok (.goto 4, 3) := by decide +kernel
theorem d16_12 : decode jdk_43_method_3_code 12 = .ok (.ireturn, 1) := by decide +kernel
theorem pn_16 : plainName "java/lang/StringLatin1" = true := by first | (simp [plainName, overriddenIn]; done) | decide +kernel
theorem ef_rCE (m : MethodId) (p1 : Int32) : entryFrame m #[(.int p1)] 1 = mkF m 0 #[.val (.int p1)] [] := by first | (simp [entryFrame, mkF, argsToLocals, Value.category]; done) | rfl
def QrCE (Z : State) (p1 : Int32) (h0 : Heap) (n0 : Nat) (v : Option Value) (h : Heap) (L : List Loc) : Prop := ∃ z : Int32, z = ((1 : Int32)) ∧ v = some (.int z) ∧ Fr n0 L ∧ h = h0
set_option maxRecDepth 65536 in
set_option maxHeartbeats 40000000 in
theorem rCE (l : Launch) (Z : State) (a0 : Array Value) (hw : ∀ d ∈ tables_1, d.before a0 Z = true) (ws : List Jvm.Cond) (p1 : Int32) (h0 : Heap) (n0 : Nat) (Z0 : n0 ≤ h0.size) (hp : ¬ (255 : Int32) < p1) :
    MetFree l (⟨"java/lang/StringLatin1", "canEncode", "(C)Z"⟩ : MethodName) (head1 (Jvm.Cond.code (⟨"java/lang/StringLatin1", "canEncode", "(C)Z"⟩ : MethodName) jdk_43_method_3_code 1 (some .boolean) :: ws) ({ frames := 0, cells := 0, slots := 0, locals := 0 } : Room)) (fun a U => a = #[(.int p1)] ∧ Z.Warmed39 U.vm ∧ U.heap = h0) (fun _ _ _ _ _ => True) (fun _ U o U' => ∃ v L, o = .returned v ∧ QrCE Z p1 h0 n0 v U'.heap L ∧ FrameEnd U o U' L ({ frames := 0, cells := 0, slots := 0, locals := 0 } : Room).cells ({ frames := 0, cells := 0, slots := 0, locals := 0 } : Room).slots) := by
  refine MetFree.of_bodySF (plainFor_of_name pn_16) hisR ?_
  intro p e s m args below meth c s₁ Bd hml0 hP hK
  obtain ⟨rfl, hZ, hh⟩ := hP
  have hx := Bd.exec
  have hby := Bd.bytes
  have hml : c.maxLocals = 1 := hml0
  have hown : s.vm.findClass "java/lang/StringLatin1" = some m.cls := findClass_of_methodNamed Bd.named
  have hnm := (name_of_methodNamed Bd.named Bd.method).1
  have X0 : Stand p l e ({ frames := 0, cells := 0, slots := 0, locals := 0 } : Room) s m #[(.int p1)] below meth c s₁ [] 0 0 := Stand.of_body Bd
  have e0 : s₁.heap = h0 := by rw [← hh, Bd.state]; rfl
  have N0 := Fr.nil n0
  have pre0 : ∀ t, Steps p.tables e below (s₁.setTop (mkF m 0 #[.val (.int p1)] [])) t → Steps p.tables e below (s₁.setTop (entryFrame m #[(.int p1)] 1)) t := fun t k => castTop (ef_rCE m p1) k
  obtain ⟨fs, hr, hrun, hended, hW, hsame⟩ := X0.leave (v := some (.int (1 : Int32))) (fun h => by rw [Bd.returns] at h; cases h) (BodyLoose.notSynchronized Bd)
  refine ⟨_, _, pre0 _ ?_, hrun, hended, _, _, rfl, ?_, ⟨_, rfl⟩, hW, hsame.mono (by decide) (by decide)⟩
  · show Steps p.tables e below (s₁.setTop (mkF m 0 #[.val (.int p1)] [])) _
    refine XS.iloadN X0.here hx rfl (hb hby d16_0) rfl ?_
    refine XS.sipush X0.here hx rfl (hb hby d16_1) ?_
    refine XS.icmpNo X0.here hx rfl (hb hby d16_4) rfl (flt hp).2.2.1 ?_
    refine XS.iconst X0.here hx rfl (hb hby d16_7) ?_
    refine XS.goto X0.here hx rfl (pc0 := 8) (pc' := 12) rfl (hb hby d16_8) (by decide) (by decide) ?_
    show Steps p.tables e below (s₁.setTop (mkF m 12 #[.val (.int p1)] [(.int (1 : Int32))])) _
    exact retN X0 hx (t := .boolean) Bd.returns (by simp) (hb hby d16_12) hr
  · show QrCE Z p1 h0 n0 _ s₁.heap _
    exact ⟨_, rfl, rfl, N0, e0⟩
theorem d17_0 : decode jdk_43_method_46_code 0 = .ok (.iconst 1, 1) := by decide +kernel
theorem d17_1 : decode jdk_43_method_46_code 1 = .ok (.newarray .byte, 2) := by decide +kernel
theorem d17_3 : decode jdk_43_method_46_code 3 = .ok (.dup, 1) := by decide +kernel
theorem d17_4 : decode jdk_43_method_46_code 4 = .ok (.iconst 0, 1) := by decide +kernel
theorem d17_5 : decode jdk_43_method_46_code 5 = .ok (.iload_n 0, 1) := by decide +kernel
theorem d17_6 : decode jdk_43_method_46_code 6 = .ok (.i2b, 1) := by decide +kernel
theorem d17_7 : decode jdk_43_method_46_code 7 = .ok (.bastore, 1) := by decide +kernel
theorem d17_8 : decode jdk_43_method_46_code 8 = .ok (.areturn, 1) := by decide +kernel
theorem pn_17 : plainName "java/lang/StringLatin1" = true := by first | (simp [plainName, overriddenIn]; done) | decide +kernel
theorem ef_rTB (m : MethodId) (p1 : Int32) : entryFrame m #[(.int p1)] 1 = mkF m 0 #[.val (.int p1)] [] := by first | (simp [entryFrame, mkF, argsToLocals, Value.category]; done) | rfl
def QrTB (Z : State) (p1 : Int32) (h0 : Heap) (n0 : Nat) (v : Option Value) (h : Heap) (L : List Loc) : Prop := ∃ o : Addr, v = some (.ref o) ∧ Fr n0 L ∧ Keep h0 h [] ∧ n0 ≤ o ∧ h0.size ≤ o
set_option maxRecDepth 65536 in
set_option maxHeartbeats 40000000 in
theorem rTB (l : Launch) (Z : State) (a0 : Array Value) (hw : ∀ d ∈ tables_1, d.before a0 Z = true) (ws : List Jvm.Cond) (p1 : Int32) (h0 : Heap) (n0 : Nat) (Z0 : n0 ≤ h0.size) :
    MetFree l (⟨"java/lang/StringLatin1", "toBytes", "(C)[B"⟩ : MethodName) (head1 (Jvm.Cond.code (⟨"java/lang/StringLatin1", "toBytes", "(C)[B"⟩ : MethodName) jdk_43_method_46_code 1 (some (.array .byte)) :: ws) ({ frames := 0, cells := 1, slots := 1, locals := 0 } : Room)) (fun a U => a = #[(.int p1)] ∧ Z.Warmed39 U.vm ∧ U.heap = h0) (fun _ _ _ _ _ => True) (fun _ U o U' => ∃ v L, o = .returned v ∧ QrTB Z p1 h0 n0 v U'.heap L ∧ FrameEnd U o U' L ({ frames := 0, cells := 1, slots := 1, locals := 0 } : Room).cells ({ frames := 0, cells := 1, slots := 1, locals := 0 } : Room).slots) := by
  refine MetFree.of_bodySF (plainFor_of_name pn_17) hisR ?_
  intro p e s m args below meth c s₁ Bd hml0 hP hK
  obtain ⟨rfl, hZ, hh⟩ := hP
  have hx := Bd.exec
  have hby := Bd.bytes
  have hml : c.maxLocals = 1 := hml0
  have hown : s.vm.findClass "java/lang/StringLatin1" = some m.cls := findClass_of_methodNamed Bd.named
  have hnm := (name_of_methodNamed Bd.named Bd.method).1
  have X0 : Stand p l e ({ frames := 0, cells := 1, slots := 1, locals := 0 } : Room) s m #[(.int p1)] below meth c s₁ [] 0 0 := Stand.of_body Bd
  have e0 : s₁.heap = h0 := by rw [← hh, Bd.state]; rfl
  have N0 := Fr.nil n0
  have pre0 : ∀ t, Steps p.tables e below (s₁.setTop (mkF m 0 #[.val (.int p1)] [])) t → Steps p.tables e below (s₁.setTop (entryFrame m #[(.int p1)] 1)) t := fun t k => castTop (ef_rTB m p1) k
  obtain ⟨T1, h1, ck1, X1, e1, E1, A1, st1⟩ := newP X0 hx hZ (hw _ (own_w 117 rfl)) e0 (g := (mkF m 1 #[.val (.int p1)] [(.int (1 : Int32))])) rfl (hb hby d17_1) rfl (by decide) (cap := 1) (by decide) (by decide) (by decide) (by decide)
  obtain ⟨b1o, g1⟩ : ∃ z, z = h0.size := ⟨_, rfl⟩
  have b1 : n0 ≤ b1o := Nat.le_trans Z0 (Nat.le_of_eq g1.symm)
  have bk1 : h0.size ≤ b1o := Nat.le_trans (Keep.refl h0 []).1 (Nat.le_of_eq g1.symm)
  rw [← g1] at A1 st1
  have Z1 : n0 ≤ h1.size := Nat.le_trans Z0 E1.1
  have K1 : Keep h0 h1 [] := (Keep.refl h0 []).ext E1
  have V1 : Arv Z h1 b1o ck1 .byte (1 : Int32) [(.int (0 : Int32))] (.int (0 : Int32)) := (Arv.new A1 (by decide)).pad (pad_rep [] (.int (0 : Int32)) 1)
  obtain ⟨cl2, Ar2, qk2, Sz2, Nn2, Hh2, Gg2⟩ := id (V1)
  have hin3 : ¬ ((0 : Int32) < 0 ∨ cl2.slots.size ≤ ((0 : Int32)).toNatClampNeg) := inb_of Sz2 ⟨by decide, by decide⟩
  obtain ⟨T3, h3, X3, e3, W3, st3⟩ := stB X1 hx hZ e1 Ar2 (j := (0 : Int32)) hin3  (g := (mkF m 7 #[.val (.int p1)] [(.int (p1.toInt8.toInt32)), (.int (0 : Int32)), (.ref b1o), (.ref b1o)])) rfl rfl (hb hby d17_7)
  have N3 := Fr.snoc X3 N0 b1
  have Z3 : n0 ≤ h3.size := by rw [W3.size]; exact Z1
  have K3 : Keep h0 h3 [] := K1.wr W3 (Or.inr bk1)
  have V3 : Arv Z h3 b1o ck1 .byte (1 : Int32) [(.int (nar .byte (p1.toInt8.toInt32)))] (.int (0 : Int32)) := Arv.set Ar2 qk2 Sz2 Nn2 Hh2 Gg2 (fits_nar_byte _) W3 0 rfl (Nat.le_of_ble_eq_true rfl)
  obtain ⟨fs, hr, hrun, hended, hW, hsame⟩ := X3.leave (v := some (.ref b1o)) (fun h => by rw [Bd.returns] at h; cases h) (BodyLoose.notSynchronized Bd)
  refine ⟨_, _, pre0 _ ?_, hrun, hended, _, _, rfl, ?_, ⟨_, rfl⟩, hW, hsame.mono (by decide) (by decide)⟩
  · show Steps p.tables e below (s₁.setTop (mkF m 0 #[.val (.int p1)] [])) _
    refine XS.iconst X0.here hx rfl (hb hby d17_0) ?_
    refine st1 _ ?_
    refine XS.dup X1.here hx rfl (hb hby d17_3) rfl rfl ?_
    refine XS.iconst X1.here hx rfl (hb hby d17_4) ?_
    refine XS.iloadN X1.here hx rfl (hb hby d17_5) rfl ?_
    refine XS.i2b X1.here hx rfl (hb hby d17_6) rfl ?_
    refine st3 _ ?_
    show Steps p.tables e below (T3.setTop (mkF m 8 #[.val (.int p1)] [(.ref b1o)])) _
    exact X3.areturnOut hx rfl Bd.returns rfl (hb hby d17_8) hr
  · show QrTB Z p1 h0 n0 _ T3.heap _
    rw [e3]
    exact ⟨b1o, rfl, N3, K3, b1, bk1⟩
theorem d18_0 : decode jdk_42_method_151_code 0 = .ok (.aload_n 0, 1) := by decide +kernel
theorem d18_1 : decode jdk_42_method_151_code 1 = .ok (.invokespecial 1, 3) := by decide +kernel
theorem d18_4 : decode jdk_42_method_151_code 4 = .ok (.aload_n 0, 1) := by decide +kernel
theorem d18_5 : decode jdk_42_method_151_code 5 = .ok (.aload_n 1, 1) := by decide +kernel
theorem d18_6 : decode jdk_42_method_151_code 6 = .ok (.putfield 9, 3) := by decide +kernel
theorem d18_9 : decode jdk_42_method_151_code 9 = .ok (.aload_n 0, 1) := by decide +kernel
theorem d18_10 : decode jdk_42_method_151_code 10 = .ok (.iload_n 2, 1) := by decide +kernel
theorem d18_11 : decode jdk_42_method_151_code 11 = .ok (.putfield 15, 3) := by decide +kernel
theorem d18_14 : decode jdk_42_method_151_code 14 = .ok (.return_, 1) := by decide +kernel
theorem pn_18 : plainName "java/lang/String" = true := by first | (simp [plainName, overriddenIn]; done) | decide +kernel
theorem ef_rSI (m : MethodId) (a1 : Addr) (a2 : Addr) : entryFrame m #[(.ref a1), (.ref a2), (.int (0 : Int32))] 3 = mkF m 0 #[.val (.ref a1), .val (.ref a2), .val (.int (0 : Int32))] [] := by first | (simp [entryFrame, mkF, argsToLocals, Value.category]; done) | rfl
def QrSI (Z : State) (a1 : Addr) (a2 : Addr) (h0 : Heap) (n0 : Nat) (v : Option Value) (h : Heap) (L : List Loc) : Prop := v = none ∧ Fr n0 L ∧ Keep h0 h [a1] ∧ Exa Z h a1 "java/lang/String"
set_option maxRecDepth 65536 in
set_option maxHeartbeats 40000000 in
theorem rSI (l : Launch) (Z : State) (a0 : Array Value) (hw : ∀ d ∈ tables_1, d.before a0 Z = true) (ws : List Jvm.Cond) (a1 : Addr) (a2 : Addr) (h0 : Heap) (n0 : Nat) (Z0 : n0 ≤ h0.size) (E : Exa Z h0 a1 "java/lang/String") (FV : Fld Z h0 a1 "java/lang/String" "value" "[B" .null) (FC : Fld Z h0 a1 "java/lang/String" "coder" "B" (.int (0 : Int32))) (ga : n0 ≤ a1) :
    MetFree l (⟨"java/lang/String", "<init>", "([BB)V"⟩ : MethodName) (head1 (Jvm.Cond.code (⟨"java/lang/String", "<init>", "([BB)V"⟩ : MethodName) jdk_42_method_151_code 3 none :: ws) ({ frames := 1, cells := 0, slots := 0, locals := 12 } : Room)) (fun a U => a = #[(.ref a1), (.ref a2), (.int (0 : Int32))] ∧ Z.Warmed39 U.vm ∧ U.heap = h0) (fun _ _ _ _ _ => True) (fun _ U o U' => ∃ v L, o = .returned v ∧ QrSI Z a1 a2 h0 n0 v U'.heap L ∧ FrameEnd U o U' L ({ frames := 1, cells := 0, slots := 0, locals := 12 } : Room).cells ({ frames := 1, cells := 0, slots := 0, locals := 12 } : Room).slots) := by
  refine MetFree.of_bodySF (plainFor_of_name pn_18) hisR ?_
  intro p e s m args below meth c s₁ Bd hml0 hP hK
  obtain ⟨rfl, hZ, hh⟩ := hP
  have hx := Bd.exec
  have hby := Bd.bytes
  have hml : c.maxLocals = 3 := hml0
  have hown : s.vm.findClass "java/lang/String" = some m.cls := findClass_of_methodNamed Bd.named
  have hnm := (name_of_methodNamed Bd.named Bd.method).1
  have X0 : Stand p l e ({ frames := 1, cells := 0, slots := 0, locals := 12 } : Room) s m #[(.ref a1), (.ref a2), (.int (0 : Int32))] below meth c s₁ [] 0 0 := Stand.of_body Bd
  have e0 : s₁.heap = h0 := by rw [← hh, Bd.state]; rfl
  have N0 := Fr.nil n0
  have pre0 : ∀ t, Steps p.tables e below (s₁.setTop (mkF m 0 #[.val (.ref a1), .val (.ref a2), .val (.int (0 : Int32))] [])) t → Steps p.tables e below (s₁.setTop (entryFrame m #[(.ref a1), (.ref a2), (.int (0 : Int32))] 3)) t := fun t k => castTop (ef_rSI m a1 a2) k
  obtain ⟨T1, X1, e1, st1⟩ := initO X0 hx hZ hown (hw _ (own_w 122 rfl)) (hw _ (own_w 19 rfl)) (hw _ (own_w 20 rfl)) e0 (g := (mkF m 1 #[.val (.ref a1), .val (.ref a2), .val (.int (0 : Int32))] [(.ref a1)])) rfl (by rw [hml]; rfl) rfl (hb hby d18_1) (by decide) (W := 0) (by show 2 * 0 + _ ≤ _; exact Nat.le_of_eq rfl) (by decide)
  obtain ⟨T2, h2, X2, e2, W2, st2⟩ := putF X1 hx hZ hown (host := "") (Or.inl (hw _ (own_w 123 rfl))) Via.refl e1 FV E (Or.inr ⟨(hw _ (own_w 124 rfl)), rfl, hnm⟩) (hw _ (own_w 113 rfl)) (ty := (.array .byte)) (by decide) rfl rfl (g := (mkF m 6 #[.val (.ref a1), .val (.ref a2), .val (.int (0 : Int32))] [(.ref a2), (.ref a1)])) rfl rfl (hb hby d18_6)
  have N2 := Fr.snoc X2 N0 ga
  have Z2 : n0 ≤ h2.size := by rw [W2.size]; exact Z0
  have K2 : Keep h0 h2 [a1] := (Keep.refl h0 [a1]).wr W2 (Or.inl (own_w 0 rfl))
  have Fw2 := FV.same W2
  have f3 := (E.wr W2)
  have f4 := (FC.other W2 (Or.inr (slot_ne (Or.inr (hw _ (own_w 126 rfl))) (Or.inr (hw _ (own_w 124 rfl))) (by decide) (t := .byte) (t' := (.array .byte)) (by decide) (by decide))))
  obtain ⟨T5, h5, X5, e5, W5, st5⟩ := putFN X2 hx hZ hown (hw _ (own_w 125 rfl)) Via.refl e2 f4 f3 (Or.inr ⟨(hw _ (own_w 126 rfl)), rfl, hnm⟩) (hw _ (own_w 113 rfl)) (ty := .byte) (v' := (.int (nar .byte (0 : Int32)))) (by decide) rfl (fits_nar_byte _) (g := (mkF m 11 #[.val (.ref a1), .val (.ref a2), .val (.int (0 : Int32))] [(.int (0 : Int32)), (.ref a1)])) rfl rfl (hb hby d18_11)
  have N5 := Fr.snoc X5 N2 ga
  have Z5 : n0 ≤ h5.size := by rw [W5.size]; exact Z2
  have K5 : Keep h0 h5 [a1] := K2.wr W5 (Or.inl (own_w 0 rfl))
  have Fw5 := f4.same W5
  obtain ⟨fs, hr, hrun, hended, hW, hsame⟩ := X5.leave (v := none) (fun _ => rfl) (BodyLoose.notSynchronized Bd)
  refine ⟨_, _, pre0 _ ?_, hrun, hended, _, _, rfl, ?_, ⟨_, rfl⟩, hW, hsame.mono (by decide) (by decide)⟩
  · show Steps p.tables e below (s₁.setTop (mkF m 0 #[.val (.ref a1), .val (.ref a2), .val (.int (0 : Int32))] [])) _
    refine XS.aloadN X0.here hx rfl (hb hby d18_0) rfl rfl ?_
    refine st1 _ ?_
    refine XS.aloadN X1.here hx rfl (hb hby d18_4) rfl rfl ?_
    refine XS.aloadN X1.here hx rfl (hb hby d18_5) rfl rfl ?_
    refine st2 _ ?_
    refine XS.aloadN X2.here hx rfl (hb hby d18_9) rfl rfl ?_
    refine XS.iloadN X2.here hx rfl (hb hby d18_10) rfl ?_
    refine st5 _ ?_
    show Steps p.tables e below (T5.setTop (mkF m 14 #[.val (.ref a1), .val (.ref a2), .val (.int (0 : Int32))] [])) _
    exact X5.returnOut hx Bd.returns (hb hby d18_14) hr
  · show QrSI Z a1 a2 h0 n0 _ T5.heap _
    have f6 := (f3.wr W5)
    rw [e5]
    exact ⟨rfl, N5, K5, f6⟩
theorem pd_1 : parseMethodDescriptor "(C)Z" = some ⟨[.char], some .boolean⟩ := by decide +kernel
theorem pd_2 : parseMethodDescriptor "(C)[B" = some ⟨[.char], some (.array .byte)⟩ := by decide +kernel
theorem pd_3 : parseMethodDescriptor "([BB)V" = some ⟨[(.array .byte), .byte], none⟩ := by decide +kernel
theorem d15_0 : decode jdk_42_method_139_code 0 = .ok (.getstatic 38, 3) := by decide +kernel
theorem d15_3 : decode jdk_42_method_139_code 3 = .ok (.ifCond .eq 23, 3) := by decide +kernel
theorem d15_6 : decode jdk_42_method_139_code 6 = .ok (.iload_n 0, 1) := by decide +kernel
theorem d15_7 : decode jdk_42_method_139_code 7 = .ok (.invokestatic 1015, 3) := by decide +kernel
theorem d15_10 : decode jdk_42_method_139_code 10 = .ok (.ifCond .eq 16, 3) := by decide +kernel
theorem d15_13 : decode jdk_42_method_139_code 13 = .ok (.new 10, 3) := by decide +kernel
theorem d15_16 : decode jdk_42_method_139_code 16 = .ok (.dup, 1) := by decide +kernel
theorem d15_17 : decode jdk_42_method_139_code 17 = .ok (.iload_n 0, 1) := by decide +kernel
theorem d15_18 : decode jdk_42_method_139_code 18 = .ok (.invokestatic 1018, 3) := by decide +kernel
theorem d15_21 : decode jdk_42_method_139_code 21 = .ok (.iconst 0, 1) := by decide +kernel
theorem d15_22 : decode jdk_42_method_139_code 22 = .ok (.invokespecial 209, 3) := by decide +kernel
theorem d15_25 : decode jdk_42_method_139_code 25 = .ok (.areturn, 1) := by decide +kernel
theorem pn_15 : plainName "java/lang/String" = true := by first | (simp [plainName, overriddenIn]; done) | decide +kernel
theorem ef_rSV (m : MethodId) (p1 : Int32) : entryFrame m #[(.int p1)] 1 = mkF m 0 #[.val (.int p1)] [] := by first | (simp [entryFrame, mkF, argsToLocals, Value.category]; done) | rfl
def QrSV (Z : State) (p1 : Int32) (G1 : Int32) (h0 : Heap) (n0 : Nat) (v : Option Value) (h : Heap) (L : List Loc) : Prop := ∃ o : Addr, v = some (.ref o) ∧ Fr n0 L ∧ Keep h0 h [] ∧ n0 ≤ o ∧ h0.size ≤ o ∧ Exa Z h o "java/lang/String"
set_option maxRecDepth 65536 in
set_option maxHeartbeats 40000000 in
theorem rSV (l : Launch) (Z : State) (a0 : Array Value) (hw : ∀ d ∈ tables_1, d.before a0 Z = true) (ws : List Jvm.Cond) (p1 : Int32) (G1 : Int32) (h0 : Heap) (n0 : Nat) (Z0 : n0 ≤ h0.size) (hp : ¬ (255 : Int32) < p1) (X00 : Old Z n0 h0) (O_2 : Sta Z Z.heap "java/lang/String" "COMPACT_STRINGS" "Z" (.int G1)) (P5 : ¬ (G1 = (0 : Int32))) :
    MetFree l (⟨"java/lang/String", "valueOf", "(C)Ljava/lang/String;"⟩ : MethodName) (head1 (Jvm.Cond.code (⟨"java/lang/String", "valueOf", "(C)Ljava/lang/String;"⟩ : MethodName) jdk_42_method_139_code 1 (some (.object "java/lang/String")) :: ws) ({ frames := 2, cells := 2, slots := 5, locals := 27 } : Room)) (fun a U => a = #[(.int p1)] ∧ Z.Warmed39 U.vm ∧ U.heap = h0) (fun _ _ _ _ _ => True) (fun _ U o U' => ∃ v L, o = .returned v ∧ QrSV Z p1 G1 h0 n0 v U'.heap L ∧ FrameEnd U o U' L ({ frames := 2, cells := 2, slots := 5, locals := 27 } : Room).cells ({ frames := 2, cells := 2, slots := 5, locals := 27 } : Room).slots) := by
  refine MetFree.of_bodySF (plainFor_of_name pn_15) hisR ?_
  intro p e s m args below meth c s₁ Bd hml0 hP hK
  obtain ⟨rfl, hZ, hh⟩ := hP
  have hx := Bd.exec
  have hby := Bd.bytes
  have hml : c.maxLocals = 1 := hml0
  have hown : s.vm.findClass "java/lang/String" = some m.cls := findClass_of_methodNamed Bd.named
  have hnm := (name_of_methodNamed Bd.named Bd.method).1
  have X0 : Stand p l e ({ frames := 2, cells := 2, slots := 5, locals := 27 } : Room) s m #[(.int p1)] below meth c s₁ [] 0 0 := Stand.of_body Bd
  have e0 : s₁.heap = h0 := by rw [← hh, Bd.state]; rfl
  have N0 := Fr.nil n0
  have pre0 : ∀ t, Steps p.tables e below (s₁.setTop (mkF m 0 #[.val (.int p1)] [])) t → Steps p.tables e below (s₁.setTop (entryFrame m #[(.int p1)] 1)) t := fun t k => castTop (ef_rSV m p1) k
  obtain ⟨T1, X1, e1, st1⟩ := getS2 X0 hx hZ hown (host := "") (Or.inl (hw _ (own_w 107 rfl))) Via.refl e0 (O_2.ext X00.2) (g := (mkF m 0 #[.val (.int p1)] [])) rfl (hb hby d15_0)
  obtain ⟨_, _, ⟨T2, Lq2, kq2, nq2⟩, -, X2, ⟨Lc2, hQ2, lq2, yq2, zq2⟩, st2⟩ := Jvm.LawKit.callS X1 hx (y := (⟨"java/lang/StringLatin1", "canEncode", "(C)Z"⟩ : MethodName)) hown (mvT hZ (hw _ (own_w 108 rfl))) (mvT hZ (hw _ (own_w 109 rfl))) (mvT hZ (hw _ (own_w 110 rfl))) (mvT hZ (hw _ (own_w 111 rfl))) (by decide) (backOf (W := 0) (rCE l Z a0 hw [] p1  h0 n0 Z0 hp) hZ (hw _ (own_w 111 rfl)) (hw _ (own_w 110 rfl)) (by decide) (by decide)) (g := (mkF m 7 #[.val (.int p1)] [(.int p1)])) rfl (by rw [hml]; rfl) (argsL := [(.int p1)]) (rest := []) (lenOf pd_1 rfl) rfl (by show 2 * 0 + _ ≤ _; exact Nat.le_of_eq rfl) (hb hby d15_7) (fun _ _ => ⟨rfl, e1, (by decide : 0 + 0 ≤ _), (by decide : 0 + 0 ≤ _)⟩)
  dsimp only [Pt.U, Pt.locs, Pt.cells, Pt.slots] at X2 lq2 yq2 zq2 st2 hQ2
  subst lq2 yq2 zq2
  obtain ⟨r2, hr2, rfl, N2q, e2⟩ := hQ2
  have N2 := Fr.app N0 N2q
  subst hr2
  obtain ⟨T3, h3, X3, e3, E3, A3, D3, -, st3⟩ := newO X2 hx hZ hown (hw _ (own_w 112 rfl)) (hw _ (own_w 113 rfl)) (hw _ (own_w 105 rfl)) e2 (g := (mkF m 13 #[.val (.int p1)] [])) rfl (hb hby d15_13) (by decide) (by decide)
  obtain ⟨b3o, g3⟩ : ∃ z, z = h0.size := ⟨_, rfl⟩
  have b3 : n0 ≤ b3o := Nat.le_trans Z0 (Nat.le_of_eq g3.symm)
  have bk3 : h0.size ≤ b3o := Nat.le_trans (Keep.refl h0 []).1 (Nat.le_of_eq g3.symm)
  rw [← g3] at A3 D3 st3
  have Z3 : n0 ≤ h3.size := Nat.le_trans Z0 E3.1
  have K3 : Keep h0 h3 [] := (Keep.refl h0 []).ext E3
  have F3_124 : Fld Z h3 b3o "java/lang/String" "value" "[B" .null := D3 (Or.inr (hw _ (own_w 124 rfl))) (ty := (.array .byte)) (by decide)
  have F3_126 : Fld Z h3 b3o "java/lang/String" "coder" "B" (.int (0 : Int32)) := D3 (Or.inr (hw _ (own_w 126 rfl))) (ty := .byte) (by decide)
  obtain ⟨_, _, ⟨T4, Lq4, kq4, nq4⟩, -, X4, ⟨Lc4, hQ4, lq4, yq4, zq4⟩, st4⟩ := Jvm.LawKit.callS X3 hx (y := (⟨"java/lang/StringLatin1", "toBytes", "(C)[B"⟩ : MethodName)) hown (mvT hZ (hw _ (own_w 114 rfl))) (mvT hZ (hw _ (own_w 115 rfl))) (mvT hZ (hw _ (own_w 110 rfl))) (mvT hZ (hw _ (own_w 116 rfl))) (by decide) (backOf (W := 2) (rTB l Z a0 hw [] p1  h3 n0 Z3 ) hZ (hw _ (own_w 116 rfl)) (hw _ (own_w 110 rfl)) (by decide) (by decide)) (g := (mkF m 18 #[.val (.int p1)] [(.int p1), (.ref b3o), (.ref b3o)])) rfl (by rw [hml]; rfl) (argsL := [(.int p1)]) (rest := [(.ref b3o), (.ref b3o)]) (lenOf pd_2 rfl) rfl (by show 2 * 0 + _ ≤ _; exact Nat.le_of_eq rfl) (hb hby d15_18) (fun _ _ => ⟨rfl, e3, (by decide : 1 + 1 ≤ _), (by decide : 4 + 1 ≤ _)⟩)
  dsimp only [Pt.U, Pt.locs, Pt.cells, Pt.slots] at X4 lq4 yq4 zq4 st4 hQ4
  subst lq4 yq4 zq4
  obtain ⟨o4, rfl, N4q, KC4, go4, gk4⟩ := hQ4
  have N4 := Fr.app N2 N4q
  have Z4 : n0 ≤ T4.heap.size := Nat.le_trans Z3 KC4.1
  have ne5 : b3o ≠ o4 := Nat.ne_of_lt (Nat.lt_of_lt_of_le F3_126.lt gk4)
  have K4 : Keep h0 T4.heap [] := K3.trans KC4 all0
  have f7 := (A3.keep KC4)
  have f8 := (F3_124.keep KC4 nin0)
  have f9 := (F3_126.keep KC4 nin0)
  obtain ⟨_, _, ⟨T6, Lq6, kq6, nq6⟩, -, X6, ⟨Lc6, hQ6, lq6, yq6, zq6⟩, st6⟩ := X4.specialBack hx (y := (⟨"java/lang/String", "<init>", "([BB)V"⟩ : MethodName)) rfl hown (mvT hZ (hw _ (own_w 118 rfl))) (mvT hZ (hw _ (own_w 119 rfl))) (mvT hZ (hw _ (own_w 121 rfl))) (by decide) (backOf (W := 1) (rSI l Z a0 hw [] b3o o4  T4.heap n0 Z4 f7 f8 f9 b3) hZ (hw _ (own_w 121 rfl)) (hw _ (own_w 105 rfl)) (by decide) (by decide)) (g := (mkF m 22 #[.val (.int p1)] [(.int (0 : Int32)), (.ref o4), (.ref b3o), (.ref b3o)])) rfl (by rw [hml]; rfl) (Steps.refl _) (a := b3o) (argsL := [(.ref o4), (.int (0 : Int32))]) (rest := [(.ref b3o)]) (lenOf pd_3 rfl) rfl (by show 2 * 0 + _ ≤ _; exact Nat.le_of_eq rfl) (hb hby d15_22) (fun _ _ => ⟨rfl, rfl, (by decide : 2 + 0 ≤ _), (by decide : 5 + 0 ≤ _)⟩)
  dsimp only [Pt.U, Pt.locs, Pt.cells, Pt.slots] at X6 lq6 yq6 zq6 st6 hQ6
  subst lq6 yq6 zq6
  obtain ⟨rfl, N6q, KC6, u6⟩ := hQ6
  have N6 := Fr.app N4 N6q
  have Z6 : n0 ≤ T6.heap.size := Nat.le_trans Z4 KC6.1
  have K6 : Keep h0 T6.heap [] := K4.trans KC6 (allS (Or.inr bk3) all0)
  obtain ⟨fs, hr, hrun, hended, hW, hsame⟩ := X6.leave (v := some (.ref b3o)) (fun h => by rw [Bd.returns] at h; cases h) (BodyLoose.notSynchronized Bd)
  refine ⟨_, _, pre0 _ ?_, hrun, hended, _, _, rfl, ?_, ⟨_, rfl⟩, hW, hsame.mono (by decide) (by decide)⟩
  · show Steps p.tables e below (s₁.setTop (mkF m 0 #[.val (.int p1)] [])) _
    refine st1 _ ?_
    refine XS.ifNo X1.here hx rfl (hb hby d15_3) rfl ((if0 _ _).trans (feq P5).1) ?_
    refine XS.iloadN X1.here hx rfl (hb hby d15_6) rfl ?_
    refine st2 _ ?_
    refine XS.ifNo X2.here hx rfl (hb hby d15_10) rfl ((if0 _ _).trans (feq (by decide)).1) ?_
    refine st3 _ ?_
    refine XS.dup X3.here hx rfl (hb hby d15_16) rfl rfl ?_
    refine XS.iloadN X3.here hx rfl (hb hby d15_17) rfl ?_
    refine st4 _ ?_
    refine XS.iconst X4.here hx rfl (hb hby d15_21) ?_
    refine st6.trans ?_
    show Steps p.tables e below (T6.setTop (mkF m 25 #[.val (.int p1)] [(.ref b3o)])) _
    exact X6.areturnOut hx rfl Bd.returns rfl (hb hby d15_25) hr
  · show QrSV Z p1 G1 h0 n0 _ T6.heap _
    exact ⟨b3o, rfl, N6, K6, b3, bk3, u6⟩
theorem pd_4 : parseMethodDescriptor "(II)I" = some ⟨[.int, .int], some .int⟩ := by decide +kernel
theorem d22_0 : decode jdk_38_method_6_code 0 = .ok (.aload_n 0, 1) := by decide +kernel
theorem d22_1 : decode jdk_38_method_6_code 1 = .ok (.getfield 9, 3) := by decide +kernel
theorem d22_4 : decode jdk_38_method_6_code 4 = .ok (.arraylength, 1) := by decide +kernel
theorem d22_5 : decode jdk_38_method_6_code 5 = .ok (.istore_n 2, 1) := by decide +kernel
theorem d22_6 : decode jdk_38_method_6_code 6 = .ok (.iload_n 2, 1) := by decide +kernel
theorem d22_7 : decode jdk_38_method_6_code 7 = .ok (.ifCond .gt 13, 3) := by decide +kernel
theorem d22_10 : decode jdk_38_method_6_code 10 = .ok (.aload_n 0, 1) := by decide +kernel
theorem d22_11 : decode jdk_38_method_6_code 11 = .ok (.getfield 9, 3) := by decide +kernel
theorem d22_14 : decode jdk_38_method_6_code 14 = .ok (.getstatic 39, 3) := by decide +kernel
theorem d22_17 : decode jdk_38_method_6_code 17 = .ok (.if_acmp .eq 28, 3) := by decide +kernel
theorem d22_45 : decode jdk_38_method_6_code 45 = .ok (.aload_n 0, 1) := by decide +kernel
theorem d22_46 : decode jdk_38_method_6_code 46 = .ok (.bipush 10, 2) := by decide +kernel
theorem d22_48 : decode jdk_38_method_6_code 48 = .ok (.iload_n 1, 1) := by decide +kernel
theorem d22_49 : decode jdk_38_method_6_code 49 = .ok (.invokestatic 79, 3) := by decide +kernel
theorem d22_52 : decode jdk_38_method_6_code 52 = .ok (.anewarray 7, 3) := by decide +kernel
theorem d22_55 : decode jdk_38_method_6_code 55 = .ok (.dup_x1, 1) := by decide +kernel
theorem d22_56 : decode jdk_38_method_6_code 56 = .ok (.putfield 9, 3) := by decide +kernel
theorem d22_59 : decode jdk_38_method_6_code 59 = .ok (.areturn, 1) := by decide +kernel
theorem pn_22 : plainName "java/util/ArrayList" = true := by first | (simp [plainName, overriddenIn]; done) | decide +kernel
theorem ef_rG1 (m : MethodId) (a1 : Addr) : entryFrame m #[(.ref a1), (.int (1 : Int32))] 4 = mkF m 0 #[.val (.ref a1), .val (.int (1 : Int32)), .unset, .unset] [] := by first | (simp [entryFrame, mkF, argsToLocals, Value.category]; done) | rfl
def QrG1 (Z : State) (a1 : Addr) (d0 : Addr) (mc : Int32) (kd : ClassId) (h0 : Heap) (n0 : Nat) (v : Option Value) (h : Heap) (L : List Loc) : Prop := ∃ (na : Addr) (nk : ClassId), v = some (.ref na) ∧ Fr n0 L ∧ Keep h0 h [a1] ∧ n0 ≤ na ∧ h0.size ≤ na ∧ Exa Z h a1 "java/util/ArrayList" ∧ Fld Z h a1 "java/util/AbstractList" "modCount" "I" (.int mc) ∧ Fld Z h a1 "java/util/ArrayList" "elementData" "[Ljava/lang/Object;" (.ref na) ∧ Fld Z h a1 "java/util/ArrayList" "size" "I" (.int (0 : Int32)) ∧ Arv Z h na nk (.object "java/lang/Object") (10 : Int32) [.null, .null, .null, .null, .null, .null, .null, .null, .null, .null] .null ∧ Exa Z h na "[Ljava/lang/Object;" ∧ Ovr Z nk "java/lang/Object"
set_option maxRecDepth 65536 in
set_option maxHeartbeats 40000000 in
theorem rG1 (l : Launch) (Z : State) (a0 : Array Value) (hw : ∀ d ∈ tables_1, d.before a0 Z = true) (ws : List Jvm.Cond) (a1 : Addr) (d0 : Addr) (mc : Int32) (kd : ClassId) (h0 : Heap) (n0 : Nat) (Z0 : n0 ≤ h0.size) (E : Exa Z h0 a1 "java/util/ArrayList") (FM : Fld Z h0 a1 "java/util/AbstractList" "modCount" "I" (.int mc)) (FE : Fld Z h0 a1 "java/util/ArrayList" "elementData" "[Ljava/lang/Object;" (.ref d0)) (FZ : Fld Z h0 a1 "java/util/ArrayList" "size" "I" (.int (0 : Int32))) (ga : n0 ≤ a1) (X00 : Old Z n0 h0) (O_D : Sta Z Z.heap "java/util/ArrayList" "DEFAULTCAPACITY_EMPTY_ELEMENTDATA" "[Ljava/lang/Object;" (.ref d0)) (O_AD : Arv Z Z.heap d0 kd (.object "java/lang/Object") (0 : Int32) [] .null) :
    MetFree l (⟨"java/util/ArrayList", "grow", "(I)[Ljava/lang/Object;"⟩ : MethodName) (head1 (Jvm.Cond.code (⟨"java/util/ArrayList", "grow", "(I)[Ljava/lang/Object;"⟩ : MethodName) jdk_38_method_6_code 4 (some (.array (.object "java/lang/Object"))) :: ws) ({ frames := 1, cells := 1, slots := 10, locals := 14 } : Room)) (fun a U => a = #[(.ref a1), (.int (1 : Int32))] ∧ Z.Warmed39 U.vm ∧ U.heap = h0) (fun _ _ _ _ _ => True) (fun _ U o U' => ∃ v L, o = .returned v ∧ QrG1 Z a1 d0 mc kd h0 n0 v U'.heap L ∧ FrameEnd U o U' L ({ frames := 1, cells := 1, slots := 10, locals := 14 } : Room).cells ({ frames := 1, cells := 1, slots := 10, locals := 14 } : Room).slots) := by
  refine MetFree.of_bodySF (plainFor_of_name pn_22) hisR ?_
  intro p e s m args below meth c s₁ Bd hml0 hP hK
  obtain ⟨rfl, hZ, hh⟩ := hP
  have hx := Bd.exec
  have hby := Bd.bytes
  have hml : c.maxLocals = 4 := hml0
  have hown : s.vm.findClass "java/util/ArrayList" = some m.cls := findClass_of_methodNamed Bd.named
  have hnm := (name_of_methodNamed Bd.named Bd.method).1
  have X0 : Stand p l e ({ frames := 1, cells := 1, slots := 10, locals := 14 } : Room) s m #[(.ref a1), (.int (1 : Int32))] below meth c s₁ [] 0 0 := Stand.of_body Bd
  have e0 : s₁.heap = h0 := by rw [← hh, Bd.state]; rfl
  have N0 := Fr.nil n0
  have pre0 : ∀ t, Steps p.tables e below (s₁.setTop (mkF m 0 #[.val (.ref a1), .val (.int (1 : Int32)), .unset, .unset] [])) t → Steps p.tables e below (s₁.setTop (entryFrame m #[(.ref a1), (.int (1 : Int32))] 4)) t := fun t k => castTop (ef_rG1 m a1) k
  obtain ⟨T1, X1, e1, st1⟩ := getF X0 hx hZ hown (host := "") (Or.inl (hw _ (own_w 24 rfl))) Via.refl e0 FE (g := (mkF m 1 #[.val (.ref a1), .val (.int (1 : Int32)), .unset, .unset] [(.ref a1)])) rfl rfl (hb hby d22_1)
  obtain ⟨cl2, Ar2, qk2, Sz2, Nn2, Hh2, Gg2⟩ := id ((O_AD.ext X00.2))
  obtain ⟨T3, X3, e3, st3⟩ := getF X1 hx hZ hown (host := "") (Or.inl (hw _ (own_w 24 rfl))) Via.refl e1 FE (g := (mkF m 11 #[.val (.ref a1), .val (.int (1 : Int32)), .val (.int (0 : Int32)), .unset] [(.ref a1)])) rfl rfl (hb hby d22_11)
  obtain ⟨T4, X4, e4, st4⟩ := getS2 X3 hx hZ hown (host := "") (Or.inl (hw _ (own_w 23 rfl))) Via.refl e3 (O_D.ext X00.2) (g := (mkF m 14 #[.val (.ref a1), .val (.int (1 : Int32)), .val (.int (0 : Int32)), .unset] [(.ref d0)])) rfl (hb hby d22_14)
  obtain ⟨_, _, ⟨T5, Lq5, kq5, nq5⟩, -, X5, ⟨Lc5, hQ5, lq5, yq5, zq5⟩, st5⟩ := Jvm.LawKit.callS X4 hx (y := (⟨"java/lang/Math", "max", "(II)I"⟩ : MethodName)) hown (mvT hZ (hw _ (own_w 149 rfl))) (mvT hZ (hw _ (own_w 150 rfl))) (mvT hZ (hw _ (own_w 151 rfl))) (mvT hZ (hw _ (own_w 152 rfl))) (by decide) (backOf (W := 1) (rMx l Z a0 hw []   h0 n0 Z0 ) hZ (hw _ (own_w 152 rfl)) (hw _ (own_w 151 rfl)) (by decide) (by decide)) (g := (mkF m 49 #[.val (.ref a1), .val (.int (1 : Int32)), .val (.int (0 : Int32)), .unset] [(.int (1 : Int32)), (.int (10 : Int32)), (.ref a1)])) rfl (by rw [hml]; rfl) (argsL := [(.int (10 : Int32)), (.int (1 : Int32))]) (rest := [(.ref a1)]) (lenOf pd_4 rfl) rfl (by show 2 * 0 + _ ≤ _; exact Nat.le_of_eq rfl) (hb hby d22_49) (fun _ _ => ⟨rfl, e4, (by decide : 0 + 0 ≤ _), (by decide : 0 + 0 ≤ _)⟩)
  dsimp only [Pt.U, Pt.locs, Pt.cells, Pt.slots] at X5 lq5 yq5 zq5 st5 hQ5
  subst lq5 yq5 zq5
  obtain ⟨r5, hr5, rfl, N5q, e5⟩ := hQ5
  have N5 := Fr.app N0 N5q
  subst hr5
  obtain ⟨T6, h6, ck6, X6, e6, E6, A6, EX6, O6, st6⟩ := newRE X5 hx hZ hown (hw _ (own_w 153 rfl)) (hw _ (own_w 154 rfl)) e5 (g := (mkF m 52 #[.val (.ref a1), .val (.int (1 : Int32)), .val (.int (0 : Int32)), .unset] [(.int (10 : Int32)), (.ref a1)])) rfl (hb hby d22_52) rfl (by decide) (cap := 10) (by decide) (by decide) (by decide) (by decide) (ad := "[Ljava/lang/Object;") (by decide +kernel)
  obtain ⟨b6o, g6⟩ : ∃ z, z = h0.size := ⟨_, rfl⟩
  have b6 : n0 ≤ b6o := Nat.le_trans Z0 (Nat.le_of_eq g6.symm)
  have bk6 : h0.size ≤ b6o := Nat.le_trans (Keep.refl h0 [a1]).1 (Nat.le_of_eq g6.symm)
  have ne7 : a1 ≠ b6o := Nat.ne_of_lt (Nat.lt_of_lt_of_le E.lt (Nat.le_of_eq g6.symm))
  have ne8 : d0 ≠ b6o := Nat.ne_of_lt (Nat.lt_of_lt_of_le (O_AD.ext X00.2).lt (Nat.le_of_eq g6.symm))
  rw [← g6] at A6 EX6 st6
  have Z6 : n0 ≤ h6.size := Nat.le_trans Z0 E6.1
  have K6 : Keep h0 h6 [a1] := (Keep.refl h0 [a1]).ext E6
  have V6 : Arv Z h6 b6o ck6 (.object "java/lang/Object") (10 : Int32) [.null, .null, .null, .null, .null, .null, .null, .null, .null, .null] .null := (Arv.new A6 (by decide)).pad (pad_rep [] .null 10)
  have f9 := (E.ext E6)
  have f10 := (FE.ext E6)
  obtain ⟨T11, h11, X11, e11, W11, st11⟩ := putF X6 hx hZ hown (host := "") (Or.inl (hw _ (own_w 24 rfl))) Via.refl e6 f10 f9 (Or.inl (hw _ (own_w 25 rfl))) (hw _ (own_w 1 rfl)) (ty := (.array (.object "java/lang/Object"))) (by decide) rfl rfl (g := (mkF m 56 #[.val (.ref a1), .val (.int (1 : Int32)), .val (.int (0 : Int32)), .unset] [(.ref b6o), (.ref a1), (.ref b6o)])) rfl rfl (hb hby d22_56)
  have N11 := Fr.snoc X11 N5 ga
  have Z11 : n0 ≤ h11.size := by rw [W11.size]; exact Z6
  have K11 : Keep h0 h11 [a1] := K6.wr W11 (Or.inl (own_w 0 rfl))
  have Fw11 := f10.same W11
  obtain ⟨fs, hr, hrun, hended, hW, hsame⟩ := X11.leave (v := some (.ref b6o)) (fun h => by rw [Bd.returns] at h; cases h) (BodyLoose.notSynchronized Bd)
  refine ⟨_, _, pre0 _ ?_, hrun, hended, _, _, rfl, ?_, ⟨_, rfl⟩, hW, hsame.mono (by decide) (by decide)⟩
  · show Steps p.tables e below (s₁.setTop (mkF m 0 #[.val (.ref a1), .val (.int (1 : Int32)), .unset, .unset] [])) _
    refine XS.aloadN X0.here hx rfl (hb hby d22_0) rfl rfl ?_
    refine st1 _ ?_
    refine X1.arraylength hx (by rw [e1]; exact Ar2.1) (State.isArrayOf_alike hZ.alike Ar2.2.1) (g := (mkF m 4 #[.val (.ref a1), .val (.int (1 : Int32)), .unset, .unset] [(.ref d0)])) rfl rfl (hb hby d22_4) _ ?_
    rw [len_of Sz2 Nn2]
    show Steps p.tables e below (T1.setTop (mkF m 5 #[.val (.ref a1), .val (.int (1 : Int32)), .unset, .unset] [(.int (0 : Int32))])) _
    refine XS.istoreN X1.here hx rfl (hb hby d22_5) rfl (l' := #[.val (.ref a1), .val (.int (1 : Int32)), .val (.int (0 : Int32)), .unset]) rfl ?_
    refine XS.iloadN X1.here hx rfl (hb hby d22_6) rfl ?_
    refine XS.ifNo X1.here hx rfl (hb hby d22_7) rfl ((if0 _ _).trans (flt (by decide)).2.2.1) ?_
    refine XS.aloadN X1.here hx rfl (hb hby d22_10) rfl rfl ?_
    refine st3 _ ?_
    refine st4 _ ?_
    refine Jvm.RoadKit.acmp (g := (mkF m 17 #[.val (.ref a1), .val (.int (1 : Int32)), .val (.int (0 : Int32)), .unset] [(.ref d0), (.ref d0)])) X4 hx rfl rfl rfl (pc0 := 17) (pc' := 45) (same := true) rfl (hb hby d22_17) rfl (decide_eq_true rfl) (by decide) (by decide) ?_
    refine XS.aloadN X4.here hx rfl (hb hby d22_45) rfl rfl ?_
    refine XS.bipush X4.here hx rfl (hb hby d22_46) ?_
    refine XS.iloadN X4.here hx rfl (hb hby d22_48) rfl ?_
    refine st5 _ ?_
    refine st6 _ ?_
    refine XS.dupX1 X6.here hx rfl (hb hby d22_55) rfl rfl rfl ?_
    refine st11 _ ?_
    show Steps p.tables e below (T11.setTop (mkF m 59 #[.val (.ref a1), .val (.int (1 : Int32)), .val (.int (0 : Int32)), .unset] [(.ref b6o)])) _
    exact X11.areturnOut hx rfl Bd.returns rfl (hb hby d22_59) hr
  · show QrG1 Z a1 d0 mc kd h0 n0 _ T11.heap _
    have f12 := (f9.wr W11)
    have f13 := ((FM.ext E6).other W11 (Or.inr (slot_ne (Or.inl (hw _ (own_w 22 rfl))) (Or.inl (hw _ (own_w 25 rfl))) (by decide) (t := .int) (t' := (.array (.object "java/lang/Object"))) (by decide) (by decide))))
    have f14 := ((FZ.ext E6).other W11 (Or.inr (slot_ne (Or.inl (hw _ (own_w 62 rfl))) (Or.inl (hw _ (own_w 25 rfl))) (by decide) (t := .int) (t' := (.array (.object "java/lang/Object"))) (by decide) (by decide))))
    have f15 := (V6.other W11 (Ne.symm ne7))
    have f16 := (EX6.wr W11)
    rw [e11]
    exact ⟨b6o, _, rfl, N11, K11, b6, bk6, f12, f13, Fw11, f14, f15, f16, O6⟩
theorem pd_5 : parseMethodDescriptor "(I)[Ljava/lang/Object;" = some ⟨[.int], some (.array (.object "java/lang/Object"))⟩ := by decide +kernel
theorem d21_0 : decode jdk_38_method_7_code 0 = .ok (.aload_n 0, 1) := by decide +kernel
theorem d21_1 : decode jdk_38_method_7_code 1 = .ok (.aload_n 0, 1) := by decide +kernel
theorem d21_2 : decode jdk_38_method_7_code 2 = .ok (.getfield 48, 3) := by decide +kernel
theorem d21_5 : decode jdk_38_method_7_code 5 = .ok (.iconst 1, 1) := by decide +kernel
theorem d21_6 : decode jdk_38_method_7_code 6 = .ok (.iadd, 1) := by decide +kernel
theorem d21_7 : decode jdk_38_method_7_code 7 = .ok (.invokevirtual 69, 3) := by decide +kernel
theorem d21_10 : decode jdk_38_method_7_code 10 = .ok (.areturn, 1) := by decide +kernel
theorem pn_21 : plainName "java/util/ArrayList" = true := by first | (simp [plainName, overriddenIn]; done) | decide +kernel
theorem ef_rG0 (m : MethodId) (a1 : Addr) : entryFrame m #[(.ref a1)] 1 = mkF m 0 #[.val (.ref a1)] [] := by first | (simp [entryFrame, mkF, argsToLocals, Value.category]; done) | rfl
def QrG0 (Z : State) (a1 : Addr) (d0 : Addr) (mc : Int32) (kd : ClassId) (h0 : Heap) (n0 : Nat) (v : Option Value) (h : Heap) (L : List Loc) : Prop := ∃ (na : Addr) (nk : ClassId), v = some (.ref na) ∧ Fr n0 L ∧ Keep h0 h [a1] ∧ n0 ≤ na ∧ h0.size ≤ na ∧ Exa Z h a1 "java/util/ArrayList" ∧ Fld Z h a1 "java/util/AbstractList" "modCount" "I" (.int mc) ∧ Fld Z h a1 "java/util/ArrayList" "elementData" "[Ljava/lang/Object;" (.ref na) ∧ Fld Z h a1 "java/util/ArrayList" "size" "I" (.int (0 : Int32)) ∧ Arv Z h na nk (.object "java/lang/Object") (10 : Int32) [.null, .null, .null, .null, .null, .null, .null, .null, .null, .null] .null ∧ Exa Z h na "[Ljava/lang/Object;" ∧ Ovr Z nk "java/lang/Object"
set_option maxRecDepth 65536 in
set_option maxHeartbeats 40000000 in
theorem rG0 (l : Launch) (Z : State) (a0 : Array Value) (hw : ∀ d ∈ tables_1, d.before a0 Z = true) (ws : List Jvm.Cond) (a1 : Addr) (d0 : Addr) (mc : Int32) (kd : ClassId) (h0 : Heap) (n0 : Nat) (Z0 : n0 ≤ h0.size) (E : Exa Z h0 a1 "java/util/ArrayList") (FM : Fld Z h0 a1 "java/util/AbstractList" "modCount" "I" (.int mc)) (FE : Fld Z h0 a1 "java/util/ArrayList" "elementData" "[Ljava/lang/Object;" (.ref d0)) (FZ : Fld Z h0 a1 "java/util/ArrayList" "size" "I" (.int (0 : Int32))) (ga : n0 ≤ a1) (X00 : Old Z n0 h0) (O_D : Sta Z Z.heap "java/util/ArrayList" "DEFAULTCAPACITY_EMPTY_ELEMENTDATA" "[Ljava/lang/Object;" (.ref d0)) (O_AD : Arv Z Z.heap d0 kd (.object "java/lang/Object") (0 : Int32) [] .null) :
    MetFree l (⟨"java/util/ArrayList", "grow", "()[Ljava/lang/Object;"⟩ : MethodName) (head1 (Jvm.Cond.code (⟨"java/util/ArrayList", "grow", "()[Ljava/lang/Object;"⟩ : MethodName) jdk_38_method_7_code 1 (some (.array (.object "java/lang/Object"))) :: ws) ({ frames := 2, cells := 1, slots := 10, locals := 29 } : Room)) (fun a U => a = #[(.ref a1)] ∧ Z.Warmed39 U.vm ∧ U.heap = h0) (fun _ _ _ _ _ => True) (fun _ U o U' => ∃ v L, o = .returned v ∧ QrG0 Z a1 d0 mc kd h0 n0 v U'.heap L ∧ FrameEnd U o U' L ({ frames := 2, cells := 1, slots := 10, locals := 29 } : Room).cells ({ frames := 2, cells := 1, slots := 10, locals := 29 } : Room).slots) := by
  refine MetFree.of_bodySF (plainFor_of_name pn_21) hisR ?_
  intro p e s m args below meth c s₁ Bd hml0 hP hK
  obtain ⟨rfl, hZ, hh⟩ := hP
  have hx := Bd.exec
  have hby := Bd.bytes
  have hml : c.maxLocals = 1 := hml0
  have hown : s.vm.findClass "java/util/ArrayList" = some m.cls := findClass_of_methodNamed Bd.named
  have hnm := (name_of_methodNamed Bd.named Bd.method).1
  have X0 : Stand p l e ({ frames := 2, cells := 1, slots := 10, locals := 29 } : Room) s m #[(.ref a1)] below meth c s₁ [] 0 0 := Stand.of_body Bd
  have e0 : s₁.heap = h0 := by rw [← hh, Bd.state]; rfl
  have N0 := Fr.nil n0
  have pre0 : ∀ t, Steps p.tables e below (s₁.setTop (mkF m 0 #[.val (.ref a1)] [])) t → Steps p.tables e below (s₁.setTop (entryFrame m #[(.ref a1)] 1)) t := fun t k => castTop (ef_rG0 m a1) k
  obtain ⟨T1, X1, e1, st1⟩ := getF X0 hx hZ hown (host := "") (Or.inl (hw _ (own_w 61 rfl))) Via.refl e0 FZ (g := (mkF m 2 #[.val (.ref a1)] [(.ref a1), (.ref a1)])) rfl rfl (hb hby d21_2)
  obtain ⟨cq2, qq2, qq2'⟩ := E.cell
  obtain ⟨_, _, ⟨T2, Lq2, kq2, nq2⟩, -, X2, ⟨Lc2, hQ2, lq2, yq2, zq2⟩, st2⟩ := X1.privateBack hx (y := (⟨"java/util/ArrayList", "grow", "(I)[Ljava/lang/Object;"⟩ : MethodName)) hown (mvT hZ (hw _ (own_w 144 rfl))) (mvT hZ (hw _ (own_w 145 rfl))) (mvT hZ (hw _ (own_w 147 rfl))) (Cond.privateMethod_at (mvP hZ (hw _ (own_w 146 rfl)) (args := #[]))) (mvT hZ (hw _ (own_w 148 rfl))) (by decide) (backOf (W := 0) (rG1 l Z a0 hw [] a1 d0 mc kd h0 n0 Z0 E FM FE FZ ga X00 O_D O_AD) hZ (hw _ (own_w 148 rfl)) (hw _ (own_w 2 rfl)) (by decide) (by decide)) (g := (mkF m 7 #[.val (.ref a1)] [(.int (1 : Int32)), (.ref a1)])) rfl (by rw [hml]; rfl) (Steps.refl _) (a := a1) (by rw [e1]; exact qq2) qq2' (argsL := [(.int (1 : Int32))]) (rest := []) (lenOf pd_5 rfl) rfl (by show 2 * 0 + _ ≤ _; exact Nat.le_of_eq rfl) (hb hby d21_7) (fun _ _ => ⟨rfl, e1, (by decide : 0 + 1 ≤ _), (by decide : 0 + 10 ≤ _)⟩)
  dsimp only [Pt.U, Pt.locs, Pt.cells, Pt.slots] at X2 lq2 yq2 zq2 st2 hQ2
  subst lq2 yq2 zq2
  obtain ⟨na2, nk2, rfl, N2q, KC2, gn2, gk2, E2', FM2', FE2', FZ2', AV2', EX2', OV2'⟩ := hQ2
  have N2 := Fr.app N0 N2q
  have Z2 : n0 ≤ T2.heap.size := Nat.le_trans Z0 KC2.1
  have ne3 : a1 ≠ na2 := Nat.ne_of_lt (Nat.lt_of_lt_of_le FZ.lt gk2)
  have ne4 : d0 ≠ na2 := Nat.ne_of_lt (Nat.lt_of_lt_of_le (O_AD.ext X00.2).lt gk2)
  have K2 : Keep h0 T2.heap [a1] := (Keep.refl h0 [a1]).trans KC2 (allS (Or.inl (own_w 0 rfl)) all0)
  obtain ⟨fs, hr, hrun, hended, hW, hsame⟩ := X2.leave (v := some (.ref na2)) (fun h => by rw [Bd.returns] at h; cases h) (BodyLoose.notSynchronized Bd)
  refine ⟨_, _, pre0 _ ?_, hrun, hended, _, _, rfl, ?_, ⟨_, rfl⟩, hW, hsame.mono (by decide) (by decide)⟩
  · show Steps p.tables e below (s₁.setTop (mkF m 0 #[.val (.ref a1)] [])) _
    refine XS.aloadN X0.here hx rfl (hb hby d21_0) rfl rfl ?_
    refine XS.aloadN X0.here hx rfl (hb hby d21_1) rfl rfl ?_
    refine st1 _ ?_
    refine XS.iconst X1.here hx rfl (hb hby d21_5) ?_
    refine XS.iadd X1.here hx rfl (hb hby d21_6) rfl ?_
    refine st2.trans ?_
    show Steps p.tables e below (T2.setTop (mkF m 10 #[.val (.ref a1)] [(.ref na2)])) _
    exact X2.areturnOut hx rfl Bd.returns rfl (hb hby d21_10) hr
  · show QrG0 Z a1 d0 mc kd h0 n0 _ T2.heap _
    exact ⟨na2, _, rfl, N2, K2, gn2, (Nat.le_trans (Keep.refl h0 [a1]).1 gk2), E2', FM2', FE2', FZ2', AV2', EX2', OV2'⟩
theorem pd_6 : parseMethodDescriptor "()[Ljava/lang/Object;" = some ⟨[], some (.array (.object "java/lang/Object"))⟩ := by decide +kernel
theorem d20_0 : decode jdk_38_method_24_code 0 = .ok (.iload_n 3, 1) := by decide +kernel
theorem d20_1 : decode jdk_38_method_24_code 1 = .ok (.aload_n 2, 1) := by decide +kernel
theorem d20_2 : decode jdk_38_method_24_code 2 = .ok (.arraylength, 1) := by decide +kernel
theorem d20_3 : decode jdk_38_method_24_code 3 = .ok (.if_icmp .ne 8, 3) := by decide +kernel
theorem d20_6 : decode jdk_38_method_24_code 6 = .ok (.aload_n 0, 1) := by decide +kernel
theorem d20_7 : decode jdk_38_method_24_code 7 = .ok (.invokevirtual 129, 3) := by decide +kernel
theorem d20_10 : decode jdk_38_method_24_code 10 = .ok (.astore_n 2, 1) := by decide +kernel
theorem d20_11 : decode jdk_38_method_24_code 11 = .ok (.aload_n 2, 1) := by decide +kernel
theorem d20_12 : decode jdk_38_method_24_code 12 = .ok (.iload_n 3, 1) := by decide +kernel
theorem d20_13 : decode jdk_38_method_24_code 13 = .ok (.aload_n 1, 1) := by decide +kernel
theorem d20_14 : decode jdk_38_method_24_code 14 = .ok (.aastore, 1) := by decide +kernel
theorem d20_15 : decode jdk_38_method_24_code 15 = .ok (.aload_n 0, 1) := by decide +kernel
theorem d20_16 : decode jdk_38_method_24_code 16 = .ok (.iload_n 3, 1) := by decide +kernel
theorem d20_17 : decode jdk_38_method_24_code 17 = .ok (.iconst 1, 1) := by decide +kernel
theorem d20_18 : decode jdk_38_method_24_code 18 = .ok (.iadd, 1) := by decide +kernel
theorem d20_19 : decode jdk_38_method_24_code 19 = .ok (.putfield 48, 3) := by decide +kernel
theorem d20_22 : decode jdk_38_method_24_code 22 = .ok (.return_, 1) := by decide +kernel
theorem pn_20 : plainName "java/util/ArrayList" = true := by first | (simp [plainName, overriddenIn]; done) | decide +kernel
theorem ef_rA3 (m : MethodId) (a1 : Addr) (a2 : Addr) (a3 : Addr) : entryFrame m #[(.ref a1), (.ref a2), (.ref a3), (.int (0 : Int32))] 4 = mkF m 0 #[.val (.ref a1), .val (.ref a2), .val (.ref a3), .val (.int (0 : Int32))] [] := by first | (simp [entryFrame, mkF, argsToLocals, Value.category]; done) | rfl
def QrA3 (Z : State) (a1 : Addr) (a2 : Addr) (a3 : Addr) (mc : Int32) (kd : ClassId) (h0 : Heap) (n0 : Nat) (v : Option Value) (h : Heap) (L : List Loc) : Prop := ∃ (na : Addr) (nk : ClassId), v = none ∧ Fr n0 L ∧ Keep h0 h [a1] ∧ n0 ≤ na ∧ h0.size ≤ na ∧ Exa Z h a1 "java/util/ArrayList" ∧ Fld Z h a1 "java/util/AbstractList" "modCount" "I" (.int mc) ∧ Fld Z h a1 "java/util/ArrayList" "elementData" "[Ljava/lang/Object;" (.ref na) ∧ Fld Z h a1 "java/util/ArrayList" "size" "I" (.int (1 : Int32)) ∧ Arv Z h na nk (.object "java/lang/Object") (10 : Int32) [.ref a2, .null, .null, .null, .null, .null, .null, .null, .null, .null] .null ∧ Exa Z h na "[Ljava/lang/Object;" ∧ Ovr Z nk "java/lang/Object"
set_option maxRecDepth 65536 in
set_option maxHeartbeats 40000000 in
theorem rA3 (l : Launch) (Z : State) (a0 : Array Value) (hw : ∀ d ∈ tables_1, d.before a0 Z = true) (ws : List Jvm.Cond) (a1 : Addr) (a2 : Addr) (a3 : Addr) (mc : Int32) (kd : ClassId) (h0 : Heap) (n0 : Nat) (Z0 : n0 ≤ h0.size) (E : Exa Z h0 a1 "java/util/ArrayList") (FM : Fld Z h0 a1 "java/util/AbstractList" "modCount" "I" (.int mc)) (FE : Fld Z h0 a1 "java/util/ArrayList" "elementData" "[Ljava/lang/Object;" (.ref a3)) (FZ : Fld Z h0 a1 "java/util/ArrayList" "size" "I" (.int (0 : Int32))) (ga : n0 ≤ a1) (X00 : Old Z n0 h0) (O_D : Sta Z Z.heap "java/util/ArrayList" "DEFAULTCAPACITY_EMPTY_ELEMENTDATA" "[Ljava/lang/Object;" (.ref a3)) (O_AD : Arv Z Z.heap a3 kd (.object "java/lang/Object") (0 : Int32) [] .null) (ES : Exa Z h0 a2 "java/lang/String") :
    MetFree l (⟨"java/util/ArrayList", "add", "(Ljava/lang/Object;[Ljava/lang/Object;I)V"⟩ : MethodName) (head1 (Jvm.Cond.code (⟨"java/util/ArrayList", "add", "(Ljava/lang/Object;[Ljava/lang/Object;I)V"⟩ : MethodName) jdk_38_method_24_code 4 none :: ws) ({ frames := 3, cells := 1, slots := 10, locals := 41 } : Room)) (fun a U => a = #[(.ref a1), (.ref a2), (.ref a3), (.int (0 : Int32))] ∧ Z.Warmed39 U.vm ∧ U.heap = h0) (fun _ _ _ _ _ => True) (fun _ U o U' => ∃ v L, o = .returned v ∧ QrA3 Z a1 a2 a3 mc kd h0 n0 v U'.heap L ∧ FrameEnd U o U' L ({ frames := 3, cells := 1, slots := 10, locals := 41 } : Room).cells ({ frames := 3, cells := 1, slots := 10, locals := 41 } : Room).slots) := by
  refine MetFree.of_bodySF (plainFor_of_name pn_20) hisR ?_
  intro p e s m args below meth c s₁ Bd hml0 hP hK
  obtain ⟨rfl, hZ, hh⟩ := hP
  have hx := Bd.exec
  have hby := Bd.bytes
  have hml : c.maxLocals = 4 := hml0
  have hown : s.vm.findClass "java/util/ArrayList" = some m.cls := findClass_of_methodNamed Bd.named
  have hnm := (name_of_methodNamed Bd.named Bd.method).1
  have X0 : Stand p l e ({ frames := 3, cells := 1, slots := 10, locals := 41 } : Room) s m #[(.ref a1), (.ref a2), (.ref a3), (.int (0 : Int32))] below meth c s₁ [] 0 0 := Stand.of_body Bd
  have e0 : s₁.heap = h0 := by rw [← hh, Bd.state]; rfl
  have N0 := Fr.nil n0
  have pre0 : ∀ t, Steps p.tables e below (s₁.setTop (mkF m 0 #[.val (.ref a1), .val (.ref a2), .val (.ref a3), .val (.int (0 : Int32))] [])) t → Steps p.tables e below (s₁.setTop (entryFrame m #[(.ref a1), (.ref a2), (.ref a3), (.int (0 : Int32))] 4)) t := fun t k => castTop (ef_rA3 m a1 a2 a3) k
  have n12 : a1 ≠ a2 := own_neE E ES (by decide)
  obtain ⟨cl1, Ar1, qk1, Sz1, Nn1, Hh1, Gg1⟩ := id ((O_AD.ext X00.2))
  obtain ⟨cq2, qq2, qq2'⟩ := E.cell
  obtain ⟨_, _, ⟨T2, Lq2, kq2, nq2⟩, -, X2, ⟨Lc2, hQ2, lq2, yq2, zq2⟩, st2⟩ := X0.privateBack hx (y := (⟨"java/util/ArrayList", "grow", "()[Ljava/lang/Object;"⟩ : MethodName)) hown (mvT hZ (hw _ (own_w 139 rfl))) (mvT hZ (hw _ (own_w 140 rfl))) (mvT hZ (hw _ (own_w 142 rfl))) (Cond.privateMethod_at (mvP hZ (hw _ (own_w 141 rfl)) (args := #[]))) (mvT hZ (hw _ (own_w 143 rfl))) (by decide) (backOf (W := 0) (rG0 l Z a0 hw [] a1 a3 mc kd h0 n0 Z0 E FM FE FZ ga X00 O_D O_AD) hZ (hw _ (own_w 143 rfl)) (hw _ (own_w 2 rfl)) (by decide) (by decide)) (g := (mkF m 7 #[.val (.ref a1), .val (.ref a2), .val (.ref a3), .val (.int (0 : Int32))] [(.ref a1)])) rfl (by rw [hml]; rfl) (Steps.refl _) (a := a1) (by rw [e0]; exact qq2) qq2' (argsL := []) (rest := []) (lenOf pd_6 rfl) rfl (by show 2 * 0 + _ ≤ _; exact Nat.le_of_eq rfl) (hb hby d20_7) (fun _ _ => ⟨rfl, e0, (by decide : 0 + 1 ≤ _), (by decide : 0 + 10 ≤ _)⟩)
  dsimp only [Pt.U, Pt.locs, Pt.cells, Pt.slots] at X2 lq2 yq2 zq2 st2 hQ2
  subst lq2 yq2 zq2
  obtain ⟨na2, nk2, rfl, N2q, KC2, gn2, gk2, E2', FM2', FE2', FZ2', AV2', EX2', OV2'⟩ := hQ2
  have N2 := Fr.app N0 N2q
  have Z2 : n0 ≤ T2.heap.size := Nat.le_trans Z0 KC2.1
  have ne3 : a1 ≠ na2 := Nat.ne_of_lt (Nat.lt_of_lt_of_le FZ.lt gk2)
  have ne4 : a3 ≠ na2 := Nat.ne_of_lt (Nat.lt_of_lt_of_le (O_AD.ext X00.2).lt gk2)
  have ne5 : a2 ≠ na2 := Nat.ne_of_lt (Nat.lt_of_lt_of_le ES.lt gk2)
  have K2 : Keep h0 T2.heap [a1] := (Keep.refl h0 [a1]).trans KC2 (allS (Or.inl (own_w 0 rfl)) all0)
  obtain ⟨cl6, Ar6, qk6, Sz6, Nn6, Hh6, Gg6⟩ := id (AV2')
  have hin7 : ¬ ((0 : Int32) < 0 ∨ cl6.slots.size ≤ ((0 : Int32)).toNatClampNeg) := inb_of Sz6 ⟨by decide, by decide⟩
  have f8 := (ES.keep KC2)
  obtain ⟨T7, h7, X7, e7, W7, st7⟩ := stR X2 hx hZ rfl Ar6 (j := (0 : Int32)) hin7 rfl (Sto.ofV Ar6 qk6 OV2' (Ins.of_exa f8 (hw _ (own_w 155 rfl)))) (g := (mkF m 14 #[.val (.ref a1), .val (.ref a2), .val (.ref na2), .val (.int (0 : Int32))] [(.ref a2), (.int (0 : Int32)), (.ref na2)])) rfl rfl (hb hby d20_14)
  have N7 := Fr.snoc X7 N2 gn2
  have Z7 : n0 ≤ h7.size := by rw [W7.size]; exact Z2
  have K7 : Keep h0 h7 [a1] := K2.wr W7 (Or.inr (Nat.le_trans (Keep.refl h0 [a1]).1 gk2))
  have V7 : Arv Z h7 na2 nk2 (.object "java/lang/Object") (10 : Int32) [(.ref a2), .null, .null, .null, .null, .null, .null, .null, .null, .null] .null := Arv.set Ar6 qk6 Sz6 Nn6 Hh6 Gg6 rfl W7 0 rfl (Nat.le_of_ble_eq_true rfl)
  have f9 := (E2'.wr W7)
  have f10 := (FZ2'.other W7 (Or.inl ne3))
  obtain ⟨T11, h11, X11, e11, W11, st11⟩ := putF X7 hx hZ hown (host := "") (Or.inl (hw _ (own_w 61 rfl))) Via.refl e7 f10 f9 (Or.inl (hw _ (own_w 62 rfl))) (hw _ (own_w 1 rfl)) (ty := .int) (by decide) rfl rfl (g := (mkF m 19 #[.val (.ref a1), .val (.ref a2), .val (.ref na2), .val (.int (0 : Int32))] [(.int (1 : Int32)), (.ref a1)])) rfl rfl (hb hby d20_19)
  have N11 := Fr.snoc X11 N7 ga
  have Z11 : n0 ≤ h11.size := by rw [W11.size]; exact Z7
  have K11 : Keep h0 h11 [a1] := K7.wr W11 (Or.inl (own_w 0 rfl))
  have Fw11 := f10.same W11
  obtain ⟨fs, hr, hrun, hended, hW, hsame⟩ := X11.leave (v := none) (fun _ => rfl) (BodyLoose.notSynchronized Bd)
  refine ⟨_, _, pre0 _ ?_, hrun, hended, _, _, rfl, ?_, ⟨_, rfl⟩, hW, hsame.mono (by decide) (by decide)⟩
  · show Steps p.tables e below (s₁.setTop (mkF m 0 #[.val (.ref a1), .val (.ref a2), .val (.ref a3), .val (.int (0 : Int32))] [])) _
    refine XS.iloadN X0.here hx rfl (hb hby d20_0) rfl ?_
    refine XS.aloadN X0.here hx rfl (hb hby d20_1) rfl rfl ?_
    refine X0.arraylength hx (by rw [e0]; exact Ar1.1) (State.isArrayOf_alike hZ.alike Ar1.2.1) (g := (mkF m 2 #[.val (.ref a1), .val (.ref a2), .val (.ref a3), .val (.int (0 : Int32))] [(.ref a3), (.int (0 : Int32))])) rfl rfl (hb hby d20_2) _ ?_
    rw [len_of Sz1 Nn1]
    show Steps p.tables e below (s₁.setTop (mkF m 3 #[.val (.ref a1), .val (.ref a2), .val (.ref a3), .val (.int (0 : Int32))] [(.int (0 : Int32)), (.int (0 : Int32))])) _
    refine XS.icmpNo X0.here hx rfl (hb hby d20_3) rfl (teq (by decide)).2 ?_
    refine XS.aloadN X0.here hx rfl (hb hby d20_6) rfl rfl ?_
    refine st2.trans ?_
    refine XS.astoreN X2.here hx rfl (hb hby d20_10) rfl rfl (l' := #[.val (.ref a1), .val (.ref a2), .val (.ref na2), .val (.int (0 : Int32))]) rfl ?_
    refine XS.aloadN X2.here hx rfl (hb hby d20_11) rfl rfl ?_
    refine XS.iloadN X2.here hx rfl (hb hby d20_12) rfl ?_
    refine XS.aloadN X2.here hx rfl (hb hby d20_13) rfl rfl ?_
    refine st7 _ ?_
    refine XS.aloadN X7.here hx rfl (hb hby d20_15) rfl rfl ?_
    refine XS.iloadN X7.here hx rfl (hb hby d20_16) rfl ?_
    refine XS.iconst X7.here hx rfl (hb hby d20_17) ?_
    refine XS.iadd X7.here hx rfl (hb hby d20_18) rfl ?_
    refine st11 _ ?_
    show Steps p.tables e below (T11.setTop (mkF m 22 #[.val (.ref a1), .val (.ref a2), .val (.ref na2), .val (.int (0 : Int32))] [])) _
    exact X11.returnOut hx Bd.returns (hb hby d20_22) hr
  · show QrA3 Z a1 a2 a3 mc kd h0 n0 _ T11.heap _
    have f12 := (f9.wr W11)
    have f13 := ((FM2'.other W7 (Or.inl ne3)).other W11 (Or.inr (slot_ne (Or.inl (hw _ (own_w 22 rfl))) (Or.inl (hw _ (own_w 62 rfl))) (by decide) (t := .int) (t' := .int) (by decide) (by decide))))
    have f14 := ((FE2'.other W7 (Or.inl ne3)).other W11 (Or.inr (slot_ne (Or.inl (hw _ (own_w 25 rfl))) (Or.inl (hw _ (own_w 62 rfl))) (by decide) (t := (.array (.object "java/lang/Object"))) (t' := .int) (by decide) (by decide))))
    have f15 := (V7.other W11 (Ne.symm ne3))
    have f16 := ((EX2'.wr W7).wr W11)
    rw [e11]
    exact ⟨na2, _, rfl, N11, K11, gn2, (Nat.le_trans (Keep.refl h0 [a1]).1 gk2), f12, f13, f14, Fw11, f15, f16, OV2'⟩
theorem pd_7 : parseMethodDescriptor "(Ljava/lang/Object;[Ljava/lang/Object;I)V" = some ⟨[(.object "java/lang/Object"), (.array (.object "java/lang/Object")), .int], none⟩ := by decide +kernel
theorem d19_0 : decode jdk_38_method_25_code 0 = .ok (.aload_n 0, 1) := by decide +kernel
theorem d19_1 : decode jdk_38_method_25_code 1 = .ok (.dup, 1) := by decide +kernel
theorem d19_2 : decode jdk_38_method_25_code 2 = .ok (.getfield 63, 3) := by decide +kernel
theorem d19_5 : decode jdk_38_method_25_code 5 = .ok (.iconst 1, 1) := by decide +kernel
theorem d19_6 : decode jdk_38_method_25_code 6 = .ok (.iadd, 1) := by decide +kernel
theorem d19_7 : decode jdk_38_method_25_code 7 = .ok (.putfield 63, 3) := by decide +kernel
theorem d19_10 : decode jdk_38_method_25_code 10 = .ok (.aload_n 0, 1) := by decide +kernel
theorem d19_11 : decode jdk_38_method_25_code 11 = .ok (.aload_n 1, 1) := by decide +kernel
theorem d19_12 : decode jdk_38_method_25_code 12 = .ok (.aload_n 0, 1) := by decide +kernel
theorem d19_13 : decode jdk_38_method_25_code 13 = .ok (.getfield 9, 3) := by decide +kernel
theorem d19_16 : decode jdk_38_method_25_code 16 = .ok (.aload_n 0, 1) := by decide +kernel
theorem d19_17 : decode jdk_38_method_25_code 17 = .ok (.getfield 48, 3) := by decide +kernel
theorem d19_20 : decode jdk_38_method_25_code 20 = .ok (.invokevirtual 131, 3) := by decide +kernel
theorem d19_23 : decode jdk_38_method_25_code 23 = .ok (.iconst 1, 1) := by decide +kernel
theorem d19_24 : decode jdk_38_method_25_code 24 = .ok (.ireturn, 1) := by decide +kernel
theorem pn_19 : plainName "java/util/ArrayList" = true := by first | (simp [plainName, overriddenIn]; done) | decide +kernel
theorem ef_rA (m : MethodId) (a1 : Addr) (a2 : Addr) : entryFrame m #[(.ref a1), (.ref a2)] 2 = mkF m 0 #[.val (.ref a1), .val (.ref a2)] [] := by first | (simp [entryFrame, mkF, argsToLocals, Value.category]; done) | rfl
def QrA (Z : State) (a1 : Addr) (a2 : Addr) (d0 : Addr) (kd : ClassId) (h0 : Heap) (n0 : Nat) (v : Option Value) (h : Heap) (L : List Loc) : Prop := ∃ (na : Addr) (nk : ClassId), v = some (.int 1) ∧ Fr n0 L ∧ Keep h0 h [a1] ∧ n0 ≤ na ∧ h0.size ≤ na ∧ Exa Z h a1 "java/util/ArrayList" ∧ Fld Z h a1 "java/util/AbstractList" "modCount" "I" (.int (1 : Int32)) ∧ Fld Z h a1 "java/util/ArrayList" "elementData" "[Ljava/lang/Object;" (.ref na) ∧ Fld Z h a1 "java/util/ArrayList" "size" "I" (.int (1 : Int32)) ∧ Arv Z h na nk (.object "java/lang/Object") (10 : Int32) [.ref a2, .null, .null, .null, .null, .null, .null, .null, .null, .null] .null ∧ Exa Z h na "[Ljava/lang/Object;" ∧ Ovr Z nk "java/lang/Object"
set_option maxRecDepth 65536 in
set_option maxHeartbeats 40000000 in
theorem rA (l : Launch) (Z : State) (a0 : Array Value) (hw : ∀ d ∈ tables_1, d.before a0 Z = true) (ws : List Jvm.Cond) (a1 : Addr) (a2 : Addr) (d0 : Addr) (kd : ClassId) (h0 : Heap) (n0 : Nat) (Z0 : n0 ≤ h0.size) (E : Exa Z h0 a1 "java/util/ArrayList") (FM : Fld Z h0 a1 "java/util/AbstractList" "modCount" "I" (.int (0 : Int32))) (FE : Fld Z h0 a1 "java/util/ArrayList" "elementData" "[Ljava/lang/Object;" (.ref d0)) (FZ : Fld Z h0 a1 "java/util/ArrayList" "size" "I" (.int (0 : Int32))) (ga : n0 ≤ a1) (X00 : Old Z n0 h0) (O_D : Sta Z Z.heap "java/util/ArrayList" "DEFAULTCAPACITY_EMPTY_ELEMENTDATA" "[Ljava/lang/Object;" (.ref d0)) (O_AD : Arv Z Z.heap d0 kd (.object "java/lang/Object") (0 : Int32) [] .null) (ES : Exa Z h0 a2 "java/lang/String") :
    MetFree l (⟨"java/util/ArrayList", "add", "(Ljava/lang/Object;)Z"⟩ : MethodName) (head1 (Jvm.Cond.code (⟨"java/util/ArrayList", "add", "(Ljava/lang/Object;)Z"⟩ : MethodName) jdk_38_method_25_code 2 (some .boolean) :: ws) ({ frames := 4, cells := 1, slots := 10, locals := 56 } : Room)) (fun a U => a = #[(.ref a1), (.ref a2)] ∧ Z.Warmed39 U.vm ∧ U.heap = h0) (fun _ _ _ _ _ => True) (fun _ U o U' => ∃ v L, o = .returned v ∧ QrA Z a1 a2 d0 kd h0 n0 v U'.heap L ∧ FrameEnd U o U' L ({ frames := 4, cells := 1, slots := 10, locals := 56 } : Room).cells ({ frames := 4, cells := 1, slots := 10, locals := 56 } : Room).slots) := by
  refine MetFree.of_bodySF (plainFor_of_name pn_19) hisR ?_
  intro p e s m args below meth c s₁ Bd hml0 hP hK
  obtain ⟨rfl, hZ, hh⟩ := hP
  have hx := Bd.exec
  have hby := Bd.bytes
  have hml : c.maxLocals = 2 := hml0
  have hown : s.vm.findClass "java/util/ArrayList" = some m.cls := findClass_of_methodNamed Bd.named
  have hnm := (name_of_methodNamed Bd.named Bd.method).1
  have X0 : Stand p l e ({ frames := 4, cells := 1, slots := 10, locals := 56 } : Room) s m #[(.ref a1), (.ref a2)] below meth c s₁ [] 0 0 := Stand.of_body Bd
  have e0 : s₁.heap = h0 := by rw [← hh, Bd.state]; rfl
  have N0 := Fr.nil n0
  have pre0 : ∀ t, Steps p.tables e below (s₁.setTop (mkF m 0 #[.val (.ref a1), .val (.ref a2)] [])) t → Steps p.tables e below (s₁.setTop (entryFrame m #[(.ref a1), (.ref a2)] 2)) t := fun t k => castTop (ef_rA m a1 a2) k
  have n12 : a1 ≠ a2 := own_neE E ES (by decide)
  obtain ⟨T1, X1, e1, st1⟩ := getF X0 hx hZ hown (host := "") (Or.inl (hw _ (own_w 132 rfl))) (Via.of (hw _ (own_w 133 rfl))) e0 FM (g := (mkF m 2 #[.val (.ref a1), .val (.ref a2)] [(.ref a1), (.ref a1)])) rfl rfl (hb hby d19_2)
  obtain ⟨T2, h2, X2, e2, W2, st2⟩ := putF X1 hx hZ hown (host := "") (Or.inl (hw _ (own_w 132 rfl))) (Via.of (hw _ (own_w 133 rfl))) e1 FM E (Or.inl (hw _ (own_w 22 rfl))) (hw _ (own_w 1 rfl)) (ty := .int) (by decide) rfl rfl (g := (mkF m 7 #[.val (.ref a1), .val (.ref a2)] [(.int (1 : Int32)), (.ref a1)])) rfl rfl (hb hby d19_7)
  have N2 := Fr.snoc X2 N0 ga
  have Z2 : n0 ≤ h2.size := by rw [W2.size]; exact Z0
  have K2 : Keep h0 h2 [a1] := (Keep.refl h0 [a1]).wr W2 (Or.inl (own_w 0 rfl))
  have Fw2 := FM.same W2
  have f3 := (FE.other W2 (Or.inr (slot_ne (Or.inl (hw _ (own_w 25 rfl))) (Or.inl (hw _ (own_w 22 rfl))) (by decide) (t := (.array (.object "java/lang/Object"))) (t' := .int) (by decide) (by decide))))
  obtain ⟨T4, X4, e4, st4⟩ := getF X2 hx hZ hown (host := "") (Or.inl (hw _ (own_w 24 rfl))) Via.refl e2 f3 (g := (mkF m 13 #[.val (.ref a1), .val (.ref a2)] [(.ref a1), (.ref a2), (.ref a1)])) rfl rfl (hb hby d19_13)
  have f5 := (FZ.other W2 (Or.inr (slot_ne (Or.inl (hw _ (own_w 62 rfl))) (Or.inl (hw _ (own_w 22 rfl))) (by decide) (t := .int) (t' := .int) (by decide) (by decide))))
  obtain ⟨T6, X6, e6, st6⟩ := getF X4 hx hZ hown (host := "") (Or.inl (hw _ (own_w 61 rfl))) Via.refl e4 f5 (g := (mkF m 17 #[.val (.ref a1), .val (.ref a2)] [(.ref a1), (.ref d0), (.ref a2), (.ref a1)])) rfl rfl (hb hby d19_17)
  have f8 := (E.wr W2)
  have f9 := (X00.wr W2 ga)
  have f10 := (ES.wr W2)
  obtain ⟨cq7, qq7, qq7'⟩ := f8.cell
  obtain ⟨_, _, ⟨T7, Lq7, kq7, nq7⟩, -, X7, ⟨Lc7, hQ7, lq7, yq7, zq7⟩, st7⟩ := X6.privateBack hx (y := (⟨"java/util/ArrayList", "add", "(Ljava/lang/Object;[Ljava/lang/Object;I)V"⟩ : MethodName)) hown (mvT hZ (hw _ (own_w 134 rfl))) (mvT hZ (hw _ (own_w 135 rfl))) (mvT hZ (hw _ (own_w 137 rfl))) (Cond.privateMethod_at (mvP hZ (hw _ (own_w 136 rfl)) (args := #[]))) (mvT hZ (hw _ (own_w 138 rfl))) (by decide) (backOf (W := 0) (rA3 l Z a0 hw [] a1 a2 d0 (1 : Int32) kd h2 n0 Z2 f8 Fw2 f3 f5 ga f9 O_D O_AD f10) hZ (hw _ (own_w 138 rfl)) (hw _ (own_w 2 rfl)) (by decide) (by decide)) (g := (mkF m 20 #[.val (.ref a1), .val (.ref a2)] [(.int (0 : Int32)), (.ref d0), (.ref a2), (.ref a1)])) rfl (by rw [hml]; rfl) (Steps.refl _) (a := a1) (by rw [e6]; exact qq7) qq7' (argsL := [(.ref a2), (.ref d0), (.int (0 : Int32))]) (rest := []) (lenOf pd_7 rfl) rfl (by show 2 * 0 + _ ≤ _; exact Nat.le_of_eq rfl) (hb hby d19_20) (fun _ _ => ⟨rfl, e6, (by decide : 0 + 1 ≤ _), (by decide : 0 + 10 ≤ _)⟩)
  dsimp only [Pt.U, Pt.locs, Pt.cells, Pt.slots] at X7 lq7 yq7 zq7 st7 hQ7
  subst lq7 yq7 zq7
  obtain ⟨na7, nk7, rfl, N7q, KC7, gn7, gk7, E7', FM7', FE7', FZ7', AV7', EX7', OV7'⟩ := hQ7
  have N7 := Fr.app N2 N7q
  have Z7 : n0 ≤ T7.heap.size := Nat.le_trans Z2 KC7.1
  have ne11 : a1 ≠ na7 := Nat.ne_of_lt (Nat.lt_of_lt_of_le f5.lt gk7)
  have ne12 : d0 ≠ na7 := Nat.ne_of_lt (Nat.lt_of_lt_of_le (O_AD.ext f9.2).lt gk7)
  have ne13 : a2 ≠ na7 := Nat.ne_of_lt (Nat.lt_of_lt_of_le f10.lt gk7)
  have K7 : Keep h0 T7.heap [a1] := K2.trans KC7 (allS (Or.inl (own_w 0 rfl)) all0)
  obtain ⟨fs, hr, hrun, hended, hW, hsame⟩ := X7.leave (v := some (.int (1 : Int32))) (fun h => by rw [Bd.returns] at h; cases h) (BodyLoose.notSynchronized Bd)
  refine ⟨_, _, pre0 _ ?_, hrun, hended, _, _, rfl, ?_, ⟨_, rfl⟩, hW, hsame.mono (by decide) (by decide)⟩
  · show Steps p.tables e below (s₁.setTop (mkF m 0 #[.val (.ref a1), .val (.ref a2)] [])) _
    refine XS.aloadN X0.here hx rfl (hb hby d19_0) rfl rfl ?_
    refine XS.dup X0.here hx rfl (hb hby d19_1) rfl rfl ?_
    refine st1 _ ?_
    refine XS.iconst X1.here hx rfl (hb hby d19_5) ?_
    refine XS.iadd X1.here hx rfl (hb hby d19_6) rfl ?_
    refine st2 _ ?_
    refine XS.aloadN X2.here hx rfl (hb hby d19_10) rfl rfl ?_
    refine XS.aloadN X2.here hx rfl (hb hby d19_11) rfl rfl ?_
    refine XS.aloadN X2.here hx rfl (hb hby d19_12) rfl rfl ?_
    refine st4 _ ?_
    refine XS.aloadN X4.here hx rfl (hb hby d19_16) rfl rfl ?_
    refine st6 _ ?_
    refine st7.trans ?_
    refine XS.iconst X7.here hx rfl (hb hby d19_23) ?_
    show Steps p.tables e below (T7.setTop (mkF m 24 #[.val (.ref a1), .val (.ref a2)] [(.int (1 : Int32))])) _
    exact retN X7 hx (t := .boolean) Bd.returns (by simp) (hb hby d19_24) hr
  · show QrA Z a1 a2 d0 kd h0 n0 _ T7.heap _
    exact ⟨na7, _, rfl, N7, K7, gn7, (Nat.le_trans K2.1 gk7), E7', FM7', FE7', FZ7', AV7', EX7', OV7'⟩
theorem d26_0 : decode jdk_65_method_120_code 0 = .ok (.aload_n 2, 1) := by decide +kernel
theorem d26_1 : decode jdk_65_method_120_code 1 = .ok (.ldc 110, 2) := by decide +kernel
theorem d26_3 : decode jdk_65_method_120_code 3 = .ok (.if_acmp .ne 10, 3) := by decide +kernel
theorem d26_6 : decode jdk_65_method_120_code 6 = .ok (.iload_n 1, 1) := by decide +kernel
theorem d26_7 : decode jdk_65_method_120_code 7 = .ok (.anewarray 2, 3) := by decide +kernel
theorem d26_10 : decode jdk_65_method_120_code 10 = .ok (.goto 14, 3) := by decide +kernel
theorem d26_24 : decode jdk_65_method_120_code 24 = .ok (.astore_n 3, 1) := by decide +kernel
theorem d26_25 : decode jdk_65_method_120_code 25 = .ok (.aload_n 0, 1) := by decide +kernel
theorem d26_26 : decode jdk_65_method_120_code 26 = .ok (.iconst 0, 1) := by decide +kernel
theorem d26_27 : decode jdk_65_method_120_code 27 = .ok (.aload_n 3, 1) := by decide +kernel
theorem d26_28 : decode jdk_65_method_120_code 28 = .ok (.iconst 0, 1) := by decide +kernel
theorem d26_29 : decode jdk_65_method_120_code 29 = .ok (.aload_n 0, 1) := by decide +kernel
theorem d26_30 : decode jdk_65_method_120_code 30 = .ok (.arraylength, 1) := by decide +kernel
theorem d26_31 : decode jdk_65_method_120_code 31 = .ok (.iload_n 1, 1) := by decide +kernel
theorem d26_32 : decode jdk_65_method_120_code 32 = .ok (.invokestatic 304, 3) := by decide +kernel
theorem d26_35 : decode jdk_65_method_120_code 35 = .ok (.invokestatic 150, 3) := by decide +kernel
theorem d26_38 : decode jdk_65_method_120_code 38 = .ok (.aload_n 3, 1) := by decide +kernel
theorem d26_39 : decode jdk_65_method_120_code 39 = .ok (.areturn, 1) := by decide +kernel
theorem pn_26 : plainName "java/util/Arrays" = true := by first | (simp [plainName, overriddenIn]; done) | decide +kernel
theorem ef_rC3 (m : MethodId) (a1 : Addr) (a3 : Addr) : entryFrame m #[(.ref a1), (.int (1 : Int32)), (.ref a3)] 4 = mkF m 0 #[.val (.ref a1), .val (.int (1 : Int32)), .val (.ref a3), .unset] [] := by first | (simp [entryFrame, mkF, argsToLocals, Value.category]; done) | rfl
def QrC3 (Z : State) (a1 : Addr) (a3 : Addr) (x : Addr) (k : ClassId) (h0 : Heap) (n0 : Nat) (v : Option Value) (h : Heap) (L : List Loc) : Prop := ∃ (o : Addr) (rk : ClassId), v = some (.ref o) ∧ Fr n0 L ∧ Keep h0 h [] ∧ n0 ≤ o ∧ h0.size ≤ o ∧ Arv Z h o rk (.object "java/lang/Object") (1 : Int32) [.ref x] .null
set_option maxRecDepth 65536 in
set_option maxHeartbeats 40000000 in
theorem rC3 (l : Launch) (Z : State) (a0 : Array Value) (hw : ∀ d ∈ tables_1, d.before a0 Z = true) (ws : List Jvm.Cond) (a1 : Addr) (a3 : Addr) (x : Addr) (k : ClassId) (h0 : Heap) (n0 : Nat) (Z0 : n0 ≤ h0.size) (AV : Arv Z h0 a1 k (.object "java/lang/Object") (10 : Int32) [.ref x, .null, .null, .null, .null, .null, .null, .null, .null, .null] .null) (EX : Exa Z h0 x "java/lang/String") (M : Mir Z "[Ljava/lang/Object;" a3) :
    MetFree l (⟨"java/util/Arrays", "copyOf", "([Ljava/lang/Object;ILjava/lang/Class;)[Ljava/lang/Object;"⟩ : MethodName) (head1 (Jvm.Cond.code (⟨"java/util/Arrays", "copyOf", "([Ljava/lang/Object;ILjava/lang/Class;)[Ljava/lang/Object;"⟩ : MethodName) jdk_65_method_120_code 4 (some (.array (.object "java/lang/Object"))) :: ws) ({ frames := 1, cells := 1, slots := 1, locals := 18 } : Room)) (fun a U => a = #[(.ref a1), (.int (1 : Int32)), (.ref a3)] ∧ Z.Warmed39 U.vm ∧ U.heap = h0) (fun _ _ _ _ _ => True) (fun _ U o U' => ∃ v L, o = .returned v ∧ QrC3 Z a1 a3 x k h0 n0 v U'.heap L ∧ FrameEnd U o U' L ({ frames := 1, cells := 1, slots := 1, locals := 18 } : Room).cells ({ frames := 1, cells := 1, slots := 1, locals := 18 } : Room).slots) := by
  refine MetFree.of_bodySF (plainFor_of_name pn_26) hisR ?_
  intro p e s m args below meth c s₁ Bd hml0 hP hK
  obtain ⟨rfl, hZ, hh⟩ := hP
  have hx := Bd.exec
  have hby := Bd.bytes
  have hml : c.maxLocals = 4 := hml0
  have hown : s.vm.findClass "java/util/Arrays" = some m.cls := findClass_of_methodNamed Bd.named
  have hnm := (name_of_methodNamed Bd.named Bd.method).1
  have X0 : Stand p l e ({ frames := 1, cells := 1, slots := 1, locals := 18 } : Room) s m #[(.ref a1), (.int (1 : Int32)), (.ref a3)] below meth c s₁ [] 0 0 := Stand.of_body Bd
  have e0 : s₁.heap = h0 := by rw [← hh, Bd.state]; rfl
  have N0 := Fr.nil n0
  have pre0 : ∀ t, Steps p.tables e below (s₁.setTop (mkF m 0 #[.val (.ref a1), .val (.int (1 : Int32)), .val (.ref a3), .unset] [])) t → Steps p.tables e below (s₁.setTop (entryFrame m #[(.ref a1), (.int (1 : Int32)), (.ref a3)] 4)) t := fun t k => castTop (ef_rC3 m a1 a3) k
  obtain ⟨vm1, X1, st1⟩ := X0.ldcMirror hx hown (mvT hZ (hw _ (own_w 177 rfl))) (own_mir hZ M) (g := (mkF m 1 #[.val (.ref a1), .val (.int (1 : Int32)), .val (.ref a3), .unset] [(.ref a3)])) rfl (hb hby d26_1)
  have e1 : (s₁.setVm vm1).heap = h0 := e0
  obtain ⟨T2, h2, ck2, X2, e2, E2, A2, EX2, O2, st2⟩ := newRE X1 hx hZ hown (hw _ (own_w 178 rfl)) (hw _ (own_w 154 rfl)) e1 (g := (mkF m 7 #[.val (.ref a1), .val (.int (1 : Int32)), .val (.ref a3), .unset] [(.int (1 : Int32))])) rfl (hb hby d26_7) rfl (by decide) (cap := 1) (by decide) (by decide) (by decide) (by decide) (ad := "[Ljava/lang/Object;") (by decide +kernel)
  obtain ⟨b2o, g2⟩ : ∃ z, z = h0.size := ⟨_, rfl⟩
  have b2 : n0 ≤ b2o := Nat.le_trans Z0 (Nat.le_of_eq g2.symm)
  have bk2 : h0.size ≤ b2o := Nat.le_trans (Keep.refl h0 []).1 (Nat.le_of_eq g2.symm)
  have ne3 : a1 ≠ b2o := Nat.ne_of_lt (Nat.lt_of_lt_of_le AV.lt (Nat.le_of_eq g2.symm))
  have ne4 : x ≠ b2o := Nat.ne_of_lt (Nat.lt_of_lt_of_le EX.lt (Nat.le_of_eq g2.symm))
  rw [← g2] at A2 EX2 st2
  have Z2 : n0 ≤ h2.size := Nat.le_trans Z0 E2.1
  have K2 : Keep h0 h2 [] := (Keep.refl h0 []).ext E2
  have V2 : Arv Z h2 b2o ck2 (.object "java/lang/Object") (1 : Int32) [.null] .null := (Arv.new A2 (by decide)).pad (pad_rep [] .null 1)
  have f5 := (AV.ext E2)
  obtain ⟨cl6, Ar6, qk6, Sz6, Nn6, Hh6, Gg6⟩ := id (f5)
  obtain ⟨_, _, ⟨T7, Lq7, kq7, nq7⟩, -, X7, ⟨Lc7, hQ7, lq7, yq7, zq7⟩, st7⟩ := Jvm.LawKit.callS X2 hx (y := (⟨"java/lang/Math", "min", "(II)I"⟩ : MethodName)) hown (mvT hZ (hw _ (own_w 179 rfl))) (mvT hZ (hw _ (own_w 180 rfl))) (mvT hZ (hw _ (own_w 151 rfl))) (mvT hZ (hw _ (own_w 181 rfl))) (by decide) (backOf (W := 4) (rMn l Z a0 hw []   h2 n0 Z2 ) hZ (hw _ (own_w 181 rfl)) (hw _ (own_w 151 rfl)) (by decide) (by decide)) (g := (mkF m 32 #[.val (.ref a1), .val (.int (1 : Int32)), .val (.ref a3), .val (.ref b2o)] [(.int (1 : Int32)), (.int (10 : Int32)), (.int (0 : Int32)), (.ref b2o), (.int (0 : Int32)), (.ref a1)])) rfl (by rw [hml]; rfl) (argsL := [(.int (10 : Int32)), (.int (1 : Int32))]) (rest := [(.int (0 : Int32)), (.ref b2o), (.int (0 : Int32)), (.ref a1)]) (lenOf pd_4 rfl) rfl (by show 2 * 0 + _ ≤ _; exact Nat.le_of_eq rfl) (hb hby d26_32) (fun _ _ => ⟨rfl, e2, (by decide : 1 + 0 ≤ _), (by decide : 1 + 0 ≤ _)⟩)
  dsimp only [Pt.U, Pt.locs, Pt.cells, Pt.slots] at X7 lq7 yq7 zq7 st7 hQ7
  subst lq7 yq7 zq7
  obtain ⟨r7, hr7, rfl, N7q, e7⟩ := hQ7
  have N7 := Fr.app N0 N7q
  subst hr7
  obtain ⟨cl9, Ar9, qk9, Sz9, Nn9, Hh9, Gg9⟩ := id (V2)
  have f10 := (EX.ext E2)
  obtain ⟨T8, h8, L8, X8, e8, N8, KC8, V8, st8⟩ := cpA X7 hx hZ hown (hw _ (own_w 182 rfl)) (hw _ (own_w 185 rfl)) (hw _ (own_w 183 rfl)) (hw _ (own_w 184 rfl)) e7 (sp := 0) (dp := 0) (nn := 1) (us := [.ref x]) f5 V2 (Or.inr ⟨rfl, rfl, Sto.ofV Ar9 qk9 O2 (Ins.of_exa f10 (hw _ (own_w 155 rfl))), trivial⟩) (by decide) (by decide) (by decide) (by decide) (by decide) rfl (by decide) N7 b2 (g := (mkF m 35 #[.val (.ref a1), .val (.int (1 : Int32)), .val (.ref a3), .val (.ref b2o)] [(.int (1 : Int32)), (.int (0 : Int32)), (.ref b2o), (.int (0 : Int32)), (.ref a1)])) rfl (by rw [hml]; rfl) rfl (hb hby d26_35) (by decide) (W := 0) (by show 2 * 0 + _ ≤ _; exact Nat.le_of_eq rfl) (by decide)
  have Z8 : n0 ≤ h8.size := Nat.le_trans Z2 KC8.1
  have K8 : Keep h0 h8 [] := K2.trans KC8 (allS (Or.inr bk2) all0)
  have Vc8 : Arv Z h8 b2o ck2 (.object "java/lang/Object") (1 : Int32) [.ref x] .null := V8
  obtain ⟨fs, hr, hrun, hended, hW, hsame⟩ := X8.leave (v := some (.ref b2o)) (fun h => by rw [Bd.returns] at h; cases h) (BodyLoose.notSynchronized Bd)
  refine ⟨_, _, pre0 _ ?_, hrun, hended, _, _, rfl, ?_, ⟨_, rfl⟩, hW, hsame.mono (by decide) (by decide)⟩
  · show Steps p.tables e below (s₁.setTop (mkF m 0 #[.val (.ref a1), .val (.int (1 : Int32)), .val (.ref a3), .unset] [])) _
    refine XS.aloadN X0.here hx rfl (hb hby d26_0) rfl rfl ?_
    refine st1 _ ?_
    refine Jvm.RoadKit.acmp (g := (mkF m 3 #[.val (.ref a1), .val (.int (1 : Int32)), .val (.ref a3), .unset] [(.ref a3), (.ref a3)])) X1 hx rfl rfl rfl (pc0 := 3) (pc' := 6) (same := true) rfl (hb hby d26_3) rfl (decide_eq_true rfl) (by decide) (by decide) ?_
    refine XS.iloadN X1.here hx rfl (hb hby d26_6) rfl ?_
    refine st2 _ ?_
    refine XS.goto X2.here hx rfl (pc0 := 10) (pc' := 24) rfl (hb hby d26_10) (by decide) (by decide) ?_
    refine XS.astoreN X2.here hx rfl (hb hby d26_24) rfl rfl (l' := #[.val (.ref a1), .val (.int (1 : Int32)), .val (.ref a3), .val (.ref b2o)]) rfl ?_
    refine XS.aloadN X2.here hx rfl (hb hby d26_25) rfl rfl ?_
    refine XS.iconst X2.here hx rfl (hb hby d26_26) ?_
    refine XS.aloadN X2.here hx rfl (hb hby d26_27) rfl rfl ?_
    refine XS.iconst X2.here hx rfl (hb hby d26_28) ?_
    refine XS.aloadN X2.here hx rfl (hb hby d26_29) rfl rfl ?_
    refine X2.arraylength hx (by rw [e2]; exact Ar6.1) (State.isArrayOf_alike hZ.alike Ar6.2.1) (g := (mkF m 30 #[.val (.ref a1), .val (.int (1 : Int32)), .val (.ref a3), .val (.ref b2o)] [(.ref a1), (.int (0 : Int32)), (.ref b2o), (.int (0 : Int32)), (.ref a1)])) rfl rfl (hb hby d26_30) _ ?_
    rw [len_of Sz6 Nn6]
    show Steps p.tables e below (T2.setTop (mkF m 31 #[.val (.ref a1), .val (.int (1 : Int32)), .val (.ref a3), .val (.ref b2o)] [(.int (10 : Int32)), (.int (0 : Int32)), (.ref b2o), (.int (0 : Int32)), (.ref a1)])) _
    refine XS.iloadN X2.here hx rfl (hb hby d26_31) rfl ?_
    refine st7 _ ?_
    refine st8 _ ?_
    refine XS.aloadN X8.here hx rfl (hb hby d26_38) rfl rfl ?_
    show Steps p.tables e below (T8.setTop (mkF m 39 #[.val (.ref a1), .val (.int (1 : Int32)), .val (.ref a3), .val (.ref b2o)] [(.ref b2o)])) _
    exact X8.areturnOut hx rfl Bd.returns rfl (hb hby d26_39) hr
  · show QrC3 Z a1 a3 x k h0 n0 _ T8.heap _
    rw [e8]
    exact ⟨b2o, _, rfl, N8, K8, b2, bk2, Vc8⟩
theorem pd_8 : parseMethodDescriptor "([Ljava/lang/Object;ILjava/lang/Class;)[Ljava/lang/Object;" = some ⟨[(.array (.object "java/lang/Object")), .int, (.object "java/lang/Class")], some (.array (.object "java/lang/Object"))⟩ := by decide +kernel
theorem d25_0 : decode jdk_65_method_119_code 0 = .ok (.aload_n 0, 1) := by decide +kernel
theorem d25_1 : decode jdk_65_method_119_code 1 = .ok (.iload_n 1, 1) := by decide +kernel
theorem d25_2 : decode jdk_65_method_119_code 2 = .ok (.aload_n 0, 1) := by decide +kernel
theorem d25_3 : decode jdk_65_method_119_code 3 = .ok (.invokevirtual 86, 3) := by decide +kernel
theorem d25_6 : decode jdk_65_method_119_code 6 = .ok (.invokestatic 300, 3) := by decide +kernel
theorem d25_9 : decode jdk_65_method_119_code 9 = .ok (.areturn, 1) := by decide +kernel
theorem pn_25 : plainName "java/util/Arrays" = true := by first | (simp [plainName, overriddenIn]; done) | decide +kernel
theorem ef_rC2 (m : MethodId) (a1 : Addr) : entryFrame m #[(.ref a1), (.int (1 : Int32))] 2 = mkF m 0 #[.val (.ref a1), .val (.int (1 : Int32))] [] := by first | (simp [entryFrame, mkF, argsToLocals, Value.category]; done) | rfl
def QrC2 (Z : State) (a1 : Addr) (x : Addr) (k : ClassId) (mr : Addr) (h0 : Heap) (n0 : Nat) (v : Option Value) (h : Heap) (L : List Loc) : Prop := ∃ (o : Addr) (rk : ClassId), v = some (.ref o) ∧ Fr n0 L ∧ Keep h0 h [] ∧ n0 ≤ o ∧ h0.size ≤ o ∧ Arv Z h o rk (.object "java/lang/Object") (1 : Int32) [.ref x] .null
set_option maxRecDepth 65536 in
set_option maxHeartbeats 40000000 in
theorem rC2 (l : Launch) (Z : State) (a0 : Array Value) (hw : ∀ d ∈ tables_1, d.before a0 Z = true) (ws : List Jvm.Cond) (a1 : Addr) (x : Addr) (k : ClassId) (mr : Addr) (h0 : Heap) (n0 : Nat) (Z0 : n0 ≤ h0.size) (AV : Arv Z h0 a1 k (.object "java/lang/Object") (10 : Int32) [.ref x, .null, .null, .null, .null, .null, .null, .null, .null, .null] .null) (EX : Exa Z h0 x "java/lang/String") (EA : Exa Z h0 a1 "[Ljava/lang/Object;") (M : Mir Z "[Ljava/lang/Object;" mr) :
    MetFree l (⟨"java/util/Arrays", "copyOf", "([Ljava/lang/Object;I)[Ljava/lang/Object;"⟩ : MethodName) (head1 (Jvm.Cond.code (⟨"java/util/Arrays", "copyOf", "([Ljava/lang/Object;I)[Ljava/lang/Object;"⟩ : MethodName) jdk_65_method_119_code 2 (some (.array (.object "java/lang/Object"))) :: ws) ({ frames := 2, cells := 1, slots := 1, locals := 33 } : Room)) (fun a U => a = #[(.ref a1), (.int (1 : Int32))] ∧ Z.Warmed39 U.vm ∧ U.heap = h0) (fun _ _ _ _ _ => True) (fun _ U o U' => ∃ v L, o = .returned v ∧ QrC2 Z a1 x k mr h0 n0 v U'.heap L ∧ FrameEnd U o U' L ({ frames := 2, cells := 1, slots := 1, locals := 33 } : Room).cells ({ frames := 2, cells := 1, slots := 1, locals := 33 } : Room).slots) := by
  refine MetFree.of_bodySF (plainFor_of_name pn_25) hisR ?_
  intro p e s m args below meth c s₁ Bd hml0 hP hK
  obtain ⟨rfl, hZ, hh⟩ := hP
  have hx := Bd.exec
  have hby := Bd.bytes
  have hml : c.maxLocals = 2 := hml0
  have hown : s.vm.findClass "java/util/Arrays" = some m.cls := findClass_of_methodNamed Bd.named
  have hnm := (name_of_methodNamed Bd.named Bd.method).1
  have X0 : Stand p l e ({ frames := 2, cells := 1, slots := 1, locals := 33 } : Room) s m #[(.ref a1), (.int (1 : Int32))] below meth c s₁ [] 0 0 := Stand.of_body Bd
  have e0 : s₁.heap = h0 := by rw [← hh, Bd.state]; rfl
  have N0 := Fr.nil n0
  have pre0 : ∀ t, Steps p.tables e below (s₁.setTop (mkF m 0 #[.val (.ref a1), .val (.int (1 : Int32))] [])) t → Steps p.tables e below (s₁.setTop (entryFrame m #[(.ref a1), (.int (1 : Int32))] 2)) t := fun t k => castTop (ef_rC2 m a1) k
  obtain ⟨T1, X1, e1, st1⟩ := gcls X0 hx hZ hown (hw _ (own_w 168 rfl)) (hw _ (own_w 169 rfl)) (hw _ (own_w 50 rfl)) (hw _ (own_w 171 rfl)) (hw _ (own_w 170 rfl)) (hw _ (own_w 172 rfl)) e0 EA M (g := (mkF m 3 #[.val (.ref a1), .val (.int (1 : Int32))] [(.ref a1), (.int (1 : Int32)), (.ref a1)])) rfl (by rw [hml]; rfl) rfl (hb hby d25_3) (by decide) (W := 2) (by show 2 * 0 + _ ≤ _; exact Nat.le_of_eq rfl) (by decide)
  obtain ⟨_, _, ⟨T2, Lq2, kq2, nq2⟩, -, X2, ⟨Lc2, hQ2, lq2, yq2, zq2⟩, st2⟩ := Jvm.LawKit.callS X1 hx (y := (⟨"java/util/Arrays", "copyOf", "([Ljava/lang/Object;ILjava/lang/Class;)[Ljava/lang/Object;"⟩ : MethodName)) hown (mvT hZ (hw _ (own_w 174 rfl))) (mvT hZ (hw _ (own_w 175 rfl))) (mvT hZ (hw _ (own_w 166 rfl))) (mvT hZ (hw _ (own_w 176 rfl))) (by decide) (backOf (W := 0) (rC3 l Z a0 hw [] a1 mr x k h0 n0 Z0 AV EX M) hZ (hw _ (own_w 176 rfl)) (hw _ (own_w 166 rfl)) (by decide) (by decide)) (g := (mkF m 6 #[.val (.ref a1), .val (.int (1 : Int32))] [(.ref mr), (.int (1 : Int32)), (.ref a1)])) rfl (by rw [hml]; rfl) (argsL := [(.ref a1), (.int (1 : Int32)), (.ref mr)]) (rest := []) (lenOf pd_8 rfl) rfl (by show 2 * 0 + _ ≤ _; exact Nat.le_of_eq rfl) (hb hby d25_6) (fun _ _ => ⟨rfl, e1, (by decide : 0 + 1 ≤ _), (by decide : 0 + 1 ≤ _)⟩)
  dsimp only [Pt.U, Pt.locs, Pt.cells, Pt.slots] at X2 lq2 yq2 zq2 st2 hQ2
  subst lq2 yq2 zq2
  obtain ⟨o2, rk2, rfl, N2q, KC2, gn2, gk2, AV2'⟩ := hQ2
  have N2 := Fr.app N0 N2q
  have Z2 : n0 ≤ T2.heap.size := Nat.le_trans Z0 KC2.1
  have ne3 : a1 ≠ o2 := Nat.ne_of_lt (Nat.lt_of_lt_of_le EA.lt gk2)
  have ne4 : x ≠ o2 := Nat.ne_of_lt (Nat.lt_of_lt_of_le EX.lt gk2)
  have K2 : Keep h0 T2.heap [] := (Keep.refl h0 []).trans KC2 all0
  obtain ⟨fs, hr, hrun, hended, hW, hsame⟩ := X2.leave (v := some (.ref o2)) (fun h => by rw [Bd.returns] at h; cases h) (BodyLoose.notSynchronized Bd)
  refine ⟨_, _, pre0 _ ?_, hrun, hended, _, _, rfl, ?_, ⟨_, rfl⟩, hW, hsame.mono (by decide) (by decide)⟩
  · show Steps p.tables e below (s₁.setTop (mkF m 0 #[.val (.ref a1), .val (.int (1 : Int32))] [])) _
    refine XS.aloadN X0.here hx rfl (hb hby d25_0) rfl rfl ?_
    refine XS.iloadN X0.here hx rfl (hb hby d25_1) rfl ?_
    refine XS.aloadN X0.here hx rfl (hb hby d25_2) rfl rfl ?_
    refine st1 _ ?_
    refine st2 _ ?_
    show Steps p.tables e below (T2.setTop (mkF m 9 #[.val (.ref a1), .val (.int (1 : Int32))] [(.ref o2)])) _
    exact X2.areturnOut hx rfl Bd.returns rfl (hb hby d25_9) hr
  · show QrC2 Z a1 x k mr h0 n0 _ T2.heap _
    exact ⟨o2, _, rfl, N2, K2, gn2, (Nat.le_trans (Keep.refl h0 []).1 gk2), AV2'⟩
theorem pd_9 : parseMethodDescriptor "([Ljava/lang/Object;I)[Ljava/lang/Object;" = some ⟨[(.array (.object "java/lang/Object")), .int], some (.array (.object "java/lang/Object"))⟩ := by decide +kernel
theorem d24_0 : decode jdk_38_method_16_code 0 = .ok (.aload_n 0, 1) := by decide +kernel
theorem d24_1 : decode jdk_38_method_16_code 1 = .ok (.getfield 9, 3) := by decide +kernel
theorem d24_4 : decode jdk_38_method_16_code 4 = .ok (.aload_n 0, 1) := by decide +kernel
theorem d24_5 : decode jdk_38_method_16_code 5 = .ok (.getfield 48, 3) := by decide +kernel
theorem d24_8 : decode jdk_38_method_16_code 8 = .ok (.invokestatic 66, 3) := by decide +kernel
theorem d24_11 : decode jdk_38_method_16_code 11 = .ok (.areturn, 1) := by decide +kernel
theorem pn_24 : plainName "java/util/ArrayList" = true := by first | (simp [plainName, overriddenIn]; done) | decide +kernel
theorem ef_rTA (m : MethodId) (a1 : Addr) : entryFrame m #[(.ref a1)] 1 = mkF m 0 #[.val (.ref a1)] [] := by first | (simp [entryFrame, mkF, argsToLocals, Value.category]; done) | rfl
def QrTA (Z : State) (a1 : Addr) (ea : Addr) (x : Addr) (k : ClassId) (mr : Addr) (h0 : Heap) (n0 : Nat) (v : Option Value) (h : Heap) (L : List Loc) : Prop := ∃ (o : Addr) (rk : ClassId), v = some (.ref o) ∧ Fr n0 L ∧ Keep h0 h [] ∧ n0 ≤ o ∧ h0.size ≤ o ∧ Arv Z h o rk (.object "java/lang/Object") (1 : Int32) [.ref x] .null
set_option maxRecDepth 65536 in
set_option maxHeartbeats 40000000 in
theorem rTA (l : Launch) (Z : State) (a0 : Array Value) (hw : ∀ d ∈ tables_1, d.before a0 Z = true) (ws : List Jvm.Cond) (a1 : Addr) (ea : Addr) (x : Addr) (k : ClassId) (mr : Addr) (h0 : Heap) (n0 : Nat) (Z0 : n0 ≤ h0.size) (FE : Fld Z h0 a1 "java/util/ArrayList" "elementData" "[Ljava/lang/Object;" (.ref ea)) (FZ : Fld Z h0 a1 "java/util/ArrayList" "size" "I" (.int (1 : Int32))) (AV : Arv Z h0 ea k (.object "java/lang/Object") (10 : Int32) [.ref x, .null, .null, .null, .null, .null, .null, .null, .null, .null] .null) (EX : Exa Z h0 x "java/lang/String") (EA : Exa Z h0 ea "[Ljava/lang/Object;") (M : Mir Z "[Ljava/lang/Object;" mr) :
    MetFree l (⟨"java/util/ArrayList", "toArray", "()[Ljava/lang/Object;"⟩ : MethodName) (head1 (Jvm.Cond.code (⟨"java/util/ArrayList", "toArray", "()[Ljava/lang/Object;"⟩ : MethodName) jdk_38_method_16_code 1 (some (.array (.object "java/lang/Object"))) :: ws) ({ frames := 3, cells := 1, slots := 1, locals := 46 } : Room)) (fun a U => a = #[(.ref a1)] ∧ Z.Warmed39 U.vm ∧ U.heap = h0) (fun _ _ _ _ _ => True) (fun _ U o U' => ∃ v L, o = .returned v ∧ QrTA Z a1 ea x k mr h0 n0 v U'.heap L ∧ FrameEnd U o U' L ({ frames := 3, cells := 1, slots := 1, locals := 46 } : Room).cells ({ frames := 3, cells := 1, slots := 1, locals := 46 } : Room).slots) := by
  refine MetFree.of_bodySF (plainFor_of_name pn_24) hisR ?_
  intro p e s m args below meth c s₁ Bd hml0 hP hK
  obtain ⟨rfl, hZ, hh⟩ := hP
  have hx := Bd.exec
  have hby := Bd.bytes
  have hml : c.maxLocals = 1 := hml0
  have hown : s.vm.findClass "java/util/ArrayList" = some m.cls := findClass_of_methodNamed Bd.named
  have hnm := (name_of_methodNamed Bd.named Bd.method).1
  have X0 : Stand p l e ({ frames := 3, cells := 1, slots := 1, locals := 46 } : Room) s m #[(.ref a1)] below meth c s₁ [] 0 0 := Stand.of_body Bd
  have e0 : s₁.heap = h0 := by rw [← hh, Bd.state]; rfl
  have N0 := Fr.nil n0
  have pre0 : ∀ t, Steps p.tables e below (s₁.setTop (mkF m 0 #[.val (.ref a1)] [])) t → Steps p.tables e below (s₁.setTop (entryFrame m #[(.ref a1)] 1)) t := fun t k => castTop (ef_rTA m a1) k
  obtain ⟨T1, X1, e1, st1⟩ := getF X0 hx hZ hown (host := "") (Or.inl (hw _ (own_w 24 rfl))) Via.refl e0 FE (g := (mkF m 1 #[.val (.ref a1)] [(.ref a1)])) rfl rfl (hb hby d24_1)
  obtain ⟨T2, X2, e2, st2⟩ := getF X1 hx hZ hown (host := "") (Or.inl (hw _ (own_w 61 rfl))) Via.refl e1 FZ (g := (mkF m 5 #[.val (.ref a1)] [(.ref a1), (.ref ea)])) rfl rfl (hb hby d24_5)
  obtain ⟨_, _, ⟨T3, Lq3, kq3, nq3⟩, -, X3, ⟨Lc3, hQ3, lq3, yq3, zq3⟩, st3⟩ := Jvm.LawKit.callS X2 hx (y := (⟨"java/util/Arrays", "copyOf", "([Ljava/lang/Object;I)[Ljava/lang/Object;"⟩ : MethodName)) hown (mvT hZ (hw _ (own_w 164 rfl))) (mvT hZ (hw _ (own_w 165 rfl))) (mvT hZ (hw _ (own_w 166 rfl))) (mvT hZ (hw _ (own_w 167 rfl))) (by decide) (backOf (W := 0) (rC2 l Z a0 hw [] ea x k mr h0 n0 Z0 AV EX EA M) hZ (hw _ (own_w 167 rfl)) (hw _ (own_w 166 rfl)) (by decide) (by decide)) (g := (mkF m 8 #[.val (.ref a1)] [(.int (1 : Int32)), (.ref ea)])) rfl (by rw [hml]; rfl) (argsL := [(.ref ea), (.int (1 : Int32))]) (rest := []) (lenOf pd_9 rfl) rfl (by show 2 * 0 + _ ≤ _; exact Nat.le_of_eq rfl) (hb hby d24_8) (fun _ _ => ⟨rfl, e2, (by decide : 0 + 1 ≤ _), (by decide : 0 + 1 ≤ _)⟩)
  dsimp only [Pt.U, Pt.locs, Pt.cells, Pt.slots] at X3 lq3 yq3 zq3 st3 hQ3
  subst lq3 yq3 zq3
  obtain ⟨o3, rk3, rfl, N3q, KC3, gn3, gk3, AV3'⟩ := hQ3
  have N3 := Fr.app N0 N3q
  have Z3 : n0 ≤ T3.heap.size := Nat.le_trans Z0 KC3.1
  have ne4 : a1 ≠ o3 := Nat.ne_of_lt (Nat.lt_of_lt_of_le FZ.lt gk3)
  have ne5 : ea ≠ o3 := Nat.ne_of_lt (Nat.lt_of_lt_of_le EA.lt gk3)
  have ne6 : x ≠ o3 := Nat.ne_of_lt (Nat.lt_of_lt_of_le EX.lt gk3)
  have K3 : Keep h0 T3.heap [] := (Keep.refl h0 []).trans KC3 all0
  obtain ⟨fs, hr, hrun, hended, hW, hsame⟩ := X3.leave (v := some (.ref o3)) (fun h => by rw [Bd.returns] at h; cases h) (BodyLoose.notSynchronized Bd)
  refine ⟨_, _, pre0 _ ?_, hrun, hended, _, _, rfl, ?_, ⟨_, rfl⟩, hW, hsame.mono (by decide) (by decide)⟩
  · show Steps p.tables e below (s₁.setTop (mkF m 0 #[.val (.ref a1)] [])) _
    refine XS.aloadN X0.here hx rfl (hb hby d24_0) rfl rfl ?_
    refine st1 _ ?_
    refine XS.aloadN X1.here hx rfl (hb hby d24_4) rfl rfl ?_
    refine st2 _ ?_
    refine st3 _ ?_
    show Steps p.tables e below (T3.setTop (mkF m 11 #[.val (.ref a1)] [(.ref o3)])) _
    exact X3.areturnOut hx rfl Bd.returns rfl (hb hby d24_11) hr
  · show QrTA Z a1 ea x k mr h0 n0 _ T3.heap _
    exact ⟨o3, _, rfl, N3, K3, gn3, (Nat.le_trans (Keep.refl h0 []).1 gk3), AV3'⟩
theorem d32_0 : decode jdk_31_method_10_code 0 = .ok (.aload_n 0, 1) := by decide +kernel
theorem d32_1 : decode jdk_31_method_10_code 1 = .ok (.ifnonnull 11, 3) := by decide +kernel
theorem d32_12 : decode jdk_31_method_10_code 12 = .ok (.aload_n 0, 1) := by decide +kernel
theorem d32_13 : decode jdk_31_method_10_code 13 = .ok (.areturn, 1) := by decide +kernel
theorem pn_32 : plainName "java/util/Objects" = true := by first | (simp [plainName, overriddenIn]; done) | decide +kernel
theorem ef_rRN (m : MethodId) (a1 : Addr) : entryFrame m #[(.ref a1)] 1 = mkF m 0 #[.val (.ref a1)] [] := by first | (simp [entryFrame, mkF, argsToLocals, Value.category]; done) | rfl
def QrRN (Z : State) (a1 : Addr) (h0 : Heap) (n0 : Nat) (v : Option Value) (h : Heap) (L : List Loc) : Prop := v = some (.ref a1) ∧ Fr n0 L ∧ h = h0
set_option maxRecDepth 65536 in
set_option maxHeartbeats 40000000 in
theorem rRN (l : Launch) (Z : State) (a0 : Array Value) (hw : ∀ d ∈ tables_1, d.before a0 Z = true) (ws : List Jvm.Cond) (a1 : Addr) (h0 : Heap) (n0 : Nat) (Z0 : n0 ≤ h0.size) :
    MetFree l (⟨"java/util/Objects", "requireNonNull", "(Ljava/lang/Object;)Ljava/lang/Object;"⟩ : MethodName) (head1 (Jvm.Cond.code (⟨"java/util/Objects", "requireNonNull", "(Ljava/lang/Object;)Ljava/lang/Object;"⟩ : MethodName) jdk_31_method_10_code 1 (some (.object "java/lang/Object")) :: ws) ({ frames := 0, cells := 0, slots := 0, locals := 0 } : Room)) (fun a U => a = #[(.ref a1)] ∧ Z.Warmed39 U.vm ∧ U.heap = h0) (fun _ _ _ _ _ => True) (fun _ U o U' => ∃ v L, o = .returned v ∧ QrRN Z a1 h0 n0 v U'.heap L ∧ FrameEnd U o U' L ({ frames := 0, cells := 0, slots := 0, locals := 0 } : Room).cells ({ frames := 0, cells := 0, slots := 0, locals := 0 } : Room).slots) := by
  refine MetFree.of_bodySF (plainFor_of_name pn_32) hisR ?_
  intro p e s m args below meth c s₁ Bd hml0 hP hK
  obtain ⟨rfl, hZ, hh⟩ := hP
  have hx := Bd.exec
  have hby := Bd.bytes
  have hml : c.maxLocals = 1 := hml0
  have hown : s.vm.findClass "java/util/Objects" = some m.cls := findClass_of_methodNamed Bd.named
  have hnm := (name_of_methodNamed Bd.named Bd.method).1
  have X0 : Stand p l e ({ frames := 0, cells := 0, slots := 0, locals := 0 } : Room) s m #[(.ref a1)] below meth c s₁ [] 0 0 := Stand.of_body Bd
  have e0 : s₁.heap = h0 := by rw [← hh, Bd.state]; rfl
  have N0 := Fr.nil n0
  have pre0 : ∀ t, Steps p.tables e below (s₁.setTop (mkF m 0 #[.val (.ref a1)] [])) t → Steps p.tables e below (s₁.setTop (entryFrame m #[(.ref a1)] 1)) t := fun t k => castTop (ef_rRN m a1) k
  obtain ⟨fs, hr, hrun, hended, hW, hsame⟩ := X0.leave (v := some (.ref a1)) (fun h => by rw [Bd.returns] at h; cases h) (BodyLoose.notSynchronized Bd)
  refine ⟨_, _, pre0 _ ?_, hrun, hended, _, _, rfl, ?_, ⟨_, rfl⟩, hW, hsame.mono (by decide) (by decide)⟩
  · show Steps p.tables e below (s₁.setTop (mkF m 0 #[.val (.ref a1)] [])) _
    refine XS.aloadN X0.here hx rfl (hb hby d32_0) rfl rfl ?_
    refine XS.ifnonnullYes X0.here hx rfl (pc0 := 1) (pc' := 12) rfl (hb hby d32_1) rfl (by decide) (by decide) ?_
    refine XS.aloadN X0.here hx rfl (hb hby d32_12) rfl rfl ?_
    show Steps p.tables e below (s₁.setTop (mkF m 13 #[.val (.ref a1)] [(.ref a1)])) _
    exact X0.areturnOut hx rfl Bd.returns rfl (hb hby d32_13) hr
  · show QrRN Z a1 h0 n0 _ s₁.heap _
    exact ⟨rfl, N0, e0⟩
theorem pd_10 : parseMethodDescriptor "(Ljava/lang/Object;)Ljava/lang/Object;" = some ⟨[(.object "java/lang/Object")], some (.object "java/lang/Object")⟩ := by decide +kernel
theorem d29_0 : decode jdk_44_method_1_code 0 = .ok (.aload_n 0, 1) := by decide +kernel
theorem d29_1 : decode jdk_44_method_1_code 1 = .ok (.invokespecial 1, 3) := by decide +kernel
theorem d29_4 : decode jdk_44_method_1_code 4 = .ok (.aload_n 0, 1) := by decide +kernel
theorem d29_5 : decode jdk_44_method_1_code 5 = .ok (.aload_n 1, 1) := by decide +kernel
theorem d29_6 : decode jdk_44_method_1_code 6 = .ok (.invokestatic 7, 3) := by decide +kernel
theorem d29_9 : decode jdk_44_method_1_code 9 = .ok (.putfield 13, 3) := by decide +kernel
theorem d29_12 : decode jdk_44_method_1_code 12 = .ok (.aload_n 0, 1) := by decide +kernel
theorem d29_13 : decode jdk_44_method_1_code 13 = .ok (.getstatic 19, 3) := by decide +kernel
theorem d29_16 : decode jdk_44_method_1_code 16 = .ok (.putfield 24, 3) := by decide +kernel
theorem d29_19 : decode jdk_44_method_1_code 19 = .ok (.return_, 1) := by decide +kernel
theorem pn_29 : plainName "java/util/ImmutableCollections$List12" = true := by first | (simp [plainName, overriddenIn]; done) | decide +kernel
theorem ef_rL2 (m : MethodId) (a1 : Addr) (a2 : Addr) : entryFrame m #[(.ref a1), (.ref a2)] 2 = mkF m 0 #[.val (.ref a1), .val (.ref a2)] [] := by first | (simp [entryFrame, mkF, argsToLocals, Value.category]; done) | rfl
def QrL2 (Z : State) (a1 : Addr) (a2 : Addr) (eo : Addr) (h0 : Heap) (n0 : Nat) (v : Option Value) (h : Heap) (L : List Loc) : Prop := v = none ∧ Fr n0 L ∧ Keep h0 h [a1]
set_option maxRecDepth 65536 in
set_option maxHeartbeats 40000000 in
theorem rL2 (l : Launch) (Z : State) (a0 : Array Value) (hw : ∀ d ∈ tables_1, d.before a0 Z = true) (ws : List Jvm.Cond) (a1 : Addr) (a2 : Addr) (eo : Addr) (h0 : Heap) (n0 : Nat) (Z0 : n0 ≤ h0.size) (E : Exa Z h0 a1 "java/util/ImmutableCollections$List12") (F0 : Fld Z h0 a1 "java/util/ImmutableCollections$List12" "e0" "Ljava/lang/Object;" .null) (F1 : Fld Z h0 a1 "java/util/ImmutableCollections$List12" "e1" "Ljava/lang/Object;" .null) (ga : n0 ≤ a1) (X00 : Old Z n0 h0) (O_E : Sta Z Z.heap "java/util/ImmutableCollections" "EMPTY" "Ljava/lang/Object;" (.ref eo)) :
    MetFree l (⟨"java/util/ImmutableCollections$List12", "<init>", "(Ljava/lang/Object;)V"⟩ : MethodName) (head1 (Jvm.Cond.code (⟨"java/util/ImmutableCollections$List12", "<init>", "(Ljava/lang/Object;)V"⟩ : MethodName) jdk_44_method_1_code 2 none :: ws) ({ frames := 4, cells := 0, slots := 0, locals := 48 } : Room)) (fun a U => a = #[(.ref a1), (.ref a2)] ∧ Z.Warmed39 U.vm ∧ U.heap = h0) (fun _ _ _ _ _ => True) (fun _ U o U' => ∃ v L, o = .returned v ∧ QrL2 Z a1 a2 eo h0 n0 v U'.heap L ∧ FrameEnd U o U' L ({ frames := 4, cells := 0, slots := 0, locals := 48 } : Room).cells ({ frames := 4, cells := 0, slots := 0, locals := 48 } : Room).slots) := by
  refine MetFree.of_bodySF (plainFor_of_name pn_29) hisR ?_
  intro p e s m args below meth c s₁ Bd hml0 hP hK
  obtain ⟨rfl, hZ, hh⟩ := hP
  have hx := Bd.exec
  have hby := Bd.bytes
  have hml : c.maxLocals = 2 := hml0
  have hown : s.vm.findClass "java/util/ImmutableCollections$List12" = some m.cls := findClass_of_methodNamed Bd.named
  have hnm := (name_of_methodNamed Bd.named Bd.method).1
  have X0 : Stand p l e ({ frames := 4, cells := 0, slots := 0, locals := 48 } : Room) s m #[(.ref a1), (.ref a2)] below meth c s₁ [] 0 0 := Stand.of_body Bd
  have e0 : s₁.heap = h0 := by rw [← hh, Bd.state]; rfl
  have N0 := Fr.nil n0
  have pre0 : ∀ t, Steps p.tables e below (s₁.setTop (mkF m 0 #[.val (.ref a1), .val (.ref a2)] [])) t → Steps p.tables e below (s₁.setTop (entryFrame m #[(.ref a1), (.ref a2)] 2)) t := fun t k => castTop (ef_rL2 m a1 a2) k
  obtain ⟨_, _, ⟨T1, Lq1, kq1, nq1⟩, -, X1, ⟨Lc1, hQ1, lq1, yq1, zq1⟩, st1⟩ := X0.specialBack hx (y := (⟨"java/util/ImmutableCollections$AbstractImmutableList", "<init>", "()V"⟩ : MethodName)) rfl hown (mvT hZ (hw _ (own_w 196 rfl))) (mvT hZ (hw _ (own_w 197 rfl))) (mvT hZ (hw _ (own_w 201 rfl))) (by decide) (backOf (W := 0) (rAJ l Z a0 hw [] a1  h0 n0 Z0 ) hZ (hw _ (own_w 201 rfl)) (hw _ (own_w 200 rfl)) (by decide) (by decide)) (g := (mkF m 1 #[.val (.ref a1), .val (.ref a2)] [(.ref a1)])) rfl (by rw [hml]; rfl) (Steps.refl _) (a := a1) (argsL := []) (rest := []) (lenOf pd_0 rfl) rfl (by show 2 * 0 + _ ≤ _; exact Nat.le_of_eq rfl) (hb hby d29_1) (fun _ _ => ⟨rfl, e0, (by decide : 0 + 0 ≤ _), (by decide : 0 + 0 ≤ _)⟩)
  dsimp only [Pt.U, Pt.locs, Pt.cells, Pt.slots] at X1 lq1 yq1 zq1 st1 hQ1
  subst lq1 yq1 zq1
  obtain ⟨rfl, N1q, e1⟩ := hQ1
  have N1 := Fr.app N0 N1q
  obtain ⟨_, _, ⟨T2, Lq2, kq2, nq2⟩, -, X2, ⟨Lc2, hQ2, lq2, yq2, zq2⟩, st2⟩ := Jvm.LawKit.callS X1 hx (y := (⟨"java/util/Objects", "requireNonNull", "(Ljava/lang/Object;)Ljava/lang/Object;"⟩ : MethodName)) hown (mvT hZ (hw _ (own_w 210 rfl))) (mvT hZ (hw _ (own_w 211 rfl))) (mvT hZ (hw _ (own_w 212 rfl))) (mvT hZ (hw _ (own_w 213 rfl))) (by decide) (backOf (W := 1) (rRN l Z a0 hw [] a2  h0 n0 Z0 ) hZ (hw _ (own_w 213 rfl)) (hw _ (own_w 212 rfl)) (by decide) (by decide)) (g := (mkF m 6 #[.val (.ref a1), .val (.ref a2)] [(.ref a2), (.ref a1)])) rfl (by rw [hml]; rfl) (argsL := [(.ref a2)]) (rest := [(.ref a1)]) (lenOf pd_10 rfl) rfl (by show 2 * 0 + _ ≤ _; exact Nat.le_of_eq rfl) (hb hby d29_6) (fun _ _ => ⟨rfl, e1, (by decide : 0 + 0 ≤ _), (by decide : 0 + 0 ≤ _)⟩)
  dsimp only [Pt.U, Pt.locs, Pt.cells, Pt.slots] at X2 lq2 yq2 zq2 st2 hQ2
  subst lq2 yq2 zq2
  obtain ⟨rfl, N2q, e2⟩ := hQ2
  have N2 := Fr.app N1 N2q
  obtain ⟨T3, h3, X3, e3, W3, st3⟩ := putF X2 hx hZ hown (host := "") (Or.inl (hw _ (own_w 214 rfl))) Via.refl e2 F0 E (Or.inr ⟨(hw _ (own_w 215 rfl)), rfl, hnm⟩) (hw _ (own_w 190 rfl)) (ty := (.object "java/lang/Object")) (by decide) rfl rfl (g := (mkF m 9 #[.val (.ref a1), .val (.ref a2)] [(.ref a2), (.ref a1)])) rfl rfl (hb hby d29_9)
  have N3 := Fr.snoc X3 N2 ga
  have Z3 : n0 ≤ h3.size := by rw [W3.size]; exact Z0
  have K3 : Keep h0 h3 [a1] := (Keep.refl h0 [a1]).wr W3 (Or.inl (own_w 0 rfl))
  have Fw3 := F0.same W3
  have f4 := (X00.wr W3 ga)
  obtain ⟨T5, X5, e5, st5⟩ := getS2 X3 hx hZ hown (Or.inr (hw _ (own_w 216 rfl))) Via.refl e3 (O_E.ext f4.2) (g := (mkF m 13 #[.val (.ref a1), .val (.ref a2)] [(.ref a1)])) rfl (hb hby d29_13)
  have f6 := (E.wr W3)
  have f7 := (F1.other W3 (Or.inr (slot_ne (Or.inr (hw _ (own_w 218 rfl))) (Or.inr (hw _ (own_w 215 rfl))) (by decide) (t := (.object "java/lang/Object")) (t' := (.object "java/lang/Object")) (by decide) (by decide))))
  obtain ⟨T8, h8, X8, e8, W8, st8⟩ := putF X5 hx hZ hown (host := "") (Or.inl (hw _ (own_w 217 rfl))) Via.refl e5 f7 f6 (Or.inr ⟨(hw _ (own_w 218 rfl)), rfl, hnm⟩) (hw _ (own_w 190 rfl)) (ty := (.object "java/lang/Object")) (by decide) rfl rfl (g := (mkF m 16 #[.val (.ref a1), .val (.ref a2)] [(.ref eo), (.ref a1)])) rfl rfl (hb hby d29_16)
  have N8 := Fr.snoc X8 N3 ga
  have Z8 : n0 ≤ h8.size := by rw [W8.size]; exact Z3
  have K8 : Keep h0 h8 [a1] := K3.wr W8 (Or.inl (own_w 0 rfl))
  have Fw8 := f7.same W8
  obtain ⟨fs, hr, hrun, hended, hW, hsame⟩ := X8.leave (v := none) (fun _ => rfl) (BodyLoose.notSynchronized Bd)
  refine ⟨_, _, pre0 _ ?_, hrun, hended, _, _, rfl, ?_, ⟨_, rfl⟩, hW, hsame.mono (by decide) (by decide)⟩
  · show Steps p.tables e below (s₁.setTop (mkF m 0 #[.val (.ref a1), .val (.ref a2)] [])) _
    refine XS.aloadN X0.here hx rfl (hb hby d29_0) rfl rfl ?_
    refine st1.trans ?_
    refine XS.aloadN X1.here hx rfl (hb hby d29_4) rfl rfl ?_
    refine XS.aloadN X1.here hx rfl (hb hby d29_5) rfl rfl ?_
    refine st2 _ ?_
    refine st3 _ ?_
    refine XS.aloadN X3.here hx rfl (hb hby d29_12) rfl rfl ?_
    refine st5 _ ?_
    refine st8 _ ?_
    show Steps p.tables e below (T8.setTop (mkF m 19 #[.val (.ref a1), .val (.ref a2)] [])) _
    exact X8.returnOut hx Bd.returns (hb hby d29_19) hr
  · show QrL2 Z a1 a2 eo h0 n0 _ T8.heap _
    rw [e8]
    exact ⟨rfl, N8, K8⟩
theorem pd_11 : parseMethodDescriptor "(Ljava/lang/Object;)V" = some ⟨[(.object "java/lang/Object")], none⟩ := by decide +kernel
theorem d28_0 : decode jdk_40_method_47_code 0 = .ok (.aload_n 0, 1) := by decide +kernel
theorem d28_1 : decode jdk_40_method_47_code 1 = .ok (.arraylength, 1) := by decide +kernel
theorem d28_2 : decode jdk_40_method_47_code 2 = .ok (.tableswitch 57 0 2 #[26, 32, 43], 26) := by decide +kernel
theorem d28_34 : decode jdk_40_method_47_code 34 = .ok (.new 96, 3) := by decide +kernel
theorem d28_37 : decode jdk_40_method_47_code 37 = .ok (.dup, 1) := by decide +kernel
theorem d28_38 : decode jdk_40_method_47_code 38 = .ok (.aload_n 0, 1) := by decide +kernel
theorem d28_39 : decode jdk_40_method_47_code 39 = .ok (.iconst 0, 1) := by decide +kernel
theorem d28_40 : decode jdk_40_method_47_code 40 = .ok (.aaload, 1) := by decide +kernel
theorem d28_41 : decode jdk_40_method_47_code 41 = .ok (.invokespecial 98, 3) := by decide +kernel
theorem d28_44 : decode jdk_40_method_47_code 44 = .ok (.areturn, 1) := by decide +kernel
theorem pn_28 : plainName "java/util/List" = true := by first | (simp [plainName, overriddenIn]; done) | decide +kernel
theorem ef_rOA (m : MethodId) (a1 : Addr) : entryFrame m #[(.ref a1)] 2 = mkF m 0 #[.val (.ref a1), .unset] [] := by first | (simp [entryFrame, mkF, argsToLocals, Value.category]; done) | rfl
def QrOA (Z : State) (a1 : Addr) (x : Addr) (k : ClassId) (eo : Addr) (h0 : Heap) (n0 : Nat) (v : Option Value) (h : Heap) (L : List Loc) : Prop := ∃ o : Addr, v = some (.ref o) ∧ Fr n0 L ∧ Keep h0 h [] ∧ n0 ≤ o ∧ h0.size ≤ o
set_option maxRecDepth 65536 in
set_option maxHeartbeats 40000000 in
theorem rOA (l : Launch) (Z : State) (a0 : Array Value) (hw : ∀ d ∈ tables_1, d.before a0 Z = true) (ws : List Jvm.Cond) (a1 : Addr) (x : Addr) (k : ClassId) (eo : Addr) (h0 : Heap) (n0 : Nat) (Z0 : n0 ≤ h0.size) (AV : Arv Z h0 a1 k (.object "java/lang/Object") (1 : Int32) [.ref x] .null) (X00 : Old Z n0 h0) (O_E : Sta Z Z.heap "java/util/ImmutableCollections" "EMPTY" "Ljava/lang/Object;" (.ref eo)) :
    MetFree l (⟨"java/util/List", "of", "([Ljava/lang/Object;)Ljava/util/List;"⟩ : MethodName) (head1 (Jvm.Cond.code (⟨"java/util/List", "of", "([Ljava/lang/Object;)Ljava/util/List;"⟩ : MethodName) jdk_40_method_47_code 2 (some (.object "java/util/List")) :: ws) ({ frames := 5, cells := 1, slots := 2, locals := 62 } : Room)) (fun a U => a = #[(.ref a1)] ∧ Z.Warmed39 U.vm ∧ U.heap = h0) (fun _ _ _ _ _ => True) (fun _ U o U' => ∃ v L, o = .returned v ∧ QrOA Z a1 x k eo h0 n0 v U'.heap L ∧ FrameEnd U o U' L ({ frames := 5, cells := 1, slots := 2, locals := 62 } : Room).cells ({ frames := 5, cells := 1, slots := 2, locals := 62 } : Room).slots) := by
  refine MetFree.of_bodySF (plainFor_of_name pn_28) hisR ?_
  intro p e s m args below meth c s₁ Bd hml0 hP hK
  obtain ⟨rfl, hZ, hh⟩ := hP
  have hx := Bd.exec
  have hby := Bd.bytes
  have hml : c.maxLocals = 2 := hml0
  have hown : s.vm.findClass "java/util/List" = some m.cls := findClass_of_methodNamed Bd.named
  have hnm := (name_of_methodNamed Bd.named Bd.method).1
  have X0 : Stand p l e ({ frames := 5, cells := 1, slots := 2, locals := 62 } : Room) s m #[(.ref a1)] below meth c s₁ [] 0 0 := Stand.of_body Bd
  have e0 : s₁.heap = h0 := by rw [← hh, Bd.state]; rfl
  have N0 := Fr.nil n0
  have pre0 : ∀ t, Steps p.tables e below (s₁.setTop (mkF m 0 #[.val (.ref a1), .unset] [])) t → Steps p.tables e below (s₁.setTop (entryFrame m #[(.ref a1)] 2)) t := fun t k => castTop (ef_rOA m a1) k
  obtain ⟨cl1, Ar1, qk1, Sz1, Nn1, Hh1, Gg1⟩ := id (AV)
  obtain ⟨T2, h2, X2, e2, E2, A2, D2, -, st2⟩ := newO X0 hx hZ hown (hw _ (own_w 189 rfl)) (hw _ (own_w 190 rfl)) (hw _ (own_w 191 rfl)) e0 (g := (mkF m 34 #[.val (.ref a1), .unset] [])) rfl (hb hby d28_34) (by decide) (by decide)
  obtain ⟨b2o, g2⟩ : ∃ z, z = h0.size := ⟨_, rfl⟩
  have b2 : n0 ≤ b2o := Nat.le_trans Z0 (Nat.le_of_eq g2.symm)
  have bk2 : h0.size ≤ b2o := Nat.le_trans (Keep.refl h0 []).1 (Nat.le_of_eq g2.symm)
  have ne3 : a1 ≠ b2o := Nat.ne_of_lt (Nat.lt_of_lt_of_le AV.lt (Nat.le_of_eq g2.symm))
  rw [← g2] at A2 D2 st2
  have Z2 : n0 ≤ h2.size := Nat.le_trans Z0 E2.1
  have K2 : Keep h0 h2 [] := (Keep.refl h0 []).ext E2
  have F2_215 : Fld Z h2 b2o "java/util/ImmutableCollections$List12" "e0" "Ljava/lang/Object;" .null := D2 (Or.inr (hw _ (own_w 215 rfl))) (ty := (.object "java/lang/Object")) (by decide)
  have F2_218 : Fld Z h2 b2o "java/util/ImmutableCollections$List12" "e1" "Ljava/lang/Object;" .null := D2 (Or.inr (hw _ (own_w 218 rfl))) (ty := (.object "java/lang/Object")) (by decide)
  have f4 := (AV.ext E2)
  obtain ⟨cl5, Ar5, qk5, Sz5, Nn5, Hh5, Gg5⟩ := id (f4)
  have hin6 : ¬ ((0 : Int32) < 0 ∨ cl5.slots.size ≤ ((0 : Int32)).toNatClampNeg) := inb_of Sz5 ⟨by decide, by decide⟩
  have hat6 : cl5.slots[((0 : Int32)).toNatClampNeg]? = some (.ref x) := Has.at Hh5 hin6 rfl
  have f8 := (X00.ext E2)
  obtain ⟨_, _, ⟨T7, Lq7, kq7, nq7⟩, -, X7, ⟨Lc7, hQ7, lq7, yq7, zq7⟩, st7⟩ := X2.specialBack hx (y := (⟨"java/util/ImmutableCollections$List12", "<init>", "(Ljava/lang/Object;)V"⟩ : MethodName)) rfl hown (mvT hZ (hw _ (own_w 192 rfl))) (mvT hZ (hw _ (own_w 193 rfl))) (mvT hZ (hw _ (own_w 195 rfl))) (by decide) (backOf (W := 1) (rL2 l Z a0 hw [] b2o x eo h2 n0 Z2 A2 F2_215 F2_218 b2 f8 O_E) hZ (hw _ (own_w 195 rfl)) (hw _ (own_w 191 rfl)) (by decide) (by decide)) (g := (mkF m 41 #[.val (.ref a1), .unset] [(.ref x), (.ref b2o), (.ref b2o)])) rfl (by rw [hml]; rfl) (Steps.refl _) (a := b2o) (argsL := [(.ref x)]) (rest := [(.ref b2o)]) (lenOf pd_11 rfl) rfl (by show 2 * 0 + _ ≤ _; exact Nat.le_of_eq rfl) (hb hby d28_41) (fun _ _ => ⟨rfl, e2, (by decide : 1 + 0 ≤ _), (by decide : 2 + 0 ≤ _)⟩)
  dsimp only [Pt.U, Pt.locs, Pt.cells, Pt.slots] at X7 lq7 yq7 zq7 st7 hQ7
  subst lq7 yq7 zq7
  obtain ⟨rfl, N7q, KC7⟩ := hQ7
  have N7 := Fr.app N0 N7q
  have Z7 : n0 ≤ T7.heap.size := Nat.le_trans Z2 KC7.1
  have K7 : Keep h0 T7.heap [] := K2.trans KC7 (allS (Or.inr bk2) all0)
  obtain ⟨fs, hr, hrun, hended, hW, hsame⟩ := X7.leave (v := some (.ref b2o)) (fun h => by rw [Bd.returns] at h; cases h) (BodyLoose.notSynchronized Bd)
  refine ⟨_, _, pre0 _ ?_, hrun, hended, _, _, rfl, ?_, ⟨_, rfl⟩, hW, hsame.mono (by decide) (by decide)⟩
  · show Steps p.tables e below (s₁.setTop (mkF m 0 #[.val (.ref a1), .unset] [])) _
    refine XS.aloadN X0.here hx rfl (hb hby d28_0) rfl rfl ?_
    refine X0.arraylength hx (by rw [e0]; exact Ar1.1) (State.isArrayOf_alike hZ.alike Ar1.2.1) (g := (mkF m 1 #[.val (.ref a1), .unset] [(.ref a1)])) rfl rfl (hb hby d28_1) _ ?_
    rw [len_of Sz1 Nn1]
    show Steps p.tables e below (s₁.setTop (mkF m 2 #[.val (.ref a1), .unset] [(.int (1 : Int32))])) _
    refine XS.tswIn X0.here hx rfl (pc0 := 2) (pc' := 34) rfl (hb hby d28_2) rfl (by decide) (o := 32) rfl (by decide) (by decide) ?_
    refine st2 _ ?_
    refine XS.dup X2.here hx rfl (hb hby d28_37) rfl rfl ?_
    refine XS.aloadN X2.here hx rfl (hb hby d28_38) rfl rfl ?_
    refine XS.iconst X2.here hx rfl (hb hby d28_39) ?_
    refine X2.aaload hx (j := (0 : Int32)) (v := (.ref x)) (by rw [e2]; exact Ar5.1) (State.isArrayOf_alike hZ.alike Ar5.2.1) rfl Ar5.2.2 hin6 hat6 (g := (mkF m 40 #[.val (.ref a1), .unset] [(.int (0 : Int32)), (.ref a1), (.ref b2o), (.ref b2o)])) rfl rfl (hb hby d28_40) _ ?_
    refine st7.trans ?_
    show Steps p.tables e below (T7.setTop (mkF m 44 #[.val (.ref a1), .unset] [(.ref b2o)])) _
    exact X7.areturnOut hx rfl Bd.returns rfl (hb hby d28_44) hr
  · show QrOA Z a1 x k eo h0 n0 _ T7.heap _
    exact ⟨b2o, rfl, N7, K7, b2, bk2⟩
theorem pd_12 : parseMethodDescriptor "()Z" = some ⟨[], some .boolean⟩ := by decide +kernel
theorem pd_13 : parseMethodDescriptor "()Ljava/util/List;" = some ⟨[], some (.object "java/util/List")⟩ := by decide +kernel
theorem d8_0 : decode jdk_56_method_3_code 0 = .ok (.aload_n 0, 1) := by decide +kernel
theorem d8_1 : decode jdk_56_method_3_code 1 = .ok (.instanceof 10, 3) := by decide +kernel
theorem d8_4 : decode jdk_56_method_3_code 4 = .ok (.ifCond .ne 22, 3) := by decide +kernel
theorem d8_7 : decode jdk_56_method_3_code 7 = .ok (.aload_n 0, 1) := by decide +kernel
theorem d8_8 : decode jdk_56_method_3_code 8 = .ok (.instanceof 12, 3) := by decide +kernel
theorem d8_11 : decode jdk_56_method_3_code 11 = .ok (.ifCond .eq 20, 3) := by decide +kernel
theorem d8_31 : decode jdk_56_method_3_code 31 = .ok (.aload_n 0, 1) := by decide +kernel
theorem d8_32 : decode jdk_56_method_3_code 32 = .ok (.invokeinterface 20 1, 5) := by decide +kernel
theorem d8_37 : decode jdk_56_method_3_code 37 = .ok (.ifCond .eq 7, 3) := by decide +kernel
theorem d8_40 : decode jdk_56_method_3_code 40 = .ok (.invokestatic 26, 3) := by decide +kernel
theorem d8_43 : decode jdk_56_method_3_code 43 = .ok (.areturn, 1) := by decide +kernel
theorem pn_8 : plainName "java/util/ImmutableCollections" = true := by first | (simp [plainName, overriddenIn]; done) | decide +kernel
theorem ef_rLCA (m : MethodId) (a1 : Addr) : entryFrame m #[(.ref a1)] 2 = mkF m 0 #[.val (.ref a1), .unset] [] := by first | (simp [entryFrame, mkF, argsToLocals, Value.category]; done) | rfl
def QrLCA (Z : State) (a1 : Addr) (el : Addr) (h0 : Heap) (n0 : Nat) (v : Option Value) (h : Heap) (L : List Loc) : Prop := v = some (.ref el) ∧ Fr n0 L ∧ h = h0
set_option maxRecDepth 65536 in
set_option maxHeartbeats 40000000 in
theorem rLCA (l : Launch) (Z : State) (a0 : Array Value) (hw : ∀ d ∈ tables_1, d.before a0 Z = true) (ws : List Jvm.Cond) (a1 : Addr) (el : Addr) (h0 : Heap) (n0 : Nat) (Z0 : n0 ≤ h0.size) (E : Exa Z h0 a1 "java/util/ArrayList") (FZ : Fld Z h0 a1 "java/util/ArrayList" "size" "I" (.int (0 : Int32))) (X00 : Old Z n0 h0) (O_L : Sta Z Z.heap "java/util/ImmutableCollections" "EMPTY_LIST" "Ljava/util/ImmutableCollections$ListN;" (.ref el)) :
    MetFree l (⟨"java/util/ImmutableCollections", "listCopy", "(Ljava/util/Collection;)Ljava/util/List;"⟩ : MethodName) (head1 (Jvm.Cond.code (⟨"java/util/ImmutableCollections", "listCopy", "(Ljava/util/Collection;)Ljava/util/List;"⟩ : MethodName) jdk_56_method_3_code 2 (some (.object "java/util/List")) :: ws) ({ frames := 1, cells := 0, slots := 0, locals := 12 } : Room)) (fun a U => a = #[(.ref a1)] ∧ Z.Warmed39 U.vm ∧ U.heap = h0) (fun _ _ _ _ _ => True) (fun _ U o U' => ∃ v L, o = .returned v ∧ QrLCA Z a1 el h0 n0 v U'.heap L ∧ FrameEnd U o U' L ({ frames := 1, cells := 0, slots := 0, locals := 12 } : Room).cells ({ frames := 1, cells := 0, slots := 0, locals := 12 } : Room).slots) := by
  refine MetFree.of_bodySF (plainFor_of_name pn_8) hisR ?_
  intro p e s m args below meth c s₁ Bd hml0 hP hK
  obtain ⟨rfl, hZ, hh⟩ := hP
  have hx := Bd.exec
  have hby := Bd.bytes
  have hml : c.maxLocals = 2 := hml0
  have hown : s.vm.findClass "java/util/ImmutableCollections" = some m.cls := findClass_of_methodNamed Bd.named
  have hnm := (name_of_methodNamed Bd.named Bd.method).1
  have X0 : Stand p l e ({ frames := 1, cells := 0, slots := 0, locals := 12 } : Room) s m #[(.ref a1)] below meth c s₁ [] 0 0 := Stand.of_body Bd
  have e0 : s₁.heap = h0 := by rw [← hh, Bd.state]; rfl
  have N0 := Fr.nil n0
  have pre0 : ∀ t, Steps p.tables e below (s₁.setTop (mkF m 0 #[.val (.ref a1), .unset] [])) t → Steps p.tables e below (s₁.setTop (entryFrame m #[(.ref a1)] 2)) t := fun t k => castTop (ef_rLCA m a1) k
  obtain ⟨T1, X1, e1, st1⟩ := instNo X0 hx hZ hown (hw _ (own_w 46 rfl)) e0 E (own_nsno (hw _ (own_w 47 rfl)) (hw _ (own_w 190 rfl)) (NS.step (hw _ (own_w 47 rfl)) (NS.step (hw _ (own_w 48 rfl)) (NS.step (hw _ (own_w 49 rfl)) (own_nsroot (hw _ (own_w 50 rfl)) (hw _ (own_w 190 rfl)) (by decide)) (by decide)) (by decide)) (by decide)) (by decide)) (g := (mkF m 1 #[.val (.ref a1), .unset] [(.ref a1)])) rfl rfl (hb hby d8_1)
  obtain ⟨T2, X2, e2, st2⟩ := instNo X1 hx hZ hown (hw _ (own_w 51 rfl)) e1 E (NS.no (hw _ (own_w 47 rfl)) (hw _ (own_w 86 rfl)) (NS.step (hw _ (own_w 47 rfl)) (NS.step (hw _ (own_w 48 rfl)) (NS.step (hw _ (own_w 49 rfl)) (NS.root (hw _ (own_w 50 rfl)) (hw _ (own_w 86 rfl)) (by decide)) (by decide)) (by decide)) (by decide)) (by decide)) (g := (mkF m 8 #[.val (.ref a1), .unset] [(.ref a1)])) rfl rfl (hb hby d8_8)
  obtain ⟨cq3, kz3, q3a, q3b, q3c⟩ := isOf hZ e2 E
  obtain ⟨_, _, ⟨T3, Lq3, kq3, nq3⟩, -, X3, ⟨Lc3, hQ3, lq3, yq3, zq3⟩, st3⟩ := X2.interfaceBack hx (xi := (⟨"java/util/Collection", "isEmpty", "()Z"⟩ : MethodName)) (y := (⟨"java/util/ArrayList", "isEmpty", "()Z"⟩ : MethodName)) hown (mvT hZ (hw _ (own_w 52 rfl))) (mvT hZ (hw _ (own_w 53 rfl))) (mvT hZ (hw _ (own_w 54 rfl))) (mvT hZ (hw _ (own_w 55 rfl))) (mvT hZ (hw _ (own_w 56 rfl))) (mvT hZ (hw _ (own_w 57 rfl))) (mvT hZ (hw _ (own_w 58 rfl))) (mvT hZ (hw _ (own_w 59 rfl))) (by decide) (backOf (W := 0) (rE0 l Z a0 hw [] a1  h0 n0 Z0 FZ) hZ (hw _ (own_w 60 rfl)) (hw _ (own_w 2 rfl)) (by decide) (by decide)) q3a q3b q3c (g := (mkF m 32 #[.val (.ref a1), .unset] [(.ref a1)])) rfl (by rw [hml]; rfl) (Steps.refl _) (argsL := []) (rest := []) (lenOf pd_12 rfl) rfl (by show 2 * 0 + _ ≤ _; exact Nat.le_of_eq rfl) (hb hby d8_32) (fun _ _ => ⟨rfl, e2, (by decide : 0 + 0 ≤ _), (by decide : 0 + 0 ≤ _)⟩)
  dsimp only [Pt.U, Pt.locs, Pt.cells, Pt.slots] at X3 lq3 yq3 zq3 st3 hQ3
  subst lq3 yq3 zq3
  obtain ⟨r3, hr3, rfl, N3q, e3⟩ := hQ3
  have N3 := Fr.app N0 N3q
  subst hr3
  obtain ⟨_, _, ⟨T4, Lq4, kq4, nq4⟩, -, X4, ⟨Lc4, hQ4, lq4, yq4, zq4⟩, st4⟩ := Jvm.LawKit.callS X3 hx (y := (⟨"java/util/List", "of", "()Ljava/util/List;"⟩ : MethodName)) hown (mvT hZ (hw _ (own_w 63 rfl))) (mvT hZ (hw _ (own_w 64 rfl))) (mvT hZ (hw _ (own_w 40 rfl))) (mvT hZ (hw _ (own_w 65 rfl))) (by decide) (backOf (W := 0) (rO0 l Z a0 hw []  el h0 n0 Z0 X00 O_L) hZ (hw _ (own_w 65 rfl)) (hw _ (own_w 40 rfl)) (by decide) (by decide)) (g := (mkF m 40 #[.val (.ref a1), .unset] [])) rfl (by rw [hml]; rfl) (argsL := []) (rest := []) (lenOf pd_13 rfl) rfl (by show 2 * 0 + _ ≤ _; exact Nat.le_of_eq rfl) (hb hby d8_40) (fun _ _ => ⟨rfl, e3, (by decide : 0 + 0 ≤ _), (by decide : 0 + 0 ≤ _)⟩)
  dsimp only [Pt.U, Pt.locs, Pt.cells, Pt.slots] at X4 lq4 yq4 zq4 st4 hQ4
  subst lq4 yq4 zq4
  obtain ⟨rfl, N4q, e4⟩ := hQ4
  have N4 := Fr.app N3 N4q
  obtain ⟨fs, hr, hrun, hended, hW, hsame⟩ := X4.leave (v := some (.ref el)) (fun h => by rw [Bd.returns] at h; cases h) (BodyLoose.notSynchronized Bd)
  refine ⟨_, _, pre0 _ ?_, hrun, hended, _, _, rfl, ?_, ⟨_, rfl⟩, hW, hsame.mono (by decide) (by decide)⟩
  · show Steps p.tables e below (s₁.setTop (mkF m 0 #[.val (.ref a1), .unset] [])) _
    refine XS.aloadN X0.here hx rfl (hb hby d8_0) rfl rfl ?_
    refine st1 _ ?_
    refine XS.ifNo X1.here hx rfl (hb hby d8_4) rfl ((if0 _ _).trans (teq (by decide)).2) ?_
    refine XS.aloadN X1.here hx rfl (hb hby d8_7) rfl rfl ?_
    refine st2 _ ?_
    refine XS.ifYes X2.here hx rfl (pc0 := 11) (pc' := 31) rfl (hb hby d8_11) rfl ((if0 _ _).trans (teq (by decide)).1) (by decide) (by decide) ?_
    refine XS.aloadN X2.here hx rfl (hb hby d8_31) rfl rfl ?_
    refine st3.trans ?_
    refine XS.ifNo X3.here hx rfl (hb hby d8_37) rfl ((if0 _ _).trans (feq (by decide)).1) ?_
    refine st4 _ ?_
    show Steps p.tables e below (T4.setTop (mkF m 43 #[.val (.ref a1), .unset] [(.ref el)])) _
    exact X4.areturnOut hx rfl Bd.returns rfl (hb hby d8_43) hr
  · show QrLCA Z a1 el h0 n0 _ T4.heap _
    exact ⟨rfl, N4, e4⟩
theorem pd_14 : parseMethodDescriptor "([Ljava/lang/Object;)Ljava/util/List;" = some ⟨[(.array (.object "java/lang/Object"))], some (.object "java/util/List")⟩ := by decide +kernel
theorem d8_44 : decode jdk_56_method_3_code 44 = .ok (.aload_n 0, 1) := by decide +kernel
theorem d8_45 : decode jdk_56_method_3_code 45 = .ok (.invokeinterface 30 1, 5) := by decide +kernel
theorem d8_50 : decode jdk_56_method_3_code 50 = .ok (.invokestatic 34, 3) := by decide +kernel
theorem d8_53 : decode jdk_56_method_3_code 53 = .ok (.areturn, 1) := by decide +kernel
theorem ef_rLCB (m : MethodId) (a1 : Addr) : entryFrame m #[(.ref a1)] 2 = mkF m 0 #[.val (.ref a1), .unset] [] := by first | (simp [entryFrame, mkF, argsToLocals, Value.category]; done) | rfl
def QrLCB (Z : State) (a1 : Addr) (ea : Addr) (x : Addr) (k : ClassId) (mr : Addr) (eo : Addr) (h0 : Heap) (n0 : Nat) (v : Option Value) (h : Heap) (L : List Loc) : Prop := ∃ o : Addr, v = some (.ref o) ∧ Fr n0 L ∧ Keep h0 h [] ∧ n0 ≤ o ∧ h0.size ≤ o
set_option maxRecDepth 65536 in
set_option maxHeartbeats 40000000 in
theorem rLCB (l : Launch) (Z : State) (a0 : Array Value) (hw : ∀ d ∈ tables_1, d.before a0 Z = true) (ws : List Jvm.Cond) (a1 : Addr) (ea : Addr) (x : Addr) (k : ClassId) (mr : Addr) (eo : Addr) (h0 : Heap) (n0 : Nat) (Z0 : n0 ≤ h0.size) (E : Exa Z h0 a1 "java/util/ArrayList") (FE : Fld Z h0 a1 "java/util/ArrayList" "elementData" "[Ljava/lang/Object;" (.ref ea)) (FZ : Fld Z h0 a1 "java/util/ArrayList" "size" "I" (.int (1 : Int32))) (AV : Arv Z h0 ea k (.object "java/lang/Object") (10 : Int32) [.ref x, .null, .null, .null, .null, .null, .null, .null, .null, .null] .null) (EX : Exa Z h0 x "java/lang/String") (EA : Exa Z h0 ea "[Ljava/lang/Object;") (M : Mir Z "[Ljava/lang/Object;" mr) (X00 : Old Z n0 h0) (O_E : Sta Z Z.heap "java/util/ImmutableCollections" "EMPTY" "Ljava/lang/Object;" (.ref eo)) :
    MetFree l (⟨"java/util/ImmutableCollections", "listCopy", "(Ljava/util/Collection;)Ljava/util/List;"⟩ : MethodName) (head1 (Jvm.Cond.code (⟨"java/util/ImmutableCollections", "listCopy", "(Ljava/util/Collection;)Ljava/util/List;"⟩ : MethodName) jdk_56_method_3_code 2 (some (.object "java/util/List")) :: ws) ({ frames := 6, cells := 2, slots := 3, locals := 75 } : Room)) (fun a U => a = #[(.ref a1)] ∧ Z.Warmed39 U.vm ∧ U.heap = h0) (fun _ _ _ _ _ => True) (fun _ U o U' => ∃ v L, o = .returned v ∧ QrLCB Z a1 ea x k mr eo h0 n0 v U'.heap L ∧ FrameEnd U o U' L ({ frames := 6, cells := 2, slots := 3, locals := 75 } : Room).cells ({ frames := 6, cells := 2, slots := 3, locals := 75 } : Room).slots) := by
  refine MetFree.of_bodySF (plainFor_of_name pn_8) hisR ?_
  intro p e s m args below meth c s₁ Bd hml0 hP hK
  obtain ⟨rfl, hZ, hh⟩ := hP
  have hx := Bd.exec
  have hby := Bd.bytes
  have hml : c.maxLocals = 2 := hml0
  have hown : s.vm.findClass "java/util/ImmutableCollections" = some m.cls := findClass_of_methodNamed Bd.named
  have hnm := (name_of_methodNamed Bd.named Bd.method).1
  have X0 : Stand p l e ({ frames := 6, cells := 2, slots := 3, locals := 75 } : Room) s m #[(.ref a1)] below meth c s₁ [] 0 0 := Stand.of_body Bd
  have e0 : s₁.heap = h0 := by rw [← hh, Bd.state]; rfl
  have N0 := Fr.nil n0
  have pre0 : ∀ t, Steps p.tables e below (s₁.setTop (mkF m 0 #[.val (.ref a1), .unset] [])) t → Steps p.tables e below (s₁.setTop (entryFrame m #[(.ref a1)] 2)) t := fun t k => castTop (ef_rLCB m a1) k
  obtain ⟨T1, X1, e1, st1⟩ := instNo X0 hx hZ hown (hw _ (own_w 46 rfl)) e0 E (own_nsno (hw _ (own_w 47 rfl)) (hw _ (own_w 190 rfl)) (NS.step (hw _ (own_w 47 rfl)) (NS.step (hw _ (own_w 48 rfl)) (NS.step (hw _ (own_w 49 rfl)) (own_nsroot (hw _ (own_w 50 rfl)) (hw _ (own_w 190 rfl)) (by decide)) (by decide)) (by decide)) (by decide)) (by decide)) (g := (mkF m 1 #[.val (.ref a1), .unset] [(.ref a1)])) rfl rfl (hb hby d8_1)
  obtain ⟨T2, X2, e2, st2⟩ := instNo X1 hx hZ hown (hw _ (own_w 51 rfl)) e1 E (NS.no (hw _ (own_w 47 rfl)) (hw _ (own_w 86 rfl)) (NS.step (hw _ (own_w 47 rfl)) (NS.step (hw _ (own_w 48 rfl)) (NS.step (hw _ (own_w 49 rfl)) (NS.root (hw _ (own_w 50 rfl)) (hw _ (own_w 86 rfl)) (by decide)) (by decide)) (by decide)) (by decide)) (by decide)) (g := (mkF m 8 #[.val (.ref a1), .unset] [(.ref a1)])) rfl rfl (hb hby d8_8)
  obtain ⟨cq3, kz3, q3a, q3b, q3c⟩ := isOf hZ e2 E
  obtain ⟨_, _, ⟨T3, Lq3, kq3, nq3⟩, -, X3, ⟨Lc3, hQ3, lq3, yq3, zq3⟩, st3⟩ := X2.interfaceBack hx (xi := (⟨"java/util/Collection", "isEmpty", "()Z"⟩ : MethodName)) (y := (⟨"java/util/ArrayList", "isEmpty", "()Z"⟩ : MethodName)) hown (mvT hZ (hw _ (own_w 52 rfl))) (mvT hZ (hw _ (own_w 53 rfl))) (mvT hZ (hw _ (own_w 54 rfl))) (mvT hZ (hw _ (own_w 55 rfl))) (mvT hZ (hw _ (own_w 56 rfl))) (mvT hZ (hw _ (own_w 57 rfl))) (mvT hZ (hw _ (own_w 58 rfl))) (mvT hZ (hw _ (own_w 59 rfl))) (by decide) (backOf (W := 0) (rE1 l Z a0 hw [] a1  h0 n0 Z0 FZ) hZ (hw _ (own_w 60 rfl)) (hw _ (own_w 2 rfl)) (by decide) (by decide)) q3a q3b q3c (g := (mkF m 32 #[.val (.ref a1), .unset] [(.ref a1)])) rfl (by rw [hml]; rfl) (Steps.refl _) (argsL := []) (rest := []) (lenOf pd_12 rfl) rfl (by show 2 * 0 + _ ≤ _; exact Nat.le_of_eq rfl) (hb hby d8_32) (fun _ _ => ⟨rfl, e2, (by decide : 0 + 0 ≤ _), (by decide : 0 + 0 ≤ _)⟩)
  dsimp only [Pt.U, Pt.locs, Pt.cells, Pt.slots] at X3 lq3 yq3 zq3 st3 hQ3
  subst lq3 yq3 zq3
  obtain ⟨r3, hr3, rfl, N3q, e3⟩ := hQ3
  have N3 := Fr.app N0 N3q
  subst hr3
  obtain ⟨cq4, kz4, q4a, q4b, q4c⟩ := isOf hZ e3 E
  obtain ⟨_, _, ⟨T4, Lq4, kq4, nq4⟩, -, X4, ⟨Lc4, hQ4, lq4, yq4, zq4⟩, st4⟩ := X3.interfaceBack hx (xi := (⟨"java/util/Collection", "toArray", "()[Ljava/lang/Object;"⟩ : MethodName)) (y := (⟨"java/util/ArrayList", "toArray", "()[Ljava/lang/Object;"⟩ : MethodName)) hown (mvT hZ (hw _ (own_w 156 rfl))) (mvT hZ (hw _ (own_w 157 rfl))) (mvT hZ (hw _ (own_w 158 rfl))) (mvT hZ (hw _ (own_w 159 rfl))) (mvT hZ (hw _ (own_w 160 rfl))) (mvT hZ (hw _ (own_w 161 rfl))) (mvT hZ (hw _ (own_w 162 rfl))) (mvT hZ (hw _ (own_w 59 rfl))) (by decide) (backOf (W := 0) (rTA l Z a0 hw [] a1 ea x k mr h0 n0 Z0 FE FZ AV EX EA M) hZ (hw _ (own_w 163 rfl)) (hw _ (own_w 2 rfl)) (by decide) (by decide)) q4a q4b q4c (g := (mkF m 45 #[.val (.ref a1), .unset] [(.ref a1)])) rfl (by rw [hml]; rfl) (Steps.refl _) (argsL := []) (rest := []) (lenOf pd_6 rfl) rfl (by show 2 * 0 + _ ≤ _; exact Nat.le_of_eq rfl) (hb hby d8_45) (fun _ _ => ⟨rfl, e3, (by decide : 0 + 1 ≤ _), (by decide : 0 + 1 ≤ _)⟩)
  dsimp only [Pt.U, Pt.locs, Pt.cells, Pt.slots] at X4 lq4 yq4 zq4 st4 hQ4
  subst lq4 yq4 zq4
  obtain ⟨o4, rk4, rfl, N4q, KC4, gn4, gk4, AV4'⟩ := hQ4
  have N4 := Fr.app N3 N4q
  have Z4 : n0 ≤ T4.heap.size := Nat.le_trans Z0 KC4.1
  have ne5 : a1 ≠ o4 := Nat.ne_of_lt (Nat.lt_of_lt_of_le FZ.lt gk4)
  have ne6 : ea ≠ o4 := Nat.ne_of_lt (Nat.lt_of_lt_of_le EA.lt gk4)
  have ne7 : x ≠ o4 := Nat.ne_of_lt (Nat.lt_of_lt_of_le EX.lt gk4)
  have K4 : Keep h0 T4.heap [] := (Keep.refl h0 []).trans KC4 all0
  have f9 := (E.keep KC4)
  have f10 := (FE.keep KC4 nin0)
  have f11 := (FZ.keep KC4 nin0)
  have f12 := (AV.keep KC4 nin0)
  have f13 := (EX.keep KC4)
  have f14 := (EA.keep KC4)
  have f15 := (X00.keep KC4 all0)
  obtain ⟨_, _, ⟨T8, Lq8, kq8, nq8⟩, -, X8, ⟨Lc8, hQ8, lq8, yq8, zq8⟩, st8⟩ := Jvm.LawKit.callS X4 hx (y := (⟨"java/util/List", "of", "([Ljava/lang/Object;)Ljava/util/List;"⟩ : MethodName)) hown (mvT hZ (hw _ (own_w 186 rfl))) (mvT hZ (hw _ (own_w 187 rfl))) (mvT hZ (hw _ (own_w 40 rfl))) (mvT hZ (hw _ (own_w 188 rfl))) (by decide) (backOf (W := 0) (rOA l Z a0 hw [] o4 x rk4 eo T4.heap n0 Z4 AV4' f15 O_E) hZ (hw _ (own_w 188 rfl)) (hw _ (own_w 40 rfl)) (by decide) (by decide)) (g := (mkF m 50 #[.val (.ref a1), .unset] [(.ref o4)])) rfl (by rw [hml]; rfl) (argsL := [(.ref o4)]) (rest := []) (lenOf pd_14 rfl) rfl (by show 2 * 0 + _ ≤ _; exact Nat.le_of_eq rfl) (hb hby d8_50) (fun _ _ => ⟨rfl, rfl, (by decide : 1 + 1 ≤ _), (by decide : 1 + 2 ≤ _)⟩)
  dsimp only [Pt.U, Pt.locs, Pt.cells, Pt.slots] at X8 lq8 yq8 zq8 st8 hQ8
  subst lq8 yq8 zq8
  obtain ⟨o8, rfl, N8q, KC8, go8, gk8⟩ := hQ8
  have N8 := Fr.app N4 N8q
  have Z8 : n0 ≤ T8.heap.size := Nat.le_trans Z4 KC8.1
  have ne16 : a1 ≠ o8 := Nat.ne_of_lt (Nat.lt_of_lt_of_le f11.lt gk8)
  have ne17 : ea ≠ o8 := Nat.ne_of_lt (Nat.lt_of_lt_of_le f14.lt gk8)
  have ne18 : x ≠ o8 := Nat.ne_of_lt (Nat.lt_of_lt_of_le f13.lt gk8)
  have ne19 : o4 ≠ o8 := Nat.ne_of_lt (Nat.lt_of_lt_of_le AV4'.lt gk8)
  have K8 : Keep h0 T8.heap [] := K4.trans KC8 all0
  obtain ⟨fs, hr, hrun, hended, hW, hsame⟩ := X8.leave (v := some (.ref o8)) (fun h => by rw [Bd.returns] at h; cases h) (BodyLoose.notSynchronized Bd)
  refine ⟨_, _, pre0 _ ?_, hrun, hended, _, _, rfl, ?_, ⟨_, rfl⟩, hW, hsame.mono (by decide) (by decide)⟩
  · show Steps p.tables e below (s₁.setTop (mkF m 0 #[.val (.ref a1), .unset] [])) _
    refine XS.aloadN X0.here hx rfl (hb hby d8_0) rfl rfl ?_
    refine st1 _ ?_
    refine XS.ifNo X1.here hx rfl (hb hby d8_4) rfl ((if0 _ _).trans (teq (by decide)).2) ?_
    refine XS.aloadN X1.here hx rfl (hb hby d8_7) rfl rfl ?_
    refine st2 _ ?_
    refine XS.ifYes X2.here hx rfl (pc0 := 11) (pc' := 31) rfl (hb hby d8_11) rfl ((if0 _ _).trans (teq (by decide)).1) (by decide) (by decide) ?_
    refine XS.aloadN X2.here hx rfl (hb hby d8_31) rfl rfl ?_
    refine st3.trans ?_
    refine XS.ifYes X3.here hx rfl (pc0 := 37) (pc' := 44) rfl (hb hby d8_37) rfl ((if0 _ _).trans (teq (by decide)).1) (by decide) (by decide) ?_
    refine XS.aloadN X3.here hx rfl (hb hby d8_44) rfl rfl ?_
    refine st4.trans ?_
    refine st8 _ ?_
    show Steps p.tables e below (T8.setTop (mkF m 53 #[.val (.ref a1), .unset] [(.ref o8)])) _
    exact X8.areturnOut hx rfl Bd.returns rfl (hb hby d8_53) hr
  · show QrLCB Z a1 ea x k mr eo h0 n0 _ T8.heap _
    exact ⟨o8, rfl, N8, K8, go8, (Nat.le_trans K4.1 gk8)⟩
theorem d8_14 : decode jdk_56_method_3_code 14 = .ok (.aload_n 0, 1) := by decide +kernel
theorem d8_15 : decode jdk_56_method_3_code 15 = .ok (.checkcast 12, 3) := by decide +kernel
theorem d8_18 : decode jdk_56_method_3_code 18 = .ok (.astore_n 1, 1) := by decide +kernel
theorem d8_19 : decode jdk_56_method_3_code 19 = .ok (.aload_n 1, 1) := by decide +kernel
theorem d8_20 : decode jdk_56_method_3_code 20 = .ok (.getfield 14, 3) := by decide +kernel
theorem d8_23 : decode jdk_56_method_3_code 23 = .ok (.ifCond .ne 8, 3) := by decide +kernel
theorem d8_26 : decode jdk_56_method_3_code 26 = .ok (.aload_n 0, 1) := by decide +kernel
theorem d8_27 : decode jdk_56_method_3_code 27 = .ok (.checkcast 18, 3) := by decide +kernel
theorem d8_30 : decode jdk_56_method_3_code 30 = .ok (.areturn, 1) := by decide +kernel
theorem ef_rLCC (m : MethodId) (a1 : Addr) : entryFrame m #[(.ref a1)] 2 = mkF m 0 #[.val (.ref a1), .unset] [] := by first | (simp [entryFrame, mkF, argsToLocals, Value.category]; done) | rfl
def QrLCC (Z : State) (a1 : Addr) (h0 : Heap) (n0 : Nat) (v : Option Value) (h : Heap) (L : List Loc) : Prop := v = some (.ref a1) ∧ Fr n0 L ∧ h = h0
set_option maxRecDepth 65536 in
set_option maxHeartbeats 40000000 in
theorem rLCC (l : Launch) (Z : State) (a0 : Array Value) (hw : ∀ d ∈ tables_1, d.before a0 Z = true) (ws : List Jvm.Cond) (a1 : Addr) (h0 : Heap) (n0 : Nat) (Z0 : n0 ≤ h0.size) (O_EL : Exa Z Z.heap a1 "java/util/ImmutableCollections$ListN") (O_FN : Fld Z Z.heap a1 "java/util/ImmutableCollections$ListN" "allowNulls" "Z" (.int (0 : Int32))) (X00 : Old Z n0 h0) :
    MetFree l (⟨"java/util/ImmutableCollections", "listCopy", "(Ljava/util/Collection;)Ljava/util/List;"⟩ : MethodName) (head1 (Jvm.Cond.code (⟨"java/util/ImmutableCollections", "listCopy", "(Ljava/util/Collection;)Ljava/util/List;"⟩ : MethodName) jdk_56_method_3_code 2 (some (.object "java/util/List")) :: ws) ({ frames := 0, cells := 0, slots := 0, locals := 0 } : Room)) (fun a U => a = #[(.ref a1)] ∧ Z.Warmed39 U.vm ∧ U.heap = h0) (fun _ _ _ _ _ => True) (fun _ U o U' => ∃ v L, o = .returned v ∧ QrLCC Z a1 h0 n0 v U'.heap L ∧ FrameEnd U o U' L ({ frames := 0, cells := 0, slots := 0, locals := 0 } : Room).cells ({ frames := 0, cells := 0, slots := 0, locals := 0 } : Room).slots) := by
  refine MetFree.of_bodySF (plainFor_of_name pn_8) hisR ?_
  intro p e s m args below meth c s₁ Bd hml0 hP hK
  obtain ⟨rfl, hZ, hh⟩ := hP
  have hx := Bd.exec
  have hby := Bd.bytes
  have hml : c.maxLocals = 2 := hml0
  have hown : s.vm.findClass "java/util/ImmutableCollections" = some m.cls := findClass_of_methodNamed Bd.named
  have hnm := (name_of_methodNamed Bd.named Bd.method).1
  have X0 : Stand p l e ({ frames := 0, cells := 0, slots := 0, locals := 0 } : Room) s m #[(.ref a1)] below meth c s₁ [] 0 0 := Stand.of_body Bd
  have e0 : s₁.heap = h0 := by rw [← hh, Bd.state]; rfl
  have N0 := Fr.nil n0
  have pre0 : ∀ t, Steps p.tables e below (s₁.setTop (mkF m 0 #[.val (.ref a1), .unset] [])) t → Steps p.tables e below (s₁.setTop (entryFrame m #[(.ref a1)] 2)) t := fun t k => castTop (ef_rLCC m a1) k
  obtain ⟨T1, X1, e1, st1⟩ := instNo X0 hx hZ hown (hw _ (own_w 46 rfl)) e0 (O_EL.ext X00.2) (own_nsno (hw _ (own_w 86 rfl)) (hw _ (own_w 190 rfl)) (NS.step (hw _ (own_w 86 rfl)) (NS.step (hw _ (own_w 87 rfl)) (NS.step (hw _ (own_w 88 rfl)) (NS.step (hw _ (own_w 49 rfl)) (own_nsroot (hw _ (own_w 50 rfl)) (hw _ (own_w 190 rfl)) (by decide)) (by decide)) (by decide)) (by decide)) (by decide)) (by decide)) (g := (mkF m 1 #[.val (.ref a1), .unset] [(.ref a1)])) rfl rfl (hb hby d8_1)
  obtain ⟨T2, X2, e2, st2⟩ := instY X1 hx hZ hown (hw _ (own_w 51 rfl)) e1 (Ins.self (O_EL.ext X00.2)) (g := (mkF m 8 #[.val (.ref a1), .unset] [(.ref a1)])) rfl rfl (hb hby d8_8)
  obtain ⟨T3, X3, e3, st3⟩ := castY X2 hx hZ hown (hw _ (own_w 51 rfl)) e2 (Ins.self (O_EL.ext X00.2)) (g := (mkF m 15 #[.val (.ref a1), .unset] [(.ref a1)])) rfl rfl (hb hby d8_15)
  obtain ⟨T4, X4, e4, st4⟩ := getF X3 hx hZ hown (Or.inr (hw _ (own_w 90 rfl))) Via.refl e3 (O_FN.ext X00.2) (g := (mkF m 20 #[.val (.ref a1), .val (.ref a1)] [(.ref a1)])) rfl rfl (hb hby d8_20)
  obtain ⟨T5, X5, e5, st5⟩ := castY X4 hx hZ hown (hw _ (own_w 92 rfl)) e4 (Ins.of_exa (O_EL.ext X00.2) (hw _ (own_w 93 rfl))) (g := (mkF m 27 #[.val (.ref a1), .val (.ref a1)] [(.ref a1)])) rfl rfl (hb hby d8_27)
  obtain ⟨fs, hr, hrun, hended, hW, hsame⟩ := X5.leave (v := some (.ref a1)) (fun h => by rw [Bd.returns] at h; cases h) (BodyLoose.notSynchronized Bd)
  refine ⟨_, _, pre0 _ ?_, hrun, hended, _, _, rfl, ?_, ⟨_, rfl⟩, hW, hsame.mono (by decide) (by decide)⟩
  · show Steps p.tables e below (s₁.setTop (mkF m 0 #[.val (.ref a1), .unset] [])) _
    refine XS.aloadN X0.here hx rfl (hb hby d8_0) rfl rfl ?_
    refine st1 _ ?_
    refine XS.ifNo X1.here hx rfl (hb hby d8_4) rfl ((if0 _ _).trans (teq (by decide)).2) ?_
    refine XS.aloadN X1.here hx rfl (hb hby d8_7) rfl rfl ?_
    refine st2 _ ?_
    refine XS.ifNo X2.here hx rfl (hb hby d8_11) rfl ((if0 _ _).trans (feq (by decide)).1) ?_
    refine XS.aloadN X2.here hx rfl (hb hby d8_14) rfl rfl ?_
    refine st3 _ ?_
    refine XS.astoreN X3.here hx rfl (hb hby d8_18) rfl rfl (l' := #[.val (.ref a1), .val (.ref a1)]) rfl ?_
    refine XS.aloadN X3.here hx rfl (hb hby d8_19) rfl rfl ?_
    refine st4 _ ?_
    refine XS.ifNo X4.here hx rfl (hb hby d8_23) rfl ((if0 _ _).trans (teq (by decide)).2) ?_
    refine XS.aloadN X4.here hx rfl (hb hby d8_26) rfl rfl ?_
    refine st5 _ ?_
    show Steps p.tables e below (T5.setTop (mkF m 30 #[.val (.ref a1), .val (.ref a1)] [(.ref a1)])) _
    exact X5.areturnOut hx rfl Bd.returns rfl (hb hby d8_30) hr
  · show QrLCC Z a1 h0 n0 _ T5.heap _
    exact ⟨rfl, N0, e5⟩
theorem pd_15 : parseMethodDescriptor "(Ljava/util/Collection;)Ljava/util/List;" = some ⟨[(.object "java/util/Collection")], some (.object "java/util/List")⟩ := by decide +kernel
theorem d7_0 : decode jdk_40_method_48_code 0 = .ok (.aload_n 0, 1) := by decide +kernel
theorem d7_1 : decode jdk_40_method_48_code 1 = .ok (.invokestatic 112, 3) := by decide +kernel
theorem d7_4 : decode jdk_40_method_48_code 4 = .ok (.areturn, 1) := by decide +kernel
theorem pn_7 : plainName "java/util/List" = true := by first | (simp [plainName, overriddenIn]; done) | decide +kernel
theorem ef_rCOA (m : MethodId) (a1 : Addr) : entryFrame m #[(.ref a1)] 1 = mkF m 0 #[.val (.ref a1)] [] := by first | (simp [entryFrame, mkF, argsToLocals, Value.category]; done) | rfl
def QrCOA (Z : State) (a1 : Addr) (el : Addr) (h0 : Heap) (n0 : Nat) (v : Option Value) (h : Heap) (L : List Loc) : Prop := v = some (.ref el) ∧ Fr n0 L ∧ h = h0
set_option maxRecDepth 65536 in
set_option maxHeartbeats 40000000 in
theorem rCOA (l : Launch) (Z : State) (a0 : Array Value) (hw : ∀ d ∈ tables_1, d.before a0 Z = true) (ws : List Jvm.Cond) (a1 : Addr) (el : Addr) (h0 : Heap) (n0 : Nat) (Z0 : n0 ≤ h0.size) (E : Exa Z h0 a1 "java/util/ArrayList") (FZ : Fld Z h0 a1 "java/util/ArrayList" "size" "I" (.int (0 : Int32))) (X00 : Old Z n0 h0) (O_L : Sta Z Z.heap "java/util/ImmutableCollections" "EMPTY_LIST" "Ljava/util/ImmutableCollections$ListN;" (.ref el)) :
    MetFree l (⟨"java/util/List", "copyOf", "(Ljava/util/Collection;)Ljava/util/List;"⟩ : MethodName) (head1 (Jvm.Cond.code (⟨"java/util/List", "copyOf", "(Ljava/util/Collection;)Ljava/util/List;"⟩ : MethodName) jdk_40_method_48_code 1 (some (.object "java/util/List")) :: ws) ({ frames := 2, cells := 0, slots := 0, locals := 25 } : Room)) (fun a U => a = #[(.ref a1)] ∧ Z.Warmed39 U.vm ∧ U.heap = h0) (fun _ _ _ _ _ => True) (fun _ U o U' => ∃ v L, o = .returned v ∧ QrCOA Z a1 el h0 n0 v U'.heap L ∧ FrameEnd U o U' L ({ frames := 2, cells := 0, slots := 0, locals := 25 } : Room).cells ({ frames := 2, cells := 0, slots := 0, locals := 25 } : Room).slots) := by
  refine MetFree.of_bodySF (plainFor_of_name pn_7) hisR ?_
  intro p e s m args below meth c s₁ Bd hml0 hP hK
  obtain ⟨rfl, hZ, hh⟩ := hP
  have hx := Bd.exec
  have hby := Bd.bytes
  have hml : c.maxLocals = 1 := hml0
  have hown : s.vm.findClass "java/util/List" = some m.cls := findClass_of_methodNamed Bd.named
  have hnm := (name_of_methodNamed Bd.named Bd.method).1
  have X0 : Stand p l e ({ frames := 2, cells := 0, slots := 0, locals := 25 } : Room) s m #[(.ref a1)] below meth c s₁ [] 0 0 := Stand.of_body Bd
  have e0 : s₁.heap = h0 := by rw [← hh, Bd.state]; rfl
  have N0 := Fr.nil n0
  have pre0 : ∀ t, Steps p.tables e below (s₁.setTop (mkF m 0 #[.val (.ref a1)] [])) t → Steps p.tables e below (s₁.setTop (entryFrame m #[(.ref a1)] 1)) t := fun t k => castTop (ef_rCOA m a1) k
  obtain ⟨_, _, ⟨T1, Lq1, kq1, nq1⟩, -, X1, ⟨Lc1, hQ1, lq1, yq1, zq1⟩, st1⟩ := Jvm.LawKit.callS X0 hx (y := (⟨"java/util/ImmutableCollections", "listCopy", "(Ljava/util/Collection;)Ljava/util/List;"⟩ : MethodName)) hown (mvT hZ (hw _ (own_w 42 rfl))) (mvT hZ (hw _ (own_w 43 rfl))) (mvT hZ (hw _ (own_w 44 rfl))) (mvT hZ (hw _ (own_w 45 rfl))) (by decide) (backOf (W := 0) (rLCA l Z a0 hw [] a1 el h0 n0 Z0 E FZ X00 O_L) hZ (hw _ (own_w 45 rfl)) (hw _ (own_w 44 rfl)) (by decide) (by decide)) (g := (mkF m 1 #[.val (.ref a1)] [(.ref a1)])) rfl (by rw [hml]; rfl) (argsL := [(.ref a1)]) (rest := []) (lenOf pd_15 rfl) rfl (by show 2 * 0 + _ ≤ _; exact Nat.le_of_eq rfl) (hb hby d7_1) (fun _ _ => ⟨rfl, e0, (by decide : 0 + 0 ≤ _), (by decide : 0 + 0 ≤ _)⟩)
  dsimp only [Pt.U, Pt.locs, Pt.cells, Pt.slots] at X1 lq1 yq1 zq1 st1 hQ1
  subst lq1 yq1 zq1
  obtain ⟨rfl, N1q, e1⟩ := hQ1
  have N1 := Fr.app N0 N1q
  obtain ⟨fs, hr, hrun, hended, hW, hsame⟩ := X1.leave (v := some (.ref el)) (fun h => by rw [Bd.returns] at h; cases h) (BodyLoose.notSynchronized Bd)
  refine ⟨_, _, pre0 _ ?_, hrun, hended, _, _, rfl, ?_, ⟨_, rfl⟩, hW, hsame.mono (by decide) (by decide)⟩
  · show Steps p.tables e below (s₁.setTop (mkF m 0 #[.val (.ref a1)] [])) _
    refine XS.aloadN X0.here hx rfl (hb hby d7_0) rfl rfl ?_
    refine st1 _ ?_
    show Steps p.tables e below (T1.setTop (mkF m 4 #[.val (.ref a1)] [(.ref el)])) _
    exact X1.areturnOut hx rfl Bd.returns rfl (hb hby d7_4) hr
  · show QrCOA Z a1 el h0 n0 _ T1.heap _
    exact ⟨rfl, N1, e1⟩
theorem ef_rCOB (m : MethodId) (a1 : Addr) : entryFrame m #[(.ref a1)] 1 = mkF m 0 #[.val (.ref a1)] [] := by first | (simp [entryFrame, mkF, argsToLocals, Value.category]; done) | rfl
def QrCOB (Z : State) (a1 : Addr) (ea : Addr) (x : Addr) (k : ClassId) (mr : Addr) (eo : Addr) (h0 : Heap) (n0 : Nat) (v : Option Value) (h : Heap) (L : List Loc) : Prop := ∃ o : Addr, v = some (.ref o) ∧ Fr n0 L ∧ Keep h0 h [] ∧ n0 ≤ o ∧ h0.size ≤ o
set_option maxRecDepth 65536 in
set_option maxHeartbeats 40000000 in
theorem rCOB (l : Launch) (Z : State) (a0 : Array Value) (hw : ∀ d ∈ tables_1, d.before a0 Z = true) (ws : List Jvm.Cond) (a1 : Addr) (ea : Addr) (x : Addr) (k : ClassId) (mr : Addr) (eo : Addr) (h0 : Heap) (n0 : Nat) (Z0 : n0 ≤ h0.size) (E : Exa Z h0 a1 "java/util/ArrayList") (FE : Fld Z h0 a1 "java/util/ArrayList" "elementData" "[Ljava/lang/Object;" (.ref ea)) (FZ : Fld Z h0 a1 "java/util/ArrayList" "size" "I" (.int (1 : Int32))) (AV : Arv Z h0 ea k (.object "java/lang/Object") (10 : Int32) [.ref x, .null, .null, .null, .null, .null, .null, .null, .null, .null] .null) (EX : Exa Z h0 x "java/lang/String") (EA : Exa Z h0 ea "[Ljava/lang/Object;") (M : Mir Z "[Ljava/lang/Object;" mr) (X00 : Old Z n0 h0) (O_E : Sta Z Z.heap "java/util/ImmutableCollections" "EMPTY" "Ljava/lang/Object;" (.ref eo)) :
    MetFree l (⟨"java/util/List", "copyOf", "(Ljava/util/Collection;)Ljava/util/List;"⟩ : MethodName) (head1 (Jvm.Cond.code (⟨"java/util/List", "copyOf", "(Ljava/util/Collection;)Ljava/util/List;"⟩ : MethodName) jdk_40_method_48_code 1 (some (.object "java/util/List")) :: ws) ({ frames := 7, cells := 2, slots := 3, locals := 88 } : Room)) (fun a U => a = #[(.ref a1)] ∧ Z.Warmed39 U.vm ∧ U.heap = h0) (fun _ _ _ _ _ => True) (fun _ U o U' => ∃ v L, o = .returned v ∧ QrCOB Z a1 ea x k mr eo h0 n0 v U'.heap L ∧ FrameEnd U o U' L ({ frames := 7, cells := 2, slots := 3, locals := 88 } : Room).cells ({ frames := 7, cells := 2, slots := 3, locals := 88 } : Room).slots) := by
  refine MetFree.of_bodySF (plainFor_of_name pn_7) hisR ?_
  intro p e s m args below meth c s₁ Bd hml0 hP hK
  obtain ⟨rfl, hZ, hh⟩ := hP
  have hx := Bd.exec
  have hby := Bd.bytes
  have hml : c.maxLocals = 1 := hml0
  have hown : s.vm.findClass "java/util/List" = some m.cls := findClass_of_methodNamed Bd.named
  have hnm := (name_of_methodNamed Bd.named Bd.method).1
  have X0 : Stand p l e ({ frames := 7, cells := 2, slots := 3, locals := 88 } : Room) s m #[(.ref a1)] below meth c s₁ [] 0 0 := Stand.of_body Bd
  have e0 : s₁.heap = h0 := by rw [← hh, Bd.state]; rfl
  have N0 := Fr.nil n0
  have pre0 : ∀ t, Steps p.tables e below (s₁.setTop (mkF m 0 #[.val (.ref a1)] [])) t → Steps p.tables e below (s₁.setTop (entryFrame m #[(.ref a1)] 1)) t := fun t k => castTop (ef_rCOB m a1) k
  obtain ⟨_, _, ⟨T1, Lq1, kq1, nq1⟩, -, X1, ⟨Lc1, hQ1, lq1, yq1, zq1⟩, st1⟩ := Jvm.LawKit.callS X0 hx (y := (⟨"java/util/ImmutableCollections", "listCopy", "(Ljava/util/Collection;)Ljava/util/List;"⟩ : MethodName)) hown (mvT hZ (hw _ (own_w 42 rfl))) (mvT hZ (hw _ (own_w 43 rfl))) (mvT hZ (hw _ (own_w 44 rfl))) (mvT hZ (hw _ (own_w 45 rfl))) (by decide) (backOf (W := 0) (rLCB l Z a0 hw [] a1 ea x k mr eo h0 n0 Z0 E FE FZ AV EX EA M X00 O_E) hZ (hw _ (own_w 45 rfl)) (hw _ (own_w 44 rfl)) (by decide) (by decide)) (g := (mkF m 1 #[.val (.ref a1)] [(.ref a1)])) rfl (by rw [hml]; rfl) (argsL := [(.ref a1)]) (rest := []) (lenOf pd_15 rfl) rfl (by show 2 * 0 + _ ≤ _; exact Nat.le_of_eq rfl) (hb hby d7_1) (fun _ _ => ⟨rfl, e0, (by decide : 0 + 2 ≤ _), (by decide : 0 + 3 ≤ _)⟩)
  dsimp only [Pt.U, Pt.locs, Pt.cells, Pt.slots] at X1 lq1 yq1 zq1 st1 hQ1
  subst lq1 yq1 zq1
  obtain ⟨o1, rfl, N1q, KC1, go1, gk1⟩ := hQ1
  have N1 := Fr.app N0 N1q
  have Z1 : n0 ≤ T1.heap.size := Nat.le_trans Z0 KC1.1
  have ne2 : a1 ≠ o1 := Nat.ne_of_lt (Nat.lt_of_lt_of_le FZ.lt gk1)
  have ne3 : ea ≠ o1 := Nat.ne_of_lt (Nat.lt_of_lt_of_le EA.lt gk1)
  have ne4 : x ≠ o1 := Nat.ne_of_lt (Nat.lt_of_lt_of_le EX.lt gk1)
  have K1 : Keep h0 T1.heap [] := (Keep.refl h0 []).trans KC1 all0
  obtain ⟨fs, hr, hrun, hended, hW, hsame⟩ := X1.leave (v := some (.ref o1)) (fun h => by rw [Bd.returns] at h; cases h) (BodyLoose.notSynchronized Bd)
  refine ⟨_, _, pre0 _ ?_, hrun, hended, _, _, rfl, ?_, ⟨_, rfl⟩, hW, hsame.mono (by decide) (by decide)⟩
  · show Steps p.tables e below (s₁.setTop (mkF m 0 #[.val (.ref a1)] [])) _
    refine XS.aloadN X0.here hx rfl (hb hby d7_0) rfl rfl ?_
    refine st1 _ ?_
    show Steps p.tables e below (T1.setTop (mkF m 4 #[.val (.ref a1)] [(.ref o1)])) _
    exact X1.areturnOut hx rfl Bd.returns rfl (hb hby d7_4) hr
  · show QrCOB Z a1 ea x k mr eo h0 n0 _ T1.heap _
    exact ⟨o1, rfl, N1, K1, go1, (Nat.le_trans (Keep.refl h0 []).1 gk1)⟩
theorem ef_rCOC (m : MethodId) (a1 : Addr) : entryFrame m #[(.ref a1)] 1 = mkF m 0 #[.val (.ref a1)] [] := by first | (simp [entryFrame, mkF, argsToLocals, Value.category]; done) | rfl
def QrCOC (Z : State) (a1 : Addr) (h0 : Heap) (n0 : Nat) (v : Option Value) (h : Heap) (L : List Loc) : Prop := v = some (.ref a1) ∧ Fr n0 L ∧ h = h0
set_option maxRecDepth 65536 in
set_option maxHeartbeats 40000000 in
theorem rCOC (l : Launch) (Z : State) (a0 : Array Value) (hw : ∀ d ∈ tables_1, d.before a0 Z = true) (ws : List Jvm.Cond) (a1 : Addr) (h0 : Heap) (n0 : Nat) (Z0 : n0 ≤ h0.size) (O_EL : Exa Z Z.heap a1 "java/util/ImmutableCollections$ListN") (O_FN : Fld Z Z.heap a1 "java/util/ImmutableCollections$ListN" "allowNulls" "Z" (.int (0 : Int32))) (X00 : Old Z n0 h0) :
    MetFree l (⟨"java/util/List", "copyOf", "(Ljava/util/Collection;)Ljava/util/List;"⟩ : MethodName) (head1 (Jvm.Cond.code (⟨"java/util/List", "copyOf", "(Ljava/util/Collection;)Ljava/util/List;"⟩ : MethodName) jdk_40_method_48_code 1 (some (.object "java/util/List")) :: ws) ({ frames := 1, cells := 0, slots := 0, locals := 13 } : Room)) (fun a U => a = #[(.ref a1)] ∧ Z.Warmed39 U.vm ∧ U.heap = h0) (fun _ _ _ _ _ => True) (fun _ U o U' => ∃ v L, o = .returned v ∧ QrCOC Z a1 h0 n0 v U'.heap L ∧ FrameEnd U o U' L ({ frames := 1, cells := 0, slots := 0, locals := 13 } : Room).cells ({ frames := 1, cells := 0, slots := 0, locals := 13 } : Room).slots) := by
  refine MetFree.of_bodySF (plainFor_of_name pn_7) hisR ?_
  intro p e s m args below meth c s₁ Bd hml0 hP hK
  obtain ⟨rfl, hZ, hh⟩ := hP
  have hx := Bd.exec
  have hby := Bd.bytes
  have hml : c.maxLocals = 1 := hml0
  have hown : s.vm.findClass "java/util/List" = some m.cls := findClass_of_methodNamed Bd.named
  have hnm := (name_of_methodNamed Bd.named Bd.method).1
  have X0 : Stand p l e ({ frames := 1, cells := 0, slots := 0, locals := 13 } : Room) s m #[(.ref a1)] below meth c s₁ [] 0 0 := Stand.of_body Bd
  have e0 : s₁.heap = h0 := by rw [← hh, Bd.state]; rfl
  have N0 := Fr.nil n0
  have pre0 : ∀ t, Steps p.tables e below (s₁.setTop (mkF m 0 #[.val (.ref a1)] [])) t → Steps p.tables e below (s₁.setTop (entryFrame m #[(.ref a1)] 1)) t := fun t k => castTop (ef_rCOC m a1) k
  obtain ⟨_, _, ⟨T1, Lq1, kq1, nq1⟩, -, X1, ⟨Lc1, hQ1, lq1, yq1, zq1⟩, st1⟩ := Jvm.LawKit.callS X0 hx (y := (⟨"java/util/ImmutableCollections", "listCopy", "(Ljava/util/Collection;)Ljava/util/List;"⟩ : MethodName)) hown (mvT hZ (hw _ (own_w 42 rfl))) (mvT hZ (hw _ (own_w 43 rfl))) (mvT hZ (hw _ (own_w 44 rfl))) (mvT hZ (hw _ (own_w 45 rfl))) (by decide) (backOf (W := 0) (rLCC l Z a0 hw [] a1  h0 n0 Z0 O_EL O_FN X00) hZ (hw _ (own_w 45 rfl)) (hw _ (own_w 44 rfl)) (by decide) (by decide)) (g := (mkF m 1 #[.val (.ref a1)] [(.ref a1)])) rfl (by rw [hml]; rfl) (argsL := [(.ref a1)]) (rest := []) (lenOf pd_15 rfl) rfl (by show 2 * 0 + _ ≤ _; exact Nat.le_of_eq rfl) (hb hby d7_1) (fun _ _ => ⟨rfl, e0, (by decide : 0 + 0 ≤ _), (by decide : 0 + 0 ≤ _)⟩)
  dsimp only [Pt.U, Pt.locs, Pt.cells, Pt.slots] at X1 lq1 yq1 zq1 st1 hQ1
  subst lq1 yq1 zq1
  obtain ⟨rfl, N1q, e1⟩ := hQ1
  have N1 := Fr.app N0 N1q
  obtain ⟨fs, hr, hrun, hended, hW, hsame⟩ := X1.leave (v := some (.ref a1)) (fun h => by rw [Bd.returns] at h; cases h) (BodyLoose.notSynchronized Bd)
  refine ⟨_, _, pre0 _ ?_, hrun, hended, _, _, rfl, ?_, ⟨_, rfl⟩, hW, hsame.mono (by decide) (by decide)⟩
  · show Steps p.tables e below (s₁.setTop (mkF m 0 #[.val (.ref a1)] [])) _
    refine XS.aloadN X0.here hx rfl (hb hby d7_0) rfl rfl ?_
    refine st1 _ ?_
    show Steps p.tables e below (T1.setTop (mkF m 4 #[.val (.ref a1)] [(.ref a1)])) _
    exact X1.areturnOut hx rfl Bd.returns rfl (hb hby d7_4) hr
  · show QrCOC Z a1 h0 n0 _ T1.heap _
    exact ⟨rfl, N1, e1⟩
theorem d5_0 : decode prog_12_method_1_code 0 = .ok (.aload_n 0, 1) := by decide +kernel
theorem d5_1 : decode prog_12_method_1_code 1 = .ok (.invokespecial 1, 3) := by decide +kernel
theorem d5_4 : decode prog_12_method_1_code 4 = .ok (.aload 7, 2) := by decide +kernel
theorem d5_6 : decode prog_12_method_1_code 6 = .ok (.invokestatic 7, 3) := by decide +kernel
theorem d5_9 : decode prog_12_method_1_code 9 = .ok (.astore 7, 2) := by decide +kernel
theorem d5_11 : decode prog_12_method_1_code 11 = .ok (.aload_n 0, 1) := by decide +kernel
theorem d5_12 : decode prog_12_method_1_code 12 = .ok (.lload_n 1, 1) := by decide +kernel
theorem d5_13 : decode prog_12_method_1_code 13 = .ok (.putfield 13, 3) := by decide +kernel
theorem d5_16 : decode prog_12_method_1_code 16 = .ok (.aload_n 0, 1) := by decide +kernel
theorem d5_17 : decode prog_12_method_1_code 17 = .ok (.lload_n 3, 1) := by decide +kernel
theorem d5_18 : decode prog_12_method_1_code 18 = .ok (.putfield 19, 3) := by decide +kernel
theorem d5_21 : decode prog_12_method_1_code 21 = .ok (.aload_n 0, 1) := by decide +kernel
theorem d5_22 : decode prog_12_method_1_code 22 = .ok (.lload 5, 2) := by decide +kernel
theorem d5_24 : decode prog_12_method_1_code 24 = .ok (.putfield 22, 3) := by decide +kernel
theorem d5_27 : decode prog_12_method_1_code 27 = .ok (.aload_n 0, 1) := by decide +kernel
theorem d5_28 : decode prog_12_method_1_code 28 = .ok (.aload 7, 2) := by decide +kernel
theorem d5_30 : decode prog_12_method_1_code 30 = .ok (.putfield 25, 3) := by decide +kernel
theorem d5_33 : decode prog_12_method_1_code 33 = .ok (.return_, 1) := by decide +kernel
theorem pn_5 : plainName "com/example/zorgbrug/zorgbrug/fhir/Version" = true := by first | (simp [plainName, overriddenIn]; done) | decide +kernel
theorem ef_rVIA (m : MethodId) (a1 : Addr) (q2 : Int64) (q3 : Int64) (q4 : Int64) (a5 : Addr) : entryFrame m #[(.ref a1), (.long q2), (.long q3), (.long q4), (.ref a5)] 8 = mkF m 0 #[.val (.ref a1), .val (.long q2), .second, .val (.long q3), .second, .val (.long q4), .second, .val (.ref a5)] [] := by first | (simp [entryFrame, mkF, argsToLocals, Value.category]; done) | rfl
def QrVIA (Z : State) (a1 : Addr) (q2 : Int64) (q3 : Int64) (q4 : Int64) (a5 : Addr) (el : Addr) (h0 : Heap) (n0 : Nat) (v : Option Value) (h : Heap) (L : List Loc) : Prop := v = none ∧ Fr n0 L ∧ Keep h0 h [a1] ∧ Exa Z h a1 "com/example/zorgbrug/zorgbrug/fhir/Version" ∧ Fld Z h a1 "com/example/zorgbrug/zorgbrug/fhir/Version" "major" "J" (.long q2) ∧ Fld Z h a1 "com/example/zorgbrug/zorgbrug/fhir/Version" "minor" "J" (.long q3) ∧ Fld Z h a1 "com/example/zorgbrug/zorgbrug/fhir/Version" "patch" "J" (.long q4) ∧ Fld Z h a1 "com/example/zorgbrug/zorgbrug/fhir/Version" "preRelease" "Ljava/util/List;" (.ref el)
set_option maxRecDepth 65536 in
set_option maxHeartbeats 40000000 in
theorem rVIA (l : Launch) (Z : State) (a0 : Array Value) (hw : ∀ d ∈ tables_1, d.before a0 Z = true) (ws : List Jvm.Cond) (a1 : Addr) (q2 : Int64) (q3 : Int64) (q4 : Int64) (a5 : Addr) (el : Addr) (h0 : Heap) (n0 : Nat) (Z0 : n0 ≤ h0.size) (E : Exa Z h0 a1 "com/example/zorgbrug/zorgbrug/fhir/Version") (F0 : Fld Z h0 a1 "com/example/zorgbrug/zorgbrug/fhir/Version" "major" "J" (.long (0 : Int64))) (F1 : Fld Z h0 a1 "com/example/zorgbrug/zorgbrug/fhir/Version" "minor" "J" (.long (0 : Int64))) (F2 : Fld Z h0 a1 "com/example/zorgbrug/zorgbrug/fhir/Version" "patch" "J" (.long (0 : Int64))) (F3 : Fld Z h0 a1 "com/example/zorgbrug/zorgbrug/fhir/Version" "preRelease" "Ljava/util/List;" .null) (ga : n0 ≤ a1) (na5 : a1 ≠ a5) (EL : Exa Z h0 a5 "java/util/ArrayList") (FZ : Fld Z h0 a5 "java/util/ArrayList" "size" "I" (.int (0 : Int32))) (X00 : Old Z n0 h0) (O_L : Sta Z Z.heap "java/util/ImmutableCollections" "EMPTY_LIST" "Ljava/util/ImmutableCollections$ListN;" (.ref el)) :
    MetFree l (⟨"com/example/zorgbrug/zorgbrug/fhir/Version", "<init>", "(JJJLjava/util/List;)V"⟩ : MethodName) (head1 (Jvm.Cond.code (⟨"com/example/zorgbrug/zorgbrug/fhir/Version", "<init>", "(JJJLjava/util/List;)V"⟩ : MethodName) prog_12_method_1_code 8 none :: ws) ({ frames := 3, cells := 0, slots := 0, locals := 37 } : Room)) (fun a U => a = #[(.ref a1), (.long q2), (.long q3), (.long q4), (.ref a5)] ∧ Z.Warmed39 U.vm ∧ U.heap = h0) (fun _ _ _ _ _ => True) (fun _ U o U' => ∃ v L, o = .returned v ∧ QrVIA Z a1 q2 q3 q4 a5 el h0 n0 v U'.heap L ∧ FrameEnd U o U' L ({ frames := 3, cells := 0, slots := 0, locals := 37 } : Room).cells ({ frames := 3, cells := 0, slots := 0, locals := 37 } : Room).slots) := by
  refine MetFree.of_bodySF (plainFor_of_name pn_5) hisR ?_
  intro p e s m args below meth c s₁ Bd hml0 hP hK
  obtain ⟨rfl, hZ, hh⟩ := hP
  have hx := Bd.exec
  have hby := Bd.bytes
  have hml : c.maxLocals = 8 := hml0
  have hown : s.vm.findClass "com/example/zorgbrug/zorgbrug/fhir/Version" = some m.cls := findClass_of_methodNamed Bd.named
  have hnm := (name_of_methodNamed Bd.named Bd.method).1
  have X0 : Stand p l e ({ frames := 3, cells := 0, slots := 0, locals := 37 } : Room) s m #[(.ref a1), (.long q2), (.long q3), (.long q4), (.ref a5)] below meth c s₁ [] 0 0 := Stand.of_body Bd
  have e0 : s₁.heap = h0 := by rw [← hh, Bd.state]; rfl
  have N0 := Fr.nil n0
  have pre0 : ∀ t, Steps p.tables e below (s₁.setTop (mkF m 0 #[.val (.ref a1), .val (.long q2), .second, .val (.long q3), .second, .val (.long q4), .second, .val (.ref a5)] [])) t → Steps p.tables e below (s₁.setTop (entryFrame m #[(.ref a1), (.long q2), (.long q3), (.long q4), (.ref a5)] 8)) t := fun t k => castTop (ef_rVIA m a1 q2 q3 q4 a5) k
  obtain ⟨_, _, ⟨T1, Lq1, kq1, nq1⟩, -, X1, ⟨Lc1, hQ1, lq1, yq1, zq1⟩, st1⟩ := X0.specialBack hx (y := (⟨"java/lang/Record", "<init>", "()V"⟩ : MethodName)) rfl hown (mvT hZ (hw _ (own_w 32 rfl))) (mvT hZ (hw _ (own_w 33 rfl))) (mvT hZ (hw _ (own_w 36 rfl))) (by decide) (backOf (W := 0) (rRE l Z a0 hw [] a1  h0 n0 Z0 ) hZ (hw _ (own_w 36 rfl)) (hw _ (own_w 35 rfl)) (by decide) (by decide)) (g := (mkF m 1 #[.val (.ref a1), .val (.long q2), .second, .val (.long q3), .second, .val (.long q4), .second, .val (.ref a5)] [(.ref a1)])) rfl (by rw [hml]; rfl) (Steps.refl _) (a := a1) (argsL := []) (rest := []) (lenOf pd_0 rfl) rfl (by show 2 * 0 + _ ≤ _; exact Nat.le_of_eq rfl) (hb hby d5_1) (fun _ _ => ⟨rfl, e0, (by decide : 0 + 0 ≤ _), (by decide : 0 + 0 ≤ _)⟩)
  dsimp only [Pt.U, Pt.locs, Pt.cells, Pt.slots] at X1 lq1 yq1 zq1 st1 hQ1
  subst lq1 yq1 zq1
  obtain ⟨rfl, N1q, e1⟩ := hQ1
  have N1 := Fr.app N0 N1q
  obtain ⟨_, _, ⟨T2, Lq2, kq2, nq2⟩, -, X2, ⟨Lc2, hQ2, lq2, yq2, zq2⟩, st2⟩ := Jvm.LawKit.callS X1 hx (y := (⟨"java/util/List", "copyOf", "(Ljava/util/Collection;)Ljava/util/List;"⟩ : MethodName)) hown (mvT hZ (hw _ (own_w 38 rfl))) (mvT hZ (hw _ (own_w 39 rfl))) (mvT hZ (hw _ (own_w 40 rfl))) (mvT hZ (hw _ (own_w 41 rfl))) (by decide) (backOf (W := 0) (rCOA l Z a0 hw [] a5 el h0 n0 Z0 EL FZ X00 O_L) hZ (hw _ (own_w 41 rfl)) (hw _ (own_w 40 rfl)) (by decide) (by decide)) (g := (mkF m 6 #[.val (.ref a1), .val (.long q2), .second, .val (.long q3), .second, .val (.long q4), .second, .val (.ref a5)] [(.ref a5)])) rfl (by rw [hml]; rfl) (argsL := [(.ref a5)]) (rest := []) (lenOf pd_15 rfl) rfl (by show 2 * 0 + _ ≤ _; exact Nat.le_of_eq rfl) (hb hby d5_6) (fun _ _ => ⟨rfl, e1, (by decide : 0 + 0 ≤ _), (by decide : 0 + 0 ≤ _)⟩)
  dsimp only [Pt.U, Pt.locs, Pt.cells, Pt.slots] at X2 lq2 yq2 zq2 st2 hQ2
  subst lq2 yq2 zq2
  obtain ⟨rfl, N2q, e2⟩ := hQ2
  have N2 := Fr.app N1 N2q
  obtain ⟨T3, h3, X3, e3, W3, st3⟩ := putF X2 hx hZ hown (host := "") (Or.inl (hw _ (own_w 67 rfl))) Via.refl e2 F0 E (Or.inr ⟨(hw _ (own_w 68 rfl)), rfl, hnm⟩) (hw _ (own_w 27 rfl)) (ty := .long) (by decide) rfl rfl (g := (mkF m 13 #[.val (.ref a1), .val (.long q2), .second, .val (.long q3), .second, .val (.long q4), .second, .val (.ref el)] [(.long q2), (.ref a1)])) rfl rfl (hb hby d5_13)
  have N3 := Fr.snoc X3 N2 ga
  have Z3 : n0 ≤ h3.size := by rw [W3.size]; exact Z0
  have K3 : Keep h0 h3 [a1] := (Keep.refl h0 [a1]).wr W3 (Or.inl (own_w 0 rfl))
  have Fw3 := F0.same W3
  have f4 := (E.wr W3)
  have f5 := (F1.other W3 (Or.inr (slot_ne (Or.inr (hw _ (own_w 70 rfl))) (Or.inr (hw _ (own_w 68 rfl))) (by decide) (t := .long) (t' := .long) (by decide) (by decide))))
  obtain ⟨T6, h6, X6, e6, W6, st6⟩ := putF X3 hx hZ hown (host := "") (Or.inl (hw _ (own_w 69 rfl))) Via.refl e3 f5 f4 (Or.inr ⟨(hw _ (own_w 70 rfl)), rfl, hnm⟩) (hw _ (own_w 27 rfl)) (ty := .long) (by decide) rfl rfl (g := (mkF m 18 #[.val (.ref a1), .val (.long q2), .second, .val (.long q3), .second, .val (.long q4), .second, .val (.ref el)] [(.long q3), (.ref a1)])) rfl rfl (hb hby d5_18)
  have N6 := Fr.snoc X6 N3 ga
  have Z6 : n0 ≤ h6.size := by rw [W6.size]; exact Z3
  have K6 : Keep h0 h6 [a1] := K3.wr W6 (Or.inl (own_w 0 rfl))
  have Fw6 := f5.same W6
  have f7 := (f4.wr W6)
  have f8 := ((F2.other W3 (Or.inr (slot_ne (Or.inr (hw _ (own_w 72 rfl))) (Or.inr (hw _ (own_w 68 rfl))) (by decide) (t := .long) (t' := .long) (by decide) (by decide)))).other W6 (Or.inr (slot_ne (Or.inr (hw _ (own_w 72 rfl))) (Or.inr (hw _ (own_w 70 rfl))) (by decide) (t := .long) (t' := .long) (by decide) (by decide))))
  obtain ⟨T9, h9, X9, e9, W9, st9⟩ := putF X6 hx hZ hown (host := "") (Or.inl (hw _ (own_w 71 rfl))) Via.refl e6 f8 f7 (Or.inr ⟨(hw _ (own_w 72 rfl)), rfl, hnm⟩) (hw _ (own_w 27 rfl)) (ty := .long) (by decide) rfl rfl (g := (mkF m 24 #[.val (.ref a1), .val (.long q2), .second, .val (.long q3), .second, .val (.long q4), .second, .val (.ref el)] [(.long q4), (.ref a1)])) rfl rfl (hb hby d5_24)
  have N9 := Fr.snoc X9 N6 ga
  have Z9 : n0 ≤ h9.size := by rw [W9.size]; exact Z6
  have K9 : Keep h0 h9 [a1] := K6.wr W9 (Or.inl (own_w 0 rfl))
  have Fw9 := f8.same W9
  have f10 := (f7.wr W9)
  have f11 := (((F3.other W3 (Or.inr (slot_ne (Or.inr (hw _ (own_w 74 rfl))) (Or.inr (hw _ (own_w 68 rfl))) (by decide) (t := (.object "java/util/List")) (t' := .long) (by decide) (by decide)))).other W6 (Or.inr (slot_ne (Or.inr (hw _ (own_w 74 rfl))) (Or.inr (hw _ (own_w 70 rfl))) (by decide) (t := (.object "java/util/List")) (t' := .long) (by decide) (by decide)))).other W9 (Or.inr (slot_ne (Or.inr (hw _ (own_w 74 rfl))) (Or.inr (hw _ (own_w 72 rfl))) (by decide) (t := (.object "java/util/List")) (t' := .long) (by decide) (by decide))))
  obtain ⟨T12, h12, X12, e12, W12, st12⟩ := putF X9 hx hZ hown (host := "") (Or.inl (hw _ (own_w 73 rfl))) Via.refl e9 f11 f10 (Or.inr ⟨(hw _ (own_w 74 rfl)), rfl, hnm⟩) (hw _ (own_w 27 rfl)) (ty := (.object "java/util/List")) (by decide) rfl rfl (g := (mkF m 30 #[.val (.ref a1), .val (.long q2), .second, .val (.long q3), .second, .val (.long q4), .second, .val (.ref el)] [(.ref el), (.ref a1)])) rfl rfl (hb hby d5_30)
  have N12 := Fr.snoc X12 N9 ga
  have Z12 : n0 ≤ h12.size := by rw [W12.size]; exact Z9
  have K12 : Keep h0 h12 [a1] := K9.wr W12 (Or.inl (own_w 0 rfl))
  have Fw12 := f11.same W12
  obtain ⟨fs, hr, hrun, hended, hW, hsame⟩ := X12.leave (v := none) (fun _ => rfl) (BodyLoose.notSynchronized Bd)
  refine ⟨_, _, pre0 _ ?_, hrun, hended, _, _, rfl, ?_, ⟨_, rfl⟩, hW, hsame.mono (by decide) (by decide)⟩
  · show Steps p.tables e below (s₁.setTop (mkF m 0 #[.val (.ref a1), .val (.long q2), .second, .val (.long q3), .second, .val (.long q4), .second, .val (.ref a5)] [])) _
    refine XS.aloadN X0.here hx rfl (hb hby d5_0) rfl rfl ?_
    refine st1.trans ?_
    refine XS.aload X1.here hx rfl (hb hby d5_4) rfl rfl ?_
    refine st2 _ ?_
    refine XS.astore X2.here hx rfl (hb hby d5_9) rfl rfl (l' := #[.val (.ref a1), .val (.long q2), .second, .val (.long q3), .second, .val (.long q4), .second, .val (.ref el)]) rfl ?_
    refine XS.aloadN X2.here hx rfl (hb hby d5_11) rfl rfl ?_
    refine XS.lloadN X2.here hx rfl (hb hby d5_12) rfl ?_
    refine st3 _ ?_
    refine XS.aloadN X3.here hx rfl (hb hby d5_16) rfl rfl ?_
    refine XS.lloadN X3.here hx rfl (hb hby d5_17) rfl ?_
    refine st6 _ ?_
    refine XS.aloadN X6.here hx rfl (hb hby d5_21) rfl rfl ?_
    refine XS.lload X6.here hx rfl (hb hby d5_22) rfl ?_
    refine st9 _ ?_
    refine XS.aloadN X9.here hx rfl (hb hby d5_27) rfl rfl ?_
    refine XS.aload X9.here hx rfl (hb hby d5_28) rfl rfl ?_
    refine st12 _ ?_
    show Steps p.tables e below (T12.setTop (mkF m 33 #[.val (.ref a1), .val (.long q2), .second, .val (.long q3), .second, .val (.long q4), .second, .val (.ref el)] [])) _
    exact X12.returnOut hx Bd.returns (hb hby d5_33) hr
  · show QrVIA Z a1 q2 q3 q4 a5 el h0 n0 _ T12.heap _
    have f13 := (f10.wr W12)
    have f14 := (((Fw3.other W6 (Or.inr (slot_ne (Or.inr (hw _ (own_w 68 rfl))) (Or.inr (hw _ (own_w 70 rfl))) (by decide) (t := .long) (t' := .long) (by decide) (by decide)))).other W9 (Or.inr (slot_ne (Or.inr (hw _ (own_w 68 rfl))) (Or.inr (hw _ (own_w 72 rfl))) (by decide) (t := .long) (t' := .long) (by decide) (by decide)))).other W12 (Or.inr (slot_ne (Or.inr (hw _ (own_w 68 rfl))) (Or.inr (hw _ (own_w 74 rfl))) (by decide) (t := .long) (t' := (.object "java/util/List")) (by decide) (by decide))))
    have f15 := ((Fw6.other W9 (Or.inr (slot_ne (Or.inr (hw _ (own_w 70 rfl))) (Or.inr (hw _ (own_w 72 rfl))) (by decide) (t := .long) (t' := .long) (by decide) (by decide)))).other W12 (Or.inr (slot_ne (Or.inr (hw _ (own_w 70 rfl))) (Or.inr (hw _ (own_w 74 rfl))) (by decide) (t := .long) (t' := (.object "java/util/List")) (by decide) (by decide))))
    have f16 := (Fw9.other W12 (Or.inr (slot_ne (Or.inr (hw _ (own_w 72 rfl))) (Or.inr (hw _ (own_w 74 rfl))) (by decide) (t := .long) (t' := (.object "java/util/List")) (by decide) (by decide))))
    rw [e12]
    exact ⟨rfl, N12, K12, f13, f14, f15, f16, Fw12⟩
theorem ef_rVIB (m : MethodId) (a1 : Addr) (q2 : Int64) (q3 : Int64) (q4 : Int64) (a5 : Addr) : entryFrame m #[(.ref a1), (.long q2), (.long q3), (.long q4), (.ref a5)] 8 = mkF m 0 #[.val (.ref a1), .val (.long q2), .second, .val (.long q3), .second, .val (.long q4), .second, .val (.ref a5)] [] := by first | (simp [entryFrame, mkF, argsToLocals, Value.category]; done) | rfl
def QrVIB (Z : State) (a1 : Addr) (q2 : Int64) (q3 : Int64) (q4 : Int64) (a5 : Addr) (ea : Addr) (x : Addr) (k : ClassId) (mr : Addr) (eo : Addr) (h0 : Heap) (n0 : Nat) (v : Option Value) (h : Heap) (L : List Loc) : Prop := v = none ∧ Fr n0 L ∧ Keep h0 h [a1] ∧ Exa Z h a1 "com/example/zorgbrug/zorgbrug/fhir/Version" ∧ Fld Z h a1 "com/example/zorgbrug/zorgbrug/fhir/Version" "major" "J" (.long q2) ∧ Fld Z h a1 "com/example/zorgbrug/zorgbrug/fhir/Version" "minor" "J" (.long q3) ∧ Fld Z h a1 "com/example/zorgbrug/zorgbrug/fhir/Version" "patch" "J" (.long q4)
set_option maxRecDepth 65536 in
set_option maxHeartbeats 40000000 in
theorem rVIB (l : Launch) (Z : State) (a0 : Array Value) (hw : ∀ d ∈ tables_1, d.before a0 Z = true) (ws : List Jvm.Cond) (a1 : Addr) (q2 : Int64) (q3 : Int64) (q4 : Int64) (a5 : Addr) (ea : Addr) (x : Addr) (k : ClassId) (mr : Addr) (eo : Addr) (h0 : Heap) (n0 : Nat) (Z0 : n0 ≤ h0.size) (E : Exa Z h0 a1 "com/example/zorgbrug/zorgbrug/fhir/Version") (F0 : Fld Z h0 a1 "com/example/zorgbrug/zorgbrug/fhir/Version" "major" "J" (.long (0 : Int64))) (F1 : Fld Z h0 a1 "com/example/zorgbrug/zorgbrug/fhir/Version" "minor" "J" (.long (0 : Int64))) (F2 : Fld Z h0 a1 "com/example/zorgbrug/zorgbrug/fhir/Version" "patch" "J" (.long (0 : Int64))) (F3 : Fld Z h0 a1 "com/example/zorgbrug/zorgbrug/fhir/Version" "preRelease" "Ljava/util/List;" .null) (ga : n0 ≤ a1) (na5 : a1 ≠ a5) (EL : Exa Z h0 a5 "java/util/ArrayList") (FE : Fld Z h0 a5 "java/util/ArrayList" "elementData" "[Ljava/lang/Object;" (.ref ea)) (FZ : Fld Z h0 a5 "java/util/ArrayList" "size" "I" (.int (1 : Int32))) (AV : Arv Z h0 ea k (.object "java/lang/Object") (10 : Int32) [.ref x, .null, .null, .null, .null, .null, .null, .null, .null, .null] .null) (EX : Exa Z h0 x "java/lang/String") (EA : Exa Z h0 ea "[Ljava/lang/Object;") (M : Mir Z "[Ljava/lang/Object;" mr) (X00 : Old Z n0 h0) (O_E : Sta Z Z.heap "java/util/ImmutableCollections" "EMPTY" "Ljava/lang/Object;" (.ref eo)) :
    MetFree l (⟨"com/example/zorgbrug/zorgbrug/fhir/Version", "<init>", "(JJJLjava/util/List;)V"⟩ : MethodName) (head1 (Jvm.Cond.code (⟨"com/example/zorgbrug/zorgbrug/fhir/Version", "<init>", "(JJJLjava/util/List;)V"⟩ : MethodName) prog_12_method_1_code 8 none :: ws) ({ frames := 8, cells := 2, slots := 3, locals := 100 } : Room)) (fun a U => a = #[(.ref a1), (.long q2), (.long q3), (.long q4), (.ref a5)] ∧ Z.Warmed39 U.vm ∧ U.heap = h0) (fun _ _ _ _ _ => True) (fun _ U o U' => ∃ v L, o = .returned v ∧ QrVIB Z a1 q2 q3 q4 a5 ea x k mr eo h0 n0 v U'.heap L ∧ FrameEnd U o U' L ({ frames := 8, cells := 2, slots := 3, locals := 100 } : Room).cells ({ frames := 8, cells := 2, slots := 3, locals := 100 } : Room).slots) := by
  refine MetFree.of_bodySF (plainFor_of_name pn_5) hisR ?_
  intro p e s m args below meth c s₁ Bd hml0 hP hK
  obtain ⟨rfl, hZ, hh⟩ := hP
  have hx := Bd.exec
  have hby := Bd.bytes
  have hml : c.maxLocals = 8 := hml0
  have hown : s.vm.findClass "com/example/zorgbrug/zorgbrug/fhir/Version" = some m.cls := findClass_of_methodNamed Bd.named
  have hnm := (name_of_methodNamed Bd.named Bd.method).1
  have X0 : Stand p l e ({ frames := 8, cells := 2, slots := 3, locals := 100 } : Room) s m #[(.ref a1), (.long q2), (.long q3), (.long q4), (.ref a5)] below meth c s₁ [] 0 0 := Stand.of_body Bd
  have e0 : s₁.heap = h0 := by rw [← hh, Bd.state]; rfl
  have N0 := Fr.nil n0
  have pre0 : ∀ t, Steps p.tables e below (s₁.setTop (mkF m 0 #[.val (.ref a1), .val (.long q2), .second, .val (.long q3), .second, .val (.long q4), .second, .val (.ref a5)] [])) t → Steps p.tables e below (s₁.setTop (entryFrame m #[(.ref a1), (.long q2), (.long q3), (.long q4), (.ref a5)] 8)) t := fun t k => castTop (ef_rVIB m a1 q2 q3 q4 a5) k
  have nx1 : a1 ≠ x := own_neE E EX (by decide)
  have nx2 : a1 ≠ ea := own_neE E EA (by decide)
  obtain ⟨_, _, ⟨T1, Lq1, kq1, nq1⟩, -, X1, ⟨Lc1, hQ1, lq1, yq1, zq1⟩, st1⟩ := X0.specialBack hx (y := (⟨"java/lang/Record", "<init>", "()V"⟩ : MethodName)) rfl hown (mvT hZ (hw _ (own_w 32 rfl))) (mvT hZ (hw _ (own_w 33 rfl))) (mvT hZ (hw _ (own_w 36 rfl))) (by decide) (backOf (W := 0) (rRE l Z a0 hw [] a1  h0 n0 Z0 ) hZ (hw _ (own_w 36 rfl)) (hw _ (own_w 35 rfl)) (by decide) (by decide)) (g := (mkF m 1 #[.val (.ref a1), .val (.long q2), .second, .val (.long q3), .second, .val (.long q4), .second, .val (.ref a5)] [(.ref a1)])) rfl (by rw [hml]; rfl) (Steps.refl _) (a := a1) (argsL := []) (rest := []) (lenOf pd_0 rfl) rfl (by show 2 * 0 + _ ≤ _; exact Nat.le_of_eq rfl) (hb hby d5_1) (fun _ _ => ⟨rfl, e0, (by decide : 0 + 0 ≤ _), (by decide : 0 + 0 ≤ _)⟩)
  dsimp only [Pt.U, Pt.locs, Pt.cells, Pt.slots] at X1 lq1 yq1 zq1 st1 hQ1
  subst lq1 yq1 zq1
  obtain ⟨rfl, N1q, e1⟩ := hQ1
  have N1 := Fr.app N0 N1q
  obtain ⟨_, _, ⟨T2, Lq2, kq2, nq2⟩, -, X2, ⟨Lc2, hQ2, lq2, yq2, zq2⟩, st2⟩ := Jvm.LawKit.callS X1 hx (y := (⟨"java/util/List", "copyOf", "(Ljava/util/Collection;)Ljava/util/List;"⟩ : MethodName)) hown (mvT hZ (hw _ (own_w 38 rfl))) (mvT hZ (hw _ (own_w 39 rfl))) (mvT hZ (hw _ (own_w 40 rfl))) (mvT hZ (hw _ (own_w 41 rfl))) (by decide) (backOf (W := 0) (rCOB l Z a0 hw [] a5 ea x k mr eo h0 n0 Z0 EL FE FZ AV EX EA M X00 O_E) hZ (hw _ (own_w 41 rfl)) (hw _ (own_w 40 rfl)) (by decide) (by decide)) (g := (mkF m 6 #[.val (.ref a1), .val (.long q2), .second, .val (.long q3), .second, .val (.long q4), .second, .val (.ref a5)] [(.ref a5)])) rfl (by rw [hml]; rfl) (argsL := [(.ref a5)]) (rest := []) (lenOf pd_15 rfl) rfl (by show 2 * 0 + _ ≤ _; exact Nat.le_of_eq rfl) (hb hby d5_6) (fun _ _ => ⟨rfl, e1, (by decide : 0 + 2 ≤ _), (by decide : 0 + 3 ≤ _)⟩)
  dsimp only [Pt.U, Pt.locs, Pt.cells, Pt.slots] at X2 lq2 yq2 zq2 st2 hQ2
  subst lq2 yq2 zq2
  obtain ⟨o2, rfl, N2q, KC2, go2, gk2⟩ := hQ2
  have N2 := Fr.app N1 N2q
  have Z2 : n0 ≤ T2.heap.size := Nat.le_trans Z0 KC2.1
  have ne3 : a1 ≠ o2 := Nat.ne_of_lt (Nat.lt_of_lt_of_le F2.lt gk2)
  have ne4 : a5 ≠ o2 := Nat.ne_of_lt (Nat.lt_of_lt_of_le FZ.lt gk2)
  have ne5 : ea ≠ o2 := Nat.ne_of_lt (Nat.lt_of_lt_of_le EA.lt gk2)
  have ne6 : x ≠ o2 := Nat.ne_of_lt (Nat.lt_of_lt_of_le EX.lt gk2)
  have K2 : Keep h0 T2.heap [a1] := (Keep.refl h0 [a1]).trans KC2 all0
  have f7 := (E.keep KC2)
  have f8 := (F0.keep KC2 nin0)
  obtain ⟨T9, h9, X9, e9, W9, st9⟩ := putF X2 hx hZ hown (host := "") (Or.inl (hw _ (own_w 67 rfl))) Via.refl rfl f8 f7 (Or.inr ⟨(hw _ (own_w 68 rfl)), rfl, hnm⟩) (hw _ (own_w 27 rfl)) (ty := .long) (by decide) rfl rfl (g := (mkF m 13 #[.val (.ref a1), .val (.long q2), .second, .val (.long q3), .second, .val (.long q4), .second, .val (.ref o2)] [(.long q2), (.ref a1)])) rfl rfl (hb hby d5_13)
  have N9 := Fr.snoc X9 N2 ga
  have Z9 : n0 ≤ h9.size := by rw [W9.size]; exact Z2
  have K9 : Keep h0 h9 [a1] := K2.wr W9 (Or.inl (own_w 0 rfl))
  have Fw9 := f8.same W9
  have f10 := (f7.wr W9)
  have f11 := ((F1.keep KC2 nin0).other W9 (Or.inr (slot_ne (Or.inr (hw _ (own_w 70 rfl))) (Or.inr (hw _ (own_w 68 rfl))) (by decide) (t := .long) (t' := .long) (by decide) (by decide))))
  obtain ⟨T12, h12, X12, e12, W12, st12⟩ := putF X9 hx hZ hown (host := "") (Or.inl (hw _ (own_w 69 rfl))) Via.refl e9 f11 f10 (Or.inr ⟨(hw _ (own_w 70 rfl)), rfl, hnm⟩) (hw _ (own_w 27 rfl)) (ty := .long) (by decide) rfl rfl (g := (mkF m 18 #[.val (.ref a1), .val (.long q2), .second, .val (.long q3), .second, .val (.long q4), .second, .val (.ref o2)] [(.long q3), (.ref a1)])) rfl rfl (hb hby d5_18)
  have N12 := Fr.snoc X12 N9 ga
  have Z12 : n0 ≤ h12.size := by rw [W12.size]; exact Z9
  have K12 : Keep h0 h12 [a1] := K9.wr W12 (Or.inl (own_w 0 rfl))
  have Fw12 := f11.same W12
  have f13 := (f10.wr W12)
  have f14 := (((F2.keep KC2 nin0).other W9 (Or.inr (slot_ne (Or.inr (hw _ (own_w 72 rfl))) (Or.inr (hw _ (own_w 68 rfl))) (by decide) (t := .long) (t' := .long) (by decide) (by decide)))).other W12 (Or.inr (slot_ne (Or.inr (hw _ (own_w 72 rfl))) (Or.inr (hw _ (own_w 70 rfl))) (by decide) (t := .long) (t' := .long) (by decide) (by decide))))
  obtain ⟨T15, h15, X15, e15, W15, st15⟩ := putF X12 hx hZ hown (host := "") (Or.inl (hw _ (own_w 71 rfl))) Via.refl e12 f14 f13 (Or.inr ⟨(hw _ (own_w 72 rfl)), rfl, hnm⟩) (hw _ (own_w 27 rfl)) (ty := .long) (by decide) rfl rfl (g := (mkF m 24 #[.val (.ref a1), .val (.long q2), .second, .val (.long q3), .second, .val (.long q4), .second, .val (.ref o2)] [(.long q4), (.ref a1)])) rfl rfl (hb hby d5_24)
  have N15 := Fr.snoc X15 N12 ga
  have Z15 : n0 ≤ h15.size := by rw [W15.size]; exact Z12
  have K15 : Keep h0 h15 [a1] := K12.wr W15 (Or.inl (own_w 0 rfl))
  have Fw15 := f14.same W15
  have f16 := (f13.wr W15)
  have f17 := ((((F3.keep KC2 nin0).other W9 (Or.inr (slot_ne (Or.inr (hw _ (own_w 74 rfl))) (Or.inr (hw _ (own_w 68 rfl))) (by decide) (t := (.object "java/util/List")) (t' := .long) (by decide) (by decide)))).other W12 (Or.inr (slot_ne (Or.inr (hw _ (own_w 74 rfl))) (Or.inr (hw _ (own_w 70 rfl))) (by decide) (t := (.object "java/util/List")) (t' := .long) (by decide) (by decide)))).other W15 (Or.inr (slot_ne (Or.inr (hw _ (own_w 74 rfl))) (Or.inr (hw _ (own_w 72 rfl))) (by decide) (t := (.object "java/util/List")) (t' := .long) (by decide) (by decide))))
  obtain ⟨T18, h18, X18, e18, W18, st18⟩ := putF X15 hx hZ hown (host := "") (Or.inl (hw _ (own_w 73 rfl))) Via.refl e15 f17 f16 (Or.inr ⟨(hw _ (own_w 74 rfl)), rfl, hnm⟩) (hw _ (own_w 27 rfl)) (ty := (.object "java/util/List")) (by decide) rfl rfl (g := (mkF m 30 #[.val (.ref a1), .val (.long q2), .second, .val (.long q3), .second, .val (.long q4), .second, .val (.ref o2)] [(.ref o2), (.ref a1)])) rfl rfl (hb hby d5_30)
  have N18 := Fr.snoc X18 N15 ga
  have Z18 : n0 ≤ h18.size := by rw [W18.size]; exact Z15
  have K18 : Keep h0 h18 [a1] := K15.wr W18 (Or.inl (own_w 0 rfl))
  have Fw18 := f17.same W18
  obtain ⟨fs, hr, hrun, hended, hW, hsame⟩ := X18.leave (v := none) (fun _ => rfl) (BodyLoose.notSynchronized Bd)
  refine ⟨_, _, pre0 _ ?_, hrun, hended, _, _, rfl, ?_, ⟨_, rfl⟩, hW, hsame.mono (by decide) (by decide)⟩
  · show Steps p.tables e below (s₁.setTop (mkF m 0 #[.val (.ref a1), .val (.long q2), .second, .val (.long q3), .second, .val (.long q4), .second, .val (.ref a5)] [])) _
    refine XS.aloadN X0.here hx rfl (hb hby d5_0) rfl rfl ?_
    refine st1.trans ?_
    refine XS.aload X1.here hx rfl (hb hby d5_4) rfl rfl ?_
    refine st2 _ ?_
    refine XS.astore X2.here hx rfl (hb hby d5_9) rfl rfl (l' := #[.val (.ref a1), .val (.long q2), .second, .val (.long q3), .second, .val (.long q4), .second, .val (.ref o2)]) rfl ?_
    refine XS.aloadN X2.here hx rfl (hb hby d5_11) rfl rfl ?_
    refine XS.lloadN X2.here hx rfl (hb hby d5_12) rfl ?_
    refine st9 _ ?_
    refine XS.aloadN X9.here hx rfl (hb hby d5_16) rfl rfl ?_
    refine XS.lloadN X9.here hx rfl (hb hby d5_17) rfl ?_
    refine st12 _ ?_
    refine XS.aloadN X12.here hx rfl (hb hby d5_21) rfl rfl ?_
    refine XS.lload X12.here hx rfl (hb hby d5_22) rfl ?_
    refine st15 _ ?_
    refine XS.aloadN X15.here hx rfl (hb hby d5_27) rfl rfl ?_
    refine XS.aload X15.here hx rfl (hb hby d5_28) rfl rfl ?_
    refine st18 _ ?_
    show Steps p.tables e below (T18.setTop (mkF m 33 #[.val (.ref a1), .val (.long q2), .second, .val (.long q3), .second, .val (.long q4), .second, .val (.ref o2)] [])) _
    exact X18.returnOut hx Bd.returns (hb hby d5_33) hr
  · show QrVIB Z a1 q2 q3 q4 a5 ea x k mr eo h0 n0 _ T18.heap _
    have f19 := (f16.wr W18)
    have f20 := (((Fw9.other W12 (Or.inr (slot_ne (Or.inr (hw _ (own_w 68 rfl))) (Or.inr (hw _ (own_w 70 rfl))) (by decide) (t := .long) (t' := .long) (by decide) (by decide)))).other W15 (Or.inr (slot_ne (Or.inr (hw _ (own_w 68 rfl))) (Or.inr (hw _ (own_w 72 rfl))) (by decide) (t := .long) (t' := .long) (by decide) (by decide)))).other W18 (Or.inr (slot_ne (Or.inr (hw _ (own_w 68 rfl))) (Or.inr (hw _ (own_w 74 rfl))) (by decide) (t := .long) (t' := (.object "java/util/List")) (by decide) (by decide))))
    have f21 := ((Fw12.other W15 (Or.inr (slot_ne (Or.inr (hw _ (own_w 70 rfl))) (Or.inr (hw _ (own_w 72 rfl))) (by decide) (t := .long) (t' := .long) (by decide) (by decide)))).other W18 (Or.inr (slot_ne (Or.inr (hw _ (own_w 70 rfl))) (Or.inr (hw _ (own_w 74 rfl))) (by decide) (t := .long) (t' := (.object "java/util/List")) (by decide) (by decide))))
    have f22 := (Fw15.other W18 (Or.inr (slot_ne (Or.inr (hw _ (own_w 72 rfl))) (Or.inr (hw _ (own_w 74 rfl))) (by decide) (t := .long) (t' := (.object "java/util/List")) (by decide) (by decide))))
    rw [e18]
    exact ⟨rfl, N18, K18, f19, f20, f21, f22⟩
theorem ef_rVIC (m : MethodId) (a1 : Addr) (q2 : Int64) (q3 : Int64) (q4 : Int64) (a5 : Addr) : entryFrame m #[(.ref a1), (.long q2), (.long q3), (.long q4), (.ref a5)] 8 = mkF m 0 #[.val (.ref a1), .val (.long q2), .second, .val (.long q3), .second, .val (.long q4), .second, .val (.ref a5)] [] := by first | (simp [entryFrame, mkF, argsToLocals, Value.category]; done) | rfl
def QrVIC (Z : State) (a1 : Addr) (q2 : Int64) (q3 : Int64) (q4 : Int64) (a5 : Addr) (h0 : Heap) (n0 : Nat) (v : Option Value) (h : Heap) (L : List Loc) : Prop := v = none ∧ Fr n0 L ∧ Keep h0 h [a1] ∧ Exa Z h a1 "com/example/zorgbrug/zorgbrug/fhir/Version" ∧ Fld Z h a1 "com/example/zorgbrug/zorgbrug/fhir/Version" "major" "J" (.long q2) ∧ Fld Z h a1 "com/example/zorgbrug/zorgbrug/fhir/Version" "minor" "J" (.long q3) ∧ Fld Z h a1 "com/example/zorgbrug/zorgbrug/fhir/Version" "patch" "J" (.long q4) ∧ Fld Z h a1 "com/example/zorgbrug/zorgbrug/fhir/Version" "preRelease" "Ljava/util/List;" (.ref a5)
set_option maxRecDepth 65536 in
set_option maxHeartbeats 40000000 in
theorem rVIC (l : Launch) (Z : State) (a0 : Array Value) (hw : ∀ d ∈ tables_1, d.before a0 Z = true) (ws : List Jvm.Cond) (a1 : Addr) (q2 : Int64) (q3 : Int64) (q4 : Int64) (a5 : Addr) (h0 : Heap) (n0 : Nat) (Z0 : n0 ≤ h0.size) (E : Exa Z h0 a1 "com/example/zorgbrug/zorgbrug/fhir/Version") (F0 : Fld Z h0 a1 "com/example/zorgbrug/zorgbrug/fhir/Version" "major" "J" (.long (0 : Int64))) (F1 : Fld Z h0 a1 "com/example/zorgbrug/zorgbrug/fhir/Version" "minor" "J" (.long (0 : Int64))) (F2 : Fld Z h0 a1 "com/example/zorgbrug/zorgbrug/fhir/Version" "patch" "J" (.long (0 : Int64))) (F3 : Fld Z h0 a1 "com/example/zorgbrug/zorgbrug/fhir/Version" "preRelease" "Ljava/util/List;" .null) (ga : n0 ≤ a1) (na5 : a1 ≠ a5) (O_EL : Exa Z Z.heap a5 "java/util/ImmutableCollections$ListN") (O_FN : Fld Z Z.heap a5 "java/util/ImmutableCollections$ListN" "allowNulls" "Z" (.int (0 : Int32))) (X00 : Old Z n0 h0) :
    MetFree l (⟨"com/example/zorgbrug/zorgbrug/fhir/Version", "<init>", "(JJJLjava/util/List;)V"⟩ : MethodName) (head1 (Jvm.Cond.code (⟨"com/example/zorgbrug/zorgbrug/fhir/Version", "<init>", "(JJJLjava/util/List;)V"⟩ : MethodName) prog_12_method_1_code 8 none :: ws) ({ frames := 2, cells := 0, slots := 0, locals := 25 } : Room)) (fun a U => a = #[(.ref a1), (.long q2), (.long q3), (.long q4), (.ref a5)] ∧ Z.Warmed39 U.vm ∧ U.heap = h0) (fun _ _ _ _ _ => True) (fun _ U o U' => ∃ v L, o = .returned v ∧ QrVIC Z a1 q2 q3 q4 a5 h0 n0 v U'.heap L ∧ FrameEnd U o U' L ({ frames := 2, cells := 0, slots := 0, locals := 25 } : Room).cells ({ frames := 2, cells := 0, slots := 0, locals := 25 } : Room).slots) := by
  refine MetFree.of_bodySF (plainFor_of_name pn_5) hisR ?_
  intro p e s m args below meth c s₁ Bd hml0 hP hK
  obtain ⟨rfl, hZ, hh⟩ := hP
  have hx := Bd.exec
  have hby := Bd.bytes
  have hml : c.maxLocals = 8 := hml0
  have hown : s.vm.findClass "com/example/zorgbrug/zorgbrug/fhir/Version" = some m.cls := findClass_of_methodNamed Bd.named
  have hnm := (name_of_methodNamed Bd.named Bd.method).1
  have X0 : Stand p l e ({ frames := 2, cells := 0, slots := 0, locals := 25 } : Room) s m #[(.ref a1), (.long q2), (.long q3), (.long q4), (.ref a5)] below meth c s₁ [] 0 0 := Stand.of_body Bd
  have e0 : s₁.heap = h0 := by rw [← hh, Bd.state]; rfl
  have N0 := Fr.nil n0
  have pre0 : ∀ t, Steps p.tables e below (s₁.setTop (mkF m 0 #[.val (.ref a1), .val (.long q2), .second, .val (.long q3), .second, .val (.long q4), .second, .val (.ref a5)] [])) t → Steps p.tables e below (s₁.setTop (entryFrame m #[(.ref a1), (.long q2), (.long q3), (.long q4), (.ref a5)] 8)) t := fun t k => castTop (ef_rVIC m a1 q2 q3 q4 a5) k
  obtain ⟨_, _, ⟨T1, Lq1, kq1, nq1⟩, -, X1, ⟨Lc1, hQ1, lq1, yq1, zq1⟩, st1⟩ := X0.specialBack hx (y := (⟨"java/lang/Record", "<init>", "()V"⟩ : MethodName)) rfl hown (mvT hZ (hw _ (own_w 32 rfl))) (mvT hZ (hw _ (own_w 33 rfl))) (mvT hZ (hw _ (own_w 36 rfl))) (by decide) (backOf (W := 0) (rRE l Z a0 hw [] a1  h0 n0 Z0 ) hZ (hw _ (own_w 36 rfl)) (hw _ (own_w 35 rfl)) (by decide) (by decide)) (g := (mkF m 1 #[.val (.ref a1), .val (.long q2), .second, .val (.long q3), .second, .val (.long q4), .second, .val (.ref a5)] [(.ref a1)])) rfl (by rw [hml]; rfl) (Steps.refl _) (a := a1) (argsL := []) (rest := []) (lenOf pd_0 rfl) rfl (by show 2 * 0 + _ ≤ _; exact Nat.le_of_eq rfl) (hb hby d5_1) (fun _ _ => ⟨rfl, e0, (by decide : 0 + 0 ≤ _), (by decide : 0 + 0 ≤ _)⟩)
  dsimp only [Pt.U, Pt.locs, Pt.cells, Pt.slots] at X1 lq1 yq1 zq1 st1 hQ1
  subst lq1 yq1 zq1
  obtain ⟨rfl, N1q, e1⟩ := hQ1
  have N1 := Fr.app N0 N1q
  obtain ⟨_, _, ⟨T2, Lq2, kq2, nq2⟩, -, X2, ⟨Lc2, hQ2, lq2, yq2, zq2⟩, st2⟩ := Jvm.LawKit.callS X1 hx (y := (⟨"java/util/List", "copyOf", "(Ljava/util/Collection;)Ljava/util/List;"⟩ : MethodName)) hown (mvT hZ (hw _ (own_w 38 rfl))) (mvT hZ (hw _ (own_w 39 rfl))) (mvT hZ (hw _ (own_w 40 rfl))) (mvT hZ (hw _ (own_w 41 rfl))) (by decide) (backOf (W := 0) (rCOC l Z a0 hw [] a5  h0 n0 Z0 O_EL O_FN X00) hZ (hw _ (own_w 41 rfl)) (hw _ (own_w 40 rfl)) (by decide) (by decide)) (g := (mkF m 6 #[.val (.ref a1), .val (.long q2), .second, .val (.long q3), .second, .val (.long q4), .second, .val (.ref a5)] [(.ref a5)])) rfl (by rw [hml]; rfl) (argsL := [(.ref a5)]) (rest := []) (lenOf pd_15 rfl) rfl (by show 2 * 0 + _ ≤ _; exact Nat.le_of_eq rfl) (hb hby d5_6) (fun _ _ => ⟨rfl, e1, (by decide : 0 + 0 ≤ _), (by decide : 0 + 0 ≤ _)⟩)
  dsimp only [Pt.U, Pt.locs, Pt.cells, Pt.slots] at X2 lq2 yq2 zq2 st2 hQ2
  subst lq2 yq2 zq2
  obtain ⟨rfl, N2q, e2⟩ := hQ2
  have N2 := Fr.app N1 N2q
  obtain ⟨T3, h3, X3, e3, W3, st3⟩ := putF X2 hx hZ hown (host := "") (Or.inl (hw _ (own_w 67 rfl))) Via.refl e2 F0 E (Or.inr ⟨(hw _ (own_w 68 rfl)), rfl, hnm⟩) (hw _ (own_w 27 rfl)) (ty := .long) (by decide) rfl rfl (g := (mkF m 13 #[.val (.ref a1), .val (.long q2), .second, .val (.long q3), .second, .val (.long q4), .second, .val (.ref a5)] [(.long q2), (.ref a1)])) rfl rfl (hb hby d5_13)
  have N3 := Fr.snoc X3 N2 ga
  have Z3 : n0 ≤ h3.size := by rw [W3.size]; exact Z0
  have K3 : Keep h0 h3 [a1] := (Keep.refl h0 [a1]).wr W3 (Or.inl (own_w 0 rfl))
  have Fw3 := F0.same W3
  have f4 := (E.wr W3)
  have f5 := (F1.other W3 (Or.inr (slot_ne (Or.inr (hw _ (own_w 70 rfl))) (Or.inr (hw _ (own_w 68 rfl))) (by decide) (t := .long) (t' := .long) (by decide) (by decide))))
  obtain ⟨T6, h6, X6, e6, W6, st6⟩ := putF X3 hx hZ hown (host := "") (Or.inl (hw _ (own_w 69 rfl))) Via.refl e3 f5 f4 (Or.inr ⟨(hw _ (own_w 70 rfl)), rfl, hnm⟩) (hw _ (own_w 27 rfl)) (ty := .long) (by decide) rfl rfl (g := (mkF m 18 #[.val (.ref a1), .val (.long q2), .second, .val (.long q3), .second, .val (.long q4), .second, .val (.ref a5)] [(.long q3), (.ref a1)])) rfl rfl (hb hby d5_18)
  have N6 := Fr.snoc X6 N3 ga
  have Z6 : n0 ≤ h6.size := by rw [W6.size]; exact Z3
  have K6 : Keep h0 h6 [a1] := K3.wr W6 (Or.inl (own_w 0 rfl))
  have Fw6 := f5.same W6
  have f7 := (f4.wr W6)
  have f8 := ((F2.other W3 (Or.inr (slot_ne (Or.inr (hw _ (own_w 72 rfl))) (Or.inr (hw _ (own_w 68 rfl))) (by decide) (t := .long) (t' := .long) (by decide) (by decide)))).other W6 (Or.inr (slot_ne (Or.inr (hw _ (own_w 72 rfl))) (Or.inr (hw _ (own_w 70 rfl))) (by decide) (t := .long) (t' := .long) (by decide) (by decide))))
  obtain ⟨T9, h9, X9, e9, W9, st9⟩ := putF X6 hx hZ hown (host := "") (Or.inl (hw _ (own_w 71 rfl))) Via.refl e6 f8 f7 (Or.inr ⟨(hw _ (own_w 72 rfl)), rfl, hnm⟩) (hw _ (own_w 27 rfl)) (ty := .long) (by decide) rfl rfl (g := (mkF m 24 #[.val (.ref a1), .val (.long q2), .second, .val (.long q3), .second, .val (.long q4), .second, .val (.ref a5)] [(.long q4), (.ref a1)])) rfl rfl (hb hby d5_24)
  have N9 := Fr.snoc X9 N6 ga
  have Z9 : n0 ≤ h9.size := by rw [W9.size]; exact Z6
  have K9 : Keep h0 h9 [a1] := K6.wr W9 (Or.inl (own_w 0 rfl))
  have Fw9 := f8.same W9
  have f10 := (f7.wr W9)
  have f11 := (((F3.other W3 (Or.inr (slot_ne (Or.inr (hw _ (own_w 74 rfl))) (Or.inr (hw _ (own_w 68 rfl))) (by decide) (t := (.object "java/util/List")) (t' := .long) (by decide) (by decide)))).other W6 (Or.inr (slot_ne (Or.inr (hw _ (own_w 74 rfl))) (Or.inr (hw _ (own_w 70 rfl))) (by decide) (t := (.object "java/util/List")) (t' := .long) (by decide) (by decide)))).other W9 (Or.inr (slot_ne (Or.inr (hw _ (own_w 74 rfl))) (Or.inr (hw _ (own_w 72 rfl))) (by decide) (t := (.object "java/util/List")) (t' := .long) (by decide) (by decide))))
  obtain ⟨T12, h12, X12, e12, W12, st12⟩ := putF X9 hx hZ hown (host := "") (Or.inl (hw _ (own_w 73 rfl))) Via.refl e9 f11 f10 (Or.inr ⟨(hw _ (own_w 74 rfl)), rfl, hnm⟩) (hw _ (own_w 27 rfl)) (ty := (.object "java/util/List")) (by decide) rfl rfl (g := (mkF m 30 #[.val (.ref a1), .val (.long q2), .second, .val (.long q3), .second, .val (.long q4), .second, .val (.ref a5)] [(.ref a5), (.ref a1)])) rfl rfl (hb hby d5_30)
  have N12 := Fr.snoc X12 N9 ga
  have Z12 : n0 ≤ h12.size := by rw [W12.size]; exact Z9
  have K12 : Keep h0 h12 [a1] := K9.wr W12 (Or.inl (own_w 0 rfl))
  have Fw12 := f11.same W12
  obtain ⟨fs, hr, hrun, hended, hW, hsame⟩ := X12.leave (v := none) (fun _ => rfl) (BodyLoose.notSynchronized Bd)
  refine ⟨_, _, pre0 _ ?_, hrun, hended, _, _, rfl, ?_, ⟨_, rfl⟩, hW, hsame.mono (by decide) (by decide)⟩
  · show Steps p.tables e below (s₁.setTop (mkF m 0 #[.val (.ref a1), .val (.long q2), .second, .val (.long q3), .second, .val (.long q4), .second, .val (.ref a5)] [])) _
    refine XS.aloadN X0.here hx rfl (hb hby d5_0) rfl rfl ?_
    refine st1.trans ?_
    refine XS.aload X1.here hx rfl (hb hby d5_4) rfl rfl ?_
    refine st2 _ ?_
    refine XS.astore X2.here hx rfl (hb hby d5_9) rfl rfl (l' := #[.val (.ref a1), .val (.long q2), .second, .val (.long q3), .second, .val (.long q4), .second, .val (.ref a5)]) rfl ?_
    refine XS.aloadN X2.here hx rfl (hb hby d5_11) rfl rfl ?_
    refine XS.lloadN X2.here hx rfl (hb hby d5_12) rfl ?_
    refine st3 _ ?_
    refine XS.aloadN X3.here hx rfl (hb hby d5_16) rfl rfl ?_
    refine XS.lloadN X3.here hx rfl (hb hby d5_17) rfl ?_
    refine st6 _ ?_
    refine XS.aloadN X6.here hx rfl (hb hby d5_21) rfl rfl ?_
    refine XS.lload X6.here hx rfl (hb hby d5_22) rfl ?_
    refine st9 _ ?_
    refine XS.aloadN X9.here hx rfl (hb hby d5_27) rfl rfl ?_
    refine XS.aload X9.here hx rfl (hb hby d5_28) rfl rfl ?_
    refine st12 _ ?_
    show Steps p.tables e below (T12.setTop (mkF m 33 #[.val (.ref a1), .val (.long q2), .second, .val (.long q3), .second, .val (.long q4), .second, .val (.ref a5)] [])) _
    exact X12.returnOut hx Bd.returns (hb hby d5_33) hr
  · show QrVIC Z a1 q2 q3 q4 a5 h0 n0 _ T12.heap _
    have f13 := (f10.wr W12)
    have f14 := (((Fw3.other W6 (Or.inr (slot_ne (Or.inr (hw _ (own_w 68 rfl))) (Or.inr (hw _ (own_w 70 rfl))) (by decide) (t := .long) (t' := .long) (by decide) (by decide)))).other W9 (Or.inr (slot_ne (Or.inr (hw _ (own_w 68 rfl))) (Or.inr (hw _ (own_w 72 rfl))) (by decide) (t := .long) (t' := .long) (by decide) (by decide)))).other W12 (Or.inr (slot_ne (Or.inr (hw _ (own_w 68 rfl))) (Or.inr (hw _ (own_w 74 rfl))) (by decide) (t := .long) (t' := (.object "java/util/List")) (by decide) (by decide))))
    have f15 := ((Fw6.other W9 (Or.inr (slot_ne (Or.inr (hw _ (own_w 70 rfl))) (Or.inr (hw _ (own_w 72 rfl))) (by decide) (t := .long) (t' := .long) (by decide) (by decide)))).other W12 (Or.inr (slot_ne (Or.inr (hw _ (own_w 70 rfl))) (Or.inr (hw _ (own_w 74 rfl))) (by decide) (t := .long) (t' := (.object "java/util/List")) (by decide) (by decide))))
    have f16 := (Fw9.other W12 (Or.inr (slot_ne (Or.inr (hw _ (own_w 72 rfl))) (Or.inr (hw _ (own_w 74 rfl))) (by decide) (t := .long) (t' := (.object "java/util/List")) (by decide) (by decide))))
    rw [e12]
    exact ⟨rfl, N12, K12, f13, f14, f15, f16, Fw12⟩
theorem d11_0 : decode prog_12_method_4_code 0 = .ok (.aload_n 0, 1) := by decide +kernel
theorem d11_1 : decode prog_12_method_4_code 1 = .ok (.getfield 13, 3) := by decide +kernel
theorem d11_4 : decode prog_12_method_4_code 4 = .ok (.aload_n 1, 1) := by decide +kernel
theorem d11_5 : decode prog_12_method_4_code 5 = .ok (.getfield 13, 3) := by decide +kernel
theorem d11_8 : decode prog_12_method_4_code 8 = .ok (.lcmp, 1) := by decide +kernel
theorem d11_9 : decode prog_12_method_4_code 9 = .ok (.ifCond .ne 31, 3) := by decide +kernel
theorem d11_12 : decode prog_12_method_4_code 12 = .ok (.aload_n 0, 1) := by decide +kernel
theorem d11_13 : decode prog_12_method_4_code 13 = .ok (.getfield 19, 3) := by decide +kernel
theorem d11_16 : decode prog_12_method_4_code 16 = .ok (.aload_n 1, 1) := by decide +kernel
theorem d11_17 : decode prog_12_method_4_code 17 = .ok (.getfield 19, 3) := by decide +kernel
theorem d11_20 : decode prog_12_method_4_code 20 = .ok (.lcmp, 1) := by decide +kernel
theorem d11_21 : decode prog_12_method_4_code 21 = .ok (.ifCond .ne 19, 3) := by decide +kernel
theorem d11_24 : decode prog_12_method_4_code 24 = .ok (.aload_n 0, 1) := by decide +kernel
theorem d11_25 : decode prog_12_method_4_code 25 = .ok (.getfield 22, 3) := by decide +kernel
theorem d11_28 : decode prog_12_method_4_code 28 = .ok (.aload_n 1, 1) := by decide +kernel
theorem d11_29 : decode prog_12_method_4_code 29 = .ok (.getfield 22, 3) := by decide +kernel
theorem d11_32 : decode prog_12_method_4_code 32 = .ok (.lcmp, 1) := by decide +kernel
theorem d11_33 : decode prog_12_method_4_code 33 = .ok (.ifCond .ne 7, 3) := by decide +kernel
theorem d11_36 : decode prog_12_method_4_code 36 = .ok (.iconst 1, 1) := by decide +kernel
theorem d11_37 : decode prog_12_method_4_code 37 = .ok (.goto 4, 3) := by decide +kernel
theorem d11_40 : decode prog_12_method_4_code 40 = .ok (.iconst 0, 1) := by decide +kernel
theorem d11_41 : decode prog_12_method_4_code 41 = .ok (.ireturn, 1) := by decide +kernel
theorem pn_11 : plainName "com/example/zorgbrug/zorgbrug/fhir/Version" = true := by first | (simp [plainName, overriddenIn]; done) | decide +kernel
theorem ef_rSR (m : MethodId) (a1 : Addr) (a2 : Addr) : entryFrame m #[(.ref a1), (.ref a2)] 2 = mkF m 0 #[.val (.ref a1), .val (.ref a2)] [] := by first | (simp [entryFrame, mkF, argsToLocals, Value.category]; done) | rfl
def QrSR (Z : State) (a1 : Addr) (a2 : Addr) (x0 : Int64) (x1 : Int64) (x2 : Int64) (y0 : Int64) (y1 : Int64) (y2 : Int64) (h0 : Heap) (n0 : Nat) (v : Option Value) (h : Heap) (L : List Loc) : Prop := ∃ z : Int32, z = (if x0 = y0 ∧ x1 = y1 ∧ x2 = y2 then 1 else 0) ∧ v = some (.int z) ∧ Fr n0 L ∧ h = h0
set_option maxRecDepth 65536 in
set_option maxHeartbeats 40000000 in
theorem rSR (l : Launch) (Z : State) (a0 : Array Value) (hw : ∀ d ∈ tables_1, d.before a0 Z = true) (ws : List Jvm.Cond) (a1 : Addr) (a2 : Addr) (x0 : Int64) (x1 : Int64) (x2 : Int64) (y0 : Int64) (y1 : Int64) (y2 : Int64) (h0 : Heap) (n0 : Nat) (Z0 : n0 ≤ h0.size) (PX0 : Fld Z h0 a1 "com/example/zorgbrug/zorgbrug/fhir/Version" "major" "J" (.long x0)) (PX1 : Fld Z h0 a1 "com/example/zorgbrug/zorgbrug/fhir/Version" "minor" "J" (.long x1)) (PX2 : Fld Z h0 a1 "com/example/zorgbrug/zorgbrug/fhir/Version" "patch" "J" (.long x2)) (PY0 : Fld Z h0 a2 "com/example/zorgbrug/zorgbrug/fhir/Version" "major" "J" (.long y0)) (PY1 : Fld Z h0 a2 "com/example/zorgbrug/zorgbrug/fhir/Version" "minor" "J" (.long y1)) (PY2 : Fld Z h0 a2 "com/example/zorgbrug/zorgbrug/fhir/Version" "patch" "J" (.long y2)) :
    MetFree l (⟨"com/example/zorgbrug/zorgbrug/fhir/Version", "sameRelease", "(Lcom/example/zorgbrug/zorgbrug/fhir/Version;)Z"⟩ : MethodName) (head1 (Jvm.Cond.code (⟨"com/example/zorgbrug/zorgbrug/fhir/Version", "sameRelease", "(Lcom/example/zorgbrug/zorgbrug/fhir/Version;)Z"⟩ : MethodName) prog_12_method_4_code 2 (some .boolean) :: ws) ({ frames := 0, cells := 0, slots := 0, locals := 0 } : Room)) (fun a U => a = #[(.ref a1), (.ref a2)] ∧ Z.Warmed39 U.vm ∧ U.heap = h0) (fun _ _ _ _ _ => True) (fun _ U o U' => ∃ v L, o = .returned v ∧ QrSR Z a1 a2 x0 x1 x2 y0 y1 y2 h0 n0 v U'.heap L ∧ FrameEnd U o U' L ({ frames := 0, cells := 0, slots := 0, locals := 0 } : Room).cells ({ frames := 0, cells := 0, slots := 0, locals := 0 } : Room).slots) := by
  refine MetFree.of_bodySF (plainFor_of_name pn_11) hisR ?_
  intro p e s m args below meth c s₁ Bd hml0 hP hK
  obtain ⟨rfl, hZ, hh⟩ := hP
  have hx := Bd.exec
  have hby := Bd.bytes
  have hml : c.maxLocals = 2 := hml0
  have hown : s.vm.findClass "com/example/zorgbrug/zorgbrug/fhir/Version" = some m.cls := findClass_of_methodNamed Bd.named
  have hnm := (name_of_methodNamed Bd.named Bd.method).1
  have X0 : Stand p l e ({ frames := 0, cells := 0, slots := 0, locals := 0 } : Room) s m #[(.ref a1), (.ref a2)] below meth c s₁ [] 0 0 := Stand.of_body Bd
  have e0 : s₁.heap = h0 := by rw [← hh, Bd.state]; rfl
  have N0 := Fr.nil n0
  have pre0 : ∀ t, Steps p.tables e below (s₁.setTop (mkF m 0 #[.val (.ref a1), .val (.ref a2)] [])) t → Steps p.tables e below (s₁.setTop (entryFrame m #[(.ref a1), (.ref a2)] 2)) t := fun t k => castTop (ef_rSR m a1 a2) k
  obtain ⟨T1, X1, e1, st1⟩ := getF X0 hx hZ hown (host := "") (Or.inl (hw _ (own_w 67 rfl))) Via.refl e0 PX0 (g := (mkF m 1 #[.val (.ref a1), .val (.ref a2)] [(.ref a1)])) rfl rfl (hb hby d11_1)
  obtain ⟨T2, X2, e2, st2⟩ := getF X1 hx hZ hown (host := "") (Or.inl (hw _ (own_w 67 rfl))) Via.refl e1 PY0 (g := (mkF m 5 #[.val (.ref a1), .val (.ref a2)] [(.ref a2), (.long x0)])) rfl rfl (hb hby d11_5)
  by_cases hc9 : x0 = y0
  · obtain ⟨T3, X3, e3, st3⟩ := getF X2 hx hZ hown (host := "") (Or.inl (hw _ (own_w 69 rfl))) Via.refl e2 PX1 (g := (mkF m 13 #[.val (.ref a1), .val (.ref a2)] [(.ref a1)])) rfl rfl (hb hby d11_13)
    obtain ⟨T4, X4, e4, st4⟩ := getF X3 hx hZ hown (host := "") (Or.inl (hw _ (own_w 69 rfl))) Via.refl e3 PY1 (g := (mkF m 17 #[.val (.ref a1), .val (.ref a2)] [(.ref a2), (.long x1)])) rfl rfl (hb hby d11_17)
    by_cases hc21 : x1 = y1
    · obtain ⟨T5, X5, e5, st5⟩ := getF X4 hx hZ hown (host := "") (Or.inl (hw _ (own_w 71 rfl))) Via.refl e4 PX2 (g := (mkF m 25 #[.val (.ref a1), .val (.ref a2)] [(.ref a1)])) rfl rfl (hb hby d11_25)
      obtain ⟨T6, X6, e6, st6⟩ := getF X5 hx hZ hown (host := "") (Or.inl (hw _ (own_w 71 rfl))) Via.refl e5 PY2 (g := (mkF m 29 #[.val (.ref a1), .val (.ref a2)] [(.ref a2), (.long x2)])) rfl rfl (hb hby d11_29)
      by_cases hc33 : x2 = y2
      · obtain ⟨fs, hr, hrun, hended, hW, hsame⟩ := X6.leave (v := some (.int (1 : Int32))) (fun h => by rw [Bd.returns] at h; cases h) (BodyLoose.notSynchronized Bd)
        refine ⟨_, _, pre0 _ ?_, hrun, hended, _, _, rfl, ?_, ⟨_, rfl⟩, hW, hsame.mono (by decide) (by decide)⟩
        · show Steps p.tables e below (s₁.setTop (mkF m 0 #[.val (.ref a1), .val (.ref a2)] [])) _
          refine XS.aloadN X0.here hx rfl (hb hby d11_0) rfl rfl ?_
          refine st1 _ ?_
          refine XS.aloadN X1.here hx rfl (hb hby d11_4) rfl rfl ?_
          refine st2 _ ?_
          refine XS.lcmp X2.here hx rfl (hb hby d11_8) rfl ?_
          refine XS.ifNo X2.here hx rfl (hb hby d11_9) rfl ((if0 _ _).trans (teq (own_lceq hc9)).2) ?_
          refine XS.aloadN X2.here hx rfl (hb hby d11_12) rfl rfl ?_
          refine st3 _ ?_
          refine XS.aloadN X3.here hx rfl (hb hby d11_16) rfl rfl ?_
          refine st4 _ ?_
          refine XS.lcmp X4.here hx rfl (hb hby d11_20) rfl ?_
          refine XS.ifNo X4.here hx rfl (hb hby d11_21) rfl ((if0 _ _).trans (teq (own_lceq hc21)).2) ?_
          refine XS.aloadN X4.here hx rfl (hb hby d11_24) rfl rfl ?_
          refine st5 _ ?_
          refine XS.aloadN X5.here hx rfl (hb hby d11_28) rfl rfl ?_
          refine st6 _ ?_
          refine XS.lcmp X6.here hx rfl (hb hby d11_32) rfl ?_
          refine XS.ifNo X6.here hx rfl (hb hby d11_33) rfl ((if0 _ _).trans (teq (own_lceq hc33)).2) ?_
          refine XS.iconst X6.here hx rfl (hb hby d11_36) ?_
          refine XS.goto X6.here hx rfl (pc0 := 37) (pc' := 41) rfl (hb hby d11_37) (by decide) (by decide) ?_
          show Steps p.tables e below (T6.setTop (mkF m 41 #[.val (.ref a1), .val (.ref a2)] [(.int (1 : Int32))])) _
          exact retN X6 hx (t := .boolean) Bd.returns (by simp) (hb hby d11_41) hr
        · show QrSR Z a1 a2 x0 x1 x2 y0 y1 y2 h0 n0 _ T6.heap _
          exact ⟨_, by simp [*], rfl, N0, e6⟩
      · obtain ⟨fs, hr, hrun, hended, hW, hsame⟩ := X6.leave (v := some (.int (0 : Int32))) (fun h => by rw [Bd.returns] at h; cases h) (BodyLoose.notSynchronized Bd)
        refine ⟨_, _, pre0 _ ?_, hrun, hended, _, _, rfl, ?_, ⟨_, rfl⟩, hW, hsame.mono (by decide) (by decide)⟩
        · show Steps p.tables e below (s₁.setTop (mkF m 0 #[.val (.ref a1), .val (.ref a2)] [])) _
          refine XS.aloadN X0.here hx rfl (hb hby d11_0) rfl rfl ?_
          refine st1 _ ?_
          refine XS.aloadN X1.here hx rfl (hb hby d11_4) rfl rfl ?_
          refine st2 _ ?_
          refine XS.lcmp X2.here hx rfl (hb hby d11_8) rfl ?_
          refine XS.ifNo X2.here hx rfl (hb hby d11_9) rfl ((if0 _ _).trans (teq (own_lceq hc9)).2) ?_
          refine XS.aloadN X2.here hx rfl (hb hby d11_12) rfl rfl ?_
          refine st3 _ ?_
          refine XS.aloadN X3.here hx rfl (hb hby d11_16) rfl rfl ?_
          refine st4 _ ?_
          refine XS.lcmp X4.here hx rfl (hb hby d11_20) rfl ?_
          refine XS.ifNo X4.here hx rfl (hb hby d11_21) rfl ((if0 _ _).trans (teq (own_lceq hc21)).2) ?_
          refine XS.aloadN X4.here hx rfl (hb hby d11_24) rfl rfl ?_
          refine st5 _ ?_
          refine XS.aloadN X5.here hx rfl (hb hby d11_28) rfl rfl ?_
          refine st6 _ ?_
          refine XS.lcmp X6.here hx rfl (hb hby d11_32) rfl ?_
          refine XS.ifYes X6.here hx rfl (pc0 := 33) (pc' := 40) rfl (hb hby d11_33) rfl ((if0 _ _).trans (feq (own_lcne hc33)).2) (by decide) (by decide) ?_
          refine XS.iconst X6.here hx rfl (hb hby d11_40) ?_
          show Steps p.tables e below (T6.setTop (mkF m 41 #[.val (.ref a1), .val (.ref a2)] [(.int (0 : Int32))])) _
          exact retN X6 hx (t := .boolean) Bd.returns (by simp) (hb hby d11_41) hr
        · show QrSR Z a1 a2 x0 x1 x2 y0 y1 y2 h0 n0 _ T6.heap _
          exact ⟨_, by simp [*], rfl, N0, e6⟩
    · obtain ⟨fs, hr, hrun, hended, hW, hsame⟩ := X4.leave (v := some (.int (0 : Int32))) (fun h => by rw [Bd.returns] at h; cases h) (BodyLoose.notSynchronized Bd)
      refine ⟨_, _, pre0 _ ?_, hrun, hended, _, _, rfl, ?_, ⟨_, rfl⟩, hW, hsame.mono (by decide) (by decide)⟩
      · show Steps p.tables e below (s₁.setTop (mkF m 0 #[.val (.ref a1), .val (.ref a2)] [])) _
        refine XS.aloadN X0.here hx rfl (hb hby d11_0) rfl rfl ?_
        refine st1 _ ?_
        refine XS.aloadN X1.here hx rfl (hb hby d11_4) rfl rfl ?_
        refine st2 _ ?_
        refine XS.lcmp X2.here hx rfl (hb hby d11_8) rfl ?_
        refine XS.ifNo X2.here hx rfl (hb hby d11_9) rfl ((if0 _ _).trans (teq (own_lceq hc9)).2) ?_
        refine XS.aloadN X2.here hx rfl (hb hby d11_12) rfl rfl ?_
        refine st3 _ ?_
        refine XS.aloadN X3.here hx rfl (hb hby d11_16) rfl rfl ?_
        refine st4 _ ?_
        refine XS.lcmp X4.here hx rfl (hb hby d11_20) rfl ?_
        refine XS.ifYes X4.here hx rfl (pc0 := 21) (pc' := 40) rfl (hb hby d11_21) rfl ((if0 _ _).trans (feq (own_lcne hc21)).2) (by decide) (by decide) ?_
        refine XS.iconst X4.here hx rfl (hb hby d11_40) ?_
        show Steps p.tables e below (T4.setTop (mkF m 41 #[.val (.ref a1), .val (.ref a2)] [(.int (0 : Int32))])) _
        exact retN X4 hx (t := .boolean) Bd.returns (by simp) (hb hby d11_41) hr
      · show QrSR Z a1 a2 x0 x1 x2 y0 y1 y2 h0 n0 _ T4.heap _
        exact ⟨_, by simp [*], rfl, N0, e4⟩
  · obtain ⟨fs, hr, hrun, hended, hW, hsame⟩ := X2.leave (v := some (.int (0 : Int32))) (fun h => by rw [Bd.returns] at h; cases h) (BodyLoose.notSynchronized Bd)
    refine ⟨_, _, pre0 _ ?_, hrun, hended, _, _, rfl, ?_, ⟨_, rfl⟩, hW, hsame.mono (by decide) (by decide)⟩
    · show Steps p.tables e below (s₁.setTop (mkF m 0 #[.val (.ref a1), .val (.ref a2)] [])) _
      refine XS.aloadN X0.here hx rfl (hb hby d11_0) rfl rfl ?_
      refine st1 _ ?_
      refine XS.aloadN X1.here hx rfl (hb hby d11_4) rfl rfl ?_
      refine st2 _ ?_
      refine XS.lcmp X2.here hx rfl (hb hby d11_8) rfl ?_
      refine XS.ifYes X2.here hx rfl (pc0 := 9) (pc' := 40) rfl (hb hby d11_9) rfl ((if0 _ _).trans (feq (own_lcne hc9)).2) (by decide) (by decide) ?_
      refine XS.iconst X2.here hx rfl (hb hby d11_40) ?_
      show Steps p.tables e below (T2.setTop (mkF m 41 #[.val (.ref a1), .val (.ref a2)] [(.int (0 : Int32))])) _
      exact retN X2 hx (t := .boolean) Bd.returns (by simp) (hb hby d11_41) hr
    · show QrSR Z a1 a2 x0 x1 x2 y0 y1 y2 h0 n0 _ T2.heap _
      exact ⟨_, by simp [*], rfl, N0, e2⟩
theorem pd_16 : parseMethodDescriptor "(JJJLjava/util/List;)V" = some ⟨[.long, .long, .long, (.object "java/util/List")], none⟩ := by decide +kernel
theorem d12_0 : decode prog_12_method_2_code 0 = .ok (.new 14, 3) := by decide +kernel
theorem d12_3 : decode prog_12_method_2_code 3 = .ok (.dup, 1) := by decide +kernel
theorem d12_4 : decode prog_12_method_2_code 4 = .ok (.lload_n 0, 1) := by decide +kernel
theorem d12_5 : decode prog_12_method_2_code 5 = .ok (.lload_n 2, 1) := by decide +kernel
theorem d12_6 : decode prog_12_method_2_code 6 = .ok (.lload 4, 2) := by decide +kernel
theorem d12_8 : decode prog_12_method_2_code 8 = .ok (.invokestatic 29, 3) := by decide +kernel
theorem d12_11 : decode prog_12_method_2_code 11 = .ok (.invokespecial 33, 3) := by decide +kernel
theorem d12_14 : decode prog_12_method_2_code 14 = .ok (.areturn, 1) := by decide +kernel
theorem pn_12 : plainName "com/example/zorgbrug/zorgbrug/fhir/Version" = true := by first | (simp [plainName, overriddenIn]; done) | decide +kernel
theorem ef_rRL (m : MethodId) (q1 : Int64) (q2 : Int64) (q3 : Int64) : entryFrame m #[(.long q1), (.long q2), (.long q3)] 6 = mkF m 0 #[.val (.long q1), .second, .val (.long q2), .second, .val (.long q3), .second] [] := by first | (simp [entryFrame, mkF, argsToLocals, Value.category]; done) | rfl
def QrRL (Z : State) (q1 : Int64) (q2 : Int64) (q3 : Int64) (el : Addr) (h0 : Heap) (n0 : Nat) (v : Option Value) (h : Heap) (L : List Loc) : Prop := ∃ o : Addr, v = some (.ref o) ∧ Fr n0 L ∧ Keep h0 h [] ∧ n0 ≤ o ∧ h0.size ≤ o ∧ Exa Z h o "com/example/zorgbrug/zorgbrug/fhir/Version" ∧ Fld Z h o "com/example/zorgbrug/zorgbrug/fhir/Version" "major" "J" (.long q1) ∧ Fld Z h o "com/example/zorgbrug/zorgbrug/fhir/Version" "minor" "J" (.long q2) ∧ Fld Z h o "com/example/zorgbrug/zorgbrug/fhir/Version" "patch" "J" (.long q3) ∧ Fld Z h o "com/example/zorgbrug/zorgbrug/fhir/Version" "preRelease" "Ljava/util/List;" (.ref el)
set_option maxRecDepth 65536 in
set_option maxHeartbeats 40000000 in
theorem rRL (l : Launch) (Z : State) (a0 : Array Value) (hw : ∀ d ∈ tables_1, d.before a0 Z = true) (ws : List Jvm.Cond) (q1 : Int64) (q2 : Int64) (q3 : Int64) (el : Addr) (h0 : Heap) (n0 : Nat) (Z0 : n0 ≤ h0.size) (O_EL : Exa Z Z.heap el "java/util/ImmutableCollections$ListN") (O_FN : Fld Z Z.heap el "java/util/ImmutableCollections$ListN" "allowNulls" "Z" (.int (0 : Int32))) (X00 : Old Z n0 h0) (O_L : Sta Z Z.heap "java/util/ImmutableCollections" "EMPTY_LIST" "Ljava/util/ImmutableCollections$ListN;" (.ref el)) :
    MetFree l (⟨"com/example/zorgbrug/zorgbrug/fhir/Version", "release", "(JJJ)Lcom/example/zorgbrug/zorgbrug/fhir/Version;"⟩ : MethodName) (head1 (Jvm.Cond.code (⟨"com/example/zorgbrug/zorgbrug/fhir/Version", "release", "(JJJ)Lcom/example/zorgbrug/zorgbrug/fhir/Version;"⟩ : MethodName) prog_12_method_2_code 6 (some (.object "com/example/zorgbrug/zorgbrug/fhir/Version")) :: ws) ({ frames := 3, cells := 1, slots := 4, locals := 45 } : Room)) (fun a U => a = #[(.long q1), (.long q2), (.long q3)] ∧ Z.Warmed39 U.vm ∧ U.heap = h0) (fun _ _ _ _ _ => True) (fun _ U o U' => ∃ v L, o = .returned v ∧ QrRL Z q1 q2 q3 el h0 n0 v U'.heap L ∧ FrameEnd U o U' L ({ frames := 3, cells := 1, slots := 4, locals := 45 } : Room).cells ({ frames := 3, cells := 1, slots := 4, locals := 45 } : Room).slots) := by
  refine MetFree.of_bodySF (plainFor_of_name pn_12) hisR ?_
  intro p e s m args below meth c s₁ Bd hml0 hP hK
  obtain ⟨rfl, hZ, hh⟩ := hP
  have hx := Bd.exec
  have hby := Bd.bytes
  have hml : c.maxLocals = 6 := hml0
  have hown : s.vm.findClass "com/example/zorgbrug/zorgbrug/fhir/Version" = some m.cls := findClass_of_methodNamed Bd.named
  have hnm := (name_of_methodNamed Bd.named Bd.method).1
  have X0 : Stand p l e ({ frames := 3, cells := 1, slots := 4, locals := 45 } : Room) s m #[(.long q1), (.long q2), (.long q3)] below meth c s₁ [] 0 0 := Stand.of_body Bd
  have e0 : s₁.heap = h0 := by rw [← hh, Bd.state]; rfl
  have N0 := Fr.nil n0
  have pre0 : ∀ t, Steps p.tables e below (s₁.setTop (mkF m 0 #[.val (.long q1), .second, .val (.long q2), .second, .val (.long q3), .second] [])) t → Steps p.tables e below (s₁.setTop (entryFrame m #[(.long q1), (.long q2), (.long q3)] 6)) t := fun t k => castTop (ef_rRL m q1 q2 q3) k
  obtain ⟨T1, h1, X1, e1, E1, A1, D1, -, st1⟩ := newO X0 hx hZ hown (hw _ (own_w 83 rfl)) (hw _ (own_w 27 rfl)) (hw _ (own_w 28 rfl)) e0 (g := (mkF m 0 #[.val (.long q1), .second, .val (.long q2), .second, .val (.long q3), .second] [])) rfl (hb hby d12_0) (by decide) (by decide)
  obtain ⟨b1o, g1⟩ : ∃ z, z = h0.size := ⟨_, rfl⟩
  have b1 : n0 ≤ b1o := Nat.le_trans Z0 (Nat.le_of_eq g1.symm)
  have bk1 : h0.size ≤ b1o := Nat.le_trans (Keep.refl h0 []).1 (Nat.le_of_eq g1.symm)
  have ne2 : el ≠ b1o := Nat.ne_of_lt (Nat.lt_of_lt_of_le (O_EL.ext X00.2).lt (Nat.le_of_eq g1.symm))
  rw [← g1] at A1 D1 st1
  have Z1 : n0 ≤ h1.size := Nat.le_trans Z0 E1.1
  have K1 : Keep h0 h1 [] := (Keep.refl h0 []).ext E1
  have F1_68 : Fld Z h1 b1o "com/example/zorgbrug/zorgbrug/fhir/Version" "major" "J" (.long (0 : Int64)) := D1 (Or.inr (hw _ (own_w 68 rfl))) (ty := .long) (by decide)
  have F1_70 : Fld Z h1 b1o "com/example/zorgbrug/zorgbrug/fhir/Version" "minor" "J" (.long (0 : Int64)) := D1 (Or.inr (hw _ (own_w 70 rfl))) (ty := .long) (by decide)
  have F1_72 : Fld Z h1 b1o "com/example/zorgbrug/zorgbrug/fhir/Version" "patch" "J" (.long (0 : Int64)) := D1 (Or.inr (hw _ (own_w 72 rfl))) (ty := .long) (by decide)
  have F1_74 : Fld Z h1 b1o "com/example/zorgbrug/zorgbrug/fhir/Version" "preRelease" "Ljava/util/List;" .null := D1 (Or.inr (hw _ (own_w 74 rfl))) (ty := (.object "java/util/List")) (by decide)
  have f4 := (X00.ext E1)
  obtain ⟨_, _, ⟨T3, Lq3, kq3, nq3⟩, -, X3, ⟨Lc3, hQ3, lq3, yq3, zq3⟩, st3⟩ := Jvm.LawKit.callS X1 hx (y := (⟨"java/util/List", "of", "()Ljava/util/List;"⟩ : MethodName)) hown (mvT hZ (hw _ (own_w 84 rfl))) (mvT hZ (hw _ (own_w 64 rfl))) (mvT hZ (hw _ (own_w 40 rfl))) (mvT hZ (hw _ (own_w 65 rfl))) (by decide) (backOf (W := 8) (rO0 l Z a0 hw []  el h1 n0 Z1 f4 O_L) hZ (hw _ (own_w 65 rfl)) (hw _ (own_w 40 rfl)) (by decide) (by decide)) (g := (mkF m 8 #[.val (.long q1), .second, .val (.long q2), .second, .val (.long q3), .second] [(.long q3), (.long q2), (.long q1), (.ref b1o), (.ref b1o)])) rfl (by rw [hml]; rfl) (argsL := []) (rest := [(.long q3), (.long q2), (.long q1), (.ref b1o), (.ref b1o)]) (lenOf pd_13 rfl) rfl (by show 2 * 0 + _ ≤ _; exact Nat.le_of_eq rfl) (hb hby d12_8) (fun _ _ => ⟨rfl, e1, (by decide : 1 + 0 ≤ _), (by decide : 4 + 0 ≤ _)⟩)
  dsimp only [Pt.U, Pt.locs, Pt.cells, Pt.slots] at X3 lq3 yq3 zq3 st3 hQ3
  subst lq3 yq3 zq3
  obtain ⟨rfl, N3q, e3⟩ := hQ3
  have N3 := Fr.app N0 N3q
  obtain ⟨_, _, ⟨T5, Lq5, kq5, nq5⟩, -, X5, ⟨Lc5, hQ5, lq5, yq5, zq5⟩, st5⟩ := X3.specialBack hx (y := (⟨"com/example/zorgbrug/zorgbrug/fhir/Version", "<init>", "(JJJLjava/util/List;)V"⟩ : MethodName)) rfl hown (mvT hZ (hw _ (own_w 85 rfl))) (mvT hZ (hw _ (own_w 30 rfl))) (mvT hZ (hw _ (own_w 31 rfl))) (by decide) (backOf (W := 1) (rVIC l Z a0 hw [] b1o q1 q2 q3 el  h1 n0 Z1 A1 F1_68 F1_70 F1_72 F1_74 b1 (Ne.symm ne2) O_EL O_FN f4) hZ (hw _ (own_w 31 rfl)) (hw _ (own_w 28 rfl)) (by decide) (by decide)) (g := (mkF m 11 #[.val (.long q1), .second, .val (.long q2), .second, .val (.long q3), .second] [(.ref el), (.long q3), (.long q2), (.long q1), (.ref b1o), (.ref b1o)])) rfl (by rw [hml]; rfl) (Steps.refl _) (a := b1o) (argsL := [(.long q1), (.long q2), (.long q3), (.ref el)]) (rest := [(.ref b1o)]) (lenOf pd_16 rfl) rfl (by show 2 * 0 + _ ≤ _; exact Nat.le_of_eq rfl) (hb hby d12_11) (fun _ _ => ⟨rfl, e3, (by decide : 1 + 0 ≤ _), (by decide : 4 + 0 ≤ _)⟩)
  dsimp only [Pt.U, Pt.locs, Pt.cells, Pt.slots] at X5 lq5 yq5 zq5 st5 hQ5
  subst lq5 yq5 zq5
  obtain ⟨rfl, N5q, KC5, u5⟩ := hQ5
  have N5 := Fr.app N3 N5q
  have Z5 : n0 ≤ T5.heap.size := Nat.le_trans Z1 KC5.1
  have K5 : Keep h0 T5.heap [] := K1.trans KC5 (allS (Or.inr bk1) all0)
  obtain ⟨E5', F5_0, F5_1, F5_2, F5_3⟩ := u5
  obtain ⟨fs, hr, hrun, hended, hW, hsame⟩ := X5.leave (v := some (.ref b1o)) (fun h => by rw [Bd.returns] at h; cases h) (BodyLoose.notSynchronized Bd)
  refine ⟨_, _, pre0 _ ?_, hrun, hended, _, _, rfl, ?_, ⟨_, rfl⟩, hW, hsame.mono (by decide) (by decide)⟩
  · show Steps p.tables e below (s₁.setTop (mkF m 0 #[.val (.long q1), .second, .val (.long q2), .second, .val (.long q3), .second] [])) _
    refine st1 _ ?_
    refine XS.dup X1.here hx rfl (hb hby d12_3) rfl rfl ?_
    refine XS.lloadN X1.here hx rfl (hb hby d12_4) rfl ?_
    refine XS.lloadN X1.here hx rfl (hb hby d12_5) rfl ?_
    refine XS.lload X1.here hx rfl (hb hby d12_6) rfl ?_
    refine st3 _ ?_
    refine st5.trans ?_
    show Steps p.tables e below (T5.setTop (mkF m 14 #[.val (.long q1), .second, .val (.long q2), .second, .val (.long q3), .second] [(.ref b1o)])) _
    exact X5.areturnOut hx rfl Bd.returns rfl (hb hby d12_14) hr
  · show QrRL Z q1 q2 q3 el h0 n0 _ T5.heap _
    exact ⟨b1o, rfl, N5, K5, b1, bk1, E5', F5_0, F5_1, F5_2, F5_3⟩
theorem pd_17 : parseMethodDescriptor "(ZZ)I" = some ⟨[.boolean, .boolean], some .int⟩ := by decide +kernel
theorem pd_18 : parseMethodDescriptor "(JJ)I" = some ⟨[.long, .long], some .int⟩ := by decide +kernel
theorem d13_0 : decode prog_12_method_5_code 0 = .ok (.aload_n 0, 1) := by decide +kernel
theorem d13_1 : decode prog_12_method_5_code 1 = .ok (.getfield 13, 3) := by decide +kernel
theorem d13_4 : decode prog_12_method_5_code 4 = .ok (.aload_n 1, 1) := by decide +kernel
theorem d13_5 : decode prog_12_method_5_code 5 = .ok (.getfield 13, 3) := by decide +kernel
theorem d13_8 : decode prog_12_method_5_code 8 = .ok (.lcmp, 1) := by decide +kernel
theorem d13_9 : decode prog_12_method_5_code 9 = .ok (.ifCond .eq 15, 3) := by decide +kernel
theorem d13_12 : decode prog_12_method_5_code 12 = .ok (.aload_n 0, 1) := by decide +kernel
theorem d13_13 : decode prog_12_method_5_code 13 = .ok (.getfield 13, 3) := by decide +kernel
theorem d13_16 : decode prog_12_method_5_code 16 = .ok (.aload_n 1, 1) := by decide +kernel
theorem d13_17 : decode prog_12_method_5_code 17 = .ok (.getfield 13, 3) := by decide +kernel
theorem d13_20 : decode prog_12_method_5_code 20 = .ok (.invokestatic 40, 3) := by decide +kernel
theorem d13_23 : decode prog_12_method_5_code 23 = .ok (.ireturn, 1) := by decide +kernel
theorem d13_24 : decode prog_12_method_5_code 24 = .ok (.aload_n 0, 1) := by decide +kernel
theorem d13_25 : decode prog_12_method_5_code 25 = .ok (.getfield 19, 3) := by decide +kernel
theorem d13_28 : decode prog_12_method_5_code 28 = .ok (.aload_n 1, 1) := by decide +kernel
theorem d13_29 : decode prog_12_method_5_code 29 = .ok (.getfield 19, 3) := by decide +kernel
theorem d13_32 : decode prog_12_method_5_code 32 = .ok (.lcmp, 1) := by decide +kernel
theorem d13_33 : decode prog_12_method_5_code 33 = .ok (.ifCond .eq 15, 3) := by decide +kernel
theorem d13_36 : decode prog_12_method_5_code 36 = .ok (.aload_n 0, 1) := by decide +kernel
theorem d13_37 : decode prog_12_method_5_code 37 = .ok (.getfield 19, 3) := by decide +kernel
theorem d13_40 : decode prog_12_method_5_code 40 = .ok (.aload_n 1, 1) := by decide +kernel
theorem d13_41 : decode prog_12_method_5_code 41 = .ok (.getfield 19, 3) := by decide +kernel
theorem d13_44 : decode prog_12_method_5_code 44 = .ok (.invokestatic 40, 3) := by decide +kernel
theorem d13_47 : decode prog_12_method_5_code 47 = .ok (.ireturn, 1) := by decide +kernel
theorem d13_48 : decode prog_12_method_5_code 48 = .ok (.aload_n 0, 1) := by decide +kernel
theorem d13_49 : decode prog_12_method_5_code 49 = .ok (.getfield 22, 3) := by decide +kernel
theorem d13_52 : decode prog_12_method_5_code 52 = .ok (.aload_n 1, 1) := by decide +kernel
theorem d13_53 : decode prog_12_method_5_code 53 = .ok (.getfield 22, 3) := by decide +kernel
theorem d13_56 : decode prog_12_method_5_code 56 = .ok (.lcmp, 1) := by decide +kernel
theorem d13_57 : decode prog_12_method_5_code 57 = .ok (.ifCond .eq 15, 3) := by decide +kernel
theorem d13_60 : decode prog_12_method_5_code 60 = .ok (.aload_n 0, 1) := by decide +kernel
theorem d13_61 : decode prog_12_method_5_code 61 = .ok (.getfield 22, 3) := by decide +kernel
theorem d13_64 : decode prog_12_method_5_code 64 = .ok (.aload_n 1, 1) := by decide +kernel
theorem d13_65 : decode prog_12_method_5_code 65 = .ok (.getfield 22, 3) := by decide +kernel
theorem d13_68 : decode prog_12_method_5_code 68 = .ok (.invokestatic 40, 3) := by decide +kernel
theorem d13_71 : decode prog_12_method_5_code 71 = .ok (.ireturn, 1) := by decide +kernel
theorem d13_72 : decode prog_12_method_5_code 72 = .ok (.aload_n 0, 1) := by decide +kernel
theorem d13_73 : decode prog_12_method_5_code 73 = .ok (.getfield 25, 3) := by decide +kernel
theorem d13_76 : decode prog_12_method_5_code 76 = .ok (.invokeinterface 36 1, 5) := by decide +kernel
theorem d13_81 : decode prog_12_method_5_code 81 = .ok (.ifCond .ne 15, 3) := by decide +kernel
theorem d13_96 : decode prog_12_method_5_code 96 = .ok (.aload_n 0, 1) := by decide +kernel
theorem d13_97 : decode prog_12_method_5_code 97 = .ok (.getfield 25, 3) := by decide +kernel
theorem d13_100 : decode prog_12_method_5_code 100 = .ok (.invokeinterface 36 1, 5) := by decide +kernel
theorem d13_105 : decode prog_12_method_5_code 105 = .ok (.aload_n 1, 1) := by decide +kernel
theorem d13_106 : decode prog_12_method_5_code 106 = .ok (.getfield 25, 3) := by decide +kernel
theorem d13_109 : decode prog_12_method_5_code 109 = .ok (.invokeinterface 36 1, 5) := by decide +kernel
theorem d13_114 : decode prog_12_method_5_code 114 = .ok (.invokestatic 46, 3) := by decide +kernel
theorem d13_117 : decode prog_12_method_5_code 117 = .ok (.ireturn, 1) := by decide +kernel
theorem pn_13 : plainName "com/example/zorgbrug/zorgbrug/fhir/Version" = true := by first | (simp [plainName, overriddenIn]; done) | decide +kernel
theorem ef_rCT (m : MethodId) (a1 : Addr) (a2 : Addr) : entryFrame m #[(.ref a1), (.ref a2)] 5 = mkF m 0 #[.val (.ref a1), .val (.ref a2), .unset, .unset, .unset] [] := by first | (simp [entryFrame, mkF, argsToLocals, Value.category]; done) | rfl
def QrCT (Z : State) (a1 : Addr) (a2 : Addr) (x0 : Int64) (x1 : Int64) (x2 : Int64) (y0 : Int64) (y1 : Int64) (y2 : Int64) (el : Addr) (ee : Addr) (ke : ClassId) (h0 : Heap) (n0 : Nat) (v : Option Value) (h : Heap) (L : List Loc) : Prop := ∃ z : Int32, (z = 0 ↔ (x0 = y0 ∧ x1 = y1 ∧ x2 = y2)) ∧ v = some (.int z) ∧ Fr n0 L ∧ h = h0
set_option maxRecDepth 65536 in
set_option maxHeartbeats 40000000 in
theorem rCT (l : Launch) (Z : State) (a0 : Array Value) (hw : ∀ d ∈ tables_1, d.before a0 Z = true) (ws : List Jvm.Cond) (a1 : Addr) (a2 : Addr) (x0 : Int64) (x1 : Int64) (x2 : Int64) (y0 : Int64) (y1 : Int64) (y2 : Int64) (el : Addr) (ee : Addr) (ke : ClassId) (h0 : Heap) (n0 : Nat) (Z0 : n0 ≤ h0.size) (PX0 : Fld Z h0 a1 "com/example/zorgbrug/zorgbrug/fhir/Version" "major" "J" (.long x0)) (PX1 : Fld Z h0 a1 "com/example/zorgbrug/zorgbrug/fhir/Version" "minor" "J" (.long x1)) (PX2 : Fld Z h0 a1 "com/example/zorgbrug/zorgbrug/fhir/Version" "patch" "J" (.long x2)) (PY0 : Fld Z h0 a2 "com/example/zorgbrug/zorgbrug/fhir/Version" "major" "J" (.long y0)) (PY1 : Fld Z h0 a2 "com/example/zorgbrug/zorgbrug/fhir/Version" "minor" "J" (.long y1)) (PY2 : Fld Z h0 a2 "com/example/zorgbrug/zorgbrug/fhir/Version" "patch" "J" (.long y2)) (PX3 : Fld Z h0 a1 "com/example/zorgbrug/zorgbrug/fhir/Version" "preRelease" "Ljava/util/List;" (.ref el)) (PY3 : Fld Z h0 a2 "com/example/zorgbrug/zorgbrug/fhir/Version" "preRelease" "Ljava/util/List;" (.ref el)) (X00 : Old Z n0 h0) (O_EL : Exa Z Z.heap el "java/util/ImmutableCollections$ListN") (O_FL : Fld Z Z.heap el "java/util/ImmutableCollections$ListN" "elements" "[Ljava/lang/Object;" (.ref ee)) (O_AE : Arv Z Z.heap ee ke (.object "java/lang/Object") (0 : Int32) [] .null) :
    MetFree l (⟨"com/example/zorgbrug/zorgbrug/fhir/Version", "compareTo", "(Lcom/example/zorgbrug/zorgbrug/fhir/Version;)I"⟩ : MethodName) (head1 (Jvm.Cond.code (⟨"com/example/zorgbrug/zorgbrug/fhir/Version", "compareTo", "(Lcom/example/zorgbrug/zorgbrug/fhir/Version;)I"⟩ : MethodName) prog_12_method_5_code 5 (some .int) :: ws) ({ frames := 1, cells := 0, slots := 0, locals := 15 } : Room)) (fun a U => a = #[(.ref a1), (.ref a2)] ∧ Z.Warmed39 U.vm ∧ U.heap = h0) (fun _ _ _ _ _ => True) (fun _ U o U' => ∃ v L, o = .returned v ∧ QrCT Z a1 a2 x0 x1 x2 y0 y1 y2 el ee ke h0 n0 v U'.heap L ∧ FrameEnd U o U' L ({ frames := 1, cells := 0, slots := 0, locals := 15 } : Room).cells ({ frames := 1, cells := 0, slots := 0, locals := 15 } : Room).slots) := by
  refine MetFree.of_bodySF (plainFor_of_name pn_13) hisR ?_
  intro p e s m args below meth c s₁ Bd hml0 hP hK
  obtain ⟨rfl, hZ, hh⟩ := hP
  have hx := Bd.exec
  have hby := Bd.bytes
  have hml : c.maxLocals = 5 := hml0
  have hown : s.vm.findClass "com/example/zorgbrug/zorgbrug/fhir/Version" = some m.cls := findClass_of_methodNamed Bd.named
  have hnm := (name_of_methodNamed Bd.named Bd.method).1
  have X0 : Stand p l e ({ frames := 1, cells := 0, slots := 0, locals := 15 } : Room) s m #[(.ref a1), (.ref a2)] below meth c s₁ [] 0 0 := Stand.of_body Bd
  have e0 : s₁.heap = h0 := by rw [← hh, Bd.state]; rfl
  have N0 := Fr.nil n0
  have pre0 : ∀ t, Steps p.tables e below (s₁.setTop (mkF m 0 #[.val (.ref a1), .val (.ref a2), .unset, .unset, .unset] [])) t → Steps p.tables e below (s₁.setTop (entryFrame m #[(.ref a1), (.ref a2)] 5)) t := fun t k => castTop (ef_rCT m a1 a2) k
  obtain ⟨T1, X1, e1, st1⟩ := getF X0 hx hZ hown (host := "") (Or.inl (hw _ (own_w 67 rfl))) Via.refl e0 PX0 (g := (mkF m 1 #[.val (.ref a1), .val (.ref a2), .unset, .unset, .unset] [(.ref a1)])) rfl rfl (hb hby d13_1)
  obtain ⟨T2, X2, e2, st2⟩ := getF X1 hx hZ hown (host := "") (Or.inl (hw _ (own_w 67 rfl))) Via.refl e1 PY0 (g := (mkF m 5 #[.val (.ref a1), .val (.ref a2), .unset, .unset, .unset] [(.ref a2), (.long x0)])) rfl rfl (hb hby d13_5)
  by_cases hc9 : x0 = y0
  · obtain ⟨T3, X3, e3, st3⟩ := getF X2 hx hZ hown (host := "") (Or.inl (hw _ (own_w 69 rfl))) Via.refl e2 PX1 (g := (mkF m 25 #[.val (.ref a1), .val (.ref a2), .unset, .unset, .unset] [(.ref a1)])) rfl rfl (hb hby d13_25)
    obtain ⟨T4, X4, e4, st4⟩ := getF X3 hx hZ hown (host := "") (Or.inl (hw _ (own_w 69 rfl))) Via.refl e3 PY1 (g := (mkF m 29 #[.val (.ref a1), .val (.ref a2), .unset, .unset, .unset] [(.ref a2), (.long x1)])) rfl rfl (hb hby d13_29)
    by_cases hc33 : x1 = y1
    · obtain ⟨T5, X5, e5, st5⟩ := getF X4 hx hZ hown (host := "") (Or.inl (hw _ (own_w 71 rfl))) Via.refl e4 PX2 (g := (mkF m 49 #[.val (.ref a1), .val (.ref a2), .unset, .unset, .unset] [(.ref a1)])) rfl rfl (hb hby d13_49)
      obtain ⟨T6, X6, e6, st6⟩ := getF X5 hx hZ hown (host := "") (Or.inl (hw _ (own_w 71 rfl))) Via.refl e5 PY2 (g := (mkF m 53 #[.val (.ref a1), .val (.ref a2), .unset, .unset, .unset] [(.ref a2), (.long x2)])) rfl rfl (hb hby d13_53)
      by_cases hc57 : x2 = y2
      · obtain ⟨T7, X7, e7, st7⟩ := getF X6 hx hZ hown (host := "") (Or.inl (hw _ (own_w 73 rfl))) Via.refl e6 PX3 (g := (mkF m 73 #[.val (.ref a1), .val (.ref a2), .unset, .unset, .unset] [(.ref a1)])) rfl rfl (hb hby d13_73)
        obtain ⟨cq8, kz8, q8a, q8b, q8c⟩ := isOf hZ e7 (O_EL.ext X00.2)
        obtain ⟨_, _, ⟨T8, Lq8, kq8, nq8⟩, -, X8, ⟨Lc8, hQ8, lq8, yq8, zq8⟩, st8⟩ := X7.interfaceBack hx (xi := (⟨"java/util/List", "isEmpty", "()Z"⟩ : MethodName)) (y := (⟨"java/util/ImmutableCollections$ListN", "isEmpty", "()Z"⟩ : MethodName)) hown (mvT hZ (hw _ (own_w 219 rfl))) (mvT hZ (hw _ (own_w 220 rfl))) (mvT hZ (hw _ (own_w 221 rfl))) (mvT hZ (hw _ (own_w 222 rfl))) (mvT hZ (hw _ (own_w 223 rfl))) (mvT hZ (hw _ (own_w 224 rfl))) (mvT hZ (hw _ (own_w 225 rfl))) (mvT hZ (hw _ (own_w 93 rfl))) (by decide) (backOf (W := 0) (rNE l Z a0 hw [] el ee ke h0 n0 Z0 X00 O_FL O_AE) hZ (hw _ (own_w 227 rfl)) (hw _ (own_w 226 rfl)) (by decide) (by decide)) q8a q8b q8c (g := (mkF m 76 #[.val (.ref a1), .val (.ref a2), .unset, .unset, .unset] [(.ref el)])) rfl (by rw [hml]; rfl) (Steps.refl _) (argsL := []) (rest := []) (lenOf pd_12 rfl) rfl (by show 2 * 0 + _ ≤ _; exact Nat.le_of_eq rfl) (hb hby d13_76) (fun _ _ => ⟨rfl, e7, (by decide : 0 + 0 ≤ _), (by decide : 0 + 0 ≤ _)⟩)
        dsimp only [Pt.U, Pt.locs, Pt.cells, Pt.slots] at X8 lq8 yq8 zq8 st8 hQ8
        subst lq8 yq8 zq8
        obtain ⟨r8, hr8, rfl, N8q, e8⟩ := hQ8
        have N8 := Fr.app N0 N8q
        subst hr8
        obtain ⟨T9, X9, e9, st9⟩ := getF X8 hx hZ hown (host := "") (Or.inl (hw _ (own_w 73 rfl))) Via.refl e8 PX3 (g := (mkF m 97 #[.val (.ref a1), .val (.ref a2), .unset, .unset, .unset] [(.ref a1)])) rfl rfl (hb hby d13_97)
        obtain ⟨cq10, kz10, q10a, q10b, q10c⟩ := isOf hZ e9 (O_EL.ext X00.2)
        obtain ⟨_, _, ⟨T10, Lq10, kq10, nq10⟩, -, X10, ⟨Lc10, hQ10, lq10, yq10, zq10⟩, st10⟩ := X9.interfaceBack hx (xi := (⟨"java/util/List", "isEmpty", "()Z"⟩ : MethodName)) (y := (⟨"java/util/ImmutableCollections$ListN", "isEmpty", "()Z"⟩ : MethodName)) hown (mvT hZ (hw _ (own_w 219 rfl))) (mvT hZ (hw _ (own_w 220 rfl))) (mvT hZ (hw _ (own_w 221 rfl))) (mvT hZ (hw _ (own_w 222 rfl))) (mvT hZ (hw _ (own_w 223 rfl))) (mvT hZ (hw _ (own_w 224 rfl))) (mvT hZ (hw _ (own_w 225 rfl))) (mvT hZ (hw _ (own_w 93 rfl))) (by decide) (backOf (W := 0) (rNE l Z a0 hw [] el ee ke h0 n0 Z0 X00 O_FL O_AE) hZ (hw _ (own_w 227 rfl)) (hw _ (own_w 226 rfl)) (by decide) (by decide)) q10a q10b q10c (g := (mkF m 100 #[.val (.ref a1), .val (.ref a2), .unset, .unset, .unset] [(.ref el)])) rfl (by rw [hml]; rfl) (Steps.refl _) (argsL := []) (rest := []) (lenOf pd_12 rfl) rfl (by show 2 * 0 + _ ≤ _; exact Nat.le_of_eq rfl) (hb hby d13_100) (fun _ _ => ⟨rfl, e9, (by decide : 0 + 0 ≤ _), (by decide : 0 + 0 ≤ _)⟩)
        dsimp only [Pt.U, Pt.locs, Pt.cells, Pt.slots] at X10 lq10 yq10 zq10 st10 hQ10
        subst lq10 yq10 zq10
        obtain ⟨r10, hr10, rfl, N10q, e10⟩ := hQ10
        have N10 := Fr.app N8 N10q
        subst hr10
        obtain ⟨T11, X11, e11, st11⟩ := getF X10 hx hZ hown (host := "") (Or.inl (hw _ (own_w 73 rfl))) Via.refl e10 PY3 (g := (mkF m 106 #[.val (.ref a1), .val (.ref a2), .unset, .unset, .unset] [(.ref a2), (.int (1 : Int32))])) rfl rfl (hb hby d13_106)
        obtain ⟨cq12, kz12, q12a, q12b, q12c⟩ := isOf hZ e11 (O_EL.ext X00.2)
        obtain ⟨_, _, ⟨T12, Lq12, kq12, nq12⟩, -, X12, ⟨Lc12, hQ12, lq12, yq12, zq12⟩, st12⟩ := X11.interfaceBack hx (xi := (⟨"java/util/List", "isEmpty", "()Z"⟩ : MethodName)) (y := (⟨"java/util/ImmutableCollections$ListN", "isEmpty", "()Z"⟩ : MethodName)) hown (mvT hZ (hw _ (own_w 219 rfl))) (mvT hZ (hw _ (own_w 220 rfl))) (mvT hZ (hw _ (own_w 221 rfl))) (mvT hZ (hw _ (own_w 222 rfl))) (mvT hZ (hw _ (own_w 223 rfl))) (mvT hZ (hw _ (own_w 224 rfl))) (mvT hZ (hw _ (own_w 225 rfl))) (mvT hZ (hw _ (own_w 93 rfl))) (by decide) (backOf (W := 1) (rNE l Z a0 hw [] el ee ke h0 n0 Z0 X00 O_FL O_AE) hZ (hw _ (own_w 227 rfl)) (hw _ (own_w 226 rfl)) (by decide) (by decide)) q12a q12b q12c (g := (mkF m 109 #[.val (.ref a1), .val (.ref a2), .unset, .unset, .unset] [(.ref el), (.int (1 : Int32))])) rfl (by rw [hml]; rfl) (Steps.refl _) (argsL := []) (rest := [(.int (1 : Int32))]) (lenOf pd_12 rfl) rfl (by show 2 * 0 + _ ≤ _; exact Nat.le_of_eq rfl) (hb hby d13_109) (fun _ _ => ⟨rfl, e11, (by decide : 0 + 0 ≤ _), (by decide : 0 + 0 ≤ _)⟩)
        dsimp only [Pt.U, Pt.locs, Pt.cells, Pt.slots] at X12 lq12 yq12 zq12 st12 hQ12
        subst lq12 yq12 zq12
        obtain ⟨r12, hr12, rfl, N12q, e12⟩ := hQ12
        have N12 := Fr.app N10 N12q
        subst hr12
        obtain ⟨_, _, ⟨T13, Lq13, kq13, nq13⟩, -, X13, ⟨Lc13, hQ13, lq13, yq13, zq13⟩, st13⟩ := Jvm.LawKit.callS X12 hx (y := (⟨"java/lang/Boolean", "compare", "(ZZ)I"⟩ : MethodName)) hown (mvT hZ (hw _ (own_w 230 rfl))) (mvT hZ (hw _ (own_w 231 rfl))) (mvT hZ (hw _ (own_w 232 rfl))) (mvT hZ (hw _ (own_w 233 rfl))) (by decide) (backOf (W := 0) (rBc l Z a0 hw []   h0 n0 Z0 ) hZ (hw _ (own_w 233 rfl)) (hw _ (own_w 232 rfl)) (by decide) (by decide)) (g := (mkF m 114 #[.val (.ref a1), .val (.ref a2), .unset, .unset, .unset] [(.int (1 : Int32)), (.int (1 : Int32))])) rfl (by rw [hml]; rfl) (argsL := [(.int (1 : Int32)), (.int (1 : Int32))]) (rest := []) (lenOf pd_17 rfl) rfl (by show 2 * 0 + _ ≤ _; exact Nat.le_of_eq rfl) (hb hby d13_114) (fun _ _ => ⟨rfl, e12, (by decide : 0 + 0 ≤ _), (by decide : 0 + 0 ≤ _)⟩)
        dsimp only [Pt.U, Pt.locs, Pt.cells, Pt.slots] at X13 lq13 yq13 zq13 st13 hQ13
        subst lq13 yq13 zq13
        obtain ⟨r13, hr13, rfl, N13q, e13⟩ := hQ13
        have N13 := Fr.app N12 N13q
        subst hr13
        obtain ⟨fs, hr, hrun, hended, hW, hsame⟩ := X13.leave (v := some (.int (0 : Int32))) (fun h => by rw [Bd.returns] at h; cases h) (BodyLoose.notSynchronized Bd)
        refine ⟨_, _, pre0 _ ?_, hrun, hended, _, _, rfl, ?_, ⟨_, rfl⟩, hW, hsame.mono (by decide) (by decide)⟩
        · show Steps p.tables e below (s₁.setTop (mkF m 0 #[.val (.ref a1), .val (.ref a2), .unset, .unset, .unset] [])) _
          refine XS.aloadN X0.here hx rfl (hb hby d13_0) rfl rfl ?_
          refine st1 _ ?_
          refine XS.aloadN X1.here hx rfl (hb hby d13_4) rfl rfl ?_
          refine st2 _ ?_
          refine XS.lcmp X2.here hx rfl (hb hby d13_8) rfl ?_
          refine XS.ifYes X2.here hx rfl (pc0 := 9) (pc' := 24) rfl (hb hby d13_9) rfl ((if0 _ _).trans (teq (own_lceq hc9)).1) (by decide) (by decide) ?_
          refine XS.aloadN X2.here hx rfl (hb hby d13_24) rfl rfl ?_
          refine st3 _ ?_
          refine XS.aloadN X3.here hx rfl (hb hby d13_28) rfl rfl ?_
          refine st4 _ ?_
          refine XS.lcmp X4.here hx rfl (hb hby d13_32) rfl ?_
          refine XS.ifYes X4.here hx rfl (pc0 := 33) (pc' := 48) rfl (hb hby d13_33) rfl ((if0 _ _).trans (teq (own_lceq hc33)).1) (by decide) (by decide) ?_
          refine XS.aloadN X4.here hx rfl (hb hby d13_48) rfl rfl ?_
          refine st5 _ ?_
          refine XS.aloadN X5.here hx rfl (hb hby d13_52) rfl rfl ?_
          refine st6 _ ?_
          refine XS.lcmp X6.here hx rfl (hb hby d13_56) rfl ?_
          refine XS.ifYes X6.here hx rfl (pc0 := 57) (pc' := 72) rfl (hb hby d13_57) rfl ((if0 _ _).trans (teq (own_lceq hc57)).1) (by decide) (by decide) ?_
          refine XS.aloadN X6.here hx rfl (hb hby d13_72) rfl rfl ?_
          refine st7 _ ?_
          refine st8.trans ?_
          refine XS.ifYes X8.here hx rfl (pc0 := 81) (pc' := 96) rfl (hb hby d13_81) rfl ((if0 _ _).trans (feq (by decide)).2) (by decide) (by decide) ?_
          refine XS.aloadN X8.here hx rfl (hb hby d13_96) rfl rfl ?_
          refine st9 _ ?_
          refine st10.trans ?_
          refine XS.aloadN X10.here hx rfl (hb hby d13_105) rfl rfl ?_
          refine st11 _ ?_
          refine st12.trans ?_
          refine st13 _ ?_
          show Steps p.tables e below (T13.setTop (mkF m 117 #[.val (.ref a1), .val (.ref a2), .unset, .unset, .unset] [(.int (0 : Int32))])) _
          exact retI X13 hx Bd.returns (hb hby d13_117) hr
        · show QrCT Z a1 a2 x0 x1 x2 y0 y1 y2 el ee ke h0 n0 _ T13.heap _
          exact ⟨_, by first | (simp [*]; done) | (subst_vars; simp_all; done) | (simp_all; done) | (simp [*]; split <;> simp), rfl, N13, e13⟩
      · obtain ⟨T14, X14, e14, st14⟩ := getF X6 hx hZ hown (host := "") (Or.inl (hw _ (own_w 71 rfl))) Via.refl e6 PX2 (g := (mkF m 61 #[.val (.ref a1), .val (.ref a2), .unset, .unset, .unset] [(.ref a1)])) rfl rfl (hb hby d13_61)
        obtain ⟨T15, X15, e15, st15⟩ := getF X14 hx hZ hown (host := "") (Or.inl (hw _ (own_w 71 rfl))) Via.refl e14 PY2 (g := (mkF m 65 #[.val (.ref a1), .val (.ref a2), .unset, .unset, .unset] [(.ref a2), (.long x2)])) rfl rfl (hb hby d13_65)
        obtain ⟨_, _, ⟨T16, Lq16, kq16, nq16⟩, -, X16, ⟨Lc16, hQ16, lq16, yq16, zq16⟩, st16⟩ := Jvm.LawKit.callS X15 hx (y := (⟨"java/lang/Long", "compare", "(JJ)I"⟩ : MethodName)) hown (mvT hZ (hw _ (own_w 99 rfl))) (mvT hZ (hw _ (own_w 100 rfl))) (mvT hZ (hw _ (own_w 101 rfl))) (mvT hZ (hw _ (own_w 102 rfl))) (by decide) (backOf (W := 0) (rLc l Z a0 hw [] x2 y2  h0 n0 Z0 ) hZ (hw _ (own_w 102 rfl)) (hw _ (own_w 101 rfl)) (by decide) (by decide)) (g := (mkF m 68 #[.val (.ref a1), .val (.ref a2), .unset, .unset, .unset] [(.long y2), (.long x2)])) rfl (by rw [hml]; rfl) (argsL := [(.long x2), (.long y2)]) (rest := []) (lenOf pd_18 rfl) rfl (by show 2 * 0 + _ ≤ _; exact Nat.le_of_eq rfl) (hb hby d13_68) (fun _ _ => ⟨rfl, e15, (by decide : 0 + 0 ≤ _), (by decide : 0 + 0 ≤ _)⟩)
        dsimp only [Pt.U, Pt.locs, Pt.cells, Pt.slots] at X16 lq16 yq16 zq16 st16 hQ16
        subst lq16 yq16 zq16
        obtain ⟨r16, hr16, rfl, N16q, e16⟩ := hQ16
        have N16 := Fr.app N0 N16q
        obtain ⟨fs, hr, hrun, hended, hW, hsame⟩ := X16.leave (v := some (.int r16)) (fun h => by rw [Bd.returns] at h; cases h) (BodyLoose.notSynchronized Bd)
        refine ⟨_, _, pre0 _ ?_, hrun, hended, _, _, rfl, ?_, ⟨_, rfl⟩, hW, hsame.mono (by decide) (by decide)⟩
        · show Steps p.tables e below (s₁.setTop (mkF m 0 #[.val (.ref a1), .val (.ref a2), .unset, .unset, .unset] [])) _
          refine XS.aloadN X0.here hx rfl (hb hby d13_0) rfl rfl ?_
          refine st1 _ ?_
          refine XS.aloadN X1.here hx rfl (hb hby d13_4) rfl rfl ?_
          refine st2 _ ?_
          refine XS.lcmp X2.here hx rfl (hb hby d13_8) rfl ?_
          refine XS.ifYes X2.here hx rfl (pc0 := 9) (pc' := 24) rfl (hb hby d13_9) rfl ((if0 _ _).trans (teq (own_lceq hc9)).1) (by decide) (by decide) ?_
          refine XS.aloadN X2.here hx rfl (hb hby d13_24) rfl rfl ?_
          refine st3 _ ?_
          refine XS.aloadN X3.here hx rfl (hb hby d13_28) rfl rfl ?_
          refine st4 _ ?_
          refine XS.lcmp X4.here hx rfl (hb hby d13_32) rfl ?_
          refine XS.ifYes X4.here hx rfl (pc0 := 33) (pc' := 48) rfl (hb hby d13_33) rfl ((if0 _ _).trans (teq (own_lceq hc33)).1) (by decide) (by decide) ?_
          refine XS.aloadN X4.here hx rfl (hb hby d13_48) rfl rfl ?_
          refine st5 _ ?_
          refine XS.aloadN X5.here hx rfl (hb hby d13_52) rfl rfl ?_
          refine st6 _ ?_
          refine XS.lcmp X6.here hx rfl (hb hby d13_56) rfl ?_
          refine XS.ifNo X6.here hx rfl (hb hby d13_57) rfl ((if0 _ _).trans (feq (own_lcne hc57)).1) ?_
          refine XS.aloadN X6.here hx rfl (hb hby d13_60) rfl rfl ?_
          refine st14 _ ?_
          refine XS.aloadN X14.here hx rfl (hb hby d13_64) rfl rfl ?_
          refine st15 _ ?_
          refine st16 _ ?_
          show Steps p.tables e below (T16.setTop (mkF m 71 #[.val (.ref a1), .val (.ref a2), .unset, .unset, .unset] [(.int r16)])) _
          exact retI X16 hx Bd.returns (hb hby d13_71) hr
        · show QrCT Z a1 a2 x0 x1 x2 y0 y1 y2 el ee ke h0 n0 _ T16.heap _
          exact ⟨_, by first | (simp [*]; done) | (subst_vars; simp_all; done) | (simp_all; done) | (simp [*]; split <;> simp), rfl, N16, e16⟩
    · obtain ⟨T17, X17, e17, st17⟩ := getF X4 hx hZ hown (host := "") (Or.inl (hw _ (own_w 69 rfl))) Via.refl e4 PX1 (g := (mkF m 37 #[.val (.ref a1), .val (.ref a2), .unset, .unset, .unset] [(.ref a1)])) rfl rfl (hb hby d13_37)
      obtain ⟨T18, X18, e18, st18⟩ := getF X17 hx hZ hown (host := "") (Or.inl (hw _ (own_w 69 rfl))) Via.refl e17 PY1 (g := (mkF m 41 #[.val (.ref a1), .val (.ref a2), .unset, .unset, .unset] [(.ref a2), (.long x1)])) rfl rfl (hb hby d13_41)
      obtain ⟨_, _, ⟨T19, Lq19, kq19, nq19⟩, -, X19, ⟨Lc19, hQ19, lq19, yq19, zq19⟩, st19⟩ := Jvm.LawKit.callS X18 hx (y := (⟨"java/lang/Long", "compare", "(JJ)I"⟩ : MethodName)) hown (mvT hZ (hw _ (own_w 99 rfl))) (mvT hZ (hw _ (own_w 100 rfl))) (mvT hZ (hw _ (own_w 101 rfl))) (mvT hZ (hw _ (own_w 102 rfl))) (by decide) (backOf (W := 0) (rLc l Z a0 hw [] x1 y1  h0 n0 Z0 ) hZ (hw _ (own_w 102 rfl)) (hw _ (own_w 101 rfl)) (by decide) (by decide)) (g := (mkF m 44 #[.val (.ref a1), .val (.ref a2), .unset, .unset, .unset] [(.long y1), (.long x1)])) rfl (by rw [hml]; rfl) (argsL := [(.long x1), (.long y1)]) (rest := []) (lenOf pd_18 rfl) rfl (by show 2 * 0 + _ ≤ _; exact Nat.le_of_eq rfl) (hb hby d13_44) (fun _ _ => ⟨rfl, e18, (by decide : 0 + 0 ≤ _), (by decide : 0 + 0 ≤ _)⟩)
      dsimp only [Pt.U, Pt.locs, Pt.cells, Pt.slots] at X19 lq19 yq19 zq19 st19 hQ19
      subst lq19 yq19 zq19
      obtain ⟨r19, hr19, rfl, N19q, e19⟩ := hQ19
      have N19 := Fr.app N0 N19q
      obtain ⟨fs, hr, hrun, hended, hW, hsame⟩ := X19.leave (v := some (.int r19)) (fun h => by rw [Bd.returns] at h; cases h) (BodyLoose.notSynchronized Bd)
      refine ⟨_, _, pre0 _ ?_, hrun, hended, _, _, rfl, ?_, ⟨_, rfl⟩, hW, hsame.mono (by decide) (by decide)⟩
      · show Steps p.tables e below (s₁.setTop (mkF m 0 #[.val (.ref a1), .val (.ref a2), .unset, .unset, .unset] [])) _
        refine XS.aloadN X0.here hx rfl (hb hby d13_0) rfl rfl ?_
        refine st1 _ ?_
        refine XS.aloadN X1.here hx rfl (hb hby d13_4) rfl rfl ?_
        refine st2 _ ?_
        refine XS.lcmp X2.here hx rfl (hb hby d13_8) rfl ?_
        refine XS.ifYes X2.here hx rfl (pc0 := 9) (pc' := 24) rfl (hb hby d13_9) rfl ((if0 _ _).trans (teq (own_lceq hc9)).1) (by decide) (by decide) ?_
        refine XS.aloadN X2.here hx rfl (hb hby d13_24) rfl rfl ?_
        refine st3 _ ?_
        refine XS.aloadN X3.here hx rfl (hb hby d13_28) rfl rfl ?_
        refine st4 _ ?_
        refine XS.lcmp X4.here hx rfl (hb hby d13_32) rfl ?_
        refine XS.ifNo X4.here hx rfl (hb hby d13_33) rfl ((if0 _ _).trans (feq (own_lcne hc33)).1) ?_
        refine XS.aloadN X4.here hx rfl (hb hby d13_36) rfl rfl ?_
        refine st17 _ ?_
        refine XS.aloadN X17.here hx rfl (hb hby d13_40) rfl rfl ?_
        refine st18 _ ?_
        refine st19 _ ?_
        show Steps p.tables e below (T19.setTop (mkF m 47 #[.val (.ref a1), .val (.ref a2), .unset, .unset, .unset] [(.int r19)])) _
        exact retI X19 hx Bd.returns (hb hby d13_47) hr
      · show QrCT Z a1 a2 x0 x1 x2 y0 y1 y2 el ee ke h0 n0 _ T19.heap _
        exact ⟨_, by first | (simp [*]; done) | (subst_vars; simp_all; done) | (simp_all; done) | (simp [*]; split <;> simp), rfl, N19, e19⟩
  · obtain ⟨T20, X20, e20, st20⟩ := getF X2 hx hZ hown (host := "") (Or.inl (hw _ (own_w 67 rfl))) Via.refl e2 PX0 (g := (mkF m 13 #[.val (.ref a1), .val (.ref a2), .unset, .unset, .unset] [(.ref a1)])) rfl rfl (hb hby d13_13)
    obtain ⟨T21, X21, e21, st21⟩ := getF X20 hx hZ hown (host := "") (Or.inl (hw _ (own_w 67 rfl))) Via.refl e20 PY0 (g := (mkF m 17 #[.val (.ref a1), .val (.ref a2), .unset, .unset, .unset] [(.ref a2), (.long x0)])) rfl rfl (hb hby d13_17)
    obtain ⟨_, _, ⟨T22, Lq22, kq22, nq22⟩, -, X22, ⟨Lc22, hQ22, lq22, yq22, zq22⟩, st22⟩ := Jvm.LawKit.callS X21 hx (y := (⟨"java/lang/Long", "compare", "(JJ)I"⟩ : MethodName)) hown (mvT hZ (hw _ (own_w 99 rfl))) (mvT hZ (hw _ (own_w 100 rfl))) (mvT hZ (hw _ (own_w 101 rfl))) (mvT hZ (hw _ (own_w 102 rfl))) (by decide) (backOf (W := 0) (rLc l Z a0 hw [] x0 y0  h0 n0 Z0 ) hZ (hw _ (own_w 102 rfl)) (hw _ (own_w 101 rfl)) (by decide) (by decide)) (g := (mkF m 20 #[.val (.ref a1), .val (.ref a2), .unset, .unset, .unset] [(.long y0), (.long x0)])) rfl (by rw [hml]; rfl) (argsL := [(.long x0), (.long y0)]) (rest := []) (lenOf pd_18 rfl) rfl (by show 2 * 0 + _ ≤ _; exact Nat.le_of_eq rfl) (hb hby d13_20) (fun _ _ => ⟨rfl, e21, (by decide : 0 + 0 ≤ _), (by decide : 0 + 0 ≤ _)⟩)
    dsimp only [Pt.U, Pt.locs, Pt.cells, Pt.slots] at X22 lq22 yq22 zq22 st22 hQ22
    subst lq22 yq22 zq22
    obtain ⟨r22, hr22, rfl, N22q, e22⟩ := hQ22
    have N22 := Fr.app N0 N22q
    obtain ⟨fs, hr, hrun, hended, hW, hsame⟩ := X22.leave (v := some (.int r22)) (fun h => by rw [Bd.returns] at h; cases h) (BodyLoose.notSynchronized Bd)
    refine ⟨_, _, pre0 _ ?_, hrun, hended, _, _, rfl, ?_, ⟨_, rfl⟩, hW, hsame.mono (by decide) (by decide)⟩
    · show Steps p.tables e below (s₁.setTop (mkF m 0 #[.val (.ref a1), .val (.ref a2), .unset, .unset, .unset] [])) _
      refine XS.aloadN X0.here hx rfl (hb hby d13_0) rfl rfl ?_
      refine st1 _ ?_
      refine XS.aloadN X1.here hx rfl (hb hby d13_4) rfl rfl ?_
      refine st2 _ ?_
      refine XS.lcmp X2.here hx rfl (hb hby d13_8) rfl ?_
      refine XS.ifNo X2.here hx rfl (hb hby d13_9) rfl ((if0 _ _).trans (feq (own_lcne hc9)).1) ?_
      refine XS.aloadN X2.here hx rfl (hb hby d13_12) rfl rfl ?_
      refine st20 _ ?_
      refine XS.aloadN X20.here hx rfl (hb hby d13_16) rfl rfl ?_
      refine st21 _ ?_
      refine st22 _ ?_
      show Steps p.tables e below (T22.setTop (mkF m 23 #[.val (.ref a1), .val (.ref a2), .unset, .unset, .unset] [(.int r22)])) _
      exact retI X22 hx Bd.returns (hb hby d13_23) hr
    · show QrCT Z a1 a2 x0 x1 x2 y0 y1 y2 el ee ke h0 n0 _ T22.heap _
      exact ⟨_, by first | (simp [*]; done) | (subst_vars; simp_all; done) | (simp_all; done) | (simp [*]; split <;> simp), rfl, N22, e22⟩
theorem own_c255 (y : Int32) : ¬ (255 : Int32) < ((y &&& (255 : Int32)).toUInt32.toUInt16.toUInt32.toInt32) := by
  rw [Int32.lt_iff_toInt_lt]
  have a := c_i2c (y &&& (255 : Int32)); have b := c_and y (255 : Int32) (by decide); have e : (255 : Int32).toInt = 255 := rfl
  omega
theorem own_arr0 {Z : State} {args : Array Value} {t : Term} {a : Addr} {ty : FieldType} {dv : Value} (hf : Fit Z) (ev : t.eval args Z none [] Z = some (.ref a)) (hA : (Jvm.Cond.arrayOf t ty).value args Z none Z [] = some true) (hL : (Jvm.Cond.eq (.length t) (.int 0)).value args Z none Z [] = some true) : ∃ k, Arv Z Z.heap a k ty (0 : Int32) [] dv := by
  obtain ⟨cl, A⟩ := Arr.start ev hA
  have l := own_eqint hL
  have hs : cl.slots.size < 2 ^ 31 ∧ cl.slots.size.toInt32 = 0 := by
    have ha := A.fin (Vm.Alike.refl _)
    simp only [Term.eval, ev, Option.bind_eq_bind, Option.bind_some, ha] at l
    split at l
    · rename_i q; exact ⟨q, by simpa using l⟩
    · cases l
  exact ⟨_, Arv.start hf A hs.1 hs.2 (by decide) rfl trivial⟩

theorem pd_19 : parseMethodDescriptor "(Lcom/example/zorgbrug/zorgbrug/fhir/Version;)Z" = some ⟨[(.object "com/example/zorgbrug/zorgbrug/fhir/Version")], some .boolean⟩ := by decide +kernel
theorem pd_20 : parseMethodDescriptor "(JJJ)Lcom/example/zorgbrug/zorgbrug/fhir/Version;" = some ⟨[.long, .long, .long], some (.object "com/example/zorgbrug/zorgbrug/fhir/Version")⟩ := by decide +kernel
theorem pd_21 : parseMethodDescriptor "(Lcom/example/zorgbrug/zorgbrug/fhir/Version;)I" = some ⟨[(.object "com/example/zorgbrug/zorgbrug/fhir/Version")], some .int⟩ := by decide +kernel
theorem pd_22 : parseMethodDescriptor "(C)Ljava/lang/String;" = some ⟨[.char], some (.object "java/lang/String")⟩ := by decide +kernel
theorem pd_23 : parseMethodDescriptor "(Ljava/lang/Object;)Z" = some ⟨[(.object "java/lang/Object")], some .boolean⟩ := by decide +kernel
theorem pn_0 : plainName "com/example/zorgbrug/zorgbrug/fhir/VersionSameReleasePinLaw" = true := by first | (simp [plainName, overriddenIn]; done) | decide +kernel
theorem ef_rm0 (m : MethodId) (q1 : Int64) (q2 : Int64) (q3 : Int64) (q4 : Int64) (p5 : Int32) (p6 : Int32) : entryFrame m #[(.long q1), (.long q2), (.long q3), (.long q4), (.int p5), (.int p6)] maxLocals = mkF m 0 #[.val (.long q1), .second, .val (.long q2), .second, .val (.long q3), .second, .val (.long q4), .second, .val (.int p5), .val (.int p6), .unset, .unset, .unset, .unset, .unset, .unset, .unset, .unset, .unset, .unset, .unset, .unset, .unset] [] := by first | (simp [entryFrame, mkF, argsToLocals, Value.category, maxLocals]; done) | rfl
def Qrm0 (Z : State) (q1 : Int64) (q2 : Int64) (q3 : Int64) (q4 : Int64) (p5 : Int32) (p6 : Int32) (d0 : Addr) (kd : ClassId) (el : Addr) (ee : Addr) (ke : ClassId) (eo : Addr) (G1 : Int32) (mr : Addr) (h0 : Heap) (n0 : Nat) (v : Option Value) (h : Heap) (L : List Loc) : Prop := v = some (.int 1) ∧ Fr n0 L
set_option maxRecDepth 65536 in
set_option maxHeartbeats 40000000 in
theorem rm0 (l : Launch) (Z : State) (a0 : Array Value) (hw : ∀ d ∈ tables_1, d.before a0 Z = true) (ws : List Jvm.Cond) (q1 : Int64) (q2 : Int64) (q3 : Int64) (q4 : Int64) (p5 : Int32) (p6 : Int32) (d0 : Addr) (kd : ClassId) (el : Addr) (ee : Addr) (ke : ClassId) (eo : Addr) (G1 : Int32) (mr : Addr) (h0 : Heap) (n0 : Nat) (Z0 : n0 ≤ h0.size) (O_D : Sta Z Z.heap "java/util/ArrayList" "DEFAULTCAPACITY_EMPTY_ELEMENTDATA" "[Ljava/lang/Object;" (.ref d0)) (O_AD : Arv Z Z.heap d0 kd (.object "java/lang/Object") (0 : Int32) [] .null) (O_L : Sta Z Z.heap "java/util/ImmutableCollections" "EMPTY_LIST" "Ljava/util/ImmutableCollections$ListN;" (.ref el)) (O_EL : Exa Z Z.heap el "java/util/ImmutableCollections$ListN") (O_FN : Fld Z Z.heap el "java/util/ImmutableCollections$ListN" "allowNulls" "Z" (.int (0 : Int32))) (O_FL : Fld Z Z.heap el "java/util/ImmutableCollections$ListN" "elements" "[Ljava/lang/Object;" (.ref ee)) (O_AE : Arv Z Z.heap ee ke (.object "java/lang/Object") (0 : Int32) [] .null) (O_E : Sta Z Z.heap "java/util/ImmutableCollections" "EMPTY" "Ljava/lang/Object;" (.ref eo)) (O_2 : Sta Z Z.heap "java/lang/String" "COMPACT_STRINGS" "Z" (.int G1)) (P5 : ¬ (G1 = (0 : Int32))) (M : Mir Z "[Ljava/lang/Object;" mr) (X00 : Old Z n0 h0) :
    MetFree l x (head1 (Jvm.Cond.code x code maxLocals ret :: ws) room_1) (fun a U => a = #[(.long q1), (.long q2), (.long q3), (.long q4), (.int p5), (.int p6)] ∧ Z.Warmed39 U.vm ∧ U.heap = h0) (fun _ _ _ _ _ => True) (fun _ U o U' => ∃ v L, o = .returned v ∧ Qrm0 Z q1 q2 q3 q4 p5 p6 d0 kd el ee ke eo G1 mr h0 n0 v U'.heap L ∧ FrameEnd U o U' L room_1.cells room_1.slots) := by
  refine MetFree.of_bodySF (plainFor_of_name pn_0) hisR ?_
  intro p e s m args below meth c s₁ Bd hml0 hP hK
  obtain ⟨rfl, hZ, hh⟩ := hP
  have hx := Bd.exec
  have hby := Bd.bytes
  have hml : c.maxLocals = 23 := hml0
  have hown : s.vm.findClass "com/example/zorgbrug/zorgbrug/fhir/VersionSameReleasePinLaw" = some m.cls := findClass_of_methodNamed Bd.named
  have hnm := (name_of_methodNamed Bd.named Bd.method).1
  have X0 : Stand p l e room_1 s m #[(.long q1), (.long q2), (.long q3), (.long q4), (.int p5), (.int p6)] below meth c s₁ [] 0 0 := Stand.of_body Bd
  have e0 : s₁.heap = h0 := by rw [← hh, Bd.state]; rfl
  have N0 := Fr.nil n0
  have pre0 : ∀ t, Steps p.tables e below (s₁.setTop (mkF m 0 #[.val (.long q1), .second, .val (.long q2), .second, .val (.long q3), .second, .val (.long q4), .second, .val (.int p5), .val (.int p6), .unset, .unset, .unset, .unset, .unset, .unset, .unset, .unset, .unset, .unset, .unset, .unset, .unset] [])) t → Steps p.tables e below (s₁.setTop (entryFrame m #[(.long q1), (.long q2), (.long q3), (.long q4), (.int p5), (.int p6)] maxLocals)) t := fun t k => castTop (ef_rm0 m q1 q2 q3 q4 p5 p6) k
  obtain ⟨b1, hb1⟩ : ∃ z : Int64, z = (if (p5 &&& (1 : Int32)) = (0 : Int32) then q1 else q4) := ⟨_, rfl⟩
  have sg1 : ∀ tg0, Steps p.tables e below (s₁.setTop (mkF m 13 #[.val (.long q1), .second, .val (.long q2), .second, .val (.long q3), .second, .val (.long q4), .second, .val (.int p5), .val (.int p6), .unset, .unset, .unset, .unset, .unset, .unset, .unset, .unset, .unset, .unset, .unset, .unset, .unset] [(.long b1)])) tg0 → Steps p.tables e below (s₁.setTop (mkF m 0 #[.val (.long q1), .second, .val (.long q2), .second, .val (.long q3), .second, .val (.long q4), .second, .val (.int p5), .val (.int p6), .unset, .unset, .unset, .unset, .unset, .unset, .unset, .unset, .unset, .unset, .unset, .unset, .unset] [])) tg0 := by
    intro tg0 kt
    by_cases hj1_4 : (p5 &&& (1 : Int32)) = (0 : Int32)
    · rw [if_pos hj1_4] at hb1
      rw [hb1] at kt
      show Steps p.tables e below (s₁.setTop (mkF m 0 #[.val (.long q1), .second, .val (.long q2), .second, .val (.long q3), .second, .val (.long q4), .second, .val (.int p5), .val (.int p6), .unset, .unset, .unset, .unset, .unset, .unset, .unset, .unset, .unset, .unset, .unset, .unset, .unset] [])) _
      refine XS.iload X0.here hx rfl (hb hby at_0) rfl ?_
      refine XS.iconst X0.here hx rfl (hb hby at_2) ?_
      refine XS.iand X0.here hx rfl (hb hby at_3) rfl ?_
      refine XS.ifYes X0.here hx rfl (pc0 := 4) (pc' := 12) rfl (hb hby at_4) rfl ((if0 _ _).trans (teq hj1_4).1) (by decide) (by decide) ?_
      refine XS.lloadN X0.here hx rfl (hb hby at_12) rfl ?_
      exact kt
    · rw [if_neg hj1_4] at hb1
      rw [hb1] at kt
      show Steps p.tables e below (s₁.setTop (mkF m 0 #[.val (.long q1), .second, .val (.long q2), .second, .val (.long q3), .second, .val (.long q4), .second, .val (.int p5), .val (.int p6), .unset, .unset, .unset, .unset, .unset, .unset, .unset, .unset, .unset, .unset, .unset, .unset, .unset] [])) _
      refine XS.iload X0.here hx rfl (hb hby at_0) rfl ?_
      refine XS.iconst X0.here hx rfl (hb hby at_2) ?_
      refine XS.iand X0.here hx rfl (hb hby at_3) rfl ?_
      refine XS.ifNo X0.here hx rfl (hb hby at_4) rfl ((if0 _ _).trans (feq hj1_4).1) ?_
      refine XS.lload X0.here hx rfl (hb hby at_7) rfl ?_
      refine XS.goto X0.here hx rfl (pc0 := 9) (pc' := 13) rfl (hb hby at_9) (by decide) (by decide) ?_
      exact kt
  obtain ⟨b2, hb2⟩ : ∃ z : Int64, z = (if (p5 &&& (2 : Int32)) = (0 : Int32) then q2 else q4) := ⟨_, rfl⟩
  have sg2 : ∀ tg0, Steps p.tables e below (s₁.setTop (mkF m 28 #[.val (.long q1), .second, .val (.long q2), .second, .val (.long q3), .second, .val (.long q4), .second, .val (.int p5), .val (.int p6), .val (.long b1), .second, .unset, .unset, .unset, .unset, .unset, .unset, .unset, .unset, .unset, .unset, .unset] [(.long b2)])) tg0 → Steps p.tables e below (s₁.setTop (mkF m 15 #[.val (.long q1), .second, .val (.long q2), .second, .val (.long q3), .second, .val (.long q4), .second, .val (.int p5), .val (.int p6), .val (.long b1), .second, .unset, .unset, .unset, .unset, .unset, .unset, .unset, .unset, .unset, .unset, .unset] [])) tg0 := by
    intro tg0 kt
    by_cases hj2_19 : (p5 &&& (2 : Int32)) = (0 : Int32)
    · rw [if_pos hj2_19] at hb2
      rw [hb2] at kt
      show Steps p.tables e below (s₁.setTop (mkF m 15 #[.val (.long q1), .second, .val (.long q2), .second, .val (.long q3), .second, .val (.long q4), .second, .val (.int p5), .val (.int p6), .val (.long b1), .second, .unset, .unset, .unset, .unset, .unset, .unset, .unset, .unset, .unset, .unset, .unset] [])) _
      refine XS.iload X0.here hx rfl (hb hby at_15) rfl ?_
      refine XS.iconst X0.here hx rfl (hb hby at_17) ?_
      refine XS.iand X0.here hx rfl (hb hby at_18) rfl ?_
      refine XS.ifYes X0.here hx rfl (pc0 := 19) (pc' := 27) rfl (hb hby at_19) rfl ((if0 _ _).trans (teq hj2_19).1) (by decide) (by decide) ?_
      refine XS.lloadN X0.here hx rfl (hb hby at_27) rfl ?_
      exact kt
    · rw [if_neg hj2_19] at hb2
      rw [hb2] at kt
      show Steps p.tables e below (s₁.setTop (mkF m 15 #[.val (.long q1), .second, .val (.long q2), .second, .val (.long q3), .second, .val (.long q4), .second, .val (.int p5), .val (.int p6), .val (.long b1), .second, .unset, .unset, .unset, .unset, .unset, .unset, .unset, .unset, .unset, .unset, .unset] [])) _
      refine XS.iload X0.here hx rfl (hb hby at_15) rfl ?_
      refine XS.iconst X0.here hx rfl (hb hby at_17) ?_
      refine XS.iand X0.here hx rfl (hb hby at_18) rfl ?_
      refine XS.ifNo X0.here hx rfl (hb hby at_19) rfl ((if0 _ _).trans (feq hj2_19).1) ?_
      refine XS.lload X0.here hx rfl (hb hby at_22) rfl ?_
      refine XS.goto X0.here hx rfl (pc0 := 24) (pc' := 28) rfl (hb hby at_24) (by decide) (by decide) ?_
      exact kt
  obtain ⟨b3, hb3⟩ : ∃ z : Int64, z = (if (p5 &&& (4 : Int32)) = (0 : Int32) then q3 else q4) := ⟨_, rfl⟩
  have sg3 : ∀ tg0, Steps p.tables e below (s₁.setTop (mkF m 44 #[.val (.long q1), .second, .val (.long q2), .second, .val (.long q3), .second, .val (.long q4), .second, .val (.int p5), .val (.int p6), .val (.long b1), .second, .val (.long b2), .second, .unset, .unset, .unset, .unset, .unset, .unset, .unset, .unset, .unset] [(.long b3)])) tg0 → Steps p.tables e below (s₁.setTop (mkF m 30 #[.val (.long q1), .second, .val (.long q2), .second, .val (.long q3), .second, .val (.long q4), .second, .val (.int p5), .val (.int p6), .val (.long b1), .second, .val (.long b2), .second, .unset, .unset, .unset, .unset, .unset, .unset, .unset, .unset, .unset] [])) tg0 := by
    intro tg0 kt
    by_cases hj3_34 : (p5 &&& (4 : Int32)) = (0 : Int32)
    · rw [if_pos hj3_34] at hb3
      rw [hb3] at kt
      show Steps p.tables e below (s₁.setTop (mkF m 30 #[.val (.long q1), .second, .val (.long q2), .second, .val (.long q3), .second, .val (.long q4), .second, .val (.int p5), .val (.int p6), .val (.long b1), .second, .val (.long b2), .second, .unset, .unset, .unset, .unset, .unset, .unset, .unset, .unset, .unset] [])) _
      refine XS.iload X0.here hx rfl (hb hby at_30) rfl ?_
      refine XS.iconst X0.here hx rfl (hb hby at_32) ?_
      refine XS.iand X0.here hx rfl (hb hby at_33) rfl ?_
      refine XS.ifYes X0.here hx rfl (pc0 := 34) (pc' := 42) rfl (hb hby at_34) rfl ((if0 _ _).trans (teq hj3_34).1) (by decide) (by decide) ?_
      refine XS.lload X0.here hx rfl (hb hby at_42) rfl ?_
      exact kt
    · rw [if_neg hj3_34] at hb3
      rw [hb3] at kt
      show Steps p.tables e below (s₁.setTop (mkF m 30 #[.val (.long q1), .second, .val (.long q2), .second, .val (.long q3), .second, .val (.long q4), .second, .val (.int p5), .val (.int p6), .val (.long b1), .second, .val (.long b2), .second, .unset, .unset, .unset, .unset, .unset, .unset, .unset, .unset, .unset] [])) _
      refine XS.iload X0.here hx rfl (hb hby at_30) rfl ?_
      refine XS.iconst X0.here hx rfl (hb hby at_32) ?_
      refine XS.iand X0.here hx rfl (hb hby at_33) rfl ?_
      refine XS.ifNo X0.here hx rfl (hb hby at_34) rfl ((if0 _ _).trans (feq hj3_34).1) ?_
      refine XS.lload X0.here hx rfl (hb hby at_37) rfl ?_
      refine XS.goto X0.here hx rfl (pc0 := 39) (pc' := 44) rfl (hb hby at_39) (by decide) (by decide) ?_
      exact kt
  obtain ⟨T4, h4, X4, e4, E4, A4, D4, -, st4⟩ := newO X0 hx hZ hown (hw _ (own_w 0 rfl)) (hw _ (own_w 1 rfl)) (hw _ (own_w 2 rfl)) e0 (g := (mkF m 46 #[.val (.long q1), .second, .val (.long q2), .second, .val (.long q3), .second, .val (.long q4), .second, .val (.int p5), .val (.int p6), .val (.long b1), .second, .val (.long b2), .second, .val (.long b3), .second, .unset, .unset, .unset, .unset, .unset, .unset, .unset] [])) rfl (hb hby at_46) (by decide) (by decide)
  obtain ⟨b4o, g4⟩ : ∃ z, z = h0.size := ⟨_, rfl⟩
  have b4 : n0 ≤ b4o := Nat.le_trans Z0 (Nat.le_of_eq g4.symm)
  have ne5 : d0 ≠ b4o := Nat.ne_of_lt (Nat.lt_of_lt_of_le (O_AD.ext X00.2).lt (Nat.le_of_eq g4.symm))
  have ne6 : el ≠ b4o := Nat.ne_of_lt (Nat.lt_of_lt_of_le (O_EL.ext X00.2).lt (Nat.le_of_eq g4.symm))
  have ne7 : ee ≠ b4o := Nat.ne_of_lt (Nat.lt_of_lt_of_le (O_AE.ext X00.2).lt (Nat.le_of_eq g4.symm))
  rw [← g4] at A4 D4 st4
  have Z4 : n0 ≤ h4.size := Nat.le_trans Z0 E4.1
  have F4_22 : Fld Z h4 b4o "java/util/AbstractList" "modCount" "I" (.int (0 : Int32)) := D4 (Or.inl (hw _ (own_w 22 rfl))) (ty := .int) (by decide)
  have F4_25 : Fld Z h4 b4o "java/util/ArrayList" "elementData" "[Ljava/lang/Object;" .null := D4 (Or.inl (hw _ (own_w 25 rfl))) (ty := (.array (.object "java/lang/Object"))) (by decide)
  have F4_62 : Fld Z h4 b4o "java/util/ArrayList" "size" "I" (.int (0 : Int32)) := D4 (Or.inl (hw _ (own_w 62 rfl))) (ty := .int) (by decide)
  have f9 := (X00.ext E4)
  obtain ⟨_, _, ⟨T8, Lq8, kq8, nq8⟩, -, X8, ⟨Lc8, hQ8, lq8, yq8, zq8⟩, st8⟩ := X4.specialBack hx (y := (⟨"java/util/ArrayList", "<init>", "()V"⟩ : MethodName)) rfl hown (mvT hZ (hw _ (own_w 3 rfl))) (mvT hZ (hw _ (own_w 4 rfl))) (mvT hZ (hw _ (own_w 5 rfl))) (by decide) (backOf (W := 1) (rA1 l Z a0 hw [] b4o d0 h4 n0 Z4 A4 F4_22 F4_25 F4_62 b4 f9 O_D) hZ (hw _ (own_w 5 rfl)) (hw _ (own_w 2 rfl)) (by decide) (by decide)) (g := (mkF m 50 #[.val (.long q1), .second, .val (.long q2), .second, .val (.long q3), .second, .val (.long q4), .second, .val (.int p5), .val (.int p6), .val (.long b1), .second, .val (.long b2), .second, .val (.long b3), .second, .unset, .unset, .unset, .unset, .unset, .unset, .unset] [(.ref b4o), (.ref b4o)])) rfl (by rw [hml]; rfl) (Steps.refl _) (a := b4o) (argsL := []) (rest := [(.ref b4o)]) (lenOf pd_0 rfl) rfl (by show 2 * 0 + _ ≤ _; exact Nat.le_of_eq rfl) (hb hby at_50) (fun _ _ => ⟨rfl, e4, (by decide : 1 + 0 ≤ _), (by decide : 3 + 0 ≤ _)⟩)
  dsimp only [Pt.U, Pt.locs, Pt.cells, Pt.slots] at X8 lq8 yq8 zq8 st8 hQ8
  subst lq8 yq8 zq8
  obtain ⟨rfl, N8q, KC8, u8⟩ := hQ8
  have N8 := Fr.app N0 N8q
  have Z8 : n0 ≤ T8.heap.size := Nat.le_trans Z4 KC8.1
  obtain ⟨E8', FM8', FE8', FZ8'⟩ := u8
  by_cases hc59 : (p6 &&& (1 : Int32)) = (0 : Int32)
  · obtain ⟨T10, h10, X10, e10, E10, A10, D10, -, st10⟩ := newO X8 hx hZ hown (hw _ (own_w 0 rfl)) (hw _ (own_w 1 rfl)) (hw _ (own_w 2 rfl)) rfl (g := (mkF m 80 #[.val (.long q1), .second, .val (.long q2), .second, .val (.long q3), .second, .val (.long q4), .second, .val (.int p5), .val (.int p6), .val (.long b1), .second, .val (.long b2), .second, .val (.long b3), .second, .val (.ref b4o), .unset, .unset, .unset, .unset, .unset, .unset] [])) rfl (hb hby at_80) (by decide) (by decide)
    obtain ⟨b10o, g10⟩ : ∃ z, z = T8.heap.size := ⟨_, rfl⟩
    have b10 : n0 ≤ b10o := Nat.le_trans Z8 (Nat.le_of_eq g10.symm)
    have f11 := (f9.keep KC8 (allS b4 all0))
    have ne12 : d0 ≠ b10o := Nat.ne_of_lt (Nat.lt_of_lt_of_le (O_AD.ext f11.2).lt (Nat.le_of_eq g10.symm))
    have ne13 : el ≠ b10o := Nat.ne_of_lt (Nat.lt_of_lt_of_le (O_EL.ext f11.2).lt (Nat.le_of_eq g10.symm))
    have ne14 : ee ≠ b10o := Nat.ne_of_lt (Nat.lt_of_lt_of_le (O_AE.ext f11.2).lt (Nat.le_of_eq g10.symm))
    have ne15 : b4o ≠ b10o := Nat.ne_of_lt (Nat.lt_of_lt_of_le E8'.lt (Nat.le_of_eq g10.symm))
    rw [← g10] at A10 D10 st10
    have Z10 : n0 ≤ h10.size := Nat.le_trans Z8 E10.1
    have F10_22 : Fld Z h10 b10o "java/util/AbstractList" "modCount" "I" (.int (0 : Int32)) := D10 (Or.inl (hw _ (own_w 22 rfl))) (ty := .int) (by decide)
    have F10_25 : Fld Z h10 b10o "java/util/ArrayList" "elementData" "[Ljava/lang/Object;" .null := D10 (Or.inl (hw _ (own_w 25 rfl))) (ty := (.array (.object "java/lang/Object"))) (by decide)
    have F10_62 : Fld Z h10 b10o "java/util/ArrayList" "size" "I" (.int (0 : Int32)) := D10 (Or.inl (hw _ (own_w 62 rfl))) (ty := .int) (by decide)
    have f17 := (f11.ext E10)
    obtain ⟨_, _, ⟨T16, Lq16, kq16, nq16⟩, -, X16, ⟨Lc16, hQ16, lq16, yq16, zq16⟩, st16⟩ := X10.specialBack hx (y := (⟨"java/util/ArrayList", "<init>", "()V"⟩ : MethodName)) rfl hown (mvT hZ (hw _ (own_w 3 rfl))) (mvT hZ (hw _ (own_w 4 rfl))) (mvT hZ (hw _ (own_w 5 rfl))) (by decide) (backOf (W := 1) (rA1 l Z a0 hw [] b10o d0 h10 n0 Z10 A10 F10_22 F10_25 F10_62 b10 f17 O_D) hZ (hw _ (own_w 5 rfl)) (hw _ (own_w 2 rfl)) (by decide) (by decide)) (g := (mkF m 84 #[.val (.long q1), .second, .val (.long q2), .second, .val (.long q3), .second, .val (.long q4), .second, .val (.int p5), .val (.int p6), .val (.long b1), .second, .val (.long b2), .second, .val (.long b3), .second, .val (.ref b4o), .unset, .unset, .unset, .unset, .unset, .unset] [(.ref b10o), (.ref b10o)])) rfl (by rw [hml]; rfl) (Steps.refl _) (a := b10o) (argsL := []) (rest := [(.ref b10o)]) (lenOf pd_0 rfl) rfl (by show 2 * 0 + _ ≤ _; exact Nat.le_of_eq rfl) (hb hby at_84) (fun _ _ => ⟨rfl, e10, (by decide : 2 + 0 ≤ _), (by decide : 6 + 0 ≤ _)⟩)
    dsimp only [Pt.U, Pt.locs, Pt.cells, Pt.slots] at X16 lq16 yq16 zq16 st16 hQ16
    subst lq16 yq16 zq16
    obtain ⟨rfl, N16q, KC16, u16⟩ := hQ16
    have N16 := Fr.app N8 N16q
    have Z16 : n0 ≤ T16.heap.size := Nat.le_trans Z10 KC16.1
    obtain ⟨E16', FM16', FE16', FZ16'⟩ := u16
    by_cases hc95 : (p6 &&& (512 : Int32)) = (0 : Int32)
    · obtain ⟨T18, h18, X18, e18, E18, A18, D18, -, st18⟩ := newO X16 hx hZ hown (hw _ (own_w 26 rfl)) (hw _ (own_w 27 rfl)) (hw _ (own_w 28 rfl)) rfl (g := (mkF m 117 #[.val (.long q1), .second, .val (.long q2), .second, .val (.long q3), .second, .val (.long q4), .second, .val (.int p5), .val (.int p6), .val (.long b1), .second, .val (.long b2), .second, .val (.long b3), .second, .val (.ref b4o), .val (.ref b10o), .unset, .unset, .unset, .unset, .unset] [])) rfl (hb hby at_117) (by decide) (by decide)
      obtain ⟨b18o, g18⟩ : ∃ z, z = T16.heap.size := ⟨_, rfl⟩
      have b18 : n0 ≤ b18o := Nat.le_trans Z16 (Nat.le_of_eq g18.symm)
      have f19 := (f17.keep KC16 (allS b10 all0))
      have ne20 : d0 ≠ b18o := Nat.ne_of_lt (Nat.lt_of_lt_of_le (O_AD.ext f19.2).lt (Nat.le_of_eq g18.symm))
      have ne21 : el ≠ b18o := Nat.ne_of_lt (Nat.lt_of_lt_of_le (O_EL.ext f19.2).lt (Nat.le_of_eq g18.symm))
      have ne22 : ee ≠ b18o := Nat.ne_of_lt (Nat.lt_of_lt_of_le (O_AE.ext f19.2).lt (Nat.le_of_eq g18.symm))
      have f23 := ((E8'.ext E10).keep KC16)
      have ne24 : b4o ≠ b18o := Nat.ne_of_lt (Nat.lt_of_lt_of_le f23.lt (Nat.le_of_eq g18.symm))
      have ne25 : b10o ≠ b18o := Nat.ne_of_lt (Nat.lt_of_lt_of_le E16'.lt (Nat.le_of_eq g18.symm))
      rw [← g18] at A18 D18 st18
      have Z18 : n0 ≤ h18.size := Nat.le_trans Z16 E18.1
      have F18_68 : Fld Z h18 b18o "com/example/zorgbrug/zorgbrug/fhir/Version" "major" "J" (.long (0 : Int64)) := D18 (Or.inr (hw _ (own_w 68 rfl))) (ty := .long) (by decide)
      have F18_70 : Fld Z h18 b18o "com/example/zorgbrug/zorgbrug/fhir/Version" "minor" "J" (.long (0 : Int64)) := D18 (Or.inr (hw _ (own_w 70 rfl))) (ty := .long) (by decide)
      have F18_72 : Fld Z h18 b18o "com/example/zorgbrug/zorgbrug/fhir/Version" "patch" "J" (.long (0 : Int64)) := D18 (Or.inr (hw _ (own_w 72 rfl))) (ty := .long) (by decide)
      have F18_74 : Fld Z h18 b18o "com/example/zorgbrug/zorgbrug/fhir/Version" "preRelease" "Ljava/util/List;" .null := D18 (Or.inr (hw _ (own_w 74 rfl))) (ty := (.object "java/util/List")) (by decide)
      have f27 := (f23.ext E18)
      have f28 := (((FZ8'.ext E10).keep KC16 (ninS ne15 nin0)).ext E18)
      have f29 := (f19.ext E18)
      obtain ⟨_, _, ⟨T26, Lq26, kq26, nq26⟩, -, X26, ⟨Lc26, hQ26, lq26, yq26, zq26⟩, st26⟩ := X18.specialBack hx (y := (⟨"com/example/zorgbrug/zorgbrug/fhir/Version", "<init>", "(JJJLjava/util/List;)V"⟩ : MethodName)) rfl hown (mvT hZ (hw _ (own_w 29 rfl))) (mvT hZ (hw _ (own_w 30 rfl))) (mvT hZ (hw _ (own_w 31 rfl))) (by decide) (backOf (W := 1) (rVIA l Z a0 hw [] b18o q1 q2 q3 b4o el h18 n0 Z18 A18 F18_68 F18_70 F18_72 F18_74 b18 (Ne.symm ne24) f27 f28 f29 O_L) hZ (hw _ (own_w 31 rfl)) (hw _ (own_w 28 rfl)) (by decide) (by decide)) (g := (mkF m 127 #[.val (.long q1), .second, .val (.long q2), .second, .val (.long q3), .second, .val (.long q4), .second, .val (.int p5), .val (.int p6), .val (.long b1), .second, .val (.long b2), .second, .val (.long b3), .second, .val (.ref b4o), .val (.ref b10o), .unset, .unset, .unset, .unset, .unset] [(.ref b4o), (.long q3), (.long q2), (.long q1), (.ref b18o), (.ref b18o)])) rfl (by rw [hml]; rfl) (Steps.refl _) (a := b18o) (argsL := [(.long q1), (.long q2), (.long q3), (.ref b4o)]) (rest := [(.ref b18o)]) (lenOf pd_16 rfl) rfl (by show 2 * 0 + _ ≤ _; exact Nat.le_of_eq rfl) (hb hby at_127) (fun _ _ => ⟨rfl, e18, (by decide : 3 + 0 ≤ _), (by decide : 10 + 0 ≤ _)⟩)
      dsimp only [Pt.U, Pt.locs, Pt.cells, Pt.slots] at X26 lq26 yq26 zq26 st26 hQ26
      subst lq26 yq26 zq26
      obtain ⟨rfl, N26q, KC26, u26⟩ := hQ26
      have N26 := Fr.app N16 N26q
      have Z26 : n0 ≤ T26.heap.size := Nat.le_trans Z18 KC26.1
      obtain ⟨E26', F26_0, F26_1, F26_2, F26_3⟩ := u26
      obtain ⟨T30, h30, X30, e30, E30, A30, D30, -, st30⟩ := newO X26 hx hZ hown (hw _ (own_w 26 rfl)) (hw _ (own_w 27 rfl)) (hw _ (own_w 28 rfl)) rfl (g := (mkF m 132 #[.val (.long q1), .second, .val (.long q2), .second, .val (.long q3), .second, .val (.long q4), .second, .val (.int p5), .val (.int p6), .val (.long b1), .second, .val (.long b2), .second, .val (.long b3), .second, .val (.ref b4o), .val (.ref b10o), .val (.ref b18o), .unset, .unset, .unset, .unset] [])) rfl (hb hby at_132) (by decide) (by decide)
      obtain ⟨b30o, g30⟩ : ∃ z, z = T26.heap.size := ⟨_, rfl⟩
      have b30 : n0 ≤ b30o := Nat.le_trans Z26 (Nat.le_of_eq g30.symm)
      have f31 := (f29.keep KC26 (allS b18 all0))
      have ne32 : d0 ≠ b30o := Nat.ne_of_lt (Nat.lt_of_lt_of_le (O_AD.ext f31.2).lt (Nat.le_of_eq g30.symm))
      have ne33 : el ≠ b30o := Nat.ne_of_lt (Nat.lt_of_lt_of_le (O_EL.ext f31.2).lt (Nat.le_of_eq g30.symm))
      have ne34 : ee ≠ b30o := Nat.ne_of_lt (Nat.lt_of_lt_of_le (O_AE.ext f31.2).lt (Nat.le_of_eq g30.symm))
      have f35 := (f27.keep KC26)
      have ne36 : b4o ≠ b30o := Nat.ne_of_lt (Nat.lt_of_lt_of_le f35.lt (Nat.le_of_eq g30.symm))
      have f37 := ((E16'.ext E18).keep KC26)
      have ne38 : b10o ≠ b30o := Nat.ne_of_lt (Nat.lt_of_lt_of_le f37.lt (Nat.le_of_eq g30.symm))
      have ne39 : b18o ≠ b30o := Nat.ne_of_lt (Nat.lt_of_lt_of_le E26'.lt (Nat.le_of_eq g30.symm))
      rw [← g30] at A30 D30 st30
      have Z30 : n0 ≤ h30.size := Nat.le_trans Z26 E30.1
      have F30_68 : Fld Z h30 b30o "com/example/zorgbrug/zorgbrug/fhir/Version" "major" "J" (.long (0 : Int64)) := D30 (Or.inr (hw _ (own_w 68 rfl))) (ty := .long) (by decide)
      have F30_70 : Fld Z h30 b30o "com/example/zorgbrug/zorgbrug/fhir/Version" "minor" "J" (.long (0 : Int64)) := D30 (Or.inr (hw _ (own_w 70 rfl))) (ty := .long) (by decide)
      have F30_72 : Fld Z h30 b30o "com/example/zorgbrug/zorgbrug/fhir/Version" "patch" "J" (.long (0 : Int64)) := D30 (Or.inr (hw _ (own_w 72 rfl))) (ty := .long) (by decide)
      have F30_74 : Fld Z h30 b30o "com/example/zorgbrug/zorgbrug/fhir/Version" "preRelease" "Ljava/util/List;" .null := D30 (Or.inr (hw _ (own_w 74 rfl))) (ty := (.object "java/util/List")) (by decide)
      have f41 := (f37.ext E30)
      have f42 := (((FZ16'.ext E18).keep KC26 (ninS ne25 nin0)).ext E30)
      have f43 := (f31.ext E30)
      obtain ⟨_, _, ⟨T40, Lq40, kq40, nq40⟩, -, X40, ⟨Lc40, hQ40, lq40, yq40, zq40⟩, st40⟩ := X30.specialBack hx (y := (⟨"com/example/zorgbrug/zorgbrug/fhir/Version", "<init>", "(JJJLjava/util/List;)V"⟩ : MethodName)) rfl hown (mvT hZ (hw _ (own_w 29 rfl))) (mvT hZ (hw _ (own_w 30 rfl))) (mvT hZ (hw _ (own_w 31 rfl))) (by decide) (backOf (W := 1) (rVIA l Z a0 hw [] b30o b1 b2 b3 b10o el h30 n0 Z30 A30 F30_68 F30_70 F30_72 F30_74 b30 (Ne.symm ne38) f41 f42 f43 O_L) hZ (hw _ (own_w 31 rfl)) (hw _ (own_w 28 rfl)) (by decide) (by decide)) (g := (mkF m 144 #[.val (.long q1), .second, .val (.long q2), .second, .val (.long q3), .second, .val (.long q4), .second, .val (.int p5), .val (.int p6), .val (.long b1), .second, .val (.long b2), .second, .val (.long b3), .second, .val (.ref b4o), .val (.ref b10o), .val (.ref b18o), .unset, .unset, .unset, .unset] [(.ref b10o), (.long b3), (.long b2), (.long b1), (.ref b30o), (.ref b30o)])) rfl (by rw [hml]; rfl) (Steps.refl _) (a := b30o) (argsL := [(.long b1), (.long b2), (.long b3), (.ref b10o)]) (rest := [(.ref b30o)]) (lenOf pd_16 rfl) rfl (by show 2 * 0 + _ ≤ _; exact Nat.le_of_eq rfl) (hb hby at_144) (fun _ _ => ⟨rfl, e30, (by decide : 4 + 0 ≤ _), (by decide : 14 + 0 ≤ _)⟩)
      dsimp only [Pt.U, Pt.locs, Pt.cells, Pt.slots] at X40 lq40 yq40 zq40 st40 hQ40
      subst lq40 yq40 zq40
      obtain ⟨rfl, N40q, KC40, u40⟩ := hQ40
      have N40 := Fr.app N26 N40q
      have Z40 : n0 ≤ T40.heap.size := Nat.le_trans Z30 KC40.1
      obtain ⟨E40', F40_0, F40_1, F40_2, F40_3⟩ := u40
      have f45 := ((F26_0.ext E30).keep KC40 (ninS ne39 nin0))
      have f46 := ((F26_1.ext E30).keep KC40 (ninS ne39 nin0))
      have f47 := ((F26_2.ext E30).keep KC40 (ninS ne39 nin0))
      have f48 := ((E26'.ext E30).keep KC40)
      obtain ⟨cq44, kz44, q44a, q44b, q44c⟩ := isOf hZ rfl f48
      obtain ⟨_, _, ⟨T44, Lq44, kq44, nq44⟩, -, X44, ⟨Lc44, hQ44, lq44, yq44, zq44⟩, st44⟩ := X40.virtualBack hx (y := (⟨"com/example/zorgbrug/zorgbrug/fhir/Version", "sameRelease", "(Lcom/example/zorgbrug/zorgbrug/fhir/Version;)Z"⟩ : MethodName)) (z := (⟨"com/example/zorgbrug/zorgbrug/fhir/Version", "sameRelease", "(Lcom/example/zorgbrug/zorgbrug/fhir/Version;)Z"⟩ : MethodName)) hown (mvT hZ (hw _ (own_w 75 rfl))) (mvT hZ (hw _ (own_w 76 rfl))) (notFace_of_selects (args := #[]) (mvT hZ (hw _ (own_w 78 rfl)))) (mvT hZ (hw _ (own_w 78 rfl))) (mvT hZ (hw _ (own_w 77 rfl))) (by decide) (backOf (W := 0) (rSR l Z a0 hw [] b18o b30o q1 q2 q3 b1 b2 b3 T40.heap n0 Z40 f45 f46 f47 F40_0 F40_1 F40_2) hZ (hw _ (own_w 79 rfl)) (hw _ (own_w 28 rfl)) (by decide) (by decide)) q44a q44c (g := (mkF m 153 #[.val (.long q1), .second, .val (.long q2), .second, .val (.long q3), .second, .val (.long q4), .second, .val (.int p5), .val (.int p6), .val (.long b1), .second, .val (.long b2), .second, .val (.long b3), .second, .val (.ref b4o), .val (.ref b10o), .val (.ref b18o), .val (.ref b30o), .unset, .unset, .unset] [(.ref b30o), (.ref b18o)])) rfl (by rw [hml]; rfl) (Steps.refl _) (argsL := [(.ref b30o)]) (rest := []) (lenOf pd_19 rfl) rfl (by show 2 * 0 + _ ≤ _; exact Nat.le_of_eq rfl) (hb hby at_153) (fun _ _ => ⟨rfl, rfl, (by decide : 4 + 0 ≤ _), (by decide : 14 + 0 ≤ _)⟩)
      dsimp only [Pt.U, Pt.locs, Pt.cells, Pt.slots] at X44 lq44 yq44 zq44 st44 hQ44
      subst lq44 yq44 zq44
      obtain ⟨r44, hr44, rfl, N44q, e44⟩ := hQ44
      have N44 := Fr.app N40 N44q
      obtain ⟨cq49, kz49, q49a, q49b, q49c⟩ := isOf hZ e44 E40'
      obtain ⟨_, _, ⟨T49, Lq49, kq49, nq49⟩, -, X49, ⟨Lc49, hQ49, lq49, yq49, zq49⟩, st49⟩ := X44.virtualBack hx (y := (⟨"com/example/zorgbrug/zorgbrug/fhir/Version", "sameRelease", "(Lcom/example/zorgbrug/zorgbrug/fhir/Version;)Z"⟩ : MethodName)) (z := (⟨"com/example/zorgbrug/zorgbrug/fhir/Version", "sameRelease", "(Lcom/example/zorgbrug/zorgbrug/fhir/Version;)Z"⟩ : MethodName)) hown (mvT hZ (hw _ (own_w 75 rfl))) (mvT hZ (hw _ (own_w 76 rfl))) (notFace_of_selects (args := #[]) (mvT hZ (hw _ (own_w 78 rfl)))) (mvT hZ (hw _ (own_w 78 rfl))) (mvT hZ (hw _ (own_w 77 rfl))) (by decide) (backOf (W := 0) (rSR l Z a0 hw [] b30o b18o b1 b2 b3 q1 q2 q3 T40.heap n0 Z40 F40_0 F40_1 F40_2 f45 f46 f47) hZ (hw _ (own_w 79 rfl)) (hw _ (own_w 28 rfl)) (by decide) (by decide)) q49a q49c (g := (mkF m 162 #[.val (.long q1), .second, .val (.long q2), .second, .val (.long q3), .second, .val (.long q4), .second, .val (.int p5), .val (.int p6), .val (.long b1), .second, .val (.long b2), .second, .val (.long b3), .second, .val (.ref b4o), .val (.ref b10o), .val (.ref b18o), .val (.ref b30o), .val (.int r44), .unset, .unset] [(.ref b18o), (.ref b30o)])) rfl (by rw [hml]; rfl) (Steps.refl _) (argsL := [(.ref b18o)]) (rest := []) (lenOf pd_19 rfl) rfl (by show 2 * 0 + _ ≤ _; exact Nat.le_of_eq rfl) (hb hby at_162) (fun _ _ => ⟨rfl, e44, (by decide : 4 + 0 ≤ _), (by decide : 14 + 0 ≤ _)⟩)
      dsimp only [Pt.U, Pt.locs, Pt.cells, Pt.slots] at X49 lq49 yq49 zq49 st49 hQ49
      subst lq49 yq49 zq49
      obtain ⟨r49, hr49, rfl, N49q, e49⟩ := hQ49
      have N49 := Fr.app N44 N49q
      have f51 := (f43.keep KC40 (allS b30 all0))
      have f52 := ((f35.ext E30).keep KC40)
      have f53 := ((((((FM8'.ext E10).keep KC16 (ninS ne15 nin0)).ext E18).keep KC26 (ninS ne24 nin0)).ext E30).keep KC40 (ninS ne36 nin0))
      have f54 := ((((((FE8'.ext E10).keep KC16 (ninS ne15 nin0)).ext E18).keep KC26 (ninS ne24 nin0)).ext E30).keep KC40 (ninS ne36 nin0))
      have f55 := (((f28.keep KC26 (ninS ne24 nin0)).ext E30).keep KC40 (ninS ne36 nin0))
      have f56 := (f41.keep KC40)
      have f57 := ((((FM16'.ext E18).keep KC26 (ninS ne25 nin0)).ext E30).keep KC40 (ninS ne38 nin0))
      have f58 := ((((FE16'.ext E18).keep KC26 (ninS ne25 nin0)).ext E30).keep KC40 (ninS ne38 nin0))
      have f59 := (f42.keep KC40 (ninS ne38 nin0))
      have f60 := ((F26_3.ext E30).keep KC40 (ninS ne39 nin0))
      obtain ⟨_, _, ⟨T50, Lq50, kq50, nq50⟩, -, X50, ⟨Lc50, hQ50, lq50, yq50, zq50⟩, st50⟩ := Jvm.LawKit.callS X49 hx (y := (⟨"com/example/zorgbrug/zorgbrug/fhir/Version", "release", "(JJJ)Lcom/example/zorgbrug/zorgbrug/fhir/Version;"⟩ : MethodName)) hown (mvT hZ (hw _ (own_w 80 rfl))) (mvT hZ (hw _ (own_w 81 rfl))) (mvT hZ (hw _ (own_w 28 rfl))) (mvT hZ (hw _ (own_w 82 rfl))) (by decide) (backOf (W := 0) (rRL l Z a0 hw [] q1 q2 q3 el T40.heap n0 Z40 O_EL O_FN f51 O_L) hZ (hw _ (own_w 82 rfl)) (hw _ (own_w 28 rfl)) (by decide) (by decide)) (g := (mkF m 171 #[.val (.long q1), .second, .val (.long q2), .second, .val (.long q3), .second, .val (.long q4), .second, .val (.int p5), .val (.int p6), .val (.long b1), .second, .val (.long b2), .second, .val (.long b3), .second, .val (.ref b4o), .val (.ref b10o), .val (.ref b18o), .val (.ref b30o), .val (.int r44), .val (.int r49), .unset] [(.long q3), (.long q2), (.long q1)])) rfl (by rw [hml]; rfl) (argsL := [(.long q1), (.long q2), (.long q3)]) (rest := []) (lenOf pd_20 rfl) rfl (by show 2 * 0 + _ ≤ _; exact Nat.le_of_eq rfl) (hb hby at_171) (fun _ _ => ⟨rfl, e49, (by decide : 4 + 1 ≤ _), (by decide : 14 + 4 ≤ _)⟩)
      dsimp only [Pt.U, Pt.locs, Pt.cells, Pt.slots] at X50 lq50 yq50 zq50 st50 hQ50
      subst lq50 yq50 zq50
      obtain ⟨o50, rfl, N50q, KC50, go50, gk50, u50⟩ := hQ50
      have N50 := Fr.app N49 N50q
      have Z50 : n0 ≤ T50.heap.size := Nat.le_trans Z40 KC50.1
      have ne61 : d0 ≠ o50 := Nat.ne_of_lt (Nat.lt_of_lt_of_le (O_AD.ext f51.2).lt gk50)
      have ne62 : el ≠ o50 := Nat.ne_of_lt (Nat.lt_of_lt_of_le (O_FL.ext f51.2).lt gk50)
      have ne63 : ee ≠ o50 := Nat.ne_of_lt (Nat.lt_of_lt_of_le (O_AE.ext f51.2).lt gk50)
      have ne64 : b4o ≠ o50 := Nat.ne_of_lt (Nat.lt_of_lt_of_le f55.lt gk50)
      have ne65 : b10o ≠ o50 := Nat.ne_of_lt (Nat.lt_of_lt_of_le f59.lt gk50)
      have ne66 : b18o ≠ o50 := Nat.ne_of_lt (Nat.lt_of_lt_of_le f60.lt gk50)
      have ne67 : b30o ≠ o50 := Nat.ne_of_lt (Nat.lt_of_lt_of_le F40_3.lt gk50)
      obtain ⟨E50', F50_0, F50_1, F50_2, F50_3⟩ := u50
      have f69 := (f51.keep KC50 all0)
      have f70 := (f52.keep KC50)
      have f71 := (f53.keep KC50 nin0)
      have f72 := (f54.keep KC50 nin0)
      have f73 := (f55.keep KC50 nin0)
      have f74 := (f56.keep KC50)
      have f75 := (f57.keep KC50 nin0)
      have f76 := (f58.keep KC50 nin0)
      have f77 := (f59.keep KC50 nin0)
      have f78 := (f48.keep KC50)
      have f79 := (f45.keep KC50 nin0)
      have f80 := (f46.keep KC50 nin0)
      have f81 := (f47.keep KC50 nin0)
      have f82 := (f60.keep KC50 nin0)
      have f83 := (E40'.keep KC50)
      have f84 := (F40_0.keep KC50 nin0)
      have f85 := (F40_1.keep KC50 nin0)
      have f86 := (F40_2.keep KC50 nin0)
      have f87 := (F40_3.keep KC50 nin0)
      obtain ⟨_, _, ⟨T68, Lq68, kq68, nq68⟩, -, X68, ⟨Lc68, hQ68, lq68, yq68, zq68⟩, st68⟩ := Jvm.LawKit.callS X50 hx (y := (⟨"com/example/zorgbrug/zorgbrug/fhir/Version", "release", "(JJJ)Lcom/example/zorgbrug/zorgbrug/fhir/Version;"⟩ : MethodName)) hown (mvT hZ (hw _ (own_w 80 rfl))) (mvT hZ (hw _ (own_w 81 rfl))) (mvT hZ (hw _ (own_w 28 rfl))) (mvT hZ (hw _ (own_w 82 rfl))) (by decide) (backOf (W := 1) (rRL l Z a0 hw [] b1 b2 b3 el T50.heap n0 Z50 O_EL O_FN f69 O_L) hZ (hw _ (own_w 82 rfl)) (hw _ (own_w 28 rfl)) (by decide) (by decide)) (g := (mkF m 180 #[.val (.long q1), .second, .val (.long q2), .second, .val (.long q3), .second, .val (.long q4), .second, .val (.int p5), .val (.int p6), .val (.long b1), .second, .val (.long b2), .second, .val (.long b3), .second, .val (.ref b4o), .val (.ref b10o), .val (.ref b18o), .val (.ref b30o), .val (.int r44), .val (.int r49), .unset] [(.long b3), (.long b2), (.long b1), (.ref o50)])) rfl (by rw [hml]; rfl) (argsL := [(.long b1), (.long b2), (.long b3)]) (rest := [(.ref o50)]) (lenOf pd_20 rfl) rfl (by show 2 * 0 + _ ≤ _; exact Nat.le_of_eq rfl) (hb hby at_180) (fun _ _ => ⟨rfl, rfl, (by decide : 5 + 1 ≤ _), (by decide : 18 + 4 ≤ _)⟩)
      dsimp only [Pt.U, Pt.locs, Pt.cells, Pt.slots] at X68 lq68 yq68 zq68 st68 hQ68
      subst lq68 yq68 zq68
      obtain ⟨o68, rfl, N68q, KC68, go68, gk68, u68⟩ := hQ68
      have N68 := Fr.app N50 N68q
      have Z68 : n0 ≤ T68.heap.size := Nat.le_trans Z50 KC68.1
      have ne88 : d0 ≠ o68 := Nat.ne_of_lt (Nat.lt_of_lt_of_le (O_AD.ext f69.2).lt gk68)
      have ne89 : el ≠ o68 := Nat.ne_of_lt (Nat.lt_of_lt_of_le (O_FL.ext f69.2).lt gk68)
      have ne90 : ee ≠ o68 := Nat.ne_of_lt (Nat.lt_of_lt_of_le (O_AE.ext f69.2).lt gk68)
      have ne91 : b4o ≠ o68 := Nat.ne_of_lt (Nat.lt_of_lt_of_le f73.lt gk68)
      have ne92 : b10o ≠ o68 := Nat.ne_of_lt (Nat.lt_of_lt_of_le f77.lt gk68)
      have ne93 : b18o ≠ o68 := Nat.ne_of_lt (Nat.lt_of_lt_of_le f82.lt gk68)
      have ne94 : b30o ≠ o68 := Nat.ne_of_lt (Nat.lt_of_lt_of_le f87.lt gk68)
      have ne95 : o50 ≠ o68 := Nat.ne_of_lt (Nat.lt_of_lt_of_le F50_3.lt gk68)
      obtain ⟨E68', F68_0, F68_1, F68_2, F68_3⟩ := u68
      have f97 := (F50_0.keep KC68 nin0)
      have f98 := (F50_1.keep KC68 nin0)
      have f99 := (F50_2.keep KC68 nin0)
      have f100 := (F50_3.keep KC68 nin0)
      have f101 := (f69.keep KC68 all0)
      have f102 := (E50'.keep KC68)
      obtain ⟨cq96, kz96, q96a, q96b, q96c⟩ := isOf hZ rfl f102
      obtain ⟨_, _, ⟨T96, Lq96, kq96, nq96⟩, -, X96, ⟨Lc96, hQ96, lq96, yq96, zq96⟩, st96⟩ := X68.virtualBack hx (y := (⟨"com/example/zorgbrug/zorgbrug/fhir/Version", "compareTo", "(Lcom/example/zorgbrug/zorgbrug/fhir/Version;)I"⟩ : MethodName)) (z := (⟨"com/example/zorgbrug/zorgbrug/fhir/Version", "compareTo", "(Lcom/example/zorgbrug/zorgbrug/fhir/Version;)I"⟩ : MethodName)) hown (mvT hZ (hw _ (own_w 94 rfl))) (mvT hZ (hw _ (own_w 95 rfl))) (notFace_of_selects (args := #[]) (mvT hZ (hw _ (own_w 97 rfl)))) (mvT hZ (hw _ (own_w 97 rfl))) (mvT hZ (hw _ (own_w 96 rfl))) (by decide) (backOf (W := 0) (rCT l Z a0 hw [] o50 o68 q1 q2 q3 b1 b2 b3 el ee ke T68.heap n0 Z68 f97 f98 f99 F68_0 F68_1 F68_2 f100 F68_3 f101 O_EL O_FL O_AE) hZ (hw _ (own_w 98 rfl)) (hw _ (own_w 28 rfl)) (by decide) (by decide)) q96a q96c (g := (mkF m 183 #[.val (.long q1), .second, .val (.long q2), .second, .val (.long q3), .second, .val (.long q4), .second, .val (.int p5), .val (.int p6), .val (.long b1), .second, .val (.long b2), .second, .val (.long b3), .second, .val (.ref b4o), .val (.ref b10o), .val (.ref b18o), .val (.ref b30o), .val (.int r44), .val (.int r49), .unset] [(.ref o68), (.ref o50)])) rfl (by rw [hml]; rfl) (Steps.refl _) (argsL := [(.ref o68)]) (rest := []) (lenOf pd_21 rfl) rfl (by show 2 * 0 + _ ≤ _; exact Nat.le_of_eq rfl) (hb hby at_183) (fun _ _ => ⟨rfl, rfl, (by decide : 6 + 0 ≤ _), (by decide : 22 + 0 ≤ _)⟩)
      dsimp only [Pt.U, Pt.locs, Pt.cells, Pt.slots] at X96 lq96 yq96 zq96 st96 hQ96
      subst lq96 yq96 zq96
      obtain ⟨r96, hr96, rfl, N96q, e96⟩ := hQ96
      have N96 := Fr.app N68 N96q
      by_cases hP : q1 = b1 ∧ q2 = b2 ∧ q3 = b3
      · skip
        obtain ⟨fs, hr, hrun, hended, hW, hsame⟩ := X96.leave (v := some (.int (1 : Int32))) (fun h => by rw [Bd.returns] at h; cases h) (BodyLoose.notSynchronized Bd)
        refine ⟨_, _, pre0 _ ?_, hrun, hended, _, _, rfl, ?_, ⟨_, rfl⟩, hW, hsame.mono (by decide) (by decide)⟩
        · show Steps p.tables e below (s₁.setTop (mkF m 0 #[.val (.long q1), .second, .val (.long q2), .second, .val (.long q3), .second, .val (.long q4), .second, .val (.int p5), .val (.int p6), .unset, .unset, .unset, .unset, .unset, .unset, .unset, .unset, .unset, .unset, .unset, .unset, .unset] [])) _
          refine sg1 _ ?_
          refine XS.lstore X0.here hx rfl (hb hby at_13) rfl (l' := #[.val (.long q1), .second, .val (.long q2), .second, .val (.long q3), .second, .val (.long q4), .second, .val (.int p5), .val (.int p6), .val (.long b1), .second, .unset, .unset, .unset, .unset, .unset, .unset, .unset, .unset, .unset, .unset, .unset]) rfl ?_
          refine sg2 _ ?_
          refine XS.lstore X0.here hx rfl (hb hby at_28) rfl (l' := #[.val (.long q1), .second, .val (.long q2), .second, .val (.long q3), .second, .val (.long q4), .second, .val (.int p5), .val (.int p6), .val (.long b1), .second, .val (.long b2), .second, .unset, .unset, .unset, .unset, .unset, .unset, .unset, .unset, .unset]) rfl ?_
          refine sg3 _ ?_
          refine XS.lstore X0.here hx rfl (hb hby at_44) rfl (l' := #[.val (.long q1), .second, .val (.long q2), .second, .val (.long q3), .second, .val (.long q4), .second, .val (.int p5), .val (.int p6), .val (.long b1), .second, .val (.long b2), .second, .val (.long b3), .second, .unset, .unset, .unset, .unset, .unset, .unset, .unset]) rfl ?_
          refine st4 _ ?_
          refine XS.dup X4.here hx rfl (hb hby at_49) rfl rfl ?_
          refine st8.trans ?_
          refine XS.astore X8.here hx rfl (hb hby at_53) rfl rfl (l' := #[.val (.long q1), .second, .val (.long q2), .second, .val (.long q3), .second, .val (.long q4), .second, .val (.int p5), .val (.int p6), .val (.long b1), .second, .val (.long b2), .second, .val (.long b3), .second, .val (.ref b4o), .unset, .unset, .unset, .unset, .unset, .unset]) rfl ?_
          refine XS.iload X8.here hx rfl (hb hby at_55) rfl ?_
          refine XS.iconst X8.here hx rfl (hb hby at_57) ?_
          refine XS.iand X8.here hx rfl (hb hby at_58) rfl ?_
          refine XS.ifYes X8.here hx rfl (pc0 := 59) (pc' := 80) rfl (hb hby at_59) rfl ((if0 _ _).trans (teq hc59).1) (by decide) (by decide) ?_
          refine st10 _ ?_
          refine XS.dup X10.here hx rfl (hb hby at_83) rfl rfl ?_
          refine st16.trans ?_
          refine XS.astore X16.here hx rfl (hb hby at_87) rfl rfl (l' := #[.val (.long q1), .second, .val (.long q2), .second, .val (.long q3), .second, .val (.long q4), .second, .val (.int p5), .val (.int p6), .val (.long b1), .second, .val (.long b2), .second, .val (.long b3), .second, .val (.ref b4o), .val (.ref b10o), .unset, .unset, .unset, .unset, .unset]) rfl ?_
          refine XS.iload X16.here hx rfl (hb hby at_89) rfl ?_
          refine XS.sipush X16.here hx rfl (hb hby at_91) ?_
          refine XS.iand X16.here hx rfl (hb hby at_94) rfl ?_
          refine XS.ifYes X16.here hx rfl (pc0 := 95) (pc' := 117) rfl (hb hby at_95) rfl ((if0 _ _).trans (teq hc95).1) (by decide) (by decide) ?_
          refine st18 _ ?_
          refine XS.dup X18.here hx rfl (hb hby at_120) rfl rfl ?_
          refine XS.lloadN X18.here hx rfl (hb hby at_121) rfl ?_
          refine XS.lloadN X18.here hx rfl (hb hby at_122) rfl ?_
          refine XS.lload X18.here hx rfl (hb hby at_123) rfl ?_
          refine XS.aload X18.here hx rfl (hb hby at_125) rfl rfl ?_
          refine st26.trans ?_
          refine XS.astore X26.here hx rfl (hb hby at_130) rfl rfl (l' := #[.val (.long q1), .second, .val (.long q2), .second, .val (.long q3), .second, .val (.long q4), .second, .val (.int p5), .val (.int p6), .val (.long b1), .second, .val (.long b2), .second, .val (.long b3), .second, .val (.ref b4o), .val (.ref b10o), .val (.ref b18o), .unset, .unset, .unset, .unset]) rfl ?_
          refine st30 _ ?_
          refine XS.dup X30.here hx rfl (hb hby at_135) rfl rfl ?_
          refine XS.lload X30.here hx rfl (hb hby at_136) rfl ?_
          refine XS.lload X30.here hx rfl (hb hby at_138) rfl ?_
          refine XS.lload X30.here hx rfl (hb hby at_140) rfl ?_
          refine XS.aload X30.here hx rfl (hb hby at_142) rfl rfl ?_
          refine st40.trans ?_
          refine XS.astore X40.here hx rfl (hb hby at_147) rfl rfl (l' := #[.val (.long q1), .second, .val (.long q2), .second, .val (.long q3), .second, .val (.long q4), .second, .val (.int p5), .val (.int p6), .val (.long b1), .second, .val (.long b2), .second, .val (.long b3), .second, .val (.ref b4o), .val (.ref b10o), .val (.ref b18o), .val (.ref b30o), .unset, .unset, .unset]) rfl ?_
          refine XS.aload X40.here hx rfl (hb hby at_149) rfl rfl ?_
          refine XS.aload X40.here hx rfl (hb hby at_151) rfl rfl ?_
          show Steps p.tables e below (T40.setTop (mkF m 153 #[.val (.long q1), .second, .val (.long q2), .second, .val (.long q3), .second, .val (.long q4), .second, .val (.int p5), .val (.int p6), .val (.long b1), .second, .val (.long b2), .second, .val (.long b3), .second, .val (.ref b4o), .val (.ref b10o), .val (.ref b18o), .val (.ref b30o), .unset, .unset, .unset] [(.ref b30o), (.ref b18o)])) _
          refine st44.trans ?_
          refine XS.istore X44.here hx rfl (hb hby at_156) rfl (l' := #[.val (.long q1), .second, .val (.long q2), .second, .val (.long q3), .second, .val (.long q4), .second, .val (.int p5), .val (.int p6), .val (.long b1), .second, .val (.long b2), .second, .val (.long b3), .second, .val (.ref b4o), .val (.ref b10o), .val (.ref b18o), .val (.ref b30o), .val (.int r44), .unset, .unset]) rfl ?_
          refine XS.aload X44.here hx rfl (hb hby at_158) rfl rfl ?_
          refine XS.aload X44.here hx rfl (hb hby at_160) rfl rfl ?_
          refine st49.trans ?_
          refine XS.istore X49.here hx rfl (hb hby at_165) rfl (l' := #[.val (.long q1), .second, .val (.long q2), .second, .val (.long q3), .second, .val (.long q4), .second, .val (.int p5), .val (.int p6), .val (.long b1), .second, .val (.long b2), .second, .val (.long b3), .second, .val (.ref b4o), .val (.ref b10o), .val (.ref b18o), .val (.ref b30o), .val (.int r44), .val (.int r49), .unset]) rfl ?_
          refine XS.lloadN X49.here hx rfl (hb hby at_167) rfl ?_
          refine XS.lloadN X49.here hx rfl (hb hby at_168) rfl ?_
          refine XS.lload X49.here hx rfl (hb hby at_169) rfl ?_
          refine st50 _ ?_
          refine XS.lload X50.here hx rfl (hb hby at_174) rfl ?_
          refine XS.lload X50.here hx rfl (hb hby at_176) rfl ?_
          refine XS.lload X50.here hx rfl (hb hby at_178) rfl ?_
          refine st68 _ ?_
          refine st96.trans ?_
          refine XS.istore X96.here hx rfl (hb hby at_186) rfl (l' := #[.val (.long q1), .second, .val (.long q2), .second, .val (.long q3), .second, .val (.long q4), .second, .val (.int p5), .val (.int p6), .val (.long b1), .second, .val (.long b2), .second, .val (.long b3), .second, .val (.ref b4o), .val (.ref b10o), .val (.ref b18o), .val (.ref b30o), .val (.int r44), .val (.int r49), .val (.int r96)]) rfl ?_
          show Steps p.tables e below (T96.setTop (mkF m 188 #[.val (.long q1), .second, .val (.long q2), .second, .val (.long q3), .second, .val (.long q4), .second, .val (.int p5), .val (.int p6), .val (.long b1), .second, .val (.long b2), .second, .val (.long b3), .second, .val (.ref b4o), .val (.ref b10o), .val (.ref b18o), .val (.ref b30o), .val (.int r44), .val (.int r49), .val (.int r96)] [])) _
          rw [(hr44.trans (if_pos hP))]
          show Steps p.tables e below (T96.setTop (mkF m 188 #[.val (.long q1), .second, .val (.long q2), .second, .val (.long q3), .second, .val (.long q4), .second, .val (.int p5), .val (.int p6), .val (.long b1), .second, .val (.long b2), .second, .val (.long b3), .second, .val (.ref b4o), .val (.ref b10o), .val (.ref b18o), .val (.ref b30o), .val (.int (1 : Int32)), .val (.int r49), .val (.int r96)] [])) _
          rw [(hr49.trans (if_pos ⟨hP.1.symm, hP.2.1.symm, hP.2.2.symm⟩))]
          show Steps p.tables e below (T96.setTop (mkF m 188 #[.val (.long q1), .second, .val (.long q2), .second, .val (.long q3), .second, .val (.long q4), .second, .val (.int p5), .val (.int p6), .val (.long b1), .second, .val (.long b2), .second, .val (.long b3), .second, .val (.ref b4o), .val (.ref b10o), .val (.ref b18o), .val (.ref b30o), .val (.int (1 : Int32)), .val (.int (1 : Int32)), .val (.int r96)] [])) _
          rw [(hr96.mpr hP)]
          show Steps p.tables e below (T96.setTop (mkF m 188 #[.val (.long q1), .second, .val (.long q2), .second, .val (.long q3), .second, .val (.long q4), .second, .val (.int p5), .val (.int p6), .val (.long b1), .second, .val (.long b2), .second, .val (.long b3), .second, .val (.ref b4o), .val (.ref b10o), .val (.ref b18o), .val (.ref b30o), .val (.int (1 : Int32)), .val (.int (1 : Int32)), .val (.int (0 : Int32))] [])) _
          refine XS.iload X96.here hx rfl (hb hby at_188) rfl ?_
          refine XS.iload X96.here hx rfl (hb hby at_190) rfl ?_
          refine XS.ifNo X96.here hx rfl (hb hby at_192) rfl ((if0 _ _).trans (teq (by decide)).2) ?_
          refine XS.iconst X96.here hx rfl (hb hby at_195) ?_
          refine XS.goto X96.here hx rfl (pc0 := 196) (pc' := 200) rfl (hb hby at_196) (by decide) (by decide) ?_
          refine XS.icmpNo X96.here hx rfl (hb hby at_200) rfl (teq (by decide)).2 ?_
          refine XS.iload X96.here hx rfl (hb hby at_203) rfl ?_
          refine XS.iload X96.here hx rfl (hb hby at_205) rfl ?_
          refine XS.icmpNo X96.here hx rfl (hb hby at_207) rfl (teq (by decide)).2 ?_
          refine XS.iconst X96.here hx rfl (hb hby at_210) ?_
          refine XS.goto X96.here hx rfl (pc0 := 211) (pc' := 215) rfl (hb hby at_211) (by decide) (by decide) ?_
          show Steps p.tables e below (T96.setTop (mkF m 215 #[.val (.long q1), .second, .val (.long q2), .second, .val (.long q3), .second, .val (.long q4), .second, .val (.int p5), .val (.int p6), .val (.long b1), .second, .val (.long b2), .second, .val (.long b3), .second, .val (.ref b4o), .val (.ref b10o), .val (.ref b18o), .val (.ref b30o), .val (.int (1 : Int32)), .val (.int (1 : Int32)), .val (.int (0 : Int32))] [(.int (1 : Int32))])) _
          exact retN X96 hx (t := .boolean) Bd.returns (by simp) (hb hby at_215) hr
        · show Qrm0 Z q1 q2 q3 q4 p5 p6 d0 kd el ee ke eo G1 mr h0 n0 _ T96.heap _
          exact ⟨rfl, N96⟩
      · skip
        obtain ⟨fs, hr, hrun, hended, hW, hsame⟩ := X96.leave (v := some (.int (1 : Int32))) (fun h => by rw [Bd.returns] at h; cases h) (BodyLoose.notSynchronized Bd)
        refine ⟨_, _, pre0 _ ?_, hrun, hended, _, _, rfl, ?_, ⟨_, rfl⟩, hW, hsame.mono (by decide) (by decide)⟩
        · show Steps p.tables e below (s₁.setTop (mkF m 0 #[.val (.long q1), .second, .val (.long q2), .second, .val (.long q3), .second, .val (.long q4), .second, .val (.int p5), .val (.int p6), .unset, .unset, .unset, .unset, .unset, .unset, .unset, .unset, .unset, .unset, .unset, .unset, .unset] [])) _
          refine sg1 _ ?_
          refine XS.lstore X0.here hx rfl (hb hby at_13) rfl (l' := #[.val (.long q1), .second, .val (.long q2), .second, .val (.long q3), .second, .val (.long q4), .second, .val (.int p5), .val (.int p6), .val (.long b1), .second, .unset, .unset, .unset, .unset, .unset, .unset, .unset, .unset, .unset, .unset, .unset]) rfl ?_
          refine sg2 _ ?_
          refine XS.lstore X0.here hx rfl (hb hby at_28) rfl (l' := #[.val (.long q1), .second, .val (.long q2), .second, .val (.long q3), .second, .val (.long q4), .second, .val (.int p5), .val (.int p6), .val (.long b1), .second, .val (.long b2), .second, .unset, .unset, .unset, .unset, .unset, .unset, .unset, .unset, .unset]) rfl ?_
          refine sg3 _ ?_
          refine XS.lstore X0.here hx rfl (hb hby at_44) rfl (l' := #[.val (.long q1), .second, .val (.long q2), .second, .val (.long q3), .second, .val (.long q4), .second, .val (.int p5), .val (.int p6), .val (.long b1), .second, .val (.long b2), .second, .val (.long b3), .second, .unset, .unset, .unset, .unset, .unset, .unset, .unset]) rfl ?_
          refine st4 _ ?_
          refine XS.dup X4.here hx rfl (hb hby at_49) rfl rfl ?_
          refine st8.trans ?_
          refine XS.astore X8.here hx rfl (hb hby at_53) rfl rfl (l' := #[.val (.long q1), .second, .val (.long q2), .second, .val (.long q3), .second, .val (.long q4), .second, .val (.int p5), .val (.int p6), .val (.long b1), .second, .val (.long b2), .second, .val (.long b3), .second, .val (.ref b4o), .unset, .unset, .unset, .unset, .unset, .unset]) rfl ?_
          refine XS.iload X8.here hx rfl (hb hby at_55) rfl ?_
          refine XS.iconst X8.here hx rfl (hb hby at_57) ?_
          refine XS.iand X8.here hx rfl (hb hby at_58) rfl ?_
          refine XS.ifYes X8.here hx rfl (pc0 := 59) (pc' := 80) rfl (hb hby at_59) rfl ((if0 _ _).trans (teq hc59).1) (by decide) (by decide) ?_
          refine st10 _ ?_
          refine XS.dup X10.here hx rfl (hb hby at_83) rfl rfl ?_
          refine st16.trans ?_
          refine XS.astore X16.here hx rfl (hb hby at_87) rfl rfl (l' := #[.val (.long q1), .second, .val (.long q2), .second, .val (.long q3), .second, .val (.long q4), .second, .val (.int p5), .val (.int p6), .val (.long b1), .second, .val (.long b2), .second, .val (.long b3), .second, .val (.ref b4o), .val (.ref b10o), .unset, .unset, .unset, .unset, .unset]) rfl ?_
          refine XS.iload X16.here hx rfl (hb hby at_89) rfl ?_
          refine XS.sipush X16.here hx rfl (hb hby at_91) ?_
          refine XS.iand X16.here hx rfl (hb hby at_94) rfl ?_
          refine XS.ifYes X16.here hx rfl (pc0 := 95) (pc' := 117) rfl (hb hby at_95) rfl ((if0 _ _).trans (teq hc95).1) (by decide) (by decide) ?_
          refine st18 _ ?_
          refine XS.dup X18.here hx rfl (hb hby at_120) rfl rfl ?_
          refine XS.lloadN X18.here hx rfl (hb hby at_121) rfl ?_
          refine XS.lloadN X18.here hx rfl (hb hby at_122) rfl ?_
          refine XS.lload X18.here hx rfl (hb hby at_123) rfl ?_
          refine XS.aload X18.here hx rfl (hb hby at_125) rfl rfl ?_
          refine st26.trans ?_
          refine XS.astore X26.here hx rfl (hb hby at_130) rfl rfl (l' := #[.val (.long q1), .second, .val (.long q2), .second, .val (.long q3), .second, .val (.long q4), .second, .val (.int p5), .val (.int p6), .val (.long b1), .second, .val (.long b2), .second, .val (.long b3), .second, .val (.ref b4o), .val (.ref b10o), .val (.ref b18o), .unset, .unset, .unset, .unset]) rfl ?_
          refine st30 _ ?_
          refine XS.dup X30.here hx rfl (hb hby at_135) rfl rfl ?_
          refine XS.lload X30.here hx rfl (hb hby at_136) rfl ?_
          refine XS.lload X30.here hx rfl (hb hby at_138) rfl ?_
          refine XS.lload X30.here hx rfl (hb hby at_140) rfl ?_
          refine XS.aload X30.here hx rfl (hb hby at_142) rfl rfl ?_
          refine st40.trans ?_
          refine XS.astore X40.here hx rfl (hb hby at_147) rfl rfl (l' := #[.val (.long q1), .second, .val (.long q2), .second, .val (.long q3), .second, .val (.long q4), .second, .val (.int p5), .val (.int p6), .val (.long b1), .second, .val (.long b2), .second, .val (.long b3), .second, .val (.ref b4o), .val (.ref b10o), .val (.ref b18o), .val (.ref b30o), .unset, .unset, .unset]) rfl ?_
          refine XS.aload X40.here hx rfl (hb hby at_149) rfl rfl ?_
          refine XS.aload X40.here hx rfl (hb hby at_151) rfl rfl ?_
          show Steps p.tables e below (T40.setTop (mkF m 153 #[.val (.long q1), .second, .val (.long q2), .second, .val (.long q3), .second, .val (.long q4), .second, .val (.int p5), .val (.int p6), .val (.long b1), .second, .val (.long b2), .second, .val (.long b3), .second, .val (.ref b4o), .val (.ref b10o), .val (.ref b18o), .val (.ref b30o), .unset, .unset, .unset] [(.ref b30o), (.ref b18o)])) _
          refine st44.trans ?_
          refine XS.istore X44.here hx rfl (hb hby at_156) rfl (l' := #[.val (.long q1), .second, .val (.long q2), .second, .val (.long q3), .second, .val (.long q4), .second, .val (.int p5), .val (.int p6), .val (.long b1), .second, .val (.long b2), .second, .val (.long b3), .second, .val (.ref b4o), .val (.ref b10o), .val (.ref b18o), .val (.ref b30o), .val (.int r44), .unset, .unset]) rfl ?_
          refine XS.aload X44.here hx rfl (hb hby at_158) rfl rfl ?_
          refine XS.aload X44.here hx rfl (hb hby at_160) rfl rfl ?_
          refine st49.trans ?_
          refine XS.istore X49.here hx rfl (hb hby at_165) rfl (l' := #[.val (.long q1), .second, .val (.long q2), .second, .val (.long q3), .second, .val (.long q4), .second, .val (.int p5), .val (.int p6), .val (.long b1), .second, .val (.long b2), .second, .val (.long b3), .second, .val (.ref b4o), .val (.ref b10o), .val (.ref b18o), .val (.ref b30o), .val (.int r44), .val (.int r49), .unset]) rfl ?_
          refine XS.lloadN X49.here hx rfl (hb hby at_167) rfl ?_
          refine XS.lloadN X49.here hx rfl (hb hby at_168) rfl ?_
          refine XS.lload X49.here hx rfl (hb hby at_169) rfl ?_
          refine st50 _ ?_
          refine XS.lload X50.here hx rfl (hb hby at_174) rfl ?_
          refine XS.lload X50.here hx rfl (hb hby at_176) rfl ?_
          refine XS.lload X50.here hx rfl (hb hby at_178) rfl ?_
          refine st68 _ ?_
          refine st96.trans ?_
          refine XS.istore X96.here hx rfl (hb hby at_186) rfl (l' := #[.val (.long q1), .second, .val (.long q2), .second, .val (.long q3), .second, .val (.long q4), .second, .val (.int p5), .val (.int p6), .val (.long b1), .second, .val (.long b2), .second, .val (.long b3), .second, .val (.ref b4o), .val (.ref b10o), .val (.ref b18o), .val (.ref b30o), .val (.int r44), .val (.int r49), .val (.int r96)]) rfl ?_
          show Steps p.tables e below (T96.setTop (mkF m 188 #[.val (.long q1), .second, .val (.long q2), .second, .val (.long q3), .second, .val (.long q4), .second, .val (.int p5), .val (.int p6), .val (.long b1), .second, .val (.long b2), .second, .val (.long b3), .second, .val (.ref b4o), .val (.ref b10o), .val (.ref b18o), .val (.ref b30o), .val (.int r44), .val (.int r49), .val (.int r96)] [])) _
          rw [(hr44.trans (if_neg hP))]
          show Steps p.tables e below (T96.setTop (mkF m 188 #[.val (.long q1), .second, .val (.long q2), .second, .val (.long q3), .second, .val (.long q4), .second, .val (.int p5), .val (.int p6), .val (.long b1), .second, .val (.long b2), .second, .val (.long b3), .second, .val (.ref b4o), .val (.ref b10o), .val (.ref b18o), .val (.ref b30o), .val (.int (0 : Int32)), .val (.int r49), .val (.int r96)] [])) _
          rw [(hr49.trans (if_neg (fun w => hP ⟨w.1.symm, w.2.1.symm, w.2.2.symm⟩)))]
          show Steps p.tables e below (T96.setTop (mkF m 188 #[.val (.long q1), .second, .val (.long q2), .second, .val (.long q3), .second, .val (.long q4), .second, .val (.int p5), .val (.int p6), .val (.long b1), .second, .val (.long b2), .second, .val (.long b3), .second, .val (.ref b4o), .val (.ref b10o), .val (.ref b18o), .val (.ref b30o), .val (.int (0 : Int32)), .val (.int (0 : Int32)), .val (.int r96)] [])) _
          refine XS.iload X96.here hx rfl (hb hby at_188) rfl ?_
          refine XS.iload X96.here hx rfl (hb hby at_190) rfl ?_
          refine XS.ifYes X96.here hx rfl (pc0 := 192) (pc' := 199) rfl (hb hby at_192) rfl ((if0 _ _).trans (feq (fun w => hP (hr96.mp w))).2) (by decide) (by decide) ?_
          refine XS.iconst X96.here hx rfl (hb hby at_199) ?_
          refine XS.icmpNo X96.here hx rfl (hb hby at_200) rfl (teq (by decide)).2 ?_
          refine XS.iload X96.here hx rfl (hb hby at_203) rfl ?_
          refine XS.iload X96.here hx rfl (hb hby at_205) rfl ?_
          refine XS.icmpNo X96.here hx rfl (hb hby at_207) rfl (teq (by decide)).2 ?_
          refine XS.iconst X96.here hx rfl (hb hby at_210) ?_
          refine XS.goto X96.here hx rfl (pc0 := 211) (pc' := 215) rfl (hb hby at_211) (by decide) (by decide) ?_
          show Steps p.tables e below (T96.setTop (mkF m 215 #[.val (.long q1), .second, .val (.long q2), .second, .val (.long q3), .second, .val (.long q4), .second, .val (.int p5), .val (.int p6), .val (.long b1), .second, .val (.long b2), .second, .val (.long b3), .second, .val (.ref b4o), .val (.ref b10o), .val (.ref b18o), .val (.ref b30o), .val (.int (0 : Int32)), .val (.int (0 : Int32)), .val (.int r96)] [(.int (1 : Int32))])) _
          exact retN X96 hx (t := .boolean) Bd.returns (by simp) (hb hby at_215) hr
        · show Qrm0 Z q1 q2 q3 q4 p5 p6 d0 kd el ee ke eo G1 mr h0 n0 _ T96.heap _
          exact ⟨rfl, N96⟩
    · have f104 := (f17.keep KC16 (allS b10 all0))
      have f105 := ((E8'.ext E10).keep KC16)
      have f106 := ((FM8'.ext E10).keep KC16 (ninS ne15 nin0))
      have f107 := ((FE8'.ext E10).keep KC16 (ninS ne15 nin0))
      have f108 := ((FZ8'.ext E10).keep KC16 (ninS ne15 nin0))
      obtain ⟨_, _, ⟨T103, Lq103, kq103, nq103⟩, -, X103, ⟨Lc103, hQ103, lq103, yq103, zq103⟩, st103⟩ := Jvm.LawKit.callS X16 hx (y := (⟨"java/lang/String", "valueOf", "(C)Ljava/lang/String;"⟩ : MethodName)) hown (mvT hZ (hw _ (own_w 103 rfl))) (mvT hZ (hw _ (own_w 104 rfl))) (mvT hZ (hw _ (own_w 105 rfl))) (mvT hZ (hw _ (own_w 106 rfl))) (by decide) (backOf (W := 1) (rSV l Z a0 hw [] ((((p6.toUInt32 >>> ((10 : Int32) &&& 31).toUInt32).toInt32) &&& (255 : Int32)).toUInt32.toUInt16.toUInt32.toInt32) G1 T16.heap n0 Z16 (own_c255 _) f104 O_2 P5) hZ (hw _ (own_w 106 rfl)) (hw _ (own_w 105 rfl)) (by decide) (by decide)) (g := (mkF m 110 #[.val (.long q1), .second, .val (.long q2), .second, .val (.long q3), .second, .val (.long q4), .second, .val (.int p5), .val (.int p6), .val (.long b1), .second, .val (.long b2), .second, .val (.long b3), .second, .val (.ref b4o), .val (.ref b10o), .unset, .unset, .unset, .unset, .unset] [(.int ((((p6.toUInt32 >>> ((10 : Int32) &&& 31).toUInt32).toInt32) &&& (255 : Int32)).toUInt32.toUInt16.toUInt32.toInt32)), (.ref b10o)])) rfl (by rw [hml]; rfl) (argsL := [(.int ((((p6.toUInt32 >>> ((10 : Int32) &&& 31).toUInt32).toInt32) &&& (255 : Int32)).toUInt32.toUInt16.toUInt32.toInt32))]) (rest := [(.ref b10o)]) (lenOf pd_22 rfl) rfl (by show 2 * 0 + _ ≤ _; exact Nat.le_of_eq rfl) (hb hby at_110) (fun _ _ => ⟨rfl, rfl, (by decide : 2 + 2 ≤ _), (by decide : 6 + 5 ≤ _)⟩)
      dsimp only [Pt.U, Pt.locs, Pt.cells, Pt.slots] at X103 lq103 yq103 zq103 st103 hQ103
      subst lq103 yq103 zq103
      obtain ⟨o103, rfl, N103q, KC103, go103, gk103, u103⟩ := hQ103
      have N103 := Fr.app N16 N103q
      have Z103 : n0 ≤ T103.heap.size := Nat.le_trans Z16 KC103.1
      have ne109 : d0 ≠ o103 := Nat.ne_of_lt (Nat.lt_of_lt_of_le (O_AD.ext f104.2).lt gk103)
      have ne110 : el ≠ o103 := Nat.ne_of_lt (Nat.lt_of_lt_of_le (O_FL.ext f104.2).lt gk103)
      have ne111 : ee ≠ o103 := Nat.ne_of_lt (Nat.lt_of_lt_of_le (O_AE.ext f104.2).lt gk103)
      have ne112 : b4o ≠ o103 := Nat.ne_of_lt (Nat.lt_of_lt_of_le f108.lt gk103)
      have ne113 : b10o ≠ o103 := Nat.ne_of_lt (Nat.lt_of_lt_of_le FZ16'.lt gk103)
      have f115 := (f104.keep KC103 all0)
      have f116 := (f105.keep KC103)
      have f117 := (f106.keep KC103 nin0)
      have f118 := (f107.keep KC103 nin0)
      have f119 := (f108.keep KC103 nin0)
      have f120 := (E16'.keep KC103)
      have f121 := (FM16'.keep KC103 nin0)
      have f122 := (FE16'.keep KC103 nin0)
      have f123 := (FZ16'.keep KC103 nin0)
      obtain ⟨cq114, kz114, q114a, q114b, q114c⟩ := isOf hZ rfl f120
      obtain ⟨_, _, ⟨T114, Lq114, kq114, nq114⟩, -, X114, ⟨Lc114, hQ114, lq114, yq114, zq114⟩, st114⟩ := X103.virtualBack hx (y := (⟨"java/util/ArrayList", "add", "(Ljava/lang/Object;)Z"⟩ : MethodName)) (z := (⟨"java/util/ArrayList", "add", "(Ljava/lang/Object;)Z"⟩ : MethodName)) hown (mvT hZ (hw _ (own_w 127 rfl))) (mvT hZ (hw _ (own_w 128 rfl))) (notFace_of_selects (args := #[]) (mvT hZ (hw _ (own_w 130 rfl)))) (mvT hZ (hw _ (own_w 130 rfl))) (mvT hZ (hw _ (own_w 129 rfl))) (by decide) (backOf (W := 0) (rA l Z a0 hw [] b10o o103 d0 kd T103.heap n0 Z103 f120 f121 f122 f123 b10 f115 O_D O_AD u103) hZ (hw _ (own_w 131 rfl)) (hw _ (own_w 2 rfl)) (by decide) (by decide)) q114a q114c (g := (mkF m 113 #[.val (.long q1), .second, .val (.long q2), .second, .val (.long q3), .second, .val (.long q4), .second, .val (.int p5), .val (.int p6), .val (.long b1), .second, .val (.long b2), .second, .val (.long b3), .second, .val (.ref b4o), .val (.ref b10o), .unset, .unset, .unset, .unset, .unset] [(.ref o103), (.ref b10o)])) rfl (by rw [hml]; rfl) (Steps.refl _) (argsL := [(.ref o103)]) (rest := []) (lenOf pd_23 rfl) rfl (by show 2 * 0 + _ ≤ _; exact Nat.le_of_eq rfl) (hb hby at_113) (fun _ _ => ⟨rfl, rfl, (by decide : 4 + 1 ≤ _), (by decide : 11 + 10 ≤ _)⟩)
      dsimp only [Pt.U, Pt.locs, Pt.cells, Pt.slots] at X114 lq114 yq114 zq114 st114 hQ114
      subst lq114 yq114 zq114
      obtain ⟨na114, nk114, rfl, N114q, KC114, gn114, gk114, E114', FM114', FE114', FZ114', AV114', EX114', OV114'⟩ := hQ114
      have N114 := Fr.app N103 N114q
      have Z114 : n0 ≤ T114.heap.size := Nat.le_trans Z103 KC114.1
      have ne124 : d0 ≠ na114 := Nat.ne_of_lt (Nat.lt_of_lt_of_le (O_AD.ext f115.2).lt gk114)
      have ne125 : el ≠ na114 := Nat.ne_of_lt (Nat.lt_of_lt_of_le (O_FL.ext f115.2).lt gk114)
      have ne126 : ee ≠ na114 := Nat.ne_of_lt (Nat.lt_of_lt_of_le (O_AE.ext f115.2).lt gk114)
      have ne127 : b4o ≠ na114 := Nat.ne_of_lt (Nat.lt_of_lt_of_le f119.lt gk114)
      have ne128 : b10o ≠ na114 := Nat.ne_of_lt (Nat.lt_of_lt_of_le f123.lt gk114)
      have ne129 : o103 ≠ na114 := Nat.ne_of_lt (Nat.lt_of_lt_of_le u103.lt gk114)
      obtain ⟨T130, h130, X130, e130, E130, A130, D130, -, st130⟩ := newO X114 hx hZ hown (hw _ (own_w 26 rfl)) (hw _ (own_w 27 rfl)) (hw _ (own_w 28 rfl)) rfl (g := (mkF m 117 #[.val (.long q1), .second, .val (.long q2), .second, .val (.long q3), .second, .val (.long q4), .second, .val (.int p5), .val (.int p6), .val (.long b1), .second, .val (.long b2), .second, .val (.long b3), .second, .val (.ref b4o), .val (.ref b10o), .unset, .unset, .unset, .unset, .unset] [])) rfl (hb hby at_117) (by decide) (by decide)
      obtain ⟨b130o, g130⟩ : ∃ z, z = T114.heap.size := ⟨_, rfl⟩
      have b130 : n0 ≤ b130o := Nat.le_trans Z114 (Nat.le_of_eq g130.symm)
      have f131 := (f115.keep KC114 (allS b10 all0))
      have ne132 : d0 ≠ b130o := Nat.ne_of_lt (Nat.lt_of_lt_of_le (O_AD.ext f131.2).lt (Nat.le_of_eq g130.symm))
      have ne133 : el ≠ b130o := Nat.ne_of_lt (Nat.lt_of_lt_of_le (O_EL.ext f131.2).lt (Nat.le_of_eq g130.symm))
      have ne134 : ee ≠ b130o := Nat.ne_of_lt (Nat.lt_of_lt_of_le (O_AE.ext f131.2).lt (Nat.le_of_eq g130.symm))
      have f135 := (f116.keep KC114)
      have ne136 : b4o ≠ b130o := Nat.ne_of_lt (Nat.lt_of_lt_of_le f135.lt (Nat.le_of_eq g130.symm))
      have ne137 : b10o ≠ b130o := Nat.ne_of_lt (Nat.lt_of_lt_of_le E114'.lt (Nat.le_of_eq g130.symm))
      have f138 := (u103.keep KC114)
      have ne139 : o103 ≠ b130o := Nat.ne_of_lt (Nat.lt_of_lt_of_le f138.lt (Nat.le_of_eq g130.symm))
      have ne140 : na114 ≠ b130o := Nat.ne_of_lt (Nat.lt_of_lt_of_le AV114'.lt (Nat.le_of_eq g130.symm))
      rw [← g130] at A130 D130 st130
      have Z130 : n0 ≤ h130.size := Nat.le_trans Z114 E130.1
      have F130_68 : Fld Z h130 b130o "com/example/zorgbrug/zorgbrug/fhir/Version" "major" "J" (.long (0 : Int64)) := D130 (Or.inr (hw _ (own_w 68 rfl))) (ty := .long) (by decide)
      have F130_70 : Fld Z h130 b130o "com/example/zorgbrug/zorgbrug/fhir/Version" "minor" "J" (.long (0 : Int64)) := D130 (Or.inr (hw _ (own_w 70 rfl))) (ty := .long) (by decide)
      have F130_72 : Fld Z h130 b130o "com/example/zorgbrug/zorgbrug/fhir/Version" "patch" "J" (.long (0 : Int64)) := D130 (Or.inr (hw _ (own_w 72 rfl))) (ty := .long) (by decide)
      have F130_74 : Fld Z h130 b130o "com/example/zorgbrug/zorgbrug/fhir/Version" "preRelease" "Ljava/util/List;" .null := D130 (Or.inr (hw _ (own_w 74 rfl))) (ty := (.object "java/util/List")) (by decide)
      have f142 := (f135.ext E130)
      have f143 := ((f119.keep KC114 (ninS ne15 nin0)).ext E130)
      have f144 := (f131.ext E130)
      obtain ⟨_, _, ⟨T141, Lq141, kq141, nq141⟩, -, X141, ⟨Lc141, hQ141, lq141, yq141, zq141⟩, st141⟩ := X130.specialBack hx (y := (⟨"com/example/zorgbrug/zorgbrug/fhir/Version", "<init>", "(JJJLjava/util/List;)V"⟩ : MethodName)) rfl hown (mvT hZ (hw _ (own_w 29 rfl))) (mvT hZ (hw _ (own_w 30 rfl))) (mvT hZ (hw _ (own_w 31 rfl))) (by decide) (backOf (W := 1) (rVIA l Z a0 hw [] b130o q1 q2 q3 b4o el h130 n0 Z130 A130 F130_68 F130_70 F130_72 F130_74 b130 (Ne.symm ne136) f142 f143 f144 O_L) hZ (hw _ (own_w 31 rfl)) (hw _ (own_w 28 rfl)) (by decide) (by decide)) (g := (mkF m 127 #[.val (.long q1), .second, .val (.long q2), .second, .val (.long q3), .second, .val (.long q4), .second, .val (.int p5), .val (.int p6), .val (.long b1), .second, .val (.long b2), .second, .val (.long b3), .second, .val (.ref b4o), .val (.ref b10o), .unset, .unset, .unset, .unset, .unset] [(.ref b4o), (.long q3), (.long q2), (.long q1), (.ref b130o), (.ref b130o)])) rfl (by rw [hml]; rfl) (Steps.refl _) (a := b130o) (argsL := [(.long q1), (.long q2), (.long q3), (.ref b4o)]) (rest := [(.ref b130o)]) (lenOf pd_16 rfl) rfl (by show 2 * 0 + _ ≤ _; exact Nat.le_of_eq rfl) (hb hby at_127) (fun _ _ => ⟨rfl, e130, (by decide : 6 + 0 ≤ _), (by decide : 25 + 0 ≤ _)⟩)
      dsimp only [Pt.U, Pt.locs, Pt.cells, Pt.slots] at X141 lq141 yq141 zq141 st141 hQ141
      subst lq141 yq141 zq141
      obtain ⟨rfl, N141q, KC141, u141⟩ := hQ141
      have N141 := Fr.app N114 N141q
      have Z141 : n0 ≤ T141.heap.size := Nat.le_trans Z130 KC141.1
      obtain ⟨E141', F141_0, F141_1, F141_2, F141_3⟩ := u141
      obtain ⟨T145, h145, X145, e145, E145, A145, D145, -, st145⟩ := newO X141 hx hZ hown (hw _ (own_w 26 rfl)) (hw _ (own_w 27 rfl)) (hw _ (own_w 28 rfl)) rfl (g := (mkF m 132 #[.val (.long q1), .second, .val (.long q2), .second, .val (.long q3), .second, .val (.long q4), .second, .val (.int p5), .val (.int p6), .val (.long b1), .second, .val (.long b2), .second, .val (.long b3), .second, .val (.ref b4o), .val (.ref b10o), .val (.ref b130o), .unset, .unset, .unset, .unset] [])) rfl (hb hby at_132) (by decide) (by decide)
      obtain ⟨b145o, g145⟩ : ∃ z, z = T141.heap.size := ⟨_, rfl⟩
      have b145 : n0 ≤ b145o := Nat.le_trans Z141 (Nat.le_of_eq g145.symm)
      have f146 := (f144.keep KC141 (allS b130 all0))
      have ne147 : d0 ≠ b145o := Nat.ne_of_lt (Nat.lt_of_lt_of_le (O_AD.ext f146.2).lt (Nat.le_of_eq g145.symm))
      have ne148 : el ≠ b145o := Nat.ne_of_lt (Nat.lt_of_lt_of_le (O_EL.ext f146.2).lt (Nat.le_of_eq g145.symm))
      have ne149 : ee ≠ b145o := Nat.ne_of_lt (Nat.lt_of_lt_of_le (O_AE.ext f146.2).lt (Nat.le_of_eq g145.symm))
      have f150 := (f142.keep KC141)
      have ne151 : b4o ≠ b145o := Nat.ne_of_lt (Nat.lt_of_lt_of_le f150.lt (Nat.le_of_eq g145.symm))
      have f152 := ((E114'.ext E130).keep KC141)
      have ne153 : b10o ≠ b145o := Nat.ne_of_lt (Nat.lt_of_lt_of_le f152.lt (Nat.le_of_eq g145.symm))
      have f154 := ((f138.ext E130).keep KC141)
      have ne155 : o103 ≠ b145o := Nat.ne_of_lt (Nat.lt_of_lt_of_le f154.lt (Nat.le_of_eq g145.symm))
      have f156 := ((AV114'.ext E130).keep KC141 (ninS ne140 nin0))
      have ne157 : na114 ≠ b145o := Nat.ne_of_lt (Nat.lt_of_lt_of_le f156.lt (Nat.le_of_eq g145.symm))
      have ne158 : b130o ≠ b145o := Nat.ne_of_lt (Nat.lt_of_lt_of_le E141'.lt (Nat.le_of_eq g145.symm))
      rw [← g145] at A145 D145 st145
      have Z145 : n0 ≤ h145.size := Nat.le_trans Z141 E145.1
      have F145_68 : Fld Z h145 b145o "com/example/zorgbrug/zorgbrug/fhir/Version" "major" "J" (.long (0 : Int64)) := D145 (Or.inr (hw _ (own_w 68 rfl))) (ty := .long) (by decide)
      have F145_70 : Fld Z h145 b145o "com/example/zorgbrug/zorgbrug/fhir/Version" "minor" "J" (.long (0 : Int64)) := D145 (Or.inr (hw _ (own_w 70 rfl))) (ty := .long) (by decide)
      have F145_72 : Fld Z h145 b145o "com/example/zorgbrug/zorgbrug/fhir/Version" "patch" "J" (.long (0 : Int64)) := D145 (Or.inr (hw _ (own_w 72 rfl))) (ty := .long) (by decide)
      have F145_74 : Fld Z h145 b145o "com/example/zorgbrug/zorgbrug/fhir/Version" "preRelease" "Ljava/util/List;" .null := D145 (Or.inr (hw _ (own_w 74 rfl))) (ty := (.object "java/util/List")) (by decide)
      have f160 := (f152.ext E145)
      have f161 := (((FE114'.ext E130).keep KC141 (ninS ne137 nin0)).ext E145)
      have f162 := (((FZ114'.ext E130).keep KC141 (ninS ne137 nin0)).ext E145)
      have f163 := (f156.ext E145)
      have f164 := (f154.ext E145)
      have f165 := (((EX114'.ext E130).keep KC141).ext E145)
      have f166 := (f146.ext E145)
      obtain ⟨_, _, ⟨T159, Lq159, kq159, nq159⟩, -, X159, ⟨Lc159, hQ159, lq159, yq159, zq159⟩, st159⟩ := X145.specialBack hx (y := (⟨"com/example/zorgbrug/zorgbrug/fhir/Version", "<init>", "(JJJLjava/util/List;)V"⟩ : MethodName)) rfl hown (mvT hZ (hw _ (own_w 29 rfl))) (mvT hZ (hw _ (own_w 30 rfl))) (mvT hZ (hw _ (own_w 31 rfl))) (by decide) (backOf (W := 1) (rVIB l Z a0 hw [] b145o b1 b2 b3 b10o na114 o103 nk114 mr eo h145 n0 Z145 A145 F145_68 F145_70 F145_72 F145_74 b145 (Ne.symm ne153) f160 f161 f162 f163 f164 f165 M f166 O_E) hZ (hw _ (own_w 31 rfl)) (hw _ (own_w 28 rfl)) (by decide) (by decide)) (g := (mkF m 144 #[.val (.long q1), .second, .val (.long q2), .second, .val (.long q3), .second, .val (.long q4), .second, .val (.int p5), .val (.int p6), .val (.long b1), .second, .val (.long b2), .second, .val (.long b3), .second, .val (.ref b4o), .val (.ref b10o), .val (.ref b130o), .unset, .unset, .unset, .unset] [(.ref b10o), (.long b3), (.long b2), (.long b1), (.ref b145o), (.ref b145o)])) rfl (by rw [hml]; rfl) (Steps.refl _) (a := b145o) (argsL := [(.long b1), (.long b2), (.long b3), (.ref b10o)]) (rest := [(.ref b145o)]) (lenOf pd_16 rfl) rfl (by show 2 * 0 + _ ≤ _; exact Nat.le_of_eq rfl) (hb hby at_144) (fun _ _ => ⟨rfl, e145, (by decide : 7 + 2 ≤ _), (by decide : 29 + 3 ≤ _)⟩)
      dsimp only [Pt.U, Pt.locs, Pt.cells, Pt.slots] at X159 lq159 yq159 zq159 st159 hQ159
      subst lq159 yq159 zq159
      obtain ⟨rfl, N159q, KC159, u159⟩ := hQ159
      have N159 := Fr.app N141 N159q
      have Z159 : n0 ≤ T159.heap.size := Nat.le_trans Z145 KC159.1
      obtain ⟨E159', F159_0, F159_1, F159_2⟩ := u159
      have f168 := ((F141_0.ext E145).keep KC159 (ninS ne158 nin0))
      have f169 := ((F141_1.ext E145).keep KC159 (ninS ne158 nin0))
      have f170 := ((F141_2.ext E145).keep KC159 (ninS ne158 nin0))
      have f171 := ((E141'.ext E145).keep KC159)
      obtain ⟨cq167, kz167, q167a, q167b, q167c⟩ := isOf hZ rfl f171
      obtain ⟨_, _, ⟨T167, Lq167, kq167, nq167⟩, -, X167, ⟨Lc167, hQ167, lq167, yq167, zq167⟩, st167⟩ := X159.virtualBack hx (y := (⟨"com/example/zorgbrug/zorgbrug/fhir/Version", "sameRelease", "(Lcom/example/zorgbrug/zorgbrug/fhir/Version;)Z"⟩ : MethodName)) (z := (⟨"com/example/zorgbrug/zorgbrug/fhir/Version", "sameRelease", "(Lcom/example/zorgbrug/zorgbrug/fhir/Version;)Z"⟩ : MethodName)) hown (mvT hZ (hw _ (own_w 75 rfl))) (mvT hZ (hw _ (own_w 76 rfl))) (notFace_of_selects (args := #[]) (mvT hZ (hw _ (own_w 78 rfl)))) (mvT hZ (hw _ (own_w 78 rfl))) (mvT hZ (hw _ (own_w 77 rfl))) (by decide) (backOf (W := 0) (rSR l Z a0 hw [] b130o b145o q1 q2 q3 b1 b2 b3 T159.heap n0 Z159 f168 f169 f170 F159_0 F159_1 F159_2) hZ (hw _ (own_w 79 rfl)) (hw _ (own_w 28 rfl)) (by decide) (by decide)) q167a q167c (g := (mkF m 153 #[.val (.long q1), .second, .val (.long q2), .second, .val (.long q3), .second, .val (.long q4), .second, .val (.int p5), .val (.int p6), .val (.long b1), .second, .val (.long b2), .second, .val (.long b3), .second, .val (.ref b4o), .val (.ref b10o), .val (.ref b130o), .val (.ref b145o), .unset, .unset, .unset] [(.ref b145o), (.ref b130o)])) rfl (by rw [hml]; rfl) (Steps.refl _) (argsL := [(.ref b145o)]) (rest := []) (lenOf pd_19 rfl) rfl (by show 2 * 0 + _ ≤ _; exact Nat.le_of_eq rfl) (hb hby at_153) (fun _ _ => ⟨rfl, rfl, (by decide : 9 + 0 ≤ _), (by decide : 32 + 0 ≤ _)⟩)
      dsimp only [Pt.U, Pt.locs, Pt.cells, Pt.slots] at X167 lq167 yq167 zq167 st167 hQ167
      subst lq167 yq167 zq167
      obtain ⟨r167, hr167, rfl, N167q, e167⟩ := hQ167
      have N167 := Fr.app N159 N167q
      obtain ⟨cq172, kz172, q172a, q172b, q172c⟩ := isOf hZ e167 E159'
      obtain ⟨_, _, ⟨T172, Lq172, kq172, nq172⟩, -, X172, ⟨Lc172, hQ172, lq172, yq172, zq172⟩, st172⟩ := X167.virtualBack hx (y := (⟨"com/example/zorgbrug/zorgbrug/fhir/Version", "sameRelease", "(Lcom/example/zorgbrug/zorgbrug/fhir/Version;)Z"⟩ : MethodName)) (z := (⟨"com/example/zorgbrug/zorgbrug/fhir/Version", "sameRelease", "(Lcom/example/zorgbrug/zorgbrug/fhir/Version;)Z"⟩ : MethodName)) hown (mvT hZ (hw _ (own_w 75 rfl))) (mvT hZ (hw _ (own_w 76 rfl))) (notFace_of_selects (args := #[]) (mvT hZ (hw _ (own_w 78 rfl)))) (mvT hZ (hw _ (own_w 78 rfl))) (mvT hZ (hw _ (own_w 77 rfl))) (by decide) (backOf (W := 0) (rSR l Z a0 hw [] b145o b130o b1 b2 b3 q1 q2 q3 T159.heap n0 Z159 F159_0 F159_1 F159_2 f168 f169 f170) hZ (hw _ (own_w 79 rfl)) (hw _ (own_w 28 rfl)) (by decide) (by decide)) q172a q172c (g := (mkF m 162 #[.val (.long q1), .second, .val (.long q2), .second, .val (.long q3), .second, .val (.long q4), .second, .val (.int p5), .val (.int p6), .val (.long b1), .second, .val (.long b2), .second, .val (.long b3), .second, .val (.ref b4o), .val (.ref b10o), .val (.ref b130o), .val (.ref b145o), .val (.int r167), .unset, .unset] [(.ref b130o), (.ref b145o)])) rfl (by rw [hml]; rfl) (Steps.refl _) (argsL := [(.ref b130o)]) (rest := []) (lenOf pd_19 rfl) rfl (by show 2 * 0 + _ ≤ _; exact Nat.le_of_eq rfl) (hb hby at_162) (fun _ _ => ⟨rfl, e167, (by decide : 9 + 0 ≤ _), (by decide : 32 + 0 ≤ _)⟩)
      dsimp only [Pt.U, Pt.locs, Pt.cells, Pt.slots] at X172 lq172 yq172 zq172 st172 hQ172
      subst lq172 yq172 zq172
      obtain ⟨r172, hr172, rfl, N172q, e172⟩ := hQ172
      have N172 := Fr.app N167 N172q
      have f174 := (f166.keep KC159 (allS b145 all0))
      have f175 := ((f150.ext E145).keep KC159)
      have f176 := (((((f117.keep KC114 (ninS ne15 nin0)).ext E130).keep KC141 (ninS ne136 nin0)).ext E145).keep KC159 (ninS ne151 nin0))
      have f177 := (((((f118.keep KC114 (ninS ne15 nin0)).ext E130).keep KC141 (ninS ne136 nin0)).ext E145).keep KC159 (ninS ne151 nin0))
      have f178 := (((f143.keep KC141 (ninS ne136 nin0)).ext E145).keep KC159 (ninS ne151 nin0))
      have f179 := (f160.keep KC159)
      have f180 := ((((FM114'.ext E130).keep KC141 (ninS ne137 nin0)).ext E145).keep KC159 (ninS ne153 nin0))
      have f181 := (f161.keep KC159 (ninS ne153 nin0))
      have f182 := (f162.keep KC159 (ninS ne153 nin0))
      have f183 := (f164.keep KC159)
      have f184 := (f163.keep KC159 (ninS ne157 nin0))
      have f185 := (f165.keep KC159)
      have f186 := ((F141_3.ext E145).keep KC159 (ninS ne158 nin0))
      obtain ⟨_, _, ⟨T173, Lq173, kq173, nq173⟩, -, X173, ⟨Lc173, hQ173, lq173, yq173, zq173⟩, st173⟩ := Jvm.LawKit.callS X172 hx (y := (⟨"com/example/zorgbrug/zorgbrug/fhir/Version", "release", "(JJJ)Lcom/example/zorgbrug/zorgbrug/fhir/Version;"⟩ : MethodName)) hown (mvT hZ (hw _ (own_w 80 rfl))) (mvT hZ (hw _ (own_w 81 rfl))) (mvT hZ (hw _ (own_w 28 rfl))) (mvT hZ (hw _ (own_w 82 rfl))) (by decide) (backOf (W := 0) (rRL l Z a0 hw [] q1 q2 q3 el T159.heap n0 Z159 O_EL O_FN f174 O_L) hZ (hw _ (own_w 82 rfl)) (hw _ (own_w 28 rfl)) (by decide) (by decide)) (g := (mkF m 171 #[.val (.long q1), .second, .val (.long q2), .second, .val (.long q3), .second, .val (.long q4), .second, .val (.int p5), .val (.int p6), .val (.long b1), .second, .val (.long b2), .second, .val (.long b3), .second, .val (.ref b4o), .val (.ref b10o), .val (.ref b130o), .val (.ref b145o), .val (.int r167), .val (.int r172), .unset] [(.long q3), (.long q2), (.long q1)])) rfl (by rw [hml]; rfl) (argsL := [(.long q1), (.long q2), (.long q3)]) (rest := []) (lenOf pd_20 rfl) rfl (by show 2 * 0 + _ ≤ _; exact Nat.le_of_eq rfl) (hb hby at_171) (fun _ _ => ⟨rfl, e172, (by decide : 9 + 1 ≤ _), (by decide : 32 + 4 ≤ _)⟩)
      dsimp only [Pt.U, Pt.locs, Pt.cells, Pt.slots] at X173 lq173 yq173 zq173 st173 hQ173
      subst lq173 yq173 zq173
      obtain ⟨o173, rfl, N173q, KC173, go173, gk173, u173⟩ := hQ173
      have N173 := Fr.app N172 N173q
      have Z173 : n0 ≤ T173.heap.size := Nat.le_trans Z159 KC173.1
      have ne187 : d0 ≠ o173 := Nat.ne_of_lt (Nat.lt_of_lt_of_le (O_AD.ext f174.2).lt gk173)
      have ne188 : el ≠ o173 := Nat.ne_of_lt (Nat.lt_of_lt_of_le (O_FL.ext f174.2).lt gk173)
      have ne189 : ee ≠ o173 := Nat.ne_of_lt (Nat.lt_of_lt_of_le (O_AE.ext f174.2).lt gk173)
      have ne190 : b4o ≠ o173 := Nat.ne_of_lt (Nat.lt_of_lt_of_le f178.lt gk173)
      have ne191 : b10o ≠ o173 := Nat.ne_of_lt (Nat.lt_of_lt_of_le f182.lt gk173)
      have ne192 : o103 ≠ o173 := Nat.ne_of_lt (Nat.lt_of_lt_of_le f183.lt gk173)
      have ne193 : na114 ≠ o173 := Nat.ne_of_lt (Nat.lt_of_lt_of_le f185.lt gk173)
      have ne194 : b130o ≠ o173 := Nat.ne_of_lt (Nat.lt_of_lt_of_le f186.lt gk173)
      have ne195 : b145o ≠ o173 := Nat.ne_of_lt (Nat.lt_of_lt_of_le F159_2.lt gk173)
      obtain ⟨E173', F173_0, F173_1, F173_2, F173_3⟩ := u173
      have f197 := (f174.keep KC173 all0)
      have f198 := (f175.keep KC173)
      have f199 := (f176.keep KC173 nin0)
      have f200 := (f177.keep KC173 nin0)
      have f201 := (f178.keep KC173 nin0)
      have f202 := (f179.keep KC173)
      have f203 := (f180.keep KC173 nin0)
      have f204 := (f181.keep KC173 nin0)
      have f205 := (f182.keep KC173 nin0)
      have f206 := (f183.keep KC173)
      have f207 := (f184.keep KC173 nin0)
      have f208 := (f185.keep KC173)
      have f209 := (f171.keep KC173)
      have f210 := (f168.keep KC173 nin0)
      have f211 := (f169.keep KC173 nin0)
      have f212 := (f170.keep KC173 nin0)
      have f213 := (f186.keep KC173 nin0)
      have f214 := (E159'.keep KC173)
      have f215 := (F159_0.keep KC173 nin0)
      have f216 := (F159_1.keep KC173 nin0)
      have f217 := (F159_2.keep KC173 nin0)
      obtain ⟨_, _, ⟨T196, Lq196, kq196, nq196⟩, -, X196, ⟨Lc196, hQ196, lq196, yq196, zq196⟩, st196⟩ := Jvm.LawKit.callS X173 hx (y := (⟨"com/example/zorgbrug/zorgbrug/fhir/Version", "release", "(JJJ)Lcom/example/zorgbrug/zorgbrug/fhir/Version;"⟩ : MethodName)) hown (mvT hZ (hw _ (own_w 80 rfl))) (mvT hZ (hw _ (own_w 81 rfl))) (mvT hZ (hw _ (own_w 28 rfl))) (mvT hZ (hw _ (own_w 82 rfl))) (by decide) (backOf (W := 1) (rRL l Z a0 hw [] b1 b2 b3 el T173.heap n0 Z173 O_EL O_FN f197 O_L) hZ (hw _ (own_w 82 rfl)) (hw _ (own_w 28 rfl)) (by decide) (by decide)) (g := (mkF m 180 #[.val (.long q1), .second, .val (.long q2), .second, .val (.long q3), .second, .val (.long q4), .second, .val (.int p5), .val (.int p6), .val (.long b1), .second, .val (.long b2), .second, .val (.long b3), .second, .val (.ref b4o), .val (.ref b10o), .val (.ref b130o), .val (.ref b145o), .val (.int r167), .val (.int r172), .unset] [(.long b3), (.long b2), (.long b1), (.ref o173)])) rfl (by rw [hml]; rfl) (argsL := [(.long b1), (.long b2), (.long b3)]) (rest := [(.ref o173)]) (lenOf pd_20 rfl) rfl (by show 2 * 0 + _ ≤ _; exact Nat.le_of_eq rfl) (hb hby at_180) (fun _ _ => ⟨rfl, rfl, (by decide : 10 + 1 ≤ _), (by decide : 36 + 4 ≤ _)⟩)
      dsimp only [Pt.U, Pt.locs, Pt.cells, Pt.slots] at X196 lq196 yq196 zq196 st196 hQ196
      subst lq196 yq196 zq196
      obtain ⟨o196, rfl, N196q, KC196, go196, gk196, u196⟩ := hQ196
      have N196 := Fr.app N173 N196q
      have Z196 : n0 ≤ T196.heap.size := Nat.le_trans Z173 KC196.1
      have ne218 : d0 ≠ o196 := Nat.ne_of_lt (Nat.lt_of_lt_of_le (O_AD.ext f197.2).lt gk196)
      have ne219 : el ≠ o196 := Nat.ne_of_lt (Nat.lt_of_lt_of_le (O_FL.ext f197.2).lt gk196)
      have ne220 : ee ≠ o196 := Nat.ne_of_lt (Nat.lt_of_lt_of_le (O_AE.ext f197.2).lt gk196)
      have ne221 : b4o ≠ o196 := Nat.ne_of_lt (Nat.lt_of_lt_of_le f201.lt gk196)
      have ne222 : b10o ≠ o196 := Nat.ne_of_lt (Nat.lt_of_lt_of_le f205.lt gk196)
      have ne223 : o103 ≠ o196 := Nat.ne_of_lt (Nat.lt_of_lt_of_le f206.lt gk196)
      have ne224 : na114 ≠ o196 := Nat.ne_of_lt (Nat.lt_of_lt_of_le f208.lt gk196)
      have ne225 : b130o ≠ o196 := Nat.ne_of_lt (Nat.lt_of_lt_of_le f213.lt gk196)
      have ne226 : b145o ≠ o196 := Nat.ne_of_lt (Nat.lt_of_lt_of_le f217.lt gk196)
      have ne227 : o173 ≠ o196 := Nat.ne_of_lt (Nat.lt_of_lt_of_le F173_3.lt gk196)
      obtain ⟨E196', F196_0, F196_1, F196_2, F196_3⟩ := u196
      have f229 := (F173_0.keep KC196 nin0)
      have f230 := (F173_1.keep KC196 nin0)
      have f231 := (F173_2.keep KC196 nin0)
      have f232 := (F173_3.keep KC196 nin0)
      have f233 := (f197.keep KC196 all0)
      have f234 := (E173'.keep KC196)
      obtain ⟨cq228, kz228, q228a, q228b, q228c⟩ := isOf hZ rfl f234
      obtain ⟨_, _, ⟨T228, Lq228, kq228, nq228⟩, -, X228, ⟨Lc228, hQ228, lq228, yq228, zq228⟩, st228⟩ := X196.virtualBack hx (y := (⟨"com/example/zorgbrug/zorgbrug/fhir/Version", "compareTo", "(Lcom/example/zorgbrug/zorgbrug/fhir/Version;)I"⟩ : MethodName)) (z := (⟨"com/example/zorgbrug/zorgbrug/fhir/Version", "compareTo", "(Lcom/example/zorgbrug/zorgbrug/fhir/Version;)I"⟩ : MethodName)) hown (mvT hZ (hw _ (own_w 94 rfl))) (mvT hZ (hw _ (own_w 95 rfl))) (notFace_of_selects (args := #[]) (mvT hZ (hw _ (own_w 97 rfl)))) (mvT hZ (hw _ (own_w 97 rfl))) (mvT hZ (hw _ (own_w 96 rfl))) (by decide) (backOf (W := 0) (rCT l Z a0 hw [] o173 o196 q1 q2 q3 b1 b2 b3 el ee ke T196.heap n0 Z196 f229 f230 f231 F196_0 F196_1 F196_2 f232 F196_3 f233 O_EL O_FL O_AE) hZ (hw _ (own_w 98 rfl)) (hw _ (own_w 28 rfl)) (by decide) (by decide)) q228a q228c (g := (mkF m 183 #[.val (.long q1), .second, .val (.long q2), .second, .val (.long q3), .second, .val (.long q4), .second, .val (.int p5), .val (.int p6), .val (.long b1), .second, .val (.long b2), .second, .val (.long b3), .second, .val (.ref b4o), .val (.ref b10o), .val (.ref b130o), .val (.ref b145o), .val (.int r167), .val (.int r172), .unset] [(.ref o196), (.ref o173)])) rfl (by rw [hml]; rfl) (Steps.refl _) (argsL := [(.ref o196)]) (rest := []) (lenOf pd_21 rfl) rfl (by show 2 * 0 + _ ≤ _; exact Nat.le_of_eq rfl) (hb hby at_183) (fun _ _ => ⟨rfl, rfl, (by decide : 11 + 0 ≤ _), (by decide : 40 + 0 ≤ _)⟩)
      dsimp only [Pt.U, Pt.locs, Pt.cells, Pt.slots] at X228 lq228 yq228 zq228 st228 hQ228
      subst lq228 yq228 zq228
      obtain ⟨r228, hr228, rfl, N228q, e228⟩ := hQ228
      have N228 := Fr.app N196 N228q
      by_cases hP : q1 = b1 ∧ q2 = b2 ∧ q3 = b3
      · skip
        obtain ⟨fs, hr, hrun, hended, hW, hsame⟩ := X228.leave (v := some (.int (1 : Int32))) (fun h => by rw [Bd.returns] at h; cases h) (BodyLoose.notSynchronized Bd)
        refine ⟨_, _, pre0 _ ?_, hrun, hended, _, _, rfl, ?_, ⟨_, rfl⟩, hW, hsame.mono (by decide) (by decide)⟩
        · show Steps p.tables e below (s₁.setTop (mkF m 0 #[.val (.long q1), .second, .val (.long q2), .second, .val (.long q3), .second, .val (.long q4), .second, .val (.int p5), .val (.int p6), .unset, .unset, .unset, .unset, .unset, .unset, .unset, .unset, .unset, .unset, .unset, .unset, .unset] [])) _
          refine sg1 _ ?_
          refine XS.lstore X0.here hx rfl (hb hby at_13) rfl (l' := #[.val (.long q1), .second, .val (.long q2), .second, .val (.long q3), .second, .val (.long q4), .second, .val (.int p5), .val (.int p6), .val (.long b1), .second, .unset, .unset, .unset, .unset, .unset, .unset, .unset, .unset, .unset, .unset, .unset]) rfl ?_
          refine sg2 _ ?_
          refine XS.lstore X0.here hx rfl (hb hby at_28) rfl (l' := #[.val (.long q1), .second, .val (.long q2), .second, .val (.long q3), .second, .val (.long q4), .second, .val (.int p5), .val (.int p6), .val (.long b1), .second, .val (.long b2), .second, .unset, .unset, .unset, .unset, .unset, .unset, .unset, .unset, .unset]) rfl ?_
          refine sg3 _ ?_
          refine XS.lstore X0.here hx rfl (hb hby at_44) rfl (l' := #[.val (.long q1), .second, .val (.long q2), .second, .val (.long q3), .second, .val (.long q4), .second, .val (.int p5), .val (.int p6), .val (.long b1), .second, .val (.long b2), .second, .val (.long b3), .second, .unset, .unset, .unset, .unset, .unset, .unset, .unset]) rfl ?_
          refine st4 _ ?_
          refine XS.dup X4.here hx rfl (hb hby at_49) rfl rfl ?_
          refine st8.trans ?_
          refine XS.astore X8.here hx rfl (hb hby at_53) rfl rfl (l' := #[.val (.long q1), .second, .val (.long q2), .second, .val (.long q3), .second, .val (.long q4), .second, .val (.int p5), .val (.int p6), .val (.long b1), .second, .val (.long b2), .second, .val (.long b3), .second, .val (.ref b4o), .unset, .unset, .unset, .unset, .unset, .unset]) rfl ?_
          refine XS.iload X8.here hx rfl (hb hby at_55) rfl ?_
          refine XS.iconst X8.here hx rfl (hb hby at_57) ?_
          refine XS.iand X8.here hx rfl (hb hby at_58) rfl ?_
          refine XS.ifYes X8.here hx rfl (pc0 := 59) (pc' := 80) rfl (hb hby at_59) rfl ((if0 _ _).trans (teq hc59).1) (by decide) (by decide) ?_
          refine st10 _ ?_
          refine XS.dup X10.here hx rfl (hb hby at_83) rfl rfl ?_
          refine st16.trans ?_
          refine XS.astore X16.here hx rfl (hb hby at_87) rfl rfl (l' := #[.val (.long q1), .second, .val (.long q2), .second, .val (.long q3), .second, .val (.long q4), .second, .val (.int p5), .val (.int p6), .val (.long b1), .second, .val (.long b2), .second, .val (.long b3), .second, .val (.ref b4o), .val (.ref b10o), .unset, .unset, .unset, .unset, .unset]) rfl ?_
          refine XS.iload X16.here hx rfl (hb hby at_89) rfl ?_
          refine XS.sipush X16.here hx rfl (hb hby at_91) ?_
          refine XS.iand X16.here hx rfl (hb hby at_94) rfl ?_
          refine XS.ifNo X16.here hx rfl (hb hby at_95) rfl ((if0 _ _).trans (feq hc95).1) ?_
          refine XS.aload X16.here hx rfl (hb hby at_98) rfl rfl ?_
          refine XS.iload X16.here hx rfl (hb hby at_100) rfl ?_
          refine XS.bipush X16.here hx rfl (hb hby at_102) ?_
          refine XS.iushr X16.here hx rfl (hb hby at_104) rfl ?_
          refine XS.sipush X16.here hx rfl (hb hby at_105) ?_
          refine XS.iand X16.here hx rfl (hb hby at_108) rfl ?_
          refine XS.i2c X16.here hx rfl (hb hby at_109) rfl ?_
          refine st103 _ ?_
          refine st114.trans ?_
          refine XS.pop X114.here hx rfl (hb hby at_116) rfl rfl ?_
          refine st130 _ ?_
          refine XS.dup X130.here hx rfl (hb hby at_120) rfl rfl ?_
          refine XS.lloadN X130.here hx rfl (hb hby at_121) rfl ?_
          refine XS.lloadN X130.here hx rfl (hb hby at_122) rfl ?_
          refine XS.lload X130.here hx rfl (hb hby at_123) rfl ?_
          refine XS.aload X130.here hx rfl (hb hby at_125) rfl rfl ?_
          refine st141.trans ?_
          refine XS.astore X141.here hx rfl (hb hby at_130) rfl rfl (l' := #[.val (.long q1), .second, .val (.long q2), .second, .val (.long q3), .second, .val (.long q4), .second, .val (.int p5), .val (.int p6), .val (.long b1), .second, .val (.long b2), .second, .val (.long b3), .second, .val (.ref b4o), .val (.ref b10o), .val (.ref b130o), .unset, .unset, .unset, .unset]) rfl ?_
          show Steps p.tables e below (T141.setTop (mkF m 132 #[.val (.long q1), .second, .val (.long q2), .second, .val (.long q3), .second, .val (.long q4), .second, .val (.int p5), .val (.int p6), .val (.long b1), .second, .val (.long b2), .second, .val (.long b3), .second, .val (.ref b4o), .val (.ref b10o), .val (.ref b130o), .unset, .unset, .unset, .unset] [])) _
          refine st145 _ ?_
          refine XS.dup X145.here hx rfl (hb hby at_135) rfl rfl ?_
          refine XS.lload X145.here hx rfl (hb hby at_136) rfl ?_
          refine XS.lload X145.here hx rfl (hb hby at_138) rfl ?_
          refine XS.lload X145.here hx rfl (hb hby at_140) rfl ?_
          refine XS.aload X145.here hx rfl (hb hby at_142) rfl rfl ?_
          refine st159.trans ?_
          refine XS.astore X159.here hx rfl (hb hby at_147) rfl rfl (l' := #[.val (.long q1), .second, .val (.long q2), .second, .val (.long q3), .second, .val (.long q4), .second, .val (.int p5), .val (.int p6), .val (.long b1), .second, .val (.long b2), .second, .val (.long b3), .second, .val (.ref b4o), .val (.ref b10o), .val (.ref b130o), .val (.ref b145o), .unset, .unset, .unset]) rfl ?_
          refine XS.aload X159.here hx rfl (hb hby at_149) rfl rfl ?_
          refine XS.aload X159.here hx rfl (hb hby at_151) rfl rfl ?_
          refine st167.trans ?_
          refine XS.istore X167.here hx rfl (hb hby at_156) rfl (l' := #[.val (.long q1), .second, .val (.long q2), .second, .val (.long q3), .second, .val (.long q4), .second, .val (.int p5), .val (.int p6), .val (.long b1), .second, .val (.long b2), .second, .val (.long b3), .second, .val (.ref b4o), .val (.ref b10o), .val (.ref b130o), .val (.ref b145o), .val (.int r167), .unset, .unset]) rfl ?_
          refine XS.aload X167.here hx rfl (hb hby at_158) rfl rfl ?_
          refine XS.aload X167.here hx rfl (hb hby at_160) rfl rfl ?_
          refine st172.trans ?_
          refine XS.istore X172.here hx rfl (hb hby at_165) rfl (l' := #[.val (.long q1), .second, .val (.long q2), .second, .val (.long q3), .second, .val (.long q4), .second, .val (.int p5), .val (.int p6), .val (.long b1), .second, .val (.long b2), .second, .val (.long b3), .second, .val (.ref b4o), .val (.ref b10o), .val (.ref b130o), .val (.ref b145o), .val (.int r167), .val (.int r172), .unset]) rfl ?_
          refine XS.lloadN X172.here hx rfl (hb hby at_167) rfl ?_
          refine XS.lloadN X172.here hx rfl (hb hby at_168) rfl ?_
          refine XS.lload X172.here hx rfl (hb hby at_169) rfl ?_
          refine st173 _ ?_
          refine XS.lload X173.here hx rfl (hb hby at_174) rfl ?_
          refine XS.lload X173.here hx rfl (hb hby at_176) rfl ?_
          refine XS.lload X173.here hx rfl (hb hby at_178) rfl ?_
          refine st196 _ ?_
          refine st228.trans ?_
          refine XS.istore X228.here hx rfl (hb hby at_186) rfl (l' := #[.val (.long q1), .second, .val (.long q2), .second, .val (.long q3), .second, .val (.long q4), .second, .val (.int p5), .val (.int p6), .val (.long b1), .second, .val (.long b2), .second, .val (.long b3), .second, .val (.ref b4o), .val (.ref b10o), .val (.ref b130o), .val (.ref b145o), .val (.int r167), .val (.int r172), .val (.int r228)]) rfl ?_
          show Steps p.tables e below (T228.setTop (mkF m 188 #[.val (.long q1), .second, .val (.long q2), .second, .val (.long q3), .second, .val (.long q4), .second, .val (.int p5), .val (.int p6), .val (.long b1), .second, .val (.long b2), .second, .val (.long b3), .second, .val (.ref b4o), .val (.ref b10o), .val (.ref b130o), .val (.ref b145o), .val (.int r167), .val (.int r172), .val (.int r228)] [])) _
          rw [(hr167.trans (if_pos hP))]
          show Steps p.tables e below (T228.setTop (mkF m 188 #[.val (.long q1), .second, .val (.long q2), .second, .val (.long q3), .second, .val (.long q4), .second, .val (.int p5), .val (.int p6), .val (.long b1), .second, .val (.long b2), .second, .val (.long b3), .second, .val (.ref b4o), .val (.ref b10o), .val (.ref b130o), .val (.ref b145o), .val (.int (1 : Int32)), .val (.int r172), .val (.int r228)] [])) _
          rw [(hr172.trans (if_pos ⟨hP.1.symm, hP.2.1.symm, hP.2.2.symm⟩))]
          show Steps p.tables e below (T228.setTop (mkF m 188 #[.val (.long q1), .second, .val (.long q2), .second, .val (.long q3), .second, .val (.long q4), .second, .val (.int p5), .val (.int p6), .val (.long b1), .second, .val (.long b2), .second, .val (.long b3), .second, .val (.ref b4o), .val (.ref b10o), .val (.ref b130o), .val (.ref b145o), .val (.int (1 : Int32)), .val (.int (1 : Int32)), .val (.int r228)] [])) _
          rw [(hr228.mpr hP)]
          show Steps p.tables e below (T228.setTop (mkF m 188 #[.val (.long q1), .second, .val (.long q2), .second, .val (.long q3), .second, .val (.long q4), .second, .val (.int p5), .val (.int p6), .val (.long b1), .second, .val (.long b2), .second, .val (.long b3), .second, .val (.ref b4o), .val (.ref b10o), .val (.ref b130o), .val (.ref b145o), .val (.int (1 : Int32)), .val (.int (1 : Int32)), .val (.int (0 : Int32))] [])) _
          refine XS.iload X228.here hx rfl (hb hby at_188) rfl ?_
          refine XS.iload X228.here hx rfl (hb hby at_190) rfl ?_
          refine XS.ifNo X228.here hx rfl (hb hby at_192) rfl ((if0 _ _).trans (teq (by decide)).2) ?_
          refine XS.iconst X228.here hx rfl (hb hby at_195) ?_
          refine XS.goto X228.here hx rfl (pc0 := 196) (pc' := 200) rfl (hb hby at_196) (by decide) (by decide) ?_
          refine XS.icmpNo X228.here hx rfl (hb hby at_200) rfl (teq (by decide)).2 ?_
          refine XS.iload X228.here hx rfl (hb hby at_203) rfl ?_
          refine XS.iload X228.here hx rfl (hb hby at_205) rfl ?_
          refine XS.icmpNo X228.here hx rfl (hb hby at_207) rfl (teq (by decide)).2 ?_
          refine XS.iconst X228.here hx rfl (hb hby at_210) ?_
          refine XS.goto X228.here hx rfl (pc0 := 211) (pc' := 215) rfl (hb hby at_211) (by decide) (by decide) ?_
          show Steps p.tables e below (T228.setTop (mkF m 215 #[.val (.long q1), .second, .val (.long q2), .second, .val (.long q3), .second, .val (.long q4), .second, .val (.int p5), .val (.int p6), .val (.long b1), .second, .val (.long b2), .second, .val (.long b3), .second, .val (.ref b4o), .val (.ref b10o), .val (.ref b130o), .val (.ref b145o), .val (.int (1 : Int32)), .val (.int (1 : Int32)), .val (.int (0 : Int32))] [(.int (1 : Int32))])) _
          exact retN X228 hx (t := .boolean) Bd.returns (by simp) (hb hby at_215) hr
        · show Qrm0 Z q1 q2 q3 q4 p5 p6 d0 kd el ee ke eo G1 mr h0 n0 _ T228.heap _
          exact ⟨rfl, N228⟩
      · skip
        obtain ⟨fs, hr, hrun, hended, hW, hsame⟩ := X228.leave (v := some (.int (1 : Int32))) (fun h => by rw [Bd.returns] at h; cases h) (BodyLoose.notSynchronized Bd)
        refine ⟨_, _, pre0 _ ?_, hrun, hended, _, _, rfl, ?_, ⟨_, rfl⟩, hW, hsame.mono (by decide) (by decide)⟩
        · show Steps p.tables e below (s₁.setTop (mkF m 0 #[.val (.long q1), .second, .val (.long q2), .second, .val (.long q3), .second, .val (.long q4), .second, .val (.int p5), .val (.int p6), .unset, .unset, .unset, .unset, .unset, .unset, .unset, .unset, .unset, .unset, .unset, .unset, .unset] [])) _
          refine sg1 _ ?_
          refine XS.lstore X0.here hx rfl (hb hby at_13) rfl (l' := #[.val (.long q1), .second, .val (.long q2), .second, .val (.long q3), .second, .val (.long q4), .second, .val (.int p5), .val (.int p6), .val (.long b1), .second, .unset, .unset, .unset, .unset, .unset, .unset, .unset, .unset, .unset, .unset, .unset]) rfl ?_
          refine sg2 _ ?_
          refine XS.lstore X0.here hx rfl (hb hby at_28) rfl (l' := #[.val (.long q1), .second, .val (.long q2), .second, .val (.long q3), .second, .val (.long q4), .second, .val (.int p5), .val (.int p6), .val (.long b1), .second, .val (.long b2), .second, .unset, .unset, .unset, .unset, .unset, .unset, .unset, .unset, .unset]) rfl ?_
          refine sg3 _ ?_
          refine XS.lstore X0.here hx rfl (hb hby at_44) rfl (l' := #[.val (.long q1), .second, .val (.long q2), .second, .val (.long q3), .second, .val (.long q4), .second, .val (.int p5), .val (.int p6), .val (.long b1), .second, .val (.long b2), .second, .val (.long b3), .second, .unset, .unset, .unset, .unset, .unset, .unset, .unset]) rfl ?_
          refine st4 _ ?_
          refine XS.dup X4.here hx rfl (hb hby at_49) rfl rfl ?_
          refine st8.trans ?_
          refine XS.astore X8.here hx rfl (hb hby at_53) rfl rfl (l' := #[.val (.long q1), .second, .val (.long q2), .second, .val (.long q3), .second, .val (.long q4), .second, .val (.int p5), .val (.int p6), .val (.long b1), .second, .val (.long b2), .second, .val (.long b3), .second, .val (.ref b4o), .unset, .unset, .unset, .unset, .unset, .unset]) rfl ?_
          refine XS.iload X8.here hx rfl (hb hby at_55) rfl ?_
          refine XS.iconst X8.here hx rfl (hb hby at_57) ?_
          refine XS.iand X8.here hx rfl (hb hby at_58) rfl ?_
          refine XS.ifYes X8.here hx rfl (pc0 := 59) (pc' := 80) rfl (hb hby at_59) rfl ((if0 _ _).trans (teq hc59).1) (by decide) (by decide) ?_
          refine st10 _ ?_
          refine XS.dup X10.here hx rfl (hb hby at_83) rfl rfl ?_
          refine st16.trans ?_
          refine XS.astore X16.here hx rfl (hb hby at_87) rfl rfl (l' := #[.val (.long q1), .second, .val (.long q2), .second, .val (.long q3), .second, .val (.long q4), .second, .val (.int p5), .val (.int p6), .val (.long b1), .second, .val (.long b2), .second, .val (.long b3), .second, .val (.ref b4o), .val (.ref b10o), .unset, .unset, .unset, .unset, .unset]) rfl ?_
          refine XS.iload X16.here hx rfl (hb hby at_89) rfl ?_
          refine XS.sipush X16.here hx rfl (hb hby at_91) ?_
          refine XS.iand X16.here hx rfl (hb hby at_94) rfl ?_
          refine XS.ifNo X16.here hx rfl (hb hby at_95) rfl ((if0 _ _).trans (feq hc95).1) ?_
          refine XS.aload X16.here hx rfl (hb hby at_98) rfl rfl ?_
          refine XS.iload X16.here hx rfl (hb hby at_100) rfl ?_
          refine XS.bipush X16.here hx rfl (hb hby at_102) ?_
          refine XS.iushr X16.here hx rfl (hb hby at_104) rfl ?_
          refine XS.sipush X16.here hx rfl (hb hby at_105) ?_
          refine XS.iand X16.here hx rfl (hb hby at_108) rfl ?_
          refine XS.i2c X16.here hx rfl (hb hby at_109) rfl ?_
          refine st103 _ ?_
          refine st114.trans ?_
          refine XS.pop X114.here hx rfl (hb hby at_116) rfl rfl ?_
          refine st130 _ ?_
          refine XS.dup X130.here hx rfl (hb hby at_120) rfl rfl ?_
          refine XS.lloadN X130.here hx rfl (hb hby at_121) rfl ?_
          refine XS.lloadN X130.here hx rfl (hb hby at_122) rfl ?_
          refine XS.lload X130.here hx rfl (hb hby at_123) rfl ?_
          refine XS.aload X130.here hx rfl (hb hby at_125) rfl rfl ?_
          refine st141.trans ?_
          refine XS.astore X141.here hx rfl (hb hby at_130) rfl rfl (l' := #[.val (.long q1), .second, .val (.long q2), .second, .val (.long q3), .second, .val (.long q4), .second, .val (.int p5), .val (.int p6), .val (.long b1), .second, .val (.long b2), .second, .val (.long b3), .second, .val (.ref b4o), .val (.ref b10o), .val (.ref b130o), .unset, .unset, .unset, .unset]) rfl ?_
          show Steps p.tables e below (T141.setTop (mkF m 132 #[.val (.long q1), .second, .val (.long q2), .second, .val (.long q3), .second, .val (.long q4), .second, .val (.int p5), .val (.int p6), .val (.long b1), .second, .val (.long b2), .second, .val (.long b3), .second, .val (.ref b4o), .val (.ref b10o), .val (.ref b130o), .unset, .unset, .unset, .unset] [])) _
          refine st145 _ ?_
          refine XS.dup X145.here hx rfl (hb hby at_135) rfl rfl ?_
          refine XS.lload X145.here hx rfl (hb hby at_136) rfl ?_
          refine XS.lload X145.here hx rfl (hb hby at_138) rfl ?_
          refine XS.lload X145.here hx rfl (hb hby at_140) rfl ?_
          refine XS.aload X145.here hx rfl (hb hby at_142) rfl rfl ?_
          refine st159.trans ?_
          refine XS.astore X159.here hx rfl (hb hby at_147) rfl rfl (l' := #[.val (.long q1), .second, .val (.long q2), .second, .val (.long q3), .second, .val (.long q4), .second, .val (.int p5), .val (.int p6), .val (.long b1), .second, .val (.long b2), .second, .val (.long b3), .second, .val (.ref b4o), .val (.ref b10o), .val (.ref b130o), .val (.ref b145o), .unset, .unset, .unset]) rfl ?_
          refine XS.aload X159.here hx rfl (hb hby at_149) rfl rfl ?_
          refine XS.aload X159.here hx rfl (hb hby at_151) rfl rfl ?_
          refine st167.trans ?_
          refine XS.istore X167.here hx rfl (hb hby at_156) rfl (l' := #[.val (.long q1), .second, .val (.long q2), .second, .val (.long q3), .second, .val (.long q4), .second, .val (.int p5), .val (.int p6), .val (.long b1), .second, .val (.long b2), .second, .val (.long b3), .second, .val (.ref b4o), .val (.ref b10o), .val (.ref b130o), .val (.ref b145o), .val (.int r167), .unset, .unset]) rfl ?_
          refine XS.aload X167.here hx rfl (hb hby at_158) rfl rfl ?_
          refine XS.aload X167.here hx rfl (hb hby at_160) rfl rfl ?_
          refine st172.trans ?_
          refine XS.istore X172.here hx rfl (hb hby at_165) rfl (l' := #[.val (.long q1), .second, .val (.long q2), .second, .val (.long q3), .second, .val (.long q4), .second, .val (.int p5), .val (.int p6), .val (.long b1), .second, .val (.long b2), .second, .val (.long b3), .second, .val (.ref b4o), .val (.ref b10o), .val (.ref b130o), .val (.ref b145o), .val (.int r167), .val (.int r172), .unset]) rfl ?_
          refine XS.lloadN X172.here hx rfl (hb hby at_167) rfl ?_
          refine XS.lloadN X172.here hx rfl (hb hby at_168) rfl ?_
          refine XS.lload X172.here hx rfl (hb hby at_169) rfl ?_
          refine st173 _ ?_
          refine XS.lload X173.here hx rfl (hb hby at_174) rfl ?_
          refine XS.lload X173.here hx rfl (hb hby at_176) rfl ?_
          refine XS.lload X173.here hx rfl (hb hby at_178) rfl ?_
          refine st196 _ ?_
          refine st228.trans ?_
          refine XS.istore X228.here hx rfl (hb hby at_186) rfl (l' := #[.val (.long q1), .second, .val (.long q2), .second, .val (.long q3), .second, .val (.long q4), .second, .val (.int p5), .val (.int p6), .val (.long b1), .second, .val (.long b2), .second, .val (.long b3), .second, .val (.ref b4o), .val (.ref b10o), .val (.ref b130o), .val (.ref b145o), .val (.int r167), .val (.int r172), .val (.int r228)]) rfl ?_
          show Steps p.tables e below (T228.setTop (mkF m 188 #[.val (.long q1), .second, .val (.long q2), .second, .val (.long q3), .second, .val (.long q4), .second, .val (.int p5), .val (.int p6), .val (.long b1), .second, .val (.long b2), .second, .val (.long b3), .second, .val (.ref b4o), .val (.ref b10o), .val (.ref b130o), .val (.ref b145o), .val (.int r167), .val (.int r172), .val (.int r228)] [])) _
          rw [(hr167.trans (if_neg hP))]
          show Steps p.tables e below (T228.setTop (mkF m 188 #[.val (.long q1), .second, .val (.long q2), .second, .val (.long q3), .second, .val (.long q4), .second, .val (.int p5), .val (.int p6), .val (.long b1), .second, .val (.long b2), .second, .val (.long b3), .second, .val (.ref b4o), .val (.ref b10o), .val (.ref b130o), .val (.ref b145o), .val (.int (0 : Int32)), .val (.int r172), .val (.int r228)] [])) _
          rw [(hr172.trans (if_neg (fun w => hP ⟨w.1.symm, w.2.1.symm, w.2.2.symm⟩)))]
          show Steps p.tables e below (T228.setTop (mkF m 188 #[.val (.long q1), .second, .val (.long q2), .second, .val (.long q3), .second, .val (.long q4), .second, .val (.int p5), .val (.int p6), .val (.long b1), .second, .val (.long b2), .second, .val (.long b3), .second, .val (.ref b4o), .val (.ref b10o), .val (.ref b130o), .val (.ref b145o), .val (.int (0 : Int32)), .val (.int (0 : Int32)), .val (.int r228)] [])) _
          refine XS.iload X228.here hx rfl (hb hby at_188) rfl ?_
          refine XS.iload X228.here hx rfl (hb hby at_190) rfl ?_
          refine XS.ifYes X228.here hx rfl (pc0 := 192) (pc' := 199) rfl (hb hby at_192) rfl ((if0 _ _).trans (feq (fun w => hP (hr228.mp w))).2) (by decide) (by decide) ?_
          refine XS.iconst X228.here hx rfl (hb hby at_199) ?_
          refine XS.icmpNo X228.here hx rfl (hb hby at_200) rfl (teq (by decide)).2 ?_
          refine XS.iload X228.here hx rfl (hb hby at_203) rfl ?_
          refine XS.iload X228.here hx rfl (hb hby at_205) rfl ?_
          refine XS.icmpNo X228.here hx rfl (hb hby at_207) rfl (teq (by decide)).2 ?_
          refine XS.iconst X228.here hx rfl (hb hby at_210) ?_
          refine XS.goto X228.here hx rfl (pc0 := 211) (pc' := 215) rfl (hb hby at_211) (by decide) (by decide) ?_
          show Steps p.tables e below (T228.setTop (mkF m 215 #[.val (.long q1), .second, .val (.long q2), .second, .val (.long q3), .second, .val (.long q4), .second, .val (.int p5), .val (.int p6), .val (.long b1), .second, .val (.long b2), .second, .val (.long b3), .second, .val (.ref b4o), .val (.ref b10o), .val (.ref b130o), .val (.ref b145o), .val (.int (0 : Int32)), .val (.int (0 : Int32)), .val (.int r228)] [(.int (1 : Int32))])) _
          exact retN X228 hx (t := .boolean) Bd.returns (by simp) (hb hby at_215) hr
        · show Qrm0 Z q1 q2 q3 q4 p5 p6 d0 kd el ee ke eo G1 mr h0 n0 _ T228.heap _
          exact ⟨rfl, N228⟩
  · have f236 := (f9.keep KC8 (allS b4 all0))
    obtain ⟨_, _, ⟨T235, Lq235, kq235, nq235⟩, -, X235, ⟨Lc235, hQ235, lq235, yq235, zq235⟩, st235⟩ := Jvm.LawKit.callS X8 hx (y := (⟨"java/lang/String", "valueOf", "(C)Ljava/lang/String;"⟩ : MethodName)) hown (mvT hZ (hw _ (own_w 103 rfl))) (mvT hZ (hw _ (own_w 104 rfl))) (mvT hZ (hw _ (own_w 105 rfl))) (mvT hZ (hw _ (own_w 106 rfl))) (by decide) (backOf (W := 1) (rSV l Z a0 hw [] ((((p6.toUInt32 >>> ((1 : Int32) &&& 31).toUInt32).toInt32) &&& (255 : Int32)).toUInt32.toUInt16.toUInt32.toInt32) G1 T8.heap n0 Z8 (own_c255 _) f236 O_2 P5) hZ (hw _ (own_w 106 rfl)) (hw _ (own_w 105 rfl)) (by decide) (by decide)) (g := (mkF m 73 #[.val (.long q1), .second, .val (.long q2), .second, .val (.long q3), .second, .val (.long q4), .second, .val (.int p5), .val (.int p6), .val (.long b1), .second, .val (.long b2), .second, .val (.long b3), .second, .val (.ref b4o), .unset, .unset, .unset, .unset, .unset, .unset] [(.int ((((p6.toUInt32 >>> ((1 : Int32) &&& 31).toUInt32).toInt32) &&& (255 : Int32)).toUInt32.toUInt16.toUInt32.toInt32)), (.ref b4o)])) rfl (by rw [hml]; rfl) (argsL := [(.int ((((p6.toUInt32 >>> ((1 : Int32) &&& 31).toUInt32).toInt32) &&& (255 : Int32)).toUInt32.toUInt16.toUInt32.toInt32))]) (rest := [(.ref b4o)]) (lenOf pd_22 rfl) rfl (by show 2 * 0 + _ ≤ _; exact Nat.le_of_eq rfl) (hb hby at_73) (fun _ _ => ⟨rfl, rfl, (by decide : 1 + 2 ≤ _), (by decide : 3 + 5 ≤ _)⟩)
    dsimp only [Pt.U, Pt.locs, Pt.cells, Pt.slots] at X235 lq235 yq235 zq235 st235 hQ235
    subst lq235 yq235 zq235
    obtain ⟨o235, rfl, N235q, KC235, go235, gk235, u235⟩ := hQ235
    have N235 := Fr.app N8 N235q
    have Z235 : n0 ≤ T235.heap.size := Nat.le_trans Z8 KC235.1
    have ne237 : d0 ≠ o235 := Nat.ne_of_lt (Nat.lt_of_lt_of_le (O_AD.ext f236.2).lt gk235)
    have ne238 : el ≠ o235 := Nat.ne_of_lt (Nat.lt_of_lt_of_le (O_FL.ext f236.2).lt gk235)
    have ne239 : ee ≠ o235 := Nat.ne_of_lt (Nat.lt_of_lt_of_le (O_AE.ext f236.2).lt gk235)
    have ne240 : b4o ≠ o235 := Nat.ne_of_lt (Nat.lt_of_lt_of_le FZ8'.lt gk235)
    have f242 := (f236.keep KC235 all0)
    have f243 := (E8'.keep KC235)
    have f244 := (FM8'.keep KC235 nin0)
    have f245 := (FE8'.keep KC235 nin0)
    have f246 := (FZ8'.keep KC235 nin0)
    obtain ⟨cq241, kz241, q241a, q241b, q241c⟩ := isOf hZ rfl f243
    obtain ⟨_, _, ⟨T241, Lq241, kq241, nq241⟩, -, X241, ⟨Lc241, hQ241, lq241, yq241, zq241⟩, st241⟩ := X235.virtualBack hx (y := (⟨"java/util/ArrayList", "add", "(Ljava/lang/Object;)Z"⟩ : MethodName)) (z := (⟨"java/util/ArrayList", "add", "(Ljava/lang/Object;)Z"⟩ : MethodName)) hown (mvT hZ (hw _ (own_w 127 rfl))) (mvT hZ (hw _ (own_w 128 rfl))) (notFace_of_selects (args := #[]) (mvT hZ (hw _ (own_w 130 rfl)))) (mvT hZ (hw _ (own_w 130 rfl))) (mvT hZ (hw _ (own_w 129 rfl))) (by decide) (backOf (W := 0) (rA l Z a0 hw [] b4o o235 d0 kd T235.heap n0 Z235 f243 f244 f245 f246 b4 f242 O_D O_AD u235) hZ (hw _ (own_w 131 rfl)) (hw _ (own_w 2 rfl)) (by decide) (by decide)) q241a q241c (g := (mkF m 76 #[.val (.long q1), .second, .val (.long q2), .second, .val (.long q3), .second, .val (.long q4), .second, .val (.int p5), .val (.int p6), .val (.long b1), .second, .val (.long b2), .second, .val (.long b3), .second, .val (.ref b4o), .unset, .unset, .unset, .unset, .unset, .unset] [(.ref o235), (.ref b4o)])) rfl (by rw [hml]; rfl) (Steps.refl _) (argsL := [(.ref o235)]) (rest := []) (lenOf pd_23 rfl) rfl (by show 2 * 0 + _ ≤ _; exact Nat.le_of_eq rfl) (hb hby at_76) (fun _ _ => ⟨rfl, rfl, (by decide : 3 + 1 ≤ _), (by decide : 8 + 10 ≤ _)⟩)
    dsimp only [Pt.U, Pt.locs, Pt.cells, Pt.slots] at X241 lq241 yq241 zq241 st241 hQ241
    subst lq241 yq241 zq241
    obtain ⟨na241, nk241, rfl, N241q, KC241, gn241, gk241, E241', FM241', FE241', FZ241', AV241', EX241', OV241'⟩ := hQ241
    have N241 := Fr.app N235 N241q
    have Z241 : n0 ≤ T241.heap.size := Nat.le_trans Z235 KC241.1
    have ne247 : d0 ≠ na241 := Nat.ne_of_lt (Nat.lt_of_lt_of_le (O_AD.ext f242.2).lt gk241)
    have ne248 : el ≠ na241 := Nat.ne_of_lt (Nat.lt_of_lt_of_le (O_FL.ext f242.2).lt gk241)
    have ne249 : ee ≠ na241 := Nat.ne_of_lt (Nat.lt_of_lt_of_le (O_AE.ext f242.2).lt gk241)
    have ne250 : b4o ≠ na241 := Nat.ne_of_lt (Nat.lt_of_lt_of_le f246.lt gk241)
    have ne251 : o235 ≠ na241 := Nat.ne_of_lt (Nat.lt_of_lt_of_le u235.lt gk241)
    obtain ⟨T252, h252, X252, e252, E252, A252, D252, -, st252⟩ := newO X241 hx hZ hown (hw _ (own_w 0 rfl)) (hw _ (own_w 1 rfl)) (hw _ (own_w 2 rfl)) rfl (g := (mkF m 80 #[.val (.long q1), .second, .val (.long q2), .second, .val (.long q3), .second, .val (.long q4), .second, .val (.int p5), .val (.int p6), .val (.long b1), .second, .val (.long b2), .second, .val (.long b3), .second, .val (.ref b4o), .unset, .unset, .unset, .unset, .unset, .unset] [])) rfl (hb hby at_80) (by decide) (by decide)
    obtain ⟨b252o, g252⟩ : ∃ z, z = T241.heap.size := ⟨_, rfl⟩
    have b252 : n0 ≤ b252o := Nat.le_trans Z241 (Nat.le_of_eq g252.symm)
    have f253 := (f242.keep KC241 (allS b4 all0))
    have ne254 : d0 ≠ b252o := Nat.ne_of_lt (Nat.lt_of_lt_of_le (O_AD.ext f253.2).lt (Nat.le_of_eq g252.symm))
    have ne255 : el ≠ b252o := Nat.ne_of_lt (Nat.lt_of_lt_of_le (O_EL.ext f253.2).lt (Nat.le_of_eq g252.symm))
    have ne256 : ee ≠ b252o := Nat.ne_of_lt (Nat.lt_of_lt_of_le (O_AE.ext f253.2).lt (Nat.le_of_eq g252.symm))
    have ne257 : b4o ≠ b252o := Nat.ne_of_lt (Nat.lt_of_lt_of_le E241'.lt (Nat.le_of_eq g252.symm))
    have f258 := (u235.keep KC241)
    have ne259 : o235 ≠ b252o := Nat.ne_of_lt (Nat.lt_of_lt_of_le f258.lt (Nat.le_of_eq g252.symm))
    have ne260 : na241 ≠ b252o := Nat.ne_of_lt (Nat.lt_of_lt_of_le AV241'.lt (Nat.le_of_eq g252.symm))
    rw [← g252] at A252 D252 st252
    have Z252 : n0 ≤ h252.size := Nat.le_trans Z241 E252.1
    have F252_22 : Fld Z h252 b252o "java/util/AbstractList" "modCount" "I" (.int (0 : Int32)) := D252 (Or.inl (hw _ (own_w 22 rfl))) (ty := .int) (by decide)
    have F252_25 : Fld Z h252 b252o "java/util/ArrayList" "elementData" "[Ljava/lang/Object;" .null := D252 (Or.inl (hw _ (own_w 25 rfl))) (ty := (.array (.object "java/lang/Object"))) (by decide)
    have F252_62 : Fld Z h252 b252o "java/util/ArrayList" "size" "I" (.int (0 : Int32)) := D252 (Or.inl (hw _ (own_w 62 rfl))) (ty := .int) (by decide)
    have f262 := (f253.ext E252)
    obtain ⟨_, _, ⟨T261, Lq261, kq261, nq261⟩, -, X261, ⟨Lc261, hQ261, lq261, yq261, zq261⟩, st261⟩ := X252.specialBack hx (y := (⟨"java/util/ArrayList", "<init>", "()V"⟩ : MethodName)) rfl hown (mvT hZ (hw _ (own_w 3 rfl))) (mvT hZ (hw _ (own_w 4 rfl))) (mvT hZ (hw _ (own_w 5 rfl))) (by decide) (backOf (W := 1) (rA1 l Z a0 hw [] b252o d0 h252 n0 Z252 A252 F252_22 F252_25 F252_62 b252 f262 O_D) hZ (hw _ (own_w 5 rfl)) (hw _ (own_w 2 rfl)) (by decide) (by decide)) (g := (mkF m 84 #[.val (.long q1), .second, .val (.long q2), .second, .val (.long q3), .second, .val (.long q4), .second, .val (.int p5), .val (.int p6), .val (.long b1), .second, .val (.long b2), .second, .val (.long b3), .second, .val (.ref b4o), .unset, .unset, .unset, .unset, .unset, .unset] [(.ref b252o), (.ref b252o)])) rfl (by rw [hml]; rfl) (Steps.refl _) (a := b252o) (argsL := []) (rest := [(.ref b252o)]) (lenOf pd_0 rfl) rfl (by show 2 * 0 + _ ≤ _; exact Nat.le_of_eq rfl) (hb hby at_84) (fun _ _ => ⟨rfl, e252, (by decide : 5 + 0 ≤ _), (by decide : 21 + 0 ≤ _)⟩)
    dsimp only [Pt.U, Pt.locs, Pt.cells, Pt.slots] at X261 lq261 yq261 zq261 st261 hQ261
    subst lq261 yq261 zq261
    obtain ⟨rfl, N261q, KC261, u261⟩ := hQ261
    have N261 := Fr.app N241 N261q
    have Z261 : n0 ≤ T261.heap.size := Nat.le_trans Z252 KC261.1
    obtain ⟨E261', FM261', FE261', FZ261'⟩ := u261
    by_cases hc95 : (p6 &&& (512 : Int32)) = (0 : Int32)
    · obtain ⟨T263, h263, X263, e263, E263, A263, D263, -, st263⟩ := newO X261 hx hZ hown (hw _ (own_w 26 rfl)) (hw _ (own_w 27 rfl)) (hw _ (own_w 28 rfl)) rfl (g := (mkF m 117 #[.val (.long q1), .second, .val (.long q2), .second, .val (.long q3), .second, .val (.long q4), .second, .val (.int p5), .val (.int p6), .val (.long b1), .second, .val (.long b2), .second, .val (.long b3), .second, .val (.ref b4o), .val (.ref b252o), .unset, .unset, .unset, .unset, .unset] [])) rfl (hb hby at_117) (by decide) (by decide)
      obtain ⟨b263o, g263⟩ : ∃ z, z = T261.heap.size := ⟨_, rfl⟩
      have b263 : n0 ≤ b263o := Nat.le_trans Z261 (Nat.le_of_eq g263.symm)
      have f264 := (f262.keep KC261 (allS b252 all0))
      have ne265 : d0 ≠ b263o := Nat.ne_of_lt (Nat.lt_of_lt_of_le (O_AD.ext f264.2).lt (Nat.le_of_eq g263.symm))
      have ne266 : el ≠ b263o := Nat.ne_of_lt (Nat.lt_of_lt_of_le (O_EL.ext f264.2).lt (Nat.le_of_eq g263.symm))
      have ne267 : ee ≠ b263o := Nat.ne_of_lt (Nat.lt_of_lt_of_le (O_AE.ext f264.2).lt (Nat.le_of_eq g263.symm))
      have f268 := ((E241'.ext E252).keep KC261)
      have ne269 : b4o ≠ b263o := Nat.ne_of_lt (Nat.lt_of_lt_of_le f268.lt (Nat.le_of_eq g263.symm))
      have f270 := ((f258.ext E252).keep KC261)
      have ne271 : o235 ≠ b263o := Nat.ne_of_lt (Nat.lt_of_lt_of_le f270.lt (Nat.le_of_eq g263.symm))
      have f272 := ((AV241'.ext E252).keep KC261 (ninS ne260 nin0))
      have ne273 : na241 ≠ b263o := Nat.ne_of_lt (Nat.lt_of_lt_of_le f272.lt (Nat.le_of_eq g263.symm))
      have ne274 : b252o ≠ b263o := Nat.ne_of_lt (Nat.lt_of_lt_of_le E261'.lt (Nat.le_of_eq g263.symm))
      rw [← g263] at A263 D263 st263
      have Z263 : n0 ≤ h263.size := Nat.le_trans Z261 E263.1
      have F263_68 : Fld Z h263 b263o "com/example/zorgbrug/zorgbrug/fhir/Version" "major" "J" (.long (0 : Int64)) := D263 (Or.inr (hw _ (own_w 68 rfl))) (ty := .long) (by decide)
      have F263_70 : Fld Z h263 b263o "com/example/zorgbrug/zorgbrug/fhir/Version" "minor" "J" (.long (0 : Int64)) := D263 (Or.inr (hw _ (own_w 70 rfl))) (ty := .long) (by decide)
      have F263_72 : Fld Z h263 b263o "com/example/zorgbrug/zorgbrug/fhir/Version" "patch" "J" (.long (0 : Int64)) := D263 (Or.inr (hw _ (own_w 72 rfl))) (ty := .long) (by decide)
      have F263_74 : Fld Z h263 b263o "com/example/zorgbrug/zorgbrug/fhir/Version" "preRelease" "Ljava/util/List;" .null := D263 (Or.inr (hw _ (own_w 74 rfl))) (ty := (.object "java/util/List")) (by decide)
      have f276 := (f268.ext E263)
      have f277 := (((FE241'.ext E252).keep KC261 (ninS ne257 nin0)).ext E263)
      have f278 := (((FZ241'.ext E252).keep KC261 (ninS ne257 nin0)).ext E263)
      have f279 := (f272.ext E263)
      have f280 := (f270.ext E263)
      have f281 := (((EX241'.ext E252).keep KC261).ext E263)
      have f282 := (f264.ext E263)
      obtain ⟨_, _, ⟨T275, Lq275, kq275, nq275⟩, -, X275, ⟨Lc275, hQ275, lq275, yq275, zq275⟩, st275⟩ := X263.specialBack hx (y := (⟨"com/example/zorgbrug/zorgbrug/fhir/Version", "<init>", "(JJJLjava/util/List;)V"⟩ : MethodName)) rfl hown (mvT hZ (hw _ (own_w 29 rfl))) (mvT hZ (hw _ (own_w 30 rfl))) (mvT hZ (hw _ (own_w 31 rfl))) (by decide) (backOf (W := 1) (rVIB l Z a0 hw [] b263o q1 q2 q3 b4o na241 o235 nk241 mr eo h263 n0 Z263 A263 F263_68 F263_70 F263_72 F263_74 b263 (Ne.symm ne269) f276 f277 f278 f279 f280 f281 M f282 O_E) hZ (hw _ (own_w 31 rfl)) (hw _ (own_w 28 rfl)) (by decide) (by decide)) (g := (mkF m 127 #[.val (.long q1), .second, .val (.long q2), .second, .val (.long q3), .second, .val (.long q4), .second, .val (.int p5), .val (.int p6), .val (.long b1), .second, .val (.long b2), .second, .val (.long b3), .second, .val (.ref b4o), .val (.ref b252o), .unset, .unset, .unset, .unset, .unset] [(.ref b4o), (.long q3), (.long q2), (.long q1), (.ref b263o), (.ref b263o)])) rfl (by rw [hml]; rfl) (Steps.refl _) (a := b263o) (argsL := [(.long q1), (.long q2), (.long q3), (.ref b4o)]) (rest := [(.ref b263o)]) (lenOf pd_16 rfl) rfl (by show 2 * 0 + _ ≤ _; exact Nat.le_of_eq rfl) (hb hby at_127) (fun _ _ => ⟨rfl, e263, (by decide : 6 + 2 ≤ _), (by decide : 25 + 3 ≤ _)⟩)
      dsimp only [Pt.U, Pt.locs, Pt.cells, Pt.slots] at X275 lq275 yq275 zq275 st275 hQ275
      subst lq275 yq275 zq275
      obtain ⟨rfl, N275q, KC275, u275⟩ := hQ275
      have N275 := Fr.app N261 N275q
      have Z275 : n0 ≤ T275.heap.size := Nat.le_trans Z263 KC275.1
      obtain ⟨E275', F275_0, F275_1, F275_2⟩ := u275
      obtain ⟨T283, h283, X283, e283, E283, A283, D283, -, st283⟩ := newO X275 hx hZ hown (hw _ (own_w 26 rfl)) (hw _ (own_w 27 rfl)) (hw _ (own_w 28 rfl)) rfl (g := (mkF m 132 #[.val (.long q1), .second, .val (.long q2), .second, .val (.long q3), .second, .val (.long q4), .second, .val (.int p5), .val (.int p6), .val (.long b1), .second, .val (.long b2), .second, .val (.long b3), .second, .val (.ref b4o), .val (.ref b252o), .val (.ref b263o), .unset, .unset, .unset, .unset] [])) rfl (hb hby at_132) (by decide) (by decide)
      obtain ⟨b283o, g283⟩ : ∃ z, z = T275.heap.size := ⟨_, rfl⟩
      have b283 : n0 ≤ b283o := Nat.le_trans Z275 (Nat.le_of_eq g283.symm)
      have f284 := (f282.keep KC275 (allS b263 all0))
      have ne285 : d0 ≠ b283o := Nat.ne_of_lt (Nat.lt_of_lt_of_le (O_AD.ext f284.2).lt (Nat.le_of_eq g283.symm))
      have ne286 : el ≠ b283o := Nat.ne_of_lt (Nat.lt_of_lt_of_le (O_EL.ext f284.2).lt (Nat.le_of_eq g283.symm))
      have ne287 : ee ≠ b283o := Nat.ne_of_lt (Nat.lt_of_lt_of_le (O_AE.ext f284.2).lt (Nat.le_of_eq g283.symm))
      have f288 := (f276.keep KC275)
      have ne289 : b4o ≠ b283o := Nat.ne_of_lt (Nat.lt_of_lt_of_le f288.lt (Nat.le_of_eq g283.symm))
      have f290 := (f280.keep KC275)
      have ne291 : o235 ≠ b283o := Nat.ne_of_lt (Nat.lt_of_lt_of_le f290.lt (Nat.le_of_eq g283.symm))
      have f292 := (f279.keep KC275 (ninS ne273 nin0))
      have ne293 : na241 ≠ b283o := Nat.ne_of_lt (Nat.lt_of_lt_of_le f292.lt (Nat.le_of_eq g283.symm))
      have f294 := ((E261'.ext E263).keep KC275)
      have ne295 : b252o ≠ b283o := Nat.ne_of_lt (Nat.lt_of_lt_of_le f294.lt (Nat.le_of_eq g283.symm))
      have ne296 : b263o ≠ b283o := Nat.ne_of_lt (Nat.lt_of_lt_of_le E275'.lt (Nat.le_of_eq g283.symm))
      rw [← g283] at A283 D283 st283
      have Z283 : n0 ≤ h283.size := Nat.le_trans Z275 E283.1
      have F283_68 : Fld Z h283 b283o "com/example/zorgbrug/zorgbrug/fhir/Version" "major" "J" (.long (0 : Int64)) := D283 (Or.inr (hw _ (own_w 68 rfl))) (ty := .long) (by decide)
      have F283_70 : Fld Z h283 b283o "com/example/zorgbrug/zorgbrug/fhir/Version" "minor" "J" (.long (0 : Int64)) := D283 (Or.inr (hw _ (own_w 70 rfl))) (ty := .long) (by decide)
      have F283_72 : Fld Z h283 b283o "com/example/zorgbrug/zorgbrug/fhir/Version" "patch" "J" (.long (0 : Int64)) := D283 (Or.inr (hw _ (own_w 72 rfl))) (ty := .long) (by decide)
      have F283_74 : Fld Z h283 b283o "com/example/zorgbrug/zorgbrug/fhir/Version" "preRelease" "Ljava/util/List;" .null := D283 (Or.inr (hw _ (own_w 74 rfl))) (ty := (.object "java/util/List")) (by decide)
      have f298 := (f294.ext E283)
      have f299 := (((FZ261'.ext E263).keep KC275 (ninS ne274 nin0)).ext E283)
      have f300 := (f284.ext E283)
      obtain ⟨_, _, ⟨T297, Lq297, kq297, nq297⟩, -, X297, ⟨Lc297, hQ297, lq297, yq297, zq297⟩, st297⟩ := X283.specialBack hx (y := (⟨"com/example/zorgbrug/zorgbrug/fhir/Version", "<init>", "(JJJLjava/util/List;)V"⟩ : MethodName)) rfl hown (mvT hZ (hw _ (own_w 29 rfl))) (mvT hZ (hw _ (own_w 30 rfl))) (mvT hZ (hw _ (own_w 31 rfl))) (by decide) (backOf (W := 1) (rVIA l Z a0 hw [] b283o b1 b2 b3 b252o el h283 n0 Z283 A283 F283_68 F283_70 F283_72 F283_74 b283 (Ne.symm ne295) f298 f299 f300 O_L) hZ (hw _ (own_w 31 rfl)) (hw _ (own_w 28 rfl)) (by decide) (by decide)) (g := (mkF m 144 #[.val (.long q1), .second, .val (.long q2), .second, .val (.long q3), .second, .val (.long q4), .second, .val (.int p5), .val (.int p6), .val (.long b1), .second, .val (.long b2), .second, .val (.long b3), .second, .val (.ref b4o), .val (.ref b252o), .val (.ref b263o), .unset, .unset, .unset, .unset] [(.ref b252o), (.long b3), (.long b2), (.long b1), (.ref b283o), (.ref b283o)])) rfl (by rw [hml]; rfl) (Steps.refl _) (a := b283o) (argsL := [(.long b1), (.long b2), (.long b3), (.ref b252o)]) (rest := [(.ref b283o)]) (lenOf pd_16 rfl) rfl (by show 2 * 0 + _ ≤ _; exact Nat.le_of_eq rfl) (hb hby at_144) (fun _ _ => ⟨rfl, e283, (by decide : 9 + 0 ≤ _), (by decide : 32 + 0 ≤ _)⟩)
      dsimp only [Pt.U, Pt.locs, Pt.cells, Pt.slots] at X297 lq297 yq297 zq297 st297 hQ297
      subst lq297 yq297 zq297
      obtain ⟨rfl, N297q, KC297, u297⟩ := hQ297
      have N297 := Fr.app N275 N297q
      have Z297 : n0 ≤ T297.heap.size := Nat.le_trans Z283 KC297.1
      obtain ⟨E297', F297_0, F297_1, F297_2, F297_3⟩ := u297
      have f302 := ((F275_0.ext E283).keep KC297 (ninS ne296 nin0))
      have f303 := ((F275_1.ext E283).keep KC297 (ninS ne296 nin0))
      have f304 := ((F275_2.ext E283).keep KC297 (ninS ne296 nin0))
      have f305 := ((E275'.ext E283).keep KC297)
      obtain ⟨cq301, kz301, q301a, q301b, q301c⟩ := isOf hZ rfl f305
      obtain ⟨_, _, ⟨T301, Lq301, kq301, nq301⟩, -, X301, ⟨Lc301, hQ301, lq301, yq301, zq301⟩, st301⟩ := X297.virtualBack hx (y := (⟨"com/example/zorgbrug/zorgbrug/fhir/Version", "sameRelease", "(Lcom/example/zorgbrug/zorgbrug/fhir/Version;)Z"⟩ : MethodName)) (z := (⟨"com/example/zorgbrug/zorgbrug/fhir/Version", "sameRelease", "(Lcom/example/zorgbrug/zorgbrug/fhir/Version;)Z"⟩ : MethodName)) hown (mvT hZ (hw _ (own_w 75 rfl))) (mvT hZ (hw _ (own_w 76 rfl))) (notFace_of_selects (args := #[]) (mvT hZ (hw _ (own_w 78 rfl)))) (mvT hZ (hw _ (own_w 78 rfl))) (mvT hZ (hw _ (own_w 77 rfl))) (by decide) (backOf (W := 0) (rSR l Z a0 hw [] b263o b283o q1 q2 q3 b1 b2 b3 T297.heap n0 Z297 f302 f303 f304 F297_0 F297_1 F297_2) hZ (hw _ (own_w 79 rfl)) (hw _ (own_w 28 rfl)) (by decide) (by decide)) q301a q301c (g := (mkF m 153 #[.val (.long q1), .second, .val (.long q2), .second, .val (.long q3), .second, .val (.long q4), .second, .val (.int p5), .val (.int p6), .val (.long b1), .second, .val (.long b2), .second, .val (.long b3), .second, .val (.ref b4o), .val (.ref b252o), .val (.ref b263o), .val (.ref b283o), .unset, .unset, .unset] [(.ref b283o), (.ref b263o)])) rfl (by rw [hml]; rfl) (Steps.refl _) (argsL := [(.ref b283o)]) (rest := []) (lenOf pd_19 rfl) rfl (by show 2 * 0 + _ ≤ _; exact Nat.le_of_eq rfl) (hb hby at_153) (fun _ _ => ⟨rfl, rfl, (by decide : 9 + 0 ≤ _), (by decide : 32 + 0 ≤ _)⟩)
      dsimp only [Pt.U, Pt.locs, Pt.cells, Pt.slots] at X301 lq301 yq301 zq301 st301 hQ301
      subst lq301 yq301 zq301
      obtain ⟨r301, hr301, rfl, N301q, e301⟩ := hQ301
      have N301 := Fr.app N297 N301q
      obtain ⟨cq306, kz306, q306a, q306b, q306c⟩ := isOf hZ e301 E297'
      obtain ⟨_, _, ⟨T306, Lq306, kq306, nq306⟩, -, X306, ⟨Lc306, hQ306, lq306, yq306, zq306⟩, st306⟩ := X301.virtualBack hx (y := (⟨"com/example/zorgbrug/zorgbrug/fhir/Version", "sameRelease", "(Lcom/example/zorgbrug/zorgbrug/fhir/Version;)Z"⟩ : MethodName)) (z := (⟨"com/example/zorgbrug/zorgbrug/fhir/Version", "sameRelease", "(Lcom/example/zorgbrug/zorgbrug/fhir/Version;)Z"⟩ : MethodName)) hown (mvT hZ (hw _ (own_w 75 rfl))) (mvT hZ (hw _ (own_w 76 rfl))) (notFace_of_selects (args := #[]) (mvT hZ (hw _ (own_w 78 rfl)))) (mvT hZ (hw _ (own_w 78 rfl))) (mvT hZ (hw _ (own_w 77 rfl))) (by decide) (backOf (W := 0) (rSR l Z a0 hw [] b283o b263o b1 b2 b3 q1 q2 q3 T297.heap n0 Z297 F297_0 F297_1 F297_2 f302 f303 f304) hZ (hw _ (own_w 79 rfl)) (hw _ (own_w 28 rfl)) (by decide) (by decide)) q306a q306c (g := (mkF m 162 #[.val (.long q1), .second, .val (.long q2), .second, .val (.long q3), .second, .val (.long q4), .second, .val (.int p5), .val (.int p6), .val (.long b1), .second, .val (.long b2), .second, .val (.long b3), .second, .val (.ref b4o), .val (.ref b252o), .val (.ref b263o), .val (.ref b283o), .val (.int r301), .unset, .unset] [(.ref b263o), (.ref b283o)])) rfl (by rw [hml]; rfl) (Steps.refl _) (argsL := [(.ref b263o)]) (rest := []) (lenOf pd_19 rfl) rfl (by show 2 * 0 + _ ≤ _; exact Nat.le_of_eq rfl) (hb hby at_162) (fun _ _ => ⟨rfl, e301, (by decide : 9 + 0 ≤ _), (by decide : 32 + 0 ≤ _)⟩)
      dsimp only [Pt.U, Pt.locs, Pt.cells, Pt.slots] at X306 lq306 yq306 zq306 st306 hQ306
      subst lq306 yq306 zq306
      obtain ⟨r306, hr306, rfl, N306q, e306⟩ := hQ306
      have N306 := Fr.app N301 N306q
      have f308 := (f300.keep KC297 (allS b283 all0))
      have f309 := ((f288.ext E283).keep KC297)
      have f310 := ((((((FM241'.ext E252).keep KC261 (ninS ne257 nin0)).ext E263).keep KC275 (ninS ne269 nin0)).ext E283).keep KC297 (ninS ne289 nin0))
      have f311 := (((f277.keep KC275 (ninS ne269 nin0)).ext E283).keep KC297 (ninS ne289 nin0))
      have f312 := (((f278.keep KC275 (ninS ne269 nin0)).ext E283).keep KC297 (ninS ne289 nin0))
      have f313 := ((f290.ext E283).keep KC297)
      have f314 := ((f292.ext E283).keep KC297 (ninS ne293 nin0))
      have f315 := (((f281.keep KC275).ext E283).keep KC297)
      have f316 := (f298.keep KC297)
      have f317 := ((((FM261'.ext E263).keep KC275 (ninS ne274 nin0)).ext E283).keep KC297 (ninS ne295 nin0))
      have f318 := ((((FE261'.ext E263).keep KC275 (ninS ne274 nin0)).ext E283).keep KC297 (ninS ne295 nin0))
      have f319 := (f299.keep KC297 (ninS ne295 nin0))
      obtain ⟨_, _, ⟨T307, Lq307, kq307, nq307⟩, -, X307, ⟨Lc307, hQ307, lq307, yq307, zq307⟩, st307⟩ := Jvm.LawKit.callS X306 hx (y := (⟨"com/example/zorgbrug/zorgbrug/fhir/Version", "release", "(JJJ)Lcom/example/zorgbrug/zorgbrug/fhir/Version;"⟩ : MethodName)) hown (mvT hZ (hw _ (own_w 80 rfl))) (mvT hZ (hw _ (own_w 81 rfl))) (mvT hZ (hw _ (own_w 28 rfl))) (mvT hZ (hw _ (own_w 82 rfl))) (by decide) (backOf (W := 0) (rRL l Z a0 hw [] q1 q2 q3 el T297.heap n0 Z297 O_EL O_FN f308 O_L) hZ (hw _ (own_w 82 rfl)) (hw _ (own_w 28 rfl)) (by decide) (by decide)) (g := (mkF m 171 #[.val (.long q1), .second, .val (.long q2), .second, .val (.long q3), .second, .val (.long q4), .second, .val (.int p5), .val (.int p6), .val (.long b1), .second, .val (.long b2), .second, .val (.long b3), .second, .val (.ref b4o), .val (.ref b252o), .val (.ref b263o), .val (.ref b283o), .val (.int r301), .val (.int r306), .unset] [(.long q3), (.long q2), (.long q1)])) rfl (by rw [hml]; rfl) (argsL := [(.long q1), (.long q2), (.long q3)]) (rest := []) (lenOf pd_20 rfl) rfl (by show 2 * 0 + _ ≤ _; exact Nat.le_of_eq rfl) (hb hby at_171) (fun _ _ => ⟨rfl, e306, (by decide : 9 + 1 ≤ _), (by decide : 32 + 4 ≤ _)⟩)
      dsimp only [Pt.U, Pt.locs, Pt.cells, Pt.slots] at X307 lq307 yq307 zq307 st307 hQ307
      subst lq307 yq307 zq307
      obtain ⟨o307, rfl, N307q, KC307, go307, gk307, u307⟩ := hQ307
      have N307 := Fr.app N306 N307q
      have Z307 : n0 ≤ T307.heap.size := Nat.le_trans Z297 KC307.1
      have ne320 : d0 ≠ o307 := Nat.ne_of_lt (Nat.lt_of_lt_of_le (O_AD.ext f308.2).lt gk307)
      have ne321 : el ≠ o307 := Nat.ne_of_lt (Nat.lt_of_lt_of_le (O_FL.ext f308.2).lt gk307)
      have ne322 : ee ≠ o307 := Nat.ne_of_lt (Nat.lt_of_lt_of_le (O_AE.ext f308.2).lt gk307)
      have ne323 : b4o ≠ o307 := Nat.ne_of_lt (Nat.lt_of_lt_of_le f312.lt gk307)
      have ne324 : o235 ≠ o307 := Nat.ne_of_lt (Nat.lt_of_lt_of_le f313.lt gk307)
      have ne325 : na241 ≠ o307 := Nat.ne_of_lt (Nat.lt_of_lt_of_le f315.lt gk307)
      have ne326 : b252o ≠ o307 := Nat.ne_of_lt (Nat.lt_of_lt_of_le f319.lt gk307)
      have ne327 : b263o ≠ o307 := Nat.ne_of_lt (Nat.lt_of_lt_of_le f304.lt gk307)
      have ne328 : b283o ≠ o307 := Nat.ne_of_lt (Nat.lt_of_lt_of_le F297_3.lt gk307)
      obtain ⟨E307', F307_0, F307_1, F307_2, F307_3⟩ := u307
      have f330 := (f308.keep KC307 all0)
      have f331 := (f309.keep KC307)
      have f332 := (f310.keep KC307 nin0)
      have f333 := (f311.keep KC307 nin0)
      have f334 := (f312.keep KC307 nin0)
      have f335 := (f313.keep KC307)
      have f336 := (f314.keep KC307 nin0)
      have f337 := (f315.keep KC307)
      have f338 := (f316.keep KC307)
      have f339 := (f317.keep KC307 nin0)
      have f340 := (f318.keep KC307 nin0)
      have f341 := (f319.keep KC307 nin0)
      have f342 := (f305.keep KC307)
      have f343 := (f302.keep KC307 nin0)
      have f344 := (f303.keep KC307 nin0)
      have f345 := (f304.keep KC307 nin0)
      have f346 := (E297'.keep KC307)
      have f347 := (F297_0.keep KC307 nin0)
      have f348 := (F297_1.keep KC307 nin0)
      have f349 := (F297_2.keep KC307 nin0)
      have f350 := (F297_3.keep KC307 nin0)
      obtain ⟨_, _, ⟨T329, Lq329, kq329, nq329⟩, -, X329, ⟨Lc329, hQ329, lq329, yq329, zq329⟩, st329⟩ := Jvm.LawKit.callS X307 hx (y := (⟨"com/example/zorgbrug/zorgbrug/fhir/Version", "release", "(JJJ)Lcom/example/zorgbrug/zorgbrug/fhir/Version;"⟩ : MethodName)) hown (mvT hZ (hw _ (own_w 80 rfl))) (mvT hZ (hw _ (own_w 81 rfl))) (mvT hZ (hw _ (own_w 28 rfl))) (mvT hZ (hw _ (own_w 82 rfl))) (by decide) (backOf (W := 1) (rRL l Z a0 hw [] b1 b2 b3 el T307.heap n0 Z307 O_EL O_FN f330 O_L) hZ (hw _ (own_w 82 rfl)) (hw _ (own_w 28 rfl)) (by decide) (by decide)) (g := (mkF m 180 #[.val (.long q1), .second, .val (.long q2), .second, .val (.long q3), .second, .val (.long q4), .second, .val (.int p5), .val (.int p6), .val (.long b1), .second, .val (.long b2), .second, .val (.long b3), .second, .val (.ref b4o), .val (.ref b252o), .val (.ref b263o), .val (.ref b283o), .val (.int r301), .val (.int r306), .unset] [(.long b3), (.long b2), (.long b1), (.ref o307)])) rfl (by rw [hml]; rfl) (argsL := [(.long b1), (.long b2), (.long b3)]) (rest := [(.ref o307)]) (lenOf pd_20 rfl) rfl (by show 2 * 0 + _ ≤ _; exact Nat.le_of_eq rfl) (hb hby at_180) (fun _ _ => ⟨rfl, rfl, (by decide : 10 + 1 ≤ _), (by decide : 36 + 4 ≤ _)⟩)
      dsimp only [Pt.U, Pt.locs, Pt.cells, Pt.slots] at X329 lq329 yq329 zq329 st329 hQ329
      subst lq329 yq329 zq329
      obtain ⟨o329, rfl, N329q, KC329, go329, gk329, u329⟩ := hQ329
      have N329 := Fr.app N307 N329q
      have Z329 : n0 ≤ T329.heap.size := Nat.le_trans Z307 KC329.1
      have ne351 : d0 ≠ o329 := Nat.ne_of_lt (Nat.lt_of_lt_of_le (O_AD.ext f330.2).lt gk329)
      have ne352 : el ≠ o329 := Nat.ne_of_lt (Nat.lt_of_lt_of_le (O_FL.ext f330.2).lt gk329)
      have ne353 : ee ≠ o329 := Nat.ne_of_lt (Nat.lt_of_lt_of_le (O_AE.ext f330.2).lt gk329)
      have ne354 : b4o ≠ o329 := Nat.ne_of_lt (Nat.lt_of_lt_of_le f334.lt gk329)
      have ne355 : o235 ≠ o329 := Nat.ne_of_lt (Nat.lt_of_lt_of_le f335.lt gk329)
      have ne356 : na241 ≠ o329 := Nat.ne_of_lt (Nat.lt_of_lt_of_le f337.lt gk329)
      have ne357 : b252o ≠ o329 := Nat.ne_of_lt (Nat.lt_of_lt_of_le f341.lt gk329)
      have ne358 : b263o ≠ o329 := Nat.ne_of_lt (Nat.lt_of_lt_of_le f345.lt gk329)
      have ne359 : b283o ≠ o329 := Nat.ne_of_lt (Nat.lt_of_lt_of_le f350.lt gk329)
      have ne360 : o307 ≠ o329 := Nat.ne_of_lt (Nat.lt_of_lt_of_le F307_3.lt gk329)
      obtain ⟨E329', F329_0, F329_1, F329_2, F329_3⟩ := u329
      have f362 := (F307_0.keep KC329 nin0)
      have f363 := (F307_1.keep KC329 nin0)
      have f364 := (F307_2.keep KC329 nin0)
      have f365 := (F307_3.keep KC329 nin0)
      have f366 := (f330.keep KC329 all0)
      have f367 := (E307'.keep KC329)
      obtain ⟨cq361, kz361, q361a, q361b, q361c⟩ := isOf hZ rfl f367
      obtain ⟨_, _, ⟨T361, Lq361, kq361, nq361⟩, -, X361, ⟨Lc361, hQ361, lq361, yq361, zq361⟩, st361⟩ := X329.virtualBack hx (y := (⟨"com/example/zorgbrug/zorgbrug/fhir/Version", "compareTo", "(Lcom/example/zorgbrug/zorgbrug/fhir/Version;)I"⟩ : MethodName)) (z := (⟨"com/example/zorgbrug/zorgbrug/fhir/Version", "compareTo", "(Lcom/example/zorgbrug/zorgbrug/fhir/Version;)I"⟩ : MethodName)) hown (mvT hZ (hw _ (own_w 94 rfl))) (mvT hZ (hw _ (own_w 95 rfl))) (notFace_of_selects (args := #[]) (mvT hZ (hw _ (own_w 97 rfl)))) (mvT hZ (hw _ (own_w 97 rfl))) (mvT hZ (hw _ (own_w 96 rfl))) (by decide) (backOf (W := 0) (rCT l Z a0 hw [] o307 o329 q1 q2 q3 b1 b2 b3 el ee ke T329.heap n0 Z329 f362 f363 f364 F329_0 F329_1 F329_2 f365 F329_3 f366 O_EL O_FL O_AE) hZ (hw _ (own_w 98 rfl)) (hw _ (own_w 28 rfl)) (by decide) (by decide)) q361a q361c (g := (mkF m 183 #[.val (.long q1), .second, .val (.long q2), .second, .val (.long q3), .second, .val (.long q4), .second, .val (.int p5), .val (.int p6), .val (.long b1), .second, .val (.long b2), .second, .val (.long b3), .second, .val (.ref b4o), .val (.ref b252o), .val (.ref b263o), .val (.ref b283o), .val (.int r301), .val (.int r306), .unset] [(.ref o329), (.ref o307)])) rfl (by rw [hml]; rfl) (Steps.refl _) (argsL := [(.ref o329)]) (rest := []) (lenOf pd_21 rfl) rfl (by show 2 * 0 + _ ≤ _; exact Nat.le_of_eq rfl) (hb hby at_183) (fun _ _ => ⟨rfl, rfl, (by decide : 11 + 0 ≤ _), (by decide : 40 + 0 ≤ _)⟩)
      dsimp only [Pt.U, Pt.locs, Pt.cells, Pt.slots] at X361 lq361 yq361 zq361 st361 hQ361
      subst lq361 yq361 zq361
      obtain ⟨r361, hr361, rfl, N361q, e361⟩ := hQ361
      have N361 := Fr.app N329 N361q
      by_cases hP : q1 = b1 ∧ q2 = b2 ∧ q3 = b3
      · skip
        obtain ⟨fs, hr, hrun, hended, hW, hsame⟩ := X361.leave (v := some (.int (1 : Int32))) (fun h => by rw [Bd.returns] at h; cases h) (BodyLoose.notSynchronized Bd)
        refine ⟨_, _, pre0 _ ?_, hrun, hended, _, _, rfl, ?_, ⟨_, rfl⟩, hW, hsame.mono (by decide) (by decide)⟩
        · show Steps p.tables e below (s₁.setTop (mkF m 0 #[.val (.long q1), .second, .val (.long q2), .second, .val (.long q3), .second, .val (.long q4), .second, .val (.int p5), .val (.int p6), .unset, .unset, .unset, .unset, .unset, .unset, .unset, .unset, .unset, .unset, .unset, .unset, .unset] [])) _
          refine sg1 _ ?_
          refine XS.lstore X0.here hx rfl (hb hby at_13) rfl (l' := #[.val (.long q1), .second, .val (.long q2), .second, .val (.long q3), .second, .val (.long q4), .second, .val (.int p5), .val (.int p6), .val (.long b1), .second, .unset, .unset, .unset, .unset, .unset, .unset, .unset, .unset, .unset, .unset, .unset]) rfl ?_
          refine sg2 _ ?_
          refine XS.lstore X0.here hx rfl (hb hby at_28) rfl (l' := #[.val (.long q1), .second, .val (.long q2), .second, .val (.long q3), .second, .val (.long q4), .second, .val (.int p5), .val (.int p6), .val (.long b1), .second, .val (.long b2), .second, .unset, .unset, .unset, .unset, .unset, .unset, .unset, .unset, .unset]) rfl ?_
          refine sg3 _ ?_
          refine XS.lstore X0.here hx rfl (hb hby at_44) rfl (l' := #[.val (.long q1), .second, .val (.long q2), .second, .val (.long q3), .second, .val (.long q4), .second, .val (.int p5), .val (.int p6), .val (.long b1), .second, .val (.long b2), .second, .val (.long b3), .second, .unset, .unset, .unset, .unset, .unset, .unset, .unset]) rfl ?_
          refine st4 _ ?_
          refine XS.dup X4.here hx rfl (hb hby at_49) rfl rfl ?_
          refine st8.trans ?_
          refine XS.astore X8.here hx rfl (hb hby at_53) rfl rfl (l' := #[.val (.long q1), .second, .val (.long q2), .second, .val (.long q3), .second, .val (.long q4), .second, .val (.int p5), .val (.int p6), .val (.long b1), .second, .val (.long b2), .second, .val (.long b3), .second, .val (.ref b4o), .unset, .unset, .unset, .unset, .unset, .unset]) rfl ?_
          refine XS.iload X8.here hx rfl (hb hby at_55) rfl ?_
          refine XS.iconst X8.here hx rfl (hb hby at_57) ?_
          refine XS.iand X8.here hx rfl (hb hby at_58) rfl ?_
          refine XS.ifNo X8.here hx rfl (hb hby at_59) rfl ((if0 _ _).trans (feq hc59).1) ?_
          refine XS.aload X8.here hx rfl (hb hby at_62) rfl rfl ?_
          refine XS.iload X8.here hx rfl (hb hby at_64) rfl ?_
          refine XS.iconst X8.here hx rfl (hb hby at_66) ?_
          refine XS.iushr X8.here hx rfl (hb hby at_67) rfl ?_
          refine XS.sipush X8.here hx rfl (hb hby at_68) ?_
          refine XS.iand X8.here hx rfl (hb hby at_71) rfl ?_
          refine XS.i2c X8.here hx rfl (hb hby at_72) rfl ?_
          refine st235 _ ?_
          refine st241.trans ?_
          refine XS.pop X241.here hx rfl (hb hby at_79) rfl rfl ?_
          refine st252 _ ?_
          refine XS.dup X252.here hx rfl (hb hby at_83) rfl rfl ?_
          refine st261.trans ?_
          refine XS.astore X261.here hx rfl (hb hby at_87) rfl rfl (l' := #[.val (.long q1), .second, .val (.long q2), .second, .val (.long q3), .second, .val (.long q4), .second, .val (.int p5), .val (.int p6), .val (.long b1), .second, .val (.long b2), .second, .val (.long b3), .second, .val (.ref b4o), .val (.ref b252o), .unset, .unset, .unset, .unset, .unset]) rfl ?_
          refine XS.iload X261.here hx rfl (hb hby at_89) rfl ?_
          refine XS.sipush X261.here hx rfl (hb hby at_91) ?_
          refine XS.iand X261.here hx rfl (hb hby at_94) rfl ?_
          refine XS.ifYes X261.here hx rfl (pc0 := 95) (pc' := 117) rfl (hb hby at_95) rfl ((if0 _ _).trans (teq hc95).1) (by decide) (by decide) ?_
          refine st263 _ ?_
          refine XS.dup X263.here hx rfl (hb hby at_120) rfl rfl ?_
          refine XS.lloadN X263.here hx rfl (hb hby at_121) rfl ?_
          refine XS.lloadN X263.here hx rfl (hb hby at_122) rfl ?_
          refine XS.lload X263.here hx rfl (hb hby at_123) rfl ?_
          refine XS.aload X263.here hx rfl (hb hby at_125) rfl rfl ?_
          refine st275.trans ?_
          refine XS.astore X275.here hx rfl (hb hby at_130) rfl rfl (l' := #[.val (.long q1), .second, .val (.long q2), .second, .val (.long q3), .second, .val (.long q4), .second, .val (.int p5), .val (.int p6), .val (.long b1), .second, .val (.long b2), .second, .val (.long b3), .second, .val (.ref b4o), .val (.ref b252o), .val (.ref b263o), .unset, .unset, .unset, .unset]) rfl ?_
          show Steps p.tables e below (T275.setTop (mkF m 132 #[.val (.long q1), .second, .val (.long q2), .second, .val (.long q3), .second, .val (.long q4), .second, .val (.int p5), .val (.int p6), .val (.long b1), .second, .val (.long b2), .second, .val (.long b3), .second, .val (.ref b4o), .val (.ref b252o), .val (.ref b263o), .unset, .unset, .unset, .unset] [])) _
          refine st283 _ ?_
          refine XS.dup X283.here hx rfl (hb hby at_135) rfl rfl ?_
          refine XS.lload X283.here hx rfl (hb hby at_136) rfl ?_
          refine XS.lload X283.here hx rfl (hb hby at_138) rfl ?_
          refine XS.lload X283.here hx rfl (hb hby at_140) rfl ?_
          refine XS.aload X283.here hx rfl (hb hby at_142) rfl rfl ?_
          refine st297.trans ?_
          refine XS.astore X297.here hx rfl (hb hby at_147) rfl rfl (l' := #[.val (.long q1), .second, .val (.long q2), .second, .val (.long q3), .second, .val (.long q4), .second, .val (.int p5), .val (.int p6), .val (.long b1), .second, .val (.long b2), .second, .val (.long b3), .second, .val (.ref b4o), .val (.ref b252o), .val (.ref b263o), .val (.ref b283o), .unset, .unset, .unset]) rfl ?_
          refine XS.aload X297.here hx rfl (hb hby at_149) rfl rfl ?_
          refine XS.aload X297.here hx rfl (hb hby at_151) rfl rfl ?_
          refine st301.trans ?_
          refine XS.istore X301.here hx rfl (hb hby at_156) rfl (l' := #[.val (.long q1), .second, .val (.long q2), .second, .val (.long q3), .second, .val (.long q4), .second, .val (.int p5), .val (.int p6), .val (.long b1), .second, .val (.long b2), .second, .val (.long b3), .second, .val (.ref b4o), .val (.ref b252o), .val (.ref b263o), .val (.ref b283o), .val (.int r301), .unset, .unset]) rfl ?_
          refine XS.aload X301.here hx rfl (hb hby at_158) rfl rfl ?_
          refine XS.aload X301.here hx rfl (hb hby at_160) rfl rfl ?_
          refine st306.trans ?_
          refine XS.istore X306.here hx rfl (hb hby at_165) rfl (l' := #[.val (.long q1), .second, .val (.long q2), .second, .val (.long q3), .second, .val (.long q4), .second, .val (.int p5), .val (.int p6), .val (.long b1), .second, .val (.long b2), .second, .val (.long b3), .second, .val (.ref b4o), .val (.ref b252o), .val (.ref b263o), .val (.ref b283o), .val (.int r301), .val (.int r306), .unset]) rfl ?_
          refine XS.lloadN X306.here hx rfl (hb hby at_167) rfl ?_
          refine XS.lloadN X306.here hx rfl (hb hby at_168) rfl ?_
          refine XS.lload X306.here hx rfl (hb hby at_169) rfl ?_
          refine st307 _ ?_
          refine XS.lload X307.here hx rfl (hb hby at_174) rfl ?_
          refine XS.lload X307.here hx rfl (hb hby at_176) rfl ?_
          refine XS.lload X307.here hx rfl (hb hby at_178) rfl ?_
          refine st329 _ ?_
          refine st361.trans ?_
          refine XS.istore X361.here hx rfl (hb hby at_186) rfl (l' := #[.val (.long q1), .second, .val (.long q2), .second, .val (.long q3), .second, .val (.long q4), .second, .val (.int p5), .val (.int p6), .val (.long b1), .second, .val (.long b2), .second, .val (.long b3), .second, .val (.ref b4o), .val (.ref b252o), .val (.ref b263o), .val (.ref b283o), .val (.int r301), .val (.int r306), .val (.int r361)]) rfl ?_
          show Steps p.tables e below (T361.setTop (mkF m 188 #[.val (.long q1), .second, .val (.long q2), .second, .val (.long q3), .second, .val (.long q4), .second, .val (.int p5), .val (.int p6), .val (.long b1), .second, .val (.long b2), .second, .val (.long b3), .second, .val (.ref b4o), .val (.ref b252o), .val (.ref b263o), .val (.ref b283o), .val (.int r301), .val (.int r306), .val (.int r361)] [])) _
          rw [(hr301.trans (if_pos hP))]
          show Steps p.tables e below (T361.setTop (mkF m 188 #[.val (.long q1), .second, .val (.long q2), .second, .val (.long q3), .second, .val (.long q4), .second, .val (.int p5), .val (.int p6), .val (.long b1), .second, .val (.long b2), .second, .val (.long b3), .second, .val (.ref b4o), .val (.ref b252o), .val (.ref b263o), .val (.ref b283o), .val (.int (1 : Int32)), .val (.int r306), .val (.int r361)] [])) _
          rw [(hr306.trans (if_pos ⟨hP.1.symm, hP.2.1.symm, hP.2.2.symm⟩))]
          show Steps p.tables e below (T361.setTop (mkF m 188 #[.val (.long q1), .second, .val (.long q2), .second, .val (.long q3), .second, .val (.long q4), .second, .val (.int p5), .val (.int p6), .val (.long b1), .second, .val (.long b2), .second, .val (.long b3), .second, .val (.ref b4o), .val (.ref b252o), .val (.ref b263o), .val (.ref b283o), .val (.int (1 : Int32)), .val (.int (1 : Int32)), .val (.int r361)] [])) _
          rw [(hr361.mpr hP)]
          show Steps p.tables e below (T361.setTop (mkF m 188 #[.val (.long q1), .second, .val (.long q2), .second, .val (.long q3), .second, .val (.long q4), .second, .val (.int p5), .val (.int p6), .val (.long b1), .second, .val (.long b2), .second, .val (.long b3), .second, .val (.ref b4o), .val (.ref b252o), .val (.ref b263o), .val (.ref b283o), .val (.int (1 : Int32)), .val (.int (1 : Int32)), .val (.int (0 : Int32))] [])) _
          refine XS.iload X361.here hx rfl (hb hby at_188) rfl ?_
          refine XS.iload X361.here hx rfl (hb hby at_190) rfl ?_
          refine XS.ifNo X361.here hx rfl (hb hby at_192) rfl ((if0 _ _).trans (teq (by decide)).2) ?_
          refine XS.iconst X361.here hx rfl (hb hby at_195) ?_
          refine XS.goto X361.here hx rfl (pc0 := 196) (pc' := 200) rfl (hb hby at_196) (by decide) (by decide) ?_
          refine XS.icmpNo X361.here hx rfl (hb hby at_200) rfl (teq (by decide)).2 ?_
          refine XS.iload X361.here hx rfl (hb hby at_203) rfl ?_
          refine XS.iload X361.here hx rfl (hb hby at_205) rfl ?_
          refine XS.icmpNo X361.here hx rfl (hb hby at_207) rfl (teq (by decide)).2 ?_
          refine XS.iconst X361.here hx rfl (hb hby at_210) ?_
          refine XS.goto X361.here hx rfl (pc0 := 211) (pc' := 215) rfl (hb hby at_211) (by decide) (by decide) ?_
          show Steps p.tables e below (T361.setTop (mkF m 215 #[.val (.long q1), .second, .val (.long q2), .second, .val (.long q3), .second, .val (.long q4), .second, .val (.int p5), .val (.int p6), .val (.long b1), .second, .val (.long b2), .second, .val (.long b3), .second, .val (.ref b4o), .val (.ref b252o), .val (.ref b263o), .val (.ref b283o), .val (.int (1 : Int32)), .val (.int (1 : Int32)), .val (.int (0 : Int32))] [(.int (1 : Int32))])) _
          exact retN X361 hx (t := .boolean) Bd.returns (by simp) (hb hby at_215) hr
        · show Qrm0 Z q1 q2 q3 q4 p5 p6 d0 kd el ee ke eo G1 mr h0 n0 _ T361.heap _
          exact ⟨rfl, N361⟩
      · skip
        obtain ⟨fs, hr, hrun, hended, hW, hsame⟩ := X361.leave (v := some (.int (1 : Int32))) (fun h => by rw [Bd.returns] at h; cases h) (BodyLoose.notSynchronized Bd)
        refine ⟨_, _, pre0 _ ?_, hrun, hended, _, _, rfl, ?_, ⟨_, rfl⟩, hW, hsame.mono (by decide) (by decide)⟩
        · show Steps p.tables e below (s₁.setTop (mkF m 0 #[.val (.long q1), .second, .val (.long q2), .second, .val (.long q3), .second, .val (.long q4), .second, .val (.int p5), .val (.int p6), .unset, .unset, .unset, .unset, .unset, .unset, .unset, .unset, .unset, .unset, .unset, .unset, .unset] [])) _
          refine sg1 _ ?_
          refine XS.lstore X0.here hx rfl (hb hby at_13) rfl (l' := #[.val (.long q1), .second, .val (.long q2), .second, .val (.long q3), .second, .val (.long q4), .second, .val (.int p5), .val (.int p6), .val (.long b1), .second, .unset, .unset, .unset, .unset, .unset, .unset, .unset, .unset, .unset, .unset, .unset]) rfl ?_
          refine sg2 _ ?_
          refine XS.lstore X0.here hx rfl (hb hby at_28) rfl (l' := #[.val (.long q1), .second, .val (.long q2), .second, .val (.long q3), .second, .val (.long q4), .second, .val (.int p5), .val (.int p6), .val (.long b1), .second, .val (.long b2), .second, .unset, .unset, .unset, .unset, .unset, .unset, .unset, .unset, .unset]) rfl ?_
          refine sg3 _ ?_
          refine XS.lstore X0.here hx rfl (hb hby at_44) rfl (l' := #[.val (.long q1), .second, .val (.long q2), .second, .val (.long q3), .second, .val (.long q4), .second, .val (.int p5), .val (.int p6), .val (.long b1), .second, .val (.long b2), .second, .val (.long b3), .second, .unset, .unset, .unset, .unset, .unset, .unset, .unset]) rfl ?_
          refine st4 _ ?_
          refine XS.dup X4.here hx rfl (hb hby at_49) rfl rfl ?_
          refine st8.trans ?_
          refine XS.astore X8.here hx rfl (hb hby at_53) rfl rfl (l' := #[.val (.long q1), .second, .val (.long q2), .second, .val (.long q3), .second, .val (.long q4), .second, .val (.int p5), .val (.int p6), .val (.long b1), .second, .val (.long b2), .second, .val (.long b3), .second, .val (.ref b4o), .unset, .unset, .unset, .unset, .unset, .unset]) rfl ?_
          refine XS.iload X8.here hx rfl (hb hby at_55) rfl ?_
          refine XS.iconst X8.here hx rfl (hb hby at_57) ?_
          refine XS.iand X8.here hx rfl (hb hby at_58) rfl ?_
          refine XS.ifNo X8.here hx rfl (hb hby at_59) rfl ((if0 _ _).trans (feq hc59).1) ?_
          refine XS.aload X8.here hx rfl (hb hby at_62) rfl rfl ?_
          refine XS.iload X8.here hx rfl (hb hby at_64) rfl ?_
          refine XS.iconst X8.here hx rfl (hb hby at_66) ?_
          refine XS.iushr X8.here hx rfl (hb hby at_67) rfl ?_
          refine XS.sipush X8.here hx rfl (hb hby at_68) ?_
          refine XS.iand X8.here hx rfl (hb hby at_71) rfl ?_
          refine XS.i2c X8.here hx rfl (hb hby at_72) rfl ?_
          refine st235 _ ?_
          refine st241.trans ?_
          refine XS.pop X241.here hx rfl (hb hby at_79) rfl rfl ?_
          refine st252 _ ?_
          refine XS.dup X252.here hx rfl (hb hby at_83) rfl rfl ?_
          refine st261.trans ?_
          refine XS.astore X261.here hx rfl (hb hby at_87) rfl rfl (l' := #[.val (.long q1), .second, .val (.long q2), .second, .val (.long q3), .second, .val (.long q4), .second, .val (.int p5), .val (.int p6), .val (.long b1), .second, .val (.long b2), .second, .val (.long b3), .second, .val (.ref b4o), .val (.ref b252o), .unset, .unset, .unset, .unset, .unset]) rfl ?_
          refine XS.iload X261.here hx rfl (hb hby at_89) rfl ?_
          refine XS.sipush X261.here hx rfl (hb hby at_91) ?_
          refine XS.iand X261.here hx rfl (hb hby at_94) rfl ?_
          refine XS.ifYes X261.here hx rfl (pc0 := 95) (pc' := 117) rfl (hb hby at_95) rfl ((if0 _ _).trans (teq hc95).1) (by decide) (by decide) ?_
          refine st263 _ ?_
          refine XS.dup X263.here hx rfl (hb hby at_120) rfl rfl ?_
          refine XS.lloadN X263.here hx rfl (hb hby at_121) rfl ?_
          refine XS.lloadN X263.here hx rfl (hb hby at_122) rfl ?_
          refine XS.lload X263.here hx rfl (hb hby at_123) rfl ?_
          refine XS.aload X263.here hx rfl (hb hby at_125) rfl rfl ?_
          refine st275.trans ?_
          refine XS.astore X275.here hx rfl (hb hby at_130) rfl rfl (l' := #[.val (.long q1), .second, .val (.long q2), .second, .val (.long q3), .second, .val (.long q4), .second, .val (.int p5), .val (.int p6), .val (.long b1), .second, .val (.long b2), .second, .val (.long b3), .second, .val (.ref b4o), .val (.ref b252o), .val (.ref b263o), .unset, .unset, .unset, .unset]) rfl ?_
          show Steps p.tables e below (T275.setTop (mkF m 132 #[.val (.long q1), .second, .val (.long q2), .second, .val (.long q3), .second, .val (.long q4), .second, .val (.int p5), .val (.int p6), .val (.long b1), .second, .val (.long b2), .second, .val (.long b3), .second, .val (.ref b4o), .val (.ref b252o), .val (.ref b263o), .unset, .unset, .unset, .unset] [])) _
          refine st283 _ ?_
          refine XS.dup X283.here hx rfl (hb hby at_135) rfl rfl ?_
          refine XS.lload X283.here hx rfl (hb hby at_136) rfl ?_
          refine XS.lload X283.here hx rfl (hb hby at_138) rfl ?_
          refine XS.lload X283.here hx rfl (hb hby at_140) rfl ?_
          refine XS.aload X283.here hx rfl (hb hby at_142) rfl rfl ?_
          refine st297.trans ?_
          refine XS.astore X297.here hx rfl (hb hby at_147) rfl rfl (l' := #[.val (.long q1), .second, .val (.long q2), .second, .val (.long q3), .second, .val (.long q4), .second, .val (.int p5), .val (.int p6), .val (.long b1), .second, .val (.long b2), .second, .val (.long b3), .second, .val (.ref b4o), .val (.ref b252o), .val (.ref b263o), .val (.ref b283o), .unset, .unset, .unset]) rfl ?_
          refine XS.aload X297.here hx rfl (hb hby at_149) rfl rfl ?_
          refine XS.aload X297.here hx rfl (hb hby at_151) rfl rfl ?_
          refine st301.trans ?_
          refine XS.istore X301.here hx rfl (hb hby at_156) rfl (l' := #[.val (.long q1), .second, .val (.long q2), .second, .val (.long q3), .second, .val (.long q4), .second, .val (.int p5), .val (.int p6), .val (.long b1), .second, .val (.long b2), .second, .val (.long b3), .second, .val (.ref b4o), .val (.ref b252o), .val (.ref b263o), .val (.ref b283o), .val (.int r301), .unset, .unset]) rfl ?_
          refine XS.aload X301.here hx rfl (hb hby at_158) rfl rfl ?_
          refine XS.aload X301.here hx rfl (hb hby at_160) rfl rfl ?_
          refine st306.trans ?_
          refine XS.istore X306.here hx rfl (hb hby at_165) rfl (l' := #[.val (.long q1), .second, .val (.long q2), .second, .val (.long q3), .second, .val (.long q4), .second, .val (.int p5), .val (.int p6), .val (.long b1), .second, .val (.long b2), .second, .val (.long b3), .second, .val (.ref b4o), .val (.ref b252o), .val (.ref b263o), .val (.ref b283o), .val (.int r301), .val (.int r306), .unset]) rfl ?_
          refine XS.lloadN X306.here hx rfl (hb hby at_167) rfl ?_
          refine XS.lloadN X306.here hx rfl (hb hby at_168) rfl ?_
          refine XS.lload X306.here hx rfl (hb hby at_169) rfl ?_
          refine st307 _ ?_
          refine XS.lload X307.here hx rfl (hb hby at_174) rfl ?_
          refine XS.lload X307.here hx rfl (hb hby at_176) rfl ?_
          refine XS.lload X307.here hx rfl (hb hby at_178) rfl ?_
          refine st329 _ ?_
          refine st361.trans ?_
          refine XS.istore X361.here hx rfl (hb hby at_186) rfl (l' := #[.val (.long q1), .second, .val (.long q2), .second, .val (.long q3), .second, .val (.long q4), .second, .val (.int p5), .val (.int p6), .val (.long b1), .second, .val (.long b2), .second, .val (.long b3), .second, .val (.ref b4o), .val (.ref b252o), .val (.ref b263o), .val (.ref b283o), .val (.int r301), .val (.int r306), .val (.int r361)]) rfl ?_
          show Steps p.tables e below (T361.setTop (mkF m 188 #[.val (.long q1), .second, .val (.long q2), .second, .val (.long q3), .second, .val (.long q4), .second, .val (.int p5), .val (.int p6), .val (.long b1), .second, .val (.long b2), .second, .val (.long b3), .second, .val (.ref b4o), .val (.ref b252o), .val (.ref b263o), .val (.ref b283o), .val (.int r301), .val (.int r306), .val (.int r361)] [])) _
          rw [(hr301.trans (if_neg hP))]
          show Steps p.tables e below (T361.setTop (mkF m 188 #[.val (.long q1), .second, .val (.long q2), .second, .val (.long q3), .second, .val (.long q4), .second, .val (.int p5), .val (.int p6), .val (.long b1), .second, .val (.long b2), .second, .val (.long b3), .second, .val (.ref b4o), .val (.ref b252o), .val (.ref b263o), .val (.ref b283o), .val (.int (0 : Int32)), .val (.int r306), .val (.int r361)] [])) _
          rw [(hr306.trans (if_neg (fun w => hP ⟨w.1.symm, w.2.1.symm, w.2.2.symm⟩)))]
          show Steps p.tables e below (T361.setTop (mkF m 188 #[.val (.long q1), .second, .val (.long q2), .second, .val (.long q3), .second, .val (.long q4), .second, .val (.int p5), .val (.int p6), .val (.long b1), .second, .val (.long b2), .second, .val (.long b3), .second, .val (.ref b4o), .val (.ref b252o), .val (.ref b263o), .val (.ref b283o), .val (.int (0 : Int32)), .val (.int (0 : Int32)), .val (.int r361)] [])) _
          refine XS.iload X361.here hx rfl (hb hby at_188) rfl ?_
          refine XS.iload X361.here hx rfl (hb hby at_190) rfl ?_
          refine XS.ifYes X361.here hx rfl (pc0 := 192) (pc' := 199) rfl (hb hby at_192) rfl ((if0 _ _).trans (feq (fun w => hP (hr361.mp w))).2) (by decide) (by decide) ?_
          refine XS.iconst X361.here hx rfl (hb hby at_199) ?_
          refine XS.icmpNo X361.here hx rfl (hb hby at_200) rfl (teq (by decide)).2 ?_
          refine XS.iload X361.here hx rfl (hb hby at_203) rfl ?_
          refine XS.iload X361.here hx rfl (hb hby at_205) rfl ?_
          refine XS.icmpNo X361.here hx rfl (hb hby at_207) rfl (teq (by decide)).2 ?_
          refine XS.iconst X361.here hx rfl (hb hby at_210) ?_
          refine XS.goto X361.here hx rfl (pc0 := 211) (pc' := 215) rfl (hb hby at_211) (by decide) (by decide) ?_
          show Steps p.tables e below (T361.setTop (mkF m 215 #[.val (.long q1), .second, .val (.long q2), .second, .val (.long q3), .second, .val (.long q4), .second, .val (.int p5), .val (.int p6), .val (.long b1), .second, .val (.long b2), .second, .val (.long b3), .second, .val (.ref b4o), .val (.ref b252o), .val (.ref b263o), .val (.ref b283o), .val (.int (0 : Int32)), .val (.int (0 : Int32)), .val (.int r361)] [(.int (1 : Int32))])) _
          exact retN X361 hx (t := .boolean) Bd.returns (by simp) (hb hby at_215) hr
        · show Qrm0 Z q1 q2 q3 q4 p5 p6 d0 kd el ee ke eo G1 mr h0 n0 _ T361.heap _
          exact ⟨rfl, N361⟩
    · have f369 := (f262.keep KC261 (allS b252 all0))
      have f370 := ((E241'.ext E252).keep KC261)
      have f371 := ((FM241'.ext E252).keep KC261 (ninS ne257 nin0))
      have f372 := ((FE241'.ext E252).keep KC261 (ninS ne257 nin0))
      have f373 := ((FZ241'.ext E252).keep KC261 (ninS ne257 nin0))
      have f374 := ((f258.ext E252).keep KC261)
      have f375 := ((AV241'.ext E252).keep KC261 (ninS ne260 nin0))
      have f376 := ((EX241'.ext E252).keep KC261)
      obtain ⟨_, _, ⟨T368, Lq368, kq368, nq368⟩, -, X368, ⟨Lc368, hQ368, lq368, yq368, zq368⟩, st368⟩ := Jvm.LawKit.callS X261 hx (y := (⟨"java/lang/String", "valueOf", "(C)Ljava/lang/String;"⟩ : MethodName)) hown (mvT hZ (hw _ (own_w 103 rfl))) (mvT hZ (hw _ (own_w 104 rfl))) (mvT hZ (hw _ (own_w 105 rfl))) (mvT hZ (hw _ (own_w 106 rfl))) (by decide) (backOf (W := 1) (rSV l Z a0 hw [] ((((p6.toUInt32 >>> ((10 : Int32) &&& 31).toUInt32).toInt32) &&& (255 : Int32)).toUInt32.toUInt16.toUInt32.toInt32) G1 T261.heap n0 Z261 (own_c255 _) f369 O_2 P5) hZ (hw _ (own_w 106 rfl)) (hw _ (own_w 105 rfl)) (by decide) (by decide)) (g := (mkF m 110 #[.val (.long q1), .second, .val (.long q2), .second, .val (.long q3), .second, .val (.long q4), .second, .val (.int p5), .val (.int p6), .val (.long b1), .second, .val (.long b2), .second, .val (.long b3), .second, .val (.ref b4o), .val (.ref b252o), .unset, .unset, .unset, .unset, .unset] [(.int ((((p6.toUInt32 >>> ((10 : Int32) &&& 31).toUInt32).toInt32) &&& (255 : Int32)).toUInt32.toUInt16.toUInt32.toInt32)), (.ref b252o)])) rfl (by rw [hml]; rfl) (argsL := [(.int ((((p6.toUInt32 >>> ((10 : Int32) &&& 31).toUInt32).toInt32) &&& (255 : Int32)).toUInt32.toUInt16.toUInt32.toInt32))]) (rest := [(.ref b252o)]) (lenOf pd_22 rfl) rfl (by show 2 * 0 + _ ≤ _; exact Nat.le_of_eq rfl) (hb hby at_110) (fun _ _ => ⟨rfl, rfl, (by decide : 5 + 2 ≤ _), (by decide : 21 + 5 ≤ _)⟩)
      dsimp only [Pt.U, Pt.locs, Pt.cells, Pt.slots] at X368 lq368 yq368 zq368 st368 hQ368
      subst lq368 yq368 zq368
      obtain ⟨o368, rfl, N368q, KC368, go368, gk368, u368⟩ := hQ368
      have N368 := Fr.app N261 N368q
      have Z368 : n0 ≤ T368.heap.size := Nat.le_trans Z261 KC368.1
      have ne377 : d0 ≠ o368 := Nat.ne_of_lt (Nat.lt_of_lt_of_le (O_AD.ext f369.2).lt gk368)
      have ne378 : el ≠ o368 := Nat.ne_of_lt (Nat.lt_of_lt_of_le (O_FL.ext f369.2).lt gk368)
      have ne379 : ee ≠ o368 := Nat.ne_of_lt (Nat.lt_of_lt_of_le (O_AE.ext f369.2).lt gk368)
      have ne380 : b4o ≠ o368 := Nat.ne_of_lt (Nat.lt_of_lt_of_le f373.lt gk368)
      have ne381 : o235 ≠ o368 := Nat.ne_of_lt (Nat.lt_of_lt_of_le f374.lt gk368)
      have ne382 : na241 ≠ o368 := Nat.ne_of_lt (Nat.lt_of_lt_of_le f376.lt gk368)
      have ne383 : b252o ≠ o368 := Nat.ne_of_lt (Nat.lt_of_lt_of_le FZ261'.lt gk368)
      have f385 := (f369.keep KC368 all0)
      have f386 := (f370.keep KC368)
      have f387 := (f371.keep KC368 nin0)
      have f388 := (f372.keep KC368 nin0)
      have f389 := (f373.keep KC368 nin0)
      have f390 := (f374.keep KC368)
      have f391 := (f375.keep KC368 nin0)
      have f392 := (f376.keep KC368)
      have f393 := (E261'.keep KC368)
      have f394 := (FM261'.keep KC368 nin0)
      have f395 := (FE261'.keep KC368 nin0)
      have f396 := (FZ261'.keep KC368 nin0)
      obtain ⟨cq384, kz384, q384a, q384b, q384c⟩ := isOf hZ rfl f393
      obtain ⟨_, _, ⟨T384, Lq384, kq384, nq384⟩, -, X384, ⟨Lc384, hQ384, lq384, yq384, zq384⟩, st384⟩ := X368.virtualBack hx (y := (⟨"java/util/ArrayList", "add", "(Ljava/lang/Object;)Z"⟩ : MethodName)) (z := (⟨"java/util/ArrayList", "add", "(Ljava/lang/Object;)Z"⟩ : MethodName)) hown (mvT hZ (hw _ (own_w 127 rfl))) (mvT hZ (hw _ (own_w 128 rfl))) (notFace_of_selects (args := #[]) (mvT hZ (hw _ (own_w 130 rfl)))) (mvT hZ (hw _ (own_w 130 rfl))) (mvT hZ (hw _ (own_w 129 rfl))) (by decide) (backOf (W := 0) (rA l Z a0 hw [] b252o o368 d0 kd T368.heap n0 Z368 f393 f394 f395 f396 b252 f385 O_D O_AD u368) hZ (hw _ (own_w 131 rfl)) (hw _ (own_w 2 rfl)) (by decide) (by decide)) q384a q384c (g := (mkF m 113 #[.val (.long q1), .second, .val (.long q2), .second, .val (.long q3), .second, .val (.long q4), .second, .val (.int p5), .val (.int p6), .val (.long b1), .second, .val (.long b2), .second, .val (.long b3), .second, .val (.ref b4o), .val (.ref b252o), .unset, .unset, .unset, .unset, .unset] [(.ref o368), (.ref b252o)])) rfl (by rw [hml]; rfl) (Steps.refl _) (argsL := [(.ref o368)]) (rest := []) (lenOf pd_23 rfl) rfl (by show 2 * 0 + _ ≤ _; exact Nat.le_of_eq rfl) (hb hby at_113) (fun _ _ => ⟨rfl, rfl, (by decide : 7 + 1 ≤ _), (by decide : 26 + 10 ≤ _)⟩)
      dsimp only [Pt.U, Pt.locs, Pt.cells, Pt.slots] at X384 lq384 yq384 zq384 st384 hQ384
      subst lq384 yq384 zq384
      obtain ⟨na384, nk384, rfl, N384q, KC384, gn384, gk384, E384', FM384', FE384', FZ384', AV384', EX384', OV384'⟩ := hQ384
      have N384 := Fr.app N368 N384q
      have Z384 : n0 ≤ T384.heap.size := Nat.le_trans Z368 KC384.1
      have ne397 : d0 ≠ na384 := Nat.ne_of_lt (Nat.lt_of_lt_of_le (O_AD.ext f385.2).lt gk384)
      have ne398 : el ≠ na384 := Nat.ne_of_lt (Nat.lt_of_lt_of_le (O_FL.ext f385.2).lt gk384)
      have ne399 : ee ≠ na384 := Nat.ne_of_lt (Nat.lt_of_lt_of_le (O_AE.ext f385.2).lt gk384)
      have ne400 : b4o ≠ na384 := Nat.ne_of_lt (Nat.lt_of_lt_of_le f389.lt gk384)
      have ne401 : o235 ≠ na384 := Nat.ne_of_lt (Nat.lt_of_lt_of_le f390.lt gk384)
      have ne402 : na241 ≠ na384 := Nat.ne_of_lt (Nat.lt_of_lt_of_le f392.lt gk384)
      have ne403 : b252o ≠ na384 := Nat.ne_of_lt (Nat.lt_of_lt_of_le f396.lt gk384)
      have ne404 : o368 ≠ na384 := Nat.ne_of_lt (Nat.lt_of_lt_of_le u368.lt gk384)
      obtain ⟨T405, h405, X405, e405, E405, A405, D405, -, st405⟩ := newO X384 hx hZ hown (hw _ (own_w 26 rfl)) (hw _ (own_w 27 rfl)) (hw _ (own_w 28 rfl)) rfl (g := (mkF m 117 #[.val (.long q1), .second, .val (.long q2), .second, .val (.long q3), .second, .val (.long q4), .second, .val (.int p5), .val (.int p6), .val (.long b1), .second, .val (.long b2), .second, .val (.long b3), .second, .val (.ref b4o), .val (.ref b252o), .unset, .unset, .unset, .unset, .unset] [])) rfl (hb hby at_117) (by decide) (by decide)
      obtain ⟨b405o, g405⟩ : ∃ z, z = T384.heap.size := ⟨_, rfl⟩
      have b405 : n0 ≤ b405o := Nat.le_trans Z384 (Nat.le_of_eq g405.symm)
      have f406 := (f385.keep KC384 (allS b252 all0))
      have ne407 : d0 ≠ b405o := Nat.ne_of_lt (Nat.lt_of_lt_of_le (O_AD.ext f406.2).lt (Nat.le_of_eq g405.symm))
      have ne408 : el ≠ b405o := Nat.ne_of_lt (Nat.lt_of_lt_of_le (O_EL.ext f406.2).lt (Nat.le_of_eq g405.symm))
      have ne409 : ee ≠ b405o := Nat.ne_of_lt (Nat.lt_of_lt_of_le (O_AE.ext f406.2).lt (Nat.le_of_eq g405.symm))
      have f410 := (f386.keep KC384)
      have ne411 : b4o ≠ b405o := Nat.ne_of_lt (Nat.lt_of_lt_of_le f410.lt (Nat.le_of_eq g405.symm))
      have f412 := (f390.keep KC384)
      have ne413 : o235 ≠ b405o := Nat.ne_of_lt (Nat.lt_of_lt_of_le f412.lt (Nat.le_of_eq g405.symm))
      have f414 := (f391.keep KC384 (ninS ne260 nin0))
      have ne415 : na241 ≠ b405o := Nat.ne_of_lt (Nat.lt_of_lt_of_le f414.lt (Nat.le_of_eq g405.symm))
      have ne416 : b252o ≠ b405o := Nat.ne_of_lt (Nat.lt_of_lt_of_le E384'.lt (Nat.le_of_eq g405.symm))
      have f417 := (u368.keep KC384)
      have ne418 : o368 ≠ b405o := Nat.ne_of_lt (Nat.lt_of_lt_of_le f417.lt (Nat.le_of_eq g405.symm))
      have ne419 : na384 ≠ b405o := Nat.ne_of_lt (Nat.lt_of_lt_of_le AV384'.lt (Nat.le_of_eq g405.symm))
      rw [← g405] at A405 D405 st405
      have Z405 : n0 ≤ h405.size := Nat.le_trans Z384 E405.1
      have F405_68 : Fld Z h405 b405o "com/example/zorgbrug/zorgbrug/fhir/Version" "major" "J" (.long (0 : Int64)) := D405 (Or.inr (hw _ (own_w 68 rfl))) (ty := .long) (by decide)
      have F405_70 : Fld Z h405 b405o "com/example/zorgbrug/zorgbrug/fhir/Version" "minor" "J" (.long (0 : Int64)) := D405 (Or.inr (hw _ (own_w 70 rfl))) (ty := .long) (by decide)
      have F405_72 : Fld Z h405 b405o "com/example/zorgbrug/zorgbrug/fhir/Version" "patch" "J" (.long (0 : Int64)) := D405 (Or.inr (hw _ (own_w 72 rfl))) (ty := .long) (by decide)
      have F405_74 : Fld Z h405 b405o "com/example/zorgbrug/zorgbrug/fhir/Version" "preRelease" "Ljava/util/List;" .null := D405 (Or.inr (hw _ (own_w 74 rfl))) (ty := (.object "java/util/List")) (by decide)
      have f421 := (f410.ext E405)
      have f422 := ((f388.keep KC384 (ninS ne257 nin0)).ext E405)
      have f423 := ((f389.keep KC384 (ninS ne257 nin0)).ext E405)
      have f424 := (f414.ext E405)
      have f425 := (f412.ext E405)
      have f426 := ((f392.keep KC384).ext E405)
      have f427 := (f406.ext E405)
      obtain ⟨_, _, ⟨T420, Lq420, kq420, nq420⟩, -, X420, ⟨Lc420, hQ420, lq420, yq420, zq420⟩, st420⟩ := X405.specialBack hx (y := (⟨"com/example/zorgbrug/zorgbrug/fhir/Version", "<init>", "(JJJLjava/util/List;)V"⟩ : MethodName)) rfl hown (mvT hZ (hw _ (own_w 29 rfl))) (mvT hZ (hw _ (own_w 30 rfl))) (mvT hZ (hw _ (own_w 31 rfl))) (by decide) (backOf (W := 1) (rVIB l Z a0 hw [] b405o q1 q2 q3 b4o na241 o235 nk241 mr eo h405 n0 Z405 A405 F405_68 F405_70 F405_72 F405_74 b405 (Ne.symm ne411) f421 f422 f423 f424 f425 f426 M f427 O_E) hZ (hw _ (own_w 31 rfl)) (hw _ (own_w 28 rfl)) (by decide) (by decide)) (g := (mkF m 127 #[.val (.long q1), .second, .val (.long q2), .second, .val (.long q3), .second, .val (.long q4), .second, .val (.int p5), .val (.int p6), .val (.long b1), .second, .val (.long b2), .second, .val (.long b3), .second, .val (.ref b4o), .val (.ref b252o), .unset, .unset, .unset, .unset, .unset] [(.ref b4o), (.long q3), (.long q2), (.long q1), (.ref b405o), (.ref b405o)])) rfl (by rw [hml]; rfl) (Steps.refl _) (a := b405o) (argsL := [(.long q1), (.long q2), (.long q3), (.ref b4o)]) (rest := [(.ref b405o)]) (lenOf pd_16 rfl) rfl (by show 2 * 0 + _ ≤ _; exact Nat.le_of_eq rfl) (hb hby at_127) (fun _ _ => ⟨rfl, e405, (by decide : 9 + 2 ≤ _), (by decide : 40 + 3 ≤ _)⟩)
      dsimp only [Pt.U, Pt.locs, Pt.cells, Pt.slots] at X420 lq420 yq420 zq420 st420 hQ420
      subst lq420 yq420 zq420
      obtain ⟨rfl, N420q, KC420, u420⟩ := hQ420
      have N420 := Fr.app N384 N420q
      have Z420 : n0 ≤ T420.heap.size := Nat.le_trans Z405 KC420.1
      obtain ⟨E420', F420_0, F420_1, F420_2⟩ := u420
      obtain ⟨T428, h428, X428, e428, E428, A428, D428, -, st428⟩ := newO X420 hx hZ hown (hw _ (own_w 26 rfl)) (hw _ (own_w 27 rfl)) (hw _ (own_w 28 rfl)) rfl (g := (mkF m 132 #[.val (.long q1), .second, .val (.long q2), .second, .val (.long q3), .second, .val (.long q4), .second, .val (.int p5), .val (.int p6), .val (.long b1), .second, .val (.long b2), .second, .val (.long b3), .second, .val (.ref b4o), .val (.ref b252o), .val (.ref b405o), .unset, .unset, .unset, .unset] [])) rfl (hb hby at_132) (by decide) (by decide)
      obtain ⟨b428o, g428⟩ : ∃ z, z = T420.heap.size := ⟨_, rfl⟩
      have b428 : n0 ≤ b428o := Nat.le_trans Z420 (Nat.le_of_eq g428.symm)
      have f429 := (f427.keep KC420 (allS b405 all0))
      have ne430 : d0 ≠ b428o := Nat.ne_of_lt (Nat.lt_of_lt_of_le (O_AD.ext f429.2).lt (Nat.le_of_eq g428.symm))
      have ne431 : el ≠ b428o := Nat.ne_of_lt (Nat.lt_of_lt_of_le (O_EL.ext f429.2).lt (Nat.le_of_eq g428.symm))
      have ne432 : ee ≠ b428o := Nat.ne_of_lt (Nat.lt_of_lt_of_le (O_AE.ext f429.2).lt (Nat.le_of_eq g428.symm))
      have f433 := (f421.keep KC420)
      have ne434 : b4o ≠ b428o := Nat.ne_of_lt (Nat.lt_of_lt_of_le f433.lt (Nat.le_of_eq g428.symm))
      have f435 := (f425.keep KC420)
      have ne436 : o235 ≠ b428o := Nat.ne_of_lt (Nat.lt_of_lt_of_le f435.lt (Nat.le_of_eq g428.symm))
      have f437 := (f424.keep KC420 (ninS ne415 nin0))
      have ne438 : na241 ≠ b428o := Nat.ne_of_lt (Nat.lt_of_lt_of_le f437.lt (Nat.le_of_eq g428.symm))
      have f439 := ((E384'.ext E405).keep KC420)
      have ne440 : b252o ≠ b428o := Nat.ne_of_lt (Nat.lt_of_lt_of_le f439.lt (Nat.le_of_eq g428.symm))
      have f441 := ((f417.ext E405).keep KC420)
      have ne442 : o368 ≠ b428o := Nat.ne_of_lt (Nat.lt_of_lt_of_le f441.lt (Nat.le_of_eq g428.symm))
      have f443 := ((AV384'.ext E405).keep KC420 (ninS ne419 nin0))
      have ne444 : na384 ≠ b428o := Nat.ne_of_lt (Nat.lt_of_lt_of_le f443.lt (Nat.le_of_eq g428.symm))
      have ne445 : b405o ≠ b428o := Nat.ne_of_lt (Nat.lt_of_lt_of_le E420'.lt (Nat.le_of_eq g428.symm))
      rw [← g428] at A428 D428 st428
      have Z428 : n0 ≤ h428.size := Nat.le_trans Z420 E428.1
      have F428_68 : Fld Z h428 b428o "com/example/zorgbrug/zorgbrug/fhir/Version" "major" "J" (.long (0 : Int64)) := D428 (Or.inr (hw _ (own_w 68 rfl))) (ty := .long) (by decide)
      have F428_70 : Fld Z h428 b428o "com/example/zorgbrug/zorgbrug/fhir/Version" "minor" "J" (.long (0 : Int64)) := D428 (Or.inr (hw _ (own_w 70 rfl))) (ty := .long) (by decide)
      have F428_72 : Fld Z h428 b428o "com/example/zorgbrug/zorgbrug/fhir/Version" "patch" "J" (.long (0 : Int64)) := D428 (Or.inr (hw _ (own_w 72 rfl))) (ty := .long) (by decide)
      have F428_74 : Fld Z h428 b428o "com/example/zorgbrug/zorgbrug/fhir/Version" "preRelease" "Ljava/util/List;" .null := D428 (Or.inr (hw _ (own_w 74 rfl))) (ty := (.object "java/util/List")) (by decide)
      have f447 := (f439.ext E428)
      have f448 := (((FE384'.ext E405).keep KC420 (ninS ne416 nin0)).ext E428)
      have f449 := (((FZ384'.ext E405).keep KC420 (ninS ne416 nin0)).ext E428)
      have f450 := (f443.ext E428)
      have f451 := (f441.ext E428)
      have f452 := (((EX384'.ext E405).keep KC420).ext E428)
      have f453 := (f429.ext E428)
      obtain ⟨_, _, ⟨T446, Lq446, kq446, nq446⟩, -, X446, ⟨Lc446, hQ446, lq446, yq446, zq446⟩, st446⟩ := X428.specialBack hx (y := (⟨"com/example/zorgbrug/zorgbrug/fhir/Version", "<init>", "(JJJLjava/util/List;)V"⟩ : MethodName)) rfl hown (mvT hZ (hw _ (own_w 29 rfl))) (mvT hZ (hw _ (own_w 30 rfl))) (mvT hZ (hw _ (own_w 31 rfl))) (by decide) (backOf (W := 1) (rVIB l Z a0 hw [] b428o b1 b2 b3 b252o na384 o368 nk384 mr eo h428 n0 Z428 A428 F428_68 F428_70 F428_72 F428_74 b428 (Ne.symm ne440) f447 f448 f449 f450 f451 f452 M f453 O_E) hZ (hw _ (own_w 31 rfl)) (hw _ (own_w 28 rfl)) (by decide) (by decide)) (g := (mkF m 144 #[.val (.long q1), .second, .val (.long q2), .second, .val (.long q3), .second, .val (.long q4), .second, .val (.int p5), .val (.int p6), .val (.long b1), .second, .val (.long b2), .second, .val (.long b3), .second, .val (.ref b4o), .val (.ref b252o), .val (.ref b405o), .unset, .unset, .unset, .unset] [(.ref b252o), (.long b3), (.long b2), (.long b1), (.ref b428o), (.ref b428o)])) rfl (by rw [hml]; rfl) (Steps.refl _) (a := b428o) (argsL := [(.long b1), (.long b2), (.long b3), (.ref b252o)]) (rest := [(.ref b428o)]) (lenOf pd_16 rfl) rfl (by show 2 * 0 + _ ≤ _; exact Nat.le_of_eq rfl) (hb hby at_144) (fun _ _ => ⟨rfl, e428, (by decide : 12 + 2 ≤ _), (by decide : 47 + 3 ≤ _)⟩)
      dsimp only [Pt.U, Pt.locs, Pt.cells, Pt.slots] at X446 lq446 yq446 zq446 st446 hQ446
      subst lq446 yq446 zq446
      obtain ⟨rfl, N446q, KC446, u446⟩ := hQ446
      have N446 := Fr.app N420 N446q
      have Z446 : n0 ≤ T446.heap.size := Nat.le_trans Z428 KC446.1
      obtain ⟨E446', F446_0, F446_1, F446_2⟩ := u446
      have f455 := ((F420_0.ext E428).keep KC446 (ninS ne445 nin0))
      have f456 := ((F420_1.ext E428).keep KC446 (ninS ne445 nin0))
      have f457 := ((F420_2.ext E428).keep KC446 (ninS ne445 nin0))
      have f458 := ((E420'.ext E428).keep KC446)
      obtain ⟨cq454, kz454, q454a, q454b, q454c⟩ := isOf hZ rfl f458
      obtain ⟨_, _, ⟨T454, Lq454, kq454, nq454⟩, -, X454, ⟨Lc454, hQ454, lq454, yq454, zq454⟩, st454⟩ := X446.virtualBack hx (y := (⟨"com/example/zorgbrug/zorgbrug/fhir/Version", "sameRelease", "(Lcom/example/zorgbrug/zorgbrug/fhir/Version;)Z"⟩ : MethodName)) (z := (⟨"com/example/zorgbrug/zorgbrug/fhir/Version", "sameRelease", "(Lcom/example/zorgbrug/zorgbrug/fhir/Version;)Z"⟩ : MethodName)) hown (mvT hZ (hw _ (own_w 75 rfl))) (mvT hZ (hw _ (own_w 76 rfl))) (notFace_of_selects (args := #[]) (mvT hZ (hw _ (own_w 78 rfl)))) (mvT hZ (hw _ (own_w 78 rfl))) (mvT hZ (hw _ (own_w 77 rfl))) (by decide) (backOf (W := 0) (rSR l Z a0 hw [] b405o b428o q1 q2 q3 b1 b2 b3 T446.heap n0 Z446 f455 f456 f457 F446_0 F446_1 F446_2) hZ (hw _ (own_w 79 rfl)) (hw _ (own_w 28 rfl)) (by decide) (by decide)) q454a q454c (g := (mkF m 153 #[.val (.long q1), .second, .val (.long q2), .second, .val (.long q3), .second, .val (.long q4), .second, .val (.int p5), .val (.int p6), .val (.long b1), .second, .val (.long b2), .second, .val (.long b3), .second, .val (.ref b4o), .val (.ref b252o), .val (.ref b405o), .val (.ref b428o), .unset, .unset, .unset] [(.ref b428o), (.ref b405o)])) rfl (by rw [hml]; rfl) (Steps.refl _) (argsL := [(.ref b428o)]) (rest := []) (lenOf pd_19 rfl) rfl (by show 2 * 0 + _ ≤ _; exact Nat.le_of_eq rfl) (hb hby at_153) (fun _ _ => ⟨rfl, rfl, (by decide : 14 + 0 ≤ _), (by decide : 50 + 0 ≤ _)⟩)
      dsimp only [Pt.U, Pt.locs, Pt.cells, Pt.slots] at X454 lq454 yq454 zq454 st454 hQ454
      subst lq454 yq454 zq454
      obtain ⟨r454, hr454, rfl, N454q, e454⟩ := hQ454
      have N454 := Fr.app N446 N454q
      obtain ⟨cq459, kz459, q459a, q459b, q459c⟩ := isOf hZ e454 E446'
      obtain ⟨_, _, ⟨T459, Lq459, kq459, nq459⟩, -, X459, ⟨Lc459, hQ459, lq459, yq459, zq459⟩, st459⟩ := X454.virtualBack hx (y := (⟨"com/example/zorgbrug/zorgbrug/fhir/Version", "sameRelease", "(Lcom/example/zorgbrug/zorgbrug/fhir/Version;)Z"⟩ : MethodName)) (z := (⟨"com/example/zorgbrug/zorgbrug/fhir/Version", "sameRelease", "(Lcom/example/zorgbrug/zorgbrug/fhir/Version;)Z"⟩ : MethodName)) hown (mvT hZ (hw _ (own_w 75 rfl))) (mvT hZ (hw _ (own_w 76 rfl))) (notFace_of_selects (args := #[]) (mvT hZ (hw _ (own_w 78 rfl)))) (mvT hZ (hw _ (own_w 78 rfl))) (mvT hZ (hw _ (own_w 77 rfl))) (by decide) (backOf (W := 0) (rSR l Z a0 hw [] b428o b405o b1 b2 b3 q1 q2 q3 T446.heap n0 Z446 F446_0 F446_1 F446_2 f455 f456 f457) hZ (hw _ (own_w 79 rfl)) (hw _ (own_w 28 rfl)) (by decide) (by decide)) q459a q459c (g := (mkF m 162 #[.val (.long q1), .second, .val (.long q2), .second, .val (.long q3), .second, .val (.long q4), .second, .val (.int p5), .val (.int p6), .val (.long b1), .second, .val (.long b2), .second, .val (.long b3), .second, .val (.ref b4o), .val (.ref b252o), .val (.ref b405o), .val (.ref b428o), .val (.int r454), .unset, .unset] [(.ref b405o), (.ref b428o)])) rfl (by rw [hml]; rfl) (Steps.refl _) (argsL := [(.ref b405o)]) (rest := []) (lenOf pd_19 rfl) rfl (by show 2 * 0 + _ ≤ _; exact Nat.le_of_eq rfl) (hb hby at_162) (fun _ _ => ⟨rfl, e454, (by decide : 14 + 0 ≤ _), (by decide : 50 + 0 ≤ _)⟩)
      dsimp only [Pt.U, Pt.locs, Pt.cells, Pt.slots] at X459 lq459 yq459 zq459 st459 hQ459
      subst lq459 yq459 zq459
      obtain ⟨r459, hr459, rfl, N459q, e459⟩ := hQ459
      have N459 := Fr.app N454 N459q
      have f461 := (f453.keep KC446 (allS b428 all0))
      have f462 := ((f433.ext E428).keep KC446)
      have f463 := (((((f387.keep KC384 (ninS ne257 nin0)).ext E405).keep KC420 (ninS ne411 nin0)).ext E428).keep KC446 (ninS ne434 nin0))
      have f464 := (((f422.keep KC420 (ninS ne411 nin0)).ext E428).keep KC446 (ninS ne434 nin0))
      have f465 := (((f423.keep KC420 (ninS ne411 nin0)).ext E428).keep KC446 (ninS ne434 nin0))
      have f466 := ((f435.ext E428).keep KC446)
      have f467 := ((f437.ext E428).keep KC446 (ninS ne438 nin0))
      have f468 := (((f426.keep KC420).ext E428).keep KC446)
      have f469 := (f447.keep KC446)
      have f470 := ((((FM384'.ext E405).keep KC420 (ninS ne416 nin0)).ext E428).keep KC446 (ninS ne440 nin0))
      have f471 := (f448.keep KC446 (ninS ne440 nin0))
      have f472 := (f449.keep KC446 (ninS ne440 nin0))
      have f473 := (f451.keep KC446)
      have f474 := (f450.keep KC446 (ninS ne444 nin0))
      have f475 := (f452.keep KC446)
      obtain ⟨_, _, ⟨T460, Lq460, kq460, nq460⟩, -, X460, ⟨Lc460, hQ460, lq460, yq460, zq460⟩, st460⟩ := Jvm.LawKit.callS X459 hx (y := (⟨"com/example/zorgbrug/zorgbrug/fhir/Version", "release", "(JJJ)Lcom/example/zorgbrug/zorgbrug/fhir/Version;"⟩ : MethodName)) hown (mvT hZ (hw _ (own_w 80 rfl))) (mvT hZ (hw _ (own_w 81 rfl))) (mvT hZ (hw _ (own_w 28 rfl))) (mvT hZ (hw _ (own_w 82 rfl))) (by decide) (backOf (W := 0) (rRL l Z a0 hw [] q1 q2 q3 el T446.heap n0 Z446 O_EL O_FN f461 O_L) hZ (hw _ (own_w 82 rfl)) (hw _ (own_w 28 rfl)) (by decide) (by decide)) (g := (mkF m 171 #[.val (.long q1), .second, .val (.long q2), .second, .val (.long q3), .second, .val (.long q4), .second, .val (.int p5), .val (.int p6), .val (.long b1), .second, .val (.long b2), .second, .val (.long b3), .second, .val (.ref b4o), .val (.ref b252o), .val (.ref b405o), .val (.ref b428o), .val (.int r454), .val (.int r459), .unset] [(.long q3), (.long q2), (.long q1)])) rfl (by rw [hml]; rfl) (argsL := [(.long q1), (.long q2), (.long q3)]) (rest := []) (lenOf pd_20 rfl) rfl (by show 2 * 0 + _ ≤ _; exact Nat.le_of_eq rfl) (hb hby at_171) (fun _ _ => ⟨rfl, e459, (by decide : 14 + 1 ≤ _), (by decide : 50 + 4 ≤ _)⟩)
      dsimp only [Pt.U, Pt.locs, Pt.cells, Pt.slots] at X460 lq460 yq460 zq460 st460 hQ460
      subst lq460 yq460 zq460
      obtain ⟨o460, rfl, N460q, KC460, go460, gk460, u460⟩ := hQ460
      have N460 := Fr.app N459 N460q
      have Z460 : n0 ≤ T460.heap.size := Nat.le_trans Z446 KC460.1
      have ne476 : d0 ≠ o460 := Nat.ne_of_lt (Nat.lt_of_lt_of_le (O_AD.ext f461.2).lt gk460)
      have ne477 : el ≠ o460 := Nat.ne_of_lt (Nat.lt_of_lt_of_le (O_FL.ext f461.2).lt gk460)
      have ne478 : ee ≠ o460 := Nat.ne_of_lt (Nat.lt_of_lt_of_le (O_AE.ext f461.2).lt gk460)
      have ne479 : b4o ≠ o460 := Nat.ne_of_lt (Nat.lt_of_lt_of_le f465.lt gk460)
      have ne480 : o235 ≠ o460 := Nat.ne_of_lt (Nat.lt_of_lt_of_le f466.lt gk460)
      have ne481 : na241 ≠ o460 := Nat.ne_of_lt (Nat.lt_of_lt_of_le f468.lt gk460)
      have ne482 : b252o ≠ o460 := Nat.ne_of_lt (Nat.lt_of_lt_of_le f472.lt gk460)
      have ne483 : o368 ≠ o460 := Nat.ne_of_lt (Nat.lt_of_lt_of_le f473.lt gk460)
      have ne484 : na384 ≠ o460 := Nat.ne_of_lt (Nat.lt_of_lt_of_le f475.lt gk460)
      have ne485 : b405o ≠ o460 := Nat.ne_of_lt (Nat.lt_of_lt_of_le f457.lt gk460)
      have ne486 : b428o ≠ o460 := Nat.ne_of_lt (Nat.lt_of_lt_of_le F446_2.lt gk460)
      obtain ⟨E460', F460_0, F460_1, F460_2, F460_3⟩ := u460
      have f488 := (f461.keep KC460 all0)
      have f489 := (f462.keep KC460)
      have f490 := (f463.keep KC460 nin0)
      have f491 := (f464.keep KC460 nin0)
      have f492 := (f465.keep KC460 nin0)
      have f493 := (f466.keep KC460)
      have f494 := (f467.keep KC460 nin0)
      have f495 := (f468.keep KC460)
      have f496 := (f469.keep KC460)
      have f497 := (f470.keep KC460 nin0)
      have f498 := (f471.keep KC460 nin0)
      have f499 := (f472.keep KC460 nin0)
      have f500 := (f473.keep KC460)
      have f501 := (f474.keep KC460 nin0)
      have f502 := (f475.keep KC460)
      have f503 := (f458.keep KC460)
      have f504 := (f455.keep KC460 nin0)
      have f505 := (f456.keep KC460 nin0)
      have f506 := (f457.keep KC460 nin0)
      have f507 := (E446'.keep KC460)
      have f508 := (F446_0.keep KC460 nin0)
      have f509 := (F446_1.keep KC460 nin0)
      have f510 := (F446_2.keep KC460 nin0)
      obtain ⟨_, _, ⟨T487, Lq487, kq487, nq487⟩, -, X487, ⟨Lc487, hQ487, lq487, yq487, zq487⟩, st487⟩ := Jvm.LawKit.callS X460 hx (y := (⟨"com/example/zorgbrug/zorgbrug/fhir/Version", "release", "(JJJ)Lcom/example/zorgbrug/zorgbrug/fhir/Version;"⟩ : MethodName)) hown (mvT hZ (hw _ (own_w 80 rfl))) (mvT hZ (hw _ (own_w 81 rfl))) (mvT hZ (hw _ (own_w 28 rfl))) (mvT hZ (hw _ (own_w 82 rfl))) (by decide) (backOf (W := 1) (rRL l Z a0 hw [] b1 b2 b3 el T460.heap n0 Z460 O_EL O_FN f488 O_L) hZ (hw _ (own_w 82 rfl)) (hw _ (own_w 28 rfl)) (by decide) (by decide)) (g := (mkF m 180 #[.val (.long q1), .second, .val (.long q2), .second, .val (.long q3), .second, .val (.long q4), .second, .val (.int p5), .val (.int p6), .val (.long b1), .second, .val (.long b2), .second, .val (.long b3), .second, .val (.ref b4o), .val (.ref b252o), .val (.ref b405o), .val (.ref b428o), .val (.int r454), .val (.int r459), .unset] [(.long b3), (.long b2), (.long b1), (.ref o460)])) rfl (by rw [hml]; rfl) (argsL := [(.long b1), (.long b2), (.long b3)]) (rest := [(.ref o460)]) (lenOf pd_20 rfl) rfl (by show 2 * 0 + _ ≤ _; exact Nat.le_of_eq rfl) (hb hby at_180) (fun _ _ => ⟨rfl, rfl, (by decide : 15 + 1 ≤ _), (by decide : 54 + 4 ≤ _)⟩)
      dsimp only [Pt.U, Pt.locs, Pt.cells, Pt.slots] at X487 lq487 yq487 zq487 st487 hQ487
      subst lq487 yq487 zq487
      obtain ⟨o487, rfl, N487q, KC487, go487, gk487, u487⟩ := hQ487
      have N487 := Fr.app N460 N487q
      have Z487 : n0 ≤ T487.heap.size := Nat.le_trans Z460 KC487.1
      have ne511 : d0 ≠ o487 := Nat.ne_of_lt (Nat.lt_of_lt_of_le (O_AD.ext f488.2).lt gk487)
      have ne512 : el ≠ o487 := Nat.ne_of_lt (Nat.lt_of_lt_of_le (O_FL.ext f488.2).lt gk487)
      have ne513 : ee ≠ o487 := Nat.ne_of_lt (Nat.lt_of_lt_of_le (O_AE.ext f488.2).lt gk487)
      have ne514 : b4o ≠ o487 := Nat.ne_of_lt (Nat.lt_of_lt_of_le f492.lt gk487)
      have ne515 : o235 ≠ o487 := Nat.ne_of_lt (Nat.lt_of_lt_of_le f493.lt gk487)
      have ne516 : na241 ≠ o487 := Nat.ne_of_lt (Nat.lt_of_lt_of_le f495.lt gk487)
      have ne517 : b252o ≠ o487 := Nat.ne_of_lt (Nat.lt_of_lt_of_le f499.lt gk487)
      have ne518 : o368 ≠ o487 := Nat.ne_of_lt (Nat.lt_of_lt_of_le f500.lt gk487)
      have ne519 : na384 ≠ o487 := Nat.ne_of_lt (Nat.lt_of_lt_of_le f502.lt gk487)
      have ne520 : b405o ≠ o487 := Nat.ne_of_lt (Nat.lt_of_lt_of_le f506.lt gk487)
      have ne521 : b428o ≠ o487 := Nat.ne_of_lt (Nat.lt_of_lt_of_le f510.lt gk487)
      have ne522 : o460 ≠ o487 := Nat.ne_of_lt (Nat.lt_of_lt_of_le F460_3.lt gk487)
      obtain ⟨E487', F487_0, F487_1, F487_2, F487_3⟩ := u487
      have f524 := (F460_0.keep KC487 nin0)
      have f525 := (F460_1.keep KC487 nin0)
      have f526 := (F460_2.keep KC487 nin0)
      have f527 := (F460_3.keep KC487 nin0)
      have f528 := (f488.keep KC487 all0)
      have f529 := (E460'.keep KC487)
      obtain ⟨cq523, kz523, q523a, q523b, q523c⟩ := isOf hZ rfl f529
      obtain ⟨_, _, ⟨T523, Lq523, kq523, nq523⟩, -, X523, ⟨Lc523, hQ523, lq523, yq523, zq523⟩, st523⟩ := X487.virtualBack hx (y := (⟨"com/example/zorgbrug/zorgbrug/fhir/Version", "compareTo", "(Lcom/example/zorgbrug/zorgbrug/fhir/Version;)I"⟩ : MethodName)) (z := (⟨"com/example/zorgbrug/zorgbrug/fhir/Version", "compareTo", "(Lcom/example/zorgbrug/zorgbrug/fhir/Version;)I"⟩ : MethodName)) hown (mvT hZ (hw _ (own_w 94 rfl))) (mvT hZ (hw _ (own_w 95 rfl))) (notFace_of_selects (args := #[]) (mvT hZ (hw _ (own_w 97 rfl)))) (mvT hZ (hw _ (own_w 97 rfl))) (mvT hZ (hw _ (own_w 96 rfl))) (by decide) (backOf (W := 0) (rCT l Z a0 hw [] o460 o487 q1 q2 q3 b1 b2 b3 el ee ke T487.heap n0 Z487 f524 f525 f526 F487_0 F487_1 F487_2 f527 F487_3 f528 O_EL O_FL O_AE) hZ (hw _ (own_w 98 rfl)) (hw _ (own_w 28 rfl)) (by decide) (by decide)) q523a q523c (g := (mkF m 183 #[.val (.long q1), .second, .val (.long q2), .second, .val (.long q3), .second, .val (.long q4), .second, .val (.int p5), .val (.int p6), .val (.long b1), .second, .val (.long b2), .second, .val (.long b3), .second, .val (.ref b4o), .val (.ref b252o), .val (.ref b405o), .val (.ref b428o), .val (.int r454), .val (.int r459), .unset] [(.ref o487), (.ref o460)])) rfl (by rw [hml]; rfl) (Steps.refl _) (argsL := [(.ref o487)]) (rest := []) (lenOf pd_21 rfl) rfl (by show 2 * 0 + _ ≤ _; exact Nat.le_of_eq rfl) (hb hby at_183) (fun _ _ => ⟨rfl, rfl, (by decide : 16 + 0 ≤ _), (by decide : 58 + 0 ≤ _)⟩)
      dsimp only [Pt.U, Pt.locs, Pt.cells, Pt.slots] at X523 lq523 yq523 zq523 st523 hQ523
      subst lq523 yq523 zq523
      obtain ⟨r523, hr523, rfl, N523q, e523⟩ := hQ523
      have N523 := Fr.app N487 N523q
      by_cases hP : q1 = b1 ∧ q2 = b2 ∧ q3 = b3
      · skip
        obtain ⟨fs, hr, hrun, hended, hW, hsame⟩ := X523.leave (v := some (.int (1 : Int32))) (fun h => by rw [Bd.returns] at h; cases h) (BodyLoose.notSynchronized Bd)
        refine ⟨_, _, pre0 _ ?_, hrun, hended, _, _, rfl, ?_, ⟨_, rfl⟩, hW, hsame.mono (by decide) (by decide)⟩
        · show Steps p.tables e below (s₁.setTop (mkF m 0 #[.val (.long q1), .second, .val (.long q2), .second, .val (.long q3), .second, .val (.long q4), .second, .val (.int p5), .val (.int p6), .unset, .unset, .unset, .unset, .unset, .unset, .unset, .unset, .unset, .unset, .unset, .unset, .unset] [])) _
          refine sg1 _ ?_
          refine XS.lstore X0.here hx rfl (hb hby at_13) rfl (l' := #[.val (.long q1), .second, .val (.long q2), .second, .val (.long q3), .second, .val (.long q4), .second, .val (.int p5), .val (.int p6), .val (.long b1), .second, .unset, .unset, .unset, .unset, .unset, .unset, .unset, .unset, .unset, .unset, .unset]) rfl ?_
          refine sg2 _ ?_
          refine XS.lstore X0.here hx rfl (hb hby at_28) rfl (l' := #[.val (.long q1), .second, .val (.long q2), .second, .val (.long q3), .second, .val (.long q4), .second, .val (.int p5), .val (.int p6), .val (.long b1), .second, .val (.long b2), .second, .unset, .unset, .unset, .unset, .unset, .unset, .unset, .unset, .unset]) rfl ?_
          refine sg3 _ ?_
          refine XS.lstore X0.here hx rfl (hb hby at_44) rfl (l' := #[.val (.long q1), .second, .val (.long q2), .second, .val (.long q3), .second, .val (.long q4), .second, .val (.int p5), .val (.int p6), .val (.long b1), .second, .val (.long b2), .second, .val (.long b3), .second, .unset, .unset, .unset, .unset, .unset, .unset, .unset]) rfl ?_
          refine st4 _ ?_
          refine XS.dup X4.here hx rfl (hb hby at_49) rfl rfl ?_
          refine st8.trans ?_
          refine XS.astore X8.here hx rfl (hb hby at_53) rfl rfl (l' := #[.val (.long q1), .second, .val (.long q2), .second, .val (.long q3), .second, .val (.long q4), .second, .val (.int p5), .val (.int p6), .val (.long b1), .second, .val (.long b2), .second, .val (.long b3), .second, .val (.ref b4o), .unset, .unset, .unset, .unset, .unset, .unset]) rfl ?_
          refine XS.iload X8.here hx rfl (hb hby at_55) rfl ?_
          refine XS.iconst X8.here hx rfl (hb hby at_57) ?_
          refine XS.iand X8.here hx rfl (hb hby at_58) rfl ?_
          refine XS.ifNo X8.here hx rfl (hb hby at_59) rfl ((if0 _ _).trans (feq hc59).1) ?_
          refine XS.aload X8.here hx rfl (hb hby at_62) rfl rfl ?_
          refine XS.iload X8.here hx rfl (hb hby at_64) rfl ?_
          refine XS.iconst X8.here hx rfl (hb hby at_66) ?_
          refine XS.iushr X8.here hx rfl (hb hby at_67) rfl ?_
          refine XS.sipush X8.here hx rfl (hb hby at_68) ?_
          refine XS.iand X8.here hx rfl (hb hby at_71) rfl ?_
          refine XS.i2c X8.here hx rfl (hb hby at_72) rfl ?_
          refine st235 _ ?_
          refine st241.trans ?_
          refine XS.pop X241.here hx rfl (hb hby at_79) rfl rfl ?_
          refine st252 _ ?_
          refine XS.dup X252.here hx rfl (hb hby at_83) rfl rfl ?_
          refine st261.trans ?_
          refine XS.astore X261.here hx rfl (hb hby at_87) rfl rfl (l' := #[.val (.long q1), .second, .val (.long q2), .second, .val (.long q3), .second, .val (.long q4), .second, .val (.int p5), .val (.int p6), .val (.long b1), .second, .val (.long b2), .second, .val (.long b3), .second, .val (.ref b4o), .val (.ref b252o), .unset, .unset, .unset, .unset, .unset]) rfl ?_
          refine XS.iload X261.here hx rfl (hb hby at_89) rfl ?_
          refine XS.sipush X261.here hx rfl (hb hby at_91) ?_
          refine XS.iand X261.here hx rfl (hb hby at_94) rfl ?_
          refine XS.ifNo X261.here hx rfl (hb hby at_95) rfl ((if0 _ _).trans (feq hc95).1) ?_
          refine XS.aload X261.here hx rfl (hb hby at_98) rfl rfl ?_
          refine XS.iload X261.here hx rfl (hb hby at_100) rfl ?_
          refine XS.bipush X261.here hx rfl (hb hby at_102) ?_
          refine XS.iushr X261.here hx rfl (hb hby at_104) rfl ?_
          refine XS.sipush X261.here hx rfl (hb hby at_105) ?_
          refine XS.iand X261.here hx rfl (hb hby at_108) rfl ?_
          refine XS.i2c X261.here hx rfl (hb hby at_109) rfl ?_
          refine st368 _ ?_
          show Steps p.tables e below (T368.setTop (mkF m 113 #[.val (.long q1), .second, .val (.long q2), .second, .val (.long q3), .second, .val (.long q4), .second, .val (.int p5), .val (.int p6), .val (.long b1), .second, .val (.long b2), .second, .val (.long b3), .second, .val (.ref b4o), .val (.ref b252o), .unset, .unset, .unset, .unset, .unset] [(.ref o368), (.ref b252o)])) _
          refine st384.trans ?_
          refine XS.pop X384.here hx rfl (hb hby at_116) rfl rfl ?_
          refine st405 _ ?_
          refine XS.dup X405.here hx rfl (hb hby at_120) rfl rfl ?_
          refine XS.lloadN X405.here hx rfl (hb hby at_121) rfl ?_
          refine XS.lloadN X405.here hx rfl (hb hby at_122) rfl ?_
          refine XS.lload X405.here hx rfl (hb hby at_123) rfl ?_
          refine XS.aload X405.here hx rfl (hb hby at_125) rfl rfl ?_
          refine st420.trans ?_
          refine XS.astore X420.here hx rfl (hb hby at_130) rfl rfl (l' := #[.val (.long q1), .second, .val (.long q2), .second, .val (.long q3), .second, .val (.long q4), .second, .val (.int p5), .val (.int p6), .val (.long b1), .second, .val (.long b2), .second, .val (.long b3), .second, .val (.ref b4o), .val (.ref b252o), .val (.ref b405o), .unset, .unset, .unset, .unset]) rfl ?_
          refine st428 _ ?_
          refine XS.dup X428.here hx rfl (hb hby at_135) rfl rfl ?_
          refine XS.lload X428.here hx rfl (hb hby at_136) rfl ?_
          refine XS.lload X428.here hx rfl (hb hby at_138) rfl ?_
          refine XS.lload X428.here hx rfl (hb hby at_140) rfl ?_
          refine XS.aload X428.here hx rfl (hb hby at_142) rfl rfl ?_
          refine st446.trans ?_
          refine XS.astore X446.here hx rfl (hb hby at_147) rfl rfl (l' := #[.val (.long q1), .second, .val (.long q2), .second, .val (.long q3), .second, .val (.long q4), .second, .val (.int p5), .val (.int p6), .val (.long b1), .second, .val (.long b2), .second, .val (.long b3), .second, .val (.ref b4o), .val (.ref b252o), .val (.ref b405o), .val (.ref b428o), .unset, .unset, .unset]) rfl ?_
          refine XS.aload X446.here hx rfl (hb hby at_149) rfl rfl ?_
          refine XS.aload X446.here hx rfl (hb hby at_151) rfl rfl ?_
          refine st454.trans ?_
          refine XS.istore X454.here hx rfl (hb hby at_156) rfl (l' := #[.val (.long q1), .second, .val (.long q2), .second, .val (.long q3), .second, .val (.long q4), .second, .val (.int p5), .val (.int p6), .val (.long b1), .second, .val (.long b2), .second, .val (.long b3), .second, .val (.ref b4o), .val (.ref b252o), .val (.ref b405o), .val (.ref b428o), .val (.int r454), .unset, .unset]) rfl ?_
          refine XS.aload X454.here hx rfl (hb hby at_158) rfl rfl ?_
          refine XS.aload X454.here hx rfl (hb hby at_160) rfl rfl ?_
          refine st459.trans ?_
          refine XS.istore X459.here hx rfl (hb hby at_165) rfl (l' := #[.val (.long q1), .second, .val (.long q2), .second, .val (.long q3), .second, .val (.long q4), .second, .val (.int p5), .val (.int p6), .val (.long b1), .second, .val (.long b2), .second, .val (.long b3), .second, .val (.ref b4o), .val (.ref b252o), .val (.ref b405o), .val (.ref b428o), .val (.int r454), .val (.int r459), .unset]) rfl ?_
          refine XS.lloadN X459.here hx rfl (hb hby at_167) rfl ?_
          refine XS.lloadN X459.here hx rfl (hb hby at_168) rfl ?_
          refine XS.lload X459.here hx rfl (hb hby at_169) rfl ?_
          refine st460 _ ?_
          refine XS.lload X460.here hx rfl (hb hby at_174) rfl ?_
          refine XS.lload X460.here hx rfl (hb hby at_176) rfl ?_
          refine XS.lload X460.here hx rfl (hb hby at_178) rfl ?_
          refine st487 _ ?_
          refine st523.trans ?_
          refine XS.istore X523.here hx rfl (hb hby at_186) rfl (l' := #[.val (.long q1), .second, .val (.long q2), .second, .val (.long q3), .second, .val (.long q4), .second, .val (.int p5), .val (.int p6), .val (.long b1), .second, .val (.long b2), .second, .val (.long b3), .second, .val (.ref b4o), .val (.ref b252o), .val (.ref b405o), .val (.ref b428o), .val (.int r454), .val (.int r459), .val (.int r523)]) rfl ?_
          show Steps p.tables e below (T523.setTop (mkF m 188 #[.val (.long q1), .second, .val (.long q2), .second, .val (.long q3), .second, .val (.long q4), .second, .val (.int p5), .val (.int p6), .val (.long b1), .second, .val (.long b2), .second, .val (.long b3), .second, .val (.ref b4o), .val (.ref b252o), .val (.ref b405o), .val (.ref b428o), .val (.int r454), .val (.int r459), .val (.int r523)] [])) _
          rw [(hr454.trans (if_pos hP))]
          show Steps p.tables e below (T523.setTop (mkF m 188 #[.val (.long q1), .second, .val (.long q2), .second, .val (.long q3), .second, .val (.long q4), .second, .val (.int p5), .val (.int p6), .val (.long b1), .second, .val (.long b2), .second, .val (.long b3), .second, .val (.ref b4o), .val (.ref b252o), .val (.ref b405o), .val (.ref b428o), .val (.int (1 : Int32)), .val (.int r459), .val (.int r523)] [])) _
          rw [(hr459.trans (if_pos ⟨hP.1.symm, hP.2.1.symm, hP.2.2.symm⟩))]
          show Steps p.tables e below (T523.setTop (mkF m 188 #[.val (.long q1), .second, .val (.long q2), .second, .val (.long q3), .second, .val (.long q4), .second, .val (.int p5), .val (.int p6), .val (.long b1), .second, .val (.long b2), .second, .val (.long b3), .second, .val (.ref b4o), .val (.ref b252o), .val (.ref b405o), .val (.ref b428o), .val (.int (1 : Int32)), .val (.int (1 : Int32)), .val (.int r523)] [])) _
          rw [(hr523.mpr hP)]
          show Steps p.tables e below (T523.setTop (mkF m 188 #[.val (.long q1), .second, .val (.long q2), .second, .val (.long q3), .second, .val (.long q4), .second, .val (.int p5), .val (.int p6), .val (.long b1), .second, .val (.long b2), .second, .val (.long b3), .second, .val (.ref b4o), .val (.ref b252o), .val (.ref b405o), .val (.ref b428o), .val (.int (1 : Int32)), .val (.int (1 : Int32)), .val (.int (0 : Int32))] [])) _
          refine XS.iload X523.here hx rfl (hb hby at_188) rfl ?_
          refine XS.iload X523.here hx rfl (hb hby at_190) rfl ?_
          refine XS.ifNo X523.here hx rfl (hb hby at_192) rfl ((if0 _ _).trans (teq (by decide)).2) ?_
          refine XS.iconst X523.here hx rfl (hb hby at_195) ?_
          refine XS.goto X523.here hx rfl (pc0 := 196) (pc' := 200) rfl (hb hby at_196) (by decide) (by decide) ?_
          refine XS.icmpNo X523.here hx rfl (hb hby at_200) rfl (teq (by decide)).2 ?_
          refine XS.iload X523.here hx rfl (hb hby at_203) rfl ?_
          refine XS.iload X523.here hx rfl (hb hby at_205) rfl ?_
          refine XS.icmpNo X523.here hx rfl (hb hby at_207) rfl (teq (by decide)).2 ?_
          refine XS.iconst X523.here hx rfl (hb hby at_210) ?_
          refine XS.goto X523.here hx rfl (pc0 := 211) (pc' := 215) rfl (hb hby at_211) (by decide) (by decide) ?_
          show Steps p.tables e below (T523.setTop (mkF m 215 #[.val (.long q1), .second, .val (.long q2), .second, .val (.long q3), .second, .val (.long q4), .second, .val (.int p5), .val (.int p6), .val (.long b1), .second, .val (.long b2), .second, .val (.long b3), .second, .val (.ref b4o), .val (.ref b252o), .val (.ref b405o), .val (.ref b428o), .val (.int (1 : Int32)), .val (.int (1 : Int32)), .val (.int (0 : Int32))] [(.int (1 : Int32))])) _
          exact retN X523 hx (t := .boolean) Bd.returns (by simp) (hb hby at_215) hr
        · show Qrm0 Z q1 q2 q3 q4 p5 p6 d0 kd el ee ke eo G1 mr h0 n0 _ T523.heap _
          exact ⟨rfl, N523⟩
      · skip
        obtain ⟨fs, hr, hrun, hended, hW, hsame⟩ := X523.leave (v := some (.int (1 : Int32))) (fun h => by rw [Bd.returns] at h; cases h) (BodyLoose.notSynchronized Bd)
        refine ⟨_, _, pre0 _ ?_, hrun, hended, _, _, rfl, ?_, ⟨_, rfl⟩, hW, hsame.mono (by decide) (by decide)⟩
        · show Steps p.tables e below (s₁.setTop (mkF m 0 #[.val (.long q1), .second, .val (.long q2), .second, .val (.long q3), .second, .val (.long q4), .second, .val (.int p5), .val (.int p6), .unset, .unset, .unset, .unset, .unset, .unset, .unset, .unset, .unset, .unset, .unset, .unset, .unset] [])) _
          refine sg1 _ ?_
          refine XS.lstore X0.here hx rfl (hb hby at_13) rfl (l' := #[.val (.long q1), .second, .val (.long q2), .second, .val (.long q3), .second, .val (.long q4), .second, .val (.int p5), .val (.int p6), .val (.long b1), .second, .unset, .unset, .unset, .unset, .unset, .unset, .unset, .unset, .unset, .unset, .unset]) rfl ?_
          refine sg2 _ ?_
          refine XS.lstore X0.here hx rfl (hb hby at_28) rfl (l' := #[.val (.long q1), .second, .val (.long q2), .second, .val (.long q3), .second, .val (.long q4), .second, .val (.int p5), .val (.int p6), .val (.long b1), .second, .val (.long b2), .second, .unset, .unset, .unset, .unset, .unset, .unset, .unset, .unset, .unset]) rfl ?_
          refine sg3 _ ?_
          refine XS.lstore X0.here hx rfl (hb hby at_44) rfl (l' := #[.val (.long q1), .second, .val (.long q2), .second, .val (.long q3), .second, .val (.long q4), .second, .val (.int p5), .val (.int p6), .val (.long b1), .second, .val (.long b2), .second, .val (.long b3), .second, .unset, .unset, .unset, .unset, .unset, .unset, .unset]) rfl ?_
          refine st4 _ ?_
          refine XS.dup X4.here hx rfl (hb hby at_49) rfl rfl ?_
          refine st8.trans ?_
          refine XS.astore X8.here hx rfl (hb hby at_53) rfl rfl (l' := #[.val (.long q1), .second, .val (.long q2), .second, .val (.long q3), .second, .val (.long q4), .second, .val (.int p5), .val (.int p6), .val (.long b1), .second, .val (.long b2), .second, .val (.long b3), .second, .val (.ref b4o), .unset, .unset, .unset, .unset, .unset, .unset]) rfl ?_
          refine XS.iload X8.here hx rfl (hb hby at_55) rfl ?_
          refine XS.iconst X8.here hx rfl (hb hby at_57) ?_
          refine XS.iand X8.here hx rfl (hb hby at_58) rfl ?_
          refine XS.ifNo X8.here hx rfl (hb hby at_59) rfl ((if0 _ _).trans (feq hc59).1) ?_
          refine XS.aload X8.here hx rfl (hb hby at_62) rfl rfl ?_
          refine XS.iload X8.here hx rfl (hb hby at_64) rfl ?_
          refine XS.iconst X8.here hx rfl (hb hby at_66) ?_
          refine XS.iushr X8.here hx rfl (hb hby at_67) rfl ?_
          refine XS.sipush X8.here hx rfl (hb hby at_68) ?_
          refine XS.iand X8.here hx rfl (hb hby at_71) rfl ?_
          refine XS.i2c X8.here hx rfl (hb hby at_72) rfl ?_
          refine st235 _ ?_
          refine st241.trans ?_
          refine XS.pop X241.here hx rfl (hb hby at_79) rfl rfl ?_
          refine st252 _ ?_
          refine XS.dup X252.here hx rfl (hb hby at_83) rfl rfl ?_
          refine st261.trans ?_
          refine XS.astore X261.here hx rfl (hb hby at_87) rfl rfl (l' := #[.val (.long q1), .second, .val (.long q2), .second, .val (.long q3), .second, .val (.long q4), .second, .val (.int p5), .val (.int p6), .val (.long b1), .second, .val (.long b2), .second, .val (.long b3), .second, .val (.ref b4o), .val (.ref b252o), .unset, .unset, .unset, .unset, .unset]) rfl ?_
          refine XS.iload X261.here hx rfl (hb hby at_89) rfl ?_
          refine XS.sipush X261.here hx rfl (hb hby at_91) ?_
          refine XS.iand X261.here hx rfl (hb hby at_94) rfl ?_
          refine XS.ifNo X261.here hx rfl (hb hby at_95) rfl ((if0 _ _).trans (feq hc95).1) ?_
          refine XS.aload X261.here hx rfl (hb hby at_98) rfl rfl ?_
          refine XS.iload X261.here hx rfl (hb hby at_100) rfl ?_
          refine XS.bipush X261.here hx rfl (hb hby at_102) ?_
          refine XS.iushr X261.here hx rfl (hb hby at_104) rfl ?_
          refine XS.sipush X261.here hx rfl (hb hby at_105) ?_
          refine XS.iand X261.here hx rfl (hb hby at_108) rfl ?_
          refine XS.i2c X261.here hx rfl (hb hby at_109) rfl ?_
          refine st368 _ ?_
          show Steps p.tables e below (T368.setTop (mkF m 113 #[.val (.long q1), .second, .val (.long q2), .second, .val (.long q3), .second, .val (.long q4), .second, .val (.int p5), .val (.int p6), .val (.long b1), .second, .val (.long b2), .second, .val (.long b3), .second, .val (.ref b4o), .val (.ref b252o), .unset, .unset, .unset, .unset, .unset] [(.ref o368), (.ref b252o)])) _
          refine st384.trans ?_
          refine XS.pop X384.here hx rfl (hb hby at_116) rfl rfl ?_
          refine st405 _ ?_
          refine XS.dup X405.here hx rfl (hb hby at_120) rfl rfl ?_
          refine XS.lloadN X405.here hx rfl (hb hby at_121) rfl ?_
          refine XS.lloadN X405.here hx rfl (hb hby at_122) rfl ?_
          refine XS.lload X405.here hx rfl (hb hby at_123) rfl ?_
          refine XS.aload X405.here hx rfl (hb hby at_125) rfl rfl ?_
          refine st420.trans ?_
          refine XS.astore X420.here hx rfl (hb hby at_130) rfl rfl (l' := #[.val (.long q1), .second, .val (.long q2), .second, .val (.long q3), .second, .val (.long q4), .second, .val (.int p5), .val (.int p6), .val (.long b1), .second, .val (.long b2), .second, .val (.long b3), .second, .val (.ref b4o), .val (.ref b252o), .val (.ref b405o), .unset, .unset, .unset, .unset]) rfl ?_
          refine st428 _ ?_
          refine XS.dup X428.here hx rfl (hb hby at_135) rfl rfl ?_
          refine XS.lload X428.here hx rfl (hb hby at_136) rfl ?_
          refine XS.lload X428.here hx rfl (hb hby at_138) rfl ?_
          refine XS.lload X428.here hx rfl (hb hby at_140) rfl ?_
          refine XS.aload X428.here hx rfl (hb hby at_142) rfl rfl ?_
          refine st446.trans ?_
          refine XS.astore X446.here hx rfl (hb hby at_147) rfl rfl (l' := #[.val (.long q1), .second, .val (.long q2), .second, .val (.long q3), .second, .val (.long q4), .second, .val (.int p5), .val (.int p6), .val (.long b1), .second, .val (.long b2), .second, .val (.long b3), .second, .val (.ref b4o), .val (.ref b252o), .val (.ref b405o), .val (.ref b428o), .unset, .unset, .unset]) rfl ?_
          refine XS.aload X446.here hx rfl (hb hby at_149) rfl rfl ?_
          refine XS.aload X446.here hx rfl (hb hby at_151) rfl rfl ?_
          refine st454.trans ?_
          refine XS.istore X454.here hx rfl (hb hby at_156) rfl (l' := #[.val (.long q1), .second, .val (.long q2), .second, .val (.long q3), .second, .val (.long q4), .second, .val (.int p5), .val (.int p6), .val (.long b1), .second, .val (.long b2), .second, .val (.long b3), .second, .val (.ref b4o), .val (.ref b252o), .val (.ref b405o), .val (.ref b428o), .val (.int r454), .unset, .unset]) rfl ?_
          refine XS.aload X454.here hx rfl (hb hby at_158) rfl rfl ?_
          refine XS.aload X454.here hx rfl (hb hby at_160) rfl rfl ?_
          refine st459.trans ?_
          refine XS.istore X459.here hx rfl (hb hby at_165) rfl (l' := #[.val (.long q1), .second, .val (.long q2), .second, .val (.long q3), .second, .val (.long q4), .second, .val (.int p5), .val (.int p6), .val (.long b1), .second, .val (.long b2), .second, .val (.long b3), .second, .val (.ref b4o), .val (.ref b252o), .val (.ref b405o), .val (.ref b428o), .val (.int r454), .val (.int r459), .unset]) rfl ?_
          refine XS.lloadN X459.here hx rfl (hb hby at_167) rfl ?_
          refine XS.lloadN X459.here hx rfl (hb hby at_168) rfl ?_
          refine XS.lload X459.here hx rfl (hb hby at_169) rfl ?_
          refine st460 _ ?_
          refine XS.lload X460.here hx rfl (hb hby at_174) rfl ?_
          refine XS.lload X460.here hx rfl (hb hby at_176) rfl ?_
          refine XS.lload X460.here hx rfl (hb hby at_178) rfl ?_
          refine st487 _ ?_
          refine st523.trans ?_
          refine XS.istore X523.here hx rfl (hb hby at_186) rfl (l' := #[.val (.long q1), .second, .val (.long q2), .second, .val (.long q3), .second, .val (.long q4), .second, .val (.int p5), .val (.int p6), .val (.long b1), .second, .val (.long b2), .second, .val (.long b3), .second, .val (.ref b4o), .val (.ref b252o), .val (.ref b405o), .val (.ref b428o), .val (.int r454), .val (.int r459), .val (.int r523)]) rfl ?_
          show Steps p.tables e below (T523.setTop (mkF m 188 #[.val (.long q1), .second, .val (.long q2), .second, .val (.long q3), .second, .val (.long q4), .second, .val (.int p5), .val (.int p6), .val (.long b1), .second, .val (.long b2), .second, .val (.long b3), .second, .val (.ref b4o), .val (.ref b252o), .val (.ref b405o), .val (.ref b428o), .val (.int r454), .val (.int r459), .val (.int r523)] [])) _
          rw [(hr454.trans (if_neg hP))]
          show Steps p.tables e below (T523.setTop (mkF m 188 #[.val (.long q1), .second, .val (.long q2), .second, .val (.long q3), .second, .val (.long q4), .second, .val (.int p5), .val (.int p6), .val (.long b1), .second, .val (.long b2), .second, .val (.long b3), .second, .val (.ref b4o), .val (.ref b252o), .val (.ref b405o), .val (.ref b428o), .val (.int (0 : Int32)), .val (.int r459), .val (.int r523)] [])) _
          rw [(hr459.trans (if_neg (fun w => hP ⟨w.1.symm, w.2.1.symm, w.2.2.symm⟩)))]
          show Steps p.tables e below (T523.setTop (mkF m 188 #[.val (.long q1), .second, .val (.long q2), .second, .val (.long q3), .second, .val (.long q4), .second, .val (.int p5), .val (.int p6), .val (.long b1), .second, .val (.long b2), .second, .val (.long b3), .second, .val (.ref b4o), .val (.ref b252o), .val (.ref b405o), .val (.ref b428o), .val (.int (0 : Int32)), .val (.int (0 : Int32)), .val (.int r523)] [])) _
          refine XS.iload X523.here hx rfl (hb hby at_188) rfl ?_
          refine XS.iload X523.here hx rfl (hb hby at_190) rfl ?_
          refine XS.ifYes X523.here hx rfl (pc0 := 192) (pc' := 199) rfl (hb hby at_192) rfl ((if0 _ _).trans (feq (fun w => hP (hr523.mp w))).2) (by decide) (by decide) ?_
          refine XS.iconst X523.here hx rfl (hb hby at_199) ?_
          refine XS.icmpNo X523.here hx rfl (hb hby at_200) rfl (teq (by decide)).2 ?_
          refine XS.iload X523.here hx rfl (hb hby at_203) rfl ?_
          refine XS.iload X523.here hx rfl (hb hby at_205) rfl ?_
          refine XS.icmpNo X523.here hx rfl (hb hby at_207) rfl (teq (by decide)).2 ?_
          refine XS.iconst X523.here hx rfl (hb hby at_210) ?_
          refine XS.goto X523.here hx rfl (pc0 := 211) (pc' := 215) rfl (hb hby at_211) (by decide) (by decide) ?_
          show Steps p.tables e below (T523.setTop (mkF m 215 #[.val (.long q1), .second, .val (.long q2), .second, .val (.long q3), .second, .val (.long q4), .second, .val (.int p5), .val (.int p6), .val (.long b1), .second, .val (.long b2), .second, .val (.long b3), .second, .val (.ref b4o), .val (.ref b252o), .val (.ref b405o), .val (.ref b428o), .val (.int (0 : Int32)), .val (.int (0 : Int32)), .val (.int r523)] [(.int (1 : Int32))])) _
          exact retN X523 hx (t := .boolean) Bd.returns (by simp) (hb hby at_215) hr
        · show Qrm0 Z q1 q2 q3 q4 p5 p6 d0 kd el ee ke eo G1 mr h0 n0 _ T523.heap _
          exact ⟨rfl, N523⟩
set_option maxRecDepth 65536 in
set_option maxHeartbeats 40000000 in
theorem comes_1 {Post : Tables → Env → Array Value → State → Outcome → State → Prop} (hpost : ∀ tb e args s v u, (limb_1_1.after args s (.returned v) u = true ∧ limb_1_2.after args s (.returned v) u = true) → FrameEnd s (.returned v) u (Jvm.fieldLocs frame_1_writes args s ++ Jvm.arrayLocs frame_1_arrays args s ++ Jvm.staticLocs frame_1_statics s) 40 192 → Post tb e args s (.returned v) u) :
    ArmFor flags0 classFile x code maxLocals ret World_1 tables_1 room_1 Calls_1 rest_1 Pre_1 Post := by
  intro l hfl _ _ p e ha hc hk s m args below hf hA hF happ hP
  obtain ⟨hcalls, hrest, hpre⟩ := hP
  obtain ⟨-, -, -, hnamed, -, -, -, hat⟩ := (Spec.applies_iff hf).mp happ
  obtain ⟨hg, hn⟩ := and_e (Cond.before_iff.mp (show (Jvm.Cond.and given_1 narrow_1).before args s = true from hpre))
  obtain ⟨hcount, hg0⟩ := and_e hg
  obtain ⟨ha0, hg1⟩ := and_e hg0
  obtain ⟨ha1, hg2⟩ := and_e hg1
  obtain ⟨ha2, hg3⟩ := and_e hg2
  obtain ⟨ha3, hg4⟩ := and_e hg3
  obtain ⟨ha4, hg5⟩ := and_e hg4
  obtain ⟨w0, w1, w2, w3, w4, w5, rfl⟩ : ∃ w0 w1 w2 w3 w4 w5 : Value, args = #[w0, w1, w2, w3, w4, w5] := by
    have hs : args.size = 6 := by simpa [Cond.value, given_1] using hcount
    obtain ⟨L⟩ := args
    match L, hs with
    | [w0, w1, w2, w3, w4, w5], _ => exact ⟨w0, w1, w2, w3, w4, w5, rfl⟩
  have hw := fun d (hd : d ∈ tables_1) => atoms_spec (ws := Jvm.Cond.code x code maxLocals ret :: tables_1) hat d (List.mem_cons_of_mem _ hd)
  have hfit : Fit s := fun {y c} hc i hi => by
    obtain ⟨ha, rfl⟩ := Array.getElem?_eq_some_iff.mp hc
    have q := List.all_eq_true.mp ((Array.all_eq_true_iff_forall_mem.mp hF) _ (Array.getElem_mem ha)) i (List.mem_range.mpr hi)
    simpa [Array.getElem?_eq_getElem hi] using q
  obtain ⟨i0, ei0⟩ := isL_v ha0
  obtain rfl : w0 = (.long i0) := Option.some.inj ei0
  obtain ⟨i1, ei1⟩ := isL_v ha1
  obtain rfl : w1 = (.long i1) := Option.some.inj ei1
  obtain ⟨i2, ei2⟩ := isL_v ha2
  obtain rfl : w2 = (.long i2) := Option.some.inj ei2
  obtain ⟨i3, ei3⟩ := isL_v ha3
  obtain rfl : w3 = (.long i3) := Option.some.inj ei3
  obtain ⟨i4, ei4⟩ := is_v ha4
  obtain rfl : w4 = (.int i4) := Option.some.inj ei4
  obtain ⟨i5, ei5⟩ := is_v hg5
  obtain rfl : w5 = (.int i5) := Option.some.inj ei5
  obtain ⟨hsets, hown0⟩ := atoms_of _ (rest_1_c_eq ▸ (show rest_1_c.before _ s = true from hrest))
  obtain ⟨d0, ed0⟩ := arr_v (Cond.before_iff.mp (hsets _ (own_w 6 rfl)))
  have O_D := Sta.start ed0 (Or.inr ⟨(hw _ (own_w 2 rfl)), (hsets _ (own_w 2 rfl))⟩)
  obtain ⟨kd, O_AD⟩ := own_arr0 (dv := .null) hfit ed0 (Cond.before_iff.mp (hsets _ (own_w 6 rfl))) (Cond.before_iff.mp (hsets _ (own_w 8 rfl)))
  obtain ⟨el, eel⟩ := exa_v (Cond.before_iff.mp (hsets _ (own_w 11 rfl)))
  have O_L := Sta.start eel (Or.inl (hsets _ (own_w 10 rfl)))
  have O_EL := Exa.start eel (Cond.before_iff.mp (hsets _ (own_w 11 rfl)))
  have tn := own_eqint (Cond.before_iff.mp (hsets _ (own_w 15 rfl)))
  rw [fld_at eel] at tn
  have O_FN := Fld.start tn
  obtain ⟨ee, eee⟩ := arr_v (Cond.before_iff.mp (hsets _ (own_w 12 rfl)))
  have te := eee
  rw [fld_at eel] at te
  have O_FL := Fld.start te
  obtain ⟨ke, O_AE⟩ := own_arr0 (dv := .null) hfit eee (Cond.before_iff.mp (hsets _ (own_w 12 rfl))) (Cond.before_iff.mp (hsets _ (own_w 14 rfl)))
  obtain ⟨eo, eeo⟩ := exa_v (Cond.before_iff.mp (hsets _ (own_w 27 rfl)))
  have O_E := Sta.start eeo (Or.inl (hsets _ (own_w 26 rfl)))
  have n3 := not_v (Cond.before_iff.mp (hsets _ (own_w 18 rfl)))
  obtain ⟨G1, eG1⟩ := is_v (Cond.before_iff.mp (hsets _ (own_w 17 rfl)))
  have O_2 := Sta.start eG1 (Or.inl (hsets _ (own_w 16 rfl)))
  have P5 : ¬ (G1 = (0 : Int32)) := gotF (Cond.eq_ints eG1 (Term.int_eval (0))) n3
  obtain ⟨mc, mk, mr, m1, m2, m3, m4⟩ := hcalls.1
  have M : Mir s "[Ljava/lang/Object;" mr := ⟨mc, mk, m1, m2, m3, m4⟩
  obtain ⟨n, o, h1, h2, h3, _, L, rfl, ⟨rfl, N⟩, hq⟩ := rm0 l s _ hw tables_1 i0 i1 i2 i3 i4 i5 d0 kd el ee ke eo G1 mr s.heap s.heap.size (Nat.le_refl _) O_D O_AD O_L O_EL O_FN O_FL O_AE O_E O_2 P5 M (Old.start s) p e ha hc hk s m _ below hf ((Spec.applies_iff_loose hf).mp happ).1 ⟨rfl, State.Warmed39.refl s, rfl⟩ trivial
  refine ⟨n, _, h1, h2, h3, hpost _ _ _ _ _ _ ⟨Cond.after_iff.mpr rfl, Cond.after_iff.mpr (eq_i res_at (Term.int_eval (1)) rfl)⟩ ⟨hq.1, hq.2.1, (hq.2.2.sift fun y hy => Or.inr (N y hy)).mono (by decide) (by decide)⟩⟩
theorem main_1_1 : Claimed_1_1 := comes_1 fun _ _ _ _ _ _ h hF => ⟨h.1, hF⟩
theorem main_1_2 : Claimed_1_2 := comes_1 fun _ _ _ _ _ _ h hF => ⟨h.2, hF⟩
end Jvm.Pilot.@@N@@
namespace Jvm.Pilot.@@N@@
open Jvm Jvm.ClassFile Sem Op Lib Jvm.Free Jvm.Stand Jvm.Pilot.@@N@@.Jvm.D
/-! MADE BY PROGRAM (witnessworld.py) out of the Statement's table words and the real class files: 40 classes; the members and pool entries that the words name. The judged class is class 1, her method 1. -/
namespace start1
open Jvm.ClassFile
def u (s : String) : CpInfo := .utf8 (stringToUtf16 s)
/-- a pool by its gaps: so many unusable entries, then the entry; so many at the end -/
def gap : Nat → List CpInfo → List CpInfo
  | 0, r => r
  | n + 1, r => .unusable :: gap n r
def poolList (es : List (Nat × CpInfo)) (last : Nat) : List CpInfo := es.foldr (fun e r => gap e.1 (e.2 :: r)) (gap last [])
def pool (es : List (Nat × CpInfo)) (last : Nat) : Array CpInfo := ⟨poolList es last⟩
def fileOf (pool : Array CpInfo) (this : Nat) (attrs : Array Attribute := #[]) (ms : Array MethodInfo := #[]) (fl : Nat := 33) (sup : Nat := 0) (ifs : Array Nat := #[]) (fds : Array FieldInfo := #[]) : ClassFile where
  minorVersion := 0
  majorVersion := 65
  constantPool := pool
  accessFlags := fl
  thisClass := this
  superClass := sup
  interfaces := ifs
  fields := fds
  methods := ms
  attributes := attrs
def plain (name : String) (sup : Option ClassId) : Class where
  name := name
  kind := .ordinary
  loader := none
  accessFlags := 33
  super := sup
  interfaces := #[]
  cf := none
  fields := #[]
  methods := #[]
  instanceTypes := #[]
  staticTypes := #[]
  resolved := #[]
  callSites := []
  init := .initialized
  statics := none
  mirror := none

def pool0 : Array CpInfo := pool [(5, u "<init>"), (0, u "()V"), (1, .class_ 10), (1, u "java/lang/Object"), (0, u "getClass"), (0, u "()Ljava/lang/Class;")] 111

def k0c0 : Code := { maxStack := 0, maxLocals := 1, code := object_method_1_code, exceptionTable := #[], attributes := #[] }
def k0m0 : Method := { name := "<init>", desc := "()V", sig := { parameters := [], returnType := none }, accessFlags := 1, code := some k0c0 }
def k0m1 : Method := { name := "getClass", desc := "()Ljava/lang/Class;", sig := { parameters := [], returnType := some (.object "java/lang/Class") }, accessFlags := 273, code := none }
/-- java/lang/Object -/
def k0 : Class := { plain "java/lang/Object" none with
  accessFlags := 33
  interfaces := #[]
  cf := some (fileOf pool0 8 #[] #[{ accessFlags := 1, nameIndex := 5, descriptorIndex := 6, attributes := #[] }, { accessFlags := 273, nameIndex := 11, descriptorIndex := 12, attributes := #[] }] 33 0 #[] #[])
  fields := #[]
  methods := #[k0m0, k0m1]
  instanceTypes := #[]
  staticTypes := #[]
  resolved := Array.replicate 124 none
  statics := none }

def pool1 : Array CpInfo := pool [(2, .class_ 4), (0, .nameAndType 5 6), (0, u "java/lang/Object"), (0, u "<init>"), (0, u "()V"), (0, .class_ 8), (0, u "java/util/ArrayList"), (0, .methodref 7 3), (0, .methodref 11 12), (0, .class_ 13), (0, .nameAndType 14 15), (0, u "java/lang/String"), (0, u "valueOf"), (0, u "(C)Ljava/lang/String;"), (0, .methodref 7 17), (0, .nameAndType 18 19), (0, u "add"), (0, u "(Ljava/lang/Object;)Z"), (0, .class_ 21), (0, u "com/example/zorgbrug/zorgbrug/fhir/Version"), (0, .methodref 20 23), (0, .nameAndType 5 24), (0, u "(JJJLjava/util/List;)V"), (0, .methodref 20 26), (0, .nameAndType 27 28), (0, u "sameRelease"), (0, u "(Lcom/example/zorgbrug/zorgbrug/fhir/Version;)Z"), (0, .methodref 20 30), (0, .nameAndType 31 32), (0, u "release"), (0, u "(JJJ)Lcom/example/zorgbrug/zorgbrug/fhir/Version;"), (0, .methodref 20 34), (0, .nameAndType 35 36), (0, u "compareTo"), (0, u "(Lcom/example/zorgbrug/zorgbrug/fhir/Version;)I"), (0, .class_ 38), (0, u "com/example/zorgbrug/zorgbrug/fhir/VersionSameReleasePinLaw"), (2, u "law"), (0, u "(JJJJII)Z")] 3

def k1m0 : Method := { name := "<init>", desc := "()V", sig := { parameters := [], returnType := none }, accessFlags := 1, code := none }
def k1c1 : Code := { maxStack := 9, maxLocals := 23, code := code, exceptionTable := #[], attributes := #[] }
def k1m1 : Method := { name := "law", desc := "(JJJJII)Z", sig := { parameters := [.long, .long, .long, .long, .int, .int], returnType := some .boolean }, accessFlags := 9, code := some k1c1 }
/-- com/example/zorgbrug/zorgbrug/fhir/VersionSameReleasePinLaw -/
def k1 : Class := { plain "com/example/zorgbrug/zorgbrug/fhir/VersionSameReleasePinLaw" (some 0) with
  accessFlags := 49
  interfaces := #[]
  cf := some (fileOf pool1 37 #[] #[{ accessFlags := 1, nameIndex := 5, descriptorIndex := 6, attributes := #[] }, { accessFlags := 9, nameIndex := 41, descriptorIndex := 42, attributes := #[] }] 49 2 #[] #[])
  fields := #[]
  methods := #[k1m0, k1m1]
  instanceTypes := #[]
  staticTypes := #[]
  resolved := Array.replicate 46 none
  statics := none }

def pool2 : Array CpInfo := pool [(8, .class_ 10), (1, u "java/lang/Iterable"), (24, .class_ 36), (0, u "java/lang/Object")] 25

/-- java/lang/Iterable -/
def k2 : Class := { plain "java/lang/Iterable" (some 0) with
  accessFlags := 1537
  interfaces := #[]
  cf := some (fileOf pool2 8 #[] #[] 1537 35 #[] #[])
  fields := #[]
  methods := #[]
  instanceTypes := #[]
  staticTypes := #[]
  resolved := Array.replicate 62 none
  statics := none }

def pool3 : Array CpInfo := pool [(10, .class_ 12), (1, u "java/util/Collection"), (0, u "toArray"), (16, u "()Z"), (29, .class_ 61), (0, u "java/lang/Object"), (0, .class_ 63), (0, u "java/lang/Iterable"), (2, u "isEmpty"), (3, u "()[Ljava/lang/Object;")] 44

def k3m0 : Method := { name := "isEmpty", desc := "()Z", sig := { parameters := [], returnType := some .boolean }, accessFlags := 1025, code := none }
def k3m1 : Method := { name := "toArray", desc := "()[Ljava/lang/Object;", sig := { parameters := [], returnType := some (.array (.object "java/lang/Object")) }, accessFlags := 1025, code := none }
/-- java/util/Collection -/
def k3 : Class := { plain "java/util/Collection" (some 0) with
  accessFlags := 1537
  interfaces := #[2]
  cf := some (fileOf pool3 10 #[] #[{ accessFlags := 1025, nameIndex := 66, descriptorIndex := 30, attributes := #[] }, { accessFlags := 1025, nameIndex := 13, descriptorIndex := 70, attributes := #[] }] 1537 60 #[62] #[])
  fields := #[]
  methods := #[k3m0, k3m1]
  instanceTypes := #[]
  staticTypes := #[]
  resolved := Array.replicate 115 none
  statics := none }

def pool4 : Array CpInfo := pool [(1, .methodref 2 3), (0, .class_ 4), (0, .nameAndType 5 6), (0, u "java/lang/Object"), (0, u "<init>"), (0, u "()V"), (1, .class_ 10), (1, u "java/util/AbstractCollection"), (66, .class_ 78), (0, u "java/util/Collection")] 81

def k4c0 : Code := { maxStack := 1, maxLocals := 1, code := jdk_22_method_1_code, exceptionTable := #[], attributes := #[] }
def k4m0 : Method := { name := "<init>", desc := "()V", sig := { parameters := [], returnType := none }, accessFlags := 4, code := some k4c0 }
/-- java/util/AbstractCollection -/
def k4 : Class := { plain "java/util/AbstractCollection" (some 0) with
  accessFlags := 1057
  interfaces := #[3]
  cf := some (fileOf pool4 8 #[] #[{ accessFlags := 4, nameIndex := 5, descriptorIndex := 6, attributes := #[] }] 1057 2 #[77] #[])
  fields := #[]
  methods := #[k4m0]
  instanceTypes := #[]
  staticTypes := #[]
  resolved := Array.replicate 160 none
  statics := none }

def pool5 : Array CpInfo := pool [(8, .class_ 10), (1, u "java/util/SequencedCollection"), (15, .class_ 27), (0, u "java/lang/Object"), (0, .class_ 29), (0, u "java/util/Collection")] 27

/-- java/util/SequencedCollection -/
def k5 : Class := { plain "java/util/SequencedCollection" (some 0) with
  accessFlags := 1537
  interfaces := #[3]
  cf := some (fileOf pool5 8 #[] #[] 1537 26 #[28] #[])
  fields := #[]
  methods := #[]
  instanceTypes := #[]
  staticTypes := #[]
  resolved := Array.replicate 57 none
  statics := none }

def pool6 : Array CpInfo := pool [(8, .class_ 10), (1, u "java/util/List"), (7, u "()Z"), (12, u "(Ljava/lang/Object;)V"), (16, u "<init>"), (18, u "isEmpty"), (20, u "of"), (1, .fieldref 91 92), (0, .class_ 93), (0, .nameAndType 94 95), (0, u "java/util/ImmutableCollections"), (0, u "EMPTY_LIST"), (0, u "Ljava/util/ImmutableCollections$ListN;"), (0, .class_ 97), (0, u "java/util/ImmutableCollections$List12"), (0, .methodref 96 99), (0, .nameAndType 48 31), (3, .class_ 104), (0, u "java/lang/Object"), (3, u "([Ljava/lang/Object;)Ljava/util/List;"), (3, .methodref 91 113), (0, .nameAndType 114 115), (0, u "listCopy"), (0, u "(Ljava/util/Collection;)Ljava/util/List;"), (3, u "()Ljava/util/List;"), (0, .class_ 121), (0, u "java/util/SequencedCollection"), (112, u "copyOf")] 16

def k6m0 : Method := { name := "isEmpty", desc := "()Z", sig := { parameters := [], returnType := some .boolean }, accessFlags := 1025, code := none }
def k6c1 : Code := { maxStack := 1, maxLocals := 0, code := jdk_40_method_36_code, exceptionTable := #[], attributes := #[] }
def k6m1 : Method := { name := "of", desc := "()Ljava/util/List;", sig := { parameters := [], returnType := some (.object "java/util/List") }, accessFlags := 9, code := some k6c1 }
def k6c2 : Code := { maxStack := 5, maxLocals := 2, code := jdk_40_method_47_code, exceptionTable := #[], attributes := #[] }
def k6m2 : Method := { name := "of", desc := "([Ljava/lang/Object;)Ljava/util/List;", sig := { parameters := [(.array (.object "java/lang/Object"))], returnType := some (.object "java/util/List") }, accessFlags := 137, code := some k6c2 }
def k6c3 : Code := { maxStack := 1, maxLocals := 1, code := jdk_40_method_48_code, exceptionTable := #[], attributes := #[] }
def k6m3 : Method := { name := "copyOf", desc := "(Ljava/util/Collection;)Ljava/util/List;", sig := { parameters := [(.object "java/util/Collection")], returnType := some (.object "java/util/List") }, accessFlags := 9, code := some k6c3 }
/-- java/util/List -/
def k6 : Class := { plain "java/util/List" (some 0) with
  accessFlags := 1537
  interfaces := #[5]
  cf := some (fileOf pool6 8 #[] #[{ accessFlags := 1025, nameIndex := 67, descriptorIndex := 18, attributes := #[] }, { accessFlags := 9, nameIndex := 88, descriptorIndex := 119, attributes := #[] }, { accessFlags := 137, nameIndex := 88, descriptorIndex := 108, attributes := #[] }, { accessFlags := 9, nameIndex := 234, descriptorIndex := 115, attributes := #[] }] 1537 103 #[120] #[])
  fields := #[]
  methods := #[k6m0, k6m1, k6m2, k6m3]
  instanceTypes := #[]
  staticTypes := #[]
  resolved := Array.replicate 251 none
  statics := none }

def pool7 : Array CpInfo := pool [(1, .methodref 2 3), (0, .class_ 4), (0, .nameAndType 5 6), (0, u "java/util/AbstractCollection"), (0, u "<init>"), (0, u "()V"), (0, .fieldref 8 9), (0, .class_ 10), (0, .nameAndType 11 12), (0, u "java/util/AbstractList"), (0, u "modCount"), (0, u "I"), (64, .class_ 78), (0, u "java/util/AbstractList$Itr"), (3, .class_ 83), (0, u "java/util/AbstractList$ListItr"), (9, .class_ 94), (0, u "java/util/AbstractList$RandomAccessSubList"), (3, .class_ 99), (0, u "java/util/AbstractList$SubList"), (33, .class_ 134), (0, u "java/util/List"), (73, .class_ 209), (0, u "java/util/AbstractList$SubList$1"), (0, .class_ 211), (0, u "java/util/AbstractList$RandomAccessSpliterator")] 6

def k7c0 : Code := { maxStack := 2, maxLocals := 1, code := jdk_39_method_1_code, exceptionTable := #[], attributes := #[] }
def k7m0 : Method := { name := "<init>", desc := "()V", sig := { parameters := [], returnType := none }, accessFlags := 4, code := some k7c0 }
/-- java/util/AbstractList -/
def k7 : Class := { plain "java/util/AbstractList" (some 4) with
  accessFlags := 1057
  interfaces := #[6]
  cf := some (fileOf pool7 8 #[.nestMembers #[93, 98, 208, 210, 82, 77]] #[{ accessFlags := 4, nameIndex := 5, descriptorIndex := 6, attributes := #[] }] 1057 2 #[133] #[{ accessFlags := 132, nameIndex := 11, descriptorIndex := 12, attributes := #[] }])
  fields := #[{ name := "modCount", type := .int, accessFlags := 132, slot := 0, constantValue := 0 }]
  methods := #[k7m0]
  instanceTypes := #[.int]
  staticTypes := #[]
  resolved := Array.replicate 218 none
  statics := none }

def pool8 : Array CpInfo := pool [(1, .class_ 2), (0, u "java/util/RandomAccess"), (0, .class_ 4), (0, u "java/lang/Object")] 2

/-- java/util/RandomAccess -/
def k8 : Class := { plain "java/util/RandomAccess" (some 0) with
  accessFlags := 1537
  interfaces := #[]
  cf := some (fileOf pool8 1 #[] #[] 1537 3 #[] #[])
  fields := #[]
  methods := #[]
  instanceTypes := #[]
  staticTypes := #[]
  resolved := Array.replicate 7 none
  statics := none }

def pool9 : Array CpInfo := pool [(1, .class_ 2), (0, u "java/lang/Cloneable"), (0, .class_ 4), (0, u "java/lang/Object")] 2

/-- java/lang/Cloneable -/
def k9 : Class := { plain "java/lang/Cloneable" (some 0) with
  accessFlags := 1537
  interfaces := #[]
  cf := some (fileOf pool9 1 #[] #[] 1537 3 #[] #[])
  fields := #[]
  methods := #[]
  instanceTypes := #[]
  staticTypes := #[]
  resolved := Array.replicate 7 none
  statics := none }

def pool10 : Array CpInfo := pool [(1, .class_ 2), (0, u "java/io/Serializable"), (0, .class_ 4), (0, u "java/lang/Object")] 2

/-- java/io/Serializable -/
def k10 : Class := { plain "java/io/Serializable" (some 0) with
  accessFlags := 1537
  interfaces := #[]
  cf := some (fileOf pool10 1 #[] #[] 1537 3 #[] #[])
  fields := #[]
  methods := #[]
  instanceTypes := #[]
  staticTypes := #[]
  resolved := Array.replicate 7 none
  statics := none }

def pool11 : Array CpInfo := pool [(1, .methodref 2 3), (0, .class_ 4), (0, .nameAndType 5 6), (0, u "java/util/AbstractList"), (0, u "<init>"), (0, u "()V"), (0, .class_ 8), (0, u "java/lang/Object"), (0, .fieldref 10 11), (0, .class_ 12), (0, .nameAndType 13 14), (0, u "java/util/ArrayList"), (0, u "elementData"), (0, u "[Ljava/lang/Object;"), (2, u "EMPTY_ELEMENTDATA"), (21, .fieldref 10 40), (0, .nameAndType 41 14), (0, u "DEFAULTCAPACITY_EMPTY_ELEMENTDATA"), (4, u "toArray"), (0, u "()[Ljava/lang/Object;"), (0, .fieldref 10 49), (0, .nameAndType 50 51), (0, u "size"), (0, u "I"), (6, .class_ 60), (1, u "java/util/Arrays"), (0, u "copyOf"), (1, .fieldref 10 64), (0, .nameAndType 65 51), (0, u "modCount"), (0, .methodref 58 67), (0, .nameAndType 61 68), (0, u "([Ljava/lang/Object;I)[Ljava/lang/Object;"), (0, .methodref 10 70), (0, .nameAndType 71 72), (0, u "grow"), (0, u "(I)[Ljava/lang/Object;"), (6, .methodref 80 81), (0, .class_ 82), (0, .nameAndType 83 84), (0, u "java/lang/Math"), (0, u "max"), (0, u "(II)I"), (11, u "(Ljava/lang/Object;)Z"), (32, .methodref 10 130), (0, .nameAndType 71 47), (0, .methodref 10 132), (0, .nameAndType 133 134), (0, u "add"), (0, u "(Ljava/lang/Object;[Ljava/lang/Object;I)V"), (13, .class_ 149), (0, u "java/util/List"), (23, u "()Z"), (88, .class_ 263), (0, u "java/util/ArrayList$ListItr"), (3, .class_ 268), (0, u "java/util/ArrayList$Itr"), (7, .class_ 277), (0, u "java/util/ArrayList$SubList"), (12, .class_ 291), (0, u "java/util/ArrayList$ArrayListSpliterator"), (37, .class_ 330), (0, u "java/util/RandomAccess"), (0, .class_ 332), (0, u "java/lang/Cloneable"), (0, .class_ 334), (0, u "java/io/Serializable"), (0, u "serialVersionUID"), (0, u "J"), (3, u "DEFAULT_CAPACITY"), (22, u "isEmpty"), (136, .class_ 501), (0, u "java/util/ArrayList$SubList$2"), (0, .class_ 503), (0, u "java/util/ArrayList$SubList$1")] 5

def k11c0 : Code := { maxStack := 2, maxLocals := 1, code := jdk_38_method_2_code, exceptionTable := #[], attributes := #[] }
def k11m0 : Method := { name := "<init>", desc := "()V", sig := { parameters := [], returnType := none }, accessFlags := 1, code := some k11c0 }
def k11c1 : Code := { maxStack := 4, maxLocals := 4, code := jdk_38_method_6_code, exceptionTable := #[], attributes := #[] }
def k11m1 : Method := { name := "grow", desc := "(I)[Ljava/lang/Object;", sig := { parameters := [.int], returnType := some (.array (.object "java/lang/Object")) }, accessFlags := 2, code := some k11c1 }
def k11c2 : Code := { maxStack := 3, maxLocals := 1, code := jdk_38_method_7_code, exceptionTable := #[], attributes := #[] }
def k11m2 : Method := { name := "grow", desc := "()[Ljava/lang/Object;", sig := { parameters := [], returnType := some (.array (.object "java/lang/Object")) }, accessFlags := 2, code := some k11c2 }
def k11c3 : Code := { maxStack := 1, maxLocals := 1, code := jdk_38_method_9_code, exceptionTable := #[], attributes := #[] }
def k11m3 : Method := { name := "isEmpty", desc := "()Z", sig := { parameters := [], returnType := some .boolean }, accessFlags := 1, code := some k11c3 }
def k11c4 : Code := { maxStack := 2, maxLocals := 1, code := jdk_38_method_16_code, exceptionTable := #[], attributes := #[] }
def k11m4 : Method := { name := "toArray", desc := "()[Ljava/lang/Object;", sig := { parameters := [], returnType := some (.array (.object "java/lang/Object")) }, accessFlags := 1, code := some k11c4 }
def k11c5 : Code := { maxStack := 3, maxLocals := 4, code := jdk_38_method_24_code, exceptionTable := #[], attributes := #[] }
def k11m5 : Method := { name := "add", desc := "(Ljava/lang/Object;[Ljava/lang/Object;I)V", sig := { parameters := [(.object "java/lang/Object"), (.array (.object "java/lang/Object")), .int], returnType := none }, accessFlags := 2, code := some k11c5 }
def k11c6 : Code := { maxStack := 4, maxLocals := 2, code := jdk_38_method_25_code, exceptionTable := #[], attributes := #[] }
def k11m6 : Method := { name := "add", desc := "(Ljava/lang/Object;)Z", sig := { parameters := [(.object "java/lang/Object")], returnType := some .boolean }, accessFlags := 1, code := some k11c6 }
/-- java/util/ArrayList -/
def k11 : Class := { plain "java/util/ArrayList" (some 7) with
  accessFlags := 33
  interfaces := #[6, 8, 9, 10]
  cf := some (fileOf pool11 10 #[.nestMembers #[290, 276, 500, 502, 262, 267]] #[{ accessFlags := 1, nameIndex := 5, descriptorIndex := 6, attributes := #[] }, { accessFlags := 2, nameIndex := 71, descriptorIndex := 72, attributes := #[] }, { accessFlags := 2, nameIndex := 71, descriptorIndex := 47, attributes := #[] }, { accessFlags := 1, nameIndex := 363, descriptorIndex := 173, attributes := #[] }, { accessFlags := 1, nameIndex := 46, descriptorIndex := 47, attributes := #[] }, { accessFlags := 2, nameIndex := 133, descriptorIndex := 134, attributes := #[] }, { accessFlags := 1, nameIndex := 133, descriptorIndex := 96, attributes := #[] }] 33 2 #[148, 329, 331, 333] #[{ accessFlags := 26, nameIndex := 335, descriptorIndex := 336, attributes := #[] }, { accessFlags := 26, nameIndex := 340, descriptorIndex := 51, attributes := #[] }, { accessFlags := 26, nameIndex := 17, descriptorIndex := 14, attributes := #[] }, { accessFlags := 26, nameIndex := 41, descriptorIndex := 14, attributes := #[] }, { accessFlags := 128, nameIndex := 13, descriptorIndex := 14, attributes := #[] }, { accessFlags := 2, nameIndex := 50, descriptorIndex := 51, attributes := #[] }])
  fields := #[{ name := "serialVersionUID", type := .long, accessFlags := 26, slot := 0, constantValue := 0 }, { name := "DEFAULT_CAPACITY", type := .int, accessFlags := 26, slot := 1, constantValue := 0 }, { name := "EMPTY_ELEMENTDATA", type := (.array (.object "java/lang/Object")), accessFlags := 26, slot := 2, constantValue := 0 }, { name := "DEFAULTCAPACITY_EMPTY_ELEMENTDATA", type := (.array (.object "java/lang/Object")), accessFlags := 26, slot := 3, constantValue := 0 }, { name := "elementData", type := (.array (.object "java/lang/Object")), accessFlags := 128, slot := 1, constantValue := 0 }, { name := "size", type := .int, accessFlags := 2, slot := 2, constantValue := 0 }]
  methods := #[k11m0, k11m1, k11m2, k11m3, k11m4, k11m5, k11m6]
  instanceTypes := #[.int, (.array (.object "java/lang/Object")), .int]
  staticTypes := #[.long, .int, (.array (.object "java/lang/Object")), (.array (.object "java/lang/Object"))]
  resolved := Array.replicate 509 none
  statics := some 0 }

def pool12 : Array CpInfo := pool [(1, .methodref 2 3), (0, .class_ 4), (0, .nameAndType 5 6), (0, u "java/lang/Object"), (0, u "<init>"), (0, u "()V"), (0, .class_ 8), (0, u "java/lang/Record")] 13

def k12c0 : Code := { maxStack := 1, maxLocals := 1, code := jdk_30_method_1_code, exceptionTable := #[], attributes := #[] }
def k12m0 : Method := { name := "<init>", desc := "()V", sig := { parameters := [], returnType := none }, accessFlags := 4, code := some k12c0 }
/-- java/lang/Record -/
def k12 : Class := { plain "java/lang/Record" (some 0) with
  accessFlags := 1057
  interfaces := #[]
  cf := some (fileOf pool12 7 #[] #[{ accessFlags := 4, nameIndex := 5, descriptorIndex := 6, attributes := #[] }] 1057 2 #[] #[])
  fields := #[]
  methods := #[k12m0]
  instanceTypes := #[]
  staticTypes := #[]
  resolved := Array.replicate 22 none
  statics := none }

def pool13 : Array CpInfo := pool [(1, .class_ 2), (0, u "java/lang/Comparable"), (0, .class_ 4), (0, u "java/lang/Object")] 7

/-- java/lang/Comparable -/
def k13 : Class := { plain "java/lang/Comparable" (some 0) with
  accessFlags := 1537
  interfaces := #[]
  cf := some (fileOf pool13 1 #[] #[] 1537 3 #[] #[])
  fields := #[]
  methods := #[]
  instanceTypes := #[]
  staticTypes := #[]
  resolved := Array.replicate 12 none
  statics := none }

def pool14 : Array CpInfo := pool [(1, .methodref 2 3), (0, .class_ 4), (0, .nameAndType 5 6), (0, u "java/lang/Record"), (0, u "<init>"), (0, u "()V"), (0, .interfaceMethodref 8 9), (0, .class_ 10), (0, .nameAndType 11 12), (0, u "java/util/List"), (0, u "copyOf"), (0, u "(Ljava/util/Collection;)Ljava/util/List;"), (0, .fieldref 14 15), (0, .class_ 16), (0, .nameAndType 17 18), (0, u "com/example/zorgbrug/zorgbrug/fhir/Version"), (0, u "major"), (0, u "J"), (0, .fieldref 14 20), (0, .nameAndType 21 18), (0, u "minor"), (0, .fieldref 14 23), (0, .nameAndType 24 18), (0, u "patch"), (0, .fieldref 14 26), (0, .nameAndType 27 28), (0, u "preRelease"), (0, u "Ljava/util/List;"), (0, .interfaceMethodref 8 30), (0, .nameAndType 31 32), (0, u "of"), (0, u "()Ljava/util/List;"), (0, .methodref 14 34), (0, .nameAndType 5 35), (0, u "(JJJLjava/util/List;)V"), (0, .interfaceMethodref 8 37), (0, .nameAndType 38 39), (0, u "isEmpty"), (0, u "()Z"), (0, .methodref 41 42), (0, .class_ 43), (0, .nameAndType 44 45), (0, u "java/lang/Long"), (0, u "compare"), (0, u "(JJ)I"), (0, .methodref 47 48), (0, .class_ 49), (0, .nameAndType 44 50), (0, u "java/lang/Boolean"), (0, u "(ZZ)I"), (4, .methodref 56 57), (0, .class_ 58), (0, .nameAndType 59 60), (0, u "java/lang/Math"), (0, u "min"), (0, u "(II)I"), (40, u "compareTo"), (25, u "(Lcom/example/zorgbrug/zorgbrug/fhir/Version;)I"), (7, .class_ 136), (0, u "java/lang/Comparable"), (6, u "release"), (0, u "(JJJ)Lcom/example/zorgbrug/zorgbrug/fhir/Version;"), (2, u "sameRelease"), (0, u "(Lcom/example/zorgbrug/zorgbrug/fhir/Version;)Z")] 53

def k14c0 : Code := { maxStack := 3, maxLocals := 8, code := prog_12_method_1_code, exceptionTable := #[], attributes := #[] }
def k14m0 : Method := { name := "<init>", desc := "(JJJLjava/util/List;)V", sig := { parameters := [.long, .long, .long, (.object "java/util/List")], returnType := none }, accessFlags := 1, code := some k14c0 }
def k14c1 : Code := { maxStack := 9, maxLocals := 6, code := prog_12_method_2_code, exceptionTable := #[], attributes := #[] }
def k14m1 : Method := { name := "release", desc := "(JJJ)Lcom/example/zorgbrug/zorgbrug/fhir/Version;", sig := { parameters := [.long, .long, .long], returnType := some (.object "com/example/zorgbrug/zorgbrug/fhir/Version") }, accessFlags := 9, code := some k14c1 }
def k14c2 : Code := { maxStack := 4, maxLocals := 2, code := prog_12_method_4_code, exceptionTable := #[], attributes := #[] }
def k14m2 : Method := { name := "sameRelease", desc := "(Lcom/example/zorgbrug/zorgbrug/fhir/Version;)Z", sig := { parameters := [(.object "com/example/zorgbrug/zorgbrug/fhir/Version")], returnType := some .boolean }, accessFlags := 1, code := some k14c2 }
def k14c3 : Code := { maxStack := 4, maxLocals := 5, code := prog_12_method_5_code, exceptionTable := #[], attributes := #[] }
def k14m3 : Method := { name := "compareTo", desc := "(Lcom/example/zorgbrug/zorgbrug/fhir/Version;)I", sig := { parameters := [(.object "com/example/zorgbrug/zorgbrug/fhir/Version")], returnType := some .int }, accessFlags := 1, code := some k14c3 }
/-- com/example/zorgbrug/zorgbrug/fhir/Version -/
def k14 : Class := { plain "com/example/zorgbrug/zorgbrug/fhir/Version" (some 12) with
  accessFlags := 49
  interfaces := #[13]
  cf := some (fileOf pool14 14 #[] #[{ accessFlags := 1, nameIndex := 5, descriptorIndex := 35, attributes := #[] }, { accessFlags := 9, nameIndex := 143, descriptorIndex := 144, attributes := #[] }, { accessFlags := 1, nameIndex := 147, descriptorIndex := 148, attributes := #[] }, { accessFlags := 1, nameIndex := 101, descriptorIndex := 127, attributes := #[] }] 49 2 #[135] #[{ accessFlags := 18, nameIndex := 17, descriptorIndex := 18, attributes := #[] }, { accessFlags := 18, nameIndex := 21, descriptorIndex := 18, attributes := #[] }, { accessFlags := 18, nameIndex := 24, descriptorIndex := 18, attributes := #[] }, { accessFlags := 18, nameIndex := 27, descriptorIndex := 28, attributes := #[] }])
  fields := #[{ name := "major", type := .long, accessFlags := 18, slot := 0, constantValue := 0 }, { name := "minor", type := .long, accessFlags := 18, slot := 1, constantValue := 0 }, { name := "patch", type := .long, accessFlags := 18, slot := 2, constantValue := 0 }, { name := "preRelease", type := (.object "java/util/List"), accessFlags := 18, slot := 3, constantValue := 0 }]
  methods := #[k14m0, k14m1, k14m2, k14m3]
  instanceTypes := #[.long, .long, .long, (.object "java/util/List")]
  staticTypes := #[]
  resolved := Array.replicate 202 none
  statics := none }

def pool15 : Array CpInfo := pool [(2, .class_ 4), (1, u "java/lang/Object"), (0, u "<init>"), (0, u "()V"), (3, .class_ 11), (0, u "java/util/ImmutableCollections$List12"), (0, .class_ 13), (0, u "java/util/ImmutableCollections$ListN"), (0, .fieldref 12 15), (0, .nameAndType 16 17), (0, u "allowNulls"), (0, u "Z"), (0, .class_ 19), (0, u "java/util/List"), (0, .interfaceMethodref 21 22), (0, .class_ 23), (0, .nameAndType 24 25), (0, u "java/util/Collection"), (0, u "isEmpty"), (0, u "()Z"), (0, .interfaceMethodref 18 27), (0, .nameAndType 28 29), (0, u "of"), (0, u "()Ljava/util/List;"), (0, .interfaceMethodref 21 31), (0, .nameAndType 32 33), (0, u "toArray"), (0, u "()[Ljava/lang/Object;"), (0, .interfaceMethodref 18 35), (0, .nameAndType 28 36), (0, u "([Ljava/lang/Object;)Ljava/util/List;"), (10, .class_ 49), (1, u "java/util/ImmutableCollections"), (0, u "$assertionsDisabled"), (5, u "[Ljava/lang/Object;"), (5, u "EMPTY_LIST"), (0, u "Ljava/util/ImmutableCollections$ListN;"), (8, u "EMPTY_LIST_NULLS"), (22, u "SALT32L"), (0, u "J"), (2, u "REVERSE"), (6, u "archivedObjects"), (2, u "EMPTY"), (0, u "Ljava/lang/Object;"), (0, .class_ 112), (0, u "java/util/ImmutableCollections$SetN"), (5, u "EMPTY_SET"), (0, u "Ljava/util/ImmutableCollections$SetN;"), (0, .class_ 121), (0, u "java/util/ImmutableCollections$MapN"), (3, u "EMPTY_MAP"), (0, u "Ljava/util/ImmutableCollections$MapN;"), (4, u "EXPAND_FACTOR"), (0, u "I"), (9, u "listCopy"), (0, u "(Ljava/util/Collection;)Ljava/util/List;"), (25, .class_ 170), (0, u "java/util/ImmutableCollections$MapN$MapNIterator"), (0, .class_ 172), (0, u "java/util/ImmutableCollections$MapN$1"), (0, .class_ 174), (0, u "java/util/ImmutableCollections$Map1"), (0, .class_ 176), (0, u "java/util/ImmutableCollections$AbstractImmutableMap"), (0, .class_ 178), (0, u "java/util/ImmutableCollections$SetN$SetNIterator"), (0, .class_ 180), (0, u "java/util/ImmutableCollections$Set12"), (0, .class_ 182), (0, u "java/util/ImmutableCollections$Set12$1"), (0, .class_ 184), (0, u "java/util/ImmutableCollections$AbstractImmutableSet"), (0, .class_ 186), (0, u "java/util/ImmutableCollections$SubList"), (0, .class_ 188), (0, u "java/util/ImmutableCollections$ListItr"), (0, .class_ 190), (0, u "java/util/ImmutableCollections$AbstractImmutableList"), (0, .class_ 192), (0, u "java/util/ImmutableCollections$AbstractImmutableCollection"), (0, .class_ 194), (0, u "java/util/ImmutableCollections$Access"), (0, .class_ 196), (0, u "java/util/ImmutableCollections$Access$1")] 16

def k15m0 : Method := { name := "<init>", desc := "()V", sig := { parameters := [], returnType := none }, accessFlags := 2, code := none }
def k15c1 : Code := { maxStack := 1, maxLocals := 2, code := jdk_56_method_3_code, exceptionTable := #[], attributes := #[] }
def k15m1 : Method := { name := "listCopy", desc := "(Ljava/util/Collection;)Ljava/util/List;", sig := { parameters := [(.object "java/util/Collection")], returnType := some (.object "java/util/List") }, accessFlags := 8, code := some k15c1 }
/-- java/util/ImmutableCollections -/
def k15 : Class := { plain "java/util/ImmutableCollections" (some 0) with
  accessFlags := 32
  interfaces := #[]
  cf := some (fileOf pool15 47 #[.nestMembers #[120, 169, 171, 173, 175, 111, 177, 179, 181, 183, 12, 10, 185, 187, 189, 191, 193, 195]] #[{ accessFlags := 2, nameIndex := 5, descriptorIndex := 6, attributes := #[] }, { accessFlags := 8, nameIndex := 142, descriptorIndex := 143, attributes := #[] }] 32 2 #[] #[{ accessFlags := 26, nameIndex := 95, descriptorIndex := 96, attributes := #[] }, { accessFlags := 26, nameIndex := 99, descriptorIndex := 17, attributes := #[] }, { accessFlags := 10, nameIndex := 106, descriptorIndex := 56, attributes := #[] }, { accessFlags := 26, nameIndex := 109, descriptorIndex := 110, attributes := #[] }, { accessFlags := 24, nameIndex := 62, descriptorIndex := 63, attributes := #[] }, { accessFlags := 24, nameIndex := 72, descriptorIndex := 63, attributes := #[] }, { accessFlags := 24, nameIndex := 118, descriptorIndex := 119, attributes := #[] }, { accessFlags := 24, nameIndex := 125, descriptorIndex := 126, attributes := #[] }, { accessFlags := 24, nameIndex := 131, descriptorIndex := 132, attributes := #[] }, { accessFlags := 4120, nameIndex := 50, descriptorIndex := 17, attributes := #[] }])
  fields := #[{ name := "SALT32L", type := .long, accessFlags := 26, slot := 0, constantValue := 0 }, { name := "REVERSE", type := .boolean, accessFlags := 26, slot := 1, constantValue := 0 }, { name := "archivedObjects", type := (.array (.object "java/lang/Object")), accessFlags := 10, slot := 2, constantValue := 0 }, { name := "EMPTY", type := (.object "java/lang/Object"), accessFlags := 26, slot := 3, constantValue := 0 }, { name := "EMPTY_LIST", type := (.object "java/util/ImmutableCollections$ListN"), accessFlags := 24, slot := 4, constantValue := 0 }, { name := "EMPTY_LIST_NULLS", type := (.object "java/util/ImmutableCollections$ListN"), accessFlags := 24, slot := 5, constantValue := 0 }, { name := "EMPTY_SET", type := (.object "java/util/ImmutableCollections$SetN"), accessFlags := 24, slot := 6, constantValue := 0 }, { name := "EMPTY_MAP", type := (.object "java/util/ImmutableCollections$MapN"), accessFlags := 24, slot := 7, constantValue := 0 }, { name := "EXPAND_FACTOR", type := .int, accessFlags := 24, slot := 8, constantValue := 0 }, { name := "$assertionsDisabled", type := .boolean, accessFlags := 4120, slot := 9, constantValue := 0 }]
  methods := #[k15m0, k15m1]
  instanceTypes := #[]
  staticTypes := #[.long, .boolean, (.array (.object "java/lang/Object")), (.object "java/lang/Object"), (.object "java/util/ImmutableCollections$ListN"), (.object "java/util/ImmutableCollections$ListN"), (.object "java/util/ImmutableCollections$SetN"), (.object "java/util/ImmutableCollections$MapN"), .int, .boolean]
  resolved := Array.replicate 213 none
  statics := some 1 }

def pool16 : Array CpInfo := pool [(1, .methodref 2 3), (0, .class_ 4), (0, .nameAndType 5 6), (0, u "java/util/AbstractCollection"), (0, u "<init>"), (0, u "()V"), (1, .class_ 10), (1, u "java/util/ImmutableCollections"), (2, .class_ 14), (0, u "java/util/ImmutableCollections$AbstractImmutableCollection")] 41

def k16c0 : Code := { maxStack := 1, maxLocals := 1, code := jdk_47_method_1_code, exceptionTable := #[], attributes := #[] }
def k16m0 : Method := { name := "<init>", desc := "()V", sig := { parameters := [], returnType := none }, accessFlags := 0, code := some k16c0 }
/-- java/util/ImmutableCollections$AbstractImmutableCollection -/
def k16 : Class := { plain "java/util/ImmutableCollections$AbstractImmutableCollection" (some 4) with
  accessFlags := 1056
  interfaces := #[]
  cf := some (fileOf pool16 13 #[.nestHost 8] #[{ accessFlags := 0, nameIndex := 5, descriptorIndex := 6, attributes := #[] }] 1056 2 #[] #[])
  fields := #[]
  methods := #[k16m0]
  instanceTypes := #[]
  staticTypes := #[]
  resolved := Array.replicate 56 none
  statics := none }

def pool17 : Array CpInfo := pool [(1, .methodref 2 3), (0, .class_ 4), (0, .nameAndType 5 6), (0, u "java/util/ImmutableCollections$AbstractImmutableCollection"), (0, u "<init>"), (0, u "()V"), (1, .class_ 10), (1, u "java/util/ImmutableCollections"), (3, .class_ 16), (1, u "java/util/ImmutableCollections$AbstractImmutableList"), (60, .class_ 78), (0, u "java/util/List"), (45, .class_ 125), (0, u "java/util/RandomAccess")] 70

def k17c0 : Code := { maxStack := 1, maxLocals := 1, code := jdk_46_method_1_code, exceptionTable := #[], attributes := #[] }
def k17m0 : Method := { name := "<init>", desc := "()V", sig := { parameters := [], returnType := none }, accessFlags := 0, code := some k17c0 }
/-- java/util/ImmutableCollections$AbstractImmutableList -/
def k17 : Class := { plain "java/util/ImmutableCollections$AbstractImmutableList" (some 16) with
  accessFlags := 1056
  interfaces := #[6, 8]
  cf := some (fileOf pool17 14 #[.nestHost 8] #[{ accessFlags := 0, nameIndex := 5, descriptorIndex := 6, attributes := #[] }] 1056 2 #[77, 124] #[])
  fields := #[]
  methods := #[k17m0]
  instanceTypes := #[]
  staticTypes := #[]
  resolved := Array.replicate 196 none
  statics := none }

def pool18 : Array CpInfo := pool [(1, .methodref 2 3), (0, .class_ 4), (0, .nameAndType 5 6), (0, u "java/util/ImmutableCollections$AbstractImmutableList"), (0, u "<init>"), (0, u "()V"), (0, .methodref 8 9), (0, .class_ 10), (0, .nameAndType 11 12), (0, u "java/util/Objects"), (0, u "requireNonNull"), (0, u "(Ljava/lang/Object;)Ljava/lang/Object;"), (0, .fieldref 14 15), (0, .class_ 16), (0, .nameAndType 17 18), (0, u "java/util/ImmutableCollections$List12"), (0, u "e0"), (0, u "Ljava/lang/Object;"), (0, .fieldref 20 21), (0, .class_ 22), (0, .nameAndType 23 18), (0, u "java/util/ImmutableCollections"), (0, u "EMPTY"), (0, .fieldref 14 25), (0, .nameAndType 26 18), (0, u "e1"), (43, .class_ 71), (0, u "java/io/Serializable"), (4, u "(Ljava/lang/Object;)V")] 48

def k18c0 : Code := { maxStack := 2, maxLocals := 2, code := jdk_44_method_1_code, exceptionTable := #[], attributes := #[] }
def k18m0 : Method := { name := "<init>", desc := "(Ljava/lang/Object;)V", sig := { parameters := [(.object "java/lang/Object")], returnType := none }, accessFlags := 0, code := some k18c0 }
/-- java/util/ImmutableCollections$List12 -/
def k18 : Class := { plain "java/util/ImmutableCollections$List12" (some 17) with
  accessFlags := 48
  interfaces := #[10]
  cf := some (fileOf pool18 14 #[.nestHost 20] #[{ accessFlags := 0, nameIndex := 5, descriptorIndex := 76, attributes := #[] }] 48 2 #[70] #[{ accessFlags := 18, nameIndex := 17, descriptorIndex := 18, attributes := #[] }, { accessFlags := 18, nameIndex := 26, descriptorIndex := 18, attributes := #[] }])
  fields := #[{ name := "e0", type := (.object "java/lang/Object"), accessFlags := 18, slot := 0, constantValue := 0 }, { name := "e1", type := (.object "java/lang/Object"), accessFlags := 18, slot := 1, constantValue := 0 }]
  methods := #[k18m0]
  instanceTypes := #[(.object "java/lang/Object"), (.object "java/lang/Object")]
  staticTypes := #[]
  resolved := Array.replicate 125 none
  statics := none }

def pool19 : Array CpInfo := pool [(2, .class_ 4), (1, u "java/util/ImmutableCollections$AbstractImmutableList"), (2, .fieldref 8 9), (0, .class_ 10), (0, .nameAndType 11 12), (0, u "java/util/ImmutableCollections$ListN"), (0, u "elements"), (0, u "[Ljava/lang/Object;"), (2, u "allowNulls"), (0, u "Z"), (42, .class_ 60), (0, u "java/io/Serializable"), (13, u "isEmpty"), (0, u "()Z"), (38, .class_ 115), (0, u "java/util/ImmutableCollections")] 3

def k19c0 : Code := { maxStack := 1, maxLocals := 1, code := jdk_45_method_2_code, exceptionTable := #[], attributes := #[] }
def k19m0 : Method := { name := "isEmpty", desc := "()Z", sig := { parameters := [], returnType := some .boolean }, accessFlags := 1, code := some k19c0 }
/-- java/util/ImmutableCollections$ListN -/
def k19 : Class := { plain "java/util/ImmutableCollections$ListN" (some 17) with
  accessFlags := 48
  interfaces := #[10]
  cf := some (fileOf pool19 8 #[.nestHost 114] #[{ accessFlags := 1, nameIndex := 74, descriptorIndex := 75, attributes := #[] }] 48 2 #[59] #[{ accessFlags := 18, nameIndex := 11, descriptorIndex := 12, attributes := #[] }, { accessFlags := 18, nameIndex := 15, descriptorIndex := 16, attributes := #[] }])
  fields := #[{ name := "elements", type := (.array (.object "java/lang/Object")), accessFlags := 18, slot := 0, constantValue := 0 }, { name := "allowNulls", type := .boolean, accessFlags := 18, slot := 1, constantValue := 0 }]
  methods := #[k19m0]
  instanceTypes := #[(.array (.object "java/lang/Object")), .boolean]
  staticTypes := #[]
  resolved := Array.replicate 119 none
  statics := none }

def pool20 : Array CpInfo := pool [(2, .class_ 4), (1, u "java/lang/Object"), (0, u "<init>"), (0, u "()V"), (1, .class_ 10), (1, u "java/lang/Number"), (2, .class_ 14), (0, u "java/io/Serializable"), (0, u "serialVersionUID"), (0, u "J")] 20

def k20m0 : Method := { name := "<init>", desc := "()V", sig := { parameters := [], returnType := none }, accessFlags := 1, code := none }
/-- java/lang/Number -/
def k20 : Class := { plain "java/lang/Number" (some 0) with
  accessFlags := 1057
  interfaces := #[10]
  cf := some (fileOf pool20 8 #[] #[{ accessFlags := 1, nameIndex := 5, descriptorIndex := 6, attributes := #[] }] 1057 2 #[13] #[{ accessFlags := 26, nameIndex := 15, descriptorIndex := 16, attributes := #[] }])
  fields := #[{ name := "serialVersionUID", type := .long, accessFlags := 26, slot := 0, constantValue := 0 }]
  methods := #[k20m0]
  instanceTypes := #[]
  staticTypes := #[.long]
  resolved := Array.replicate 37 none
  statics := none }

def pool21 : Array CpInfo := pool [(1, .class_ 2), (0, u "java/lang/constant/Constable"), (0, .class_ 4), (0, u "java/lang/Object")] 6

/-- java/lang/constant/Constable -/
def k21 : Class := { plain "java/lang/constant/Constable" (some 0) with
  accessFlags := 1537
  interfaces := #[]
  cf := some (fileOf pool21 1 #[] #[] 1537 3 #[] #[])
  fields := #[]
  methods := #[]
  instanceTypes := #[]
  staticTypes := #[]
  resolved := Array.replicate 11 none
  statics := none }

def pool22 : Array CpInfo := pool [(1, .class_ 2), (0, u "java/lang/constant/ConstantDesc"), (0, .class_ 4), (0, u "java/lang/Object")] 32

/-- java/lang/constant/ConstantDesc -/
def k22 : Class := { plain "java/lang/constant/ConstantDesc" (some 0) with
  accessFlags := 1537
  interfaces := #[]
  cf := some (fileOf pool22 1 #[] #[] 1537 3 #[] #[])
  fields := #[]
  methods := #[]
  instanceTypes := #[]
  staticTypes := #[]
  resolved := Array.replicate 37 none
  statics := none }

def pool23 : Array CpInfo := pool [(1, .class_ 2), (0, u "java/lang/Long"), (232, .class_ 237), (1, u "java/lang/Long$LongCache"), (33, .class_ 272), (0, u "java/lang/Number"), (2, u "value"), (0, u "J"), (27, u "compare"), (0, u "(JJ)I"), (55, u "TYPE"), (0, u "Ljava/lang/Class;"), (0, .class_ 364), (0, u "java/lang/Comparable"), (0, .class_ 366), (0, u "java/lang/constant/Constable"), (0, .class_ 368), (0, u "java/lang/constant/ConstantDesc"), (0, u "MIN_VALUE"), (1, u "MAX_VALUE"), (4, u "SIZE"), (0, u "I"), (1, u "BYTES"), (1, u "serialVersionUID")] 142

def k23c0 : Code := { maxStack := 4, maxLocals := 4, code := jdk_35_method_42_code, exceptionTable := #[], attributes := #[] }
def k23m0 : Method := { name := "compare", desc := "(JJ)I", sig := { parameters := [.long, .long], returnType := some .int }, accessFlags := 9, code := some k23c0 }
/-- java/lang/Long -/
def k23 : Class := { plain "java/lang/Long" (some 20) with
  accessFlags := 49
  interfaces := #[13, 21, 22]
  cf := some (fileOf pool23 1 #[.nestMembers #[235]] #[{ accessFlags := 9, nameIndex := 304, descriptorIndex := 305, attributes := #[] }] 49 271 #[363, 365, 367] #[{ accessFlags := 25, nameIndex := 369, descriptorIndex := 276, attributes := #[] }, { accessFlags := 25, nameIndex := 371, descriptorIndex := 276, attributes := #[] }, { accessFlags := 25, nameIndex := 361, descriptorIndex := 362, attributes := #[] }, { accessFlags := 18, nameIndex := 275, descriptorIndex := 276, attributes := #[] }, { accessFlags := 25, nameIndex := 376, descriptorIndex := 377, attributes := #[] }, { accessFlags := 25, nameIndex := 379, descriptorIndex := 377, attributes := #[] }, { accessFlags := 26, nameIndex := 381, descriptorIndex := 276, attributes := #[] }])
  fields := #[{ name := "MIN_VALUE", type := .long, accessFlags := 25, slot := 0, constantValue := 0 }, { name := "MAX_VALUE", type := .long, accessFlags := 25, slot := 1, constantValue := 0 }, { name := "TYPE", type := (.object "java/lang/Class"), accessFlags := 25, slot := 2, constantValue := 0 }, { name := "value", type := .long, accessFlags := 18, slot := 0, constantValue := 0 }, { name := "SIZE", type := .int, accessFlags := 25, slot := 3, constantValue := 0 }, { name := "BYTES", type := .int, accessFlags := 25, slot := 4, constantValue := 0 }, { name := "serialVersionUID", type := .long, accessFlags := 26, slot := 5, constantValue := 0 }]
  methods := #[k23m0]
  instanceTypes := #[.long]
  staticTypes := #[.long, .long, (.object "java/lang/Class"), .int, .int, .long]
  resolved := Array.replicate 524 none
  statics := none }

def pool24 : Array CpInfo := pool [(2, .class_ 4), (1, u "java/lang/CharSequence"), (42, .class_ 48), (0, u "java/lang/CharSequence$1CodePointIterator"), (10, .class_ 60), (0, u "java/lang/CharSequence$1CharIterator"), (5, .class_ 67), (0, u "java/lang/Object")] 63

/-- java/lang/CharSequence -/
def k24 : Class := { plain "java/lang/CharSequence" (some 0) with
  accessFlags := 1537
  interfaces := #[]
  cf := some (fileOf pool24 2 #[.nestMembers #[47, 59]] #[] 1537 66 #[] #[])
  fields := #[]
  methods := #[]
  instanceTypes := #[]
  staticTypes := #[]
  resolved := Array.replicate 131 none
  statics := none }

def pool25 : Array CpInfo := pool [(1, .methodref 2 3), (0, .class_ 4), (0, .nameAndType 5 6), (0, u "java/lang/Object"), (0, u "<init>"), (0, u "()V"), (2, .fieldref 10 11), (0, .class_ 12), (0, .nameAndType 13 14), (0, u "java/lang/String"), (0, u "value"), (0, u "[B"), (0, .fieldref 10 16), (0, .nameAndType 17 18), (0, u "coder"), (0, u "B"), (2, u "hash"), (0, u "I"), (2, u "hashIsZero"), (0, u "Z"), (11, .fieldref 10 39), (0, .nameAndType 40 26), (0, u "COMPACT_STRINGS"), (12, u "toBytes"), (53, .class_ 109), (1, u "java/lang/StringLatin1"), (99, .methodref 10 210), (0, .nameAndType 5 211), (0, u "([BB)V"), (157, u "(C)Z"), (205, .class_ 576), (0, u "java/lang/CharSequence"), (22, u "CASE_INSENSITIVE_ORDER"), (0, u "Ljava/util/Comparator;"), (181, u "valueOf"), (0, u "(C)Ljava/lang/String;"), (231, .methodref 107 1016), (0, .nameAndType 1017 369), (0, u "canEncode"), (0, .methodref 107 1019), (0, .nameAndType 53 1020), (0, u "(C)[B"), (80, u "serialPersistentFields"), (0, u "[Ljava/io/ObjectStreamField;"), (0, .class_ 1104), (0, u "java/lang/String$CaseInsensitiveComparator"), (1, .class_ 1107), (0, u "java/io/Serializable"), (0, .class_ 1109), (0, u "java/lang/Comparable"), (0, .class_ 1111), (0, u "java/lang/constant/Constable"), (0, .class_ 1113), (0, u "java/lang/constant/ConstantDesc"), (2, u "serialVersionUID"), (0, u "J"), (3, u "REPL"), (0, u "C"), (2, u "LATIN1"), (1, u "UTF16")] 323

def k25m0 : Method := { name := "<init>", desc := "()V", sig := { parameters := [], returnType := none }, accessFlags := 1, code := none }
def k25c1 : Code := { maxStack := 4, maxLocals := 1, code := jdk_42_method_139_code, exceptionTable := #[], attributes := #[] }
def k25m1 : Method := { name := "valueOf", desc := "(C)Ljava/lang/String;", sig := { parameters := [.char], returnType := some (.object "java/lang/String") }, accessFlags := 9, code := some k25c1 }
def k25c2 : Code := { maxStack := 2, maxLocals := 3, code := jdk_42_method_151_code, exceptionTable := #[], attributes := #[] }
def k25m2 : Method := { name := "<init>", desc := "([BB)V", sig := { parameters := [(.array .byte), .byte], returnType := none }, accessFlags := 0, code := some k25c2 }
/-- java/lang/String -/
def k25 : Class := { plain "java/lang/String" (some 0) with
  accessFlags := 49
  interfaces := #[10, 13, 24, 21, 22]
  cf := some (fileOf pool25 10 #[.nestMembers #[1103]] #[{ accessFlags := 1, nameIndex := 5, descriptorIndex := 6, attributes := #[] }, { accessFlags := 9, nameIndex := 782, descriptorIndex := 783, attributes := #[] }, { accessFlags := 0, nameIndex := 5, descriptorIndex := 211, attributes := #[] }] 49 2 #[1106, 1108, 575, 1110, 1112] #[{ accessFlags := 18, nameIndex := 13, descriptorIndex := 14, attributes := #[] }, { accessFlags := 18, nameIndex := 17, descriptorIndex := 18, attributes := #[] }, { accessFlags := 2, nameIndex := 21, descriptorIndex := 22, attributes := #[] }, { accessFlags := 2, nameIndex := 25, descriptorIndex := 26, attributes := #[] }, { accessFlags := 26, nameIndex := 1116, descriptorIndex := 1117, attributes := #[] }, { accessFlags := 24, nameIndex := 40, descriptorIndex := 26, attributes := #[] }, { accessFlags := 26, nameIndex := 1101, descriptorIndex := 1102, attributes := #[] }, { accessFlags := 26, nameIndex := 1121, descriptorIndex := 1122, attributes := #[] }, { accessFlags := 25, nameIndex := 599, descriptorIndex := 600, attributes := #[] }, { accessFlags := 24, nameIndex := 1125, descriptorIndex := 18, attributes := #[] }, { accessFlags := 24, nameIndex := 1127, descriptorIndex := 18, attributes := #[] }])
  fields := #[{ name := "value", type := (.array .byte), accessFlags := 18, slot := 0, constantValue := 0 }, { name := "coder", type := .byte, accessFlags := 18, slot := 1, constantValue := 0 }, { name := "hash", type := .int, accessFlags := 2, slot := 2, constantValue := 0 }, { name := "hashIsZero", type := .boolean, accessFlags := 2, slot := 3, constantValue := 0 }, { name := "serialVersionUID", type := .long, accessFlags := 26, slot := 0, constantValue := 0 }, { name := "COMPACT_STRINGS", type := .boolean, accessFlags := 24, slot := 1, constantValue := 0 }, { name := "serialPersistentFields", type := (.array (.object "java/io/ObjectStreamField")), accessFlags := 26, slot := 2, constantValue := 0 }, { name := "REPL", type := .char, accessFlags := 26, slot := 3, constantValue := 0 }, { name := "CASE_INSENSITIVE_ORDER", type := (.object "java/util/Comparator"), accessFlags := 25, slot := 4, constantValue := 0 }, { name := "LATIN1", type := .byte, accessFlags := 24, slot := 5, constantValue := 0 }, { name := "UTF16", type := .byte, accessFlags := 24, slot := 6, constantValue := 0 }]
  methods := #[k25m0, k25m1, k25m2]
  instanceTypes := #[(.array .byte), .byte, .int, .boolean]
  staticTypes := #[.long, .boolean, (.array (.object "java/io/ObjectStreamField")), .char, (.object "java/util/Comparator"), .byte, .byte]
  resolved := Array.replicate 1451 none
  statics := some 2 }

def pool26 : Array CpInfo := pool [(4, .class_ 6), (1, u "java/lang/Object"), (0, u "<init>"), (0, u "()V"), (5, .class_ 16), (1, u "java/lang/StringLatin1"), (73, u "canEncode"), (14, u "(C)Z"), (15, u "$assertionsDisabled"), (0, u "Z"), (98, .class_ 223), (1, u "java/lang/StringLatin1$LinesSpliterator"), (156, u "toBytes"), (1, u "(C)[B"), (7, .class_ 391), (0, u "java/lang/StringLatin1$CharsSpliterator")] 3

def k26m0 : Method := { name := "<init>", desc := "()V", sig := { parameters := [], returnType := none }, accessFlags := 0, code := none }
def k26c1 : Code := { maxStack := 2, maxLocals := 1, code := jdk_43_method_3_code, exceptionTable := #[], attributes := #[] }
def k26m1 : Method := { name := "canEncode", desc := "(C)Z", sig := { parameters := [.char], returnType := some .boolean }, accessFlags := 9, code := some k26c1 }
def k26c2 : Code := { maxStack := 4, maxLocals := 1, code := jdk_43_method_46_code, exceptionTable := #[], attributes := #[] }
def k26m2 : Method := { name := "toBytes", desc := "(C)[B", sig := { parameters := [.char], returnType := some (.array .byte) }, accessFlags := 9, code := some k26c2 }
/-- java/lang/StringLatin1 -/
def k26 : Class := { plain "java/lang/StringLatin1" (some 0) with
  accessFlags := 48
  interfaces := #[]
  cf := some (fileOf pool26 14 #[.nestMembers #[390, 221]] #[{ accessFlags := 0, nameIndex := 7, descriptorIndex := 8, attributes := #[] }, { accessFlags := 9, nameIndex := 90, descriptorIndex := 105, attributes := #[] }, { accessFlags := 9, nameIndex := 380, descriptorIndex := 382, attributes := #[] }] 48 4 #[] #[{ accessFlags := 4120, nameIndex := 121, descriptorIndex := 122, attributes := #[] }])
  fields := #[{ name := "$assertionsDisabled", type := .boolean, accessFlags := 4120, slot := 0, constantValue := 0 }]
  methods := #[k26m0, k26m1, k26m2]
  instanceTypes := #[]
  staticTypes := #[.boolean]
  resolved := Array.replicate 395 none
  statics := none }

def pool27 : Array CpInfo := pool [(1, .class_ 2), (0, u "java/lang/Math"), (1, .class_ 6), (1, u "java/lang/Object"), (0, u "<init>"), (0, u "()V"), (89, .class_ 100), (1, u "java/lang/Math$RandomNumberGeneratorHolder"), (71, u "negativeZeroFloatBits"), (0, u "J"), (2, u "negativeZeroDoubleBits"), (21, u "max"), (2, u "min"), (43, u "$assertionsDisabled"), (0, u "Z"), (88, u "(II)I"), (2, u "twoToTheDoubleScaleDown"), (0, u "D"), (4, u "twoToTheDoubleScaleUp"), (9, u "E"), (3, u "PI"), (2, u "TAU"), (2, u "DEGREES_TO_RADIANS"), (0, u "RADIANS_TO_DEGREES")] 94

def k27m0 : Method := { name := "<init>", desc := "()V", sig := { parameters := [], returnType := none }, accessFlags := 2, code := none }
def k27c1 : Code := { maxStack := 2, maxLocals := 2, code := jdk_29_method_65_code, exceptionTable := #[], attributes := #[] }
def k27m1 : Method := { name := "max", desc := "(II)I", sig := { parameters := [.int, .int], returnType := some .int }, accessFlags := 9, code := some k27c1 }
def k27c2 : Code := { maxStack := 2, maxLocals := 2, code := jdk_29_method_69_code, exceptionTable := #[], attributes := #[] }
def k27m2 : Method := { name := "min", desc := "(II)I", sig := { parameters := [.int, .int], returnType := some .int }, accessFlags := 9, code := some k27c2 }
/-- java/lang/Math -/
def k27 : Class := { plain "java/lang/Math" (some 0) with
  accessFlags := 49
  interfaces := #[]
  cf := some (fileOf pool27 1 #[.nestMembers #[98]] #[{ accessFlags := 2, nameIndex := 7, descriptorIndex := 8, attributes := #[] }, { accessFlags := 9, nameIndex := 198, descriptorIndex := 335, attributes := #[] }, { accessFlags := 9, nameIndex := 201, descriptorIndex := 335, attributes := #[] }] 49 4 #[] #[{ accessFlags := 25, nameIndex := 354, descriptorIndex := 339, attributes := #[] }, { accessFlags := 25, nameIndex := 358, descriptorIndex := 339, attributes := #[] }, { accessFlags := 25, nameIndex := 361, descriptorIndex := 339, attributes := #[] }, { accessFlags := 26, nameIndex := 364, descriptorIndex := 339, attributes := #[] }, { accessFlags := 26, nameIndex := 365, descriptorIndex := 339, attributes := #[] }, { accessFlags := 26, nameIndex := 172, descriptorIndex := 173, attributes := #[] }, { accessFlags := 26, nameIndex := 176, descriptorIndex := 173, attributes := #[] }, { accessFlags := 8, nameIndex := 344, descriptorIndex := 339, attributes := #[] }, { accessFlags := 8, nameIndex := 338, descriptorIndex := 339, attributes := #[] }, { accessFlags := 4120, nameIndex := 245, descriptorIndex := 246, attributes := #[] }])
  fields := #[{ name := "E", type := .double, accessFlags := 25, slot := 0, constantValue := 0 }, { name := "PI", type := .double, accessFlags := 25, slot := 1, constantValue := 0 }, { name := "TAU", type := .double, accessFlags := 25, slot := 2, constantValue := 0 }, { name := "DEGREES_TO_RADIANS", type := .double, accessFlags := 26, slot := 3, constantValue := 0 }, { name := "RADIANS_TO_DEGREES", type := .double, accessFlags := 26, slot := 4, constantValue := 0 }, { name := "negativeZeroFloatBits", type := .long, accessFlags := 26, slot := 5, constantValue := 0 }, { name := "negativeZeroDoubleBits", type := .long, accessFlags := 26, slot := 6, constantValue := 0 }, { name := "twoToTheDoubleScaleUp", type := .double, accessFlags := 8, slot := 7, constantValue := 0 }, { name := "twoToTheDoubleScaleDown", type := .double, accessFlags := 8, slot := 8, constantValue := 0 }, { name := "$assertionsDisabled", type := .boolean, accessFlags := 4120, slot := 9, constantValue := 0 }]
  methods := #[k27m0, k27m1, k27m2]
  instanceTypes := #[]
  staticTypes := #[.double, .double, .double, .double, .double, .long, .long, .double, .double, .boolean]
  resolved := Array.replicate 460 none
  statics := none }

def pool28 : Array CpInfo := pool [(2, .class_ 4), (1, u "java/lang/Object"), (0, u "<init>"), (0, u "()V"), (7, .class_ 16), (1, u "java/util/Arrays"), (57, .class_ 76), (1, u "java/util/Arrays$NaturalOrder"), (9, .methodref 2 87), (0, .nameAndType 88 89), (0, u "getClass"), (0, u "()Ljava/lang/Class;"), (20, .class_ 111), (0, u "[Ljava/lang/Object;"), (1, .class_ 115), (1, u "java/util/Arrays$LegacyMergeSort"), (1, u "Z"), (32, .methodref 151 152), (0, .class_ 153), (0, .nameAndType 154 155), (0, u "java/lang/System"), (0, u "arraycopy"), (0, u "(Ljava/lang/Object;ILjava/lang/Object;II)V"), (144, .methodref 14 301), (0, .nameAndType 302 303), (0, u "copyOf"), (0, u "([Ljava/lang/Object;ILjava/lang/Class;)[Ljava/lang/Object;"), (0, .methodref 305 306), (0, .class_ 307), (0, .nameAndType 308 309), (0, u "java/lang/Math"), (0, u "min"), (0, u "(II)I"), (65, .class_ 376), (0, u "java/util/Arrays$ArrayList"), (68, u "$assertionsDisabled"), (269, u "MIN_ARRAY_SORT_GRAN"), (0, u "I"), (2, u "INSERTIONSORT_THRESHOLD"), (140, u "([Ljava/lang/Object;I)[Ljava/lang/Object;"), (114, .class_ 976), (0, u "java/util/Arrays$ArrayItr")] 52

def k28m0 : Method := { name := "<init>", desc := "()V", sig := { parameters := [], returnType := none }, accessFlags := 2, code := none }
def k28c1 : Code := { maxStack := 3, maxLocals := 2, code := jdk_65_method_119_code, exceptionTable := #[], attributes := #[] }
def k28m1 : Method := { name := "copyOf", desc := "([Ljava/lang/Object;I)[Ljava/lang/Object;", sig := { parameters := [(.array (.object "java/lang/Object")), .int], returnType := some (.array (.object "java/lang/Object")) }, accessFlags := 9, code := some k28c1 }
def k28c2 : Code := { maxStack := 6, maxLocals := 4, code := jdk_65_method_120_code, exceptionTable := #[], attributes := #[] }
def k28m2 : Method := { name := "copyOf", desc := "([Ljava/lang/Object;ILjava/lang/Class;)[Ljava/lang/Object;", sig := { parameters := [(.array (.object "java/lang/Object")), .int, (.object "java/lang/Class")], returnType := some (.array (.object "java/lang/Object")) }, accessFlags := 9, code := some k28c2 }
/-- java/util/Arrays -/
def k28 : Class := { plain "java/util/Arrays" (some 0) with
  accessFlags := 49
  interfaces := #[]
  cf := some (fileOf pool28 14 #[.nestMembers #[975, 375, 113, 74]] #[{ accessFlags := 2, nameIndex := 5, descriptorIndex := 6, attributes := #[] }, { accessFlags := 9, nameIndex := 302, descriptorIndex := 860, attributes := #[] }, { accessFlags := 9, nameIndex := 302, descriptorIndex := 303, attributes := #[] }] 49 2 #[] #[{ accessFlags := 26, nameIndex := 715, descriptorIndex := 716, attributes := #[] }, { accessFlags := 26, nameIndex := 719, descriptorIndex := 716, attributes := #[] }, { accessFlags := 4120, nameIndex := 445, descriptorIndex := 117, attributes := #[] }])
  fields := #[{ name := "MIN_ARRAY_SORT_GRAN", type := .int, accessFlags := 26, slot := 0, constantValue := 0 }, { name := "INSERTIONSORT_THRESHOLD", type := .int, accessFlags := 26, slot := 1, constantValue := 0 }, { name := "$assertionsDisabled", type := .boolean, accessFlags := 4120, slot := 2, constantValue := 0 }]
  methods := #[k28m0, k28m1, k28m2]
  instanceTypes := #[]
  staticTypes := #[.int, .int, .boolean]
  resolved := Array.replicate 1029 none
  statics := none }

def pool29 : Array CpInfo := pool [(2, .class_ 4), (1, u "java/lang/Object"), (0, u "<init>"), (0, u "()V"), (1, .class_ 10), (1, u "java/lang/System"), (0, u "allowSecurityManager"), (0, u "I"), (16, u "cons"), (0, u "Ljava/io/Console;"), (77, .class_ 110), (1, u "java/lang/System$CallersHolder"), (43, u "initialErrStream"), (0, u "Ljava/io/PrintStream;"), (19, u "security"), (0, u "Ljava/lang/SecurityManager;"), (31, .class_ 209), (0, u "java/lang/System$1"), (7, u "props"), (0, u "Ljava/util/Properties;"), (2, u "lineSeparator"), (0, u "Ljava/lang/String;"), (96, .class_ 321), (1, u "java/lang/System$LoggerFinder"), (5, .class_ 328), (0, u "java/lang/System$Logger"), (67, u "err"), (2, u "out"), (91, u "notSupportedJnuEncoding"), (15, u "in"), (17, u "initialIn"), (0, u "Ljava/io/InputStream;"), (35, u "bootLayer"), (0, u "Ljava/lang/ModuleLayer;"), (99, .class_ 664), (0, u "java/lang/System$2"), (9, u "NEVER"), (2, u "MAYBE"), (49, u "arraycopy"), (0, u "(Ljava/lang/Object;ILjava/lang/Object;II)V"), (72, .class_ 802), (0, u "java/lang/System$Logger$Level")] 31

def k29m0 : Method := { name := "<init>", desc := "()V", sig := { parameters := [], returnType := none }, accessFlags := 2, code := none }
def k29m1 : Method := { name := "arraycopy", desc := "(Ljava/lang/Object;ILjava/lang/Object;II)V", sig := { parameters := [(.object "java/lang/Object"), .int, (.object "java/lang/Object"), .int, .int], returnType := none }, accessFlags := 265, code := none }
/-- java/lang/System -/
def k29 : Class := { plain "java/lang/System" (some 0) with
  accessFlags := 49
  interfaces := #[]
  cf := some (fileOf pool29 8 #[.nestMembers #[319, 327, 801, 108, 663, 208]] #[{ accessFlags := 2, nameIndex := 5, descriptorIndex := 6, attributes := #[] }, { accessFlags := 265, nameIndex := 727, descriptorIndex := 728, attributes := #[] }] 49 2 #[] #[{ accessFlags := 25, nameIndex := 507, descriptorIndex := 526, attributes := #[] }, { accessFlags := 25, nameIndex := 399, descriptorIndex := 155, attributes := #[] }, { accessFlags := 25, nameIndex := 396, descriptorIndex := 155, attributes := #[] }, { accessFlags := 10, nameIndex := 525, descriptorIndex := 526, attributes := #[] }, { accessFlags := 26, nameIndex := 674, descriptorIndex := 12, attributes := #[] }, { accessFlags := 26, nameIndex := 677, descriptorIndex := 12, attributes := #[] }, { accessFlags := 10, nameIndex := 11, descriptorIndex := 12, attributes := #[] }, { accessFlags := 74, nameIndex := 175, descriptorIndex := 176, attributes := #[] }, { accessFlags := 10, nameIndex := 491, descriptorIndex := 222, attributes := #[] }, { accessFlags := 74, nameIndex := 29, descriptorIndex := 30, attributes := #[] }, { accessFlags := 74, nameIndex := 154, descriptorIndex := 155, attributes := #[] }, { accessFlags := 10, nameIndex := 217, descriptorIndex := 218, attributes := #[] }, { accessFlags := 10, nameIndex := 221, descriptorIndex := 222, attributes := #[] }, { accessFlags := 8, nameIndex := 562, descriptorIndex := 563, attributes := #[] }])
  fields := #[{ name := "in", type := (.object "java/io/InputStream"), accessFlags := 25, slot := 0, constantValue := 0 }, { name := "out", type := (.object "java/io/PrintStream"), accessFlags := 25, slot := 1, constantValue := 0 }, { name := "err", type := (.object "java/io/PrintStream"), accessFlags := 25, slot := 2, constantValue := 0 }, { name := "initialIn", type := (.object "java/io/InputStream"), accessFlags := 10, slot := 3, constantValue := 0 }, { name := "NEVER", type := .int, accessFlags := 26, slot := 4, constantValue := 0 }, { name := "MAYBE", type := .int, accessFlags := 26, slot := 5, constantValue := 0 }, { name := "allowSecurityManager", type := .int, accessFlags := 10, slot := 6, constantValue := 0 }, { name := "security", type := (.object "java/lang/SecurityManager"), accessFlags := 74, slot := 7, constantValue := 0 }, { name := "notSupportedJnuEncoding", type := (.object "java/lang/String"), accessFlags := 10, slot := 8, constantValue := 0 }, { name := "cons", type := (.object "java/io/Console"), accessFlags := 74, slot := 9, constantValue := 0 }, { name := "initialErrStream", type := (.object "java/io/PrintStream"), accessFlags := 74, slot := 10, constantValue := 0 }, { name := "props", type := (.object "java/util/Properties"), accessFlags := 10, slot := 11, constantValue := 0 }, { name := "lineSeparator", type := (.object "java/lang/String"), accessFlags := 10, slot := 12, constantValue := 0 }, { name := "bootLayer", type := (.object "java/lang/ModuleLayer"), accessFlags := 8, slot := 13, constantValue := 0 }]
  methods := #[k29m0, k29m1]
  instanceTypes := #[]
  staticTypes := #[(.object "java/io/InputStream"), (.object "java/io/PrintStream"), (.object "java/io/PrintStream"), (.object "java/io/InputStream"), .int, .int, .int, (.object "java/lang/SecurityManager"), (.object "java/lang/String"), (.object "java/io/Console"), (.object "java/io/PrintStream"), (.object "java/util/Properties"), (.object "java/lang/String"), (.object "java/lang/ModuleLayer")]
  resolved := Array.replicate 834 none
  statics := none }

def pool30 : Array CpInfo := pool [(2, .class_ 4), (1, u "java/lang/Object"), (0, u "<init>"), (0, u "()V"), (35, .class_ 44), (1, u "java/util/Objects"), (0, u "requireNonNull"), (0, u "(Ljava/lang/Object;)Ljava/lang/Object;")] 137

def k30m0 : Method := { name := "<init>", desc := "()V", sig := { parameters := [], returnType := none }, accessFlags := 2, code := none }
def k30c1 : Code := { maxStack := 2, maxLocals := 1, code := jdk_31_method_10_code, exceptionTable := #[], attributes := #[] }
def k30m1 : Method := { name := "requireNonNull", desc := "(Ljava/lang/Object;)Ljava/lang/Object;", sig := { parameters := [(.object "java/lang/Object")], returnType := some (.object "java/lang/Object") }, accessFlags := 9, code := some k30c1 }
/-- java/util/Objects -/
def k30 : Class := { plain "java/util/Objects" (some 0) with
  accessFlags := 49
  interfaces := #[]
  cf := some (fileOf pool30 42 #[] #[{ accessFlags := 2, nameIndex := 5, descriptorIndex := 6, attributes := #[] }, { accessFlags := 9, nameIndex := 45, descriptorIndex := 46, attributes := #[] }] 49 2 #[] #[])
  fields := #[]
  methods := #[k30m0, k30m1]
  instanceTypes := #[]
  staticTypes := #[]
  resolved := Array.replicate 184 none
  statics := none }

def pool31 : Array CpInfo := pool [(2, .class_ 4), (1, u "java/lang/Object"), (3, .class_ 10), (1, u "java/lang/Boolean"), (0, u "value"), (0, u "Z"), (16, u "TRUE"), (0, u "Ljava/lang/Boolean;"), (2, u "FALSE"), (24, u "compare"), (0, u "(ZZ)I"), (27, u "TYPE"), (0, u "Ljava/lang/Class;"), (0, .class_ 90), (0, u "java/io/Serializable"), (0, .class_ 92), (0, u "java/lang/Comparable"), (0, .class_ 94), (0, u "java/lang/constant/Constable"), (2, u "serialVersionUID"), (0, u "J")] 53

def k31c0 : Code := { maxStack := 2, maxLocals := 2, code := jdk_2055_method_14_code, exceptionTable := #[], attributes := #[] }
def k31m0 : Method := { name := "compare", desc := "(ZZ)I", sig := { parameters := [.boolean, .boolean], returnType := some .int }, accessFlags := 9, code := some k31c0 }
/-- java/lang/Boolean -/
def k31 : Class := { plain "java/lang/Boolean" (some 0) with
  accessFlags := 49
  interfaces := #[10, 13, 21]
  cf := some (fileOf pool31 8 #[] #[{ accessFlags := 9, nameIndex := 58, descriptorIndex := 59, attributes := #[] }] 49 2 #[89, 91, 93] #[{ accessFlags := 25, nameIndex := 29, descriptorIndex := 30, attributes := #[] }, { accessFlags := 25, nameIndex := 33, descriptorIndex := 30, attributes := #[] }, { accessFlags := 25, nameIndex := 87, descriptorIndex := 88, attributes := #[] }, { accessFlags := 18, nameIndex := 11, descriptorIndex := 12, attributes := #[] }, { accessFlags := 26, nameIndex := 97, descriptorIndex := 98, attributes := #[] }])
  fields := #[{ name := "TRUE", type := (.object "java/lang/Boolean"), accessFlags := 25, slot := 0, constantValue := 0 }, { name := "FALSE", type := (.object "java/lang/Boolean"), accessFlags := 25, slot := 1, constantValue := 0 }, { name := "TYPE", type := (.object "java/lang/Class"), accessFlags := 25, slot := 2, constantValue := 0 }, { name := "value", type := .boolean, accessFlags := 18, slot := 0, constantValue := 0 }, { name := "serialVersionUID", type := .long, accessFlags := 26, slot := 3, constantValue := 0 }]
  methods := #[k31m0]
  instanceTypes := #[.boolean]
  staticTypes := #[(.object "java/lang/Boolean"), (.object "java/lang/Boolean"), (.object "java/lang/Class"), .long]
  resolved := Array.replicate 152 none
  statics := none }

def pool32 : Array CpInfo := pool [(2, .class_ 4), (1, u "java/lang/Object"), (0, u "<init>"), (0, u "()V"), (17, .class_ 26), (1, u "jdk/internal/util/Preconditions"), (28, .class_ 56), (0, u "jdk/internal/util/Preconditions$4"), (57, .class_ 115), (0, u "jdk/internal/util/Preconditions$1"), (7, u "SIOOBE_FORMATTER"), (0, u "Ljava/util/function/BiFunction;"), (0, .class_ 126), (0, u "jdk/internal/util/Preconditions$2"), (3, u "AIOOBE_FORMATTER"), (0, .class_ 132), (0, u "jdk/internal/util/Preconditions$3"), (3, u "IOOBE_FORMATTER")] 57

def k32m0 : Method := { name := "<init>", desc := "()V", sig := { parameters := [], returnType := none }, accessFlags := 1, code := none }
/-- jdk/internal/util/Preconditions -/
def k32 : Class := { plain "jdk/internal/util/Preconditions" (some 0) with
  accessFlags := 33
  interfaces := #[]
  cf := some (fileOf pool32 24 #[.nestMembers #[55, 131, 125, 114]] #[{ accessFlags := 1, nameIndex := 5, descriptorIndex := 6, attributes := #[] }] 33 2 #[] #[{ accessFlags := 25, nameIndex := 123, descriptorIndex := 124, attributes := #[] }, { accessFlags := 25, nameIndex := 130, descriptorIndex := 124, attributes := #[] }, { accessFlags := 25, nameIndex := 136, descriptorIndex := 124, attributes := #[] }])
  fields := #[{ name := "SIOOBE_FORMATTER", type := (.object "java/util/function/BiFunction"), accessFlags := 25, slot := 0, constantValue := 0 }, { name := "AIOOBE_FORMATTER", type := (.object "java/util/function/BiFunction"), accessFlags := 25, slot := 1, constantValue := 0 }, { name := "IOOBE_FORMATTER", type := (.object "java/util/function/BiFunction"), accessFlags := 25, slot := 2, constantValue := 0 }]
  methods := #[k32m0]
  instanceTypes := #[]
  staticTypes := #[(.object "java/util/function/BiFunction"), (.object "java/util/function/BiFunction"), (.object "java/util/function/BiFunction")]
  resolved := Array.replicate 194 none
  statics := some 3 }

def pool33 : Array CpInfo := pool [(9, u "<init>"), (6, .class_ 18), (1, u "java/lang/Object"), (0, u "()V"), (1, .class_ 23), (1, u "jdk/internal/util/ArraysSupport"), (0, u "LOG2_ARRAY_LONG_INDEX_SCALE"), (0, u "I"), (2, u "U"), (0, u "Ljdk/internal/misc/Unsafe;"), (8, u "BIG_ENDIAN"), (0, u "Z"), (8, u "LOG2_BYTE_BIT_SIZE"), (4, u "LOG2_ARRAY_INT_INDEX_SCALE"), (54, u "JLA"), (0, u "Ljdk/internal/access/JavaLangAccess;"), (11, u "LOG2_ARRAY_BOOLEAN_INDEX_SCALE"), (9, u "LOG2_ARRAY_BYTE_INDEX_SCALE"), (5, u "LOG2_ARRAY_CHAR_INDEX_SCALE"), (5, u "LOG2_ARRAY_SHORT_INDEX_SCALE"), (18, u "LOG2_ARRAY_FLOAT_INDEX_SCALE"), (24, u "LOG2_ARRAY_DOUBLE_INDEX_SCALE"), (89, u "T_BOOLEAN"), (2, u "T_CHAR"), (1, u "T_FLOAT"), (1, u "T_DOUBLE"), (1, u "T_BYTE"), (1, u "T_SHORT"), (1, u "T_INT"), (1, u "T_LONG"), (1, u "SOFT_MAX_ARRAY_LENGTH")] 83

def k33m0 : Method := { name := "<init>", desc := "()V", sig := { parameters := [], returnType := none }, accessFlags := 2, code := none }
/-- jdk/internal/util/ArraysSupport -/
def k33 : Class := { plain "jdk/internal/util/ArraysSupport" (some 0) with
  accessFlags := 33
  interfaces := #[]
  cf := some (fileOf pool33 21 #[] #[{ accessFlags := 2, nameIndex := 9, descriptorIndex := 19, attributes := #[] }] 33 16 #[] #[{ accessFlags := 24, nameIndex := 28, descriptorIndex := 29, attributes := #[] }, { accessFlags := 26, nameIndex := 38, descriptorIndex := 39, attributes := #[] }, { accessFlags := 25, nameIndex := 121, descriptorIndex := 25, attributes := #[] }, { accessFlags := 25, nameIndex := 131, descriptorIndex := 25, attributes := #[] }, { accessFlags := 25, nameIndex := 137, descriptorIndex := 25, attributes := #[] }, { accessFlags := 25, nameIndex := 143, descriptorIndex := 25, attributes := #[] }, { accessFlags := 25, nameIndex := 53, descriptorIndex := 25, attributes := #[] }, { accessFlags := 25, nameIndex := 24, descriptorIndex := 25, attributes := #[] }, { accessFlags := 25, nameIndex := 162, descriptorIndex := 25, attributes := #[] }, { accessFlags := 25, nameIndex := 187, descriptorIndex := 25, attributes := #[] }, { accessFlags := 26, nameIndex := 48, descriptorIndex := 25, attributes := #[] }, { accessFlags := 25, nameIndex := 277, descriptorIndex := 25, attributes := #[] }, { accessFlags := 25, nameIndex := 280, descriptorIndex := 25, attributes := #[] }, { accessFlags := 25, nameIndex := 282, descriptorIndex := 25, attributes := #[] }, { accessFlags := 25, nameIndex := 284, descriptorIndex := 25, attributes := #[] }, { accessFlags := 25, nameIndex := 286, descriptorIndex := 25, attributes := #[] }, { accessFlags := 25, nameIndex := 288, descriptorIndex := 25, attributes := #[] }, { accessFlags := 25, nameIndex := 290, descriptorIndex := 25, attributes := #[] }, { accessFlags := 25, nameIndex := 292, descriptorIndex := 25, attributes := #[] }, { accessFlags := 26, nameIndex := 108, descriptorIndex := 109, attributes := #[] }, { accessFlags := 25, nameIndex := 294, descriptorIndex := 25, attributes := #[] }])
  fields := #[{ name := "U", type := (.object "jdk/internal/misc/Unsafe"), accessFlags := 24, slot := 0, constantValue := 0 }, { name := "BIG_ENDIAN", type := .boolean, accessFlags := 26, slot := 1, constantValue := 0 }, { name := "LOG2_ARRAY_BOOLEAN_INDEX_SCALE", type := .int, accessFlags := 25, slot := 2, constantValue := 0 }, { name := "LOG2_ARRAY_BYTE_INDEX_SCALE", type := .int, accessFlags := 25, slot := 3, constantValue := 0 }, { name := "LOG2_ARRAY_CHAR_INDEX_SCALE", type := .int, accessFlags := 25, slot := 4, constantValue := 0 }, { name := "LOG2_ARRAY_SHORT_INDEX_SCALE", type := .int, accessFlags := 25, slot := 5, constantValue := 0 }, { name := "LOG2_ARRAY_INT_INDEX_SCALE", type := .int, accessFlags := 25, slot := 6, constantValue := 0 }, { name := "LOG2_ARRAY_LONG_INDEX_SCALE", type := .int, accessFlags := 25, slot := 7, constantValue := 0 }, { name := "LOG2_ARRAY_FLOAT_INDEX_SCALE", type := .int, accessFlags := 25, slot := 8, constantValue := 0 }, { name := "LOG2_ARRAY_DOUBLE_INDEX_SCALE", type := .int, accessFlags := 25, slot := 9, constantValue := 0 }, { name := "LOG2_BYTE_BIT_SIZE", type := .int, accessFlags := 26, slot := 10, constantValue := 0 }, { name := "T_BOOLEAN", type := .int, accessFlags := 25, slot := 11, constantValue := 0 }, { name := "T_CHAR", type := .int, accessFlags := 25, slot := 12, constantValue := 0 }, { name := "T_FLOAT", type := .int, accessFlags := 25, slot := 13, constantValue := 0 }, { name := "T_DOUBLE", type := .int, accessFlags := 25, slot := 14, constantValue := 0 }, { name := "T_BYTE", type := .int, accessFlags := 25, slot := 15, constantValue := 0 }, { name := "T_SHORT", type := .int, accessFlags := 25, slot := 16, constantValue := 0 }, { name := "T_INT", type := .int, accessFlags := 25, slot := 17, constantValue := 0 }, { name := "T_LONG", type := .int, accessFlags := 25, slot := 18, constantValue := 0 }, { name := "JLA", type := (.object "jdk/internal/access/JavaLangAccess"), accessFlags := 26, slot := 19, constantValue := 0 }, { name := "SOFT_MAX_ARRAY_LENGTH", type := .int, accessFlags := 25, slot := 20, constantValue := 0 }]
  methods := #[k33m0]
  instanceTypes := #[]
  staticTypes := #[(.object "jdk/internal/misc/Unsafe"), .boolean, .int, .int, .int, .int, .int, .int, .int, .int, .int, .int, .int, .int, .int, .int, .int, .int, .int, (.object "jdk/internal/access/JavaLangAccess"), .int]
  resolved := Array.replicate 378 none
  statics := none }

def pool34 : Array CpInfo := pool [(1, u "java/lang/Class"), (0, .class_ 1), (0, u "java/lang/Object"), (0, .class_ 3)] 0

/-- java/lang/Class -/
def k34 : Class := { plain "java/lang/Class" (some 0) with
  accessFlags := 49
  interfaces := #[]
  cf := some (fileOf pool34 2 #[] #[] 49 4 #[] #[])
  fields := #[]
  methods := #[]
  instanceTypes := #[]
  staticTypes := #[]
  resolved := Array.replicate 5 none
  statics := none }

/-- the primitive byte -/
def k35 : Class := { plain "byte" none with kind := .primitive 'B', accessFlags := 0x411 }
/-- [B -/
def k36 : Class := { plain "[B" (some 0) with kind := .array 35 .byte, interfaces := #[9, 10], accessFlags := 1041 }

/-- the primitive int -/
def k37 : Class := { plain "int" none with kind := .primitive 'I', accessFlags := 0x411 }
/-- [I -/
def k38 : Class := { plain "[I" (some 0) with kind := .array 37 .int, interfaces := #[9, 10], accessFlags := 1041 }

/-- [Ljava/lang/Object; -/
def k39 : Class := { plain "[Ljava/lang/Object;" (some 0) with kind := .array 0 (.object "java/lang/Object"), interfaces := #[9, 10], accessFlags := 1041, mirror := some 4 }

def heap : Heap := #[{ cls := 11, slots := #[.long 0, .int 0, .ref 7, .ref 8], vm := .statics 11 },
  { cls := 15, slots := #[.long 0, .int 0, .null, .ref 9, .ref 6, .null, .null, .null, .int 0, .int 1], vm := .statics 15 },
  { cls := 25, slots := #[.long 0, .int 1, .null, .int 0, .null, .int 0, .int 0], vm := .statics 25 },
  { cls := 32, slots := #[.null, .null, .null], vm := .statics 32 },
  { cls := 34, slots := #[], vm := .mirror 39 },
  { cls := 39, slots := #[], vm := .none },
  { cls := 19, slots := #[.ref 5, .int 0], vm := .none },
  { cls := 39, slots := #[], vm := .none },
  { cls := 39, slots := #[], vm := .none },
  { cls := 0, slots := #[], vm := .none }]
def classes : Array Class := #[k0, k1, k2, k3, k4, k5, k6, k7, k8, k9, k10, k11, k12, k13, k14, k15, k16, k17, k18, k19, k20, k21, k22, k23, k24, k25, k26, k27, k28, k29, k30, k31, k32, k33, k34, k35, k36, k37, k38, k39]
def interned : List (Array UInt16 × Addr) := []
def slotsUsed : Nat := 26
def theMethod : MethodId := ⟨1, 1⟩
def args0 : Array Value := #[.long 5, .long 6, .long 7, .long 8, .int 9, .int 3]
def aboutOver (below : List Frame) : State where
  vm := { classes := classes, interned := interned.toArray }
  heap := heap
  slotsUsed := slotsUsed
  threads := #[{ frames := .invoking theMethod args0 :: below }]
def below0 : List Frame := [.native { method := ⟨0, 0⟩, args := #[] }]
def about1 : State := aboutOver below0
def p0 : Program := .bare "" "" ""
def e0 : Env := launch0.env 0 0 0
theorem w_frames : about1.frames = Frame.invoking theMethod args0 :: below0 := rfl
set_option maxRecDepth 65536 in
theorem w_args : argsFit about1.vm theMethod args0 = true := by decide +kernel
set_option maxRecDepth 65536 in
theorem w_heap : heapFits about1 = true := by decide +kernel
set_option maxRecDepth 65536 in
theorem w_runnable : about1.curStatus? = some .runnable := by decide +kernel
set_option maxRecDepth 65536 in
theorem w_alone : about1.alone = true := by decide +kernel
set_option maxRecDepth 65536 in
theorem w_named : about1.methodNamed? x = some theMethod := by decide +kernel
set_option maxRecDepth 65536 in
theorem w_hears : about1.hears theMethod below0 = true := by decide +kernel
set_option maxRecDepth 65536 in
theorem w_ripe : about1.ripe theMethod args0 below0 = true := by decide +kernel
theorem w_running : about1.status = .running := rfl
set_option maxRecDepth 65536 in
theorem w_room : about1.hasRoom e0.platform room_1 = true :=
  launch0.hasRoom_least _ room_1 (by decide +kernel) (by decide +kernel) (by decide +kernel) (by decide +kernel) (by decide +kernel) (by decide +kernel)
theorem allAtoms_all (ts : List Jvm.Cond) (a : Array Jvm.Value) (st : Jvm.State) : (allAtoms ts).before a st = ts.all (fun c => c.before a st) := by
  induction ts with
  | nil => rfl
  | cons c t ih =>
    show (Jvm.Cond.and c (allAtoms t)).before a st = _
    rw [Jvm.Cond.before_and, ih, List.all_cons]
def words1 : List Jvm.Cond := Jvm.Cond.code x code maxLocals ret :: tables_1
/-- a 'code' word, met by the world's own term for the bytes: nothing is compared byte by byte -/
theorem code_word {y : MethodName} {bytes : ByteArray} {mx : Nat} {rt : Option FieldType} {a : Array Value} {s : State} {m : MethodId} {meth : Method} {c : Code} (h1 : s.methodNamed? y = some m) (h2 : s.vm.method? m = some meth) (h3 : meth.code = some c) (h4 : c.code = bytes)
    (h5 : (c.maxLocals == mx && c.exceptionTable.isEmpty && decide (c.maxStack ≤ mostOperands) && decide (meth.sig.returnType = rt) && !meth.locks && decide (parseMethodDescriptor y.desc = some meth.sig)) = true) : (Jvm.Cond.code y bytes mx rt).before a s = true := by
  simp only [Bool.and_eq_true, beq_iff_eq, Bool.not_eq_true', decide_eq_true_eq] at h5
  obtain ⟨⟨⟨⟨⟨g1, g2⟩, g3⟩, g4⟩, g5⟩, g6⟩ := h5
  simp [Cond.before, Cond.holds, Cond.value, h1, h2, h3, h4, g1, g2, g3, g4, g5, g6]
def isCode : Jvm.Cond → Bool
  | .code _ _ _ _ => true
  | _ => false
theorem all_split {L : List Jvm.Cond} {P : Jvm.Cond → Bool} (h1 : L.all (fun c => isCode c || P c) = true) (h2 : ∀ c ∈ L.filter isCode, P c = true) : L.all P = true := by
  refine List.all_eq_true.mpr fun c hc => ?_
  have h := List.all_eq_true.mp h1 c hc
  rcases Bool.eq_false_or_eq_true (isCode c) with hi | hi
  · exact h2 c (List.mem_filter.mpr ⟨hc, hi⟩)
  · simpa [hi] using h
set_option maxRecDepth 65536 in
theorem w_c0 : (Jvm.Cond.code x code maxLocals ret).before args0 about1 = true := code_word (m := ⟨1, 1⟩) (meth := k1m1) (c := k1c1) (by decide +kernel) rfl rfl rfl (by decide +kernel)
set_option maxRecDepth 65536 in
theorem w_c1 : (Jvm.Cond.code ({ cls := "java/util/ArrayList", name := "<init>", desc := "()V" } : Jvm.MethodName) jdk_38_method_2_code (1 : Nat) (Option.none : Option Jvm.ClassFile.FieldType)).before args0 about1 = true := code_word (m := ⟨11, 0⟩) (meth := k11m0) (c := k11c0) (by decide +kernel) rfl rfl rfl (by decide +kernel)
set_option maxRecDepth 65536 in
theorem w_c2 : (Jvm.Cond.code ({ cls := "java/util/AbstractList", name := "<init>", desc := "()V" } : Jvm.MethodName) jdk_39_method_1_code (1 : Nat) (Option.none : Option Jvm.ClassFile.FieldType)).before args0 about1 = true := code_word (m := ⟨7, 0⟩) (meth := k7m0) (c := k7c0) (by decide +kernel) rfl rfl rfl (by decide +kernel)
set_option maxRecDepth 65536 in
theorem w_c3 : (Jvm.Cond.code ({ cls := "java/util/AbstractCollection", name := "<init>", desc := "()V" } : Jvm.MethodName) jdk_22_method_1_code (1 : Nat) (Option.none : Option Jvm.ClassFile.FieldType)).before args0 about1 = true := code_word (m := ⟨4, 0⟩) (meth := k4m0) (c := k4c0) (by decide +kernel) rfl rfl rfl (by decide +kernel)
set_option maxRecDepth 65536 in
theorem w_c4 : (Jvm.Cond.code ({ cls := "java/lang/Object", name := "<init>", desc := "()V" } : Jvm.MethodName) object_method_1_code (1 : Nat) (Option.none : Option Jvm.ClassFile.FieldType)).before args0 about1 = true := code_word (m := ⟨0, 0⟩) (meth := k0m0) (c := k0c0) (by decide +kernel) rfl rfl rfl (by decide +kernel)
set_option maxRecDepth 65536 in
theorem w_c5 : (Jvm.Cond.code ({ cls := "com/example/zorgbrug/zorgbrug/fhir/Version", name := "<init>", desc := "(JJJLjava/util/List;)V" } : Jvm.MethodName) prog_12_method_1_code (8 : Nat) (Option.none : Option Jvm.ClassFile.FieldType)).before args0 about1 = true := code_word (m := ⟨14, 0⟩) (meth := k14m0) (c := k14c0) (by decide +kernel) rfl rfl rfl (by decide +kernel)
set_option maxRecDepth 65536 in
theorem w_c6 : (Jvm.Cond.code ({ cls := "java/lang/Record", name := "<init>", desc := "()V" } : Jvm.MethodName) jdk_30_method_1_code (1 : Nat) (Option.none : Option Jvm.ClassFile.FieldType)).before args0 about1 = true := code_word (m := ⟨12, 0⟩) (meth := k12m0) (c := k12c0) (by decide +kernel) rfl rfl rfl (by decide +kernel)
set_option maxRecDepth 65536 in
theorem w_c7 : (Jvm.Cond.code ({ cls := "java/util/List", name := "copyOf", desc := "(Ljava/util/Collection;)Ljava/util/List;" } : Jvm.MethodName) jdk_40_method_48_code (1 : Nat) (Option.some (Jvm.ClassFile.FieldType.object "java/util/List"))).before args0 about1 = true := code_word (m := ⟨6, 3⟩) (meth := k6m3) (c := k6c3) (by decide +kernel) rfl rfl rfl (by decide +kernel)
set_option maxRecDepth 65536 in
theorem w_c8 : (Jvm.Cond.code ({ cls := "java/util/ImmutableCollections", name := "listCopy", desc := "(Ljava/util/Collection;)Ljava/util/List;" } : Jvm.MethodName) jdk_56_method_3_code (2 : Nat) (Option.some (Jvm.ClassFile.FieldType.object "java/util/List"))).before args0 about1 = true := code_word (m := ⟨15, 1⟩) (meth := k15m1) (c := k15c1) (by decide +kernel) rfl rfl rfl (by decide +kernel)
set_option maxRecDepth 65536 in
theorem w_c9 : (Jvm.Cond.code ({ cls := "java/util/ArrayList", name := "isEmpty", desc := "()Z" } : Jvm.MethodName) jdk_38_method_9_code (1 : Nat) (Option.some Jvm.ClassFile.FieldType.boolean)).before args0 about1 = true := code_word (m := ⟨11, 3⟩) (meth := k11m3) (c := k11c3) (by decide +kernel) rfl rfl rfl (by decide +kernel)
set_option maxRecDepth 65536 in
theorem w_c10 : (Jvm.Cond.code ({ cls := "java/util/List", name := "of", desc := "()Ljava/util/List;" } : Jvm.MethodName) jdk_40_method_36_code (0 : Nat) (Option.some (Jvm.ClassFile.FieldType.object "java/util/List"))).before args0 about1 = true := code_word (m := ⟨6, 1⟩) (meth := k6m1) (c := k6c1) (by decide +kernel) rfl rfl rfl (by decide +kernel)
set_option maxRecDepth 65536 in
theorem w_c11 : (Jvm.Cond.code ({ cls := "com/example/zorgbrug/zorgbrug/fhir/Version", name := "sameRelease", desc := "(Lcom/example/zorgbrug/zorgbrug/fhir/Version;)Z" } : Jvm.MethodName) prog_12_method_4_code (2 : Nat) (Option.some Jvm.ClassFile.FieldType.boolean)).before args0 about1 = true := code_word (m := ⟨14, 2⟩) (meth := k14m2) (c := k14c2) (by decide +kernel) rfl rfl rfl (by decide +kernel)
set_option maxRecDepth 65536 in
theorem w_c12 : (Jvm.Cond.code ({ cls := "com/example/zorgbrug/zorgbrug/fhir/Version", name := "release", desc := "(JJJ)Lcom/example/zorgbrug/zorgbrug/fhir/Version;" } : Jvm.MethodName) prog_12_method_2_code (6 : Nat) (Option.some (Jvm.ClassFile.FieldType.object "com/example/zorgbrug/zorgbrug/fhir/Version"))).before args0 about1 = true := code_word (m := ⟨14, 1⟩) (meth := k14m1) (c := k14c1) (by decide +kernel) rfl rfl rfl (by decide +kernel)
set_option maxRecDepth 65536 in
theorem w_c13 : (Jvm.Cond.code ({ cls := "com/example/zorgbrug/zorgbrug/fhir/Version", name := "compareTo", desc := "(Lcom/example/zorgbrug/zorgbrug/fhir/Version;)I" } : Jvm.MethodName) prog_12_method_5_code (5 : Nat) (Option.some Jvm.ClassFile.FieldType.int)).before args0 about1 = true := code_word (m := ⟨14, 3⟩) (meth := k14m3) (c := k14c3) (by decide +kernel) rfl rfl rfl (by decide +kernel)
set_option maxRecDepth 65536 in
theorem w_c14 : (Jvm.Cond.code ({ cls := "java/lang/Long", name := "compare", desc := "(JJ)I" } : Jvm.MethodName) jdk_35_method_42_code (4 : Nat) (Option.some Jvm.ClassFile.FieldType.int)).before args0 about1 = true := code_word (m := ⟨23, 0⟩) (meth := k23m0) (c := k23c0) (by decide +kernel) rfl rfl rfl (by decide +kernel)
set_option maxRecDepth 65536 in
theorem w_c15 : (Jvm.Cond.code ({ cls := "java/lang/String", name := "valueOf", desc := "(C)Ljava/lang/String;" } : Jvm.MethodName) jdk_42_method_139_code (1 : Nat) (Option.some (Jvm.ClassFile.FieldType.object "java/lang/String"))).before args0 about1 = true := code_word (m := ⟨25, 1⟩) (meth := k25m1) (c := k25c1) (by decide +kernel) rfl rfl rfl (by decide +kernel)
set_option maxRecDepth 65536 in
theorem w_c16 : (Jvm.Cond.code ({ cls := "java/lang/StringLatin1", name := "canEncode", desc := "(C)Z" } : Jvm.MethodName) jdk_43_method_3_code (1 : Nat) (Option.some Jvm.ClassFile.FieldType.boolean)).before args0 about1 = true := code_word (m := ⟨26, 1⟩) (meth := k26m1) (c := k26c1) (by decide +kernel) rfl rfl rfl (by decide +kernel)
set_option maxRecDepth 65536 in
theorem w_c17 : (Jvm.Cond.code ({ cls := "java/lang/StringLatin1", name := "toBytes", desc := "(C)[B" } : Jvm.MethodName) jdk_43_method_46_code (1 : Nat) (Option.some (Jvm.ClassFile.FieldType.array Jvm.ClassFile.FieldType.byte))).before args0 about1 = true := code_word (m := ⟨26, 2⟩) (meth := k26m2) (c := k26c2) (by decide +kernel) rfl rfl rfl (by decide +kernel)
set_option maxRecDepth 65536 in
theorem w_c18 : (Jvm.Cond.code ({ cls := "java/lang/String", name := "<init>", desc := "([BB)V" } : Jvm.MethodName) jdk_42_method_151_code (3 : Nat) (Option.none : Option Jvm.ClassFile.FieldType)).before args0 about1 = true := code_word (m := ⟨25, 2⟩) (meth := k25m2) (c := k25c2) (by decide +kernel) rfl rfl rfl (by decide +kernel)
set_option maxRecDepth 65536 in
theorem w_c19 : (Jvm.Cond.code ({ cls := "java/util/ArrayList", name := "add", desc := "(Ljava/lang/Object;)Z" } : Jvm.MethodName) jdk_38_method_25_code (2 : Nat) (Option.some Jvm.ClassFile.FieldType.boolean)).before args0 about1 = true := code_word (m := ⟨11, 6⟩) (meth := k11m6) (c := k11c6) (by decide +kernel) rfl rfl rfl (by decide +kernel)
set_option maxRecDepth 65536 in
theorem w_c20 : (Jvm.Cond.code ({ cls := "java/util/ArrayList", name := "add", desc := "(Ljava/lang/Object;[Ljava/lang/Object;I)V" } : Jvm.MethodName) jdk_38_method_24_code (4 : Nat) (Option.none : Option Jvm.ClassFile.FieldType)).before args0 about1 = true := code_word (m := ⟨11, 5⟩) (meth := k11m5) (c := k11c5) (by decide +kernel) rfl rfl rfl (by decide +kernel)
set_option maxRecDepth 65536 in
theorem w_c21 : (Jvm.Cond.code ({ cls := "java/util/ArrayList", name := "grow", desc := "()[Ljava/lang/Object;" } : Jvm.MethodName) jdk_38_method_7_code (1 : Nat) (Option.some (Jvm.ClassFile.FieldType.array (Jvm.ClassFile.FieldType.object "java/lang/Object")))).before args0 about1 = true := code_word (m := ⟨11, 2⟩) (meth := k11m2) (c := k11c2) (by decide +kernel) rfl rfl rfl (by decide +kernel)
set_option maxRecDepth 65536 in
theorem w_c22 : (Jvm.Cond.code ({ cls := "java/util/ArrayList", name := "grow", desc := "(I)[Ljava/lang/Object;" } : Jvm.MethodName) jdk_38_method_6_code (4 : Nat) (Option.some (Jvm.ClassFile.FieldType.array (Jvm.ClassFile.FieldType.object "java/lang/Object")))).before args0 about1 = true := code_word (m := ⟨11, 1⟩) (meth := k11m1) (c := k11c1) (by decide +kernel) rfl rfl rfl (by decide +kernel)
set_option maxRecDepth 65536 in
theorem w_c23 : (Jvm.Cond.code ({ cls := "java/lang/Math", name := "max", desc := "(II)I" } : Jvm.MethodName) jdk_29_method_65_code (2 : Nat) (Option.some Jvm.ClassFile.FieldType.int)).before args0 about1 = true := code_word (m := ⟨27, 1⟩) (meth := k27m1) (c := k27c1) (by decide +kernel) rfl rfl rfl (by decide +kernel)
set_option maxRecDepth 65536 in
theorem w_c24 : (Jvm.Cond.code ({ cls := "java/util/ArrayList", name := "toArray", desc := "()[Ljava/lang/Object;" } : Jvm.MethodName) jdk_38_method_16_code (1 : Nat) (Option.some (Jvm.ClassFile.FieldType.array (Jvm.ClassFile.FieldType.object "java/lang/Object")))).before args0 about1 = true := code_word (m := ⟨11, 4⟩) (meth := k11m4) (c := k11c4) (by decide +kernel) rfl rfl rfl (by decide +kernel)
set_option maxRecDepth 65536 in
theorem w_c25 : (Jvm.Cond.code ({ cls := "java/util/Arrays", name := "copyOf", desc := "([Ljava/lang/Object;I)[Ljava/lang/Object;" } : Jvm.MethodName) jdk_65_method_119_code (2 : Nat) (Option.some (Jvm.ClassFile.FieldType.array (Jvm.ClassFile.FieldType.object "java/lang/Object")))).before args0 about1 = true := code_word (m := ⟨28, 1⟩) (meth := k28m1) (c := k28c1) (by decide +kernel) rfl rfl rfl (by decide +kernel)
set_option maxRecDepth 65536 in
theorem w_c26 : (Jvm.Cond.code ({ cls := "java/util/Arrays", name := "copyOf", desc := "([Ljava/lang/Object;ILjava/lang/Class;)[Ljava/lang/Object;" } : Jvm.MethodName) jdk_65_method_120_code (4 : Nat) (Option.some (Jvm.ClassFile.FieldType.array (Jvm.ClassFile.FieldType.object "java/lang/Object")))).before args0 about1 = true := code_word (m := ⟨28, 2⟩) (meth := k28m2) (c := k28c2) (by decide +kernel) rfl rfl rfl (by decide +kernel)
set_option maxRecDepth 65536 in
theorem w_c27 : (Jvm.Cond.code ({ cls := "java/lang/Math", name := "min", desc := "(II)I" } : Jvm.MethodName) jdk_29_method_69_code (2 : Nat) (Option.some Jvm.ClassFile.FieldType.int)).before args0 about1 = true := code_word (m := ⟨27, 2⟩) (meth := k27m2) (c := k27c2) (by decide +kernel) rfl rfl rfl (by decide +kernel)
set_option maxRecDepth 65536 in
theorem w_c28 : (Jvm.Cond.code ({ cls := "java/util/List", name := "of", desc := "([Ljava/lang/Object;)Ljava/util/List;" } : Jvm.MethodName) jdk_40_method_47_code (2 : Nat) (Option.some (Jvm.ClassFile.FieldType.object "java/util/List"))).before args0 about1 = true := code_word (m := ⟨6, 2⟩) (meth := k6m2) (c := k6c2) (by decide +kernel) rfl rfl rfl (by decide +kernel)
set_option maxRecDepth 65536 in
theorem w_c29 : (Jvm.Cond.code ({ cls := "java/util/ImmutableCollections$List12", name := "<init>", desc := "(Ljava/lang/Object;)V" } : Jvm.MethodName) jdk_44_method_1_code (2 : Nat) (Option.none : Option Jvm.ClassFile.FieldType)).before args0 about1 = true := code_word (m := ⟨18, 0⟩) (meth := k18m0) (c := k18c0) (by decide +kernel) rfl rfl rfl (by decide +kernel)
set_option maxRecDepth 65536 in
theorem w_c30 : (Jvm.Cond.code ({ cls := "java/util/ImmutableCollections$AbstractImmutableList", name := "<init>", desc := "()V" } : Jvm.MethodName) jdk_46_method_1_code (1 : Nat) (Option.none : Option Jvm.ClassFile.FieldType)).before args0 about1 = true := code_word (m := ⟨17, 0⟩) (meth := k17m0) (c := k17c0) (by decide +kernel) rfl rfl rfl (by decide +kernel)
set_option maxRecDepth 65536 in
theorem w_c31 : (Jvm.Cond.code ({ cls := "java/util/ImmutableCollections$AbstractImmutableCollection", name := "<init>", desc := "()V" } : Jvm.MethodName) jdk_47_method_1_code (1 : Nat) (Option.none : Option Jvm.ClassFile.FieldType)).before args0 about1 = true := code_word (m := ⟨16, 0⟩) (meth := k16m0) (c := k16c0) (by decide +kernel) rfl rfl rfl (by decide +kernel)
set_option maxRecDepth 65536 in
theorem w_c32 : (Jvm.Cond.code ({ cls := "java/util/Objects", name := "requireNonNull", desc := "(Ljava/lang/Object;)Ljava/lang/Object;" } : Jvm.MethodName) jdk_31_method_10_code (1 : Nat) (Option.some (Jvm.ClassFile.FieldType.object "java/lang/Object"))).before args0 about1 = true := code_word (m := ⟨30, 1⟩) (meth := k30m1) (c := k30c1) (by decide +kernel) rfl rfl rfl (by decide +kernel)
set_option maxRecDepth 65536 in
theorem w_c33 : (Jvm.Cond.code ({ cls := "java/util/ImmutableCollections$ListN", name := "isEmpty", desc := "()Z" } : Jvm.MethodName) jdk_45_method_2_code (1 : Nat) (Option.some Jvm.ClassFile.FieldType.boolean)).before args0 about1 = true := code_word (m := ⟨19, 0⟩) (meth := k19m0) (c := k19c0) (by decide +kernel) rfl rfl rfl (by decide +kernel)
set_option maxRecDepth 65536 in
theorem w_c34 : (Jvm.Cond.code ({ cls := "java/lang/Boolean", name := "compare", desc := "(ZZ)I" } : Jvm.MethodName) jdk_2055_method_14_code (2 : Nat) (Option.some Jvm.ClassFile.FieldType.int)).before args0 about1 = true := code_word (m := ⟨31, 0⟩) (meth := k31m0) (c := k31c0) (by decide +kernel) rfl rfl rfl (by decide +kernel)
def codes1 : List Jvm.Cond := [Jvm.Cond.code x code maxLocals ret, Jvm.Cond.code ({ cls := "java/util/ArrayList", name := "<init>", desc := "()V" } : Jvm.MethodName) jdk_38_method_2_code (1 : Nat) (Option.none : Option Jvm.ClassFile.FieldType), Jvm.Cond.code ({ cls := "java/util/AbstractList", name := "<init>", desc := "()V" } : Jvm.MethodName) jdk_39_method_1_code (1 : Nat) (Option.none : Option Jvm.ClassFile.FieldType), Jvm.Cond.code ({ cls := "java/util/AbstractCollection", name := "<init>", desc := "()V" } : Jvm.MethodName) jdk_22_method_1_code (1 : Nat) (Option.none : Option Jvm.ClassFile.FieldType), Jvm.Cond.code ({ cls := "java/lang/Object", name := "<init>", desc := "()V" } : Jvm.MethodName) object_method_1_code (1 : Nat) (Option.none : Option Jvm.ClassFile.FieldType), Jvm.Cond.code ({ cls := "com/example/zorgbrug/zorgbrug/fhir/Version", name := "<init>", desc := "(JJJLjava/util/List;)V" } : Jvm.MethodName) prog_12_method_1_code (8 : Nat) (Option.none : Option Jvm.ClassFile.FieldType), Jvm.Cond.code ({ cls := "java/lang/Record", name := "<init>", desc := "()V" } : Jvm.MethodName) jdk_30_method_1_code (1 : Nat) (Option.none : Option Jvm.ClassFile.FieldType), Jvm.Cond.code ({ cls := "java/util/List", name := "copyOf", desc := "(Ljava/util/Collection;)Ljava/util/List;" } : Jvm.MethodName) jdk_40_method_48_code (1 : Nat) (Option.some (Jvm.ClassFile.FieldType.object "java/util/List")), Jvm.Cond.code ({ cls := "java/util/ImmutableCollections", name := "listCopy", desc := "(Ljava/util/Collection;)Ljava/util/List;" } : Jvm.MethodName) jdk_56_method_3_code (2 : Nat) (Option.some (Jvm.ClassFile.FieldType.object "java/util/List")), Jvm.Cond.code ({ cls := "java/util/ArrayList", name := "isEmpty", desc := "()Z" } : Jvm.MethodName) jdk_38_method_9_code (1 : Nat) (Option.some Jvm.ClassFile.FieldType.boolean), Jvm.Cond.code ({ cls := "java/util/List", name := "of", desc := "()Ljava/util/List;" } : Jvm.MethodName) jdk_40_method_36_code (0 : Nat) (Option.some (Jvm.ClassFile.FieldType.object "java/util/List")), Jvm.Cond.code ({ cls := "com/example/zorgbrug/zorgbrug/fhir/Version", name := "sameRelease", desc := "(Lcom/example/zorgbrug/zorgbrug/fhir/Version;)Z" } : Jvm.MethodName) prog_12_method_4_code (2 : Nat) (Option.some Jvm.ClassFile.FieldType.boolean), Jvm.Cond.code ({ cls := "com/example/zorgbrug/zorgbrug/fhir/Version", name := "release", desc := "(JJJ)Lcom/example/zorgbrug/zorgbrug/fhir/Version;" } : Jvm.MethodName) prog_12_method_2_code (6 : Nat) (Option.some (Jvm.ClassFile.FieldType.object "com/example/zorgbrug/zorgbrug/fhir/Version")), Jvm.Cond.code ({ cls := "com/example/zorgbrug/zorgbrug/fhir/Version", name := "compareTo", desc := "(Lcom/example/zorgbrug/zorgbrug/fhir/Version;)I" } : Jvm.MethodName) prog_12_method_5_code (5 : Nat) (Option.some Jvm.ClassFile.FieldType.int), Jvm.Cond.code ({ cls := "java/lang/Long", name := "compare", desc := "(JJ)I" } : Jvm.MethodName) jdk_35_method_42_code (4 : Nat) (Option.some Jvm.ClassFile.FieldType.int), Jvm.Cond.code ({ cls := "java/lang/String", name := "valueOf", desc := "(C)Ljava/lang/String;" } : Jvm.MethodName) jdk_42_method_139_code (1 : Nat) (Option.some (Jvm.ClassFile.FieldType.object "java/lang/String")), Jvm.Cond.code ({ cls := "java/lang/StringLatin1", name := "canEncode", desc := "(C)Z" } : Jvm.MethodName) jdk_43_method_3_code (1 : Nat) (Option.some Jvm.ClassFile.FieldType.boolean), Jvm.Cond.code ({ cls := "java/lang/StringLatin1", name := "toBytes", desc := "(C)[B" } : Jvm.MethodName) jdk_43_method_46_code (1 : Nat) (Option.some (Jvm.ClassFile.FieldType.array Jvm.ClassFile.FieldType.byte)), Jvm.Cond.code ({ cls := "java/lang/String", name := "<init>", desc := "([BB)V" } : Jvm.MethodName) jdk_42_method_151_code (3 : Nat) (Option.none : Option Jvm.ClassFile.FieldType), Jvm.Cond.code ({ cls := "java/util/ArrayList", name := "add", desc := "(Ljava/lang/Object;)Z" } : Jvm.MethodName) jdk_38_method_25_code (2 : Nat) (Option.some Jvm.ClassFile.FieldType.boolean), Jvm.Cond.code ({ cls := "java/util/ArrayList", name := "add", desc := "(Ljava/lang/Object;[Ljava/lang/Object;I)V" } : Jvm.MethodName) jdk_38_method_24_code (4 : Nat) (Option.none : Option Jvm.ClassFile.FieldType), Jvm.Cond.code ({ cls := "java/util/ArrayList", name := "grow", desc := "()[Ljava/lang/Object;" } : Jvm.MethodName) jdk_38_method_7_code (1 : Nat) (Option.some (Jvm.ClassFile.FieldType.array (Jvm.ClassFile.FieldType.object "java/lang/Object"))), Jvm.Cond.code ({ cls := "java/util/ArrayList", name := "grow", desc := "(I)[Ljava/lang/Object;" } : Jvm.MethodName) jdk_38_method_6_code (4 : Nat) (Option.some (Jvm.ClassFile.FieldType.array (Jvm.ClassFile.FieldType.object "java/lang/Object"))), Jvm.Cond.code ({ cls := "java/lang/Math", name := "max", desc := "(II)I" } : Jvm.MethodName) jdk_29_method_65_code (2 : Nat) (Option.some Jvm.ClassFile.FieldType.int), Jvm.Cond.code ({ cls := "java/util/ArrayList", name := "toArray", desc := "()[Ljava/lang/Object;" } : Jvm.MethodName) jdk_38_method_16_code (1 : Nat) (Option.some (Jvm.ClassFile.FieldType.array (Jvm.ClassFile.FieldType.object "java/lang/Object"))), Jvm.Cond.code ({ cls := "java/util/Arrays", name := "copyOf", desc := "([Ljava/lang/Object;I)[Ljava/lang/Object;" } : Jvm.MethodName) jdk_65_method_119_code (2 : Nat) (Option.some (Jvm.ClassFile.FieldType.array (Jvm.ClassFile.FieldType.object "java/lang/Object"))), Jvm.Cond.code ({ cls := "java/util/Arrays", name := "copyOf", desc := "([Ljava/lang/Object;ILjava/lang/Class;)[Ljava/lang/Object;" } : Jvm.MethodName) jdk_65_method_120_code (4 : Nat) (Option.some (Jvm.ClassFile.FieldType.array (Jvm.ClassFile.FieldType.object "java/lang/Object"))), Jvm.Cond.code ({ cls := "java/lang/Math", name := "min", desc := "(II)I" } : Jvm.MethodName) jdk_29_method_69_code (2 : Nat) (Option.some Jvm.ClassFile.FieldType.int), Jvm.Cond.code ({ cls := "java/util/List", name := "of", desc := "([Ljava/lang/Object;)Ljava/util/List;" } : Jvm.MethodName) jdk_40_method_47_code (2 : Nat) (Option.some (Jvm.ClassFile.FieldType.object "java/util/List")), Jvm.Cond.code ({ cls := "java/util/ImmutableCollections$List12", name := "<init>", desc := "(Ljava/lang/Object;)V" } : Jvm.MethodName) jdk_44_method_1_code (2 : Nat) (Option.none : Option Jvm.ClassFile.FieldType), Jvm.Cond.code ({ cls := "java/util/ImmutableCollections$AbstractImmutableList", name := "<init>", desc := "()V" } : Jvm.MethodName) jdk_46_method_1_code (1 : Nat) (Option.none : Option Jvm.ClassFile.FieldType), Jvm.Cond.code ({ cls := "java/util/ImmutableCollections$AbstractImmutableCollection", name := "<init>", desc := "()V" } : Jvm.MethodName) jdk_47_method_1_code (1 : Nat) (Option.none : Option Jvm.ClassFile.FieldType), Jvm.Cond.code ({ cls := "java/util/Objects", name := "requireNonNull", desc := "(Ljava/lang/Object;)Ljava/lang/Object;" } : Jvm.MethodName) jdk_31_method_10_code (1 : Nat) (Option.some (Jvm.ClassFile.FieldType.object "java/lang/Object")), Jvm.Cond.code ({ cls := "java/util/ImmutableCollections$ListN", name := "isEmpty", desc := "()Z" } : Jvm.MethodName) jdk_45_method_2_code (1 : Nat) (Option.some Jvm.ClassFile.FieldType.boolean), Jvm.Cond.code ({ cls := "java/lang/Boolean", name := "compare", desc := "(ZZ)I" } : Jvm.MethodName) jdk_2055_method_14_code (2 : Nat) (Option.some Jvm.ClassFile.FieldType.int)]
set_option maxRecDepth 65536 in
theorem codes_eq : words1.filter isCode = codes1 := rfl
theorem w_codes : ∀ c ∈ words1.filter isCode, c.before args0 about1 = true := by
  rw [codes_eq]
  intro c hc
  simp only [codes1, List.mem_cons, List.not_mem_nil, or_false] at hc
  rcases hc with rfl | rfl | rfl | rfl | rfl | rfl | rfl | rfl | rfl | rfl | rfl | rfl | rfl | rfl | rfl | rfl | rfl | rfl | rfl | rfl | rfl | rfl | rfl | rfl | rfl | rfl | rfl | rfl | rfl | rfl | rfl | rfl | rfl | rfl | rfl
  · exact w_c0
  · exact w_c1
  · exact w_c2
  · exact w_c3
  · exact w_c4
  · exact w_c5
  · exact w_c6
  · exact w_c7
  · exact w_c8
  · exact w_c9
  · exact w_c10
  · exact w_c11
  · exact w_c12
  · exact w_c13
  · exact w_c14
  · exact w_c15
  · exact w_c16
  · exact w_c17
  · exact w_c18
  · exact w_c19
  · exact w_c20
  · exact w_c21
  · exact w_c22
  · exact w_c23
  · exact w_c24
  · exact w_c25
  · exact w_c26
  · exact w_c27
  · exact w_c28
  · exact w_c29
  · exact w_c30
  · exact w_c31
  · exact w_c32
  · exact w_c33
  · exact w_c34
set_option maxRecDepth 65536 in
theorem w_t1 : (words1.take 24).all (fun c => isCode c || c.before args0 about1) = true := by decide +kernel
set_option maxRecDepth 65536 in
theorem w_t2 : ((words1.drop 24).take 24).all (fun c => isCode c || c.before args0 about1) = true := by decide +kernel
set_option maxRecDepth 65536 in
theorem w_t3 : (((words1.drop 24).drop 24).take 24).all (fun c => isCode c || c.before args0 about1) = true := by decide +kernel
set_option maxRecDepth 65536 in
theorem w_t4 : ((((words1.drop 24).drop 24).drop 24).take 24).all (fun c => isCode c || c.before args0 about1) = true := by decide +kernel
set_option maxRecDepth 65536 in
theorem w_t5 : (((((words1.drop 24).drop 24).drop 24).drop 24).take 24).all (fun c => isCode c || c.before args0 about1) = true := by decide +kernel
set_option maxRecDepth 65536 in
theorem w_t6 : ((((((words1.drop 24).drop 24).drop 24).drop 24).drop 24).take 24).all (fun c => isCode c || c.before args0 about1) = true := by decide +kernel
set_option maxRecDepth 65536 in
theorem w_t7 : (((((((words1.drop 24).drop 24).drop 24).drop 24).drop 24).drop 24).take 24).all (fun c => isCode c || c.before args0 about1) = true := by decide +kernel
set_option maxRecDepth 65536 in
theorem w_t8 : ((((((((words1.drop 24).drop 24).drop 24).drop 24).drop 24).drop 24).drop 24).take 24).all (fun c => isCode c || c.before args0 about1) = true := by decide +kernel
set_option maxRecDepth 65536 in
theorem w_t9 : (((((((((words1.drop 24).drop 24).drop 24).drop 24).drop 24).drop 24).drop 24).drop 24).take 24).all (fun c => isCode c || c.before args0 about1) = true := by decide +kernel
set_option maxRecDepth 65536 in
theorem w_t10 : (((((((((words1.drop 24).drop 24).drop 24).drop 24).drop 24).drop 24).drop 24).drop 24).drop 24).all (fun c => isCode c || c.before args0 about1) = true := by decide +kernel
theorem w_tables : (allAtoms (Jvm.Cond.code x code maxLocals ret :: tables_1)).before args0 about1 = true := by
  rw [allAtoms_all]
  show words1.all (fun c => c.before args0 about1) = true
  refine all_split ?_ w_codes
  rw [← List.take_append_drop 24 words1, List.all_append, w_t1, ← List.take_append_drop 24 (words1.drop 24), List.all_append, w_t2, ← List.take_append_drop 24 ((words1.drop 24).drop 24), List.all_append, w_t3, ← List.take_append_drop 24 (((words1.drop 24).drop 24).drop 24), List.all_append, w_t4, ← List.take_append_drop 24 ((((words1.drop 24).drop 24).drop 24).drop 24), List.all_append, w_t5, ← List.take_append_drop 24 (((((words1.drop 24).drop 24).drop 24).drop 24).drop 24), List.all_append, w_t6, ← List.take_append_drop 24 ((((((words1.drop 24).drop 24).drop 24).drop 24).drop 24).drop 24), List.all_append, w_t7, ← List.take_append_drop 24 (((((((words1.drop 24).drop 24).drop 24).drop 24).drop 24).drop 24).drop 24), List.all_append, w_t8, ← List.take_append_drop 24 ((((((((words1.drop 24).drop 24).drop 24).drop 24).drop 24).drop 24).drop 24).drop 24), List.all_append, w_t9, w_t10]
  rfl
set_option maxRecDepth 65536 in
theorem w_rest : rest_1_c.before args0 about1 = true := by decide +kernel
set_option maxRecDepth 65536 in
theorem w_case : (Jvm.Cond.and given_1 narrow_1).before args0 about1 = true := by decide +kernel
theorem w_applies : (headSpec (Jvm.Cond.code x code maxLocals ret :: tables_1) room_1).applies x e0.platform about1 = true :=
  (Spec.applies_iff w_frames).mpr ⟨w_running, w_runnable, w_alone, w_named, w_hears, w_ripe, w_room, w_tables⟩
theorem atStart : AtStart classFile x code maxLocals ret World_1 tables_1 room_1 Calls_1 rest_1 Pre_1 launch0 p0 e0 about1 theMethod args0 below0 :=
  ⟨lists_1, trivial, launch0.admits_env _ _ _, launch0.least_env, fairChoices_fair.cas, fairChoices_fair.clock, w_frames, w_args, w_heap, w_applies, ⟨⟨39, k39, 4, by decide +kernel, rfl, rfl, _, rfl, rfl⟩, trivial⟩, w_rest, w_case⟩
end start1
theorem witness_1 : WitnessClaimed_1 := ⟨start1.p0, start1.e0, start1.about1, start1.theMethod, start1.args0, start1.below0, start1.atStart⟩
end Jvm.Pilot.@@N@@

import JvmDerived
import JvmDerived.Pilot.@@N@@Statement
import JvmDerived.Pilot.@@N@@Code
set_option linter.unusedVariables false
set_option linter.unusedSimpArgs false
namespace Jvm.RoadKit
open Sem ClassFile Op Lib Jvm.Stand Jvm.Free Jvm.LawKit
section New
variable {p : Program} {l : Launch} {e : Env} {R : Room} {s : State} {m : MethodId} {args : Array Value} {below : List Frame} {meth : Method} {c : Code} {T : State} {locs : List Loc} {cells slots : Nat}
theorem retI (X : Stand p l e R s m args below meth c T locs cells slots) (hx : p.tables.exec = Jvm.exec) {pc : Nat} {Ls : Array Slot} {z : Int32} {rest : List Value} (hret : meth.sig.returnType = some .int) (hd : decode c.code pc = .ok (.ireturn, 1)) {fs : List Frame}
    (hl : ∀ (f : JFrame) (acts : List Action), f.method = m → f.locked = none → f.entered = [] → (doReturn e (T.setTop f) acts (some (.int z))).1 = T.setFrames fs) : Steps p.tables e below (T.setTop (mkF m pc Ls (.int z :: rest))) (T.setFrames fs) := by
  have hm' : T.vm.method? m = some meth := X.method'
  have hn : narrow .int (.int z) = .int z := rfl
  show Steps p.tables e below (T.setTop { method := m, pc := pc, locals := Ls, stack := _ :: rest, locked := none }) _
  jvm_step X.here [X.here.top, hx, hd, hm', hret, hn]
  first | (intro acts; rw [hl _ acts rfl rfl rfl]) | rw [hl _ _ rfl rfl rfl]
  exact Steps.refl _
end New
end Jvm.RoadKit
namespace Jvm.Pilot.@@N@@
open Jvm Jvm.ClassFile Sem Op Lib Jvm.Free Jvm.Stand Jvm.LawKit Jvm.RoadKit Bundle Jvm.Pilot.@@N@@.Jvm.D
theorem own_eqint {args : Array Value} {first s : State} {o : Option Outcome} {idx : List Nat} {t : Term} {n : Int32} (h : (Jvm.Cond.eq t (.int n)).value args first o s idx = some true) : t.eval args first o idx s = some (.int n) := by
  obtain ⟨x, y, hx, hy, -, k⟩ := cmp_v (Or.inl h)
  obtain rfl : y = .int n := (Option.some.inj ((Term.int_eval n).symm.trans hy)).symm
  obtain ⟨z, rfl⟩ := k
  simp only [Cond.value, hx, hy] at h
  rw [hx, show z = n by simpa using h]
theorem own_stakeep {Z : State} {h h' : Heap} {C n d : String} {v : Value} (K : Keep h h' []) (F : Sta Z h C n d v) : Sta Z h' C n d v := F.ext ⟨K.1, fun a c q => K.2.1 a c q nin0⟩
theorem own_selpriv {s : State} {args : Array Value} {y : MethodName} {n : Nat} (hi : (Jvm.Cond.instantiable y.cls n).before args s = true) (hp : s.PrivateAt y) (hinst : (Jvm.Cond.instanceMethod y).before args s = true) (hy : y.cls ≠ "java/lang/invoke/MethodHandle" ∧ y.cls ≠ "java/lang/invoke/VarHandle") : (Jvm.Cond.selects y.cls y y).before args s = true := by
  obtain ⟨c, k, h1, h2, h3, h4, -⟩ := Cond.instantiable_spec hi
  exact selects_self_of_private h1 h2 (Bool.or_eq_false_iff.mp h4).1 hp hinst hy
theorem own_lceq {a b : Int64} (h : a = b) : lcmpW a b = 0 := by subst h; simp [lcmpW, Int64.lt_irrefl]
theorem own_lcne {a b : Int64} (h : ¬ a = b) : ¬ lcmpW a b = 0 := by
  unfold lcmpW; split
  · decide
  · first | decide | (rw [if_neg h]; decide)
theorem own_lcgt {a b : Int64} (h : b < a) : (0 : Int32) < lcmpW a b := by unfold lcmpW; rw [if_pos h]; decide
theorem own_lcngt {a b : Int64} (h : ¬ b < a) : ¬ (0 : Int32) < lcmpW a b := by unfold lcmpW; rw [if_neg h]; split <;> decide
theorem own_lclt {a b : Int64} (h : a < b) : lcmpW a b < (0 : Int32) := by
  have h1 : ¬ b < a := fun q => by rw [Int64.lt_iff_toInt_lt] at h q; omega
  have h2 : ¬ a = b := fun q => by subst q; rw [Int64.lt_iff_toInt_lt] at h; omega
  unfold lcmpW; rw [if_neg h1, if_neg h2]; decide
theorem own_lcnlt {a b : Int64} (h : ¬ a < b) : ¬ lcmpW a b < (0 : Int32) := by
  unfold lcmpW; split
  · decide
  · split
    · decide
    · rename_i h1 h2; exact absurd (Int64.toInt_inj.mp (by simp only [gt_iff_lt, Int64.lt_iff_toInt_lt] at h h1; omega)) h2
theorem own_bytes3 {Z : State} {args : Array Value} {t : Term} {a : Addr} {b0 b1 b2 : Int32} (hf : Fit Z) (ev : t.eval args Z none [] Z = some (.ref a)) (hA : (Jvm.Cond.arrayOf t .byte).value args Z none Z [] = some true) (hL : (Jvm.Cond.eq (.length t) (.int 3)).value args Z none Z [] = some true)
    (h0 : (Jvm.Cond.eq (.elem t (.int 0)) (.int b0)).value args Z none Z [] = some true) (h1 : (Jvm.Cond.eq (.elem t (.int 1)) (.int b1)).value args Z none Z [] = some true) (h2 : (Jvm.Cond.eq (.elem t (.int 2)) (.int b2)).value args Z none Z [] = some true) : ∃ k, Arv Z Z.heap a k .byte (3 : Int32) [.int b0, .int b1, .int b2] (.int (0 : Int32)) := by
  obtain ⟨cl, A⟩ := Arr.start ev hA
  have l := own_eqint hL
  have hs : cl.slots.size < 2 ^ 31 ∧ cl.slots.size.toInt32 = 3 := by
    have ha := A.fin (Vm.Alike.refl _)
    simp only [Term.eval, ev, Option.bind_eq_bind, Option.bind_some, ha] at l
    split at l
    · rename_i q; exact ⟨q, by simpa using l⟩
    · cases l
  have e0 := (elem_in (own_eqint h0) ev (Term.int_eval 0) A.1).2
  have e1 := (elem_in (own_eqint h1) ev (Term.int_eval 1) A.1).2
  have e2 := (elem_in (own_eqint h2) ev (Term.int_eval 2) A.1).2
  exact ⟨_, Arv.start hf A hs.1 hs.2 (by decide) rfl ⟨e0, e1, e2, trivial⟩⟩
theorem own_arv3 {Z : State} {h : Heap} {a : Addr} {k k' : ClassId} {c0 c1 c2 d0 d1 d2 : Int32} (A : Arv Z h a k .byte (3 : Int32) [.int c0, .int c1, .int c2] (.int (0 : Int32))) (B : Arv Z h a k' .byte (3 : Int32) [.int d0, .int d1, .int d2] (.int (0 : Int32))) : c0 = d0 ∧ c1 = d1 ∧ c2 = d2 := by
  obtain ⟨cl, A1, -, A3, -, A5, -⟩ := A
  obtain ⟨cl', B1, -, B3, -, B5, -⟩ := B
  cases A1.1.symm.trans B1.1
  have s3 : cl.slots.size = 3 := A3
  have q0 := (A5 0 (by omega)).symm.trans (B5 0 (by omega))
  have q1 := (A5 1 (by omega)).symm.trans (B5 1 (by omega))
  have q2 := (A5 2 (by omega)).symm.trans (B5 2 (by omega))
  simp only [List.getD_eq_getElem?_getD] at q0 q1 q2
  refine ⟨?_, ?_, ?_⟩
  · simpa using q0
  · simpa using q1
  · simpa using q2
theorem own_fldR {Z : State} {h : Heap} {a b c : Addr} {C n d : String} (F : Fld Z h a C n d (.ref b)) (G : Fld Z h a C n d (.ref c)) : b = c := Classical.byContradiction fun q => Fld.ne F G (fun z => q (Value.ref.inj z)) rfl
theorem own_i4 (x : Int32) : (x &&& (3 : Int32)) = (0 : Int32) ∨ (x &&& (3 : Int32)) = (1 : Int32) ∨ (x &&& (3 : Int32)) = (2 : Int32) ∨ (x &&& (3 : Int32)) = (3 : Int32) := by
  have h := c_and x 3 (by decide)
  rw [show (3 : Int32).toInt = 3 from rfl] at h
  simp only [← Int32.toInt_inj, show (0 : Int32).toInt = 0 from rfl, show (1 : Int32).toInt = 1 from rfl, show (2 : Int32).toInt = 2 from rfl, show (3 : Int32).toInt = 3 from rfl]
  omega

theorem d4_0 : decode jdk_43_method_13_code 0 = .ok (.aload_n 0, 1) := by decide +kernel
theorem d4_1 : decode jdk_43_method_13_code 1 = .ok (.arraylength, 1) := by decide +kernel
theorem d4_2 : decode jdk_43_method_13_code 2 = .ok (.aload_n 1, 1) := by decide +kernel
theorem d4_3 : decode jdk_43_method_13_code 3 = .ok (.arraylength, 1) := by decide +kernel
theorem d4_4 : decode jdk_43_method_13_code 4 = .ok (.if_icmp .ne 30, 3) := by decide +kernel
theorem d4_7 : decode jdk_43_method_13_code 7 = .ok (.iconst 0, 1) := by decide +kernel
theorem d4_8 : decode jdk_43_method_13_code 8 = .ok (.istore_n 2, 1) := by decide +kernel
theorem d4_9 : decode jdk_43_method_13_code 9 = .ok (.iload_n 2, 1) := by decide +kernel
theorem d4_10 : decode jdk_43_method_13_code 10 = .ok (.aload_n 0, 1) := by decide +kernel
theorem d4_11 : decode jdk_43_method_13_code 11 = .ok (.arraylength, 1) := by decide +kernel
theorem d4_12 : decode jdk_43_method_13_code 12 = .ok (.if_icmp .ge 20, 3) := by decide +kernel
theorem d4_15 : decode jdk_43_method_13_code 15 = .ok (.aload_n 0, 1) := by decide +kernel
theorem d4_16 : decode jdk_43_method_13_code 16 = .ok (.iload_n 2, 1) := by decide +kernel
theorem d4_17 : decode jdk_43_method_13_code 17 = .ok (.baload, 1) := by decide +kernel
theorem d4_18 : decode jdk_43_method_13_code 18 = .ok (.aload_n 1, 1) := by decide +kernel
theorem d4_19 : decode jdk_43_method_13_code 19 = .ok (.iload_n 2, 1) := by decide +kernel
theorem d4_20 : decode jdk_43_method_13_code 20 = .ok (.baload, 1) := by decide +kernel
theorem d4_21 : decode jdk_43_method_13_code 21 = .ok (.if_icmp .eq 5, 3) := by decide +kernel
theorem d4_24 : decode jdk_43_method_13_code 24 = .ok (.iconst 0, 1) := by decide +kernel
theorem d4_25 : decode jdk_43_method_13_code 25 = .ok (.ireturn, 1) := by decide +kernel
theorem d4_26 : decode jdk_43_method_13_code 26 = .ok (.iinc 2 1, 3) := by decide +kernel
theorem d4_29 : decode jdk_43_method_13_code 29 = .ok (.goto (-20), 3) := by decide +kernel
theorem d4_32 : decode jdk_43_method_13_code 32 = .ok (.iconst 1, 1) := by decide +kernel
theorem d4_33 : decode jdk_43_method_13_code 33 = .ok (.ireturn, 1) := by decide +kernel
theorem pn_4 : plainName "java/lang/StringLatin1" = true := by first | (simp [plainName, overriddenIn]; done) | decide +kernel
theorem ef_rmQ (m : MethodId) (a1 : Addr) (a2 : Addr) : entryFrame m #[(.ref a1), (.ref a2)] 3 = mkF m 0 #[.val (.ref a1), .val (.ref a2), .unset] [] := by first | (simp [entryFrame, mkF, argsToLocals, Value.category]; done) | rfl
def QrmQ (Z : State) (a1 : Addr) (a2 : Addr) (k : ClassId) (k' : ClassId) (c0 : Int32) (c1 : Int32) (c2 : Int32) (d0 : Int32) (d1 : Int32) (d2 : Int32) (h0 : Heap) (n0 : Nat) (v : Option Value) (h : Heap) (L : List Loc) : Prop := ∃ z : Int32, z = (if c0 = d0 ∧ c1 = d1 ∧ c2 = d2 then 1 else 0) ∧ v = some (.int z) ∧ Fr n0 L ∧ h = h0
set_option maxRecDepth 65536 in
set_option maxHeartbeats 40000000 in
theorem rmQ (l : Launch) (Z : State) (a0 : Array Value) (hw : ∀ d ∈ tables_1, d.before a0 Z = true) (ws : List Jvm.Cond) (a1 : Addr) (a2 : Addr) (k : ClassId) (k' : ClassId) (c0 : Int32) (c1 : Int32) (c2 : Int32) (d0 : Int32) (d1 : Int32) (d2 : Int32) (h0 : Heap) (n0 : Nat) (Z0 : n0 ≤ h0.size) (A : Arv Z h0 a1 k .byte (3 : Int32) [.int c0, .int c1, .int c2] (.int (0 : Int32))) (B : Arv Z h0 a2 k' .byte (3 : Int32) [.int d0, .int d1, .int d2] (.int (0 : Int32))) :
    MetFree l (⟨"java/lang/StringLatin1", "equals", "([B[B)Z"⟩ : MethodName) (head1 (Jvm.Cond.code (⟨"java/lang/StringLatin1", "equals", "([B[B)Z"⟩ : MethodName) jdk_43_method_13_code 3 (some .boolean) :: ws) ({ frames := 0, cells := 0, slots := 0, locals := 0 } : Room)) (fun a U => a = #[(.ref a1), (.ref a2)] ∧ Z.Warmed39 U.vm ∧ U.heap = h0) (fun _ _ _ _ _ => True) (fun _ U o U' => ∃ v L, o = .returned v ∧ QrmQ Z a1 a2 k k' c0 c1 c2 d0 d1 d2 h0 n0 v U'.heap L ∧ FrameEnd U o U' L ({ frames := 0, cells := 0, slots := 0, locals := 0 } : Room).cells ({ frames := 0, cells := 0, slots := 0, locals := 0 } : Room).slots) := by
  refine MetFree.of_bodySF (plainFor_of_name pn_4) hisR ?_
  intro p e s m args below meth c s₁ Bd hml0 hP hK
  obtain ⟨rfl, hZ, hh⟩ := hP
  have hx := Bd.exec
  have hby := Bd.bytes
  have hml : c.maxLocals = 3 := hml0
  have hown : s.vm.findClass "java/lang/StringLatin1" = some m.cls := findClass_of_methodNamed Bd.named
  have hnm := (name_of_methodNamed Bd.named Bd.method).1
  have X0 : Stand p l e ({ frames := 0, cells := 0, slots := 0, locals := 0 } : Room) s m #[(.ref a1), (.ref a2)] below meth c s₁ [] 0 0 := Stand.of_body Bd
  have e0 : s₁.heap = h0 := by rw [← hh, Bd.state]; rfl
  have N0 := Fr.nil n0
  have pre0 : ∀ t, Steps p.tables e below (s₁.setTop (mkF m 0 #[.val (.ref a1), .val (.ref a2), .unset] [])) t → Steps p.tables e below (s₁.setTop (entryFrame m #[(.ref a1), (.ref a2)] 3)) t := fun t k => castTop (ef_rmQ m a1 a2) k
  obtain ⟨cl1, Ar1, qk1, Sz1, Nn1, Hh1, Gg1⟩ := id (A)
  obtain ⟨cl2, Ar2, qk2, Sz2, Nn2, Hh2, Gg2⟩ := id (B)
  obtain ⟨cl3, Ar3, qk3, Sz3, Nn3, Hh3, Gg3⟩ := id (A)
  obtain ⟨cl4, Ar4, qk4, Sz4, Nn4, Hh4, Gg4⟩ := id (A)
  have hin5 : ¬ ((0 : Int32) < 0 ∨ cl4.slots.size ≤ ((0 : Int32)).toNatClampNeg) := inb_of Sz4 ⟨by decide, by decide⟩
  have hat5 : cl4.slots[((0 : Int32)).toNatClampNeg]? = some (.int c0) := Has.at Hh4 hin5 rfl
  obtain ⟨cl6, Ar6, qk6, Sz6, Nn6, Hh6, Gg6⟩ := id (B)
  have hin7 : ¬ ((0 : Int32) < 0 ∨ cl6.slots.size ≤ ((0 : Int32)).toNatClampNeg) := inb_of Sz6 ⟨by decide, by decide⟩
  have hat7 : cl6.slots[((0 : Int32)).toNatClampNeg]? = some (.int d0) := Has.at Hh6 hin7 rfl
  by_cases hc21 : c0 = d0
  · obtain ⟨cl8, Ar8, qk8, Sz8, Nn8, Hh8, Gg8⟩ := id (A)
    obtain ⟨cl9, Ar9, qk9, Sz9, Nn9, Hh9, Gg9⟩ := id (A)
    have hin10 : ¬ ((1 : Int32) < 0 ∨ cl9.slots.size ≤ ((1 : Int32)).toNatClampNeg) := inb_of Sz9 ⟨by decide, by decide⟩
    have hat10 : cl9.slots[((1 : Int32)).toNatClampNeg]? = some (.int c1) := Has.at Hh9 hin10 rfl
    obtain ⟨cl11, Ar11, qk11, Sz11, Nn11, Hh11, Gg11⟩ := id (B)
    have hin12 : ¬ ((1 : Int32) < 0 ∨ cl11.slots.size ≤ ((1 : Int32)).toNatClampNeg) := inb_of Sz11 ⟨by decide, by decide⟩
    have hat12 : cl11.slots[((1 : Int32)).toNatClampNeg]? = some (.int d1) := Has.at Hh11 hin12 rfl
    by_cases hc21_2 : c1 = d1
    · obtain ⟨cl13, Ar13, qk13, Sz13, Nn13, Hh13, Gg13⟩ := id (A)
      obtain ⟨cl14, Ar14, qk14, Sz14, Nn14, Hh14, Gg14⟩ := id (A)
      have hin15 : ¬ ((2 : Int32) < 0 ∨ cl14.slots.size ≤ ((2 : Int32)).toNatClampNeg) := inb_of Sz14 ⟨by decide, by decide⟩
      have hat15 : cl14.slots[((2 : Int32)).toNatClampNeg]? = some (.int c2) := Has.at Hh14 hin15 rfl
      obtain ⟨cl16, Ar16, qk16, Sz16, Nn16, Hh16, Gg16⟩ := id (B)
      have hin17 : ¬ ((2 : Int32) < 0 ∨ cl16.slots.size ≤ ((2 : Int32)).toNatClampNeg) := inb_of Sz16 ⟨by decide, by decide⟩
      have hat17 : cl16.slots[((2 : Int32)).toNatClampNeg]? = some (.int d2) := Has.at Hh16 hin17 rfl
      by_cases hc21_3 : c2 = d2
      · obtain ⟨cl18, Ar18, qk18, Sz18, Nn18, Hh18, Gg18⟩ := id (A)
        obtain ⟨fs, hr, hrun, hended, hW, hsame⟩ := X0.leave (v := some (.int (1 : Int32))) (fun h => by rw [Bd.returns] at h; cases h)
        refine ⟨_, _, pre0 _ ?_, hrun, hended, _, _, rfl, ?_, ⟨_, rfl⟩, hW, hsame.mono (by decide) (by decide)⟩
        · show Steps p.tables e below (s₁.setTop (mkF m 0 #[.val (.ref a1), .val (.ref a2), .unset] [])) _
          refine XS.aloadN X0.here hx rfl (hb hby d4_0) rfl rfl ?_
          show Steps p.tables e below (s₁.setTop (mkF m 1 #[.val (.ref a1), .val (.ref a2), .unset] [(.ref a1)])) _
          refine X0.arraylength hx (by rw [e0]; exact Ar1.1) (State.isArrayOf_alike hZ.alike Ar1.2.1) (g := (mkF m 1 #[.val (.ref a1), .val (.ref a2), .unset] [(.ref a1)])) rfl rfl (hb hby d4_1) _ ?_
          rw [len_of Sz1 Nn1]
          show Steps p.tables e below (s₁.setTop (mkF m 2 #[.val (.ref a1), .val (.ref a2), .unset] [(.int (3 : Int32))])) _
          refine XS.aloadN X0.here hx rfl (hb hby d4_2) rfl rfl ?_
          show Steps p.tables e below (s₁.setTop (mkF m 3 #[.val (.ref a1), .val (.ref a2), .unset] [(.ref a2), (.int (3 : Int32))])) _
          refine X0.arraylength hx (by rw [e0]; exact Ar2.1) (State.isArrayOf_alike hZ.alike Ar2.2.1) (g := (mkF m 3 #[.val (.ref a1), .val (.ref a2), .unset] [(.ref a2), (.int (3 : Int32))])) rfl rfl (hb hby d4_3) _ ?_
          rw [len_of Sz2 Nn2]
          show Steps p.tables e below (s₁.setTop (mkF m 4 #[.val (.ref a1), .val (.ref a2), .unset] [(.int (3 : Int32)), (.int (3 : Int32))])) _
          refine XS.icmpNo X0.here hx rfl (hb hby d4_4) rfl (teq (by decide)).2 ?_
          show Steps p.tables e below (s₁.setTop (mkF m 7 #[.val (.ref a1), .val (.ref a2), .unset] [])) _
          refine XS.iconst X0.here hx rfl (hb hby d4_7) ?_
          show Steps p.tables e below (s₁.setTop (mkF m 8 #[.val (.ref a1), .val (.ref a2), .unset] [(.int (0 : Int32))])) _
          refine XS.istoreN X0.here hx rfl (hb hby d4_8) rfl (l' := #[.val (.ref a1), .val (.ref a2), .val (.int (0 : Int32))]) rfl ?_
          show Steps p.tables e below (s₁.setTop (mkF m 9 #[.val (.ref a1), .val (.ref a2), .val (.int (0 : Int32))] [])) _
          refine XS.iloadN X0.here hx rfl (hb hby d4_9) rfl ?_
          show Steps p.tables e below (s₁.setTop (mkF m 10 #[.val (.ref a1), .val (.ref a2), .val (.int (0 : Int32))] [(.int (0 : Int32))])) _
          refine XS.aloadN X0.here hx rfl (hb hby d4_10) rfl rfl ?_
          show Steps p.tables e below (s₁.setTop (mkF m 11 #[.val (.ref a1), .val (.ref a2), .val (.int (0 : Int32))] [(.ref a1), (.int (0 : Int32))])) _
          refine X0.arraylength hx (by rw [e0]; exact Ar3.1) (State.isArrayOf_alike hZ.alike Ar3.2.1) (g := (mkF m 11 #[.val (.ref a1), .val (.ref a2), .val (.int (0 : Int32))] [(.ref a1), (.int (0 : Int32))])) rfl rfl (hb hby d4_11) _ ?_
          rw [len_of Sz3 Nn3]
          show Steps p.tables e below (s₁.setTop (mkF m 12 #[.val (.ref a1), .val (.ref a2), .val (.int (0 : Int32))] [(.int (3 : Int32)), (.int (0 : Int32))])) _
          refine XS.icmpNo X0.here hx rfl (hb hby d4_12) rfl (tlt (by decide)).2.1 ?_
          show Steps p.tables e below (s₁.setTop (mkF m 15 #[.val (.ref a1), .val (.ref a2), .val (.int (0 : Int32))] [])) _
          refine XS.aloadN X0.here hx rfl (hb hby d4_15) rfl rfl ?_
          show Steps p.tables e below (s₁.setTop (mkF m 16 #[.val (.ref a1), .val (.ref a2), .val (.int (0 : Int32))] [(.ref a1)])) _
          refine XS.iloadN X0.here hx rfl (hb hby d4_16) rfl ?_
          show Steps p.tables e below (s₁.setTop (mkF m 17 #[.val (.ref a1), .val (.ref a2), .val (.int (0 : Int32))] [(.int (0 : Int32)), (.ref a1)])) _
          refine X0.baloadBytes hx (j := (0 : Int32)) (v := (.int c0)) (by rw [e0]; exact Ar4.1) (State.isArrayOf_alike hZ.alike Ar4.2.1) Ar4.2.2 hin5 hat5 (g := (mkF m 17 #[.val (.ref a1), .val (.ref a2), .val (.int (0 : Int32))] [(.int (0 : Int32)), (.ref a1)])) rfl rfl (hb hby d4_17) _ ?_
          show Steps p.tables e below (s₁.setTop (mkF m 18 #[.val (.ref a1), .val (.ref a2), .val (.int (0 : Int32))] [(.int c0)])) _
          refine XS.aloadN X0.here hx rfl (hb hby d4_18) rfl rfl ?_
          show Steps p.tables e below (s₁.setTop (mkF m 19 #[.val (.ref a1), .val (.ref a2), .val (.int (0 : Int32))] [(.ref a2), (.int c0)])) _
          refine XS.iloadN X0.here hx rfl (hb hby d4_19) rfl ?_
          show Steps p.tables e below (s₁.setTop (mkF m 20 #[.val (.ref a1), .val (.ref a2), .val (.int (0 : Int32))] [(.int (0 : Int32)), (.ref a2), (.int c0)])) _
          refine X0.baloadBytes hx (j := (0 : Int32)) (v := (.int d0)) (by rw [e0]; exact Ar6.1) (State.isArrayOf_alike hZ.alike Ar6.2.1) Ar6.2.2 hin7 hat7 (g := (mkF m 20 #[.val (.ref a1), .val (.ref a2), .val (.int (0 : Int32))] [(.int (0 : Int32)), (.ref a2), (.int c0)])) rfl rfl (hb hby d4_20) _ ?_
          show Steps p.tables e below (s₁.setTop (mkF m 21 #[.val (.ref a1), .val (.ref a2), .val (.int (0 : Int32))] [(.int d0), (.int c0)])) _
          refine XS.icmpYes X0.here hx rfl (pc0 := 21) (pc' := 26) rfl (hb hby d4_21) rfl (teq hc21).1 (by decide) (by decide) ?_
          show Steps p.tables e below (s₁.setTop (mkF m 26 #[.val (.ref a1), .val (.ref a2), .val (.int (0 : Int32))] [])) _
          refine XS.iinc X0.here hx rfl (hb hby d4_26) rfl (l' := #[.val (.ref a1), .val (.ref a2), .val (.int (1 : Int32))]) rfl ?_
          show Steps p.tables e below (s₁.setTop (mkF m 29 #[.val (.ref a1), .val (.ref a2), .val (.int (1 : Int32))] [])) _
          refine XS.goto X0.here hx rfl (pc0 := 29) (pc' := 9) rfl (hb hby d4_29) (by decide) (by decide) ?_
          show Steps p.tables e below (s₁.setTop (mkF m 9 #[.val (.ref a1), .val (.ref a2), .val (.int (1 : Int32))] [])) _
          refine XS.iloadN X0.here hx rfl (hb hby d4_9) rfl ?_
          show Steps p.tables e below (s₁.setTop (mkF m 10 #[.val (.ref a1), .val (.ref a2), .val (.int (1 : Int32))] [(.int (1 : Int32))])) _
          refine XS.aloadN X0.here hx rfl (hb hby d4_10) rfl rfl ?_
          show Steps p.tables e below (s₁.setTop (mkF m 11 #[.val (.ref a1), .val (.ref a2), .val (.int (1 : Int32))] [(.ref a1), (.int (1 : Int32))])) _
          refine X0.arraylength hx (by rw [e0]; exact Ar8.1) (State.isArrayOf_alike hZ.alike Ar8.2.1) (g := (mkF m 11 #[.val (.ref a1), .val (.ref a2), .val (.int (1 : Int32))] [(.ref a1), (.int (1 : Int32))])) rfl rfl (hb hby d4_11) _ ?_
          rw [len_of Sz8 Nn8]
          show Steps p.tables e below (s₁.setTop (mkF m 12 #[.val (.ref a1), .val (.ref a2), .val (.int (1 : Int32))] [(.int (3 : Int32)), (.int (1 : Int32))])) _
          refine XS.icmpNo X0.here hx rfl (hb hby d4_12) rfl (tlt (by decide)).2.1 ?_
          show Steps p.tables e below (s₁.setTop (mkF m 15 #[.val (.ref a1), .val (.ref a2), .val (.int (1 : Int32))] [])) _
          refine XS.aloadN X0.here hx rfl (hb hby d4_15) rfl rfl ?_
          show Steps p.tables e below (s₁.setTop (mkF m 16 #[.val (.ref a1), .val (.ref a2), .val (.int (1 : Int32))] [(.ref a1)])) _
          refine XS.iloadN X0.here hx rfl (hb hby d4_16) rfl ?_
          show Steps p.tables e below (s₁.setTop (mkF m 17 #[.val (.ref a1), .val (.ref a2), .val (.int (1 : Int32))] [(.int (1 : Int32)), (.ref a1)])) _
          refine X0.baloadBytes hx (j := (1 : Int32)) (v := (.int c1)) (by rw [e0]; exact Ar9.1) (State.isArrayOf_alike hZ.alike Ar9.2.1) Ar9.2.2 hin10 hat10 (g := (mkF m 17 #[.val (.ref a1), .val (.ref a2), .val (.int (1 : Int32))] [(.int (1 : Int32)), (.ref a1)])) rfl rfl (hb hby d4_17) _ ?_
          show Steps p.tables e below (s₁.setTop (mkF m 18 #[.val (.ref a1), .val (.ref a2), .val (.int (1 : Int32))] [(.int c1)])) _
          refine XS.aloadN X0.here hx rfl (hb hby d4_18) rfl rfl ?_
          show Steps p.tables e below (s₁.setTop (mkF m 19 #[.val (.ref a1), .val (.ref a2), .val (.int (1 : Int32))] [(.ref a2), (.int c1)])) _
          refine XS.iloadN X0.here hx rfl (hb hby d4_19) rfl ?_
          show Steps p.tables e below (s₁.setTop (mkF m 20 #[.val (.ref a1), .val (.ref a2), .val (.int (1 : Int32))] [(.int (1 : Int32)), (.ref a2), (.int c1)])) _
          refine X0.baloadBytes hx (j := (1 : Int32)) (v := (.int d1)) (by rw [e0]; exact Ar11.1) (State.isArrayOf_alike hZ.alike Ar11.2.1) Ar11.2.2 hin12 hat12 (g := (mkF m 20 #[.val (.ref a1), .val (.ref a2), .val (.int (1 : Int32))] [(.int (1 : Int32)), (.ref a2), (.int c1)])) rfl rfl (hb hby d4_20) _ ?_
          show Steps p.tables e below (s₁.setTop (mkF m 21 #[.val (.ref a1), .val (.ref a2), .val (.int (1 : Int32))] [(.int d1), (.int c1)])) _
          refine XS.icmpYes X0.here hx rfl (pc0 := 21) (pc' := 26) rfl (hb hby d4_21) rfl (teq hc21_2).1 (by decide) (by decide) ?_
          show Steps p.tables e below (s₁.setTop (mkF m 26 #[.val (.ref a1), .val (.ref a2), .val (.int (1 : Int32))] [])) _
          refine XS.iinc X0.here hx rfl (hb hby d4_26) rfl (l' := #[.val (.ref a1), .val (.ref a2), .val (.int (2 : Int32))]) rfl ?_
          show Steps p.tables e below (s₁.setTop (mkF m 29 #[.val (.ref a1), .val (.ref a2), .val (.int (2 : Int32))] [])) _
          refine XS.goto X0.here hx rfl (pc0 := 29) (pc' := 9) rfl (hb hby d4_29) (by decide) (by decide) ?_
          show Steps p.tables e below (s₁.setTop (mkF m 9 #[.val (.ref a1), .val (.ref a2), .val (.int (2 : Int32))] [])) _
          refine XS.iloadN X0.here hx rfl (hb hby d4_9) rfl ?_
          show Steps p.tables e below (s₁.setTop (mkF m 10 #[.val (.ref a1), .val (.ref a2), .val (.int (2 : Int32))] [(.int (2 : Int32))])) _
          refine XS.aloadN X0.here hx rfl (hb hby d4_10) rfl rfl ?_
          show Steps p.tables e below (s₁.setTop (mkF m 11 #[.val (.ref a1), .val (.ref a2), .val (.int (2 : Int32))] [(.ref a1), (.int (2 : Int32))])) _
          refine X0.arraylength hx (by rw [e0]; exact Ar13.1) (State.isArrayOf_alike hZ.alike Ar13.2.1) (g := (mkF m 11 #[.val (.ref a1), .val (.ref a2), .val (.int (2 : Int32))] [(.ref a1), (.int (2 : Int32))])) rfl rfl (hb hby d4_11) _ ?_
          rw [len_of Sz13 Nn13]
          show Steps p.tables e below (s₁.setTop (mkF m 12 #[.val (.ref a1), .val (.ref a2), .val (.int (2 : Int32))] [(.int (3 : Int32)), (.int (2 : Int32))])) _
          refine XS.icmpNo X0.here hx rfl (hb hby d4_12) rfl (tlt (by decide)).2.1 ?_
          show Steps p.tables e below (s₁.setTop (mkF m 15 #[.val (.ref a1), .val (.ref a2), .val (.int (2 : Int32))] [])) _
          refine XS.aloadN X0.here hx rfl (hb hby d4_15) rfl rfl ?_
          show Steps p.tables e below (s₁.setTop (mkF m 16 #[.val (.ref a1), .val (.ref a2), .val (.int (2 : Int32))] [(.ref a1)])) _
          refine XS.iloadN X0.here hx rfl (hb hby d4_16) rfl ?_
          show Steps p.tables e below (s₁.setTop (mkF m 17 #[.val (.ref a1), .val (.ref a2), .val (.int (2 : Int32))] [(.int (2 : Int32)), (.ref a1)])) _
          refine X0.baloadBytes hx (j := (2 : Int32)) (v := (.int c2)) (by rw [e0]; exact Ar14.1) (State.isArrayOf_alike hZ.alike Ar14.2.1) Ar14.2.2 hin15 hat15 (g := (mkF m 17 #[.val (.ref a1), .val (.ref a2), .val (.int (2 : Int32))] [(.int (2 : Int32)), (.ref a1)])) rfl rfl (hb hby d4_17) _ ?_
          show Steps p.tables e below (s₁.setTop (mkF m 18 #[.val (.ref a1), .val (.ref a2), .val (.int (2 : Int32))] [(.int c2)])) _
          refine XS.aloadN X0.here hx rfl (hb hby d4_18) rfl rfl ?_
          show Steps p.tables e below (s₁.setTop (mkF m 19 #[.val (.ref a1), .val (.ref a2), .val (.int (2 : Int32))] [(.ref a2), (.int c2)])) _
          refine XS.iloadN X0.here hx rfl (hb hby d4_19) rfl ?_
          show Steps p.tables e below (s₁.setTop (mkF m 20 #[.val (.ref a1), .val (.ref a2), .val (.int (2 : Int32))] [(.int (2 : Int32)), (.ref a2), (.int c2)])) _
          refine X0.baloadBytes hx (j := (2 : Int32)) (v := (.int d2)) (by rw [e0]; exact Ar16.1) (State.isArrayOf_alike hZ.alike Ar16.2.1) Ar16.2.2 hin17 hat17 (g := (mkF m 20 #[.val (.ref a1), .val (.ref a2), .val (.int (2 : Int32))] [(.int (2 : Int32)), (.ref a2), (.int c2)])) rfl rfl (hb hby d4_20) _ ?_
          show Steps p.tables e below (s₁.setTop (mkF m 21 #[.val (.ref a1), .val (.ref a2), .val (.int (2 : Int32))] [(.int d2), (.int c2)])) _
          refine XS.icmpYes X0.here hx rfl (pc0 := 21) (pc' := 26) rfl (hb hby d4_21) rfl (teq hc21_3).1 (by decide) (by decide) ?_
          show Steps p.tables e below (s₁.setTop (mkF m 26 #[.val (.ref a1), .val (.ref a2), .val (.int (2 : Int32))] [])) _
          refine XS.iinc X0.here hx rfl (hb hby d4_26) rfl (l' := #[.val (.ref a1), .val (.ref a2), .val (.int (3 : Int32))]) rfl ?_
          show Steps p.tables e below (s₁.setTop (mkF m 29 #[.val (.ref a1), .val (.ref a2), .val (.int (3 : Int32))] [])) _
          refine XS.goto X0.here hx rfl (pc0 := 29) (pc' := 9) rfl (hb hby d4_29) (by decide) (by decide) ?_
          show Steps p.tables e below (s₁.setTop (mkF m 9 #[.val (.ref a1), .val (.ref a2), .val (.int (3 : Int32))] [])) _
          refine XS.iloadN X0.here hx rfl (hb hby d4_9) rfl ?_
          show Steps p.tables e below (s₁.setTop (mkF m 10 #[.val (.ref a1), .val (.ref a2), .val (.int (3 : Int32))] [(.int (3 : Int32))])) _
          refine XS.aloadN X0.here hx rfl (hb hby d4_10) rfl rfl ?_
          show Steps p.tables e below (s₁.setTop (mkF m 11 #[.val (.ref a1), .val (.ref a2), .val (.int (3 : Int32))] [(.ref a1), (.int (3 : Int32))])) _
          refine X0.arraylength hx (by rw [e0]; exact Ar18.1) (State.isArrayOf_alike hZ.alike Ar18.2.1) (g := (mkF m 11 #[.val (.ref a1), .val (.ref a2), .val (.int (3 : Int32))] [(.ref a1), (.int (3 : Int32))])) rfl rfl (hb hby d4_11) _ ?_
          rw [len_of Sz18 Nn18]
          show Steps p.tables e below (s₁.setTop (mkF m 12 #[.val (.ref a1), .val (.ref a2), .val (.int (3 : Int32))] [(.int (3 : Int32)), (.int (3 : Int32))])) _
          refine XS.icmpYes X0.here hx rfl (pc0 := 12) (pc' := 32) rfl (hb hby d4_12) rfl (flt (by decide)).2.1 (by decide) (by decide) ?_
          show Steps p.tables e below (s₁.setTop (mkF m 32 #[.val (.ref a1), .val (.ref a2), .val (.int (3 : Int32))] [])) _
          refine XS.iconst X0.here hx rfl (hb hby d4_32) ?_
          show Steps p.tables e below (s₁.setTop (mkF m 33 #[.val (.ref a1), .val (.ref a2), .val (.int (3 : Int32))] [(.int (1 : Int32))])) _
          exact retN X0 hx (t := .boolean) Bd.returns (by simp) (hb hby d4_33) hr
        · show QrmQ Z a1 a2 k k' c0 c1 c2 d0 d1 d2 h0 n0 _ s₁.heap _
          exact ⟨_, by simp [*], rfl, N0, e0⟩
      · obtain ⟨fs, hr, hrun, hended, hW, hsame⟩ := X0.leave (v := some (.int (0 : Int32))) (fun h => by rw [Bd.returns] at h; cases h)
        refine ⟨_, _, pre0 _ ?_, hrun, hended, _, _, rfl, ?_, ⟨_, rfl⟩, hW, hsame.mono (by decide) (by decide)⟩
        · show Steps p.tables e below (s₁.setTop (mkF m 0 #[.val (.ref a1), .val (.ref a2), .unset] [])) _
          refine XS.aloadN X0.here hx rfl (hb hby d4_0) rfl rfl ?_
          show Steps p.tables e below (s₁.setTop (mkF m 1 #[.val (.ref a1), .val (.ref a2), .unset] [(.ref a1)])) _
          refine X0.arraylength hx (by rw [e0]; exact Ar1.1) (State.isArrayOf_alike hZ.alike Ar1.2.1) (g := (mkF m 1 #[.val (.ref a1), .val (.ref a2), .unset] [(.ref a1)])) rfl rfl (hb hby d4_1) _ ?_
          rw [len_of Sz1 Nn1]
          show Steps p.tables e below (s₁.setTop (mkF m 2 #[.val (.ref a1), .val (.ref a2), .unset] [(.int (3 : Int32))])) _
          refine XS.aloadN X0.here hx rfl (hb hby d4_2) rfl rfl ?_
          show Steps p.tables e below (s₁.setTop (mkF m 3 #[.val (.ref a1), .val (.ref a2), .unset] [(.ref a2), (.int (3 : Int32))])) _
          refine X0.arraylength hx (by rw [e0]; exact Ar2.1) (State.isArrayOf_alike hZ.alike Ar2.2.1) (g := (mkF m 3 #[.val (.ref a1), .val (.ref a2), .unset] [(.ref a2), (.int (3 : Int32))])) rfl rfl (hb hby d4_3) _ ?_
          rw [len_of Sz2 Nn2]
          show Steps p.tables e below (s₁.setTop (mkF m 4 #[.val (.ref a1), .val (.ref a2), .unset] [(.int (3 : Int32)), (.int (3 : Int32))])) _
          refine XS.icmpNo X0.here hx rfl (hb hby d4_4) rfl (teq (by decide)).2 ?_
          show Steps p.tables e below (s₁.setTop (mkF m 7 #[.val (.ref a1), .val (.ref a2), .unset] [])) _
          refine XS.iconst X0.here hx rfl (hb hby d4_7) ?_
          show Steps p.tables e below (s₁.setTop (mkF m 8 #[.val (.ref a1), .val (.ref a2), .unset] [(.int (0 : Int32))])) _
          refine XS.istoreN X0.here hx rfl (hb hby d4_8) rfl (l' := #[.val (.ref a1), .val (.ref a2), .val (.int (0 : Int32))]) rfl ?_
          show Steps p.tables e below (s₁.setTop (mkF m 9 #[.val (.ref a1), .val (.ref a2), .val (.int (0 : Int32))] [])) _
          refine XS.iloadN X0.here hx rfl (hb hby d4_9) rfl ?_
          show Steps p.tables e below (s₁.setTop (mkF m 10 #[.val (.ref a1), .val (.ref a2), .val (.int (0 : Int32))] [(.int (0 : Int32))])) _
          refine XS.aloadN X0.here hx rfl (hb hby d4_10) rfl rfl ?_
          show Steps p.tables e below (s₁.setTop (mkF m 11 #[.val (.ref a1), .val (.ref a2), .val (.int (0 : Int32))] [(.ref a1), (.int (0 : Int32))])) _
          refine X0.arraylength hx (by rw [e0]; exact Ar3.1) (State.isArrayOf_alike hZ.alike Ar3.2.1) (g := (mkF m 11 #[.val (.ref a1), .val (.ref a2), .val (.int (0 : Int32))] [(.ref a1), (.int (0 : Int32))])) rfl rfl (hb hby d4_11) _ ?_
          rw [len_of Sz3 Nn3]
          show Steps p.tables e below (s₁.setTop (mkF m 12 #[.val (.ref a1), .val (.ref a2), .val (.int (0 : Int32))] [(.int (3 : Int32)), (.int (0 : Int32))])) _
          refine XS.icmpNo X0.here hx rfl (hb hby d4_12) rfl (tlt (by decide)).2.1 ?_
          show Steps p.tables e below (s₁.setTop (mkF m 15 #[.val (.ref a1), .val (.ref a2), .val (.int (0 : Int32))] [])) _
          refine XS.aloadN X0.here hx rfl (hb hby d4_15) rfl rfl ?_
          show Steps p.tables e below (s₁.setTop (mkF m 16 #[.val (.ref a1), .val (.ref a2), .val (.int (0 : Int32))] [(.ref a1)])) _
          refine XS.iloadN X0.here hx rfl (hb hby d4_16) rfl ?_
          show Steps p.tables e below (s₁.setTop (mkF m 17 #[.val (.ref a1), .val (.ref a2), .val (.int (0 : Int32))] [(.int (0 : Int32)), (.ref a1)])) _
          refine X0.baloadBytes hx (j := (0 : Int32)) (v := (.int c0)) (by rw [e0]; exact Ar4.1) (State.isArrayOf_alike hZ.alike Ar4.2.1) Ar4.2.2 hin5 hat5 (g := (mkF m 17 #[.val (.ref a1), .val (.ref a2), .val (.int (0 : Int32))] [(.int (0 : Int32)), (.ref a1)])) rfl rfl (hb hby d4_17) _ ?_
          show Steps p.tables e below (s₁.setTop (mkF m 18 #[.val (.ref a1), .val (.ref a2), .val (.int (0 : Int32))] [(.int c0)])) _
          refine XS.aloadN X0.here hx rfl (hb hby d4_18) rfl rfl ?_
          show Steps p.tables e below (s₁.setTop (mkF m 19 #[.val (.ref a1), .val (.ref a2), .val (.int (0 : Int32))] [(.ref a2), (.int c0)])) _
          refine XS.iloadN X0.here hx rfl (hb hby d4_19) rfl ?_
          show Steps p.tables e below (s₁.setTop (mkF m 20 #[.val (.ref a1), .val (.ref a2), .val (.int (0 : Int32))] [(.int (0 : Int32)), (.ref a2), (.int c0)])) _
          refine X0.baloadBytes hx (j := (0 : Int32)) (v := (.int d0)) (by rw [e0]; exact Ar6.1) (State.isArrayOf_alike hZ.alike Ar6.2.1) Ar6.2.2 hin7 hat7 (g := (mkF m 20 #[.val (.ref a1), .val (.ref a2), .val (.int (0 : Int32))] [(.int (0 : Int32)), (.ref a2), (.int c0)])) rfl rfl (hb hby d4_20) _ ?_
          show Steps p.tables e below (s₁.setTop (mkF m 21 #[.val (.ref a1), .val (.ref a2), .val (.int (0 : Int32))] [(.int d0), (.int c0)])) _
          refine XS.icmpYes X0.here hx rfl (pc0 := 21) (pc' := 26) rfl (hb hby d4_21) rfl (teq hc21).1 (by decide) (by decide) ?_
          show Steps p.tables e below (s₁.setTop (mkF m 26 #[.val (.ref a1), .val (.ref a2), .val (.int (0 : Int32))] [])) _
          refine XS.iinc X0.here hx rfl (hb hby d4_26) rfl (l' := #[.val (.ref a1), .val (.ref a2), .val (.int (1 : Int32))]) rfl ?_
          show Steps p.tables e below (s₁.setTop (mkF m 29 #[.val (.ref a1), .val (.ref a2), .val (.int (1 : Int32))] [])) _
          refine XS.goto X0.here hx rfl (pc0 := 29) (pc' := 9) rfl (hb hby d4_29) (by decide) (by decide) ?_
          show Steps p.tables e below (s₁.setTop (mkF m 9 #[.val (.ref a1), .val (.ref a2), .val (.int (1 : Int32))] [])) _
          refine XS.iloadN X0.here hx rfl (hb hby d4_9) rfl ?_
          show Steps p.tables e below (s₁.setTop (mkF m 10 #[.val (.ref a1), .val (.ref a2), .val (.int (1 : Int32))] [(.int (1 : Int32))])) _
          refine XS.aloadN X0.here hx rfl (hb hby d4_10) rfl rfl ?_
          show Steps p.tables e below (s₁.setTop (mkF m 11 #[.val (.ref a1), .val (.ref a2), .val (.int (1 : Int32))] [(.ref a1), (.int (1 : Int32))])) _
          refine X0.arraylength hx (by rw [e0]; exact Ar8.1) (State.isArrayOf_alike hZ.alike Ar8.2.1) (g := (mkF m 11 #[.val (.ref a1), .val (.ref a2), .val (.int (1 : Int32))] [(.ref a1), (.int (1 : Int32))])) rfl rfl (hb hby d4_11) _ ?_
          rw [len_of Sz8 Nn8]
          show Steps p.tables e below (s₁.setTop (mkF m 12 #[.val (.ref a1), .val (.ref a2), .val (.int (1 : Int32))] [(.int (3 : Int32)), (.int (1 : Int32))])) _
          refine XS.icmpNo X0.here hx rfl (hb hby d4_12) rfl (tlt (by decide)).2.1 ?_
          show Steps p.tables e below (s₁.setTop (mkF m 15 #[.val (.ref a1), .val (.ref a2), .val (.int (1 : Int32))] [])) _
          refine XS.aloadN X0.here hx rfl (hb hby d4_15) rfl rfl ?_
          show Steps p.tables e below (s₁.setTop (mkF m 16 #[.val (.ref a1), .val (.ref a2), .val (.int (1 : Int32))] [(.ref a1)])) _
          refine XS.iloadN X0.here hx rfl (hb hby d4_16) rfl ?_
          show Steps p.tables e below (s₁.setTop (mkF m 17 #[.val (.ref a1), .val (.ref a2), .val (.int (1 : Int32))] [(.int (1 : Int32)), (.ref a1)])) _
          refine X0.baloadBytes hx (j := (1 : Int32)) (v := (.int c1)) (by rw [e0]; exact Ar9.1) (State.isArrayOf_alike hZ.alike Ar9.2.1) Ar9.2.2 hin10 hat10 (g := (mkF m 17 #[.val (.ref a1), .val (.ref a2), .val (.int (1 : Int32))] [(.int (1 : Int32)), (.ref a1)])) rfl rfl (hb hby d4_17) _ ?_
          show Steps p.tables e below (s₁.setTop (mkF m 18 #[.val (.ref a1), .val (.ref a2), .val (.int (1 : Int32))] [(.int c1)])) _
          refine XS.aloadN X0.here hx rfl (hb hby d4_18) rfl rfl ?_
          show Steps p.tables e below (s₁.setTop (mkF m 19 #[.val (.ref a1), .val (.ref a2), .val (.int (1 : Int32))] [(.ref a2), (.int c1)])) _
          refine XS.iloadN X0.here hx rfl (hb hby d4_19) rfl ?_
          show Steps p.tables e below (s₁.setTop (mkF m 20 #[.val (.ref a1), .val (.ref a2), .val (.int (1 : Int32))] [(.int (1 : Int32)), (.ref a2), (.int c1)])) _
          refine X0.baloadBytes hx (j := (1 : Int32)) (v := (.int d1)) (by rw [e0]; exact Ar11.1) (State.isArrayOf_alike hZ.alike Ar11.2.1) Ar11.2.2 hin12 hat12 (g := (mkF m 20 #[.val (.ref a1), .val (.ref a2), .val (.int (1 : Int32))] [(.int (1 : Int32)), (.ref a2), (.int c1)])) rfl rfl (hb hby d4_20) _ ?_
          show Steps p.tables e below (s₁.setTop (mkF m 21 #[.val (.ref a1), .val (.ref a2), .val (.int (1 : Int32))] [(.int d1), (.int c1)])) _
          refine XS.icmpYes X0.here hx rfl (pc0 := 21) (pc' := 26) rfl (hb hby d4_21) rfl (teq hc21_2).1 (by decide) (by decide) ?_
          show Steps p.tables e below (s₁.setTop (mkF m 26 #[.val (.ref a1), .val (.ref a2), .val (.int (1 : Int32))] [])) _
          refine XS.iinc X0.here hx rfl (hb hby d4_26) rfl (l' := #[.val (.ref a1), .val (.ref a2), .val (.int (2 : Int32))]) rfl ?_
          show Steps p.tables e below (s₁.setTop (mkF m 29 #[.val (.ref a1), .val (.ref a2), .val (.int (2 : Int32))] [])) _
          refine XS.goto X0.here hx rfl (pc0 := 29) (pc' := 9) rfl (hb hby d4_29) (by decide) (by decide) ?_
          show Steps p.tables e below (s₁.setTop (mkF m 9 #[.val (.ref a1), .val (.ref a2), .val (.int (2 : Int32))] [])) _
          refine XS.iloadN X0.here hx rfl (hb hby d4_9) rfl ?_
          show Steps p.tables e below (s₁.setTop (mkF m 10 #[.val (.ref a1), .val (.ref a2), .val (.int (2 : Int32))] [(.int (2 : Int32))])) _
          refine XS.aloadN X0.here hx rfl (hb hby d4_10) rfl rfl ?_
          show Steps p.tables e below (s₁.setTop (mkF m 11 #[.val (.ref a1), .val (.ref a2), .val (.int (2 : Int32))] [(.ref a1), (.int (2 : Int32))])) _
          refine X0.arraylength hx (by rw [e0]; exact Ar13.1) (State.isArrayOf_alike hZ.alike Ar13.2.1) (g := (mkF m 11 #[.val (.ref a1), .val (.ref a2), .val (.int (2 : Int32))] [(.ref a1), (.int (2 : Int32))])) rfl rfl (hb hby d4_11) _ ?_
          rw [len_of Sz13 Nn13]
          show Steps p.tables e below (s₁.setTop (mkF m 12 #[.val (.ref a1), .val (.ref a2), .val (.int (2 : Int32))] [(.int (3 : Int32)), (.int (2 : Int32))])) _
          refine XS.icmpNo X0.here hx rfl (hb hby d4_12) rfl (tlt (by decide)).2.1 ?_
          show Steps p.tables e below (s₁.setTop (mkF m 15 #[.val (.ref a1), .val (.ref a2), .val (.int (2 : Int32))] [])) _
          refine XS.aloadN X0.here hx rfl (hb hby d4_15) rfl rfl ?_
          show Steps p.tables e below (s₁.setTop (mkF m 16 #[.val (.ref a1), .val (.ref a2), .val (.int (2 : Int32))] [(.ref a1)])) _
          refine XS.iloadN X0.here hx rfl (hb hby d4_16) rfl ?_
          show Steps p.tables e below (s₁.setTop (mkF m 17 #[.val (.ref a1), .val (.ref a2), .val (.int (2 : Int32))] [(.int (2 : Int32)), (.ref a1)])) _
          refine X0.baloadBytes hx (j := (2 : Int32)) (v := (.int c2)) (by rw [e0]; exact Ar14.1) (State.isArrayOf_alike hZ.alike Ar14.2.1) Ar14.2.2 hin15 hat15 (g := (mkF m 17 #[.val (.ref a1), .val (.ref a2), .val (.int (2 : Int32))] [(.int (2 : Int32)), (.ref a1)])) rfl rfl (hb hby d4_17) _ ?_
          show Steps p.tables e below (s₁.setTop (mkF m 18 #[.val (.ref a1), .val (.ref a2), .val (.int (2 : Int32))] [(.int c2)])) _
          refine XS.aloadN X0.here hx rfl (hb hby d4_18) rfl rfl ?_
          show Steps p.tables e below (s₁.setTop (mkF m 19 #[.val (.ref a1), .val (.ref a2), .val (.int (2 : Int32))] [(.ref a2), (.int c2)])) _
          refine XS.iloadN X0.here hx rfl (hb hby d4_19) rfl ?_
          show Steps p.tables e below (s₁.setTop (mkF m 20 #[.val (.ref a1), .val (.ref a2), .val (.int (2 : Int32))] [(.int (2 : Int32)), (.ref a2), (.int c2)])) _
          refine X0.baloadBytes hx (j := (2 : Int32)) (v := (.int d2)) (by rw [e0]; exact Ar16.1) (State.isArrayOf_alike hZ.alike Ar16.2.1) Ar16.2.2 hin17 hat17 (g := (mkF m 20 #[.val (.ref a1), .val (.ref a2), .val (.int (2 : Int32))] [(.int (2 : Int32)), (.ref a2), (.int c2)])) rfl rfl (hb hby d4_20) _ ?_
          show Steps p.tables e below (s₁.setTop (mkF m 21 #[.val (.ref a1), .val (.ref a2), .val (.int (2 : Int32))] [(.int d2), (.int c2)])) _
          refine XS.icmpNo X0.here hx rfl (hb hby d4_21) rfl (feq hc21_3).1 ?_
          show Steps p.tables e below (s₁.setTop (mkF m 24 #[.val (.ref a1), .val (.ref a2), .val (.int (2 : Int32))] [])) _
          refine XS.iconst X0.here hx rfl (hb hby d4_24) ?_
          show Steps p.tables e below (s₁.setTop (mkF m 25 #[.val (.ref a1), .val (.ref a2), .val (.int (2 : Int32))] [(.int (0 : Int32))])) _
          exact retN X0 hx (t := .boolean) Bd.returns (by simp) (hb hby d4_25) hr
        · show QrmQ Z a1 a2 k k' c0 c1 c2 d0 d1 d2 h0 n0 _ s₁.heap _
          exact ⟨_, by simp [*], rfl, N0, e0⟩
    · obtain ⟨fs, hr, hrun, hended, hW, hsame⟩ := X0.leave (v := some (.int (0 : Int32))) (fun h => by rw [Bd.returns] at h; cases h)
      refine ⟨_, _, pre0 _ ?_, hrun, hended, _, _, rfl, ?_, ⟨_, rfl⟩, hW, hsame.mono (by decide) (by decide)⟩
      · show Steps p.tables e below (s₁.setTop (mkF m 0 #[.val (.ref a1), .val (.ref a2), .unset] [])) _
        refine XS.aloadN X0.here hx rfl (hb hby d4_0) rfl rfl ?_
        show Steps p.tables e below (s₁.setTop (mkF m 1 #[.val (.ref a1), .val (.ref a2), .unset] [(.ref a1)])) _
        refine X0.arraylength hx (by rw [e0]; exact Ar1.1) (State.isArrayOf_alike hZ.alike Ar1.2.1) (g := (mkF m 1 #[.val (.ref a1), .val (.ref a2), .unset] [(.ref a1)])) rfl rfl (hb hby d4_1) _ ?_
        rw [len_of Sz1 Nn1]
        show Steps p.tables e below (s₁.setTop (mkF m 2 #[.val (.ref a1), .val (.ref a2), .unset] [(.int (3 : Int32))])) _
        refine XS.aloadN X0.here hx rfl (hb hby d4_2) rfl rfl ?_
        show Steps p.tables e below (s₁.setTop (mkF m 3 #[.val (.ref a1), .val (.ref a2), .unset] [(.ref a2), (.int (3 : Int32))])) _
        refine X0.arraylength hx (by rw [e0]; exact Ar2.1) (State.isArrayOf_alike hZ.alike Ar2.2.1) (g := (mkF m 3 #[.val (.ref a1), .val (.ref a2), .unset] [(.ref a2), (.int (3 : Int32))])) rfl rfl (hb hby d4_3) _ ?_
        rw [len_of Sz2 Nn2]
        show Steps p.tables e below (s₁.setTop (mkF m 4 #[.val (.ref a1), .val (.ref a2), .unset] [(.int (3 : Int32)), (.int (3 : Int32))])) _
        refine XS.icmpNo X0.here hx rfl (hb hby d4_4) rfl (teq (by decide)).2 ?_
        show Steps p.tables e below (s₁.setTop (mkF m 7 #[.val (.ref a1), .val (.ref a2), .unset] [])) _
        refine XS.iconst X0.here hx rfl (hb hby d4_7) ?_
        show Steps p.tables e below (s₁.setTop (mkF m 8 #[.val (.ref a1), .val (.ref a2), .unset] [(.int (0 : Int32))])) _
        refine XS.istoreN X0.here hx rfl (hb hby d4_8) rfl (l' := #[.val (.ref a1), .val (.ref a2), .val (.int (0 : Int32))]) rfl ?_
        show Steps p.tables e below (s₁.setTop (mkF m 9 #[.val (.ref a1), .val (.ref a2), .val (.int (0 : Int32))] [])) _
        refine XS.iloadN X0.here hx rfl (hb hby d4_9) rfl ?_
        show Steps p.tables e below (s₁.setTop (mkF m 10 #[.val (.ref a1), .val (.ref a2), .val (.int (0 : Int32))] [(.int (0 : Int32))])) _
        refine XS.aloadN X0.here hx rfl (hb hby d4_10) rfl rfl ?_
        show Steps p.tables e below (s₁.setTop (mkF m 11 #[.val (.ref a1), .val (.ref a2), .val (.int (0 : Int32))] [(.ref a1), (.int (0 : Int32))])) _
        refine X0.arraylength hx (by rw [e0]; exact Ar3.1) (State.isArrayOf_alike hZ.alike Ar3.2.1) (g := (mkF m 11 #[.val (.ref a1), .val (.ref a2), .val (.int (0 : Int32))] [(.ref a1), (.int (0 : Int32))])) rfl rfl (hb hby d4_11) _ ?_
        rw [len_of Sz3 Nn3]
        show Steps p.tables e below (s₁.setTop (mkF m 12 #[.val (.ref a1), .val (.ref a2), .val (.int (0 : Int32))] [(.int (3 : Int32)), (.int (0 : Int32))])) _
        refine XS.icmpNo X0.here hx rfl (hb hby d4_12) rfl (tlt (by decide)).2.1 ?_
        show Steps p.tables e below (s₁.setTop (mkF m 15 #[.val (.ref a1), .val (.ref a2), .val (.int (0 : Int32))] [])) _
        refine XS.aloadN X0.here hx rfl (hb hby d4_15) rfl rfl ?_
        show Steps p.tables e below (s₁.setTop (mkF m 16 #[.val (.ref a1), .val (.ref a2), .val (.int (0 : Int32))] [(.ref a1)])) _
        refine XS.iloadN X0.here hx rfl (hb hby d4_16) rfl ?_
        show Steps p.tables e below (s₁.setTop (mkF m 17 #[.val (.ref a1), .val (.ref a2), .val (.int (0 : Int32))] [(.int (0 : Int32)), (.ref a1)])) _
        refine X0.baloadBytes hx (j := (0 : Int32)) (v := (.int c0)) (by rw [e0]; exact Ar4.1) (State.isArrayOf_alike hZ.alike Ar4.2.1) Ar4.2.2 hin5 hat5 (g := (mkF m 17 #[.val (.ref a1), .val (.ref a2), .val (.int (0 : Int32))] [(.int (0 : Int32)), (.ref a1)])) rfl rfl (hb hby d4_17) _ ?_
        show Steps p.tables e below (s₁.setTop (mkF m 18 #[.val (.ref a1), .val (.ref a2), .val (.int (0 : Int32))] [(.int c0)])) _
        refine XS.aloadN X0.here hx rfl (hb hby d4_18) rfl rfl ?_
        show Steps p.tables e below (s₁.setTop (mkF m 19 #[.val (.ref a1), .val (.ref a2), .val (.int (0 : Int32))] [(.ref a2), (.int c0)])) _
        refine XS.iloadN X0.here hx rfl (hb hby d4_19) rfl ?_
        show Steps p.tables e below (s₁.setTop (mkF m 20 #[.val (.ref a1), .val (.ref a2), .val (.int (0 : Int32))] [(.int (0 : Int32)), (.ref a2), (.int c0)])) _
        refine X0.baloadBytes hx (j := (0 : Int32)) (v := (.int d0)) (by rw [e0]; exact Ar6.1) (State.isArrayOf_alike hZ.alike Ar6.2.1) Ar6.2.2 hin7 hat7 (g := (mkF m 20 #[.val (.ref a1), .val (.ref a2), .val (.int (0 : Int32))] [(.int (0 : Int32)), (.ref a2), (.int c0)])) rfl rfl (hb hby d4_20) _ ?_
        show Steps p.tables e below (s₁.setTop (mkF m 21 #[.val (.ref a1), .val (.ref a2), .val (.int (0 : Int32))] [(.int d0), (.int c0)])) _
        refine XS.icmpYes X0.here hx rfl (pc0 := 21) (pc' := 26) rfl (hb hby d4_21) rfl (teq hc21).1 (by decide) (by decide) ?_
        show Steps p.tables e below (s₁.setTop (mkF m 26 #[.val (.ref a1), .val (.ref a2), .val (.int (0 : Int32))] [])) _
        refine XS.iinc X0.here hx rfl (hb hby d4_26) rfl (l' := #[.val (.ref a1), .val (.ref a2), .val (.int (1 : Int32))]) rfl ?_
        show Steps p.tables e below (s₁.setTop (mkF m 29 #[.val (.ref a1), .val (.ref a2), .val (.int (1 : Int32))] [])) _
        refine XS.goto X0.here hx rfl (pc0 := 29) (pc' := 9) rfl (hb hby d4_29) (by decide) (by decide) ?_
        show Steps p.tables e below (s₁.setTop (mkF m 9 #[.val (.ref a1), .val (.ref a2), .val (.int (1 : Int32))] [])) _
        refine XS.iloadN X0.here hx rfl (hb hby d4_9) rfl ?_
        show Steps p.tables e below (s₁.setTop (mkF m 10 #[.val (.ref a1), .val (.ref a2), .val (.int (1 : Int32))] [(.int (1 : Int32))])) _
        refine XS.aloadN X0.here hx rfl (hb hby d4_10) rfl rfl ?_
        show Steps p.tables e below (s₁.setTop (mkF m 11 #[.val (.ref a1), .val (.ref a2), .val (.int (1 : Int32))] [(.ref a1), (.int (1 : Int32))])) _
        refine X0.arraylength hx (by rw [e0]; exact Ar8.1) (State.isArrayOf_alike hZ.alike Ar8.2.1) (g := (mkF m 11 #[.val (.ref a1), .val (.ref a2), .val (.int (1 : Int32))] [(.ref a1), (.int (1 : Int32))])) rfl rfl (hb hby d4_11) _ ?_
        rw [len_of Sz8 Nn8]
        show Steps p.tables e below (s₁.setTop (mkF m 12 #[.val (.ref a1), .val (.ref a2), .val (.int (1 : Int32))] [(.int (3 : Int32)), (.int (1 : Int32))])) _
        refine XS.icmpNo X0.here hx rfl (hb hby d4_12) rfl (tlt (by decide)).2.1 ?_
        show Steps p.tables e below (s₁.setTop (mkF m 15 #[.val (.ref a1), .val (.ref a2), .val (.int (1 : Int32))] [])) _
        refine XS.aloadN X0.here hx rfl (hb hby d4_15) rfl rfl ?_
        show Steps p.tables e below (s₁.setTop (mkF m 16 #[.val (.ref a1), .val (.ref a2), .val (.int (1 : Int32))] [(.ref a1)])) _
        refine XS.iloadN X0.here hx rfl (hb hby d4_16) rfl ?_
        show Steps p.tables e below (s₁.setTop (mkF m 17 #[.val (.ref a1), .val (.ref a2), .val (.int (1 : Int32))] [(.int (1 : Int32)), (.ref a1)])) _
        refine X0.baloadBytes hx (j := (1 : Int32)) (v := (.int c1)) (by rw [e0]; exact Ar9.1) (State.isArrayOf_alike hZ.alike Ar9.2.1) Ar9.2.2 hin10 hat10 (g := (mkF m 17 #[.val (.ref a1), .val (.ref a2), .val (.int (1 : Int32))] [(.int (1 : Int32)), (.ref a1)])) rfl rfl (hb hby d4_17) _ ?_
        show Steps p.tables e below (s₁.setTop (mkF m 18 #[.val (.ref a1), .val (.ref a2), .val (.int (1 : Int32))] [(.int c1)])) _
        refine XS.aloadN X0.here hx rfl (hb hby d4_18) rfl rfl ?_
        show Steps p.tables e below (s₁.setTop (mkF m 19 #[.val (.ref a1), .val (.ref a2), .val (.int (1 : Int32))] [(.ref a2), (.int c1)])) _
        refine XS.iloadN X0.here hx rfl (hb hby d4_19) rfl ?_
        show Steps p.tables e below (s₁.setTop (mkF m 20 #[.val (.ref a1), .val (.ref a2), .val (.int (1 : Int32))] [(.int (1 : Int32)), (.ref a2), (.int c1)])) _
        refine X0.baloadBytes hx (j := (1 : Int32)) (v := (.int d1)) (by rw [e0]; exact Ar11.1) (State.isArrayOf_alike hZ.alike Ar11.2.1) Ar11.2.2 hin12 hat12 (g := (mkF m 20 #[.val (.ref a1), .val (.ref a2), .val (.int (1 : Int32))] [(.int (1 : Int32)), (.ref a2), (.int c1)])) rfl rfl (hb hby d4_20) _ ?_
        show Steps p.tables e below (s₁.setTop (mkF m 21 #[.val (.ref a1), .val (.ref a2), .val (.int (1 : Int32))] [(.int d1), (.int c1)])) _
        refine XS.icmpNo X0.here hx rfl (hb hby d4_21) rfl (feq hc21_2).1 ?_
        show Steps p.tables e below (s₁.setTop (mkF m 24 #[.val (.ref a1), .val (.ref a2), .val (.int (1 : Int32))] [])) _
        refine XS.iconst X0.here hx rfl (hb hby d4_24) ?_
        show Steps p.tables e below (s₁.setTop (mkF m 25 #[.val (.ref a1), .val (.ref a2), .val (.int (1 : Int32))] [(.int (0 : Int32))])) _
        exact retN X0 hx (t := .boolean) Bd.returns (by simp) (hb hby d4_25) hr
      · show QrmQ Z a1 a2 k k' c0 c1 c2 d0 d1 d2 h0 n0 _ s₁.heap _
        exact ⟨_, by simp [*], rfl, N0, e0⟩
  · obtain ⟨fs, hr, hrun, hended, hW, hsame⟩ := X0.leave (v := some (.int (0 : Int32))) (fun h => by rw [Bd.returns] at h; cases h)
    refine ⟨_, _, pre0 _ ?_, hrun, hended, _, _, rfl, ?_, ⟨_, rfl⟩, hW, hsame.mono (by decide) (by decide)⟩
    · show Steps p.tables e below (s₁.setTop (mkF m 0 #[.val (.ref a1), .val (.ref a2), .unset] [])) _
      refine XS.aloadN X0.here hx rfl (hb hby d4_0) rfl rfl ?_
      show Steps p.tables e below (s₁.setTop (mkF m 1 #[.val (.ref a1), .val (.ref a2), .unset] [(.ref a1)])) _
      refine X0.arraylength hx (by rw [e0]; exact Ar1.1) (State.isArrayOf_alike hZ.alike Ar1.2.1) (g := (mkF m 1 #[.val (.ref a1), .val (.ref a2), .unset] [(.ref a1)])) rfl rfl (hb hby d4_1) _ ?_
      rw [len_of Sz1 Nn1]
      show Steps p.tables e below (s₁.setTop (mkF m 2 #[.val (.ref a1), .val (.ref a2), .unset] [(.int (3 : Int32))])) _
      refine XS.aloadN X0.here hx rfl (hb hby d4_2) rfl rfl ?_
      show Steps p.tables e below (s₁.setTop (mkF m 3 #[.val (.ref a1), .val (.ref a2), .unset] [(.ref a2), (.int (3 : Int32))])) _
      refine X0.arraylength hx (by rw [e0]; exact Ar2.1) (State.isArrayOf_alike hZ.alike Ar2.2.1) (g := (mkF m 3 #[.val (.ref a1), .val (.ref a2), .unset] [(.ref a2), (.int (3 : Int32))])) rfl rfl (hb hby d4_3) _ ?_
      rw [len_of Sz2 Nn2]
      show Steps p.tables e below (s₁.setTop (mkF m 4 #[.val (.ref a1), .val (.ref a2), .unset] [(.int (3 : Int32)), (.int (3 : Int32))])) _
      refine XS.icmpNo X0.here hx rfl (hb hby d4_4) rfl (teq (by decide)).2 ?_
      show Steps p.tables e below (s₁.setTop (mkF m 7 #[.val (.ref a1), .val (.ref a2), .unset] [])) _
      refine XS.iconst X0.here hx rfl (hb hby d4_7) ?_
      show Steps p.tables e below (s₁.setTop (mkF m 8 #[.val (.ref a1), .val (.ref a2), .unset] [(.int (0 : Int32))])) _
      refine XS.istoreN X0.here hx rfl (hb hby d4_8) rfl (l' := #[.val (.ref a1), .val (.ref a2), .val (.int (0 : Int32))]) rfl ?_
      show Steps p.tables e below (s₁.setTop (mkF m 9 #[.val (.ref a1), .val (.ref a2), .val (.int (0 : Int32))] [])) _
      refine XS.iloadN X0.here hx rfl (hb hby d4_9) rfl ?_
      show Steps p.tables e below (s₁.setTop (mkF m 10 #[.val (.ref a1), .val (.ref a2), .val (.int (0 : Int32))] [(.int (0 : Int32))])) _
      refine XS.aloadN X0.here hx rfl (hb hby d4_10) rfl rfl ?_
      show Steps p.tables e below (s₁.setTop (mkF m 11 #[.val (.ref a1), .val (.ref a2), .val (.int (0 : Int32))] [(.ref a1), (.int (0 : Int32))])) _
      refine X0.arraylength hx (by rw [e0]; exact Ar3.1) (State.isArrayOf_alike hZ.alike Ar3.2.1) (g := (mkF m 11 #[.val (.ref a1), .val (.ref a2), .val (.int (0 : Int32))] [(.ref a1), (.int (0 : Int32))])) rfl rfl (hb hby d4_11) _ ?_
      rw [len_of Sz3 Nn3]
      show Steps p.tables e below (s₁.setTop (mkF m 12 #[.val (.ref a1), .val (.ref a2), .val (.int (0 : Int32))] [(.int (3 : Int32)), (.int (0 : Int32))])) _
      refine XS.icmpNo X0.here hx rfl (hb hby d4_12) rfl (tlt (by decide)).2.1 ?_
      show Steps p.tables e below (s₁.setTop (mkF m 15 #[.val (.ref a1), .val (.ref a2), .val (.int (0 : Int32))] [])) _
      refine XS.aloadN X0.here hx rfl (hb hby d4_15) rfl rfl ?_
      show Steps p.tables e below (s₁.setTop (mkF m 16 #[.val (.ref a1), .val (.ref a2), .val (.int (0 : Int32))] [(.ref a1)])) _
      refine XS.iloadN X0.here hx rfl (hb hby d4_16) rfl ?_
      show Steps p.tables e below (s₁.setTop (mkF m 17 #[.val (.ref a1), .val (.ref a2), .val (.int (0 : Int32))] [(.int (0 : Int32)), (.ref a1)])) _
      refine X0.baloadBytes hx (j := (0 : Int32)) (v := (.int c0)) (by rw [e0]; exact Ar4.1) (State.isArrayOf_alike hZ.alike Ar4.2.1) Ar4.2.2 hin5 hat5 (g := (mkF m 17 #[.val (.ref a1), .val (.ref a2), .val (.int (0 : Int32))] [(.int (0 : Int32)), (.ref a1)])) rfl rfl (hb hby d4_17) _ ?_
      show Steps p.tables e below (s₁.setTop (mkF m 18 #[.val (.ref a1), .val (.ref a2), .val (.int (0 : Int32))] [(.int c0)])) _
      refine XS.aloadN X0.here hx rfl (hb hby d4_18) rfl rfl ?_
      show Steps p.tables e below (s₁.setTop (mkF m 19 #[.val (.ref a1), .val (.ref a2), .val (.int (0 : Int32))] [(.ref a2), (.int c0)])) _
      refine XS.iloadN X0.here hx rfl (hb hby d4_19) rfl ?_
      show Steps p.tables e below (s₁.setTop (mkF m 20 #[.val (.ref a1), .val (.ref a2), .val (.int (0 : Int32))] [(.int (0 : Int32)), (.ref a2), (.int c0)])) _
      refine X0.baloadBytes hx (j := (0 : Int32)) (v := (.int d0)) (by rw [e0]; exact Ar6.1) (State.isArrayOf_alike hZ.alike Ar6.2.1) Ar6.2.2 hin7 hat7 (g := (mkF m 20 #[.val (.ref a1), .val (.ref a2), .val (.int (0 : Int32))] [(.int (0 : Int32)), (.ref a2), (.int c0)])) rfl rfl (hb hby d4_20) _ ?_
      show Steps p.tables e below (s₁.setTop (mkF m 21 #[.val (.ref a1), .val (.ref a2), .val (.int (0 : Int32))] [(.int d0), (.int c0)])) _
      refine XS.icmpNo X0.here hx rfl (hb hby d4_21) rfl (feq hc21).1 ?_
      show Steps p.tables e below (s₁.setTop (mkF m 24 #[.val (.ref a1), .val (.ref a2), .val (.int (0 : Int32))] [])) _
      refine XS.iconst X0.here hx rfl (hb hby d4_24) ?_
      show Steps p.tables e below (s₁.setTop (mkF m 25 #[.val (.ref a1), .val (.ref a2), .val (.int (0 : Int32))] [(.int (0 : Int32))])) _
      exact retN X0 hx (t := .boolean) Bd.returns (by simp) (hb hby d4_25) hr
    · show QrmQ Z a1 a2 k k' c0 c1 c2 d0 d1 d2 h0 n0 _ s₁.heap _
      exact ⟨_, by simp [*], rfl, N0, e0⟩
theorem pd_0 : parseMethodDescriptor "([B[B)Z" = some ⟨[(.array .byte), (.array .byte)], some .boolean⟩ := by decide +kernel
theorem d3_0 : decode jdk_42_method_66_code 0 = .ok (.aload_n 0, 1) := by decide +kernel
theorem d3_1 : decode jdk_42_method_66_code 1 = .ok (.aload_n 1, 1) := by decide +kernel
theorem d3_2 : decode jdk_42_method_66_code 2 = .ok (.if_acmp .ne 5, 3) := by decide +kernel
theorem d3_5 : decode jdk_42_method_66_code 5 = .ok (.iconst 1, 1) := by decide +kernel
theorem d3_6 : decode jdk_42_method_66_code 6 = .ok (.ireturn, 1) := by decide +kernel
theorem d3_7 : decode jdk_42_method_66_code 7 = .ok (.aload_n 1, 1) := by decide +kernel
theorem d3_8 : decode jdk_42_method_66_code 8 = .ok (.instanceof 10, 3) := by decide +kernel
theorem d3_11 : decode jdk_42_method_66_code 11 = .ok (.ifCond .eq 43, 3) := by decide +kernel
theorem d3_14 : decode jdk_42_method_66_code 14 = .ok (.aload_n 1, 1) := by decide +kernel
theorem d3_15 : decode jdk_42_method_66_code 15 = .ok (.checkcast 10, 3) := by decide +kernel
theorem d3_18 : decode jdk_42_method_66_code 18 = .ok (.astore_n 2, 1) := by decide +kernel
theorem d3_19 : decode jdk_42_method_66_code 19 = .ok (.getstatic 38, 3) := by decide +kernel
theorem d3_22 : decode jdk_42_method_66_code 22 = .ok (.ifCond .eq 14, 3) := by decide +kernel
theorem d3_25 : decode jdk_42_method_66_code 25 = .ok (.aload_n 0, 1) := by decide +kernel
theorem d3_26 : decode jdk_42_method_66_code 26 = .ok (.getfield 15, 3) := by decide +kernel
theorem d3_29 : decode jdk_42_method_66_code 29 = .ok (.aload_n 2, 1) := by decide +kernel
theorem d3_30 : decode jdk_42_method_66_code 30 = .ok (.getfield 15, 3) := by decide +kernel
theorem d3_33 : decode jdk_42_method_66_code 33 = .ok (.if_icmp .ne 21, 3) := by decide +kernel
theorem d3_36 : decode jdk_42_method_66_code 36 = .ok (.aload_n 0, 1) := by decide +kernel
theorem d3_37 : decode jdk_42_method_66_code 37 = .ok (.getfield 9, 3) := by decide +kernel
theorem d3_40 : decode jdk_42_method_66_code 40 = .ok (.aload_n 2, 1) := by decide +kernel
theorem d3_41 : decode jdk_42_method_66_code 41 = .ok (.getfield 9, 3) := by decide +kernel
theorem d3_44 : decode jdk_42_method_66_code 44 = .ok (.invokestatic 541, 3) := by decide +kernel
theorem d3_47 : decode jdk_42_method_66_code 47 = .ok (.ifCond .eq 7, 3) := by decide +kernel
theorem d3_50 : decode jdk_42_method_66_code 50 = .ok (.iconst 1, 1) := by decide +kernel
theorem d3_51 : decode jdk_42_method_66_code 51 = .ok (.goto 4, 3) := by decide +kernel
theorem d3_54 : decode jdk_42_method_66_code 54 = .ok (.iconst 0, 1) := by decide +kernel
theorem d3_55 : decode jdk_42_method_66_code 55 = .ok (.ireturn, 1) := by decide +kernel
theorem pn_3 : plainName "java/lang/String" = true := by first | (simp [plainName, overriddenIn]; done) | decide +kernel
theorem ef_rmE (m : MethodId) (a1 : Addr) (a2 : Addr) : entryFrame m #[(.ref a1), (.ref a2)] 3 = mkF m 0 #[.val (.ref a1), .val (.ref a2), .unset] [] := by first | (simp [entryFrame, mkF, argsToLocals, Value.category]; done) | rfl
def QrmE (Z : State) (a1 : Addr) (a2 : Addr) (G1 : Int32) (v1 : Addr) (v2 : Addr) (k : ClassId) (k' : ClassId) (c0 : Int32) (c1 : Int32) (c2 : Int32) (d0 : Int32) (d1 : Int32) (d2 : Int32) (h0 : Heap) (n0 : Nat) (v : Option Value) (h : Heap) (L : List Loc) : Prop := ∃ z : Int32, z = (if c0 = d0 ∧ c1 = d1 ∧ c2 = d2 then 1 else 0) ∧ v = some (.int z) ∧ Fr n0 L ∧ h = h0
set_option maxRecDepth 65536 in
set_option maxHeartbeats 40000000 in
theorem rmE (l : Launch) (Z : State) (a0 : Array Value) (hw : ∀ d ∈ tables_1, d.before a0 Z = true) (ws : List Jvm.Cond) (a1 : Addr) (a2 : Addr) (G1 : Int32) (v1 : Addr) (v2 : Addr) (k : ClassId) (k' : ClassId) (c0 : Int32) (c1 : Int32) (c2 : Int32) (d0 : Int32) (d1 : Int32) (d2 : Int32) (h0 : Heap) (n0 : Nat) (Z0 : n0 ≤ h0.size) (S2 : Sta Z h0 "java/lang/String" "COMPACT_STRINGS" "Z" (.int G1)) (P5 : ¬ (G1 = (0 : Int32))) (E1 : Exa Z h0 a1 "java/lang/String") (E2 : Exa Z h0 a2 "java/lang/String") (V1 : Fld Z h0 a1 "java/lang/String" "value" "[B" (.ref v1)) (V2 : Fld Z h0 a2 "java/lang/String" "value" "[B" (.ref v2)) (C1 : Fld Z h0 a1 "java/lang/String" "coder" "B" (.int (0 : Int32))) (C2 : Fld Z h0 a2 "java/lang/String" "coder" "B" (.int (0 : Int32))) (A : Arv Z h0 v1 k .byte (3 : Int32) [.int c0, .int c1, .int c2] (.int (0 : Int32))) (B : Arv Z h0 v2 k' .byte (3 : Int32) [.int d0, .int d1, .int d2] (.int (0 : Int32))) :
    MetFree l (⟨"java/lang/String", "equals", "(Ljava/lang/Object;)Z"⟩ : MethodName) (head1 (Jvm.Cond.code (⟨"java/lang/String", "equals", "(Ljava/lang/Object;)Z"⟩ : MethodName) jdk_42_method_66_code 3 (some .boolean) :: ws) ({ frames := 1, cells := 0, slots := 0, locals := 14 } : Room)) (fun a U => a = #[(.ref a1), (.ref a2)] ∧ Z.Warmed39 U.vm ∧ U.heap = h0) (fun _ _ _ _ _ => True) (fun _ U o U' => ∃ v L, o = .returned v ∧ QrmE Z a1 a2 G1 v1 v2 k k' c0 c1 c2 d0 d1 d2 h0 n0 v U'.heap L ∧ FrameEnd U o U' L ({ frames := 1, cells := 0, slots := 0, locals := 14 } : Room).cells ({ frames := 1, cells := 0, slots := 0, locals := 14 } : Room).slots) := by
  refine MetFree.of_bodySF (plainFor_of_name pn_3) hisR ?_
  intro p e s m args below meth c s₁ Bd hml0 hP hK
  obtain ⟨rfl, hZ, hh⟩ := hP
  have hx := Bd.exec
  have hby := Bd.bytes
  have hml : c.maxLocals = 3 := hml0
  have hown : s.vm.findClass "java/lang/String" = some m.cls := findClass_of_methodNamed Bd.named
  have hnm := (name_of_methodNamed Bd.named Bd.method).1
  have X0 : Stand p l e ({ frames := 1, cells := 0, slots := 0, locals := 14 } : Room) s m #[(.ref a1), (.ref a2)] below meth c s₁ [] 0 0 := Stand.of_body Bd
  have e0 : s₁.heap = h0 := by rw [← hh, Bd.state]; rfl
  have N0 := Fr.nil n0
  have pre0 : ∀ t, Steps p.tables e below (s₁.setTop (mkF m 0 #[.val (.ref a1), .val (.ref a2), .unset] [])) t → Steps p.tables e below (s₁.setTop (entryFrame m #[(.ref a1), (.ref a2)] 3)) t := fun t k => castTop (ef_rmE m a1 a2) k
  by_cases hc2 : a1 = a2
  · obtain ⟨fs, hr, hrun, hended, hW, hsame⟩ := X0.leave (v := some (.int (1 : Int32))) (fun h => by rw [Bd.returns] at h; cases h)
    refine ⟨_, _, pre0 _ ?_, hrun, hended, _, _, rfl, ?_, ⟨_, rfl⟩, hW, hsame.mono (by decide) (by decide)⟩
    · show Steps p.tables e below (s₁.setTop (mkF m 0 #[.val (.ref a1), .val (.ref a2), .unset] [])) _
      refine XS.aloadN X0.here hx rfl (hb hby d3_0) rfl rfl ?_
      show Steps p.tables e below (s₁.setTop (mkF m 1 #[.val (.ref a1), .val (.ref a2), .unset] [(.ref a1)])) _
      refine XS.aloadN X0.here hx rfl (hb hby d3_1) rfl rfl ?_
      show Steps p.tables e below (s₁.setTop (mkF m 2 #[.val (.ref a1), .val (.ref a2), .unset] [(.ref a2), (.ref a1)])) _
      refine Jvm.RoadKit.acmp (g := (mkF m 2 #[.val (.ref a1), .val (.ref a2), .unset] [(.ref a2), (.ref a1)])) X0 hx rfl rfl rfl (pc0 := 2) (pc' := 5) (same := true) rfl (hb hby d3_2) rfl (decide_eq_true (congrArg Value.ref hc2)) (by decide) (by decide) ?_
      show Steps p.tables e below (s₁.setTop (mkF m 5 #[.val (.ref a1), .val (.ref a2), .unset] [])) _
      refine XS.iconst X0.here hx rfl (hb hby d3_5) ?_
      show Steps p.tables e below (s₁.setTop (mkF m 6 #[.val (.ref a1), .val (.ref a2), .unset] [(.int (1 : Int32))])) _
      exact retN X0 hx (t := .boolean) Bd.returns (by simp) (hb hby d3_6) hr
    · show QrmE Z a1 a2 G1 v1 v2 k k' c0 c1 c2 d0 d1 d2 h0 n0 _ s₁.heap _
      subst hc2
      have q := own_fldR V1 V2
      subst q
      exact ⟨_, by rw [if_pos (own_arv3 A B)], rfl, N0, e0⟩
  · obtain ⟨T1, X1, e1, st1⟩ := instY X0 hx hZ hown (hw _ (List.mem_of_getElem? (i := 38) rfl)) e0 (Ins.self E2) (g := (mkF m 8 #[.val (.ref a1), .val (.ref a2), .unset] [(.ref a2)])) rfl rfl (hb hby d3_8)
    obtain ⟨T2, X2, e2, st2⟩ := castY X1 hx hZ hown (hw _ (List.mem_of_getElem? (i := 38) rfl)) e1 (Ins.self E2) (g := (mkF m 15 #[.val (.ref a1), .val (.ref a2), .unset] [(.ref a2)])) rfl rfl (hb hby d3_15)
    obtain ⟨T3, X3, e3, st3⟩ := getS2 X2 hx hZ hown (host := "") (Or.inl (hw _ (List.mem_of_getElem? (i := 40) rfl))) Via.refl e2 S2 (g := (mkF m 19 #[.val (.ref a1), .val (.ref a2), .val (.ref a2)] [])) rfl (hb hby d3_19)
    obtain ⟨T4, X4, e4, st4⟩ := getF X3 hx hZ hown (host := "") (Or.inl (hw _ (List.mem_of_getElem? (i := 41) rfl))) Via.refl e3 C1 (g := (mkF m 26 #[.val (.ref a1), .val (.ref a2), .val (.ref a2)] [(.ref a1)])) rfl rfl (hb hby d3_26)
    obtain ⟨T5, X5, e5, st5⟩ := getF X4 hx hZ hown (host := "") (Or.inl (hw _ (List.mem_of_getElem? (i := 41) rfl))) Via.refl e4 C2 (g := (mkF m 30 #[.val (.ref a1), .val (.ref a2), .val (.ref a2)] [(.ref a2), (.int (0 : Int32))])) rfl rfl (hb hby d3_30)
    obtain ⟨T6, X6, e6, st6⟩ := getF X5 hx hZ hown (host := "") (Or.inl (hw _ (List.mem_of_getElem? (i := 42) rfl))) Via.refl e5 V1 (g := (mkF m 37 #[.val (.ref a1), .val (.ref a2), .val (.ref a2)] [(.ref a1)])) rfl rfl (hb hby d3_37)
    obtain ⟨T7, X7, e7, st7⟩ := getF X6 hx hZ hown (host := "") (Or.inl (hw _ (List.mem_of_getElem? (i := 42) rfl))) Via.refl e6 V2 (g := (mkF m 41 #[.val (.ref a1), .val (.ref a2), .val (.ref a2)] [(.ref a2), (.ref v1)])) rfl rfl (hb hby d3_41)
    obtain ⟨_, _, ⟨T8, Lq8, kq8, nq8⟩, -, X8, ⟨Lc8, hQ8, lq8, yq8, zq8⟩, st8⟩ := Jvm.LawKit.callS X7 hx (y := (⟨"java/lang/StringLatin1", "equals", "([B[B)Z"⟩ : MethodName)) hown (mvT hZ (hw _ (List.mem_of_getElem? (i := 43) rfl))) (mvT hZ (hw _ (List.mem_of_getElem? (i := 44) rfl))) (mvT hZ (hw _ (List.mem_of_getElem? (i := 45) rfl))) (mvT hZ (hw _ (List.mem_of_getElem? (i := 46) rfl))) (by decide) (backOf (W := 0) (rmQ l Z a0 hw [] v1 v2 k k' c0 c1 c2 d0 d1 d2 h0 n0 Z0 A B) hZ (hw _ (List.mem_of_getElem? (i := 46) rfl)) (hw _ (List.mem_of_getElem? (i := 45) rfl)) (by decide) (by decide)) (g := (mkF m 44 #[.val (.ref a1), .val (.ref a2), .val (.ref a2)] [(.ref v2), (.ref v1)])) rfl (by rw [hml]; rfl) (argsL := [(.ref v1), (.ref v2)]) (rest := []) (lenOf pd_0 rfl) rfl (by show 2 * 0 + _ ≤ _; exact Nat.le_of_eq rfl) (hb hby d3_44) (fun _ _ => ⟨rfl, e7, (by decide : 0 + 0 ≤ _), (by decide : 0 + 0 ≤ _)⟩)
    dsimp only [Pt.U, Pt.locs, Pt.cells, Pt.slots] at X8 lq8 yq8 zq8 st8 hQ8
    subst lq8 yq8 zq8
    obtain ⟨r8, hr8, rfl, N8q, e8⟩ := hQ8
    have N8 := Fr.app N0 N8q
    by_cases hc47 : r8 = (0 : Int32)
    · obtain ⟨fs, hr, hrun, hended, hW, hsame⟩ := X8.leave (v := some (.int (0 : Int32))) (fun h => by rw [Bd.returns] at h; cases h)
      refine ⟨_, _, pre0 _ ?_, hrun, hended, _, _, rfl, ?_, ⟨_, rfl⟩, hW, hsame.mono (by decide) (by decide)⟩
      · show Steps p.tables e below (s₁.setTop (mkF m 0 #[.val (.ref a1), .val (.ref a2), .unset] [])) _
        refine XS.aloadN X0.here hx rfl (hb hby d3_0) rfl rfl ?_
        show Steps p.tables e below (s₁.setTop (mkF m 1 #[.val (.ref a1), .val (.ref a2), .unset] [(.ref a1)])) _
        refine XS.aloadN X0.here hx rfl (hb hby d3_1) rfl rfl ?_
        show Steps p.tables e below (s₁.setTop (mkF m 2 #[.val (.ref a1), .val (.ref a2), .unset] [(.ref a2), (.ref a1)])) _
        refine Jvm.RoadKit.acmp (g := (mkF m 2 #[.val (.ref a1), .val (.ref a2), .unset] [(.ref a2), (.ref a1)])) X0 hx rfl rfl rfl (pc0 := 2) (pc' := 7) (same := false) rfl (hb hby d3_2) rfl (decide_eq_false fun q => hc2 (Value.ref.inj q)) (by decide) (by decide) ?_
        show Steps p.tables e below (s₁.setTop (mkF m 7 #[.val (.ref a1), .val (.ref a2), .unset] [])) _
        refine XS.aloadN X0.here hx rfl (hb hby d3_7) rfl rfl ?_
        show Steps p.tables e below (s₁.setTop (mkF m 8 #[.val (.ref a1), .val (.ref a2), .unset] [(.ref a2)])) _
        refine st1 _ ?_
        show Steps p.tables e below (T1.setTop (mkF m 11 #[.val (.ref a1), .val (.ref a2), .unset] [(.int (1 : Int32))])) _
        refine XS.ifNo X1.here hx rfl (hb hby d3_11) rfl ((if0 _ _).trans (feq (by decide)).1) ?_
        show Steps p.tables e below (T1.setTop (mkF m 14 #[.val (.ref a1), .val (.ref a2), .unset] [])) _
        refine XS.aloadN X1.here hx rfl (hb hby d3_14) rfl rfl ?_
        show Steps p.tables e below (T1.setTop (mkF m 15 #[.val (.ref a1), .val (.ref a2), .unset] [(.ref a2)])) _
        refine st2 _ ?_
        show Steps p.tables e below (T2.setTop (mkF m 18 #[.val (.ref a1), .val (.ref a2), .unset] [(.ref a2)])) _
        refine XS.astoreN X2.here hx rfl (hb hby d3_18) rfl rfl (l' := #[.val (.ref a1), .val (.ref a2), .val (.ref a2)]) rfl ?_
        show Steps p.tables e below (T2.setTop (mkF m 19 #[.val (.ref a1), .val (.ref a2), .val (.ref a2)] [])) _
        refine st3 _ ?_
        show Steps p.tables e below (T3.setTop (mkF m 22 #[.val (.ref a1), .val (.ref a2), .val (.ref a2)] [(.int G1)])) _
        refine XS.ifNo X3.here hx rfl (hb hby d3_22) rfl ((if0 _ _).trans (feq P5).1) ?_
        show Steps p.tables e below (T3.setTop (mkF m 25 #[.val (.ref a1), .val (.ref a2), .val (.ref a2)] [])) _
        refine XS.aloadN X3.here hx rfl (hb hby d3_25) rfl rfl ?_
        show Steps p.tables e below (T3.setTop (mkF m 26 #[.val (.ref a1), .val (.ref a2), .val (.ref a2)] [(.ref a1)])) _
        refine st4 _ ?_
        show Steps p.tables e below (T4.setTop (mkF m 29 #[.val (.ref a1), .val (.ref a2), .val (.ref a2)] [(.int (0 : Int32))])) _
        refine XS.aloadN X4.here hx rfl (hb hby d3_29) rfl rfl ?_
        show Steps p.tables e below (T4.setTop (mkF m 30 #[.val (.ref a1), .val (.ref a2), .val (.ref a2)] [(.ref a2), (.int (0 : Int32))])) _
        refine st5 _ ?_
        show Steps p.tables e below (T5.setTop (mkF m 33 #[.val (.ref a1), .val (.ref a2), .val (.ref a2)] [(.int (0 : Int32)), (.int (0 : Int32))])) _
        refine XS.icmpNo X5.here hx rfl (hb hby d3_33) rfl (teq (by decide)).2 ?_
        show Steps p.tables e below (T5.setTop (mkF m 36 #[.val (.ref a1), .val (.ref a2), .val (.ref a2)] [])) _
        refine XS.aloadN X5.here hx rfl (hb hby d3_36) rfl rfl ?_
        show Steps p.tables e below (T5.setTop (mkF m 37 #[.val (.ref a1), .val (.ref a2), .val (.ref a2)] [(.ref a1)])) _
        refine st6 _ ?_
        show Steps p.tables e below (T6.setTop (mkF m 40 #[.val (.ref a1), .val (.ref a2), .val (.ref a2)] [(.ref v1)])) _
        refine XS.aloadN X6.here hx rfl (hb hby d3_40) rfl rfl ?_
        show Steps p.tables e below (T6.setTop (mkF m 41 #[.val (.ref a1), .val (.ref a2), .val (.ref a2)] [(.ref a2), (.ref v1)])) _
        refine st7 _ ?_
        show Steps p.tables e below (T7.setTop (mkF m 44 #[.val (.ref a1), .val (.ref a2), .val (.ref a2)] [(.ref v2), (.ref v1)])) _
        refine st8 _ ?_
        show Steps p.tables e below (T8.setTop (mkF m 47 #[.val (.ref a1), .val (.ref a2), .val (.ref a2)] [(.int r8)])) _
        refine XS.ifYes X8.here hx rfl (pc0 := 47) (pc' := 54) rfl (hb hby d3_47) rfl ((if0 _ _).trans (teq hc47).1) (by decide) (by decide) ?_
        show Steps p.tables e below (T8.setTop (mkF m 54 #[.val (.ref a1), .val (.ref a2), .val (.ref a2)] [])) _
        refine XS.iconst X8.here hx rfl (hb hby d3_54) ?_
        show Steps p.tables e below (T8.setTop (mkF m 55 #[.val (.ref a1), .val (.ref a2), .val (.ref a2)] [(.int (0 : Int32))])) _
        exact retN X8 hx (t := .boolean) Bd.returns (by simp) (hb hby d3_55) hr
      · show QrmE Z a1 a2 G1 v1 v2 k k' c0 c1 c2 d0 d1 d2 h0 n0 _ T8.heap _
        exact ⟨_, by first | (rw [hr8] at hc47; split at hc47 <;> simp_all) | simp_all, rfl, N8, e8⟩
    · obtain ⟨fs, hr, hrun, hended, hW, hsame⟩ := X8.leave (v := some (.int (1 : Int32))) (fun h => by rw [Bd.returns] at h; cases h)
      refine ⟨_, _, pre0 _ ?_, hrun, hended, _, _, rfl, ?_, ⟨_, rfl⟩, hW, hsame.mono (by decide) (by decide)⟩
      · show Steps p.tables e below (s₁.setTop (mkF m 0 #[.val (.ref a1), .val (.ref a2), .unset] [])) _
        refine XS.aloadN X0.here hx rfl (hb hby d3_0) rfl rfl ?_
        show Steps p.tables e below (s₁.setTop (mkF m 1 #[.val (.ref a1), .val (.ref a2), .unset] [(.ref a1)])) _
        refine XS.aloadN X0.here hx rfl (hb hby d3_1) rfl rfl ?_
        show Steps p.tables e below (s₁.setTop (mkF m 2 #[.val (.ref a1), .val (.ref a2), .unset] [(.ref a2), (.ref a1)])) _
        refine Jvm.RoadKit.acmp (g := (mkF m 2 #[.val (.ref a1), .val (.ref a2), .unset] [(.ref a2), (.ref a1)])) X0 hx rfl rfl rfl (pc0 := 2) (pc' := 7) (same := false) rfl (hb hby d3_2) rfl (decide_eq_false fun q => hc2 (Value.ref.inj q)) (by decide) (by decide) ?_
        show Steps p.tables e below (s₁.setTop (mkF m 7 #[.val (.ref a1), .val (.ref a2), .unset] [])) _
        refine XS.aloadN X0.here hx rfl (hb hby d3_7) rfl rfl ?_
        show Steps p.tables e below (s₁.setTop (mkF m 8 #[.val (.ref a1), .val (.ref a2), .unset] [(.ref a2)])) _
        refine st1 _ ?_
        show Steps p.tables e below (T1.setTop (mkF m 11 #[.val (.ref a1), .val (.ref a2), .unset] [(.int (1 : Int32))])) _
        refine XS.ifNo X1.here hx rfl (hb hby d3_11) rfl ((if0 _ _).trans (feq (by decide)).1) ?_
        show Steps p.tables e below (T1.setTop (mkF m 14 #[.val (.ref a1), .val (.ref a2), .unset] [])) _
        refine XS.aloadN X1.here hx rfl (hb hby d3_14) rfl rfl ?_
        show Steps p.tables e below (T1.setTop (mkF m 15 #[.val (.ref a1), .val (.ref a2), .unset] [(.ref a2)])) _
        refine st2 _ ?_
        show Steps p.tables e below (T2.setTop (mkF m 18 #[.val (.ref a1), .val (.ref a2), .unset] [(.ref a2)])) _
        refine XS.astoreN X2.here hx rfl (hb hby d3_18) rfl rfl (l' := #[.val (.ref a1), .val (.ref a2), .val (.ref a2)]) rfl ?_
        show Steps p.tables e below (T2.setTop (mkF m 19 #[.val (.ref a1), .val (.ref a2), .val (.ref a2)] [])) _
        refine st3 _ ?_
        show Steps p.tables e below (T3.setTop (mkF m 22 #[.val (.ref a1), .val (.ref a2), .val (.ref a2)] [(.int G1)])) _
        refine XS.ifNo X3.here hx rfl (hb hby d3_22) rfl ((if0 _ _).trans (feq P5).1) ?_
        show Steps p.tables e below (T3.setTop (mkF m 25 #[.val (.ref a1), .val (.ref a2), .val (.ref a2)] [])) _
        refine XS.aloadN X3.here hx rfl (hb hby d3_25) rfl rfl ?_
        show Steps p.tables e below (T3.setTop (mkF m 26 #[.val (.ref a1), .val (.ref a2), .val (.ref a2)] [(.ref a1)])) _
        refine st4 _ ?_
        show Steps p.tables e below (T4.setTop (mkF m 29 #[.val (.ref a1), .val (.ref a2), .val (.ref a2)] [(.int (0 : Int32))])) _
        refine XS.aloadN X4.here hx rfl (hb hby d3_29) rfl rfl ?_
        show Steps p.tables e below (T4.setTop (mkF m 30 #[.val (.ref a1), .val (.ref a2), .val (.ref a2)] [(.ref a2), (.int (0 : Int32))])) _
        refine st5 _ ?_
        show Steps p.tables e below (T5.setTop (mkF m 33 #[.val (.ref a1), .val (.ref a2), .val (.ref a2)] [(.int (0 : Int32)), (.int (0 : Int32))])) _
        refine XS.icmpNo X5.here hx rfl (hb hby d3_33) rfl (teq (by decide)).2 ?_
        show Steps p.tables e below (T5.setTop (mkF m 36 #[.val (.ref a1), .val (.ref a2), .val (.ref a2)] [])) _
        refine XS.aloadN X5.here hx rfl (hb hby d3_36) rfl rfl ?_
        show Steps p.tables e below (T5.setTop (mkF m 37 #[.val (.ref a1), .val (.ref a2), .val (.ref a2)] [(.ref a1)])) _
        refine st6 _ ?_
        show Steps p.tables e below (T6.setTop (mkF m 40 #[.val (.ref a1), .val (.ref a2), .val (.ref a2)] [(.ref v1)])) _
        refine XS.aloadN X6.here hx rfl (hb hby d3_40) rfl rfl ?_
        show Steps p.tables e below (T6.setTop (mkF m 41 #[.val (.ref a1), .val (.ref a2), .val (.ref a2)] [(.ref a2), (.ref v1)])) _
        refine st7 _ ?_
        show Steps p.tables e below (T7.setTop (mkF m 44 #[.val (.ref a1), .val (.ref a2), .val (.ref a2)] [(.ref v2), (.ref v1)])) _
        refine st8 _ ?_
        show Steps p.tables e below (T8.setTop (mkF m 47 #[.val (.ref a1), .val (.ref a2), .val (.ref a2)] [(.int r8)])) _
        refine XS.ifNo X8.here hx rfl (hb hby d3_47) rfl ((if0 _ _).trans (feq hc47).1) ?_
        show Steps p.tables e below (T8.setTop (mkF m 50 #[.val (.ref a1), .val (.ref a2), .val (.ref a2)] [])) _
        refine XS.iconst X8.here hx rfl (hb hby d3_50) ?_
        show Steps p.tables e below (T8.setTop (mkF m 51 #[.val (.ref a1), .val (.ref a2), .val (.ref a2)] [(.int (1 : Int32))])) _
        refine XS.goto X8.here hx rfl (pc0 := 51) (pc' := 55) rfl (hb hby d3_51) (by decide) (by decide) ?_
        show Steps p.tables e below (T8.setTop (mkF m 55 #[.val (.ref a1), .val (.ref a2), .val (.ref a2)] [(.int (1 : Int32))])) _
        exact retN X8 hx (t := .boolean) Bd.returns (by simp) (hb hby d3_55) hr
      · show QrmE Z a1 a2 G1 v1 v2 k k' c0 c1 c2 d0 d1 d2 h0 n0 _ T8.heap _
        exact ⟨_, by first | (rw [hr8] at hc47; split at hc47 <;> simp_all) | simp_all, rfl, N8, e8⟩
theorem d1_0 : decode prog_21_method_5_code 0 = .ok (.aload_n 0, 1) := by decide +kernel
theorem d1_1 : decode prog_21_method_5_code 1 = .ok (.getstatic 3, 3) := by decide +kernel
theorem d1_4 : decode prog_21_method_5_code 4 = .ok (.if_acmp .eq 10, 3) := by decide +kernel
theorem d1_7 : decode prog_21_method_5_code 7 = .ok (.aload_n 0, 1) := by decide +kernel
theorem d1_8 : decode prog_21_method_5_code 8 = .ok (.getstatic 7, 3) := by decide +kernel
theorem d1_11 : decode prog_21_method_5_code 11 = .ok (.if_acmp .ne 7, 3) := by decide +kernel
theorem d1_14 : decode prog_21_method_5_code 14 = .ok (.iconst 1, 1) := by decide +kernel
theorem d1_15 : decode prog_21_method_5_code 15 = .ok (.goto 4, 3) := by decide +kernel
theorem d1_18 : decode prog_21_method_5_code 18 = .ok (.iconst 0, 1) := by decide +kernel
theorem d1_19 : decode prog_21_method_5_code 19 = .ok (.ireturn, 1) := by decide +kernel
theorem pn_1 : plainName "com/example/wrasse/wrasse/model/Edit$Kind" = true := by first | (simp [plainName, overriddenIn]; done) | decide +kernel
theorem ef_rmM (m : MethodId) (a1 : Addr) : entryFrame m #[(.ref a1)] 1 = mkF m 0 #[.val (.ref a1)] [] := by first | (simp [entryFrame, mkF, argsToLocals, Value.category]; done) | rfl
def QrmM (Z : State) (a1 : Addr) (w0 : Addr) (w1 : Addr) (h0 : Heap) (n0 : Nat) (v : Option Value) (h : Heap) (L : List Loc) : Prop := ∃ z : Int32, z = (if a1 = w0 then 1 else if a1 = w1 then 1 else 0) ∧ v = some (.int z) ∧ Fr n0 L ∧ h = h0
set_option maxRecDepth 65536 in
set_option maxHeartbeats 40000000 in
theorem rmM (l : Launch) (Z : State) (a0 : Array Value) (hw : ∀ d ∈ tables_1, d.before a0 Z = true) (ws : List Jvm.Cond) (a1 : Addr) (w0 : Addr) (w1 : Addr) (h0 : Heap) (n0 : Nat) (Z0 : n0 ≤ h0.size) (S0 : Sta Z h0 "com/example/wrasse/wrasse/model/Edit$Kind" "DELETION" "Lcom/example/wrasse/wrasse/model/Edit$Kind;" (.ref w0)) (S1 : Sta Z h0 "com/example/wrasse/wrasse/model/Edit$Kind" "INSERTION" "Lcom/example/wrasse/wrasse/model/Edit$Kind;" (.ref w1)) :
    MetFree l (⟨"com/example/wrasse/wrasse/model/Edit$Kind", "mayStartWord", "()Z"⟩ : MethodName) (head1 (Jvm.Cond.code (⟨"com/example/wrasse/wrasse/model/Edit$Kind", "mayStartWord", "()Z"⟩ : MethodName) prog_21_method_5_code 1 (some .boolean) :: ws) ({ frames := 0, cells := 0, slots := 0, locals := 0 } : Room)) (fun a U => a = #[(.ref a1)] ∧ Z.Warmed39 U.vm ∧ U.heap = h0) (fun _ _ _ _ _ => True) (fun _ U o U' => ∃ v L, o = .returned v ∧ QrmM Z a1 w0 w1 h0 n0 v U'.heap L ∧ FrameEnd U o U' L ({ frames := 0, cells := 0, slots := 0, locals := 0 } : Room).cells ({ frames := 0, cells := 0, slots := 0, locals := 0 } : Room).slots) := by
  refine MetFree.of_bodySF (plainFor_of_name pn_1) hisR ?_
  intro p e s m args below meth c s₁ Bd hml0 hP hK
  obtain ⟨rfl, hZ, hh⟩ := hP
  have hx := Bd.exec
  have hby := Bd.bytes
  have hml : c.maxLocals = 1 := hml0
  have hown : s.vm.findClass "com/example/wrasse/wrasse/model/Edit$Kind" = some m.cls := findClass_of_methodNamed Bd.named
  have hnm := (name_of_methodNamed Bd.named Bd.method).1
  have X0 : Stand p l e ({ frames := 0, cells := 0, slots := 0, locals := 0 } : Room) s m #[(.ref a1)] below meth c s₁ [] 0 0 := Stand.of_body Bd
  have e0 : s₁.heap = h0 := by rw [← hh, Bd.state]; rfl
  have N0 := Fr.nil n0
  have pre0 : ∀ t, Steps p.tables e below (s₁.setTop (mkF m 0 #[.val (.ref a1)] [])) t → Steps p.tables e below (s₁.setTop (entryFrame m #[(.ref a1)] 1)) t := fun t k => castTop (ef_rmM m a1) k
  obtain ⟨T1, X1, e1, st1⟩ := getS2 X0 hx hZ hown (host := "") (Or.inl (hw _ (List.mem_of_getElem? (i := 17) rfl))) Via.refl e0 S0 (g := (mkF m 1 #[.val (.ref a1)] [(.ref a1)])) rfl (hb hby d1_1)
  by_cases hc4 : a1 = w0
  · obtain ⟨fs, hr, hrun, hended, hW, hsame⟩ := X1.leave (v := some (.int (1 : Int32))) (fun h => by rw [Bd.returns] at h; cases h)
    refine ⟨_, _, pre0 _ ?_, hrun, hended, _, _, rfl, ?_, ⟨_, rfl⟩, hW, hsame.mono (by decide) (by decide)⟩
    · show Steps p.tables e below (s₁.setTop (mkF m 0 #[.val (.ref a1)] [])) _
      refine XS.aloadN X0.here hx rfl (hb hby d1_0) rfl rfl ?_
      show Steps p.tables e below (s₁.setTop (mkF m 1 #[.val (.ref a1)] [(.ref a1)])) _
      refine st1 _ ?_
      show Steps p.tables e below (T1.setTop (mkF m 4 #[.val (.ref a1)] [(.ref w0), (.ref a1)])) _
      refine Jvm.RoadKit.acmp (g := (mkF m 4 #[.val (.ref a1)] [(.ref w0), (.ref a1)])) X1 hx rfl rfl rfl (pc0 := 4) (pc' := 14) (same := true) rfl (hb hby d1_4) rfl (decide_eq_true (congrArg Value.ref hc4)) (by decide) (by decide) ?_
      show Steps p.tables e below (T1.setTop (mkF m 14 #[.val (.ref a1)] [])) _
      refine XS.iconst X1.here hx rfl (hb hby d1_14) ?_
      show Steps p.tables e below (T1.setTop (mkF m 15 #[.val (.ref a1)] [(.int (1 : Int32))])) _
      refine XS.goto X1.here hx rfl (pc0 := 15) (pc' := 19) rfl (hb hby d1_15) (by decide) (by decide) ?_
      show Steps p.tables e below (T1.setTop (mkF m 19 #[.val (.ref a1)] [(.int (1 : Int32))])) _
      exact retN X1 hx (t := .boolean) Bd.returns (by simp) (hb hby d1_19) hr
    · show QrmM Z a1 w0 w1 h0 n0 _ T1.heap _
      exact ⟨_, by simp [*], rfl, N0, e1⟩
  · obtain ⟨T2, X2, e2, st2⟩ := getS2 X1 hx hZ hown (host := "") (Or.inl (hw _ (List.mem_of_getElem? (i := 47) rfl))) Via.refl e1 S1 (g := (mkF m 8 #[.val (.ref a1)] [(.ref a1)])) rfl (hb hby d1_8)
    by_cases hc11 : a1 = w1
    · obtain ⟨fs, hr, hrun, hended, hW, hsame⟩ := X2.leave (v := some (.int (1 : Int32))) (fun h => by rw [Bd.returns] at h; cases h)
      refine ⟨_, _, pre0 _ ?_, hrun, hended, _, _, rfl, ?_, ⟨_, rfl⟩, hW, hsame.mono (by decide) (by decide)⟩
      · show Steps p.tables e below (s₁.setTop (mkF m 0 #[.val (.ref a1)] [])) _
        refine XS.aloadN X0.here hx rfl (hb hby d1_0) rfl rfl ?_
        show Steps p.tables e below (s₁.setTop (mkF m 1 #[.val (.ref a1)] [(.ref a1)])) _
        refine st1 _ ?_
        show Steps p.tables e below (T1.setTop (mkF m 4 #[.val (.ref a1)] [(.ref w0), (.ref a1)])) _
        refine Jvm.RoadKit.acmp (g := (mkF m 4 #[.val (.ref a1)] [(.ref w0), (.ref a1)])) X1 hx rfl rfl rfl (pc0 := 4) (pc' := 7) (same := false) rfl (hb hby d1_4) rfl (decide_eq_false fun q => hc4 (Value.ref.inj q)) (by decide) (by decide) ?_
        show Steps p.tables e below (T1.setTop (mkF m 7 #[.val (.ref a1)] [])) _
        refine XS.aloadN X1.here hx rfl (hb hby d1_7) rfl rfl ?_
        show Steps p.tables e below (T1.setTop (mkF m 8 #[.val (.ref a1)] [(.ref a1)])) _
        refine st2 _ ?_
        show Steps p.tables e below (T2.setTop (mkF m 11 #[.val (.ref a1)] [(.ref w1), (.ref a1)])) _
        refine Jvm.RoadKit.acmp (g := (mkF m 11 #[.val (.ref a1)] [(.ref w1), (.ref a1)])) X2 hx rfl rfl rfl (pc0 := 11) (pc' := 14) (same := true) rfl (hb hby d1_11) rfl (decide_eq_true (congrArg Value.ref hc11)) (by decide) (by decide) ?_
        show Steps p.tables e below (T2.setTop (mkF m 14 #[.val (.ref a1)] [])) _
        refine XS.iconst X2.here hx rfl (hb hby d1_14) ?_
        show Steps p.tables e below (T2.setTop (mkF m 15 #[.val (.ref a1)] [(.int (1 : Int32))])) _
        refine XS.goto X2.here hx rfl (pc0 := 15) (pc' := 19) rfl (hb hby d1_15) (by decide) (by decide) ?_
        show Steps p.tables e below (T2.setTop (mkF m 19 #[.val (.ref a1)] [(.int (1 : Int32))])) _
        exact retN X2 hx (t := .boolean) Bd.returns (by simp) (hb hby d1_19) hr
      · show QrmM Z a1 w0 w1 h0 n0 _ T2.heap _
        exact ⟨_, by simp [*], rfl, N0, e2⟩
    · obtain ⟨fs, hr, hrun, hended, hW, hsame⟩ := X2.leave (v := some (.int (0 : Int32))) (fun h => by rw [Bd.returns] at h; cases h)
      refine ⟨_, _, pre0 _ ?_, hrun, hended, _, _, rfl, ?_, ⟨_, rfl⟩, hW, hsame.mono (by decide) (by decide)⟩
      · show Steps p.tables e below (s₁.setTop (mkF m 0 #[.val (.ref a1)] [])) _
        refine XS.aloadN X0.here hx rfl (hb hby d1_0) rfl rfl ?_
        show Steps p.tables e below (s₁.setTop (mkF m 1 #[.val (.ref a1)] [(.ref a1)])) _
        refine st1 _ ?_
        show Steps p.tables e below (T1.setTop (mkF m 4 #[.val (.ref a1)] [(.ref w0), (.ref a1)])) _
        refine Jvm.RoadKit.acmp (g := (mkF m 4 #[.val (.ref a1)] [(.ref w0), (.ref a1)])) X1 hx rfl rfl rfl (pc0 := 4) (pc' := 7) (same := false) rfl (hb hby d1_4) rfl (decide_eq_false fun q => hc4 (Value.ref.inj q)) (by decide) (by decide) ?_
        show Steps p.tables e below (T1.setTop (mkF m 7 #[.val (.ref a1)] [])) _
        refine XS.aloadN X1.here hx rfl (hb hby d1_7) rfl rfl ?_
        show Steps p.tables e below (T1.setTop (mkF m 8 #[.val (.ref a1)] [(.ref a1)])) _
        refine st2 _ ?_
        show Steps p.tables e below (T2.setTop (mkF m 11 #[.val (.ref a1)] [(.ref w1), (.ref a1)])) _
        refine Jvm.RoadKit.acmp (g := (mkF m 11 #[.val (.ref a1)] [(.ref w1), (.ref a1)])) X2 hx rfl rfl rfl (pc0 := 11) (pc' := 18) (same := false) rfl (hb hby d1_11) rfl (decide_eq_false fun q => hc11 (Value.ref.inj q)) (by decide) (by decide) ?_
        show Steps p.tables e below (T2.setTop (mkF m 18 #[.val (.ref a1)] [])) _
        refine XS.iconst X2.here hx rfl (hb hby d1_18) ?_
        show Steps p.tables e below (T2.setTop (mkF m 19 #[.val (.ref a1)] [(.int (0 : Int32))])) _
        exact retN X2 hx (t := .boolean) Bd.returns (by simp) (hb hby d1_19) hr
      · show QrmM Z a1 w0 w1 h0 n0 _ T2.heap _
        exact ⟨_, by simp [*], rfl, N0, e2⟩
theorem d2_0 : decode prog_21_method_4_code 0 = .ok (.aload_n 0, 1) := by decide +kernel
theorem d2_1 : decode prog_21_method_4_code 1 = .ok (.getfield 35, 3) := by decide +kernel
theorem d2_4 : decode prog_21_method_4_code 4 = .ok (.areturn, 1) := by decide +kernel
theorem pn_2 : plainName "com/example/wrasse/wrasse/model/Edit$Kind" = true := by first | (simp [plainName, overriddenIn]; done) | decide +kernel
theorem ef_rmL (m : MethodId) (a1 : Addr) : entryFrame m #[(.ref a1)] 1 = mkF m 0 #[.val (.ref a1)] [] := by first | (simp [entryFrame, mkF, argsToLocals, Value.category]; done) | rfl
def QrmL (Z : State) (a1 : Addr) (lb : Addr) (h0 : Heap) (n0 : Nat) (v : Option Value) (h : Heap) (L : List Loc) : Prop := v = some (.ref lb) ∧ Fr n0 L ∧ h = h0
set_option maxRecDepth 65536 in
set_option maxHeartbeats 40000000 in
theorem rmL (l : Launch) (Z : State) (a0 : Array Value) (hw : ∀ d ∈ tables_1, d.before a0 Z = true) (ws : List Jvm.Cond) (a1 : Addr) (lb : Addr) (h0 : Heap) (n0 : Nat) (Z0 : n0 ≤ h0.size) (F : Fld Z h0 a1 "com/example/wrasse/wrasse/model/Edit$Kind" "label" "Ljava/lang/String;" (.ref lb)) :
    MetFree l (⟨"com/example/wrasse/wrasse/model/Edit$Kind", "label", "()Ljava/lang/String;"⟩ : MethodName) (head1 (Jvm.Cond.code (⟨"com/example/wrasse/wrasse/model/Edit$Kind", "label", "()Ljava/lang/String;"⟩ : MethodName) prog_21_method_4_code 1 (some (.object "java/lang/String")) :: ws) ({ frames := 0, cells := 0, slots := 0, locals := 0 } : Room)) (fun a U => a = #[(.ref a1)] ∧ Z.Warmed39 U.vm ∧ U.heap = h0) (fun _ _ _ _ _ => True) (fun _ U o U' => ∃ v L, o = .returned v ∧ QrmL Z a1 lb h0 n0 v U'.heap L ∧ FrameEnd U o U' L ({ frames := 0, cells := 0, slots := 0, locals := 0 } : Room).cells ({ frames := 0, cells := 0, slots := 0, locals := 0 } : Room).slots) := by
  refine MetFree.of_bodySF (plainFor_of_name pn_2) hisR ?_
  intro p e s m args below meth c s₁ Bd hml0 hP hK
  obtain ⟨rfl, hZ, hh⟩ := hP
  have hx := Bd.exec
  have hby := Bd.bytes
  have hml : c.maxLocals = 1 := hml0
  have hown : s.vm.findClass "com/example/wrasse/wrasse/model/Edit$Kind" = some m.cls := findClass_of_methodNamed Bd.named
  have hnm := (name_of_methodNamed Bd.named Bd.method).1
  have X0 : Stand p l e ({ frames := 0, cells := 0, slots := 0, locals := 0 } : Room) s m #[(.ref a1)] below meth c s₁ [] 0 0 := Stand.of_body Bd
  have e0 : s₁.heap = h0 := by rw [← hh, Bd.state]; rfl
  have N0 := Fr.nil n0
  have pre0 : ∀ t, Steps p.tables e below (s₁.setTop (mkF m 0 #[.val (.ref a1)] [])) t → Steps p.tables e below (s₁.setTop (entryFrame m #[(.ref a1)] 1)) t := fun t k => castTop (ef_rmL m a1) k
  obtain ⟨T1, X1, e1, st1⟩ := getF X0 hx hZ hown (host := "") (Or.inl (hw _ (List.mem_of_getElem? (i := 23) rfl))) Via.refl e0 F (g := (mkF m 1 #[.val (.ref a1)] [(.ref a1)])) rfl rfl (hb hby d2_1)
  obtain ⟨fs, hr, hrun, hended, hW, hsame⟩ := X1.leave (v := some (.ref lb)) (fun h => by rw [Bd.returns] at h; cases h)
  refine ⟨_, _, pre0 _ ?_, hrun, hended, _, _, rfl, ?_, ⟨_, rfl⟩, hW, hsame.mono (by decide) (by decide)⟩
  · show Steps p.tables e below (s₁.setTop (mkF m 0 #[.val (.ref a1)] [])) _
    refine XS.aloadN X0.here hx rfl (hb hby d2_0) rfl rfl ?_
    show Steps p.tables e below (s₁.setTop (mkF m 1 #[.val (.ref a1)] [(.ref a1)])) _
    refine st1 _ ?_
    show Steps p.tables e below (T1.setTop (mkF m 4 #[.val (.ref a1)] [(.ref lb)])) _
    exact X1.areturnOut hx rfl Bd.returns rfl (hb hby d2_4) hr
  · show QrmL Z a1 lb h0 n0 _ T1.heap _
    exact ⟨rfl, N0, e1⟩
theorem pd_1 : parseMethodDescriptor "()Z" = some ⟨[], some .boolean⟩ := by decide +kernel
theorem pd_2 : parseMethodDescriptor "()Ljava/lang/String;" = some ⟨[], some (.object "java/lang/String")⟩ := by decide +kernel
theorem pd_3 : parseMethodDescriptor "(Ljava/lang/Object;)Z" = some ⟨[(.object "java/lang/Object")], some .boolean⟩ := by decide +kernel
theorem pn_0 : plainName "com/example/wrasse/wrasse/model/KindMayStartWordPinLaw" = true := by first | (simp [plainName, overriddenIn]; done) | decide +kernel
theorem ef_rm0 (m : MethodId) (p1 : Int32) : entryFrame m #[(.int p1)] maxLocals = mkF m 0 #[.val (.int p1), .unset, .unset, .unset, .unset, .unset, .unset, .unset] [] := by first | (simp [entryFrame, mkF, argsToLocals, Value.category, maxLocals]; done) | rfl
def Qrm0 (Z : State) (p1 : Int32) (G1 : Int32) (w0 : Addr) (l0 : Addr) (x0 : Addr) (k0 : ClassId) (w1 : Addr) (l1 : Addr) (x1 : Addr) (k1 : ClassId) (w2 : Addr) (l2 : Addr) (x2 : Addr) (k2 : ClassId) (w3 : Addr) (l3 : Addr) (x3 : Addr) (k3 : ClassId) (h0 : Heap) (n0 : Nat) (v : Option Value) (h : Heap) (L : List Loc) : Prop := v = some (.int 1) ∧ Fr n0 L
set_option maxRecDepth 65536 in
set_option maxHeartbeats 40000000 in
theorem rm0 (l : Launch) (Z : State) (a0 : Array Value) (hw : ∀ d ∈ tables_1, d.before a0 Z = true) (ws : List Jvm.Cond) (p1 : Int32) (G1 : Int32) (w0 : Addr) (l0 : Addr) (x0 : Addr) (k0 : ClassId) (w1 : Addr) (l1 : Addr) (x1 : Addr) (k1 : ClassId) (w2 : Addr) (l2 : Addr) (x2 : Addr) (k2 : ClassId) (w3 : Addr) (l3 : Addr) (x3 : Addr) (k3 : ClassId) (h0 : Heap) (n0 : Nat) (Z0 : n0 ≤ h0.size) (O_s0 : Sta Z Z.heap "com/example/wrasse/wrasse/model/Edit$Kind" "DELETION" "Lcom/example/wrasse/wrasse/model/Edit$Kind;" (.ref w0)) (EW0 : Exa Z h0 w0 "com/example/wrasse/wrasse/model/Edit$Kind") (FL0 : Fld Z h0 w0 "com/example/wrasse/wrasse/model/Edit$Kind" "label" "Ljava/lang/String;" (.ref l0)) (EL0 : Exa Z h0 l0 "java/lang/String") (FC0 : Fld Z h0 l0 "java/lang/String" "coder" "B" (.int (0 : Int32))) (FV0 : Fld Z h0 l0 "java/lang/String" "value" "[B" (.ref x0)) (AV0 : Arv Z h0 x0 k0 .byte (3 : Int32) [(.int (100 : Int32)), (.int (101 : Int32)), (.int (108 : Int32))] (.int (0 : Int32))) (O_s1 : Sta Z Z.heap "com/example/wrasse/wrasse/model/Edit$Kind" "INSERTION" "Lcom/example/wrasse/wrasse/model/Edit$Kind;" (.ref w1)) (EW1 : Exa Z h0 w1 "com/example/wrasse/wrasse/model/Edit$Kind") (FL1 : Fld Z h0 w1 "com/example/wrasse/wrasse/model/Edit$Kind" "label" "Ljava/lang/String;" (.ref l1)) (EL1 : Exa Z h0 l1 "java/lang/String") (FC1 : Fld Z h0 l1 "java/lang/String" "coder" "B" (.int (0 : Int32))) (FV1 : Fld Z h0 l1 "java/lang/String" "value" "[B" (.ref x1)) (AV1 : Arv Z h0 x1 k1 .byte (3 : Int32) [(.int (97 : Int32)), (.int (100 : Int32)), (.int (100 : Int32))] (.int (0 : Int32))) (O_s2 : Sta Z Z.heap "com/example/wrasse/wrasse/model/Edit$Kind" "SUBSTITUTION" "Lcom/example/wrasse/wrasse/model/Edit$Kind;" (.ref w2)) (EW2 : Exa Z h0 w2 "com/example/wrasse/wrasse/model/Edit$Kind") (FL2 : Fld Z h0 w2 "com/example/wrasse/wrasse/model/Edit$Kind" "label" "Ljava/lang/String;" (.ref l2)) (EL2 : Exa Z h0 l2 "java/lang/String") (FC2 : Fld Z h0 l2 "java/lang/String" "coder" "B" (.int (0 : Int32))) (FV2 : Fld Z h0 l2 "java/lang/String" "value" "[B" (.ref x2)) (AV2 : Arv Z h0 x2 k2 .byte (3 : Int32) [(.int (115 : Int32)), (.int (117 : Int32)), (.int (98 : Int32))] (.int (0 : Int32))) (O_s3 : Sta Z Z.heap "com/example/wrasse/wrasse/model/Edit$Kind" "REVERSAL" "Lcom/example/wrasse/wrasse/model/Edit$Kind;" (.ref w3)) (EW3 : Exa Z h0 w3 "com/example/wrasse/wrasse/model/Edit$Kind") (FL3 : Fld Z h0 w3 "com/example/wrasse/wrasse/model/Edit$Kind" "label" "Ljava/lang/String;" (.ref l3)) (EL3 : Exa Z h0 l3 "java/lang/String") (FC3 : Fld Z h0 l3 "java/lang/String" "coder" "B" (.int (0 : Int32))) (FV3 : Fld Z h0 l3 "java/lang/String" "value" "[B" (.ref x3)) (AV3 : Arv Z h0 x3 k3 .byte (3 : Int32) [(.int (114 : Int32)), (.int (101 : Int32)), (.int (118 : Int32))] (.int (0 : Int32))) (n10 : ¬ w1 = w0) (n20 : ¬ w2 = w0) (n21 : ¬ w2 = w1) (n30 : ¬ w3 = w0) (n31 : ¬ w3 = w1) (O_2 : Sta Z Z.heap "java/lang/String" "COMPACT_STRINGS" "Z" (.int G1)) (P5 : ¬ (G1 = (0 : Int32))) (X00 : Old Z n0 h0) (hn0 : n0 = h0.size) (hcs : Jvm.Lit.constsHeld consts_1 Z) (hcw : Jvm.Lit.compactW.before a0 Z = true) :
    MetFree l x (head1 (Jvm.Cond.code x code maxLocals ret :: ws) room_1) (fun a U => a = #[(.int p1)] ∧ Z.Warmed39 U.vm ∧ U.heap = h0 ∧ U = Z) (fun _ _ _ _ _ => True) (fun _ U o U' => ∃ v L, o = .returned v ∧ Qrm0 Z p1 G1 w0 l0 x0 k0 w1 l1 x1 k1 w2 l2 x2 k2 w3 l3 x3 k3 h0 n0 v U'.heap L ∧ ReturnedEndW U o U' L room_1.cells room_1.slots) := by
  refine MetFree.of_bodySF (plainFor_of_name pn_0) hisR ?_
  intro p e s m args below meth c s₁ Bd hml0 hP hK
  obtain ⟨rfl, hZ, hh, hUZ⟩ := hP
  have hx := Bd.exec
  have hby := Bd.bytes
  have hml : c.maxLocals = 8 := hml0
  have hown : s.vm.findClass "com/example/wrasse/wrasse/model/KindMayStartWordPinLaw" = some m.cls := findClass_of_methodNamed Bd.named
  have hnm := (name_of_methodNamed Bd.named Bd.method).1
  have X0 : Stand p l e room_1 s m #[(.int p1)] below meth c s₁ [] 0 0 := Stand.of_body Bd
  have e0 : s₁.heap = h0 := by rw [← hh, Bd.state]; rfl
  have N0 := Fr.nil n0
  have pre0 : ∀ t, Steps p.tables e below (s₁.setTop (mkF m 0 #[.val (.int p1), .unset, .unset, .unset, .unset, .unset, .unset, .unset] [])) t → Steps p.tables e below (s₁.setTop (entryFrame m #[(.int p1)] maxLocals)) t := fun t k => castTop (ef_rm0 m p1) k
  obtain ⟨T1, h1, ck1, X1, e1, E1, A1, O1, st1⟩ := newR X0 hx hZ hown (hw _ (List.mem_of_getElem? (i := 0) rfl)) (hw _ (List.mem_of_getElem? (i := 1) rfl)) e0 (g := (mkF m 1 #[.val (.int p1), .unset, .unset, .unset, .unset, .unset, .unset, .unset] [(.int (4 : Int32))])) rfl (hb hby at_1) rfl (by decide) (cap := 4) (by decide) (by decide) (by decide) (by decide)
  obtain ⟨b1o, g1⟩ : ∃ z, z = h0.size := ⟨_, rfl⟩
  have b1 : n0 ≤ b1o := Nat.le_trans Z0 (Nat.le_of_eq g1.symm)
  have ne2 : w0 ≠ b1o := Nat.ne_of_lt (Nat.lt_of_lt_of_le EW0.lt (Nat.le_of_eq g1.symm))
  have ne3 : l0 ≠ b1o := Nat.ne_of_lt (Nat.lt_of_lt_of_le EL0.lt (Nat.le_of_eq g1.symm))
  have ne4 : x0 ≠ b1o := Nat.ne_of_lt (Nat.lt_of_lt_of_le AV0.lt (Nat.le_of_eq g1.symm))
  have ne5 : w1 ≠ b1o := Nat.ne_of_lt (Nat.lt_of_lt_of_le EW1.lt (Nat.le_of_eq g1.symm))
  have ne6 : l1 ≠ b1o := Nat.ne_of_lt (Nat.lt_of_lt_of_le EL1.lt (Nat.le_of_eq g1.symm))
  have ne7 : x1 ≠ b1o := Nat.ne_of_lt (Nat.lt_of_lt_of_le AV1.lt (Nat.le_of_eq g1.symm))
  have ne8 : w2 ≠ b1o := Nat.ne_of_lt (Nat.lt_of_lt_of_le EW2.lt (Nat.le_of_eq g1.symm))
  have ne9 : l2 ≠ b1o := Nat.ne_of_lt (Nat.lt_of_lt_of_le EL2.lt (Nat.le_of_eq g1.symm))
  have ne10 : x2 ≠ b1o := Nat.ne_of_lt (Nat.lt_of_lt_of_le AV2.lt (Nat.le_of_eq g1.symm))
  have ne11 : w3 ≠ b1o := Nat.ne_of_lt (Nat.lt_of_lt_of_le EW3.lt (Nat.le_of_eq g1.symm))
  have ne12 : l3 ≠ b1o := Nat.ne_of_lt (Nat.lt_of_lt_of_le EL3.lt (Nat.le_of_eq g1.symm))
  have ne13 : x3 ≠ b1o := Nat.ne_of_lt (Nat.lt_of_lt_of_le AV3.lt (Nat.le_of_eq g1.symm))
  rw [← g1] at A1 st1
  have Z1 : n0 ≤ h1.size := Nat.le_trans Z0 E1.1
  have V1 : Arv Z h1 b1o ck1 (.object "com/example/wrasse/wrasse/model/Edit$Kind") (4 : Int32) [.null, .null, .null, .null] .null := (Arv.new A1 (by decide)).pad (pad_rep [] .null 4)
  have f14 := (X00.ext E1)
  obtain ⟨T15, X15, e15, st15⟩ := getS2 X1 hx hZ hown (host := "") (Or.inl (hw _ (List.mem_of_getElem? (i := 2) rfl))) Via.refl e1 (O_s0.ext f14.2) (g := (mkF m 6 #[.val (.int p1), .unset, .unset, .unset, .unset, .unset, .unset, .unset] [(.int (0 : Int32)), (.ref b1o), (.ref b1o)])) rfl (hb hby at_6)
  obtain ⟨cl16, Ar16, qk16, Sz16, Nn16, Hh16, Gg16⟩ := id (V1)
  have hin17 : ¬ ((0 : Int32) < 0 ∨ cl16.slots.size ≤ ((0 : Int32)).toNatClampNeg) := inb_of Sz16 ⟨by decide, by decide⟩
  have f18 := (EW0.ext E1)
  obtain ⟨T17, h17, X17, e17, W17, st17⟩ := stR X15 hx hZ e15 Ar16 (j := (0 : Int32)) hin17 rfl (Sto.ofV Ar16 qk16 O1 (Ins.self f18)) (g := (mkF m 9 #[.val (.int p1), .unset, .unset, .unset, .unset, .unset, .unset, .unset] [(.ref w0), (.int (0 : Int32)), (.ref b1o), (.ref b1o)])) rfl rfl (hb hby at_9)
  have N17 := Fr.snoc X17 N0 b1
  have Z17 : n0 ≤ h17.size := by rw [W17.size]; exact Z1
  have V17 : Arv Z h17 b1o ck1 (.object "com/example/wrasse/wrasse/model/Edit$Kind") (4 : Int32) [(.ref w0), .null, .null, .null] .null := Arv.set Ar16 qk16 Sz16 Nn16 Hh16 Gg16 rfl W17 0 rfl (Nat.le_of_ble_eq_true rfl)
  have f19 := (f14.wr W17 b1)
  obtain ⟨T20, X20, e20, st20⟩ := getS2 X17 hx hZ hown (host := "") (Or.inl (hw _ (List.mem_of_getElem? (i := 6) rfl))) Via.refl e17 (O_s1.ext f19.2) (g := (mkF m 12 #[.val (.int p1), .unset, .unset, .unset, .unset, .unset, .unset, .unset] [(.int (1 : Int32)), (.ref b1o), (.ref b1o)])) rfl (hb hby at_12)
  obtain ⟨cl21, Ar21, qk21, Sz21, Nn21, Hh21, Gg21⟩ := id (V17)
  have hin22 : ¬ ((1 : Int32) < 0 ∨ cl21.slots.size ≤ ((1 : Int32)).toNatClampNeg) := inb_of Sz21 ⟨by decide, by decide⟩
  have f23 := ((EW1.ext E1).wr W17)
  obtain ⟨T22, h22, X22, e22, W22, st22⟩ := stR X20 hx hZ e20 Ar21 (j := (1 : Int32)) hin22 rfl (Sto.ofV Ar21 qk21 O1 (Ins.self f23)) (g := (mkF m 15 #[.val (.int p1), .unset, .unset, .unset, .unset, .unset, .unset, .unset] [(.ref w1), (.int (1 : Int32)), (.ref b1o), (.ref b1o)])) rfl rfl (hb hby at_15)
  have N22 := Fr.snoc X22 N17 b1
  have Z22 : n0 ≤ h22.size := by rw [W22.size]; exact Z17
  have V22 : Arv Z h22 b1o ck1 (.object "com/example/wrasse/wrasse/model/Edit$Kind") (4 : Int32) [(.ref w0), (.ref w1), .null, .null] .null := Arv.set Ar21 qk21 Sz21 Nn21 Hh21 Gg21 rfl W22 1 rfl (Nat.le_of_ble_eq_true rfl)
  have f24 := (f19.wr W22 b1)
  obtain ⟨T25, X25, e25, st25⟩ := getS2 X22 hx hZ hown (host := "") (Or.inl (hw _ (List.mem_of_getElem? (i := 8) rfl))) Via.refl e22 (O_s2.ext f24.2) (g := (mkF m 18 #[.val (.int p1), .unset, .unset, .unset, .unset, .unset, .unset, .unset] [(.int (2 : Int32)), (.ref b1o), (.ref b1o)])) rfl (hb hby at_18)
  obtain ⟨cl26, Ar26, qk26, Sz26, Nn26, Hh26, Gg26⟩ := id (V22)
  have hin27 : ¬ ((2 : Int32) < 0 ∨ cl26.slots.size ≤ ((2 : Int32)).toNatClampNeg) := inb_of Sz26 ⟨by decide, by decide⟩
  have f28 := (((EW2.ext E1).wr W17).wr W22)
  obtain ⟨T27, h27, X27, e27, W27, st27⟩ := stR X25 hx hZ e25 Ar26 (j := (2 : Int32)) hin27 rfl (Sto.ofV Ar26 qk26 O1 (Ins.self f28)) (g := (mkF m 21 #[.val (.int p1), .unset, .unset, .unset, .unset, .unset, .unset, .unset] [(.ref w2), (.int (2 : Int32)), (.ref b1o), (.ref b1o)])) rfl rfl (hb hby at_21)
  have N27 := Fr.snoc X27 N22 b1
  have Z27 : n0 ≤ h27.size := by rw [W27.size]; exact Z22
  have V27 : Arv Z h27 b1o ck1 (.object "com/example/wrasse/wrasse/model/Edit$Kind") (4 : Int32) [(.ref w0), (.ref w1), (.ref w2), .null] .null := Arv.set Ar26 qk26 Sz26 Nn26 Hh26 Gg26 rfl W27 2 rfl (Nat.le_of_ble_eq_true rfl)
  have f29 := (f24.wr W27 b1)
  obtain ⟨T30, X30, e30, st30⟩ := getS2 X27 hx hZ hown (host := "") (Or.inl (hw _ (List.mem_of_getElem? (i := 10) rfl))) Via.refl e27 (O_s3.ext f29.2) (g := (mkF m 24 #[.val (.int p1), .unset, .unset, .unset, .unset, .unset, .unset, .unset] [(.int (3 : Int32)), (.ref b1o), (.ref b1o)])) rfl (hb hby at_24)
  obtain ⟨cl31, Ar31, qk31, Sz31, Nn31, Hh31, Gg31⟩ := id (V27)
  have hin32 : ¬ ((3 : Int32) < 0 ∨ cl31.slots.size ≤ ((3 : Int32)).toNatClampNeg) := inb_of Sz31 ⟨by decide, by decide⟩
  have f33 := ((((EW3.ext E1).wr W17).wr W22).wr W27)
  obtain ⟨T32, h32, X32, e32, W32, st32⟩ := stR X30 hx hZ e30 Ar31 (j := (3 : Int32)) hin32 rfl (Sto.ofV Ar31 qk31 O1 (Ins.self f33)) (g := (mkF m 27 #[.val (.int p1), .unset, .unset, .unset, .unset, .unset, .unset, .unset] [(.ref w3), (.int (3 : Int32)), (.ref b1o), (.ref b1o)])) rfl rfl (hb hby at_27)
  have N32 := Fr.snoc X32 N27 b1
  have Z32 : n0 ≤ h32.size := by rw [W32.size]; exact Z27
  have V32 : Arv Z h32 b1o ck1 (.object "com/example/wrasse/wrasse/model/Edit$Kind") (4 : Int32) [(.ref w0), (.ref w1), (.ref w2), (.ref w3)] .null := Arv.set Ar31 qk31 Sz31 Nn31 Hh31 Gg31 rfl W32 3 rfl (Nat.le_of_ble_eq_true rfl)
  rcases own_i4 p1 with hI | hI | hI | hI
  · obtain ⟨cl34, Ar34, qk34, Sz34, Nn34, Hh34, Gg34⟩ := id (V32)
    have hin35 : ¬ ((0 : Int32) < 0 ∨ cl34.slots.size ≤ ((0 : Int32)).toNatClampNeg) := inb_of Sz34 ⟨by decide, by decide⟩
    have hat35 : cl34.slots[((0 : Int32)).toNatClampNeg]? = some (.ref w0) := Has.at Hh34 hin35 rfl
    have f37 := (f29.wr W32 b1)
    have f38 := ((((f18.wr W17).wr W22).wr W27).wr W32)
    obtain ⟨cq36, kz36, q36a, q36b, q36c⟩ := isOf hZ e32 f38
    obtain ⟨_, _, ⟨T36, Lq36, kq36, nq36⟩, -, X36, ⟨Lc36, hQ36, lq36, yq36, zq36⟩, st36⟩ := X32.virtualBack hx (y := (⟨"com/example/wrasse/wrasse/model/Edit$Kind", "mayStartWord", "()Z"⟩ : MethodName)) (z := (⟨"com/example/wrasse/wrasse/model/Edit$Kind", "mayStartWord", "()Z"⟩ : MethodName)) hown (mvT hZ (hw _ (List.mem_of_getElem? (i := 12) rfl))) (mvT hZ (hw _ (List.mem_of_getElem? (i := 13) rfl))) (notFace_of_selects (args := #[]) (mvT hZ (hw _ (List.mem_of_getElem? (i := 15) rfl)))) (mvT hZ (hw _ (List.mem_of_getElem? (i := 15) rfl))) (mvT hZ (hw _ (List.mem_of_getElem? (i := 14) rfl))) (by decide) (backOf (W := 0) (rmM l Z a0 hw [] w0 w0 w1 h32 n0 Z32 (O_s0.ext f37.2) (O_s1.ext f37.2)) hZ (hw _ (List.mem_of_getElem? (i := 16) rfl)) (hw _ (List.mem_of_getElem? (i := 3) rfl)) (by decide) (by decide)) q36a q36c (g := (mkF m 50 #[.val (.int p1), .val (.ref b1o), .val (.int (0 : Int32)), .val (.ref w0), .val (.int (1 : Int32)), .unset, .unset, .unset] [(.ref w0)])) rfl (by rw [hml]; rfl) (Steps.refl _) (argsL := []) (rest := []) (lenOf pd_1 rfl) rfl (by show 2 * 0 + _ ≤ _; exact Nat.le_of_eq rfl) (hb hby at_50) (fun _ _ => ⟨rfl, e32, (by decide : 1 + 0 ≤ _), (by decide : 4 + 0 ≤ _)⟩)
    dsimp only [Pt.U, Pt.locs, Pt.cells, Pt.slots] at X36 lq36 yq36 zq36 st36 hQ36
    subst lq36 yq36 zq36
    obtain ⟨r36, hr36, rfl, N36q, e36⟩ := hQ36
    have N36 := Fr.app N32 N36q
    have f40 := (((((FL0.ext E1).other W17 (Or.inl ne2)).other W22 (Or.inl ne2)).other W27 (Or.inl ne2)).other W32 (Or.inl ne2))
    obtain ⟨cq39, kz39, q39a, q39b, q39c⟩ := isOf hZ e36 f38
    obtain ⟨_, _, ⟨T39, Lq39, kq39, nq39⟩, -, X39, ⟨Lc39, hQ39, lq39, yq39, zq39⟩, st39⟩ := X36.virtualBack hx (y := (⟨"com/example/wrasse/wrasse/model/Edit$Kind", "label", "()Ljava/lang/String;"⟩ : MethodName)) (z := (⟨"com/example/wrasse/wrasse/model/Edit$Kind", "label", "()Ljava/lang/String;"⟩ : MethodName)) hown (mvT hZ (hw _ (List.mem_of_getElem? (i := 18) rfl))) (mvT hZ (hw _ (List.mem_of_getElem? (i := 19) rfl))) (notFace_of_selects (args := #[]) (mvT hZ (hw _ (List.mem_of_getElem? (i := 21) rfl)))) (mvT hZ (hw _ (List.mem_of_getElem? (i := 21) rfl))) (mvT hZ (hw _ (List.mem_of_getElem? (i := 20) rfl))) (by decide) (backOf (W := 0) (rmL l Z a0 hw [] w0 l0 h32 n0 Z32 f40) hZ (hw _ (List.mem_of_getElem? (i := 22) rfl)) (hw _ (List.mem_of_getElem? (i := 3) rfl)) (by decide) (by decide)) q39a q39c (g := (mkF m 56 #[.val (.int p1), .val (.ref b1o), .val (.int (0 : Int32)), .val (.ref w0), .val (.int (1 : Int32)), .val (.int r36), .unset, .unset] [(.ref w0)])) rfl (by rw [hml]; rfl) (Steps.refl _) (argsL := []) (rest := []) (lenOf pd_2 rfl) rfl (by show 2 * 0 + _ ≤ _; exact Nat.le_of_eq rfl) (hb hby at_56) (fun _ _ => ⟨rfl, e36, (by decide : 1 + 0 ≤ _), (by decide : 4 + 0 ≤ _)⟩)
    dsimp only [Pt.U, Pt.locs, Pt.cells, Pt.slots] at X39 lq39 yq39 zq39 st39 hQ39
    subst lq39 yq39 zq39
    obtain ⟨rfl, N39q, e39⟩ := hQ39
    have N39 := Fr.app N36 N39q
    have hS0 : s.Since s.vm s.heap.size := (State.WarmedH.refl s).since _
    have I0 : IB Z s.vm [] := by rw [hUZ]; exact IB.start
    have hkp : ∀ (b : Addr) (cl : Cell), Z.heap[b]? = some cl → s.heap[b]? = some cl := by rw [hUZ]; exact fun _ _ q => q
    have wS : ∀ a ∈ Bundle.stringAtoms, a.before a0 Z = true := fun d hd => hw d ((by decide +kernel : ∀ d ∈ Bundle.stringAtoms, d ∈ tables_1) d hd)
    obtain ⟨sa41, T41, h41, k141, sb41, sk41, X41, e41, E41, hS41, hk41, hZ41, ho41, SE41, SC41, SV41, SA41, -, -, I41, st41⟩ := ldcSV (s := s) (vm0 := s.vm) (Z := Z) (h := h32) X39 hx hZ hown (hw _ (List.mem_of_getElem? (i := 25) rfl)) wS e39 hS0 (Nat.le_trans (Nat.le_of_eq (by rw [hh]; exact hn0.symm)) Z32) (by rw [hh, ← hn0]; exact N39) hkp I0 (by decide) (hcs ("com/example/wrasse/wrasse/model/KindMayStartWordPinLaw", 30) (by decide +kernel)) hcw (vs := [(.int (100 : Int32)), (.int (101 : Int32)), (.int (108 : Int32))]) (z := (3 : Int32)) ⟨by decide +kernel, by decide +kernel⟩ (by decide) (by decide) (g := (mkF m 63 #[.val (.int p1), .val (.ref b1o), .val (.int (0 : Int32)), .val (.ref w0), .val (.int (1 : Int32)), .val (.int r36), .val (.ref l0), .unset] [(.ref l0)])) rfl (hb hby at_63) (n := 12) (by decide +kernel) (by decide) (by decide) (by decide)
    have Z41 : n0 ≤ h41.size := Nat.le_trans Z32 E41.1
    have f43 := (f37.ext E41)
    have f44 := ((((((EL0.ext E1).wr W17).wr W22).wr W27).wr W32).ext E41)
    have f45 := ((((((FV0.ext E1).other W17 (Or.inl ne3)).other W22 (Or.inl ne3)).other W27 (Or.inl ne3)).other W32 (Or.inl ne3)).ext E41)
    have f46 := ((((((FC0.ext E1).other W17 (Or.inl ne3)).other W22 (Or.inl ne3)).other W27 (Or.inl ne3)).other W32 (Or.inl ne3)).ext E41)
    have f47 := ((((((AV0.ext E1).other W17 ne4).other W22 ne4).other W27 ne4).other W32 ne4).ext E41)
    obtain ⟨cq42, kz42, q42a, q42b, q42c⟩ := isOf hZ41 e41 f44
    obtain ⟨_, _, ⟨T42, Lq42, kq42, nq42⟩, -, X42, ⟨Lc42, hQ42, lq42, yq42, zq42⟩, st42⟩ := X41.virtualBack hx (y := (⟨"java/lang/String", "equals", "(Ljava/lang/Object;)Z"⟩ : MethodName)) (z := (⟨"java/lang/String", "equals", "(Ljava/lang/Object;)Z"⟩ : MethodName)) ho41 (mvT hZ41 (hw _ (List.mem_of_getElem? (i := 33) rfl))) (mvT hZ41 (hw _ (List.mem_of_getElem? (i := 34) rfl))) (notFace_of_selects (args := #[]) (mvT hZ41 (hw _ (List.mem_of_getElem? (i := 36) rfl)))) (mvT hZ41 (hw _ (List.mem_of_getElem? (i := 36) rfl))) (mvT hZ41 (hw _ (List.mem_of_getElem? (i := 35) rfl))) (by decide) (backOf (W := 0) (rmE l Z a0 hw [] l0 sa41 G1 x0 sb41 k0 sk41 (100 : Int32) (101 : Int32) (108 : Int32) (100 : Int32) (101 : Int32) (108 : Int32) h41 n0 Z41 (O_2.ext f43.2) P5 f44 SE41 f45 SV41 f46 SC41 f47 SA41) hZ41 (hw _ (List.mem_of_getElem? (i := 37) rfl)) (hw _ (List.mem_of_getElem? (i := 26) rfl)) (by decide) (by decide)) q42a q42c (g := (mkF m 65 #[.val (.int p1), .val (.ref b1o), .val (.int (0 : Int32)), .val (.ref w0), .val (.int (1 : Int32)), .val (.int r36), .val (.ref l0), .unset] [(.ref sa41), (.ref l0)])) rfl (by rw [hml]; rfl) (Steps.refl _) (argsL := [(.ref sa41)]) (rest := []) (lenOf pd_3 rfl) rfl (by show 2 * 0 + _ ≤ _; exact Nat.le_of_eq rfl) (hb hby at_65) (fun _ _ => ⟨rfl, e41, (by decide : 3 + 0 ≤ _), (by decide : 20 + 0 ≤ _)⟩)
    dsimp only [Pt.U, Pt.locs, Pt.cells, Pt.slots] at X42 lq42 yq42 zq42 st42 hQ42
    subst lq42 yq42 zq42
    obtain ⟨r42, hr42, rfl, N42q, e42⟩ := hQ42
    have N42 := Fr.app N39 N42q
    obtain ⟨fs, hr, hrun, hended, hwd⟩ := X42.leaveW hS41 (Nat.le_trans hk41 (Nat.le_of_eq (congrArg Array.size e42).symm)) (v := some (.int (1 : Int32))) (fun h => by rw [Bd.returns] at h; cases h)
    refine ⟨_, _, pre0 _ ?_, hrun, hended, _, _, rfl, ?_, hwd.1, hwd.2.1, hwd.2.2.1, hwd.2.2.2.mono (by decide) (by decide)⟩
    · show Steps p.tables e below (s₁.setTop (mkF m 0 #[.val (.int p1), .unset, .unset, .unset, .unset, .unset, .unset, .unset] [])) _
      refine XS.iconst X0.here hx rfl (hb hby at_0) ?_
      show Steps p.tables e below (s₁.setTop (mkF m 1 #[.val (.int p1), .unset, .unset, .unset, .unset, .unset, .unset, .unset] [(.int (4 : Int32))])) _
      refine st1 _ ?_
      show Steps p.tables e below (T1.setTop (mkF m 4 #[.val (.int p1), .unset, .unset, .unset, .unset, .unset, .unset, .unset] [(.ref b1o)])) _
      refine XS.dup X1.here hx rfl (hb hby at_4) rfl rfl ?_
      show Steps p.tables e below (T1.setTop (mkF m 5 #[.val (.int p1), .unset, .unset, .unset, .unset, .unset, .unset, .unset] [(.ref b1o), (.ref b1o)])) _
      refine XS.iconst X1.here hx rfl (hb hby at_5) ?_
      show Steps p.tables e below (T1.setTop (mkF m 6 #[.val (.int p1), .unset, .unset, .unset, .unset, .unset, .unset, .unset] [(.int (0 : Int32)), (.ref b1o), (.ref b1o)])) _
      refine st15 _ ?_
      show Steps p.tables e below (T15.setTop (mkF m 9 #[.val (.int p1), .unset, .unset, .unset, .unset, .unset, .unset, .unset] [(.ref w0), (.int (0 : Int32)), (.ref b1o), (.ref b1o)])) _
      refine st17 _ ?_
      show Steps p.tables e below (T17.setTop (mkF m 10 #[.val (.int p1), .unset, .unset, .unset, .unset, .unset, .unset, .unset] [(.ref b1o)])) _
      refine XS.dup X17.here hx rfl (hb hby at_10) rfl rfl ?_
      show Steps p.tables e below (T17.setTop (mkF m 11 #[.val (.int p1), .unset, .unset, .unset, .unset, .unset, .unset, .unset] [(.ref b1o), (.ref b1o)])) _
      refine XS.iconst X17.here hx rfl (hb hby at_11) ?_
      show Steps p.tables e below (T17.setTop (mkF m 12 #[.val (.int p1), .unset, .unset, .unset, .unset, .unset, .unset, .unset] [(.int (1 : Int32)), (.ref b1o), (.ref b1o)])) _
      refine st20 _ ?_
      show Steps p.tables e below (T20.setTop (mkF m 15 #[.val (.int p1), .unset, .unset, .unset, .unset, .unset, .unset, .unset] [(.ref w1), (.int (1 : Int32)), (.ref b1o), (.ref b1o)])) _
      refine st22 _ ?_
      show Steps p.tables e below (T22.setTop (mkF m 16 #[.val (.int p1), .unset, .unset, .unset, .unset, .unset, .unset, .unset] [(.ref b1o)])) _
      refine XS.dup X22.here hx rfl (hb hby at_16) rfl rfl ?_
      show Steps p.tables e below (T22.setTop (mkF m 17 #[.val (.int p1), .unset, .unset, .unset, .unset, .unset, .unset, .unset] [(.ref b1o), (.ref b1o)])) _
      refine XS.iconst X22.here hx rfl (hb hby at_17) ?_
      show Steps p.tables e below (T22.setTop (mkF m 18 #[.val (.int p1), .unset, .unset, .unset, .unset, .unset, .unset, .unset] [(.int (2 : Int32)), (.ref b1o), (.ref b1o)])) _
      refine st25 _ ?_
      show Steps p.tables e below (T25.setTop (mkF m 21 #[.val (.int p1), .unset, .unset, .unset, .unset, .unset, .unset, .unset] [(.ref w2), (.int (2 : Int32)), (.ref b1o), (.ref b1o)])) _
      refine st27 _ ?_
      show Steps p.tables e below (T27.setTop (mkF m 22 #[.val (.int p1), .unset, .unset, .unset, .unset, .unset, .unset, .unset] [(.ref b1o)])) _
      refine XS.dup X27.here hx rfl (hb hby at_22) rfl rfl ?_
      show Steps p.tables e below (T27.setTop (mkF m 23 #[.val (.int p1), .unset, .unset, .unset, .unset, .unset, .unset, .unset] [(.ref b1o), (.ref b1o)])) _
      refine XS.iconst X27.here hx rfl (hb hby at_23) ?_
      show Steps p.tables e below (T27.setTop (mkF m 24 #[.val (.int p1), .unset, .unset, .unset, .unset, .unset, .unset, .unset] [(.int (3 : Int32)), (.ref b1o), (.ref b1o)])) _
      refine st30 _ ?_
      show Steps p.tables e below (T30.setTop (mkF m 27 #[.val (.int p1), .unset, .unset, .unset, .unset, .unset, .unset, .unset] [(.ref w3), (.int (3 : Int32)), (.ref b1o), (.ref b1o)])) _
      refine st32 _ ?_
      show Steps p.tables e below (T32.setTop (mkF m 28 #[.val (.int p1), .unset, .unset, .unset, .unset, .unset, .unset, .unset] [(.ref b1o)])) _
      refine XS.astoreN X32.here hx rfl (hb hby at_28) rfl rfl (l' := #[.val (.int p1), .val (.ref b1o), .unset, .unset, .unset, .unset, .unset, .unset]) rfl ?_
      show Steps p.tables e below (T32.setTop (mkF m 29 #[.val (.int p1), .val (.ref b1o), .unset, .unset, .unset, .unset, .unset, .unset] [])) _
      refine XS.iloadN X32.here hx rfl (hb hby at_29) rfl ?_
      show Steps p.tables e below (T32.setTop (mkF m 30 #[.val (.int p1), .val (.ref b1o), .unset, .unset, .unset, .unset, .unset, .unset] [(.int p1)])) _
      refine XS.iconst X32.here hx rfl (hb hby at_30) ?_
      show Steps p.tables e below (T32.setTop (mkF m 31 #[.val (.int p1), .val (.ref b1o), .unset, .unset, .unset, .unset, .unset, .unset] [(.int (3 : Int32)), (.int p1)])) _
      refine XS.iand X32.here hx rfl (hb hby at_31) rfl ?_
      show Steps p.tables e below (T32.setTop (mkF m 32 #[.val (.int p1), .val (.ref b1o), .unset, .unset, .unset, .unset, .unset, .unset] [(.int (p1 &&& (3 : Int32)))])) _
      refine XS.istoreN X32.here hx rfl (hb hby at_32) rfl (l' := #[.val (.int p1), .val (.ref b1o), .val (.int (p1 &&& (3 : Int32))), .unset, .unset, .unset, .unset, .unset]) rfl ?_
      show Steps p.tables e below (T32.setTop (mkF m 33 #[.val (.int p1), .val (.ref b1o), .val (.int (p1 &&& (3 : Int32))), .unset, .unset, .unset, .unset, .unset] [])) _
      rw [hI]
      show Steps p.tables e below (T32.setTop (mkF m 33 #[.val (.int p1), .val (.ref b1o), .val (.int (0 : Int32)), .unset, .unset, .unset, .unset, .unset] [])) _
      refine XS.aloadN X32.here hx rfl (hb hby at_33) rfl rfl ?_
      show Steps p.tables e below (T32.setTop (mkF m 34 #[.val (.int p1), .val (.ref b1o), .val (.int (0 : Int32)), .unset, .unset, .unset, .unset, .unset] [(.ref b1o)])) _
      refine XS.iloadN X32.here hx rfl (hb hby at_34) rfl ?_
      show Steps p.tables e below (T32.setTop (mkF m 35 #[.val (.int p1), .val (.ref b1o), .val (.int (0 : Int32)), .unset, .unset, .unset, .unset, .unset] [(.int (0 : Int32)), (.ref b1o)])) _
      refine X32.aaload hx (j := (0 : Int32)) (v := (.ref w0)) (by rw [e32]; exact Ar34.1) (State.isArrayOf_alike hZ.alike Ar34.2.1) rfl Ar34.2.2 hin35 hat35 (g := (mkF m 35 #[.val (.int p1), .val (.ref b1o), .val (.int (0 : Int32)), .unset, .unset, .unset, .unset, .unset] [(.int (0 : Int32)), (.ref b1o)])) rfl rfl (hb hby at_35) _ ?_
      show Steps p.tables e below (T32.setTop (mkF m 36 #[.val (.int p1), .val (.ref b1o), .val (.int (0 : Int32)), .unset, .unset, .unset, .unset, .unset] [(.ref w0)])) _
      refine XS.astoreN X32.here hx rfl (hb hby at_36) rfl rfl (l' := #[.val (.int p1), .val (.ref b1o), .val (.int (0 : Int32)), .val (.ref w0), .unset, .unset, .unset, .unset]) rfl ?_
      show Steps p.tables e below (T32.setTop (mkF m 37 #[.val (.int p1), .val (.ref b1o), .val (.int (0 : Int32)), .val (.ref w0), .unset, .unset, .unset, .unset] [])) _
      refine XS.iloadN X32.here hx rfl (hb hby at_37) rfl ?_
      show Steps p.tables e below (T32.setTop (mkF m 38 #[.val (.int p1), .val (.ref b1o), .val (.int (0 : Int32)), .val (.ref w0), .unset, .unset, .unset, .unset] [(.int (0 : Int32))])) _
      refine XS.iconst X32.here hx rfl (hb hby at_38) ?_
      show Steps p.tables e below (T32.setTop (mkF m 39 #[.val (.int p1), .val (.ref b1o), .val (.int (0 : Int32)), .val (.ref w0), .unset, .unset, .unset, .unset] [(.int (2 : Int32)), (.int (0 : Int32))])) _
      refine XS.icmpNo X32.here hx rfl (hb hby at_39) rfl (tlt (by decide)).2.1 ?_
      show Steps p.tables e below (T32.setTop (mkF m 42 #[.val (.int p1), .val (.ref b1o), .val (.int (0 : Int32)), .val (.ref w0), .unset, .unset, .unset, .unset] [])) _
      refine XS.iconst X32.here hx rfl (hb hby at_42) ?_
      show Steps p.tables e below (T32.setTop (mkF m 43 #[.val (.int p1), .val (.ref b1o), .val (.int (0 : Int32)), .val (.ref w0), .unset, .unset, .unset, .unset] [(.int (1 : Int32))])) _
      refine XS.goto X32.here hx rfl (pc0 := 43) (pc' := 47) rfl (hb hby at_43) (by decide) (by decide) ?_
      show Steps p.tables e below (T32.setTop (mkF m 47 #[.val (.int p1), .val (.ref b1o), .val (.int (0 : Int32)), .val (.ref w0), .unset, .unset, .unset, .unset] [(.int (1 : Int32))])) _
      refine XS.istore X32.here hx rfl (hb hby at_47) rfl (l' := #[.val (.int p1), .val (.ref b1o), .val (.int (0 : Int32)), .val (.ref w0), .val (.int (1 : Int32)), .unset, .unset, .unset]) rfl ?_
      show Steps p.tables e below (T32.setTop (mkF m 49 #[.val (.int p1), .val (.ref b1o), .val (.int (0 : Int32)), .val (.ref w0), .val (.int (1 : Int32)), .unset, .unset, .unset] [])) _
      refine XS.aloadN X32.here hx rfl (hb hby at_49) rfl rfl ?_
      show Steps p.tables e below (T32.setTop (mkF m 50 #[.val (.int p1), .val (.ref b1o), .val (.int (0 : Int32)), .val (.ref w0), .val (.int (1 : Int32)), .unset, .unset, .unset] [(.ref w0)])) _
      refine st36.trans ?_
      show Steps p.tables e below (T36.setTop (mkF m 53 #[.val (.int p1), .val (.ref b1o), .val (.int (0 : Int32)), .val (.ref w0), .val (.int (1 : Int32)), .unset, .unset, .unset] [(.int r36)])) _
      refine XS.istore X36.here hx rfl (hb hby at_53) rfl (l' := #[.val (.int p1), .val (.ref b1o), .val (.int (0 : Int32)), .val (.ref w0), .val (.int (1 : Int32)), .val (.int r36), .unset, .unset]) rfl ?_
      show Steps p.tables e below (T36.setTop (mkF m 55 #[.val (.int p1), .val (.ref b1o), .val (.int (0 : Int32)), .val (.ref w0), .val (.int (1 : Int32)), .val (.int r36), .unset, .unset] [])) _
      refine XS.aloadN X36.here hx rfl (hb hby at_55) rfl rfl ?_
      show Steps p.tables e below (T36.setTop (mkF m 56 #[.val (.int p1), .val (.ref b1o), .val (.int (0 : Int32)), .val (.ref w0), .val (.int (1 : Int32)), .val (.int r36), .unset, .unset] [(.ref w0)])) _
      refine st39.trans ?_
      show Steps p.tables e below (T39.setTop (mkF m 59 #[.val (.int p1), .val (.ref b1o), .val (.int (0 : Int32)), .val (.ref w0), .val (.int (1 : Int32)), .val (.int r36), .unset, .unset] [(.ref l0)])) _
      refine XS.astore X39.here hx rfl (hb hby at_59) rfl rfl (l' := #[.val (.int p1), .val (.ref b1o), .val (.int (0 : Int32)), .val (.ref w0), .val (.int (1 : Int32)), .val (.int r36), .val (.ref l0), .unset]) rfl ?_
      show Steps p.tables e below (T39.setTop (mkF m 61 #[.val (.int p1), .val (.ref b1o), .val (.int (0 : Int32)), .val (.ref w0), .val (.int (1 : Int32)), .val (.int r36), .val (.ref l0), .unset] [])) _
      refine XS.aload X39.here hx rfl (hb hby at_61) rfl rfl ?_
      show Steps p.tables e below (T39.setTop (mkF m 63 #[.val (.int p1), .val (.ref b1o), .val (.int (0 : Int32)), .val (.ref w0), .val (.int (1 : Int32)), .val (.int r36), .val (.ref l0), .unset] [(.ref l0)])) _
      refine st41 _ ?_
      show Steps p.tables e below (T41.setTop (mkF m 65 #[.val (.int p1), .val (.ref b1o), .val (.int (0 : Int32)), .val (.ref w0), .val (.int (1 : Int32)), .val (.int r36), .val (.ref l0), .unset] [(.ref sa41), (.ref l0)])) _
      refine st42.trans ?_
      show Steps p.tables e below (T42.setTop (mkF m 68 #[.val (.int p1), .val (.ref b1o), .val (.int (0 : Int32)), .val (.ref w0), .val (.int (1 : Int32)), .val (.int r36), .val (.ref l0), .unset] [(.int r42)])) _
      refine XS.ifYes X42.here hx rfl (pc0 := 68) (pc' := 81) rfl (hb hby at_68) rfl ((if0 _ _).trans (feq (by rw [hr42]; decide)).2) (by decide) (by decide) ?_
      show Steps p.tables e below (T42.setTop (mkF m 81 #[.val (.int p1), .val (.ref b1o), .val (.int (0 : Int32)), .val (.ref w0), .val (.int (1 : Int32)), .val (.int r36), .val (.ref l0), .unset] [])) _
      refine XS.iconst X42.here hx rfl (hb hby at_81) ?_
      show Steps p.tables e below (T42.setTop (mkF m 82 #[.val (.int p1), .val (.ref b1o), .val (.int (0 : Int32)), .val (.ref w0), .val (.int (1 : Int32)), .val (.int r36), .val (.ref l0), .unset] [(.int (1 : Int32))])) _
      refine XS.goto X42.here hx rfl (pc0 := 82) (pc' := 86) rfl (hb hby at_82) (by decide) (by decide) ?_
      show Steps p.tables e below (T42.setTop (mkF m 86 #[.val (.int p1), .val (.ref b1o), .val (.int (0 : Int32)), .val (.ref w0), .val (.int (1 : Int32)), .val (.int r36), .val (.ref l0), .unset] [(.int (1 : Int32))])) _
      refine XS.istore X42.here hx rfl (hb hby at_86) rfl (l' := #[.val (.int p1), .val (.ref b1o), .val (.int (0 : Int32)), .val (.ref w0), .val (.int (1 : Int32)), .val (.int r36), .val (.ref l0), .val (.int (1 : Int32))]) rfl ?_
      show Steps p.tables e below (T42.setTop (mkF m 88 #[.val (.int p1), .val (.ref b1o), .val (.int (0 : Int32)), .val (.ref w0), .val (.int (1 : Int32)), .val (.int r36), .val (.ref l0), .val (.int (1 : Int32))] [])) _
      refine XS.iload X42.here hx rfl (hb hby at_88) rfl ?_
      show Steps p.tables e below (T42.setTop (mkF m 90 #[.val (.int p1), .val (.ref b1o), .val (.int (0 : Int32)), .val (.ref w0), .val (.int (1 : Int32)), .val (.int r36), .val (.ref l0), .val (.int (1 : Int32))] [(.int r36)])) _
      refine XS.iload X42.here hx rfl (hb hby at_90) rfl ?_
      show Steps p.tables e below (T42.setTop (mkF m 92 #[.val (.int p1), .val (.ref b1o), .val (.int (0 : Int32)), .val (.ref w0), .val (.int (1 : Int32)), .val (.int r36), .val (.ref l0), .val (.int (1 : Int32))] [(.int (1 : Int32)), (.int r36)])) _
      refine XS.icmpNo X42.here hx rfl (hb hby at_92) rfl (teq (by rw [hr36]; rw [if_pos rfl])).2 ?_
      show Steps p.tables e below (T42.setTop (mkF m 95 #[.val (.int p1), .val (.ref b1o), .val (.int (0 : Int32)), .val (.ref w0), .val (.int (1 : Int32)), .val (.int r36), .val (.ref l0), .val (.int (1 : Int32))] [])) _
      refine XS.iload X42.here hx rfl (hb hby at_95) rfl ?_
      show Steps p.tables e below (T42.setTop (mkF m 97 #[.val (.int p1), .val (.ref b1o), .val (.int (0 : Int32)), .val (.ref w0), .val (.int (1 : Int32)), .val (.int r36), .val (.ref l0), .val (.int (1 : Int32))] [(.int r36)])) _
      refine XS.iload X42.here hx rfl (hb hby at_97) rfl ?_
      show Steps p.tables e below (T42.setTop (mkF m 99 #[.val (.int p1), .val (.ref b1o), .val (.int (0 : Int32)), .val (.ref w0), .val (.int (1 : Int32)), .val (.int r36), .val (.ref l0), .val (.int (1 : Int32))] [(.int (1 : Int32)), (.int r36)])) _
      refine XS.icmpNo X42.here hx rfl (hb hby at_99) rfl (teq (by rw [hr36]; rw [if_pos rfl])).2 ?_
      show Steps p.tables e below (T42.setTop (mkF m 102 #[.val (.int p1), .val (.ref b1o), .val (.int (0 : Int32)), .val (.ref w0), .val (.int (1 : Int32)), .val (.int r36), .val (.ref l0), .val (.int (1 : Int32))] [])) _
      refine XS.iconst X42.here hx rfl (hb hby at_102) ?_
      show Steps p.tables e below (T42.setTop (mkF m 103 #[.val (.int p1), .val (.ref b1o), .val (.int (0 : Int32)), .val (.ref w0), .val (.int (1 : Int32)), .val (.int r36), .val (.ref l0), .val (.int (1 : Int32))] [(.int (1 : Int32))])) _
      refine XS.goto X42.here hx rfl (pc0 := 103) (pc' := 107) rfl (hb hby at_103) (by decide) (by decide) ?_
      show Steps p.tables e below (T42.setTop (mkF m 107 #[.val (.int p1), .val (.ref b1o), .val (.int (0 : Int32)), .val (.ref w0), .val (.int (1 : Int32)), .val (.int r36), .val (.ref l0), .val (.int (1 : Int32))] [(.int (1 : Int32))])) _
      exact retN X42 hx (t := .boolean) Bd.returns (by simp) (hb hby at_107) hr
    · show Qrm0 Z p1 G1 w0 l0 x0 k0 w1 l1 x1 k1 w2 l2 x2 k2 w3 l3 x3 k3 h0 n0 _ T42.heap _
      exact ⟨rfl, N42⟩
  · obtain ⟨cl48, Ar48, qk48, Sz48, Nn48, Hh48, Gg48⟩ := id (V32)
    have hin49 : ¬ ((1 : Int32) < 0 ∨ cl48.slots.size ≤ ((1 : Int32)).toNatClampNeg) := inb_of Sz48 ⟨by decide, by decide⟩
    have hat49 : cl48.slots[((1 : Int32)).toNatClampNeg]? = some (.ref w1) := Has.at Hh48 hin49 rfl
    have f51 := (f29.wr W32 b1)
    have f52 := (((f23.wr W22).wr W27).wr W32)
    obtain ⟨cq50, kz50, q50a, q50b, q50c⟩ := isOf hZ e32 f52
    obtain ⟨_, _, ⟨T50, Lq50, kq50, nq50⟩, -, X50, ⟨Lc50, hQ50, lq50, yq50, zq50⟩, st50⟩ := X32.virtualBack hx (y := (⟨"com/example/wrasse/wrasse/model/Edit$Kind", "mayStartWord", "()Z"⟩ : MethodName)) (z := (⟨"com/example/wrasse/wrasse/model/Edit$Kind", "mayStartWord", "()Z"⟩ : MethodName)) hown (mvT hZ (hw _ (List.mem_of_getElem? (i := 12) rfl))) (mvT hZ (hw _ (List.mem_of_getElem? (i := 13) rfl))) (notFace_of_selects (args := #[]) (mvT hZ (hw _ (List.mem_of_getElem? (i := 15) rfl)))) (mvT hZ (hw _ (List.mem_of_getElem? (i := 15) rfl))) (mvT hZ (hw _ (List.mem_of_getElem? (i := 14) rfl))) (by decide) (backOf (W := 0) (rmM l Z a0 hw [] w1 w0 w1 h32 n0 Z32 (O_s0.ext f51.2) (O_s1.ext f51.2)) hZ (hw _ (List.mem_of_getElem? (i := 16) rfl)) (hw _ (List.mem_of_getElem? (i := 3) rfl)) (by decide) (by decide)) q50a q50c (g := (mkF m 50 #[.val (.int p1), .val (.ref b1o), .val (.int (1 : Int32)), .val (.ref w1), .val (.int (1 : Int32)), .unset, .unset, .unset] [(.ref w1)])) rfl (by rw [hml]; rfl) (Steps.refl _) (argsL := []) (rest := []) (lenOf pd_1 rfl) rfl (by show 2 * 0 + _ ≤ _; exact Nat.le_of_eq rfl) (hb hby at_50) (fun _ _ => ⟨rfl, e32, (by decide : 1 + 0 ≤ _), (by decide : 4 + 0 ≤ _)⟩)
    dsimp only [Pt.U, Pt.locs, Pt.cells, Pt.slots] at X50 lq50 yq50 zq50 st50 hQ50
    subst lq50 yq50 zq50
    obtain ⟨r50, hr50, rfl, N50q, e50⟩ := hQ50
    have N50 := Fr.app N32 N50q
    have f54 := (((((FL1.ext E1).other W17 (Or.inl ne5)).other W22 (Or.inl ne5)).other W27 (Or.inl ne5)).other W32 (Or.inl ne5))
    obtain ⟨cq53, kz53, q53a, q53b, q53c⟩ := isOf hZ e50 f52
    obtain ⟨_, _, ⟨T53, Lq53, kq53, nq53⟩, -, X53, ⟨Lc53, hQ53, lq53, yq53, zq53⟩, st53⟩ := X50.virtualBack hx (y := (⟨"com/example/wrasse/wrasse/model/Edit$Kind", "label", "()Ljava/lang/String;"⟩ : MethodName)) (z := (⟨"com/example/wrasse/wrasse/model/Edit$Kind", "label", "()Ljava/lang/String;"⟩ : MethodName)) hown (mvT hZ (hw _ (List.mem_of_getElem? (i := 18) rfl))) (mvT hZ (hw _ (List.mem_of_getElem? (i := 19) rfl))) (notFace_of_selects (args := #[]) (mvT hZ (hw _ (List.mem_of_getElem? (i := 21) rfl)))) (mvT hZ (hw _ (List.mem_of_getElem? (i := 21) rfl))) (mvT hZ (hw _ (List.mem_of_getElem? (i := 20) rfl))) (by decide) (backOf (W := 0) (rmL l Z a0 hw [] w1 l1 h32 n0 Z32 f54) hZ (hw _ (List.mem_of_getElem? (i := 22) rfl)) (hw _ (List.mem_of_getElem? (i := 3) rfl)) (by decide) (by decide)) q53a q53c (g := (mkF m 56 #[.val (.int p1), .val (.ref b1o), .val (.int (1 : Int32)), .val (.ref w1), .val (.int (1 : Int32)), .val (.int r50), .unset, .unset] [(.ref w1)])) rfl (by rw [hml]; rfl) (Steps.refl _) (argsL := []) (rest := []) (lenOf pd_2 rfl) rfl (by show 2 * 0 + _ ≤ _; exact Nat.le_of_eq rfl) (hb hby at_56) (fun _ _ => ⟨rfl, e50, (by decide : 1 + 0 ≤ _), (by decide : 4 + 0 ≤ _)⟩)
    dsimp only [Pt.U, Pt.locs, Pt.cells, Pt.slots] at X53 lq53 yq53 zq53 st53 hQ53
    subst lq53 yq53 zq53
    obtain ⟨rfl, N53q, e53⟩ := hQ53
    have N53 := Fr.app N50 N53q
    have hS0 : s.Since s.vm s.heap.size := (State.WarmedH.refl s).since _
    have I0 : IB Z s.vm [] := by rw [hUZ]; exact IB.start
    have hkp : ∀ (b : Addr) (cl : Cell), Z.heap[b]? = some cl → s.heap[b]? = some cl := by rw [hUZ]; exact fun _ _ q => q
    have wS : ∀ a ∈ Bundle.stringAtoms, a.before a0 Z = true := fun d hd => hw d ((by decide +kernel : ∀ d ∈ Bundle.stringAtoms, d ∈ tables_1) d hd)
    obtain ⟨sa55, T55, h55, k155, sb55, sk55, X55, e55, E55, hS55, hk55, hZ55, ho55, SE55, SC55, SV55, SA55, -, -, I55, st55⟩ := ldcSV (s := s) (vm0 := s.vm) (Z := Z) (h := h32) X53 hx hZ hown (hw _ (List.mem_of_getElem? (i := 25) rfl)) wS e53 hS0 (Nat.le_trans (Nat.le_of_eq (by rw [hh]; exact hn0.symm)) Z32) (by rw [hh, ← hn0]; exact N53) hkp I0 (by decide) (hcs ("com/example/wrasse/wrasse/model/KindMayStartWordPinLaw", 30) (by decide +kernel)) hcw (vs := [(.int (100 : Int32)), (.int (101 : Int32)), (.int (108 : Int32))]) (z := (3 : Int32)) ⟨by decide +kernel, by decide +kernel⟩ (by decide) (by decide) (g := (mkF m 63 #[.val (.int p1), .val (.ref b1o), .val (.int (1 : Int32)), .val (.ref w1), .val (.int (1 : Int32)), .val (.int r50), .val (.ref l1), .unset] [(.ref l1)])) rfl (hb hby at_63) (n := 12) (by decide +kernel) (by decide) (by decide) (by decide)
    have Z55 : n0 ≤ h55.size := Nat.le_trans Z32 E55.1
    have f57 := (f51.ext E55)
    have f58 := ((((((EL1.ext E1).wr W17).wr W22).wr W27).wr W32).ext E55)
    have f59 := ((((((FV1.ext E1).other W17 (Or.inl ne6)).other W22 (Or.inl ne6)).other W27 (Or.inl ne6)).other W32 (Or.inl ne6)).ext E55)
    have f60 := ((((((FC1.ext E1).other W17 (Or.inl ne6)).other W22 (Or.inl ne6)).other W27 (Or.inl ne6)).other W32 (Or.inl ne6)).ext E55)
    have f61 := ((((((AV1.ext E1).other W17 ne7).other W22 ne7).other W27 ne7).other W32 ne7).ext E55)
    obtain ⟨cq56, kz56, q56a, q56b, q56c⟩ := isOf hZ55 e55 f58
    obtain ⟨_, _, ⟨T56, Lq56, kq56, nq56⟩, -, X56, ⟨Lc56, hQ56, lq56, yq56, zq56⟩, st56⟩ := X55.virtualBack hx (y := (⟨"java/lang/String", "equals", "(Ljava/lang/Object;)Z"⟩ : MethodName)) (z := (⟨"java/lang/String", "equals", "(Ljava/lang/Object;)Z"⟩ : MethodName)) ho55 (mvT hZ55 (hw _ (List.mem_of_getElem? (i := 33) rfl))) (mvT hZ55 (hw _ (List.mem_of_getElem? (i := 34) rfl))) (notFace_of_selects (args := #[]) (mvT hZ55 (hw _ (List.mem_of_getElem? (i := 36) rfl)))) (mvT hZ55 (hw _ (List.mem_of_getElem? (i := 36) rfl))) (mvT hZ55 (hw _ (List.mem_of_getElem? (i := 35) rfl))) (by decide) (backOf (W := 0) (rmE l Z a0 hw [] l1 sa55 G1 x1 sb55 k1 sk55 (97 : Int32) (100 : Int32) (100 : Int32) (100 : Int32) (101 : Int32) (108 : Int32) h55 n0 Z55 (O_2.ext f57.2) P5 f58 SE55 f59 SV55 f60 SC55 f61 SA55) hZ55 (hw _ (List.mem_of_getElem? (i := 37) rfl)) (hw _ (List.mem_of_getElem? (i := 26) rfl)) (by decide) (by decide)) q56a q56c (g := (mkF m 65 #[.val (.int p1), .val (.ref b1o), .val (.int (1 : Int32)), .val (.ref w1), .val (.int (1 : Int32)), .val (.int r50), .val (.ref l1), .unset] [(.ref sa55), (.ref l1)])) rfl (by rw [hml]; rfl) (Steps.refl _) (argsL := [(.ref sa55)]) (rest := []) (lenOf pd_3 rfl) rfl (by show 2 * 0 + _ ≤ _; exact Nat.le_of_eq rfl) (hb hby at_65) (fun _ _ => ⟨rfl, e55, (by decide : 3 + 0 ≤ _), (by decide : 20 + 0 ≤ _)⟩)
    dsimp only [Pt.U, Pt.locs, Pt.cells, Pt.slots] at X56 lq56 yq56 zq56 st56 hQ56
    subst lq56 yq56 zq56
    obtain ⟨r56, hr56, rfl, N56q, e56⟩ := hQ56
    have N56 := Fr.app N53 N56q
    obtain ⟨sa62, T62, h62, k162, sb62, sk62, X62, e62, E62, hS62, hk62, hZ62, ho62, SE62, SC62, SV62, SA62, -, -, I62, st62⟩ := ldcSV (s := s) (vm0 := T55.vm) (Z := Z) (h := h55) X56 hx hZ55 ho55 (hw _ (List.mem_of_getElem? (i := 48) rfl)) wS e56 hS55 hk55 (by rw [hh, ← hn0]; exact N56) hkp I55 (by decide) (hcs ("com/example/wrasse/wrasse/model/KindMayStartWordPinLaw", 38) (by decide +kernel)) hcw (vs := [(.int (97 : Int32)), (.int (100 : Int32)), (.int (100 : Int32))]) (z := (3 : Int32)) ⟨by decide +kernel, by decide +kernel⟩ (by decide) (by decide) (g := (mkF m 73 #[.val (.int p1), .val (.ref b1o), .val (.int (1 : Int32)), .val (.ref w1), .val (.int (1 : Int32)), .val (.int r50), .val (.ref l1), .unset] [(.ref l1)])) rfl (hb hby at_73) (n := 12) (by decide +kernel) (by decide) (by decide) (by decide)
    have Z62 : n0 ≤ h62.size := Nat.le_trans Z55 E62.1
    have f64 := (f57.ext E62)
    have f65 := (f58.ext E62)
    have f66 := (f59.ext E62)
    have f67 := (f60.ext E62)
    have f68 := (f61.ext E62)
    obtain ⟨cq63, kz63, q63a, q63b, q63c⟩ := isOf hZ62 e62 f65
    obtain ⟨_, _, ⟨T63, Lq63, kq63, nq63⟩, -, X63, ⟨Lc63, hQ63, lq63, yq63, zq63⟩, st63⟩ := X62.virtualBack hx (y := (⟨"java/lang/String", "equals", "(Ljava/lang/Object;)Z"⟩ : MethodName)) (z := (⟨"java/lang/String", "equals", "(Ljava/lang/Object;)Z"⟩ : MethodName)) ho62 (mvT hZ62 (hw _ (List.mem_of_getElem? (i := 33) rfl))) (mvT hZ62 (hw _ (List.mem_of_getElem? (i := 34) rfl))) (notFace_of_selects (args := #[]) (mvT hZ62 (hw _ (List.mem_of_getElem? (i := 36) rfl)))) (mvT hZ62 (hw _ (List.mem_of_getElem? (i := 36) rfl))) (mvT hZ62 (hw _ (List.mem_of_getElem? (i := 35) rfl))) (by decide) (backOf (W := 0) (rmE l Z a0 hw [] l1 sa62 G1 x1 sb62 k1 sk62 (97 : Int32) (100 : Int32) (100 : Int32) (97 : Int32) (100 : Int32) (100 : Int32) h62 n0 Z62 (O_2.ext f64.2) P5 f65 SE62 f66 SV62 f67 SC62 f68 SA62) hZ62 (hw _ (List.mem_of_getElem? (i := 37) rfl)) (hw _ (List.mem_of_getElem? (i := 26) rfl)) (by decide) (by decide)) q63a q63c (g := (mkF m 75 #[.val (.int p1), .val (.ref b1o), .val (.int (1 : Int32)), .val (.ref w1), .val (.int (1 : Int32)), .val (.int r50), .val (.ref l1), .unset] [(.ref sa62), (.ref l1)])) rfl (by rw [hml]; rfl) (Steps.refl _) (argsL := [(.ref sa62)]) (rest := []) (lenOf pd_3 rfl) rfl (by show 2 * 0 + _ ≤ _; exact Nat.le_of_eq rfl) (hb hby at_75) (fun _ _ => ⟨rfl, e62, (by decide : 5 + 0 ≤ _), (by decide : 36 + 0 ≤ _)⟩)
    dsimp only [Pt.U, Pt.locs, Pt.cells, Pt.slots] at X63 lq63 yq63 zq63 st63 hQ63
    subst lq63 yq63 zq63
    obtain ⟨r63, hr63, rfl, N63q, e63⟩ := hQ63
    have N63 := Fr.app N56 N63q
    obtain ⟨fs, hr, hrun, hended, hwd⟩ := X63.leaveW hS62 (Nat.le_trans hk62 (Nat.le_of_eq (congrArg Array.size e63).symm)) (v := some (.int (1 : Int32))) (fun h => by rw [Bd.returns] at h; cases h)
    refine ⟨_, _, pre0 _ ?_, hrun, hended, _, _, rfl, ?_, hwd.1, hwd.2.1, hwd.2.2.1, hwd.2.2.2.mono (by decide) (by decide)⟩
    · show Steps p.tables e below (s₁.setTop (mkF m 0 #[.val (.int p1), .unset, .unset, .unset, .unset, .unset, .unset, .unset] [])) _
      refine XS.iconst X0.here hx rfl (hb hby at_0) ?_
      show Steps p.tables e below (s₁.setTop (mkF m 1 #[.val (.int p1), .unset, .unset, .unset, .unset, .unset, .unset, .unset] [(.int (4 : Int32))])) _
      refine st1 _ ?_
      show Steps p.tables e below (T1.setTop (mkF m 4 #[.val (.int p1), .unset, .unset, .unset, .unset, .unset, .unset, .unset] [(.ref b1o)])) _
      refine XS.dup X1.here hx rfl (hb hby at_4) rfl rfl ?_
      show Steps p.tables e below (T1.setTop (mkF m 5 #[.val (.int p1), .unset, .unset, .unset, .unset, .unset, .unset, .unset] [(.ref b1o), (.ref b1o)])) _
      refine XS.iconst X1.here hx rfl (hb hby at_5) ?_
      show Steps p.tables e below (T1.setTop (mkF m 6 #[.val (.int p1), .unset, .unset, .unset, .unset, .unset, .unset, .unset] [(.int (0 : Int32)), (.ref b1o), (.ref b1o)])) _
      refine st15 _ ?_
      show Steps p.tables e below (T15.setTop (mkF m 9 #[.val (.int p1), .unset, .unset, .unset, .unset, .unset, .unset, .unset] [(.ref w0), (.int (0 : Int32)), (.ref b1o), (.ref b1o)])) _
      refine st17 _ ?_
      show Steps p.tables e below (T17.setTop (mkF m 10 #[.val (.int p1), .unset, .unset, .unset, .unset, .unset, .unset, .unset] [(.ref b1o)])) _
      refine XS.dup X17.here hx rfl (hb hby at_10) rfl rfl ?_
      show Steps p.tables e below (T17.setTop (mkF m 11 #[.val (.int p1), .unset, .unset, .unset, .unset, .unset, .unset, .unset] [(.ref b1o), (.ref b1o)])) _
      refine XS.iconst X17.here hx rfl (hb hby at_11) ?_
      show Steps p.tables e below (T17.setTop (mkF m 12 #[.val (.int p1), .unset, .unset, .unset, .unset, .unset, .unset, .unset] [(.int (1 : Int32)), (.ref b1o), (.ref b1o)])) _
      refine st20 _ ?_
      show Steps p.tables e below (T20.setTop (mkF m 15 #[.val (.int p1), .unset, .unset, .unset, .unset, .unset, .unset, .unset] [(.ref w1), (.int (1 : Int32)), (.ref b1o), (.ref b1o)])) _
      refine st22 _ ?_
      show Steps p.tables e below (T22.setTop (mkF m 16 #[.val (.int p1), .unset, .unset, .unset, .unset, .unset, .unset, .unset] [(.ref b1o)])) _
      refine XS.dup X22.here hx rfl (hb hby at_16) rfl rfl ?_
      show Steps p.tables e below (T22.setTop (mkF m 17 #[.val (.int p1), .unset, .unset, .unset, .unset, .unset, .unset, .unset] [(.ref b1o), (.ref b1o)])) _
      refine XS.iconst X22.here hx rfl (hb hby at_17) ?_
      show Steps p.tables e below (T22.setTop (mkF m 18 #[.val (.int p1), .unset, .unset, .unset, .unset, .unset, .unset, .unset] [(.int (2 : Int32)), (.ref b1o), (.ref b1o)])) _
      refine st25 _ ?_
      show Steps p.tables e below (T25.setTop (mkF m 21 #[.val (.int p1), .unset, .unset, .unset, .unset, .unset, .unset, .unset] [(.ref w2), (.int (2 : Int32)), (.ref b1o), (.ref b1o)])) _
      refine st27 _ ?_
      show Steps p.tables e below (T27.setTop (mkF m 22 #[.val (.int p1), .unset, .unset, .unset, .unset, .unset, .unset, .unset] [(.ref b1o)])) _
      refine XS.dup X27.here hx rfl (hb hby at_22) rfl rfl ?_
      show Steps p.tables e below (T27.setTop (mkF m 23 #[.val (.int p1), .unset, .unset, .unset, .unset, .unset, .unset, .unset] [(.ref b1o), (.ref b1o)])) _
      refine XS.iconst X27.here hx rfl (hb hby at_23) ?_
      show Steps p.tables e below (T27.setTop (mkF m 24 #[.val (.int p1), .unset, .unset, .unset, .unset, .unset, .unset, .unset] [(.int (3 : Int32)), (.ref b1o), (.ref b1o)])) _
      refine st30 _ ?_
      show Steps p.tables e below (T30.setTop (mkF m 27 #[.val (.int p1), .unset, .unset, .unset, .unset, .unset, .unset, .unset] [(.ref w3), (.int (3 : Int32)), (.ref b1o), (.ref b1o)])) _
      refine st32 _ ?_
      show Steps p.tables e below (T32.setTop (mkF m 28 #[.val (.int p1), .unset, .unset, .unset, .unset, .unset, .unset, .unset] [(.ref b1o)])) _
      refine XS.astoreN X32.here hx rfl (hb hby at_28) rfl rfl (l' := #[.val (.int p1), .val (.ref b1o), .unset, .unset, .unset, .unset, .unset, .unset]) rfl ?_
      show Steps p.tables e below (T32.setTop (mkF m 29 #[.val (.int p1), .val (.ref b1o), .unset, .unset, .unset, .unset, .unset, .unset] [])) _
      refine XS.iloadN X32.here hx rfl (hb hby at_29) rfl ?_
      show Steps p.tables e below (T32.setTop (mkF m 30 #[.val (.int p1), .val (.ref b1o), .unset, .unset, .unset, .unset, .unset, .unset] [(.int p1)])) _
      refine XS.iconst X32.here hx rfl (hb hby at_30) ?_
      show Steps p.tables e below (T32.setTop (mkF m 31 #[.val (.int p1), .val (.ref b1o), .unset, .unset, .unset, .unset, .unset, .unset] [(.int (3 : Int32)), (.int p1)])) _
      refine XS.iand X32.here hx rfl (hb hby at_31) rfl ?_
      show Steps p.tables e below (T32.setTop (mkF m 32 #[.val (.int p1), .val (.ref b1o), .unset, .unset, .unset, .unset, .unset, .unset] [(.int (p1 &&& (3 : Int32)))])) _
      refine XS.istoreN X32.here hx rfl (hb hby at_32) rfl (l' := #[.val (.int p1), .val (.ref b1o), .val (.int (p1 &&& (3 : Int32))), .unset, .unset, .unset, .unset, .unset]) rfl ?_
      show Steps p.tables e below (T32.setTop (mkF m 33 #[.val (.int p1), .val (.ref b1o), .val (.int (p1 &&& (3 : Int32))), .unset, .unset, .unset, .unset, .unset] [])) _
      rw [hI]
      show Steps p.tables e below (T32.setTop (mkF m 33 #[.val (.int p1), .val (.ref b1o), .val (.int (1 : Int32)), .unset, .unset, .unset, .unset, .unset] [])) _
      refine XS.aloadN X32.here hx rfl (hb hby at_33) rfl rfl ?_
      show Steps p.tables e below (T32.setTop (mkF m 34 #[.val (.int p1), .val (.ref b1o), .val (.int (1 : Int32)), .unset, .unset, .unset, .unset, .unset] [(.ref b1o)])) _
      refine XS.iloadN X32.here hx rfl (hb hby at_34) rfl ?_
      show Steps p.tables e below (T32.setTop (mkF m 35 #[.val (.int p1), .val (.ref b1o), .val (.int (1 : Int32)), .unset, .unset, .unset, .unset, .unset] [(.int (1 : Int32)), (.ref b1o)])) _
      refine X32.aaload hx (j := (1 : Int32)) (v := (.ref w1)) (by rw [e32]; exact Ar48.1) (State.isArrayOf_alike hZ.alike Ar48.2.1) rfl Ar48.2.2 hin49 hat49 (g := (mkF m 35 #[.val (.int p1), .val (.ref b1o), .val (.int (1 : Int32)), .unset, .unset, .unset, .unset, .unset] [(.int (1 : Int32)), (.ref b1o)])) rfl rfl (hb hby at_35) _ ?_
      show Steps p.tables e below (T32.setTop (mkF m 36 #[.val (.int p1), .val (.ref b1o), .val (.int (1 : Int32)), .unset, .unset, .unset, .unset, .unset] [(.ref w1)])) _
      refine XS.astoreN X32.here hx rfl (hb hby at_36) rfl rfl (l' := #[.val (.int p1), .val (.ref b1o), .val (.int (1 : Int32)), .val (.ref w1), .unset, .unset, .unset, .unset]) rfl ?_
      show Steps p.tables e below (T32.setTop (mkF m 37 #[.val (.int p1), .val (.ref b1o), .val (.int (1 : Int32)), .val (.ref w1), .unset, .unset, .unset, .unset] [])) _
      refine XS.iloadN X32.here hx rfl (hb hby at_37) rfl ?_
      show Steps p.tables e below (T32.setTop (mkF m 38 #[.val (.int p1), .val (.ref b1o), .val (.int (1 : Int32)), .val (.ref w1), .unset, .unset, .unset, .unset] [(.int (1 : Int32))])) _
      refine XS.iconst X32.here hx rfl (hb hby at_38) ?_
      show Steps p.tables e below (T32.setTop (mkF m 39 #[.val (.int p1), .val (.ref b1o), .val (.int (1 : Int32)), .val (.ref w1), .unset, .unset, .unset, .unset] [(.int (2 : Int32)), (.int (1 : Int32))])) _
      refine XS.icmpNo X32.here hx rfl (hb hby at_39) rfl (tlt (by decide)).2.1 ?_
      show Steps p.tables e below (T32.setTop (mkF m 42 #[.val (.int p1), .val (.ref b1o), .val (.int (1 : Int32)), .val (.ref w1), .unset, .unset, .unset, .unset] [])) _
      refine XS.iconst X32.here hx rfl (hb hby at_42) ?_
      show Steps p.tables e below (T32.setTop (mkF m 43 #[.val (.int p1), .val (.ref b1o), .val (.int (1 : Int32)), .val (.ref w1), .unset, .unset, .unset, .unset] [(.int (1 : Int32))])) _
      refine XS.goto X32.here hx rfl (pc0 := 43) (pc' := 47) rfl (hb hby at_43) (by decide) (by decide) ?_
      show Steps p.tables e below (T32.setTop (mkF m 47 #[.val (.int p1), .val (.ref b1o), .val (.int (1 : Int32)), .val (.ref w1), .unset, .unset, .unset, .unset] [(.int (1 : Int32))])) _
      refine XS.istore X32.here hx rfl (hb hby at_47) rfl (l' := #[.val (.int p1), .val (.ref b1o), .val (.int (1 : Int32)), .val (.ref w1), .val (.int (1 : Int32)), .unset, .unset, .unset]) rfl ?_
      show Steps p.tables e below (T32.setTop (mkF m 49 #[.val (.int p1), .val (.ref b1o), .val (.int (1 : Int32)), .val (.ref w1), .val (.int (1 : Int32)), .unset, .unset, .unset] [])) _
      refine XS.aloadN X32.here hx rfl (hb hby at_49) rfl rfl ?_
      show Steps p.tables e below (T32.setTop (mkF m 50 #[.val (.int p1), .val (.ref b1o), .val (.int (1 : Int32)), .val (.ref w1), .val (.int (1 : Int32)), .unset, .unset, .unset] [(.ref w1)])) _
      refine st50.trans ?_
      show Steps p.tables e below (T50.setTop (mkF m 53 #[.val (.int p1), .val (.ref b1o), .val (.int (1 : Int32)), .val (.ref w1), .val (.int (1 : Int32)), .unset, .unset, .unset] [(.int r50)])) _
      refine XS.istore X50.here hx rfl (hb hby at_53) rfl (l' := #[.val (.int p1), .val (.ref b1o), .val (.int (1 : Int32)), .val (.ref w1), .val (.int (1 : Int32)), .val (.int r50), .unset, .unset]) rfl ?_
      show Steps p.tables e below (T50.setTop (mkF m 55 #[.val (.int p1), .val (.ref b1o), .val (.int (1 : Int32)), .val (.ref w1), .val (.int (1 : Int32)), .val (.int r50), .unset, .unset] [])) _
      refine XS.aloadN X50.here hx rfl (hb hby at_55) rfl rfl ?_
      show Steps p.tables e below (T50.setTop (mkF m 56 #[.val (.int p1), .val (.ref b1o), .val (.int (1 : Int32)), .val (.ref w1), .val (.int (1 : Int32)), .val (.int r50), .unset, .unset] [(.ref w1)])) _
      refine st53.trans ?_
      show Steps p.tables e below (T53.setTop (mkF m 59 #[.val (.int p1), .val (.ref b1o), .val (.int (1 : Int32)), .val (.ref w1), .val (.int (1 : Int32)), .val (.int r50), .unset, .unset] [(.ref l1)])) _
      refine XS.astore X53.here hx rfl (hb hby at_59) rfl rfl (l' := #[.val (.int p1), .val (.ref b1o), .val (.int (1 : Int32)), .val (.ref w1), .val (.int (1 : Int32)), .val (.int r50), .val (.ref l1), .unset]) rfl ?_
      show Steps p.tables e below (T53.setTop (mkF m 61 #[.val (.int p1), .val (.ref b1o), .val (.int (1 : Int32)), .val (.ref w1), .val (.int (1 : Int32)), .val (.int r50), .val (.ref l1), .unset] [])) _
      refine XS.aload X53.here hx rfl (hb hby at_61) rfl rfl ?_
      show Steps p.tables e below (T53.setTop (mkF m 63 #[.val (.int p1), .val (.ref b1o), .val (.int (1 : Int32)), .val (.ref w1), .val (.int (1 : Int32)), .val (.int r50), .val (.ref l1), .unset] [(.ref l1)])) _
      refine st55 _ ?_
      show Steps p.tables e below (T55.setTop (mkF m 65 #[.val (.int p1), .val (.ref b1o), .val (.int (1 : Int32)), .val (.ref w1), .val (.int (1 : Int32)), .val (.int r50), .val (.ref l1), .unset] [(.ref sa55), (.ref l1)])) _
      refine st56.trans ?_
      show Steps p.tables e below (T56.setTop (mkF m 68 #[.val (.int p1), .val (.ref b1o), .val (.int (1 : Int32)), .val (.ref w1), .val (.int (1 : Int32)), .val (.int r50), .val (.ref l1), .unset] [(.int r56)])) _
      refine XS.ifNo X56.here hx rfl (hb hby at_68) rfl ((if0 _ _).trans (teq (by rw [hr56]; decide)).2) ?_
      show Steps p.tables e below (T56.setTop (mkF m 71 #[.val (.int p1), .val (.ref b1o), .val (.int (1 : Int32)), .val (.ref w1), .val (.int (1 : Int32)), .val (.int r50), .val (.ref l1), .unset] [])) _
      refine XS.aload X56.here hx rfl (hb hby at_71) rfl rfl ?_
      show Steps p.tables e below (T56.setTop (mkF m 73 #[.val (.int p1), .val (.ref b1o), .val (.int (1 : Int32)), .val (.ref w1), .val (.int (1 : Int32)), .val (.int r50), .val (.ref l1), .unset] [(.ref l1)])) _
      refine st62 _ ?_
      show Steps p.tables e below (T62.setTop (mkF m 75 #[.val (.int p1), .val (.ref b1o), .val (.int (1 : Int32)), .val (.ref w1), .val (.int (1 : Int32)), .val (.int r50), .val (.ref l1), .unset] [(.ref sa62), (.ref l1)])) _
      refine st63.trans ?_
      show Steps p.tables e below (T63.setTop (mkF m 78 #[.val (.int p1), .val (.ref b1o), .val (.int (1 : Int32)), .val (.ref w1), .val (.int (1 : Int32)), .val (.int r50), .val (.ref l1), .unset] [(.int r63)])) _
      refine XS.ifNo X63.here hx rfl (hb hby at_78) rfl ((if0 _ _).trans (feq (by rw [hr63]; decide)).1) ?_
      show Steps p.tables e below (T63.setTop (mkF m 81 #[.val (.int p1), .val (.ref b1o), .val (.int (1 : Int32)), .val (.ref w1), .val (.int (1 : Int32)), .val (.int r50), .val (.ref l1), .unset] [])) _
      refine XS.iconst X63.here hx rfl (hb hby at_81) ?_
      show Steps p.tables e below (T63.setTop (mkF m 82 #[.val (.int p1), .val (.ref b1o), .val (.int (1 : Int32)), .val (.ref w1), .val (.int (1 : Int32)), .val (.int r50), .val (.ref l1), .unset] [(.int (1 : Int32))])) _
      refine XS.goto X63.here hx rfl (pc0 := 82) (pc' := 86) rfl (hb hby at_82) (by decide) (by decide) ?_
      show Steps p.tables e below (T63.setTop (mkF m 86 #[.val (.int p1), .val (.ref b1o), .val (.int (1 : Int32)), .val (.ref w1), .val (.int (1 : Int32)), .val (.int r50), .val (.ref l1), .unset] [(.int (1 : Int32))])) _
      refine XS.istore X63.here hx rfl (hb hby at_86) rfl (l' := #[.val (.int p1), .val (.ref b1o), .val (.int (1 : Int32)), .val (.ref w1), .val (.int (1 : Int32)), .val (.int r50), .val (.ref l1), .val (.int (1 : Int32))]) rfl ?_
      show Steps p.tables e below (T63.setTop (mkF m 88 #[.val (.int p1), .val (.ref b1o), .val (.int (1 : Int32)), .val (.ref w1), .val (.int (1 : Int32)), .val (.int r50), .val (.ref l1), .val (.int (1 : Int32))] [])) _
      refine XS.iload X63.here hx rfl (hb hby at_88) rfl ?_
      show Steps p.tables e below (T63.setTop (mkF m 90 #[.val (.int p1), .val (.ref b1o), .val (.int (1 : Int32)), .val (.ref w1), .val (.int (1 : Int32)), .val (.int r50), .val (.ref l1), .val (.int (1 : Int32))] [(.int r50)])) _
      refine XS.iload X63.here hx rfl (hb hby at_90) rfl ?_
      show Steps p.tables e below (T63.setTop (mkF m 92 #[.val (.int p1), .val (.ref b1o), .val (.int (1 : Int32)), .val (.ref w1), .val (.int (1 : Int32)), .val (.int r50), .val (.ref l1), .val (.int (1 : Int32))] [(.int (1 : Int32)), (.int r50)])) _
      refine XS.icmpNo X63.here hx rfl (hb hby at_92) rfl (teq (by rw [hr50]; rw [if_neg n10, if_pos rfl])).2 ?_
      show Steps p.tables e below (T63.setTop (mkF m 95 #[.val (.int p1), .val (.ref b1o), .val (.int (1 : Int32)), .val (.ref w1), .val (.int (1 : Int32)), .val (.int r50), .val (.ref l1), .val (.int (1 : Int32))] [])) _
      refine XS.iload X63.here hx rfl (hb hby at_95) rfl ?_
      show Steps p.tables e below (T63.setTop (mkF m 97 #[.val (.int p1), .val (.ref b1o), .val (.int (1 : Int32)), .val (.ref w1), .val (.int (1 : Int32)), .val (.int r50), .val (.ref l1), .val (.int (1 : Int32))] [(.int r50)])) _
      refine XS.iload X63.here hx rfl (hb hby at_97) rfl ?_
      show Steps p.tables e below (T63.setTop (mkF m 99 #[.val (.int p1), .val (.ref b1o), .val (.int (1 : Int32)), .val (.ref w1), .val (.int (1 : Int32)), .val (.int r50), .val (.ref l1), .val (.int (1 : Int32))] [(.int (1 : Int32)), (.int r50)])) _
      refine XS.icmpNo X63.here hx rfl (hb hby at_99) rfl (teq (by rw [hr50]; rw [if_neg n10, if_pos rfl])).2 ?_
      show Steps p.tables e below (T63.setTop (mkF m 102 #[.val (.int p1), .val (.ref b1o), .val (.int (1 : Int32)), .val (.ref w1), .val (.int (1 : Int32)), .val (.int r50), .val (.ref l1), .val (.int (1 : Int32))] [])) _
      refine XS.iconst X63.here hx rfl (hb hby at_102) ?_
      show Steps p.tables e below (T63.setTop (mkF m 103 #[.val (.int p1), .val (.ref b1o), .val (.int (1 : Int32)), .val (.ref w1), .val (.int (1 : Int32)), .val (.int r50), .val (.ref l1), .val (.int (1 : Int32))] [(.int (1 : Int32))])) _
      refine XS.goto X63.here hx rfl (pc0 := 103) (pc' := 107) rfl (hb hby at_103) (by decide) (by decide) ?_
      show Steps p.tables e below (T63.setTop (mkF m 107 #[.val (.int p1), .val (.ref b1o), .val (.int (1 : Int32)), .val (.ref w1), .val (.int (1 : Int32)), .val (.int r50), .val (.ref l1), .val (.int (1 : Int32))] [(.int (1 : Int32))])) _
      exact retN X63 hx (t := .boolean) Bd.returns (by simp) (hb hby at_107) hr
    · show Qrm0 Z p1 G1 w0 l0 x0 k0 w1 l1 x1 k1 w2 l2 x2 k2 w3 l3 x3 k3 h0 n0 _ T63.heap _
      exact ⟨rfl, N63⟩
  · obtain ⟨cl69, Ar69, qk69, Sz69, Nn69, Hh69, Gg69⟩ := id (V32)
    have hin70 : ¬ ((2 : Int32) < 0 ∨ cl69.slots.size ≤ ((2 : Int32)).toNatClampNeg) := inb_of Sz69 ⟨by decide, by decide⟩
    have hat70 : cl69.slots[((2 : Int32)).toNatClampNeg]? = some (.ref w2) := Has.at Hh69 hin70 rfl
    have f72 := (f29.wr W32 b1)
    have f73 := ((f28.wr W27).wr W32)
    obtain ⟨cq71, kz71, q71a, q71b, q71c⟩ := isOf hZ e32 f73
    obtain ⟨_, _, ⟨T71, Lq71, kq71, nq71⟩, -, X71, ⟨Lc71, hQ71, lq71, yq71, zq71⟩, st71⟩ := X32.virtualBack hx (y := (⟨"com/example/wrasse/wrasse/model/Edit$Kind", "mayStartWord", "()Z"⟩ : MethodName)) (z := (⟨"com/example/wrasse/wrasse/model/Edit$Kind", "mayStartWord", "()Z"⟩ : MethodName)) hown (mvT hZ (hw _ (List.mem_of_getElem? (i := 12) rfl))) (mvT hZ (hw _ (List.mem_of_getElem? (i := 13) rfl))) (notFace_of_selects (args := #[]) (mvT hZ (hw _ (List.mem_of_getElem? (i := 15) rfl)))) (mvT hZ (hw _ (List.mem_of_getElem? (i := 15) rfl))) (mvT hZ (hw _ (List.mem_of_getElem? (i := 14) rfl))) (by decide) (backOf (W := 0) (rmM l Z a0 hw [] w2 w0 w1 h32 n0 Z32 (O_s0.ext f72.2) (O_s1.ext f72.2)) hZ (hw _ (List.mem_of_getElem? (i := 16) rfl)) (hw _ (List.mem_of_getElem? (i := 3) rfl)) (by decide) (by decide)) q71a q71c (g := (mkF m 50 #[.val (.int p1), .val (.ref b1o), .val (.int (2 : Int32)), .val (.ref w2), .val (.int (0 : Int32)), .unset, .unset, .unset] [(.ref w2)])) rfl (by rw [hml]; rfl) (Steps.refl _) (argsL := []) (rest := []) (lenOf pd_1 rfl) rfl (by show 2 * 0 + _ ≤ _; exact Nat.le_of_eq rfl) (hb hby at_50) (fun _ _ => ⟨rfl, e32, (by decide : 1 + 0 ≤ _), (by decide : 4 + 0 ≤ _)⟩)
    dsimp only [Pt.U, Pt.locs, Pt.cells, Pt.slots] at X71 lq71 yq71 zq71 st71 hQ71
    subst lq71 yq71 zq71
    obtain ⟨r71, hr71, rfl, N71q, e71⟩ := hQ71
    have N71 := Fr.app N32 N71q
    have f75 := (((((FL2.ext E1).other W17 (Or.inl ne8)).other W22 (Or.inl ne8)).other W27 (Or.inl ne8)).other W32 (Or.inl ne8))
    obtain ⟨cq74, kz74, q74a, q74b, q74c⟩ := isOf hZ e71 f73
    obtain ⟨_, _, ⟨T74, Lq74, kq74, nq74⟩, -, X74, ⟨Lc74, hQ74, lq74, yq74, zq74⟩, st74⟩ := X71.virtualBack hx (y := (⟨"com/example/wrasse/wrasse/model/Edit$Kind", "label", "()Ljava/lang/String;"⟩ : MethodName)) (z := (⟨"com/example/wrasse/wrasse/model/Edit$Kind", "label", "()Ljava/lang/String;"⟩ : MethodName)) hown (mvT hZ (hw _ (List.mem_of_getElem? (i := 18) rfl))) (mvT hZ (hw _ (List.mem_of_getElem? (i := 19) rfl))) (notFace_of_selects (args := #[]) (mvT hZ (hw _ (List.mem_of_getElem? (i := 21) rfl)))) (mvT hZ (hw _ (List.mem_of_getElem? (i := 21) rfl))) (mvT hZ (hw _ (List.mem_of_getElem? (i := 20) rfl))) (by decide) (backOf (W := 0) (rmL l Z a0 hw [] w2 l2 h32 n0 Z32 f75) hZ (hw _ (List.mem_of_getElem? (i := 22) rfl)) (hw _ (List.mem_of_getElem? (i := 3) rfl)) (by decide) (by decide)) q74a q74c (g := (mkF m 56 #[.val (.int p1), .val (.ref b1o), .val (.int (2 : Int32)), .val (.ref w2), .val (.int (0 : Int32)), .val (.int r71), .unset, .unset] [(.ref w2)])) rfl (by rw [hml]; rfl) (Steps.refl _) (argsL := []) (rest := []) (lenOf pd_2 rfl) rfl (by show 2 * 0 + _ ≤ _; exact Nat.le_of_eq rfl) (hb hby at_56) (fun _ _ => ⟨rfl, e71, (by decide : 1 + 0 ≤ _), (by decide : 4 + 0 ≤ _)⟩)
    dsimp only [Pt.U, Pt.locs, Pt.cells, Pt.slots] at X74 lq74 yq74 zq74 st74 hQ74
    subst lq74 yq74 zq74
    obtain ⟨rfl, N74q, e74⟩ := hQ74
    have N74 := Fr.app N71 N74q
    have hS0 : s.Since s.vm s.heap.size := (State.WarmedH.refl s).since _
    have I0 : IB Z s.vm [] := by rw [hUZ]; exact IB.start
    have hkp : ∀ (b : Addr) (cl : Cell), Z.heap[b]? = some cl → s.heap[b]? = some cl := by rw [hUZ]; exact fun _ _ q => q
    have wS : ∀ a ∈ Bundle.stringAtoms, a.before a0 Z = true := fun d hd => hw d ((by decide +kernel : ∀ d ∈ Bundle.stringAtoms, d ∈ tables_1) d hd)
    obtain ⟨sa76, T76, h76, k176, sb76, sk76, X76, e76, E76, hS76, hk76, hZ76, ho76, SE76, SC76, SV76, SA76, -, -, I76, st76⟩ := ldcSV (s := s) (vm0 := s.vm) (Z := Z) (h := h32) X74 hx hZ hown (hw _ (List.mem_of_getElem? (i := 25) rfl)) wS e74 hS0 (Nat.le_trans (Nat.le_of_eq (by rw [hh]; exact hn0.symm)) Z32) (by rw [hh, ← hn0]; exact N74) hkp I0 (by decide) (hcs ("com/example/wrasse/wrasse/model/KindMayStartWordPinLaw", 30) (by decide +kernel)) hcw (vs := [(.int (100 : Int32)), (.int (101 : Int32)), (.int (108 : Int32))]) (z := (3 : Int32)) ⟨by decide +kernel, by decide +kernel⟩ (by decide) (by decide) (g := (mkF m 63 #[.val (.int p1), .val (.ref b1o), .val (.int (2 : Int32)), .val (.ref w2), .val (.int (0 : Int32)), .val (.int r71), .val (.ref l2), .unset] [(.ref l2)])) rfl (hb hby at_63) (n := 12) (by decide +kernel) (by decide) (by decide) (by decide)
    have Z76 : n0 ≤ h76.size := Nat.le_trans Z32 E76.1
    have f78 := (f72.ext E76)
    have f79 := ((((((EL2.ext E1).wr W17).wr W22).wr W27).wr W32).ext E76)
    have f80 := ((((((FV2.ext E1).other W17 (Or.inl ne9)).other W22 (Or.inl ne9)).other W27 (Or.inl ne9)).other W32 (Or.inl ne9)).ext E76)
    have f81 := ((((((FC2.ext E1).other W17 (Or.inl ne9)).other W22 (Or.inl ne9)).other W27 (Or.inl ne9)).other W32 (Or.inl ne9)).ext E76)
    have f82 := ((((((AV2.ext E1).other W17 ne10).other W22 ne10).other W27 ne10).other W32 ne10).ext E76)
    obtain ⟨cq77, kz77, q77a, q77b, q77c⟩ := isOf hZ76 e76 f79
    obtain ⟨_, _, ⟨T77, Lq77, kq77, nq77⟩, -, X77, ⟨Lc77, hQ77, lq77, yq77, zq77⟩, st77⟩ := X76.virtualBack hx (y := (⟨"java/lang/String", "equals", "(Ljava/lang/Object;)Z"⟩ : MethodName)) (z := (⟨"java/lang/String", "equals", "(Ljava/lang/Object;)Z"⟩ : MethodName)) ho76 (mvT hZ76 (hw _ (List.mem_of_getElem? (i := 33) rfl))) (mvT hZ76 (hw _ (List.mem_of_getElem? (i := 34) rfl))) (notFace_of_selects (args := #[]) (mvT hZ76 (hw _ (List.mem_of_getElem? (i := 36) rfl)))) (mvT hZ76 (hw _ (List.mem_of_getElem? (i := 36) rfl))) (mvT hZ76 (hw _ (List.mem_of_getElem? (i := 35) rfl))) (by decide) (backOf (W := 0) (rmE l Z a0 hw [] l2 sa76 G1 x2 sb76 k2 sk76 (115 : Int32) (117 : Int32) (98 : Int32) (100 : Int32) (101 : Int32) (108 : Int32) h76 n0 Z76 (O_2.ext f78.2) P5 f79 SE76 f80 SV76 f81 SC76 f82 SA76) hZ76 (hw _ (List.mem_of_getElem? (i := 37) rfl)) (hw _ (List.mem_of_getElem? (i := 26) rfl)) (by decide) (by decide)) q77a q77c (g := (mkF m 65 #[.val (.int p1), .val (.ref b1o), .val (.int (2 : Int32)), .val (.ref w2), .val (.int (0 : Int32)), .val (.int r71), .val (.ref l2), .unset] [(.ref sa76), (.ref l2)])) rfl (by rw [hml]; rfl) (Steps.refl _) (argsL := [(.ref sa76)]) (rest := []) (lenOf pd_3 rfl) rfl (by show 2 * 0 + _ ≤ _; exact Nat.le_of_eq rfl) (hb hby at_65) (fun _ _ => ⟨rfl, e76, (by decide : 3 + 0 ≤ _), (by decide : 20 + 0 ≤ _)⟩)
    dsimp only [Pt.U, Pt.locs, Pt.cells, Pt.slots] at X77 lq77 yq77 zq77 st77 hQ77
    subst lq77 yq77 zq77
    obtain ⟨r77, hr77, rfl, N77q, e77⟩ := hQ77
    have N77 := Fr.app N74 N77q
    obtain ⟨sa83, T83, h83, k183, sb83, sk83, X83, e83, E83, hS83, hk83, hZ83, ho83, SE83, SC83, SV83, SA83, -, -, I83, st83⟩ := ldcSV (s := s) (vm0 := T76.vm) (Z := Z) (h := h76) X77 hx hZ76 ho76 (hw _ (List.mem_of_getElem? (i := 48) rfl)) wS e77 hS76 hk76 (by rw [hh, ← hn0]; exact N77) hkp I76 (by decide) (hcs ("com/example/wrasse/wrasse/model/KindMayStartWordPinLaw", 38) (by decide +kernel)) hcw (vs := [(.int (97 : Int32)), (.int (100 : Int32)), (.int (100 : Int32))]) (z := (3 : Int32)) ⟨by decide +kernel, by decide +kernel⟩ (by decide) (by decide) (g := (mkF m 73 #[.val (.int p1), .val (.ref b1o), .val (.int (2 : Int32)), .val (.ref w2), .val (.int (0 : Int32)), .val (.int r71), .val (.ref l2), .unset] [(.ref l2)])) rfl (hb hby at_73) (n := 12) (by decide +kernel) (by decide) (by decide) (by decide)
    have Z83 : n0 ≤ h83.size := Nat.le_trans Z76 E83.1
    have f85 := (f78.ext E83)
    have f86 := (f79.ext E83)
    have f87 := (f80.ext E83)
    have f88 := (f81.ext E83)
    have f89 := (f82.ext E83)
    obtain ⟨cq84, kz84, q84a, q84b, q84c⟩ := isOf hZ83 e83 f86
    obtain ⟨_, _, ⟨T84, Lq84, kq84, nq84⟩, -, X84, ⟨Lc84, hQ84, lq84, yq84, zq84⟩, st84⟩ := X83.virtualBack hx (y := (⟨"java/lang/String", "equals", "(Ljava/lang/Object;)Z"⟩ : MethodName)) (z := (⟨"java/lang/String", "equals", "(Ljava/lang/Object;)Z"⟩ : MethodName)) ho83 (mvT hZ83 (hw _ (List.mem_of_getElem? (i := 33) rfl))) (mvT hZ83 (hw _ (List.mem_of_getElem? (i := 34) rfl))) (notFace_of_selects (args := #[]) (mvT hZ83 (hw _ (List.mem_of_getElem? (i := 36) rfl)))) (mvT hZ83 (hw _ (List.mem_of_getElem? (i := 36) rfl))) (mvT hZ83 (hw _ (List.mem_of_getElem? (i := 35) rfl))) (by decide) (backOf (W := 0) (rmE l Z a0 hw [] l2 sa83 G1 x2 sb83 k2 sk83 (115 : Int32) (117 : Int32) (98 : Int32) (97 : Int32) (100 : Int32) (100 : Int32) h83 n0 Z83 (O_2.ext f85.2) P5 f86 SE83 f87 SV83 f88 SC83 f89 SA83) hZ83 (hw _ (List.mem_of_getElem? (i := 37) rfl)) (hw _ (List.mem_of_getElem? (i := 26) rfl)) (by decide) (by decide)) q84a q84c (g := (mkF m 75 #[.val (.int p1), .val (.ref b1o), .val (.int (2 : Int32)), .val (.ref w2), .val (.int (0 : Int32)), .val (.int r71), .val (.ref l2), .unset] [(.ref sa83), (.ref l2)])) rfl (by rw [hml]; rfl) (Steps.refl _) (argsL := [(.ref sa83)]) (rest := []) (lenOf pd_3 rfl) rfl (by show 2 * 0 + _ ≤ _; exact Nat.le_of_eq rfl) (hb hby at_75) (fun _ _ => ⟨rfl, e83, (by decide : 5 + 0 ≤ _), (by decide : 36 + 0 ≤ _)⟩)
    dsimp only [Pt.U, Pt.locs, Pt.cells, Pt.slots] at X84 lq84 yq84 zq84 st84 hQ84
    subst lq84 yq84 zq84
    obtain ⟨r84, hr84, rfl, N84q, e84⟩ := hQ84
    have N84 := Fr.app N77 N84q
    obtain ⟨fs, hr, hrun, hended, hwd⟩ := X84.leaveW hS83 (Nat.le_trans hk83 (Nat.le_of_eq (congrArg Array.size e84).symm)) (v := some (.int (1 : Int32))) (fun h => by rw [Bd.returns] at h; cases h)
    refine ⟨_, _, pre0 _ ?_, hrun, hended, _, _, rfl, ?_, hwd.1, hwd.2.1, hwd.2.2.1, hwd.2.2.2.mono (by decide) (by decide)⟩
    · show Steps p.tables e below (s₁.setTop (mkF m 0 #[.val (.int p1), .unset, .unset, .unset, .unset, .unset, .unset, .unset] [])) _
      refine XS.iconst X0.here hx rfl (hb hby at_0) ?_
      show Steps p.tables e below (s₁.setTop (mkF m 1 #[.val (.int p1), .unset, .unset, .unset, .unset, .unset, .unset, .unset] [(.int (4 : Int32))])) _
      refine st1 _ ?_
      show Steps p.tables e below (T1.setTop (mkF m 4 #[.val (.int p1), .unset, .unset, .unset, .unset, .unset, .unset, .unset] [(.ref b1o)])) _
      refine XS.dup X1.here hx rfl (hb hby at_4) rfl rfl ?_
      show Steps p.tables e below (T1.setTop (mkF m 5 #[.val (.int p1), .unset, .unset, .unset, .unset, .unset, .unset, .unset] [(.ref b1o), (.ref b1o)])) _
      refine XS.iconst X1.here hx rfl (hb hby at_5) ?_
      show Steps p.tables e below (T1.setTop (mkF m 6 #[.val (.int p1), .unset, .unset, .unset, .unset, .unset, .unset, .unset] [(.int (0 : Int32)), (.ref b1o), (.ref b1o)])) _
      refine st15 _ ?_
      show Steps p.tables e below (T15.setTop (mkF m 9 #[.val (.int p1), .unset, .unset, .unset, .unset, .unset, .unset, .unset] [(.ref w0), (.int (0 : Int32)), (.ref b1o), (.ref b1o)])) _
      refine st17 _ ?_
      show Steps p.tables e below (T17.setTop (mkF m 10 #[.val (.int p1), .unset, .unset, .unset, .unset, .unset, .unset, .unset] [(.ref b1o)])) _
      refine XS.dup X17.here hx rfl (hb hby at_10) rfl rfl ?_
      show Steps p.tables e below (T17.setTop (mkF m 11 #[.val (.int p1), .unset, .unset, .unset, .unset, .unset, .unset, .unset] [(.ref b1o), (.ref b1o)])) _
      refine XS.iconst X17.here hx rfl (hb hby at_11) ?_
      show Steps p.tables e below (T17.setTop (mkF m 12 #[.val (.int p1), .unset, .unset, .unset, .unset, .unset, .unset, .unset] [(.int (1 : Int32)), (.ref b1o), (.ref b1o)])) _
      refine st20 _ ?_
      show Steps p.tables e below (T20.setTop (mkF m 15 #[.val (.int p1), .unset, .unset, .unset, .unset, .unset, .unset, .unset] [(.ref w1), (.int (1 : Int32)), (.ref b1o), (.ref b1o)])) _
      refine st22 _ ?_
      show Steps p.tables e below (T22.setTop (mkF m 16 #[.val (.int p1), .unset, .unset, .unset, .unset, .unset, .unset, .unset] [(.ref b1o)])) _
      refine XS.dup X22.here hx rfl (hb hby at_16) rfl rfl ?_
      show Steps p.tables e below (T22.setTop (mkF m 17 #[.val (.int p1), .unset, .unset, .unset, .unset, .unset, .unset, .unset] [(.ref b1o), (.ref b1o)])) _
      refine XS.iconst X22.here hx rfl (hb hby at_17) ?_
      show Steps p.tables e below (T22.setTop (mkF m 18 #[.val (.int p1), .unset, .unset, .unset, .unset, .unset, .unset, .unset] [(.int (2 : Int32)), (.ref b1o), (.ref b1o)])) _
      refine st25 _ ?_
      show Steps p.tables e below (T25.setTop (mkF m 21 #[.val (.int p1), .unset, .unset, .unset, .unset, .unset, .unset, .unset] [(.ref w2), (.int (2 : Int32)), (.ref b1o), (.ref b1o)])) _
      refine st27 _ ?_
      show Steps p.tables e below (T27.setTop (mkF m 22 #[.val (.int p1), .unset, .unset, .unset, .unset, .unset, .unset, .unset] [(.ref b1o)])) _
      refine XS.dup X27.here hx rfl (hb hby at_22) rfl rfl ?_
      show Steps p.tables e below (T27.setTop (mkF m 23 #[.val (.int p1), .unset, .unset, .unset, .unset, .unset, .unset, .unset] [(.ref b1o), (.ref b1o)])) _
      refine XS.iconst X27.here hx rfl (hb hby at_23) ?_
      show Steps p.tables e below (T27.setTop (mkF m 24 #[.val (.int p1), .unset, .unset, .unset, .unset, .unset, .unset, .unset] [(.int (3 : Int32)), (.ref b1o), (.ref b1o)])) _
      refine st30 _ ?_
      show Steps p.tables e below (T30.setTop (mkF m 27 #[.val (.int p1), .unset, .unset, .unset, .unset, .unset, .unset, .unset] [(.ref w3), (.int (3 : Int32)), (.ref b1o), (.ref b1o)])) _
      refine st32 _ ?_
      show Steps p.tables e below (T32.setTop (mkF m 28 #[.val (.int p1), .unset, .unset, .unset, .unset, .unset, .unset, .unset] [(.ref b1o)])) _
      refine XS.astoreN X32.here hx rfl (hb hby at_28) rfl rfl (l' := #[.val (.int p1), .val (.ref b1o), .unset, .unset, .unset, .unset, .unset, .unset]) rfl ?_
      show Steps p.tables e below (T32.setTop (mkF m 29 #[.val (.int p1), .val (.ref b1o), .unset, .unset, .unset, .unset, .unset, .unset] [])) _
      refine XS.iloadN X32.here hx rfl (hb hby at_29) rfl ?_
      show Steps p.tables e below (T32.setTop (mkF m 30 #[.val (.int p1), .val (.ref b1o), .unset, .unset, .unset, .unset, .unset, .unset] [(.int p1)])) _
      refine XS.iconst X32.here hx rfl (hb hby at_30) ?_
      show Steps p.tables e below (T32.setTop (mkF m 31 #[.val (.int p1), .val (.ref b1o), .unset, .unset, .unset, .unset, .unset, .unset] [(.int (3 : Int32)), (.int p1)])) _
      refine XS.iand X32.here hx rfl (hb hby at_31) rfl ?_
      show Steps p.tables e below (T32.setTop (mkF m 32 #[.val (.int p1), .val (.ref b1o), .unset, .unset, .unset, .unset, .unset, .unset] [(.int (p1 &&& (3 : Int32)))])) _
      refine XS.istoreN X32.here hx rfl (hb hby at_32) rfl (l' := #[.val (.int p1), .val (.ref b1o), .val (.int (p1 &&& (3 : Int32))), .unset, .unset, .unset, .unset, .unset]) rfl ?_
      show Steps p.tables e below (T32.setTop (mkF m 33 #[.val (.int p1), .val (.ref b1o), .val (.int (p1 &&& (3 : Int32))), .unset, .unset, .unset, .unset, .unset] [])) _
      rw [hI]
      show Steps p.tables e below (T32.setTop (mkF m 33 #[.val (.int p1), .val (.ref b1o), .val (.int (2 : Int32)), .unset, .unset, .unset, .unset, .unset] [])) _
      refine XS.aloadN X32.here hx rfl (hb hby at_33) rfl rfl ?_
      show Steps p.tables e below (T32.setTop (mkF m 34 #[.val (.int p1), .val (.ref b1o), .val (.int (2 : Int32)), .unset, .unset, .unset, .unset, .unset] [(.ref b1o)])) _
      refine XS.iloadN X32.here hx rfl (hb hby at_34) rfl ?_
      show Steps p.tables e below (T32.setTop (mkF m 35 #[.val (.int p1), .val (.ref b1o), .val (.int (2 : Int32)), .unset, .unset, .unset, .unset, .unset] [(.int (2 : Int32)), (.ref b1o)])) _
      refine X32.aaload hx (j := (2 : Int32)) (v := (.ref w2)) (by rw [e32]; exact Ar69.1) (State.isArrayOf_alike hZ.alike Ar69.2.1) rfl Ar69.2.2 hin70 hat70 (g := (mkF m 35 #[.val (.int p1), .val (.ref b1o), .val (.int (2 : Int32)), .unset, .unset, .unset, .unset, .unset] [(.int (2 : Int32)), (.ref b1o)])) rfl rfl (hb hby at_35) _ ?_
      show Steps p.tables e below (T32.setTop (mkF m 36 #[.val (.int p1), .val (.ref b1o), .val (.int (2 : Int32)), .unset, .unset, .unset, .unset, .unset] [(.ref w2)])) _
      refine XS.astoreN X32.here hx rfl (hb hby at_36) rfl rfl (l' := #[.val (.int p1), .val (.ref b1o), .val (.int (2 : Int32)), .val (.ref w2), .unset, .unset, .unset, .unset]) rfl ?_
      show Steps p.tables e below (T32.setTop (mkF m 37 #[.val (.int p1), .val (.ref b1o), .val (.int (2 : Int32)), .val (.ref w2), .unset, .unset, .unset, .unset] [])) _
      refine XS.iloadN X32.here hx rfl (hb hby at_37) rfl ?_
      show Steps p.tables e below (T32.setTop (mkF m 38 #[.val (.int p1), .val (.ref b1o), .val (.int (2 : Int32)), .val (.ref w2), .unset, .unset, .unset, .unset] [(.int (2 : Int32))])) _
      refine XS.iconst X32.here hx rfl (hb hby at_38) ?_
      show Steps p.tables e below (T32.setTop (mkF m 39 #[.val (.int p1), .val (.ref b1o), .val (.int (2 : Int32)), .val (.ref w2), .unset, .unset, .unset, .unset] [(.int (2 : Int32)), (.int (2 : Int32))])) _
      refine XS.icmpYes X32.here hx rfl (pc0 := 39) (pc' := 46) rfl (hb hby at_39) rfl (flt (by decide)).2.1 (by decide) (by decide) ?_
      show Steps p.tables e below (T32.setTop (mkF m 46 #[.val (.int p1), .val (.ref b1o), .val (.int (2 : Int32)), .val (.ref w2), .unset, .unset, .unset, .unset] [])) _
      refine XS.iconst X32.here hx rfl (hb hby at_46) ?_
      show Steps p.tables e below (T32.setTop (mkF m 47 #[.val (.int p1), .val (.ref b1o), .val (.int (2 : Int32)), .val (.ref w2), .unset, .unset, .unset, .unset] [(.int (0 : Int32))])) _
      refine XS.istore X32.here hx rfl (hb hby at_47) rfl (l' := #[.val (.int p1), .val (.ref b1o), .val (.int (2 : Int32)), .val (.ref w2), .val (.int (0 : Int32)), .unset, .unset, .unset]) rfl ?_
      show Steps p.tables e below (T32.setTop (mkF m 49 #[.val (.int p1), .val (.ref b1o), .val (.int (2 : Int32)), .val (.ref w2), .val (.int (0 : Int32)), .unset, .unset, .unset] [])) _
      refine XS.aloadN X32.here hx rfl (hb hby at_49) rfl rfl ?_
      show Steps p.tables e below (T32.setTop (mkF m 50 #[.val (.int p1), .val (.ref b1o), .val (.int (2 : Int32)), .val (.ref w2), .val (.int (0 : Int32)), .unset, .unset, .unset] [(.ref w2)])) _
      refine st71.trans ?_
      show Steps p.tables e below (T71.setTop (mkF m 53 #[.val (.int p1), .val (.ref b1o), .val (.int (2 : Int32)), .val (.ref w2), .val (.int (0 : Int32)), .unset, .unset, .unset] [(.int r71)])) _
      refine XS.istore X71.here hx rfl (hb hby at_53) rfl (l' := #[.val (.int p1), .val (.ref b1o), .val (.int (2 : Int32)), .val (.ref w2), .val (.int (0 : Int32)), .val (.int r71), .unset, .unset]) rfl ?_
      show Steps p.tables e below (T71.setTop (mkF m 55 #[.val (.int p1), .val (.ref b1o), .val (.int (2 : Int32)), .val (.ref w2), .val (.int (0 : Int32)), .val (.int r71), .unset, .unset] [])) _
      refine XS.aloadN X71.here hx rfl (hb hby at_55) rfl rfl ?_
      show Steps p.tables e below (T71.setTop (mkF m 56 #[.val (.int p1), .val (.ref b1o), .val (.int (2 : Int32)), .val (.ref w2), .val (.int (0 : Int32)), .val (.int r71), .unset, .unset] [(.ref w2)])) _
      refine st74.trans ?_
      show Steps p.tables e below (T74.setTop (mkF m 59 #[.val (.int p1), .val (.ref b1o), .val (.int (2 : Int32)), .val (.ref w2), .val (.int (0 : Int32)), .val (.int r71), .unset, .unset] [(.ref l2)])) _
      refine XS.astore X74.here hx rfl (hb hby at_59) rfl rfl (l' := #[.val (.int p1), .val (.ref b1o), .val (.int (2 : Int32)), .val (.ref w2), .val (.int (0 : Int32)), .val (.int r71), .val (.ref l2), .unset]) rfl ?_
      show Steps p.tables e below (T74.setTop (mkF m 61 #[.val (.int p1), .val (.ref b1o), .val (.int (2 : Int32)), .val (.ref w2), .val (.int (0 : Int32)), .val (.int r71), .val (.ref l2), .unset] [])) _
      refine XS.aload X74.here hx rfl (hb hby at_61) rfl rfl ?_
      show Steps p.tables e below (T74.setTop (mkF m 63 #[.val (.int p1), .val (.ref b1o), .val (.int (2 : Int32)), .val (.ref w2), .val (.int (0 : Int32)), .val (.int r71), .val (.ref l2), .unset] [(.ref l2)])) _
      refine st76 _ ?_
      show Steps p.tables e below (T76.setTop (mkF m 65 #[.val (.int p1), .val (.ref b1o), .val (.int (2 : Int32)), .val (.ref w2), .val (.int (0 : Int32)), .val (.int r71), .val (.ref l2), .unset] [(.ref sa76), (.ref l2)])) _
      refine st77.trans ?_
      show Steps p.tables e below (T77.setTop (mkF m 68 #[.val (.int p1), .val (.ref b1o), .val (.int (2 : Int32)), .val (.ref w2), .val (.int (0 : Int32)), .val (.int r71), .val (.ref l2), .unset] [(.int r77)])) _
      refine XS.ifNo X77.here hx rfl (hb hby at_68) rfl ((if0 _ _).trans (teq (by rw [hr77]; decide)).2) ?_
      show Steps p.tables e below (T77.setTop (mkF m 71 #[.val (.int p1), .val (.ref b1o), .val (.int (2 : Int32)), .val (.ref w2), .val (.int (0 : Int32)), .val (.int r71), .val (.ref l2), .unset] [])) _
      refine XS.aload X77.here hx rfl (hb hby at_71) rfl rfl ?_
      show Steps p.tables e below (T77.setTop (mkF m 73 #[.val (.int p1), .val (.ref b1o), .val (.int (2 : Int32)), .val (.ref w2), .val (.int (0 : Int32)), .val (.int r71), .val (.ref l2), .unset] [(.ref l2)])) _
      refine st83 _ ?_
      show Steps p.tables e below (T83.setTop (mkF m 75 #[.val (.int p1), .val (.ref b1o), .val (.int (2 : Int32)), .val (.ref w2), .val (.int (0 : Int32)), .val (.int r71), .val (.ref l2), .unset] [(.ref sa83), (.ref l2)])) _
      refine st84.trans ?_
      show Steps p.tables e below (T84.setTop (mkF m 78 #[.val (.int p1), .val (.ref b1o), .val (.int (2 : Int32)), .val (.ref w2), .val (.int (0 : Int32)), .val (.int r71), .val (.ref l2), .unset] [(.int r84)])) _
      refine XS.ifYes X84.here hx rfl (pc0 := 78) (pc' := 85) rfl (hb hby at_78) rfl ((if0 _ _).trans (teq (by rw [hr84]; decide)).1) (by decide) (by decide) ?_
      show Steps p.tables e below (T84.setTop (mkF m 85 #[.val (.int p1), .val (.ref b1o), .val (.int (2 : Int32)), .val (.ref w2), .val (.int (0 : Int32)), .val (.int r71), .val (.ref l2), .unset] [])) _
      refine XS.iconst X84.here hx rfl (hb hby at_85) ?_
      show Steps p.tables e below (T84.setTop (mkF m 86 #[.val (.int p1), .val (.ref b1o), .val (.int (2 : Int32)), .val (.ref w2), .val (.int (0 : Int32)), .val (.int r71), .val (.ref l2), .unset] [(.int (0 : Int32))])) _
      refine XS.istore X84.here hx rfl (hb hby at_86) rfl (l' := #[.val (.int p1), .val (.ref b1o), .val (.int (2 : Int32)), .val (.ref w2), .val (.int (0 : Int32)), .val (.int r71), .val (.ref l2), .val (.int (0 : Int32))]) rfl ?_
      show Steps p.tables e below (T84.setTop (mkF m 88 #[.val (.int p1), .val (.ref b1o), .val (.int (2 : Int32)), .val (.ref w2), .val (.int (0 : Int32)), .val (.int r71), .val (.ref l2), .val (.int (0 : Int32))] [])) _
      refine XS.iload X84.here hx rfl (hb hby at_88) rfl ?_
      show Steps p.tables e below (T84.setTop (mkF m 90 #[.val (.int p1), .val (.ref b1o), .val (.int (2 : Int32)), .val (.ref w2), .val (.int (0 : Int32)), .val (.int r71), .val (.ref l2), .val (.int (0 : Int32))] [(.int r71)])) _
      refine XS.iload X84.here hx rfl (hb hby at_90) rfl ?_
      show Steps p.tables e below (T84.setTop (mkF m 92 #[.val (.int p1), .val (.ref b1o), .val (.int (2 : Int32)), .val (.ref w2), .val (.int (0 : Int32)), .val (.int r71), .val (.ref l2), .val (.int (0 : Int32))] [(.int (0 : Int32)), (.int r71)])) _
      refine XS.icmpNo X84.here hx rfl (hb hby at_92) rfl (teq (by rw [hr71]; rw [if_neg n20, if_neg n21])).2 ?_
      show Steps p.tables e below (T84.setTop (mkF m 95 #[.val (.int p1), .val (.ref b1o), .val (.int (2 : Int32)), .val (.ref w2), .val (.int (0 : Int32)), .val (.int r71), .val (.ref l2), .val (.int (0 : Int32))] [])) _
      refine XS.iload X84.here hx rfl (hb hby at_95) rfl ?_
      show Steps p.tables e below (T84.setTop (mkF m 97 #[.val (.int p1), .val (.ref b1o), .val (.int (2 : Int32)), .val (.ref w2), .val (.int (0 : Int32)), .val (.int r71), .val (.ref l2), .val (.int (0 : Int32))] [(.int r71)])) _
      refine XS.iload X84.here hx rfl (hb hby at_97) rfl ?_
      show Steps p.tables e below (T84.setTop (mkF m 99 #[.val (.int p1), .val (.ref b1o), .val (.int (2 : Int32)), .val (.ref w2), .val (.int (0 : Int32)), .val (.int r71), .val (.ref l2), .val (.int (0 : Int32))] [(.int (0 : Int32)), (.int r71)])) _
      refine XS.icmpNo X84.here hx rfl (hb hby at_99) rfl (teq (by rw [hr71]; rw [if_neg n20, if_neg n21])).2 ?_
      show Steps p.tables e below (T84.setTop (mkF m 102 #[.val (.int p1), .val (.ref b1o), .val (.int (2 : Int32)), .val (.ref w2), .val (.int (0 : Int32)), .val (.int r71), .val (.ref l2), .val (.int (0 : Int32))] [])) _
      refine XS.iconst X84.here hx rfl (hb hby at_102) ?_
      show Steps p.tables e below (T84.setTop (mkF m 103 #[.val (.int p1), .val (.ref b1o), .val (.int (2 : Int32)), .val (.ref w2), .val (.int (0 : Int32)), .val (.int r71), .val (.ref l2), .val (.int (0 : Int32))] [(.int (1 : Int32))])) _
      refine XS.goto X84.here hx rfl (pc0 := 103) (pc' := 107) rfl (hb hby at_103) (by decide) (by decide) ?_
      show Steps p.tables e below (T84.setTop (mkF m 107 #[.val (.int p1), .val (.ref b1o), .val (.int (2 : Int32)), .val (.ref w2), .val (.int (0 : Int32)), .val (.int r71), .val (.ref l2), .val (.int (0 : Int32))] [(.int (1 : Int32))])) _
      exact retN X84 hx (t := .boolean) Bd.returns (by simp) (hb hby at_107) hr
    · show Qrm0 Z p1 G1 w0 l0 x0 k0 w1 l1 x1 k1 w2 l2 x2 k2 w3 l3 x3 k3 h0 n0 _ T84.heap _
      exact ⟨rfl, N84⟩
  · obtain ⟨cl90, Ar90, qk90, Sz90, Nn90, Hh90, Gg90⟩ := id (V32)
    have hin91 : ¬ ((3 : Int32) < 0 ∨ cl90.slots.size ≤ ((3 : Int32)).toNatClampNeg) := inb_of Sz90 ⟨by decide, by decide⟩
    have hat91 : cl90.slots[((3 : Int32)).toNatClampNeg]? = some (.ref w3) := Has.at Hh90 hin91 rfl
    have f93 := (f29.wr W32 b1)
    have f94 := (f33.wr W32)
    obtain ⟨cq92, kz92, q92a, q92b, q92c⟩ := isOf hZ e32 f94
    obtain ⟨_, _, ⟨T92, Lq92, kq92, nq92⟩, -, X92, ⟨Lc92, hQ92, lq92, yq92, zq92⟩, st92⟩ := X32.virtualBack hx (y := (⟨"com/example/wrasse/wrasse/model/Edit$Kind", "mayStartWord", "()Z"⟩ : MethodName)) (z := (⟨"com/example/wrasse/wrasse/model/Edit$Kind", "mayStartWord", "()Z"⟩ : MethodName)) hown (mvT hZ (hw _ (List.mem_of_getElem? (i := 12) rfl))) (mvT hZ (hw _ (List.mem_of_getElem? (i := 13) rfl))) (notFace_of_selects (args := #[]) (mvT hZ (hw _ (List.mem_of_getElem? (i := 15) rfl)))) (mvT hZ (hw _ (List.mem_of_getElem? (i := 15) rfl))) (mvT hZ (hw _ (List.mem_of_getElem? (i := 14) rfl))) (by decide) (backOf (W := 0) (rmM l Z a0 hw [] w3 w0 w1 h32 n0 Z32 (O_s0.ext f93.2) (O_s1.ext f93.2)) hZ (hw _ (List.mem_of_getElem? (i := 16) rfl)) (hw _ (List.mem_of_getElem? (i := 3) rfl)) (by decide) (by decide)) q92a q92c (g := (mkF m 50 #[.val (.int p1), .val (.ref b1o), .val (.int (3 : Int32)), .val (.ref w3), .val (.int (0 : Int32)), .unset, .unset, .unset] [(.ref w3)])) rfl (by rw [hml]; rfl) (Steps.refl _) (argsL := []) (rest := []) (lenOf pd_1 rfl) rfl (by show 2 * 0 + _ ≤ _; exact Nat.le_of_eq rfl) (hb hby at_50) (fun _ _ => ⟨rfl, e32, (by decide : 1 + 0 ≤ _), (by decide : 4 + 0 ≤ _)⟩)
    dsimp only [Pt.U, Pt.locs, Pt.cells, Pt.slots] at X92 lq92 yq92 zq92 st92 hQ92
    subst lq92 yq92 zq92
    obtain ⟨r92, hr92, rfl, N92q, e92⟩ := hQ92
    have N92 := Fr.app N32 N92q
    have f96 := (((((FL3.ext E1).other W17 (Or.inl ne11)).other W22 (Or.inl ne11)).other W27 (Or.inl ne11)).other W32 (Or.inl ne11))
    obtain ⟨cq95, kz95, q95a, q95b, q95c⟩ := isOf hZ e92 f94
    obtain ⟨_, _, ⟨T95, Lq95, kq95, nq95⟩, -, X95, ⟨Lc95, hQ95, lq95, yq95, zq95⟩, st95⟩ := X92.virtualBack hx (y := (⟨"com/example/wrasse/wrasse/model/Edit$Kind", "label", "()Ljava/lang/String;"⟩ : MethodName)) (z := (⟨"com/example/wrasse/wrasse/model/Edit$Kind", "label", "()Ljava/lang/String;"⟩ : MethodName)) hown (mvT hZ (hw _ (List.mem_of_getElem? (i := 18) rfl))) (mvT hZ (hw _ (List.mem_of_getElem? (i := 19) rfl))) (notFace_of_selects (args := #[]) (mvT hZ (hw _ (List.mem_of_getElem? (i := 21) rfl)))) (mvT hZ (hw _ (List.mem_of_getElem? (i := 21) rfl))) (mvT hZ (hw _ (List.mem_of_getElem? (i := 20) rfl))) (by decide) (backOf (W := 0) (rmL l Z a0 hw [] w3 l3 h32 n0 Z32 f96) hZ (hw _ (List.mem_of_getElem? (i := 22) rfl)) (hw _ (List.mem_of_getElem? (i := 3) rfl)) (by decide) (by decide)) q95a q95c (g := (mkF m 56 #[.val (.int p1), .val (.ref b1o), .val (.int (3 : Int32)), .val (.ref w3), .val (.int (0 : Int32)), .val (.int r92), .unset, .unset] [(.ref w3)])) rfl (by rw [hml]; rfl) (Steps.refl _) (argsL := []) (rest := []) (lenOf pd_2 rfl) rfl (by show 2 * 0 + _ ≤ _; exact Nat.le_of_eq rfl) (hb hby at_56) (fun _ _ => ⟨rfl, e92, (by decide : 1 + 0 ≤ _), (by decide : 4 + 0 ≤ _)⟩)
    dsimp only [Pt.U, Pt.locs, Pt.cells, Pt.slots] at X95 lq95 yq95 zq95 st95 hQ95
    subst lq95 yq95 zq95
    obtain ⟨rfl, N95q, e95⟩ := hQ95
    have N95 := Fr.app N92 N95q
    have hS0 : s.Since s.vm s.heap.size := (State.WarmedH.refl s).since _
    have I0 : IB Z s.vm [] := by rw [hUZ]; exact IB.start
    have hkp : ∀ (b : Addr) (cl : Cell), Z.heap[b]? = some cl → s.heap[b]? = some cl := by rw [hUZ]; exact fun _ _ q => q
    have wS : ∀ a ∈ Bundle.stringAtoms, a.before a0 Z = true := fun d hd => hw d ((by decide +kernel : ∀ d ∈ Bundle.stringAtoms, d ∈ tables_1) d hd)
    obtain ⟨sa97, T97, h97, k197, sb97, sk97, X97, e97, E97, hS97, hk97, hZ97, ho97, SE97, SC97, SV97, SA97, -, -, I97, st97⟩ := ldcSV (s := s) (vm0 := s.vm) (Z := Z) (h := h32) X95 hx hZ hown (hw _ (List.mem_of_getElem? (i := 25) rfl)) wS e95 hS0 (Nat.le_trans (Nat.le_of_eq (by rw [hh]; exact hn0.symm)) Z32) (by rw [hh, ← hn0]; exact N95) hkp I0 (by decide) (hcs ("com/example/wrasse/wrasse/model/KindMayStartWordPinLaw", 30) (by decide +kernel)) hcw (vs := [(.int (100 : Int32)), (.int (101 : Int32)), (.int (108 : Int32))]) (z := (3 : Int32)) ⟨by decide +kernel, by decide +kernel⟩ (by decide) (by decide) (g := (mkF m 63 #[.val (.int p1), .val (.ref b1o), .val (.int (3 : Int32)), .val (.ref w3), .val (.int (0 : Int32)), .val (.int r92), .val (.ref l3), .unset] [(.ref l3)])) rfl (hb hby at_63) (n := 12) (by decide +kernel) (by decide) (by decide) (by decide)
    have Z97 : n0 ≤ h97.size := Nat.le_trans Z32 E97.1
    have f99 := (f93.ext E97)
    have f100 := ((((((EL3.ext E1).wr W17).wr W22).wr W27).wr W32).ext E97)
    have f101 := ((((((FV3.ext E1).other W17 (Or.inl ne12)).other W22 (Or.inl ne12)).other W27 (Or.inl ne12)).other W32 (Or.inl ne12)).ext E97)
    have f102 := ((((((FC3.ext E1).other W17 (Or.inl ne12)).other W22 (Or.inl ne12)).other W27 (Or.inl ne12)).other W32 (Or.inl ne12)).ext E97)
    have f103 := ((((((AV3.ext E1).other W17 ne13).other W22 ne13).other W27 ne13).other W32 ne13).ext E97)
    obtain ⟨cq98, kz98, q98a, q98b, q98c⟩ := isOf hZ97 e97 f100
    obtain ⟨_, _, ⟨T98, Lq98, kq98, nq98⟩, -, X98, ⟨Lc98, hQ98, lq98, yq98, zq98⟩, st98⟩ := X97.virtualBack hx (y := (⟨"java/lang/String", "equals", "(Ljava/lang/Object;)Z"⟩ : MethodName)) (z := (⟨"java/lang/String", "equals", "(Ljava/lang/Object;)Z"⟩ : MethodName)) ho97 (mvT hZ97 (hw _ (List.mem_of_getElem? (i := 33) rfl))) (mvT hZ97 (hw _ (List.mem_of_getElem? (i := 34) rfl))) (notFace_of_selects (args := #[]) (mvT hZ97 (hw _ (List.mem_of_getElem? (i := 36) rfl)))) (mvT hZ97 (hw _ (List.mem_of_getElem? (i := 36) rfl))) (mvT hZ97 (hw _ (List.mem_of_getElem? (i := 35) rfl))) (by decide) (backOf (W := 0) (rmE l Z a0 hw [] l3 sa97 G1 x3 sb97 k3 sk97 (114 : Int32) (101 : Int32) (118 : Int32) (100 : Int32) (101 : Int32) (108 : Int32) h97 n0 Z97 (O_2.ext f99.2) P5 f100 SE97 f101 SV97 f102 SC97 f103 SA97) hZ97 (hw _ (List.mem_of_getElem? (i := 37) rfl)) (hw _ (List.mem_of_getElem? (i := 26) rfl)) (by decide) (by decide)) q98a q98c (g := (mkF m 65 #[.val (.int p1), .val (.ref b1o), .val (.int (3 : Int32)), .val (.ref w3), .val (.int (0 : Int32)), .val (.int r92), .val (.ref l3), .unset] [(.ref sa97), (.ref l3)])) rfl (by rw [hml]; rfl) (Steps.refl _) (argsL := [(.ref sa97)]) (rest := []) (lenOf pd_3 rfl) rfl (by show 2 * 0 + _ ≤ _; exact Nat.le_of_eq rfl) (hb hby at_65) (fun _ _ => ⟨rfl, e97, (by decide : 3 + 0 ≤ _), (by decide : 20 + 0 ≤ _)⟩)
    dsimp only [Pt.U, Pt.locs, Pt.cells, Pt.slots] at X98 lq98 yq98 zq98 st98 hQ98
    subst lq98 yq98 zq98
    obtain ⟨r98, hr98, rfl, N98q, e98⟩ := hQ98
    have N98 := Fr.app N95 N98q
    obtain ⟨sa104, T104, h104, k1104, sb104, sk104, X104, e104, E104, hS104, hk104, hZ104, ho104, SE104, SC104, SV104, SA104, -, -, I104, st104⟩ := ldcSV (s := s) (vm0 := T97.vm) (Z := Z) (h := h97) X98 hx hZ97 ho97 (hw _ (List.mem_of_getElem? (i := 48) rfl)) wS e98 hS97 hk97 (by rw [hh, ← hn0]; exact N98) hkp I97 (by decide) (hcs ("com/example/wrasse/wrasse/model/KindMayStartWordPinLaw", 38) (by decide +kernel)) hcw (vs := [(.int (97 : Int32)), (.int (100 : Int32)), (.int (100 : Int32))]) (z := (3 : Int32)) ⟨by decide +kernel, by decide +kernel⟩ (by decide) (by decide) (g := (mkF m 73 #[.val (.int p1), .val (.ref b1o), .val (.int (3 : Int32)), .val (.ref w3), .val (.int (0 : Int32)), .val (.int r92), .val (.ref l3), .unset] [(.ref l3)])) rfl (hb hby at_73) (n := 12) (by decide +kernel) (by decide) (by decide) (by decide)
    have Z104 : n0 ≤ h104.size := Nat.le_trans Z97 E104.1
    have f106 := (f99.ext E104)
    have f107 := (f100.ext E104)
    have f108 := (f101.ext E104)
    have f109 := (f102.ext E104)
    have f110 := (f103.ext E104)
    obtain ⟨cq105, kz105, q105a, q105b, q105c⟩ := isOf hZ104 e104 f107
    obtain ⟨_, _, ⟨T105, Lq105, kq105, nq105⟩, -, X105, ⟨Lc105, hQ105, lq105, yq105, zq105⟩, st105⟩ := X104.virtualBack hx (y := (⟨"java/lang/String", "equals", "(Ljava/lang/Object;)Z"⟩ : MethodName)) (z := (⟨"java/lang/String", "equals", "(Ljava/lang/Object;)Z"⟩ : MethodName)) ho104 (mvT hZ104 (hw _ (List.mem_of_getElem? (i := 33) rfl))) (mvT hZ104 (hw _ (List.mem_of_getElem? (i := 34) rfl))) (notFace_of_selects (args := #[]) (mvT hZ104 (hw _ (List.mem_of_getElem? (i := 36) rfl)))) (mvT hZ104 (hw _ (List.mem_of_getElem? (i := 36) rfl))) (mvT hZ104 (hw _ (List.mem_of_getElem? (i := 35) rfl))) (by decide) (backOf (W := 0) (rmE l Z a0 hw [] l3 sa104 G1 x3 sb104 k3 sk104 (114 : Int32) (101 : Int32) (118 : Int32) (97 : Int32) (100 : Int32) (100 : Int32) h104 n0 Z104 (O_2.ext f106.2) P5 f107 SE104 f108 SV104 f109 SC104 f110 SA104) hZ104 (hw _ (List.mem_of_getElem? (i := 37) rfl)) (hw _ (List.mem_of_getElem? (i := 26) rfl)) (by decide) (by decide)) q105a q105c (g := (mkF m 75 #[.val (.int p1), .val (.ref b1o), .val (.int (3 : Int32)), .val (.ref w3), .val (.int (0 : Int32)), .val (.int r92), .val (.ref l3), .unset] [(.ref sa104), (.ref l3)])) rfl (by rw [hml]; rfl) (Steps.refl _) (argsL := [(.ref sa104)]) (rest := []) (lenOf pd_3 rfl) rfl (by show 2 * 0 + _ ≤ _; exact Nat.le_of_eq rfl) (hb hby at_75) (fun _ _ => ⟨rfl, e104, (by decide : 5 + 0 ≤ _), (by decide : 36 + 0 ≤ _)⟩)
    dsimp only [Pt.U, Pt.locs, Pt.cells, Pt.slots] at X105 lq105 yq105 zq105 st105 hQ105
    subst lq105 yq105 zq105
    obtain ⟨r105, hr105, rfl, N105q, e105⟩ := hQ105
    have N105 := Fr.app N98 N105q
    obtain ⟨fs, hr, hrun, hended, hwd⟩ := X105.leaveW hS104 (Nat.le_trans hk104 (Nat.le_of_eq (congrArg Array.size e105).symm)) (v := some (.int (1 : Int32))) (fun h => by rw [Bd.returns] at h; cases h)
    refine ⟨_, _, pre0 _ ?_, hrun, hended, _, _, rfl, ?_, hwd.1, hwd.2.1, hwd.2.2.1, hwd.2.2.2.mono (by decide) (by decide)⟩
    · show Steps p.tables e below (s₁.setTop (mkF m 0 #[.val (.int p1), .unset, .unset, .unset, .unset, .unset, .unset, .unset] [])) _
      refine XS.iconst X0.here hx rfl (hb hby at_0) ?_
      show Steps p.tables e below (s₁.setTop (mkF m 1 #[.val (.int p1), .unset, .unset, .unset, .unset, .unset, .unset, .unset] [(.int (4 : Int32))])) _
      refine st1 _ ?_
      show Steps p.tables e below (T1.setTop (mkF m 4 #[.val (.int p1), .unset, .unset, .unset, .unset, .unset, .unset, .unset] [(.ref b1o)])) _
      refine XS.dup X1.here hx rfl (hb hby at_4) rfl rfl ?_
      show Steps p.tables e below (T1.setTop (mkF m 5 #[.val (.int p1), .unset, .unset, .unset, .unset, .unset, .unset, .unset] [(.ref b1o), (.ref b1o)])) _
      refine XS.iconst X1.here hx rfl (hb hby at_5) ?_
      show Steps p.tables e below (T1.setTop (mkF m 6 #[.val (.int p1), .unset, .unset, .unset, .unset, .unset, .unset, .unset] [(.int (0 : Int32)), (.ref b1o), (.ref b1o)])) _
      refine st15 _ ?_
      show Steps p.tables e below (T15.setTop (mkF m 9 #[.val (.int p1), .unset, .unset, .unset, .unset, .unset, .unset, .unset] [(.ref w0), (.int (0 : Int32)), (.ref b1o), (.ref b1o)])) _
      refine st17 _ ?_
      show Steps p.tables e below (T17.setTop (mkF m 10 #[.val (.int p1), .unset, .unset, .unset, .unset, .unset, .unset, .unset] [(.ref b1o)])) _
      refine XS.dup X17.here hx rfl (hb hby at_10) rfl rfl ?_
      show Steps p.tables e below (T17.setTop (mkF m 11 #[.val (.int p1), .unset, .unset, .unset, .unset, .unset, .unset, .unset] [(.ref b1o), (.ref b1o)])) _
      refine XS.iconst X17.here hx rfl (hb hby at_11) ?_
      show Steps p.tables e below (T17.setTop (mkF m 12 #[.val (.int p1), .unset, .unset, .unset, .unset, .unset, .unset, .unset] [(.int (1 : Int32)), (.ref b1o), (.ref b1o)])) _
      refine st20 _ ?_
      show Steps p.tables e below (T20.setTop (mkF m 15 #[.val (.int p1), .unset, .unset, .unset, .unset, .unset, .unset, .unset] [(.ref w1), (.int (1 : Int32)), (.ref b1o), (.ref b1o)])) _
      refine st22 _ ?_
      show Steps p.tables e below (T22.setTop (mkF m 16 #[.val (.int p1), .unset, .unset, .unset, .unset, .unset, .unset, .unset] [(.ref b1o)])) _
      refine XS.dup X22.here hx rfl (hb hby at_16) rfl rfl ?_
      show Steps p.tables e below (T22.setTop (mkF m 17 #[.val (.int p1), .unset, .unset, .unset, .unset, .unset, .unset, .unset] [(.ref b1o), (.ref b1o)])) _
      refine XS.iconst X22.here hx rfl (hb hby at_17) ?_
      show Steps p.tables e below (T22.setTop (mkF m 18 #[.val (.int p1), .unset, .unset, .unset, .unset, .unset, .unset, .unset] [(.int (2 : Int32)), (.ref b1o), (.ref b1o)])) _
      refine st25 _ ?_
      show Steps p.tables e below (T25.setTop (mkF m 21 #[.val (.int p1), .unset, .unset, .unset, .unset, .unset, .unset, .unset] [(.ref w2), (.int (2 : Int32)), (.ref b1o), (.ref b1o)])) _
      refine st27 _ ?_
      show Steps p.tables e below (T27.setTop (mkF m 22 #[.val (.int p1), .unset, .unset, .unset, .unset, .unset, .unset, .unset] [(.ref b1o)])) _
      refine XS.dup X27.here hx rfl (hb hby at_22) rfl rfl ?_
      show Steps p.tables e below (T27.setTop (mkF m 23 #[.val (.int p1), .unset, .unset, .unset, .unset, .unset, .unset, .unset] [(.ref b1o), (.ref b1o)])) _
      refine XS.iconst X27.here hx rfl (hb hby at_23) ?_
      show Steps p.tables e below (T27.setTop (mkF m 24 #[.val (.int p1), .unset, .unset, .unset, .unset, .unset, .unset, .unset] [(.int (3 : Int32)), (.ref b1o), (.ref b1o)])) _
      refine st30 _ ?_
      show Steps p.tables e below (T30.setTop (mkF m 27 #[.val (.int p1), .unset, .unset, .unset, .unset, .unset, .unset, .unset] [(.ref w3), (.int (3 : Int32)), (.ref b1o), (.ref b1o)])) _
      refine st32 _ ?_
      show Steps p.tables e below (T32.setTop (mkF m 28 #[.val (.int p1), .unset, .unset, .unset, .unset, .unset, .unset, .unset] [(.ref b1o)])) _
      refine XS.astoreN X32.here hx rfl (hb hby at_28) rfl rfl (l' := #[.val (.int p1), .val (.ref b1o), .unset, .unset, .unset, .unset, .unset, .unset]) rfl ?_
      show Steps p.tables e below (T32.setTop (mkF m 29 #[.val (.int p1), .val (.ref b1o), .unset, .unset, .unset, .unset, .unset, .unset] [])) _
      refine XS.iloadN X32.here hx rfl (hb hby at_29) rfl ?_
      show Steps p.tables e below (T32.setTop (mkF m 30 #[.val (.int p1), .val (.ref b1o), .unset, .unset, .unset, .unset, .unset, .unset] [(.int p1)])) _
      refine XS.iconst X32.here hx rfl (hb hby at_30) ?_
      show Steps p.tables e below (T32.setTop (mkF m 31 #[.val (.int p1), .val (.ref b1o), .unset, .unset, .unset, .unset, .unset, .unset] [(.int (3 : Int32)), (.int p1)])) _
      refine XS.iand X32.here hx rfl (hb hby at_31) rfl ?_
      show Steps p.tables e below (T32.setTop (mkF m 32 #[.val (.int p1), .val (.ref b1o), .unset, .unset, .unset, .unset, .unset, .unset] [(.int (p1 &&& (3 : Int32)))])) _
      refine XS.istoreN X32.here hx rfl (hb hby at_32) rfl (l' := #[.val (.int p1), .val (.ref b1o), .val (.int (p1 &&& (3 : Int32))), .unset, .unset, .unset, .unset, .unset]) rfl ?_
      show Steps p.tables e below (T32.setTop (mkF m 33 #[.val (.int p1), .val (.ref b1o), .val (.int (p1 &&& (3 : Int32))), .unset, .unset, .unset, .unset, .unset] [])) _
      rw [hI]
      show Steps p.tables e below (T32.setTop (mkF m 33 #[.val (.int p1), .val (.ref b1o), .val (.int (3 : Int32)), .unset, .unset, .unset, .unset, .unset] [])) _
      refine XS.aloadN X32.here hx rfl (hb hby at_33) rfl rfl ?_
      show Steps p.tables e below (T32.setTop (mkF m 34 #[.val (.int p1), .val (.ref b1o), .val (.int (3 : Int32)), .unset, .unset, .unset, .unset, .unset] [(.ref b1o)])) _
      refine XS.iloadN X32.here hx rfl (hb hby at_34) rfl ?_
      show Steps p.tables e below (T32.setTop (mkF m 35 #[.val (.int p1), .val (.ref b1o), .val (.int (3 : Int32)), .unset, .unset, .unset, .unset, .unset] [(.int (3 : Int32)), (.ref b1o)])) _
      refine X32.aaload hx (j := (3 : Int32)) (v := (.ref w3)) (by rw [e32]; exact Ar90.1) (State.isArrayOf_alike hZ.alike Ar90.2.1) rfl Ar90.2.2 hin91 hat91 (g := (mkF m 35 #[.val (.int p1), .val (.ref b1o), .val (.int (3 : Int32)), .unset, .unset, .unset, .unset, .unset] [(.int (3 : Int32)), (.ref b1o)])) rfl rfl (hb hby at_35) _ ?_
      show Steps p.tables e below (T32.setTop (mkF m 36 #[.val (.int p1), .val (.ref b1o), .val (.int (3 : Int32)), .unset, .unset, .unset, .unset, .unset] [(.ref w3)])) _
      refine XS.astoreN X32.here hx rfl (hb hby at_36) rfl rfl (l' := #[.val (.int p1), .val (.ref b1o), .val (.int (3 : Int32)), .val (.ref w3), .unset, .unset, .unset, .unset]) rfl ?_
      show Steps p.tables e below (T32.setTop (mkF m 37 #[.val (.int p1), .val (.ref b1o), .val (.int (3 : Int32)), .val (.ref w3), .unset, .unset, .unset, .unset] [])) _
      refine XS.iloadN X32.here hx rfl (hb hby at_37) rfl ?_
      show Steps p.tables e below (T32.setTop (mkF m 38 #[.val (.int p1), .val (.ref b1o), .val (.int (3 : Int32)), .val (.ref w3), .unset, .unset, .unset, .unset] [(.int (3 : Int32))])) _
      refine XS.iconst X32.here hx rfl (hb hby at_38) ?_
      show Steps p.tables e below (T32.setTop (mkF m 39 #[.val (.int p1), .val (.ref b1o), .val (.int (3 : Int32)), .val (.ref w3), .unset, .unset, .unset, .unset] [(.int (2 : Int32)), (.int (3 : Int32))])) _
      refine XS.icmpYes X32.here hx rfl (pc0 := 39) (pc' := 46) rfl (hb hby at_39) rfl (flt (by decide)).2.1 (by decide) (by decide) ?_
      show Steps p.tables e below (T32.setTop (mkF m 46 #[.val (.int p1), .val (.ref b1o), .val (.int (3 : Int32)), .val (.ref w3), .unset, .unset, .unset, .unset] [])) _
      refine XS.iconst X32.here hx rfl (hb hby at_46) ?_
      show Steps p.tables e below (T32.setTop (mkF m 47 #[.val (.int p1), .val (.ref b1o), .val (.int (3 : Int32)), .val (.ref w3), .unset, .unset, .unset, .unset] [(.int (0 : Int32))])) _
      refine XS.istore X32.here hx rfl (hb hby at_47) rfl (l' := #[.val (.int p1), .val (.ref b1o), .val (.int (3 : Int32)), .val (.ref w3), .val (.int (0 : Int32)), .unset, .unset, .unset]) rfl ?_
      show Steps p.tables e below (T32.setTop (mkF m 49 #[.val (.int p1), .val (.ref b1o), .val (.int (3 : Int32)), .val (.ref w3), .val (.int (0 : Int32)), .unset, .unset, .unset] [])) _
      refine XS.aloadN X32.here hx rfl (hb hby at_49) rfl rfl ?_
      show Steps p.tables e below (T32.setTop (mkF m 50 #[.val (.int p1), .val (.ref b1o), .val (.int (3 : Int32)), .val (.ref w3), .val (.int (0 : Int32)), .unset, .unset, .unset] [(.ref w3)])) _
      refine st92.trans ?_
      show Steps p.tables e below (T92.setTop (mkF m 53 #[.val (.int p1), .val (.ref b1o), .val (.int (3 : Int32)), .val (.ref w3), .val (.int (0 : Int32)), .unset, .unset, .unset] [(.int r92)])) _
      refine XS.istore X92.here hx rfl (hb hby at_53) rfl (l' := #[.val (.int p1), .val (.ref b1o), .val (.int (3 : Int32)), .val (.ref w3), .val (.int (0 : Int32)), .val (.int r92), .unset, .unset]) rfl ?_
      show Steps p.tables e below (T92.setTop (mkF m 55 #[.val (.int p1), .val (.ref b1o), .val (.int (3 : Int32)), .val (.ref w3), .val (.int (0 : Int32)), .val (.int r92), .unset, .unset] [])) _
      refine XS.aloadN X92.here hx rfl (hb hby at_55) rfl rfl ?_
      show Steps p.tables e below (T92.setTop (mkF m 56 #[.val (.int p1), .val (.ref b1o), .val (.int (3 : Int32)), .val (.ref w3), .val (.int (0 : Int32)), .val (.int r92), .unset, .unset] [(.ref w3)])) _
      refine st95.trans ?_
      show Steps p.tables e below (T95.setTop (mkF m 59 #[.val (.int p1), .val (.ref b1o), .val (.int (3 : Int32)), .val (.ref w3), .val (.int (0 : Int32)), .val (.int r92), .unset, .unset] [(.ref l3)])) _
      refine XS.astore X95.here hx rfl (hb hby at_59) rfl rfl (l' := #[.val (.int p1), .val (.ref b1o), .val (.int (3 : Int32)), .val (.ref w3), .val (.int (0 : Int32)), .val (.int r92), .val (.ref l3), .unset]) rfl ?_
      show Steps p.tables e below (T95.setTop (mkF m 61 #[.val (.int p1), .val (.ref b1o), .val (.int (3 : Int32)), .val (.ref w3), .val (.int (0 : Int32)), .val (.int r92), .val (.ref l3), .unset] [])) _
      refine XS.aload X95.here hx rfl (hb hby at_61) rfl rfl ?_
      show Steps p.tables e below (T95.setTop (mkF m 63 #[.val (.int p1), .val (.ref b1o), .val (.int (3 : Int32)), .val (.ref w3), .val (.int (0 : Int32)), .val (.int r92), .val (.ref l3), .unset] [(.ref l3)])) _
      refine st97 _ ?_
      show Steps p.tables e below (T97.setTop (mkF m 65 #[.val (.int p1), .val (.ref b1o), .val (.int (3 : Int32)), .val (.ref w3), .val (.int (0 : Int32)), .val (.int r92), .val (.ref l3), .unset] [(.ref sa97), (.ref l3)])) _
      refine st98.trans ?_
      show Steps p.tables e below (T98.setTop (mkF m 68 #[.val (.int p1), .val (.ref b1o), .val (.int (3 : Int32)), .val (.ref w3), .val (.int (0 : Int32)), .val (.int r92), .val (.ref l3), .unset] [(.int r98)])) _
      refine XS.ifNo X98.here hx rfl (hb hby at_68) rfl ((if0 _ _).trans (teq (by rw [hr98]; decide)).2) ?_
      show Steps p.tables e below (T98.setTop (mkF m 71 #[.val (.int p1), .val (.ref b1o), .val (.int (3 : Int32)), .val (.ref w3), .val (.int (0 : Int32)), .val (.int r92), .val (.ref l3), .unset] [])) _
      refine XS.aload X98.here hx rfl (hb hby at_71) rfl rfl ?_
      show Steps p.tables e below (T98.setTop (mkF m 73 #[.val (.int p1), .val (.ref b1o), .val (.int (3 : Int32)), .val (.ref w3), .val (.int (0 : Int32)), .val (.int r92), .val (.ref l3), .unset] [(.ref l3)])) _
      refine st104 _ ?_
      show Steps p.tables e below (T104.setTop (mkF m 75 #[.val (.int p1), .val (.ref b1o), .val (.int (3 : Int32)), .val (.ref w3), .val (.int (0 : Int32)), .val (.int r92), .val (.ref l3), .unset] [(.ref sa104), (.ref l3)])) _
      refine st105.trans ?_
      show Steps p.tables e below (T105.setTop (mkF m 78 #[.val (.int p1), .val (.ref b1o), .val (.int (3 : Int32)), .val (.ref w3), .val (.int (0 : Int32)), .val (.int r92), .val (.ref l3), .unset] [(.int r105)])) _
      refine XS.ifYes X105.here hx rfl (pc0 := 78) (pc' := 85) rfl (hb hby at_78) rfl ((if0 _ _).trans (teq (by rw [hr105]; decide)).1) (by decide) (by decide) ?_
      show Steps p.tables e below (T105.setTop (mkF m 85 #[.val (.int p1), .val (.ref b1o), .val (.int (3 : Int32)), .val (.ref w3), .val (.int (0 : Int32)), .val (.int r92), .val (.ref l3), .unset] [])) _
      refine XS.iconst X105.here hx rfl (hb hby at_85) ?_
      show Steps p.tables e below (T105.setTop (mkF m 86 #[.val (.int p1), .val (.ref b1o), .val (.int (3 : Int32)), .val (.ref w3), .val (.int (0 : Int32)), .val (.int r92), .val (.ref l3), .unset] [(.int (0 : Int32))])) _
      refine XS.istore X105.here hx rfl (hb hby at_86) rfl (l' := #[.val (.int p1), .val (.ref b1o), .val (.int (3 : Int32)), .val (.ref w3), .val (.int (0 : Int32)), .val (.int r92), .val (.ref l3), .val (.int (0 : Int32))]) rfl ?_
      show Steps p.tables e below (T105.setTop (mkF m 88 #[.val (.int p1), .val (.ref b1o), .val (.int (3 : Int32)), .val (.ref w3), .val (.int (0 : Int32)), .val (.int r92), .val (.ref l3), .val (.int (0 : Int32))] [])) _
      refine XS.iload X105.here hx rfl (hb hby at_88) rfl ?_
      show Steps p.tables e below (T105.setTop (mkF m 90 #[.val (.int p1), .val (.ref b1o), .val (.int (3 : Int32)), .val (.ref w3), .val (.int (0 : Int32)), .val (.int r92), .val (.ref l3), .val (.int (0 : Int32))] [(.int r92)])) _
      refine XS.iload X105.here hx rfl (hb hby at_90) rfl ?_
      show Steps p.tables e below (T105.setTop (mkF m 92 #[.val (.int p1), .val (.ref b1o), .val (.int (3 : Int32)), .val (.ref w3), .val (.int (0 : Int32)), .val (.int r92), .val (.ref l3), .val (.int (0 : Int32))] [(.int (0 : Int32)), (.int r92)])) _
      refine XS.icmpNo X105.here hx rfl (hb hby at_92) rfl (teq (by rw [hr92]; rw [if_neg n30, if_neg n31])).2 ?_
      show Steps p.tables e below (T105.setTop (mkF m 95 #[.val (.int p1), .val (.ref b1o), .val (.int (3 : Int32)), .val (.ref w3), .val (.int (0 : Int32)), .val (.int r92), .val (.ref l3), .val (.int (0 : Int32))] [])) _
      refine XS.iload X105.here hx rfl (hb hby at_95) rfl ?_
      show Steps p.tables e below (T105.setTop (mkF m 97 #[.val (.int p1), .val (.ref b1o), .val (.int (3 : Int32)), .val (.ref w3), .val (.int (0 : Int32)), .val (.int r92), .val (.ref l3), .val (.int (0 : Int32))] [(.int r92)])) _
      refine XS.iload X105.here hx rfl (hb hby at_97) rfl ?_
      show Steps p.tables e below (T105.setTop (mkF m 99 #[.val (.int p1), .val (.ref b1o), .val (.int (3 : Int32)), .val (.ref w3), .val (.int (0 : Int32)), .val (.int r92), .val (.ref l3), .val (.int (0 : Int32))] [(.int (0 : Int32)), (.int r92)])) _
      refine XS.icmpNo X105.here hx rfl (hb hby at_99) rfl (teq (by rw [hr92]; rw [if_neg n30, if_neg n31])).2 ?_
      show Steps p.tables e below (T105.setTop (mkF m 102 #[.val (.int p1), .val (.ref b1o), .val (.int (3 : Int32)), .val (.ref w3), .val (.int (0 : Int32)), .val (.int r92), .val (.ref l3), .val (.int (0 : Int32))] [])) _
      refine XS.iconst X105.here hx rfl (hb hby at_102) ?_
      show Steps p.tables e below (T105.setTop (mkF m 103 #[.val (.int p1), .val (.ref b1o), .val (.int (3 : Int32)), .val (.ref w3), .val (.int (0 : Int32)), .val (.int r92), .val (.ref l3), .val (.int (0 : Int32))] [(.int (1 : Int32))])) _
      refine XS.goto X105.here hx rfl (pc0 := 103) (pc' := 107) rfl (hb hby at_103) (by decide) (by decide) ?_
      show Steps p.tables e below (T105.setTop (mkF m 107 #[.val (.int p1), .val (.ref b1o), .val (.int (3 : Int32)), .val (.ref w3), .val (.int (0 : Int32)), .val (.int r92), .val (.ref l3), .val (.int (0 : Int32))] [(.int (1 : Int32))])) _
      exact retN X105 hx (t := .boolean) Bd.returns (by simp) (hb hby at_107) hr
    · show Qrm0 Z p1 G1 w0 l0 x0 k0 w1 l1 x1 k1 w2 l2 x2 k2 w3 l3 x3 k3 h0 n0 _ T105.heap _
      exact ⟨rfl, N105⟩
set_option maxRecDepth 65536 in
set_option maxHeartbeats 40000000 in
theorem comes_1 {Post : Tables → Env → Array Value → State → Outcome → State → Prop} (hpost : ∀ tb e args s v u, (limb_1_1.after args s (.returned v) u = true ∧ limb_1_2.after args s (.returned v) u = true) → ReturnedEndW s (.returned v) u (Jvm.fieldLocs frame_1_writes args s ++ Jvm.arrayLocs frame_1_arrays args s ++ Jvm.staticLocs frame_1_statics s) 16 2176 → Post tb e args s (.returned v) u) :
    ArmFor flags0 classFile x code maxLocals ret World_1 tables_1 room_1 Calls_1 rest_1 Pre_1 Post := by
  intro l hfl _ _ p e ha hc hk s m args below hf hA hF happ hP
  obtain ⟨hcalls, hrest, hpre⟩ := hP
  obtain ⟨-, -, -, hnamed, -, -, -, hat⟩ := (Spec.applies_iff hf).mp happ
  obtain ⟨hg, hn⟩ := and_e (Cond.before_iff.mp (show (Jvm.Cond.and given_1 narrow_1).before args s = true from hpre))
  obtain ⟨hcount, hg0⟩ := and_e hg
  obtain ⟨w0, rfl⟩ : ∃ w0 : Value, args = #[w0] := by
    have hs : args.size = 1 := by simpa [Cond.value, given_1] using hcount
    obtain ⟨L⟩ := args
    match L, hs with
    | [w0], _ => exact ⟨w0, rfl⟩
  have hw := fun d (hd : d ∈ tables_1) => atoms_spec (ws := Jvm.Cond.code x code maxLocals ret :: tables_1) hat d (List.mem_cons_of_mem _ hd)
  have hfit : Fit s := fun {y c} hc i hi => by
    obtain ⟨ha, rfl⟩ := Array.getElem?_eq_some_iff.mp hc
    have q := List.all_eq_true.mp ((Array.all_eq_true_iff_forall_mem.mp hF) _ (Array.getElem_mem ha)) i (List.mem_range.mpr hi)
    simpa [Array.getElem?_eq_getElem hi] using q
  obtain ⟨i0, ei0⟩ := is_v hg0
  obtain rfl : w0 = (.int i0) := Option.some.inj ei0
  obtain ⟨hsets, hown0⟩ := atoms_of _ (rest_1_c_eq ▸ (show rest_1_c.before _ s = true from hrest))
  have hcw := hsets _ (List.mem_of_getElem? (i := 2) rfl)
  have n3 := not_v (Cond.before_iff.mp hcw)
  obtain ⟨G1, eG1⟩ := is_v (Cond.before_iff.mp (hsets _ (List.mem_of_getElem? (i := 1) rfl)))
  have O_2 : Sta s s.heap "java/lang/String" "COMPACT_STRINGS" "Z" (.int G1) := Sta.start eG1 (Or.inl (hsets _ (List.mem_of_getElem? (i := 0) rfl)))
  have P5 : ¬ (G1 = (0 : Int32)) := gotF (Cond.eq_ints eG1 (Term.int_eval (0))) n3
  obtain ⟨c0, hn⟩ := and_e hn
  obtain ⟨c1, hn⟩ := and_e hn
  obtain ⟨c2, hn⟩ := and_e hn
  obtain ⟨c3, hn⟩ := and_e hn
  obtain ⟨c4, hn⟩ := and_e hn
  obtain ⟨c5, hn⟩ := and_e hn
  obtain ⟨c6, hn⟩ := and_e hn
  obtain ⟨c7, hn⟩ := and_e hn
  obtain ⟨c8, hn⟩ := and_e hn
  obtain ⟨c9, hn⟩ := and_e hn
  obtain ⟨c10, hn⟩ := and_e hn
  obtain ⟨c11, hn⟩ := and_e hn
  obtain ⟨c12, hn⟩ := and_e hn
  obtain ⟨c13, hn⟩ := and_e hn
  obtain ⟨c14, hn⟩ := and_e hn
  obtain ⟨c15, hn⟩ := and_e hn
  obtain ⟨c16, hn⟩ := and_e hn
  obtain ⟨c17, hn⟩ := and_e hn
  obtain ⟨c18, hn⟩ := and_e hn
  obtain ⟨c19, hn⟩ := and_e hn
  obtain ⟨c20, hn⟩ := and_e hn
  obtain ⟨c21, hn⟩ := and_e hn
  obtain ⟨c22, hn⟩ := and_e hn
  obtain ⟨c23, hn⟩ := and_e hn
  obtain ⟨c24, hn⟩ := and_e hn
  obtain ⟨c25, hn⟩ := and_e hn
  obtain ⟨c26, hn⟩ := and_e hn
  obtain ⟨c27, hn⟩ := and_e hn
  obtain ⟨c28, hn⟩ := and_e hn
  obtain ⟨c29, hn⟩ := and_e hn
  obtain ⟨c30, hn⟩ := and_e hn
  obtain ⟨c31, hn⟩ := and_e hn
  obtain ⟨c32, hn⟩ := and_e hn
  obtain ⟨c33, hn⟩ := and_e hn
  obtain ⟨c34, hn⟩ := and_e hn
  have c35 := hn
  obtain ⟨w0, e0⟩ := exa_v c0
  have O_s0 := Sta.start e0 (Or.inr ⟨(hw _ (List.mem_of_getElem? (i := 3) rfl)), (hw _ (List.mem_of_getElem? (i := 4) rfl))⟩)
  have EW0 := Exa.start e0 c0
  obtain ⟨l0, f0⟩ := exa_v c4
  have EL0 := Exa.start f0 c4
  have u0 := f0
  rw [fld_at e0] at u0
  have FL0 := Fld.start u0
  have t0 := own_eqint c5
  rw [fld_at f0] at t0
  have FC0 := Fld.start t0
  obtain ⟨x0, g0⟩ := arr_v c6
  have z0 := g0
  rw [fld_at f0] at z0
  have FV0 := Fld.start z0
  obtain ⟨k0, AV0⟩ := own_bytes3 hfit g0 c6 c7 c8 c9 c10
  have q0 := own_eqint c12
  rw [fld_at e0] at q0
  obtain ⟨w1, e1⟩ := exa_v c1
  have O_s1 := Sta.start e1 (Or.inr ⟨(hw _ (List.mem_of_getElem? (i := 3) rfl)), (hw _ (List.mem_of_getElem? (i := 7) rfl))⟩)
  have EW1 := Exa.start e1 c1
  obtain ⟨l1, f1⟩ := exa_v c25
  have EL1 := Exa.start f1 c25
  have u1 := f1
  rw [fld_at e1] at u1
  have FL1 := Fld.start u1
  have t1 := own_eqint c26
  rw [fld_at f1] at t1
  have FC1 := Fld.start t1
  obtain ⟨x1, g1⟩ := arr_v c27
  have z1 := g1
  rw [fld_at f1] at z1
  have FV1 := Fld.start z1
  obtain ⟨k1, AV1⟩ := own_bytes3 hfit g1 c27 c28 c29 c30 c31
  have q1 := own_eqint c13
  rw [fld_at e1] at q1
  obtain ⟨w2, e2⟩ := exa_v c2
  have O_s2 := Sta.start e2 (Or.inr ⟨(hw _ (List.mem_of_getElem? (i := 3) rfl)), (hw _ (List.mem_of_getElem? (i := 9) rfl))⟩)
  have EW2 := Exa.start e2 c2
  obtain ⟨l2, f2⟩ := exa_v c20
  have EL2 := Exa.start f2 c20
  have u2 := f2
  rw [fld_at e2] at u2
  have FL2 := Fld.start u2
  have t2 := own_eqint c21
  rw [fld_at f2] at t2
  have FC2 := Fld.start t2
  obtain ⟨x2, g2⟩ := arr_v c22
  have z2 := g2
  rw [fld_at f2] at z2
  have FV2 := Fld.start z2
  obtain ⟨k2, AV2⟩ := own_bytes3 hfit g2 c22 c23 c24 c34 c35
  have q2 := own_eqint c19
  rw [fld_at e2] at q2
  obtain ⟨w3, e3⟩ := exa_v c3
  have O_s3 := Sta.start e3 (Or.inr ⟨(hw _ (List.mem_of_getElem? (i := 3) rfl)), (hw _ (List.mem_of_getElem? (i := 11) rfl))⟩)
  have EW3 := Exa.start e3 c3
  obtain ⟨l3, f3⟩ := exa_v c14
  have EL3 := Exa.start f3 c14
  have u3 := f3
  rw [fld_at e3] at u3
  have FL3 := Fld.start u3
  have t3 := own_eqint c15
  rw [fld_at f3] at t3
  have FC3 := Fld.start t3
  obtain ⟨x3, g3⟩ := arr_v c16
  have z3 := g3
  rw [fld_at f3] at z3
  have FV3 := Fld.start z3
  obtain ⟨k3, AV3⟩ := own_bytes3 hfit g3 c16 c17 c18 c32 c33
  have q3 := own_eqint c11
  rw [fld_at e3] at q3
  have n10 : ¬ w1 = w0 := fun z => by
    have r := q1
    rw [z, q0] at r; cases r
  have n20 : ¬ w2 = w0 := fun z => by
    have r := q2
    rw [z, q0] at r; cases r
  have n21 : ¬ w2 = w1 := fun z => by
    have r := q2
    rw [z, q1] at r; cases r
  have n30 : ¬ w3 = w0 := fun z => by
    have r := q3
    rw [z, q0] at r; cases r
  have n31 : ¬ w3 = w1 := fun z => by
    have r := q3
    rw [z, q1] at r; cases r
  obtain ⟨n, o, h1, h2, h3, _, L, rfl, ⟨rfl, N⟩, hq⟩ := rm0 l s _ hw tables_1 i0 G1 w0 l0 x0 k0 w1 l1 x1 k1 w2 l2 x2 k2 w3 l3 x3 k3 s.heap s.heap.size (Nat.le_refl _) O_s0 EW0 FL0 EL0 FC0 FV0 AV0 O_s1 EW1 FL1 EL1 FC1 FV1 AV1 O_s2 EW2 FL2 EL2 FC2 FV2 AV2 O_s3 EW3 FL3 EL3 FC3 FV3 AV3 n10 n20 n21 n30 n31 O_2 P5 (Old.start s) rfl hcalls.1 hcw p e ha hc hk s m _ below hf ((Spec.applies_iff_loose hf).mp happ).1 ⟨rfl, State.Warmed39.refl s, rfl, rfl⟩ trivial
  refine ⟨n, _, h1, h2, h3, hpost _ _ _ _ _ _ ⟨Cond.after_iff.mpr rfl, Cond.after_iff.mpr (eq_i res_at (Term.int_eval (1)) rfl)⟩ ⟨hq.1, hq.2.1, hq.2.2.1, (hq.2.2.2.sift fun y hy => Or.inr (N y hy)).mono (by decide) (by decide)⟩⟩
theorem main_1_1 : Claimed_1_1 := comes_1 fun _ _ _ _ _ _ h hF => ⟨h.1, hF⟩
theorem main_1_2 : Claimed_1_2 := comes_1 fun _ _ _ _ _ _ h hF => ⟨h.2, hF⟩
end Jvm.Pilot.@@N@@
namespace Jvm.Pilot.@@N@@
open Jvm Jvm.ClassFile Sem Op Lib Jvm.Free Jvm.Stand Jvm.Pilot.@@N@@.Jvm.D
/-! MADE BY PROGRAM (witnessworld.py) out of the Statement's table words and the real class files: 19 classes; the members and pool entries that the words name. The judged class is class 1, her method 1. -/
namespace start1
open Jvm.ClassFile
def u (s : String) : CpInfo := .utf8 (stringToUtf16 s)
/-- a pool by its gaps: so many unusable entries, then the entry; so many at the end -/
def gap : Nat → List CpInfo → List CpInfo
  | 0, r => r
  | n + 1, r => .unusable :: gap n r
def poolList (es : List (Nat × CpInfo)) (last : Nat) : List CpInfo := es.foldr (fun e r => gap e.1 (e.2 :: r)) (gap last [])
def pool (es : List (Nat × CpInfo)) (last : Nat) : Array CpInfo := ⟨poolList es last⟩
def fileOf (pool : Array CpInfo) (this : Nat) (attrs : Array Attribute := #[]) (ms : Array MethodInfo := #[]) (fl : Nat := 33) (sup : Nat := 0) (ifs : Array Nat := #[]) (fds : Array FieldInfo := #[]) : ClassFile where
  minorVersion := 0
  majorVersion := 65
  constantPool := pool
  accessFlags := fl
  thisClass := this
  superClass := sup
  interfaces := ifs
  fields := fds
  methods := ms
  attributes := attrs
def plain (name : String) (sup : Option ClassId) : Class where
  name := name
  kind := .ordinary
  loader := none
  accessFlags := 33
  super := sup
  interfaces := #[]
  cf := none
  fields := #[]
  methods := #[]
  instanceTypes := #[]
  staticTypes := #[]
  resolved := #[]
  callSites := []
  init := .initialized
  statics := none
  mirror := none

def pool0 : Array CpInfo := pool [(5, u "<init>"), (0, u "()V"), (1, .class_ 10), (1, u "java/lang/Object")] 113

def k0m0 : Method := { name := "<init>", desc := "()V", sig := { parameters := [], returnType := none }, accessFlags := 1, code := none }
/-- java/lang/Object -/
def k0 : Class := { plain "java/lang/Object" none with
  accessFlags := 33
  interfaces := #[]
  cf := some (fileOf pool0 8 #[] #[{ accessFlags := 1, nameIndex := 5, descriptorIndex := 6, attributes := #[] }] 33 0 #[] #[])
  fields := #[]
  methods := #[k0m0]
  instanceTypes := #[]
  staticTypes := #[]
  resolved := Array.replicate 124 none
  statics := none }

def pool1 : Array CpInfo := pool [(2, .class_ 4), (1, u "java/lang/Object"), (0, u "<init>"), (0, u "()V"), (0, .class_ 8), (0, u "com/example/wrasse/wrasse/model/Edit$Kind"), (0, .fieldref 7 10), (0, .nameAndType 11 12), (0, u "DELETION"), (0, u "Lcom/example/wrasse/wrasse/model/Edit$Kind;"), (0, .fieldref 7 14), (0, .nameAndType 15 12), (0, u "INSERTION"), (0, .fieldref 7 17), (0, .nameAndType 18 12), (0, u "SUBSTITUTION"), (0, .fieldref 7 20), (0, .nameAndType 21 12), (0, u "REVERSAL"), (0, .methodref 7 23), (0, .nameAndType 24 25), (0, u "mayStartWord"), (0, u "()Z"), (0, .methodref 7 27), (0, .nameAndType 28 29), (0, u "label"), (0, u "()Ljava/lang/String;"), (0, .string 31), (0, u "del"), (0, .methodref 33 34), (0, .class_ 35), (0, .nameAndType 36 37), (0, u "java/lang/String"), (0, u "equals"), (0, u "(Ljava/lang/Object;)Z"), (0, .string 39), (0, u "add"), (0, .class_ 41), (0, u "com/example/wrasse/wrasse/model/KindMayStartWordPinLaw"), (2, u "law"), (0, u "(I)Z")] 9

def k1m0 : Method := { name := "<init>", desc := "()V", sig := { parameters := [], returnType := none }, accessFlags := 2, code := none }
def k1c1 : Code := { maxStack := 4, maxLocals := 8, code := code, exceptionTable := #[], attributes := #[] }
def k1m1 : Method := { name := "law", desc := "(I)Z", sig := { parameters := [.int], returnType := some .boolean }, accessFlags := 9, code := some k1c1 }
/-- com/example/wrasse/wrasse/model/KindMayStartWordPinLaw -/
def k1 : Class := { plain "com/example/wrasse/wrasse/model/KindMayStartWordPinLaw" (some 0) with
  accessFlags := 49
  interfaces := #[]
  cf := some (fileOf pool1 40 #[] #[{ accessFlags := 2, nameIndex := 5, descriptorIndex := 6, attributes := #[] }, { accessFlags := 9, nameIndex := 44, descriptorIndex := 45, attributes := #[] }] 49 2 #[] #[])
  fields := #[]
  methods := #[k1m0, k1m1]
  instanceTypes := #[]
  staticTypes := #[]
  resolved := Array.replicate 55 none
  statics := none }

def pool2 : Array CpInfo := pool [(1, .class_ 2), (0, u "java/lang/constant/Constable"), (0, .class_ 4), (0, u "java/lang/Object")] 6

/-- java/lang/constant/Constable -/
def k2 : Class := { plain "java/lang/constant/Constable" (some 0) with
  accessFlags := 1537
  interfaces := #[]
  cf := some (fileOf pool2 1 #[] #[] 1537 3 #[] #[])
  fields := #[]
  methods := #[]
  instanceTypes := #[]
  staticTypes := #[]
  resolved := Array.replicate 11 none
  statics := none }

def pool3 : Array CpInfo := pool [(1, .class_ 2), (0, u "java/lang/Comparable"), (0, .class_ 4), (0, u "java/lang/Object")] 7

/-- java/lang/Comparable -/
def k3 : Class := { plain "java/lang/Comparable" (some 0) with
  accessFlags := 1537
  interfaces := #[]
  cf := some (fileOf pool3 1 #[] #[] 1537 3 #[] #[])
  fields := #[]
  methods := #[]
  instanceTypes := #[]
  staticTypes := #[]
  resolved := Array.replicate 12 none
  statics := none }

def pool4 : Array CpInfo := pool [(1, .class_ 2), (0, u "java/io/Serializable"), (0, .class_ 4), (0, u "java/lang/Object")] 2

/-- java/io/Serializable -/
def k4 : Class := { plain "java/io/Serializable" (some 0) with
  accessFlags := 1537
  interfaces := #[]
  cf := some (fileOf pool4 1 #[] #[] 1537 3 #[] #[])
  fields := #[]
  methods := #[]
  instanceTypes := #[]
  staticTypes := #[]
  resolved := Array.replicate 7 none
  statics := none }

def pool5 : Array CpInfo := pool [(2, .class_ 4), (1, u "java/lang/Enum"), (0, u "name"), (0, u "Ljava/lang/String;"), (2, u "ordinal"), (0, u "I"), (1, .class_ 14), (1, u "java/lang/Object"), (4, u "hash"), (86, .class_ 108), (1, u "java/lang/Enum$EnumDesc"), (2, .class_ 112), (0, u "java/lang/constant/Constable"), (0, .class_ 114), (0, u "java/lang/Comparable"), (0, .class_ 116), (0, u "java/io/Serializable")] 87

/-- java/lang/Enum -/
def k5 : Class := { plain "java/lang/Enum" (some 0) with
  accessFlags := 1057
  interfaces := #[2, 3, 4]
  cf := some (fileOf pool5 2 #[.nestMembers #[106]] #[] 1057 12 #[111, 113, 115] #[{ accessFlags := 18, nameIndex := 5, descriptorIndex := 6, attributes := #[] }, { accessFlags := 18, nameIndex := 9, descriptorIndex := 10, attributes := #[] }, { accessFlags := 2, nameIndex := 19, descriptorIndex := 10, attributes := #[] }])
  fields := #[{ name := "name", type := (.object "java/lang/String"), accessFlags := 18, slot := 0, constantValue := 0 }, { name := "ordinal", type := .int, accessFlags := 18, slot := 1, constantValue := 0 }, { name := "hash", type := .int, accessFlags := 2, slot := 2, constantValue := 0 }]
  methods := #[]
  instanceTypes := #[(.object "java/lang/String"), .int, .int]
  staticTypes := #[]
  resolved := Array.replicate 204 none
  statics := none }

def pool6 : Array CpInfo := pool [(1, .class_ 2), (0, u "com/example/wrasse/wrasse/model/Edit$Kind"), (0, .fieldref 1 4), (0, .nameAndType 5 6), (0, u "DELETION"), (0, u "Lcom/example/wrasse/wrasse/model/Edit$Kind;"), (0, .fieldref 1 8), (0, .nameAndType 9 6), (0, u "INSERTION"), (2, u "SUBSTITUTION"), (2, u "REVERSAL"), (2, u "$VALUES"), (0, u "[Lcom/example/wrasse/wrasse/model/Edit$Kind;"), (6, .class_ 28), (1, u "java/lang/Enum"), (6, .fieldref 1 36), (0, .nameAndType 37 38), (0, u "label"), (0, u "Ljava/lang/String;"), (54, u "()Ljava/lang/String;"), (0, u "mayStartWord"), (0, u "()Z"), (12, .class_ 109), (0, u "com/example/wrasse/wrasse/model/Edit")] 21

def k6c0 : Code := { maxStack := 1, maxLocals := 1, code := prog_21_method_4_code, exceptionTable := #[], attributes := #[] }
def k6m0 : Method := { name := "label", desc := "()Ljava/lang/String;", sig := { parameters := [], returnType := some (.object "java/lang/String") }, accessFlags := 1, code := some k6c0 }
def k6c1 : Code := { maxStack := 2, maxLocals := 1, code := prog_21_method_5_code, exceptionTable := #[], attributes := #[] }
def k6m1 : Method := { name := "mayStartWord", desc := "()Z", sig := { parameters := [], returnType := some .boolean }, accessFlags := 1, code := some k6c1 }
/-- com/example/wrasse/wrasse/model/Edit$Kind -/
def k6 : Class := { plain "com/example/wrasse/wrasse/model/Edit$Kind" (some 5) with
  accessFlags := 16433
  interfaces := #[]
  cf := some (fileOf pool6 1 #[.nestHost 108] #[{ accessFlags := 1, nameIndex := 37, descriptorIndex := 93, attributes := #[] }, { accessFlags := 1, nameIndex := 94, descriptorIndex := 95, attributes := #[] }] 16433 26 #[] #[{ accessFlags := 16409, nameIndex := 5, descriptorIndex := 6, attributes := #[] }, { accessFlags := 16409, nameIndex := 9, descriptorIndex := 6, attributes := #[] }, { accessFlags := 16409, nameIndex := 12, descriptorIndex := 6, attributes := #[] }, { accessFlags := 16409, nameIndex := 15, descriptorIndex := 6, attributes := #[] }, { accessFlags := 18, nameIndex := 37, descriptorIndex := 38, attributes := #[] }, { accessFlags := 4122, nameIndex := 18, descriptorIndex := 19, attributes := #[] }])
  fields := #[{ name := "DELETION", type := (.object "com/example/wrasse/wrasse/model/Edit$Kind"), accessFlags := 16409, slot := 0, constantValue := 0 }, { name := "INSERTION", type := (.object "com/example/wrasse/wrasse/model/Edit$Kind"), accessFlags := 16409, slot := 1, constantValue := 0 }, { name := "SUBSTITUTION", type := (.object "com/example/wrasse/wrasse/model/Edit$Kind"), accessFlags := 16409, slot := 2, constantValue := 0 }, { name := "REVERSAL", type := (.object "com/example/wrasse/wrasse/model/Edit$Kind"), accessFlags := 16409, slot := 3, constantValue := 0 }, { name := "label", type := (.object "java/lang/String"), accessFlags := 18, slot := 3, constantValue := 0 }, { name := "$VALUES", type := (.array (.object "com/example/wrasse/wrasse/model/Edit$Kind")), accessFlags := 4122, slot := 4, constantValue := 0 }]
  methods := #[k6m0, k6m1]
  instanceTypes := #[(.object "java/lang/String"), .int, .int, (.object "java/lang/String")]
  staticTypes := #[(.object "com/example/wrasse/wrasse/model/Edit$Kind"), (.object "com/example/wrasse/wrasse/model/Edit$Kind"), (.object "com/example/wrasse/wrasse/model/Edit$Kind"), (.object "com/example/wrasse/wrasse/model/Edit$Kind"), (.array (.object "com/example/wrasse/wrasse/model/Edit$Kind"))]
  resolved := Array.replicate 131 none
  statics := some 0 }

def pool7 : Array CpInfo := pool [(2, .class_ 4), (1, u "java/lang/CharSequence"), (42, .class_ 48), (0, u "java/lang/CharSequence$1CodePointIterator"), (10, .class_ 60), (0, u "java/lang/CharSequence$1CharIterator"), (5, .class_ 67), (0, u "java/lang/Object")] 63

/-- java/lang/CharSequence -/
def k7 : Class := { plain "java/lang/CharSequence" (some 0) with
  accessFlags := 1537
  interfaces := #[]
  cf := some (fileOf pool7 2 #[.nestMembers #[47, 59]] #[] 1537 66 #[] #[])
  fields := #[]
  methods := #[]
  instanceTypes := #[]
  staticTypes := #[]
  resolved := Array.replicate 131 none
  statics := none }

def pool8 : Array CpInfo := pool [(1, .class_ 2), (0, u "java/lang/constant/ConstantDesc"), (0, .class_ 4), (0, u "java/lang/Object")] 32

/-- java/lang/constant/ConstantDesc -/
def k8 : Class := { plain "java/lang/constant/ConstantDesc" (some 0) with
  accessFlags := 1537
  interfaces := #[]
  cf := some (fileOf pool8 1 #[] #[] 1537 3 #[] #[])
  fields := #[]
  methods := #[]
  instanceTypes := #[]
  staticTypes := #[]
  resolved := Array.replicate 37 none
  statics := none }

def pool9 : Array CpInfo := pool [(2, .class_ 4), (1, u "java/lang/Object"), (0, u "<init>"), (0, u "()V"), (2, .fieldref 10 11), (0, .class_ 12), (0, .nameAndType 13 14), (0, u "java/lang/String"), (0, u "value"), (0, u "[B"), (0, .fieldref 10 16), (0, .nameAndType 17 18), (0, u "coder"), (0, u "B"), (2, u "hash"), (0, u "I"), (2, u "hashIsZero"), (0, u "Z"), (11, .fieldref 10 39), (0, .nameAndType 40 26), (0, u "COMPACT_STRINGS"), (66, .class_ 109), (1, u "java/lang/StringLatin1"), (431, .methodref 107 542), (0, .nameAndType 543 544), (0, u "equals"), (0, u "([B[B)Z"), (28, u "(Ljava/lang/Object;)Z"), (1, .class_ 576), (0, u "java/lang/CharSequence"), (22, u "CASE_INSENSITIVE_ORDER"), (0, u "Ljava/util/Comparator;"), (500, u "serialPersistentFields"), (0, u "[Ljava/io/ObjectStreamField;"), (0, .class_ 1104), (0, u "java/lang/String$CaseInsensitiveComparator"), (1, .class_ 1107), (0, u "java/io/Serializable"), (0, .class_ 1109), (0, u "java/lang/Comparable"), (0, .class_ 1111), (0, u "java/lang/constant/Constable"), (0, .class_ 1113), (0, u "java/lang/constant/ConstantDesc"), (2, u "serialVersionUID"), (0, u "J"), (3, u "REPL"), (0, u "C"), (2, u "LATIN1"), (1, u "UTF16")] 323

def k9m0 : Method := { name := "<init>", desc := "()V", sig := { parameters := [], returnType := none }, accessFlags := 1, code := none }
def k9c1 : Code := { maxStack := 2, maxLocals := 3, code := jdk_42_method_66_code, exceptionTable := #[], attributes := #[] }
def k9m1 : Method := { name := "equals", desc := "(Ljava/lang/Object;)Z", sig := { parameters := [(.object "java/lang/Object")], returnType := some .boolean }, accessFlags := 1, code := some k9c1 }
/-- java/lang/String -/
def k9 : Class := { plain "java/lang/String" (some 0) with
  accessFlags := 49
  interfaces := #[4, 3, 7, 2, 8]
  cf := some (fileOf pool9 10 #[.nestMembers #[1103]] #[{ accessFlags := 1, nameIndex := 5, descriptorIndex := 6, attributes := #[] }, { accessFlags := 1, nameIndex := 543, descriptorIndex := 573, attributes := #[] }] 49 2 #[1106, 1108, 575, 1110, 1112] #[{ accessFlags := 18, nameIndex := 13, descriptorIndex := 14, attributes := #[] }, { accessFlags := 18, nameIndex := 17, descriptorIndex := 18, attributes := #[] }, { accessFlags := 2, nameIndex := 21, descriptorIndex := 22, attributes := #[] }, { accessFlags := 2, nameIndex := 25, descriptorIndex := 26, attributes := #[] }, { accessFlags := 26, nameIndex := 1116, descriptorIndex := 1117, attributes := #[] }, { accessFlags := 24, nameIndex := 40, descriptorIndex := 26, attributes := #[] }, { accessFlags := 26, nameIndex := 1101, descriptorIndex := 1102, attributes := #[] }, { accessFlags := 26, nameIndex := 1121, descriptorIndex := 1122, attributes := #[] }, { accessFlags := 25, nameIndex := 599, descriptorIndex := 600, attributes := #[] }, { accessFlags := 24, nameIndex := 1125, descriptorIndex := 18, attributes := #[] }, { accessFlags := 24, nameIndex := 1127, descriptorIndex := 18, attributes := #[] }])
  fields := #[{ name := "value", type := (.array .byte), accessFlags := 18, slot := 0, constantValue := 0 }, { name := "coder", type := .byte, accessFlags := 18, slot := 1, constantValue := 0 }, { name := "hash", type := .int, accessFlags := 2, slot := 2, constantValue := 0 }, { name := "hashIsZero", type := .boolean, accessFlags := 2, slot := 3, constantValue := 0 }, { name := "serialVersionUID", type := .long, accessFlags := 26, slot := 0, constantValue := 0 }, { name := "COMPACT_STRINGS", type := .boolean, accessFlags := 24, slot := 1, constantValue := 0 }, { name := "serialPersistentFields", type := (.array (.object "java/io/ObjectStreamField")), accessFlags := 26, slot := 2, constantValue := 0 }, { name := "REPL", type := .char, accessFlags := 26, slot := 3, constantValue := 0 }, { name := "CASE_INSENSITIVE_ORDER", type := (.object "java/util/Comparator"), accessFlags := 25, slot := 4, constantValue := 0 }, { name := "LATIN1", type := .byte, accessFlags := 24, slot := 5, constantValue := 0 }, { name := "UTF16", type := .byte, accessFlags := 24, slot := 6, constantValue := 0 }]
  methods := #[k9m0, k9m1]
  instanceTypes := #[(.array .byte), .byte, .int, .boolean]
  staticTypes := #[.long, .boolean, (.array (.object "java/io/ObjectStreamField")), .char, (.object "java/util/Comparator"), .byte, .byte]
  resolved := Array.replicate 1451 none
  statics := some 1 }

def pool10 : Array CpInfo := pool [(4, .class_ 6), (1, u "java/lang/Object"), (0, u "<init>"), (0, u "()V"), (5, .class_ 16), (1, u "java/lang/StringLatin1"), (104, u "$assertionsDisabled"), (0, u "Z"), (98, .class_ 223), (1, u "java/lang/StringLatin1$LinesSpliterator"), (57, u "equals"), (0, u "([B[B)Z"), (107, .class_ 391), (0, u "java/lang/StringLatin1$CharsSpliterator")] 3

def k10m0 : Method := { name := "<init>", desc := "()V", sig := { parameters := [], returnType := none }, accessFlags := 0, code := none }
def k10c1 : Code := { maxStack := 3, maxLocals := 3, code := jdk_43_method_13_code, exceptionTable := #[], attributes := #[] }
def k10m1 : Method := { name := "equals", desc := "([B[B)Z", sig := { parameters := [(.array .byte), (.array .byte)], returnType := some .boolean }, accessFlags := 9, code := some k10c1 }
/-- java/lang/StringLatin1 -/
def k10 : Class := { plain "java/lang/StringLatin1" (some 0) with
  accessFlags := 48
  interfaces := #[]
  cf := some (fileOf pool10 14 #[.nestMembers #[390, 221]] #[{ accessFlags := 0, nameIndex := 7, descriptorIndex := 8, attributes := #[] }, { accessFlags := 9, nameIndex := 281, descriptorIndex := 282, attributes := #[] }] 48 4 #[] #[{ accessFlags := 4120, nameIndex := 121, descriptorIndex := 122, attributes := #[] }])
  fields := #[{ name := "$assertionsDisabled", type := .boolean, accessFlags := 4120, slot := 0, constantValue := 0 }]
  methods := #[k10m0, k10m1]
  instanceTypes := #[]
  staticTypes := #[.boolean]
  resolved := Array.replicate 395 none
  statics := none }

def pool11 : Array CpInfo := pool [(2, .class_ 4), (1, u "java/lang/Object"), (0, u "<init>"), (0, u "()V"), (17, .class_ 26), (1, u "jdk/internal/util/Preconditions"), (28, .class_ 56), (0, u "jdk/internal/util/Preconditions$4"), (57, .class_ 115), (0, u "jdk/internal/util/Preconditions$1"), (7, u "SIOOBE_FORMATTER"), (0, u "Ljava/util/function/BiFunction;"), (0, .class_ 126), (0, u "jdk/internal/util/Preconditions$2"), (3, u "AIOOBE_FORMATTER"), (0, .class_ 132), (0, u "jdk/internal/util/Preconditions$3"), (3, u "IOOBE_FORMATTER")] 57

def k11m0 : Method := { name := "<init>", desc := "()V", sig := { parameters := [], returnType := none }, accessFlags := 1, code := none }
/-- jdk/internal/util/Preconditions -/
def k11 : Class := { plain "jdk/internal/util/Preconditions" (some 0) with
  accessFlags := 33
  interfaces := #[]
  cf := some (fileOf pool11 24 #[.nestMembers #[55, 131, 125, 114]] #[{ accessFlags := 1, nameIndex := 5, descriptorIndex := 6, attributes := #[] }] 33 2 #[] #[{ accessFlags := 25, nameIndex := 123, descriptorIndex := 124, attributes := #[] }, { accessFlags := 25, nameIndex := 130, descriptorIndex := 124, attributes := #[] }, { accessFlags := 25, nameIndex := 136, descriptorIndex := 124, attributes := #[] }])
  fields := #[{ name := "SIOOBE_FORMATTER", type := (.object "java/util/function/BiFunction"), accessFlags := 25, slot := 0, constantValue := 0 }, { name := "AIOOBE_FORMATTER", type := (.object "java/util/function/BiFunction"), accessFlags := 25, slot := 1, constantValue := 0 }, { name := "IOOBE_FORMATTER", type := (.object "java/util/function/BiFunction"), accessFlags := 25, slot := 2, constantValue := 0 }]
  methods := #[k11m0]
  instanceTypes := #[]
  staticTypes := #[(.object "java/util/function/BiFunction"), (.object "java/util/function/BiFunction"), (.object "java/util/function/BiFunction")]
  resolved := Array.replicate 194 none
  statics := some 2 }

def pool12 : Array CpInfo := pool [(9, u "<init>"), (6, .class_ 18), (1, u "java/lang/Object"), (0, u "()V"), (1, .class_ 23), (1, u "jdk/internal/util/ArraysSupport"), (0, u "LOG2_ARRAY_LONG_INDEX_SCALE"), (0, u "I"), (2, u "U"), (0, u "Ljdk/internal/misc/Unsafe;"), (8, u "BIG_ENDIAN"), (0, u "Z"), (8, u "LOG2_BYTE_BIT_SIZE"), (4, u "LOG2_ARRAY_INT_INDEX_SCALE"), (54, u "JLA"), (0, u "Ljdk/internal/access/JavaLangAccess;"), (11, u "LOG2_ARRAY_BOOLEAN_INDEX_SCALE"), (9, u "LOG2_ARRAY_BYTE_INDEX_SCALE"), (5, u "LOG2_ARRAY_CHAR_INDEX_SCALE"), (5, u "LOG2_ARRAY_SHORT_INDEX_SCALE"), (18, u "LOG2_ARRAY_FLOAT_INDEX_SCALE"), (24, u "LOG2_ARRAY_DOUBLE_INDEX_SCALE"), (89, u "T_BOOLEAN"), (2, u "T_CHAR"), (1, u "T_FLOAT"), (1, u "T_DOUBLE"), (1, u "T_BYTE"), (1, u "T_SHORT"), (1, u "T_INT"), (1, u "T_LONG"), (1, u "SOFT_MAX_ARRAY_LENGTH")] 83

def k12m0 : Method := { name := "<init>", desc := "()V", sig := { parameters := [], returnType := none }, accessFlags := 2, code := none }
/-- jdk/internal/util/ArraysSupport -/
def k12 : Class := { plain "jdk/internal/util/ArraysSupport" (some 0) with
  accessFlags := 33
  interfaces := #[]
  cf := some (fileOf pool12 21 #[] #[{ accessFlags := 2, nameIndex := 9, descriptorIndex := 19, attributes := #[] }] 33 16 #[] #[{ accessFlags := 24, nameIndex := 28, descriptorIndex := 29, attributes := #[] }, { accessFlags := 26, nameIndex := 38, descriptorIndex := 39, attributes := #[] }, { accessFlags := 25, nameIndex := 121, descriptorIndex := 25, attributes := #[] }, { accessFlags := 25, nameIndex := 131, descriptorIndex := 25, attributes := #[] }, { accessFlags := 25, nameIndex := 137, descriptorIndex := 25, attributes := #[] }, { accessFlags := 25, nameIndex := 143, descriptorIndex := 25, attributes := #[] }, { accessFlags := 25, nameIndex := 53, descriptorIndex := 25, attributes := #[] }, { accessFlags := 25, nameIndex := 24, descriptorIndex := 25, attributes := #[] }, { accessFlags := 25, nameIndex := 162, descriptorIndex := 25, attributes := #[] }, { accessFlags := 25, nameIndex := 187, descriptorIndex := 25, attributes := #[] }, { accessFlags := 26, nameIndex := 48, descriptorIndex := 25, attributes := #[] }, { accessFlags := 25, nameIndex := 277, descriptorIndex := 25, attributes := #[] }, { accessFlags := 25, nameIndex := 280, descriptorIndex := 25, attributes := #[] }, { accessFlags := 25, nameIndex := 282, descriptorIndex := 25, attributes := #[] }, { accessFlags := 25, nameIndex := 284, descriptorIndex := 25, attributes := #[] }, { accessFlags := 25, nameIndex := 286, descriptorIndex := 25, attributes := #[] }, { accessFlags := 25, nameIndex := 288, descriptorIndex := 25, attributes := #[] }, { accessFlags := 25, nameIndex := 290, descriptorIndex := 25, attributes := #[] }, { accessFlags := 25, nameIndex := 292, descriptorIndex := 25, attributes := #[] }, { accessFlags := 26, nameIndex := 108, descriptorIndex := 109, attributes := #[] }, { accessFlags := 25, nameIndex := 294, descriptorIndex := 25, attributes := #[] }])
  fields := #[{ name := "U", type := (.object "jdk/internal/misc/Unsafe"), accessFlags := 24, slot := 0, constantValue := 0 }, { name := "BIG_ENDIAN", type := .boolean, accessFlags := 26, slot := 1, constantValue := 0 }, { name := "LOG2_ARRAY_BOOLEAN_INDEX_SCALE", type := .int, accessFlags := 25, slot := 2, constantValue := 0 }, { name := "LOG2_ARRAY_BYTE_INDEX_SCALE", type := .int, accessFlags := 25, slot := 3, constantValue := 0 }, { name := "LOG2_ARRAY_CHAR_INDEX_SCALE", type := .int, accessFlags := 25, slot := 4, constantValue := 0 }, { name := "LOG2_ARRAY_SHORT_INDEX_SCALE", type := .int, accessFlags := 25, slot := 5, constantValue := 0 }, { name := "LOG2_ARRAY_INT_INDEX_SCALE", type := .int, accessFlags := 25, slot := 6, constantValue := 0 }, { name := "LOG2_ARRAY_LONG_INDEX_SCALE", type := .int, accessFlags := 25, slot := 7, constantValue := 0 }, { name := "LOG2_ARRAY_FLOAT_INDEX_SCALE", type := .int, accessFlags := 25, slot := 8, constantValue := 0 }, { name := "LOG2_ARRAY_DOUBLE_INDEX_SCALE", type := .int, accessFlags := 25, slot := 9, constantValue := 0 }, { name := "LOG2_BYTE_BIT_SIZE", type := .int, accessFlags := 26, slot := 10, constantValue := 0 }, { name := "T_BOOLEAN", type := .int, accessFlags := 25, slot := 11, constantValue := 0 }, { name := "T_CHAR", type := .int, accessFlags := 25, slot := 12, constantValue := 0 }, { name := "T_FLOAT", type := .int, accessFlags := 25, slot := 13, constantValue := 0 }, { name := "T_DOUBLE", type := .int, accessFlags := 25, slot := 14, constantValue := 0 }, { name := "T_BYTE", type := .int, accessFlags := 25, slot := 15, constantValue := 0 }, { name := "T_SHORT", type := .int, accessFlags := 25, slot := 16, constantValue := 0 }, { name := "T_INT", type := .int, accessFlags := 25, slot := 17, constantValue := 0 }, { name := "T_LONG", type := .int, accessFlags := 25, slot := 18, constantValue := 0 }, { name := "JLA", type := (.object "jdk/internal/access/JavaLangAccess"), accessFlags := 26, slot := 19, constantValue := 0 }, { name := "SOFT_MAX_ARRAY_LENGTH", type := .int, accessFlags := 25, slot := 20, constantValue := 0 }]
  methods := #[k12m0]
  instanceTypes := #[]
  staticTypes := #[(.object "jdk/internal/misc/Unsafe"), .boolean, .int, .int, .int, .int, .int, .int, .int, .int, .int, .int, .int, .int, .int, .int, .int, .int, .int, (.object "jdk/internal/access/JavaLangAccess"), .int]
  resolved := Array.replicate 378 none
  statics := none }

def pool13 : Array CpInfo := pool [(1, u "java/lang/Cloneable"), (0, .class_ 1), (0, u "java/lang/Object"), (0, .class_ 3)] 3

/-- java/lang/Cloneable -/
def k13 : Class := { plain "java/lang/Cloneable" (some 0) with
  accessFlags := 1537
  interfaces := #[]
  cf := some (fileOf pool13 2 #[] #[] 1537 4 #[] #[])
  fields := #[]
  methods := #[]
  instanceTypes := #[]
  staticTypes := #[]
  resolved := Array.replicate 8 none
  statics := none }

/-- the primitive byte -/
def k14 : Class := { plain "byte" none with kind := .primitive 'B', accessFlags := 0x411 }
/-- [B -/
def k15 : Class := { plain "[B" (some 0) with kind := .array 14 .byte, interfaces := #[13, 4], accessFlags := 1041 }

/-- the primitive int -/
def k16 : Class := { plain "int" none with kind := .primitive 'I', accessFlags := 0x411 }
/-- [I -/
def k17 : Class := { plain "[I" (some 0) with kind := .array 16 .int, interfaces := #[13, 4], accessFlags := 1041 }

/-- [Lcom/example/wrasse/wrasse/model/Edit$Kind; -/
def k18 : Class := { plain "[Lcom/example/wrasse/wrasse/model/Edit$Kind;" (some 0) with kind := .array 6 (.object "com/example/wrasse/wrasse/model/Edit$Kind"), interfaces := #[13, 4], accessFlags := 1041 }

def heap : Heap := #[{ cls := 6, slots := #[.ref 11, .ref 12, .ref 13, .ref 14, .null], vm := .statics 6 },
  { cls := 9, slots := #[.long 0, .int 1, .null, .int 0, .null, .int 0, .int 0], vm := .statics 9 },
  { cls := 11, slots := #[.null, .null, .null], vm := .statics 11 },
  { cls := 15, slots := #[.int 100, .int 101, .int 108], vm := .none },
  { cls := 15, slots := #[.int 97, .int 100, .int 100], vm := .none },
  { cls := 15, slots := #[.int 115, .int 117, .int 98], vm := .none },
  { cls := 15, slots := #[.int 114, .int 101, .int 118], vm := .none },
  { cls := 9, slots := #[.ref 3, .int 0, .int 0, .int 0], vm := .none },
  { cls := 9, slots := #[.ref 4, .int 0, .int 0, .int 0], vm := .none },
  { cls := 9, slots := #[.ref 5, .int 0, .int 0, .int 0], vm := .none },
  { cls := 9, slots := #[.ref 6, .int 0, .int 0, .int 0], vm := .none },
  { cls := 6, slots := #[.null, .int 0, .int 0, .ref 7], vm := .none },
  { cls := 6, slots := #[.null, .int 1, .int 0, .ref 8], vm := .none },
  { cls := 6, slots := #[.null, .int 2, .int 0, .ref 9], vm := .none },
  { cls := 6, slots := #[.null, .int 3, .int 0, .ref 10], vm := .none }]
def classes : Array Class := #[k0, k1, k2, k3, k4, k5, k6, k7, k8, k9, k10, k11, k12, k13, k14, k15, k16, k17, k18]
def interned : List (Array UInt16 × Addr) := []
def slotsUsed : Nat := 59
def theMethod : MethodId := ⟨1, 1⟩
def args0 : Array Value := #[.int 5]
def aboutOver (below : List Frame) : State where
  vm := { classes := classes, interned := interned.toArray }
  heap := heap
  slotsUsed := slotsUsed
  threads := #[{ frames := .invoking theMethod args0 :: below }]
def below0 : List Frame := [.native { method := ⟨0, 0⟩, args := #[] }]
def about1 : State := aboutOver below0
def p0 : Program := .bare "" "" ""
def e0 : Env := launch0.env 0 0 0
theorem w_frames : about1.frames = Frame.invoking theMethod args0 :: below0 := rfl
set_option maxRecDepth 65536 in
theorem w_args : argsFit about1.vm theMethod args0 = true := by decide +kernel
set_option maxRecDepth 65536 in
theorem w_heap : heapFits about1 = true := by decide +kernel
set_option maxRecDepth 65536 in
theorem w_runnable : about1.curStatus? = some .runnable := by decide +kernel
set_option maxRecDepth 65536 in
theorem w_alone : about1.alone = true := by decide +kernel
set_option maxRecDepth 65536 in
theorem w_named : about1.methodNamed? x = some theMethod := by decide +kernel
set_option maxRecDepth 65536 in
theorem w_hears : about1.hears theMethod below0 = true := by decide +kernel
set_option maxRecDepth 65536 in
theorem w_ripe : about1.ripe theMethod args0 below0 = true := by decide +kernel
theorem w_running : about1.status = .running := rfl
set_option maxRecDepth 65536 in
theorem w_room : about1.hasRoom e0.platform room_1 = true :=
  launch0.hasRoom_least _ room_1 (by decide +kernel) (by decide +kernel) (by decide +kernel) (by decide +kernel) (by decide +kernel) (by decide +kernel)
theorem allAtoms_all (ts : List Jvm.Cond) (a : Array Jvm.Value) (st : Jvm.State) : (allAtoms ts).before a st = ts.all (fun c => c.before a st) := by
  induction ts with
  | nil => rfl
  | cons c t ih =>
    show (Jvm.Cond.and c (allAtoms t)).before a st = _
    rw [Jvm.Cond.before_and, ih, List.all_cons]
def words1 : List Jvm.Cond := Jvm.Cond.code x code maxLocals ret :: tables_1
/-- a 'code' word, met by the world's own term for the bytes: nothing is compared byte by byte -/
theorem code_word {y : MethodName} {bytes : ByteArray} {mx : Nat} {rt : Option FieldType} {a : Array Value} {s : State} {m : MethodId} {meth : Method} {c : Code} (h1 : s.methodNamed? y = some m) (h2 : s.vm.method? m = some meth) (h3 : meth.code = some c) (h4 : c.code = bytes)
    (h5 : (c.maxLocals == mx && c.exceptionTable.isEmpty && decide (c.maxStack ≤ mostOperands) && decide (meth.sig.returnType = rt) && !meth.locks && decide (parseMethodDescriptor y.desc = some meth.sig)) = true) : (Jvm.Cond.code y bytes mx rt).before a s = true := by
  simp only [Bool.and_eq_true, beq_iff_eq, Bool.not_eq_true', decide_eq_true_eq] at h5
  obtain ⟨⟨⟨⟨⟨g1, g2⟩, g3⟩, g4⟩, g5⟩, g6⟩ := h5
  simp [Cond.before, Cond.holds, Cond.value, h1, h2, h3, h4, g1, g2, g3, g4, g5, g6]
def isCode : Jvm.Cond → Bool
  | .code _ _ _ _ => true
  | _ => false
theorem all_split {L : List Jvm.Cond} {P : Jvm.Cond → Bool} (h1 : L.all (fun c => isCode c || P c) = true) (h2 : ∀ c ∈ L.filter isCode, P c = true) : L.all P = true := by
  refine List.all_eq_true.mpr fun c hc => ?_
  have h := List.all_eq_true.mp h1 c hc
  rcases Bool.eq_false_or_eq_true (isCode c) with hi | hi
  · exact h2 c (List.mem_filter.mpr ⟨hc, hi⟩)
  · simpa [hi] using h
set_option maxRecDepth 65536 in
theorem w_c0 : (Jvm.Cond.code x code maxLocals ret).before args0 about1 = true := code_word (m := ⟨1, 1⟩) (meth := k1m1) (c := k1c1) (by decide +kernel) rfl rfl rfl (by decide +kernel)
set_option maxRecDepth 65536 in
theorem w_c1 : (Jvm.Cond.code ({ cls := "com/example/wrasse/wrasse/model/Edit$Kind", name := "mayStartWord", desc := "()Z" } : Jvm.MethodName) prog_21_method_5_code (1 : Nat) (Option.some Jvm.ClassFile.FieldType.boolean)).before args0 about1 = true := code_word (m := ⟨6, 1⟩) (meth := k6m1) (c := k6c1) (by decide +kernel) rfl rfl rfl (by decide +kernel)
set_option maxRecDepth 65536 in
theorem w_c2 : (Jvm.Cond.code ({ cls := "com/example/wrasse/wrasse/model/Edit$Kind", name := "label", desc := "()Ljava/lang/String;" } : Jvm.MethodName) prog_21_method_4_code (1 : Nat) (Option.some (Jvm.ClassFile.FieldType.object "java/lang/String"))).before args0 about1 = true := code_word (m := ⟨6, 0⟩) (meth := k6m0) (c := k6c0) (by decide +kernel) rfl rfl rfl (by decide +kernel)
set_option maxRecDepth 65536 in
theorem w_c3 : (Jvm.Cond.code ({ cls := "java/lang/String", name := "equals", desc := "(Ljava/lang/Object;)Z" } : Jvm.MethodName) jdk_42_method_66_code (3 : Nat) (Option.some Jvm.ClassFile.FieldType.boolean)).before args0 about1 = true := code_word (m := ⟨9, 1⟩) (meth := k9m1) (c := k9c1) (by decide +kernel) rfl rfl rfl (by decide +kernel)
set_option maxRecDepth 65536 in
theorem w_c4 : (Jvm.Cond.code ({ cls := "java/lang/StringLatin1", name := "equals", desc := "([B[B)Z" } : Jvm.MethodName) jdk_43_method_13_code (3 : Nat) (Option.some Jvm.ClassFile.FieldType.boolean)).before args0 about1 = true := code_word (m := ⟨10, 1⟩) (meth := k10m1) (c := k10c1) (by decide +kernel) rfl rfl rfl (by decide +kernel)
def codes1 : List Jvm.Cond := [Jvm.Cond.code x code maxLocals ret, Jvm.Cond.code ({ cls := "com/example/wrasse/wrasse/model/Edit$Kind", name := "mayStartWord", desc := "()Z" } : Jvm.MethodName) prog_21_method_5_code (1 : Nat) (Option.some Jvm.ClassFile.FieldType.boolean), Jvm.Cond.code ({ cls := "com/example/wrasse/wrasse/model/Edit$Kind", name := "label", desc := "()Ljava/lang/String;" } : Jvm.MethodName) prog_21_method_4_code (1 : Nat) (Option.some (Jvm.ClassFile.FieldType.object "java/lang/String")), Jvm.Cond.code ({ cls := "java/lang/String", name := "equals", desc := "(Ljava/lang/Object;)Z" } : Jvm.MethodName) jdk_42_method_66_code (3 : Nat) (Option.some Jvm.ClassFile.FieldType.boolean), Jvm.Cond.code ({ cls := "java/lang/StringLatin1", name := "equals", desc := "([B[B)Z" } : Jvm.MethodName) jdk_43_method_13_code (3 : Nat) (Option.some Jvm.ClassFile.FieldType.boolean)]
set_option maxRecDepth 65536 in
theorem codes_eq : words1.filter isCode = codes1 := rfl
theorem w_codes : ∀ c ∈ words1.filter isCode, c.before args0 about1 = true := by
  rw [codes_eq]
  intro c hc
  simp only [codes1, List.mem_cons, List.not_mem_nil, or_false] at hc
  rcases hc with rfl | rfl | rfl | rfl | rfl
  · exact w_c0
  · exact w_c1
  · exact w_c2
  · exact w_c3
  · exact w_c4
set_option maxRecDepth 65536 in
theorem w_t1 : (words1.take 24).all (fun c => isCode c || c.before args0 about1) = true := by decide +kernel
set_option maxRecDepth 65536 in
theorem w_t2 : ((words1.drop 24).take 24).all (fun c => isCode c || c.before args0 about1) = true := by decide +kernel
set_option maxRecDepth 65536 in
theorem w_t3 : ((words1.drop 24).drop 24).all (fun c => isCode c || c.before args0 about1) = true := by decide +kernel
theorem w_tables : (allAtoms (Jvm.Cond.code x code maxLocals ret :: tables_1)).before args0 about1 = true := by
  rw [allAtoms_all]
  show words1.all (fun c => c.before args0 about1) = true
  refine all_split ?_ w_codes
  rw [← List.take_append_drop 24 words1, List.all_append, w_t1, ← List.take_append_drop 24 (words1.drop 24), List.all_append, w_t2, w_t3]
  rfl
set_option maxRecDepth 65536 in
theorem w_rest : rest_1_c.before args0 about1 = true := by decide +kernel
set_option maxRecDepth 65536 in
theorem w_case : (Jvm.Cond.and given_1 narrow_1).before args0 about1 = true := by decide +kernel
set_option maxRecDepth 65536 in
theorem w_consts : constsHeld consts_1 about1 := Jvm.Lit.constsHeldB_iff.mp (by decide +kernel)
theorem w_applies : (headSpec (Jvm.Cond.code x code maxLocals ret :: tables_1) room_1).applies x e0.platform about1 = true :=
  (Spec.applies_iff w_frames).mpr ⟨w_running, w_runnable, w_alone, w_named, w_hears, w_ripe, w_room, w_tables⟩
theorem atStart : AtStart classFile x code maxLocals ret World_1 tables_1 room_1 Calls_1 rest_1 Pre_1 launch0 p0 e0 about1 theMethod args0 below0 :=
  ⟨lists_1, trivial, launch0.admits_env _ _ _, launch0.least_env, fairChoices_fair.cas, fairChoices_fair.clock, w_frames, w_args, w_heap, w_applies, ⟨w_consts, trivial⟩, w_rest, w_case⟩
end start1
theorem witness_1 : WitnessClaimed_1 := ⟨start1.p0, start1.e0, start1.about1, start1.theMethod, start1.args0, start1.below0, start1.atStart⟩
end Jvm.Pilot.@@N@@

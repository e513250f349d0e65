import JvmDerived
import JvmDerived.Pilot.@@N@@Statement
import JvmDerived.Pilot.@@N@@Code
set_option linter.unusedVariables false
set_option linter.unusedSimpArgs false
namespace Jvm.RoadKit
open Sem ClassFile Op Lib Jvm.Stand Jvm.Free Jvm.LawKit
section New
variable {p : Program} {l : Launch} {e : Env} {R : Room} {s : State} {m : MethodId} {args : Array Value} {below : List Frame} {meth : Method} {c : Code} {T : State} {locs : List Loc} {cells slots : Nat}
theorem retI (X : Stand p l e R s m args below meth c T locs cells slots) (hx : p.tables.exec = Jvm.exec) {pc : Nat} {Ls : Array Slot} {z : Int32} {rest : List Value} (hret : meth.sig.returnType = some .int) (hd : decode c.code pc = .ok (.ireturn, 1)) {fs : List Frame}
    (hl : ∀ (f : JFrame) (acts : List Action), f.method = m → f.locked = none → f.entered = [] → (doReturn e (T.setTop f) acts (some (.int z))).1 = T.setFrames fs) : Steps p.tables e below (T.setTop (mkF m pc Ls (.int z :: rest))) (T.setFrames fs) := by
  have hm' : T.vm.method? m = some meth := X.method'
  have hn : narrow .int (.int z) = .int z := rfl
  show Steps p.tables e below (T.setTop { method := m, pc := pc, locals := Ls, stack := _ :: rest, locked := none }) _
  jvm_step X.here [X.here.top, hx, hd, hm', hret, hn]
  first | (intro acts; rw [hl _ acts rfl rfl rfl]) | rw [hl _ _ rfl rfl rfl]
  exact Steps.refl _
end New
end Jvm.RoadKit
namespace Jvm.Pilot.@@N@@
open Jvm Jvm.ClassFile Sem Op Lib Jvm.Free Jvm.Stand Jvm.LawKit Jvm.RoadKit Bundle Jvm.Pilot.@@N@@.Jvm.D
theorem d1_0 : decode prog_45_method_2_code 0 = .ok (.iload_n 0, 1) := by decide +kernel
theorem d1_1 : decode prog_45_method_2_code 1 = .ok (.bipush 97, 2) := by decide +kernel
theorem d1_3 : decode prog_45_method_2_code 3 = .ok (.if_icmp .lt 9, 3) := by decide +kernel
theorem d1_6 : decode prog_45_method_2_code 6 = .ok (.iload_n 0, 1) := by decide +kernel
theorem d1_7 : decode prog_45_method_2_code 7 = .ok (.bipush 122, 2) := by decide +kernel
theorem d1_9 : decode prog_45_method_2_code 9 = .ok (.if_icmp .le 27, 3) := by decide +kernel
theorem d1_12 : decode prog_45_method_2_code 12 = .ok (.iload_n 0, 1) := by decide +kernel
theorem d1_13 : decode prog_45_method_2_code 13 = .ok (.bipush 65, 2) := by decide +kernel
theorem d1_15 : decode prog_45_method_2_code 15 = .ok (.if_icmp .lt 9, 3) := by decide +kernel
theorem d1_18 : decode prog_45_method_2_code 18 = .ok (.iload_n 0, 1) := by decide +kernel
theorem d1_19 : decode prog_45_method_2_code 19 = .ok (.bipush 90, 2) := by decide +kernel
theorem d1_21 : decode prog_45_method_2_code 21 = .ok (.if_icmp .le 15, 3) := by decide +kernel
theorem d1_24 : decode prog_45_method_2_code 24 = .ok (.iload_n 0, 1) := by decide +kernel
theorem d1_25 : decode prog_45_method_2_code 25 = .ok (.bipush 48, 2) := by decide +kernel
theorem d1_27 : decode prog_45_method_2_code 27 = .ok (.if_icmp .lt 13, 3) := by decide +kernel
theorem d1_30 : decode prog_45_method_2_code 30 = .ok (.iload_n 0, 1) := by decide +kernel
theorem d1_31 : decode prog_45_method_2_code 31 = .ok (.bipush 57, 2) := by decide +kernel
theorem d1_33 : decode prog_45_method_2_code 33 = .ok (.if_icmp .gt 7, 3) := by decide +kernel
theorem d1_36 : decode prog_45_method_2_code 36 = .ok (.iconst 1, 1) := by decide +kernel
theorem d1_37 : decode prog_45_method_2_code 37 = .ok (.goto 4, 3) := by decide +kernel
theorem d1_40 : decode prog_45_method_2_code 40 = .ok (.iconst 0, 1) := by decide +kernel
theorem d1_41 : decode prog_45_method_2_code 41 = .ok (.ireturn, 1) := by decide +kernel
theorem d2_0 : decode method_2_code 0 = .ok (.iload_n 0, 1) := by decide +kernel
theorem d2_1 : decode method_2_code 1 = .ok (.iconst 5, 1) := by decide +kernel
theorem d2_2 : decode method_2_code 2 = .ok (.iushr, 1) := by decide +kernel
theorem d2_3 : decode method_2_code 3 = .ok (.istore_n 1, 1) := by decide +kernel
theorem d2_4 : decode method_2_code 4 = .ok (.iload_n 0, 1) := by decide +kernel
theorem d2_5 : decode method_2_code 5 = .ok (.bipush 31, 2) := by decide +kernel
theorem d2_7 : decode method_2_code 7 = .ok (.iand, 1) := by decide +kernel
theorem d2_8 : decode method_2_code 8 = .ok (.istore_n 2, 1) := by decide +kernel
theorem d2_9 : decode method_2_code 9 = .ok (.iload_n 1, 1) := by decide +kernel
theorem d2_10 : decode method_2_code 10 = .ok (.iconst 2, 1) := by decide +kernel
theorem d2_11 : decode method_2_code 11 = .ok (.if_icmp .eq 8, 3) := by decide +kernel
theorem d2_14 : decode method_2_code 14 = .ok (.iload_n 1, 1) := by decide +kernel
theorem d2_15 : decode method_2_code 15 = .ok (.iconst 3, 1) := by decide +kernel
theorem d2_16 : decode method_2_code 16 = .ok (.if_icmp .ne 18, 3) := by decide +kernel
theorem d2_19 : decode method_2_code 19 = .ok (.iload_n 2, 1) := by decide +kernel
theorem d2_20 : decode method_2_code 20 = .ok (.iconst 1, 1) := by decide +kernel
theorem d2_21 : decode method_2_code 21 = .ok (.if_icmp .lt 13, 3) := by decide +kernel
theorem d2_24 : decode method_2_code 24 = .ok (.iload_n 2, 1) := by decide +kernel
theorem d2_25 : decode method_2_code 25 = .ok (.bipush 26, 2) := by decide +kernel
theorem d2_27 : decode method_2_code 27 = .ok (.if_icmp .gt 7, 3) := by decide +kernel
theorem d2_30 : decode method_2_code 30 = .ok (.iconst 1, 1) := by decide +kernel
theorem d2_31 : decode method_2_code 31 = .ok (.goto 4, 3) := by decide +kernel
theorem d2_34 : decode method_2_code 34 = .ok (.iconst 0, 1) := by decide +kernel
theorem d2_35 : decode method_2_code 35 = .ok (.istore_n 3, 1) := by decide +kernel
theorem d2_36 : decode method_2_code 36 = .ok (.iload_n 0, 1) := by decide +kernel
theorem d2_37 : decode method_2_code 37 = .ok (.iconst 4, 1) := by decide +kernel
theorem d2_38 : decode method_2_code 38 = .ok (.iushr, 1) := by decide +kernel
theorem d2_39 : decode method_2_code 39 = .ok (.iconst 3, 1) := by decide +kernel
theorem d2_40 : decode method_2_code 40 = .ok (.if_icmp .ne 16, 3) := by decide +kernel
theorem d2_43 : decode method_2_code 43 = .ok (.iload_n 0, 1) := by decide +kernel
theorem d2_44 : decode method_2_code 44 = .ok (.bipush 15, 2) := by decide +kernel
theorem d2_46 : decode method_2_code 46 = .ok (.iand, 1) := by decide +kernel
theorem d2_47 : decode method_2_code 47 = .ok (.bipush 9, 2) := by decide +kernel
theorem d2_49 : decode method_2_code 49 = .ok (.if_icmp .gt 7, 3) := by decide +kernel
theorem d2_52 : decode method_2_code 52 = .ok (.iconst 1, 1) := by decide +kernel
theorem d2_53 : decode method_2_code 53 = .ok (.goto 4, 3) := by decide +kernel
theorem d2_56 : decode method_2_code 56 = .ok (.iconst 0, 1) := by decide +kernel
theorem d2_57 : decode method_2_code 57 = .ok (.istore 4, 2) := by decide +kernel
theorem d2_59 : decode method_2_code 59 = .ok (.iload_n 3, 1) := by decide +kernel
theorem d2_60 : decode method_2_code 60 = .ok (.ifCond .ne 8, 3) := by decide +kernel
theorem d2_63 : decode method_2_code 63 = .ok (.iload 4, 2) := by decide +kernel
theorem d2_65 : decode method_2_code 65 = .ok (.ifCond .eq 7, 3) := by decide +kernel
theorem d2_68 : decode method_2_code 68 = .ok (.iconst 1, 1) := by decide +kernel
theorem d2_69 : decode method_2_code 69 = .ok (.goto 4, 3) := by decide +kernel
theorem d2_72 : decode method_2_code 72 = .ok (.iconst 0, 1) := by decide +kernel
theorem d2_73 : decode method_2_code 73 = .ok (.ireturn, 1) := by decide +kernel
theorem pn_1 : plainName "com/example/regelwerk/regelwerk/util/UriCharacters" = true := by first | (simp [plainName, overriddenIn]; done) | decide +kernel
theorem pn_0 : plainName "com/example/regelwerk/regelwerk/util/UriCharactersIsAsciiLetterOrDigitPinLaw" = true := by first | (simp [plainName, overriddenIn]; done) | decide +kernel
theorem pd_i : parseMethodDescriptor "(I)Z" = some ⟨[.int], some .boolean⟩ := by decide +kernel
theorem ef_1 (m : MethodId) (x0 : Int32) : entryFrame m #[(.int x0)] 1 = mkF m 0 #[.val (.int x0)] [] := by first | (simp [entryFrame, mkF, argsToLocals, Value.category]; done) | rfl
theorem ef_2 (m : MethodId) (x0 : Int32) : entryFrame m #[(.int x0)] 5 = mkF m 0 #[.val (.int x0), .unset, .unset, .unset, .unset] [] := by first | (simp [entryFrame, mkF, argsToLocals, Value.category]; done) | rfl
theorem ef_0 (m : MethodId) (x0 x1 : Int32) : entryFrame m #[(.int x0), (.int x1)] 3 = mkF m 0 #[.val (.int x0), .val (.int x1), .unset] [] := by first | (simp [entryFrame, mkF, argsToLocals, Value.category]; done) | rfl
def own_b (b : Bool) : Int32 := if b = true then 1 else 0
theorem own_bn (b : Bool) : nar .boolean (own_b b) = own_b b := by cases b <;> rfl
def own_i (q : Int32) : Bool := (!decide (q < 97) && !decide (122 < q)) || ((!decide (q < 65) && !decide (90 < q)) || (!decide (q < 48) && !decide (57 < q)))
def own_l (hi lo : Int32) : Bool := (decide (hi = 2) || decide (hi = 3)) && (!decide (lo < 1) && !decide (26 < lo))
def own_d (hi lo : Int32) : Bool := decide (hi = 3) && !decide (9 < lo)
def own_f (q : Int32) : Bool := own_l ((q.toUInt32 >>> ((5 : Int32) &&& 31).toUInt32).toInt32) (q &&& (31 : Int32)) || own_d ((q.toUInt32 >>> ((4 : Int32) &&& 31).toUInt32).toInt32) (q &&& (15 : Int32))
theorem own_sh (q : Int32) (n : UInt32) (k : Nat) (hn : n.toNat = k) (h1 : 0 < k) (hk : k < 32) : ((q.toUInt32 >>> n).toInt32).toInt = ((q.toBitVec.toNat / 2 ^ k : Nat) : Int) := by
  have hlt := q.toBitVec.isLt
  have e : ((q.toUInt32 >>> n).toInt32).toBitVec.toNat = q.toBitVec.toNat / 2 ^ k := by
    show (q.toUInt32 >>> n).toNat = _
    rw [UInt32.toNat_shiftRight, hn, Nat.mod_eq_of_lt hk, Nat.shiftRight_eq_div_pow]; rfl
  have h2 : q.toBitVec.toNat / 2 ^ k < 2 ^ 31 := by
    have : q.toBitVec.toNat / 2 ^ k ≤ q.toBitVec.toNat / 2 ^ 1 := Nat.div_le_div_left (Nat.pow_le_pow_right (by decide) h1) (by decide)
    omega
  show ((q.toUInt32 >>> n).toInt32).toBitVec.toInt = _
  rw [BitVec.toInt_eq_toNat_cond, e, if_pos (by omega)]
theorem own_and (q m : Int32) (k : Nat) (hk : k < 32) (hm : m.toBitVec.toNat = 2 ^ k - 1) : (q &&& m).toInt = ((q.toBitVec.toNat % 2 ^ k : Nat) : Int) := by
  have e : (q &&& m).toBitVec.toNat = q.toBitVec.toNat % 2 ^ k := by
    rw [Int32.toBitVec_and, BitVec.toNat_and, hm, Nat.and_two_pow_sub_one_eq_mod]
  have h2 : q.toBitVec.toNat % 2 ^ k < 2 ^ 31 := Nat.lt_of_lt_of_le (Nat.mod_lt _ (Nat.two_pow_pos k)) (Nat.pow_le_pow_right (by decide) (by omega))
  show (q &&& m).toBitVec.toInt = _
  rw [BitVec.toInt_eq_toNat_cond, e, if_pos (by omega)]
theorem own_eq (q : Int32) : own_i q = own_f q := by
  have hlt := q.toBitVec.isLt
  have hq : q.toInt = if 2 * q.toBitVec.toNat < 2 ^ 32 then (q.toBitVec.toNat : Int) else (q.toBitVec.toNat : Int) - 2 ^ 32 := by
    show q.toBitVec.toInt = _
    rw [BitVec.toInt_eq_toNat_cond]; rfl
  have e5 : ((q.toUInt32 >>> ((5 : Int32) &&& 31).toUInt32).toInt32).toInt = ((q.toBitVec.toNat / 2 ^ 5 : Nat) : Int) := own_sh q _ 5 (by decide) (by decide) (by decide)
  have e4 : ((q.toUInt32 >>> ((4 : Int32) &&& 31).toUInt32).toInt32).toInt = ((q.toBitVec.toNat / 2 ^ 4 : Nat) : Int) := own_sh q _ 4 (by decide) (by decide) (by decide)
  have m5 : (q &&& (31 : Int32)).toInt = ((q.toBitVec.toNat % 2 ^ 5 : Nat) : Int) := own_and q 31 5 (by decide) (by decide)
  have m4 : (q &&& (15 : Int32)).toInt = ((q.toBitVec.toNat % 2 ^ 4 : Nat) : Int) := own_and q 15 4 (by decide) (by decide)
  have n97 : (97 : Int32).toInt = 97 := by decide
  have n122 : (122 : Int32).toInt = 122 := by decide
  have n65 : (65 : Int32).toInt = 65 := by decide
  have n90 : (90 : Int32).toInt = 90 := by decide
  have n48 : (48 : Int32).toInt = 48 := by decide
  have n57 : (57 : Int32).toInt = 57 := by decide
  have n2 : (2 : Int32).toInt = 2 := by decide
  have n3 : (3 : Int32).toInt = 3 := by decide
  have n1 : (1 : Int32).toInt = 1 := by decide
  have n26 : (26 : Int32).toInt = 26 := by decide
  have n9 : (9 : Int32).toInt = 9 := by decide
  rw [Bool.eq_iff_iff]
  simp only [own_i, own_f, own_l, own_d, Bool.and_eq_true, Bool.or_eq_true, Bool.not_eq_true', decide_eq_true_eq, decide_eq_false_iff_not, Int32.lt_iff_toInt_lt, ← Int32.toInt_inj, e5, e4, m5, m4, n97, n122, n65, n90, n48, n57, n2, n3, n1, n26, n9]
  generalize q.toBitVec.toNat = u at *
  generalize q.toInt = z at *
  split at hq <;> omega
theorem a1a {p : Program} {l : Launch} {e : Env} {R : Room} {s : State} {m : MethodId} {args : Array Value} {below : List Frame} {meth : Method} {c : Code} {T : State} {locs : List Loc} {cells slots : Nat} (q : Int32) (X : Stand p l e R s m args below meth c T locs cells slots) (hx : p.tables.exec = Jvm.exec) (hby : c.code = prog_45_method_2_code) (h : q < (97 : Int32)) {target : State} (kt : Steps p.tables e below (T.setTop (mkF m 12 #[.val (.int q)] [])) target) : Steps p.tables e below (T.setTop (mkF m 0 #[.val (.int q)] [])) target := by
  show Steps p.tables e below (T.setTop (mkF m 0 #[.val (.int q)] [])) _
  refine XS.iloadN X.here hx rfl (hb hby d1_0) rfl ?_
  show Steps p.tables e below (T.setTop (mkF m 1 #[.val (.int q)] [(.int q)])) _
  refine XS.bipush X.here hx rfl (hb hby d1_1) ?_
  show Steps p.tables e below (T.setTop (mkF m 3 #[.val (.int q)] [(.int (97 : Int32)), (.int q)])) _
  refine XS.icmpYes X.here hx rfl (pc0 := 3) (pc' := 12) rfl (hb hby d1_3) rfl (tlt h).1 (by decide) (by decide) ?_
  exact kt
theorem a1b {p : Program} {l : Launch} {e : Env} {R : Room} {s : State} {m : MethodId} {args : Array Value} {below : List Frame} {meth : Method} {c : Code} {T : State} {locs : List Loc} {cells slots : Nat} (q : Int32) (X : Stand p l e R s m args below meth c T locs cells slots) (hx : p.tables.exec = Jvm.exec) (hby : c.code = prog_45_method_2_code) (h : ¬ q < (97 : Int32)) (h2 : (122 : Int32) < q) {target : State} (kt : Steps p.tables e below (T.setTop (mkF m 12 #[.val (.int q)] [])) target) : Steps p.tables e below (T.setTop (mkF m 0 #[.val (.int q)] [])) target := by
  show Steps p.tables e below (T.setTop (mkF m 0 #[.val (.int q)] [])) _
  refine XS.iloadN X.here hx rfl (hb hby d1_0) rfl ?_
  show Steps p.tables e below (T.setTop (mkF m 1 #[.val (.int q)] [(.int q)])) _
  refine XS.bipush X.here hx rfl (hb hby d1_1) ?_
  show Steps p.tables e below (T.setTop (mkF m 3 #[.val (.int q)] [(.int (97 : Int32)), (.int q)])) _
  refine XS.icmpNo X.here hx rfl (hb hby d1_3) rfl (flt h).1 ?_
  show Steps p.tables e below (T.setTop (mkF m 6 #[.val (.int q)] [])) _
  refine XS.iloadN X.here hx rfl (hb hby d1_6) rfl ?_
  show Steps p.tables e below (T.setTop (mkF m 7 #[.val (.int q)] [(.int q)])) _
  refine XS.bipush X.here hx rfl (hb hby d1_7) ?_
  show Steps p.tables e below (T.setTop (mkF m 9 #[.val (.int q)] [(.int (122 : Int32)), (.int q)])) _
  refine XS.icmpNo X.here hx rfl (hb hby d1_9) rfl (tlt h2).2.2.2 ?_
  exact kt
theorem a1c {p : Program} {l : Launch} {e : Env} {R : Room} {s : State} {m : MethodId} {args : Array Value} {below : List Frame} {meth : Method} {c : Code} {T : State} {locs : List Loc} {cells slots : Nat} (q : Int32) (X : Stand p l e R s m args below meth c T locs cells slots) (hx : p.tables.exec = Jvm.exec) (hby : c.code = prog_45_method_2_code) (h : ¬ q < (97 : Int32)) (h2 : ¬ (122 : Int32) < q) {target : State} (kt : Steps p.tables e below (T.setTop (mkF m 36 #[.val (.int q)] [])) target) : Steps p.tables e below (T.setTop (mkF m 0 #[.val (.int q)] [])) target := by
  show Steps p.tables e below (T.setTop (mkF m 0 #[.val (.int q)] [])) _
  refine XS.iloadN X.here hx rfl (hb hby d1_0) rfl ?_
  show Steps p.tables e below (T.setTop (mkF m 1 #[.val (.int q)] [(.int q)])) _
  refine XS.bipush X.here hx rfl (hb hby d1_1) ?_
  show Steps p.tables e below (T.setTop (mkF m 3 #[.val (.int q)] [(.int (97 : Int32)), (.int q)])) _
  refine XS.icmpNo X.here hx rfl (hb hby d1_3) rfl (flt h).1 ?_
  show Steps p.tables e below (T.setTop (mkF m 6 #[.val (.int q)] [])) _
  refine XS.iloadN X.here hx rfl (hb hby d1_6) rfl ?_
  show Steps p.tables e below (T.setTop (mkF m 7 #[.val (.int q)] [(.int q)])) _
  refine XS.bipush X.here hx rfl (hb hby d1_7) ?_
  show Steps p.tables e below (T.setTop (mkF m 9 #[.val (.int q)] [(.int (122 : Int32)), (.int q)])) _
  refine XS.icmpYes X.here hx rfl (pc0 := 9) (pc' := 36) rfl (hb hby d1_9) rfl (flt h2).2.2.2 (by decide) (by decide) ?_
  exact kt
theorem a2a {p : Program} {l : Launch} {e : Env} {R : Room} {s : State} {m : MethodId} {args : Array Value} {below : List Frame} {meth : Method} {c : Code} {T : State} {locs : List Loc} {cells slots : Nat} (q : Int32) (X : Stand p l e R s m args below meth c T locs cells slots) (hx : p.tables.exec = Jvm.exec) (hby : c.code = prog_45_method_2_code) (h : q < (65 : Int32)) {target : State} (kt : Steps p.tables e below (T.setTop (mkF m 24 #[.val (.int q)] [])) target) : Steps p.tables e below (T.setTop (mkF m 12 #[.val (.int q)] [])) target := by
  show Steps p.tables e below (T.setTop (mkF m 12 #[.val (.int q)] [])) _
  refine XS.iloadN X.here hx rfl (hb hby d1_12) rfl ?_
  show Steps p.tables e below (T.setTop (mkF m 13 #[.val (.int q)] [(.int q)])) _
  refine XS.bipush X.here hx rfl (hb hby d1_13) ?_
  show Steps p.tables e below (T.setTop (mkF m 15 #[.val (.int q)] [(.int (65 : Int32)), (.int q)])) _
  refine XS.icmpYes X.here hx rfl (pc0 := 15) (pc' := 24) rfl (hb hby d1_15) rfl (tlt h).1 (by decide) (by decide) ?_
  exact kt
theorem a2b {p : Program} {l : Launch} {e : Env} {R : Room} {s : State} {m : MethodId} {args : Array Value} {below : List Frame} {meth : Method} {c : Code} {T : State} {locs : List Loc} {cells slots : Nat} (q : Int32) (X : Stand p l e R s m args below meth c T locs cells slots) (hx : p.tables.exec = Jvm.exec) (hby : c.code = prog_45_method_2_code) (h : ¬ q < (65 : Int32)) (h2 : (90 : Int32) < q) {target : State} (kt : Steps p.tables e below (T.setTop (mkF m 24 #[.val (.int q)] [])) target) : Steps p.tables e below (T.setTop (mkF m 12 #[.val (.int q)] [])) target := by
  show Steps p.tables e below (T.setTop (mkF m 12 #[.val (.int q)] [])) _
  refine XS.iloadN X.here hx rfl (hb hby d1_12) rfl ?_
  show Steps p.tables e below (T.setTop (mkF m 13 #[.val (.int q)] [(.int q)])) _
  refine XS.bipush X.here hx rfl (hb hby d1_13) ?_
  show Steps p.tables e below (T.setTop (mkF m 15 #[.val (.int q)] [(.int (65 : Int32)), (.int q)])) _
  refine XS.icmpNo X.here hx rfl (hb hby d1_15) rfl (flt h).1 ?_
  show Steps p.tables e below (T.setTop (mkF m 18 #[.val (.int q)] [])) _
  refine XS.iloadN X.here hx rfl (hb hby d1_18) rfl ?_
  show Steps p.tables e below (T.setTop (mkF m 19 #[.val (.int q)] [(.int q)])) _
  refine XS.bipush X.here hx rfl (hb hby d1_19) ?_
  show Steps p.tables e below (T.setTop (mkF m 21 #[.val (.int q)] [(.int (90 : Int32)), (.int q)])) _
  refine XS.icmpNo X.here hx rfl (hb hby d1_21) rfl (tlt h2).2.2.2 ?_
  exact kt
theorem a2c {p : Program} {l : Launch} {e : Env} {R : Room} {s : State} {m : MethodId} {args : Array Value} {below : List Frame} {meth : Method} {c : Code} {T : State} {locs : List Loc} {cells slots : Nat} (q : Int32) (X : Stand p l e R s m args below meth c T locs cells slots) (hx : p.tables.exec = Jvm.exec) (hby : c.code = prog_45_method_2_code) (h : ¬ q < (65 : Int32)) (h2 : ¬ (90 : Int32) < q) {target : State} (kt : Steps p.tables e below (T.setTop (mkF m 36 #[.val (.int q)] [])) target) : Steps p.tables e below (T.setTop (mkF m 12 #[.val (.int q)] [])) target := by
  show Steps p.tables e below (T.setTop (mkF m 12 #[.val (.int q)] [])) _
  refine XS.iloadN X.here hx rfl (hb hby d1_12) rfl ?_
  show Steps p.tables e below (T.setTop (mkF m 13 #[.val (.int q)] [(.int q)])) _
  refine XS.bipush X.here hx rfl (hb hby d1_13) ?_
  show Steps p.tables e below (T.setTop (mkF m 15 #[.val (.int q)] [(.int (65 : Int32)), (.int q)])) _
  refine XS.icmpNo X.here hx rfl (hb hby d1_15) rfl (flt h).1 ?_
  show Steps p.tables e below (T.setTop (mkF m 18 #[.val (.int q)] [])) _
  refine XS.iloadN X.here hx rfl (hb hby d1_18) rfl ?_
  show Steps p.tables e below (T.setTop (mkF m 19 #[.val (.int q)] [(.int q)])) _
  refine XS.bipush X.here hx rfl (hb hby d1_19) ?_
  show Steps p.tables e below (T.setTop (mkF m 21 #[.val (.int q)] [(.int (90 : Int32)), (.int q)])) _
  refine XS.icmpYes X.here hx rfl (pc0 := 21) (pc' := 36) rfl (hb hby d1_21) rfl (flt h2).2.2.2 (by decide) (by decide) ?_
  exact kt
theorem a3a {p : Program} {l : Launch} {e : Env} {R : Room} {s : State} {m : MethodId} {args : Array Value} {below : List Frame} {meth : Method} {c : Code} {T : State} {locs : List Loc} {cells slots : Nat} (q : Int32) (X : Stand p l e R s m args below meth c T locs cells slots) (hx : p.tables.exec = Jvm.exec) (hby : c.code = prog_45_method_2_code) (h : q < (48 : Int32)) {target : State} (kt : Steps p.tables e below (T.setTop (mkF m 40 #[.val (.int q)] [])) target) : Steps p.tables e below (T.setTop (mkF m 24 #[.val (.int q)] [])) target := by
  show Steps p.tables e below (T.setTop (mkF m 24 #[.val (.int q)] [])) _
  refine XS.iloadN X.here hx rfl (hb hby d1_24) rfl ?_
  show Steps p.tables e below (T.setTop (mkF m 25 #[.val (.int q)] [(.int q)])) _
  refine XS.bipush X.here hx rfl (hb hby d1_25) ?_
  show Steps p.tables e below (T.setTop (mkF m 27 #[.val (.int q)] [(.int (48 : Int32)), (.int q)])) _
  refine XS.icmpYes X.here hx rfl (pc0 := 27) (pc' := 40) rfl (hb hby d1_27) rfl (tlt h).1 (by decide) (by decide) ?_
  exact kt
theorem a3b {p : Program} {l : Launch} {e : Env} {R : Room} {s : State} {m : MethodId} {args : Array Value} {below : List Frame} {meth : Method} {c : Code} {T : State} {locs : List Loc} {cells slots : Nat} (q : Int32) (X : Stand p l e R s m args below meth c T locs cells slots) (hx : p.tables.exec = Jvm.exec) (hby : c.code = prog_45_method_2_code) (h : ¬ q < (48 : Int32)) (h2 : (57 : Int32) < q) {target : State} (kt : Steps p.tables e below (T.setTop (mkF m 40 #[.val (.int q)] [])) target) : Steps p.tables e below (T.setTop (mkF m 24 #[.val (.int q)] [])) target := by
  show Steps p.tables e below (T.setTop (mkF m 24 #[.val (.int q)] [])) _
  refine XS.iloadN X.here hx rfl (hb hby d1_24) rfl ?_
  show Steps p.tables e below (T.setTop (mkF m 25 #[.val (.int q)] [(.int q)])) _
  refine XS.bipush X.here hx rfl (hb hby d1_25) ?_
  show Steps p.tables e below (T.setTop (mkF m 27 #[.val (.int q)] [(.int (48 : Int32)), (.int q)])) _
  refine XS.icmpNo X.here hx rfl (hb hby d1_27) rfl (flt h).1 ?_
  show Steps p.tables e below (T.setTop (mkF m 30 #[.val (.int q)] [])) _
  refine XS.iloadN X.here hx rfl (hb hby d1_30) rfl ?_
  show Steps p.tables e below (T.setTop (mkF m 31 #[.val (.int q)] [(.int q)])) _
  refine XS.bipush X.here hx rfl (hb hby d1_31) ?_
  show Steps p.tables e below (T.setTop (mkF m 33 #[.val (.int q)] [(.int (57 : Int32)), (.int q)])) _
  refine XS.icmpYes X.here hx rfl (pc0 := 33) (pc' := 40) rfl (hb hby d1_33) rfl (tlt h2).2.2.1 (by decide) (by decide) ?_
  exact kt
theorem a3c {p : Program} {l : Launch} {e : Env} {R : Room} {s : State} {m : MethodId} {args : Array Value} {below : List Frame} {meth : Method} {c : Code} {T : State} {locs : List Loc} {cells slots : Nat} (q : Int32) (X : Stand p l e R s m args below meth c T locs cells slots) (hx : p.tables.exec = Jvm.exec) (hby : c.code = prog_45_method_2_code) (h : ¬ q < (48 : Int32)) (h2 : ¬ (57 : Int32) < q) {target : State} (kt : Steps p.tables e below (T.setTop (mkF m 36 #[.val (.int q)] [])) target) : Steps p.tables e below (T.setTop (mkF m 24 #[.val (.int q)] [])) target := by
  show Steps p.tables e below (T.setTop (mkF m 24 #[.val (.int q)] [])) _
  refine XS.iloadN X.here hx rfl (hb hby d1_24) rfl ?_
  show Steps p.tables e below (T.setTop (mkF m 25 #[.val (.int q)] [(.int q)])) _
  refine XS.bipush X.here hx rfl (hb hby d1_25) ?_
  show Steps p.tables e below (T.setTop (mkF m 27 #[.val (.int q)] [(.int (48 : Int32)), (.int q)])) _
  refine XS.icmpNo X.here hx rfl (hb hby d1_27) rfl (flt h).1 ?_
  show Steps p.tables e below (T.setTop (mkF m 30 #[.val (.int q)] [])) _
  refine XS.iloadN X.here hx rfl (hb hby d1_30) rfl ?_
  show Steps p.tables e below (T.setTop (mkF m 31 #[.val (.int q)] [(.int q)])) _
  refine XS.bipush X.here hx rfl (hb hby d1_31) ?_
  show Steps p.tables e below (T.setTop (mkF m 33 #[.val (.int q)] [(.int (57 : Int32)), (.int q)])) _
  refine XS.icmpNo X.here hx rfl (hb hby d1_33) rfl (flt h2).2.2.1 ?_
  exact kt
theorem own_ic (q : Int32) : (¬ q < 97 ∧ ¬ 122 < q ∧ own_i q = true) ∨ ((q < 97 ∨ ¬ q < 97 ∧ 122 < q) ∧ ((¬ q < 65 ∧ ¬ 90 < q ∧ own_i q = true) ∨ ((q < 65 ∨ ¬ q < 65 ∧ 90 < q) ∧ ((¬ q < 48 ∧ ¬ 57 < q ∧ own_i q = true) ∨ ((q < 48 ∨ ¬ q < 48 ∧ 57 < q) ∧ own_i q = false))))) := by
  by_cases a1 : q < 97 <;> by_cases a2 : 122 < q <;> by_cases b1 : q < 65 <;> by_cases b2 : 90 < q <;> by_cases c1 : q < 48 <;> by_cases c2 : 57 < q <;> simp [own_i, a1, a2, b1, b2, c1, c2]
theorem stepsI {p : Program} {l : Launch} {e : Env} {R : Room} {s : State} {m : MethodId} {args : Array Value} {below : List Frame} {meth : Method} {c : Code} {T : State} {locs : List Loc} {cells slots : Nat} (q : Int32) (X : Stand p l e R s m args below meth c T locs cells slots) (hx : p.tables.exec = Jvm.exec) (hby : c.code = prog_45_method_2_code) {target : State} (kt : Steps p.tables e below (T.setTop (mkF m 41 #[.val (.int q)] [(.int (own_b (own_i q)))])) target) : Steps p.tables e below (T.setTop (mkF m 0 #[.val (.int q)] [])) target := by
  have yes : own_i q = true → Steps p.tables e below (T.setTop (mkF m 36 #[.val (.int q)] [])) target := fun hk => by
    rw [hk] at kt
    show Steps p.tables e below (T.setTop (mkF m 36 #[.val (.int q)] [])) _
    refine XS.iconst X.here hx rfl (hb hby d1_36) ?_
    show Steps p.tables e below (T.setTop (mkF m 37 #[.val (.int q)] [(.int (1 : Int32))])) _
    refine XS.goto X.here hx rfl (pc0 := 37) (pc' := 41) rfl (hb hby d1_37) (by decide) (by decide) ?_
    exact kt
  have no : own_i q = false → Steps p.tables e below (T.setTop (mkF m 40 #[.val (.int q)] [])) target := fun hk => by
    rw [hk] at kt
    show Steps p.tables e below (T.setTop (mkF m 40 #[.val (.int q)] [])) _
    refine XS.iconst X.here hx rfl (hb hby d1_40) ?_
    exact kt
  have one : (q < 97 ∨ ¬ q < 97 ∧ 122 < q) → Steps p.tables e below (T.setTop (mkF m 12 #[.val (.int q)] [])) target → Steps p.tables e below (T.setTop (mkF m 0 #[.val (.int q)] [])) target := fun h k => h.elim (fun h => a1a q X hx hby h k) (fun h => a1b q X hx hby h.1 h.2 k)
  have two : (q < 65 ∨ ¬ q < 65 ∧ 90 < q) → Steps p.tables e below (T.setTop (mkF m 24 #[.val (.int q)] [])) target → Steps p.tables e below (T.setTop (mkF m 12 #[.val (.int q)] [])) target := fun h k => h.elim (fun h => a2a q X hx hby h k) (fun h => a2b q X hx hby h.1 h.2 k)
  have thr : (q < 48 ∨ ¬ q < 48 ∧ 57 < q) → Steps p.tables e below (T.setTop (mkF m 40 #[.val (.int q)] [])) target → Steps p.tables e below (T.setTop (mkF m 24 #[.val (.int q)] [])) target := fun h k => h.elim (fun h => a3a q X hx hby h k) (fun h => a3b q X hx hby h.1 h.2 k)
  rcases own_ic q with ⟨h1, h2, hk⟩ | ⟨f1, ⟨h1, h2, hk⟩ | ⟨f2, ⟨h1, h2, hk⟩ | ⟨f3, hk⟩⟩⟩
  · exact a1c q X hx hby h1 h2 (yes hk)
  · exact one f1 (a2c q X hx hby h1 h2 (yes hk))
  · exact one f1 (two f2 (a3c q X hx hby h1 h2 (yes hk)))
  · exact one f1 (two f2 (thr f3 (no hk)))
def QV (z : Int32) (h0 : Heap) (n0 : Nat) (v : Option Value) (h : Heap) (L : List Loc) : Prop := v = some (.int z) ∧ Fr n0 L ∧ h = h0
set_option maxRecDepth 65536 in
set_option maxHeartbeats 40000000 in
theorem rm1 (l : Launch) (Z : State) (a0 : Array Value) (hw : ∀ d ∈ tables_1, d.before a0 Z = true) (ws : List Jvm.Cond) (q : Int32) (h0 : Heap) (n0 : Nat) :
    MetFree l (⟨"com/example/regelwerk/regelwerk/util/UriCharacters", "isAsciiLetterOrDigit", "(I)Z"⟩ : MethodName) (head1 (Jvm.Cond.code (⟨"com/example/regelwerk/regelwerk/util/UriCharacters", "isAsciiLetterOrDigit", "(I)Z"⟩ : MethodName) prog_45_method_2_code 1 (some .boolean) :: ws) ({ frames := 0, cells := 0, slots := 0, locals := 0 } : Room)) (fun a U => a = #[(.int q)] ∧ Z.Warmed39 U.vm ∧ U.heap = h0) (fun _ _ _ _ _ => True) (fun _ U o U' => ∃ v L, o = .returned v ∧ QV (own_b (own_i q)) h0 n0 v U'.heap L ∧ FrameEnd U o U' L ({ frames := 0, cells := 0, slots := 0, locals := 0 } : Room).cells ({ frames := 0, cells := 0, slots := 0, locals := 0 } : Room).slots) := by
  refine MetFree.of_bodySF (plainFor_of_name pn_1) hisR ?_
  intro p e s m args below meth c s₁ Bd hml0 hP hK
  obtain ⟨rfl, hZ, hh⟩ := hP
  have hx := Bd.exec
  have hby := Bd.bytes
  have hml : c.maxLocals = 1 := hml0
  have hown : s.vm.findClass "com/example/regelwerk/regelwerk/util/UriCharacters" = some m.cls := findClass_of_methodNamed Bd.named
  have hnm := (name_of_methodNamed Bd.named Bd.method).1
  have X0 : Stand p l e ({ frames := 0, cells := 0, slots := 0, locals := 0 } : Room) s m #[(.int q)] below meth c s₁ [] 0 0 := Stand.of_body Bd
  have e0 : s₁.heap = h0 := by rw [← hh, Bd.state]; rfl
  have N0 := Fr.nil n0
  have pre0 : ∀ t, Steps p.tables e below (s₁.setTop (mkF m 0 #[.val (.int q)] [])) t → Steps p.tables e below (s₁.setTop (entryFrame m #[(.int q)] 1)) t := fun t k => castTop (ef_1 m q) k
  obtain ⟨fs, hr, hrun, hended, hW, hsame⟩ := X0.leave (v := some (.int (own_b (own_i q)))) (fun h => by rw [Bd.returns] at h; cases h)
  refine ⟨_, _, pre0 _ ?_, hrun, hended, _, _, rfl, ?_, ⟨_, rfl⟩, hW, hsame.mono (by decide) (by decide)⟩
  · refine stepsI q X0 hx hby ?_
    exact retN X0 hx (t := .boolean) Bd.returns (by simp) (hb hby d1_41) (by rw [own_bn]; exact hr)
  · exact ⟨rfl, N0, e0⟩
theorem segL {p : Program} {l : Launch} {e : Env} {R : Room} {s : State} {m : MethodId} {args : Array Value} {below : List Frame} {meth : Method} {c : Code} {T : State} {locs : List Loc} {cells slots : Nat} (q hi lo : Int32) (X : Stand p l e R s m args below meth c T locs cells slots) (hx : p.tables.exec = Jvm.exec) (hby : c.code = method_2_code)  {target : State} (kt : Steps p.tables e below (T.setTop (mkF m 36 #[.val (.int q), .val (.int hi), .val (.int lo), .val (.int (own_b (own_l hi lo))), .unset] [])) target) : Steps p.tables e below (T.setTop (mkF m 9 #[.val (.int q), .val (.int hi), .val (.int lo), .unset, .unset] [])) target := by
  by_cases h1 : hi = (2 : Int32)
  · by_cases h3 : lo < (1 : Int32)
    · have hk : own_l hi lo = false := by simp [own_l, h3]
      rw [hk] at kt
      show Steps p.tables e below (T.setTop (mkF m 9 #[.val (.int q), .val (.int hi), .val (.int lo), .unset, .unset] [])) _
      refine XS.iloadN X.here hx rfl (hb hby d2_9) rfl ?_
      show Steps p.tables e below (T.setTop (mkF m 10 #[.val (.int q), .val (.int hi), .val (.int lo), .unset, .unset] [(.int hi)])) _
      refine XS.iconst X.here hx rfl (hb hby d2_10) ?_
      show Steps p.tables e below (T.setTop (mkF m 11 #[.val (.int q), .val (.int hi), .val (.int lo), .unset, .unset] [(.int (2 : Int32)), (.int hi)])) _
      refine XS.icmpYes X.here hx rfl (pc0 := 11) (pc' := 19) rfl (hb hby d2_11) rfl (teq h1).1 (by decide) (by decide) ?_
      show Steps p.tables e below (T.setTop (mkF m 19 #[.val (.int q), .val (.int hi), .val (.int lo), .unset, .unset] [])) _
      refine XS.iloadN X.here hx rfl (hb hby d2_19) rfl ?_
      show Steps p.tables e below (T.setTop (mkF m 20 #[.val (.int q), .val (.int hi), .val (.int lo), .unset, .unset] [(.int lo)])) _
      refine XS.iconst X.here hx rfl (hb hby d2_20) ?_
      show Steps p.tables e below (T.setTop (mkF m 21 #[.val (.int q), .val (.int hi), .val (.int lo), .unset, .unset] [(.int (1 : Int32)), (.int lo)])) _
      refine XS.icmpYes X.here hx rfl (pc0 := 21) (pc' := 34) rfl (hb hby d2_21) rfl (tlt h3).1 (by decide) (by decide) ?_
      show Steps p.tables e below (T.setTop (mkF m 34 #[.val (.int q), .val (.int hi), .val (.int lo), .unset, .unset] [])) _
      refine XS.iconst X.here hx rfl (hb hby d2_34) ?_
      show Steps p.tables e below (T.setTop (mkF m 35 #[.val (.int q), .val (.int hi), .val (.int lo), .unset, .unset] [(.int (0 : Int32))])) _
      refine XS.istoreN X.here hx rfl (hb hby d2_35) rfl (l' := #[.val (.int q), .val (.int hi), .val (.int lo), .val (.int (0 : Int32)), .unset]) rfl ?_
      exact kt
    · by_cases h4 : (26 : Int32) < lo
      · have hk : own_l hi lo = false := by simp [own_l, h4]
        rw [hk] at kt
        show Steps p.tables e below (T.setTop (mkF m 9 #[.val (.int q), .val (.int hi), .val (.int lo), .unset, .unset] [])) _
        refine XS.iloadN X.here hx rfl (hb hby d2_9) rfl ?_
        show Steps p.tables e below (T.setTop (mkF m 10 #[.val (.int q), .val (.int hi), .val (.int lo), .unset, .unset] [(.int hi)])) _
        refine XS.iconst X.here hx rfl (hb hby d2_10) ?_
        show Steps p.tables e below (T.setTop (mkF m 11 #[.val (.int q), .val (.int hi), .val (.int lo), .unset, .unset] [(.int (2 : Int32)), (.int hi)])) _
        refine XS.icmpYes X.here hx rfl (pc0 := 11) (pc' := 19) rfl (hb hby d2_11) rfl (teq h1).1 (by decide) (by decide) ?_
        show Steps p.tables e below (T.setTop (mkF m 19 #[.val (.int q), .val (.int hi), .val (.int lo), .unset, .unset] [])) _
        refine XS.iloadN X.here hx rfl (hb hby d2_19) rfl ?_
        show Steps p.tables e below (T.setTop (mkF m 20 #[.val (.int q), .val (.int hi), .val (.int lo), .unset, .unset] [(.int lo)])) _
        refine XS.iconst X.here hx rfl (hb hby d2_20) ?_
        show Steps p.tables e below (T.setTop (mkF m 21 #[.val (.int q), .val (.int hi), .val (.int lo), .unset, .unset] [(.int (1 : Int32)), (.int lo)])) _
        refine XS.icmpNo X.here hx rfl (hb hby d2_21) rfl (flt h3).1 ?_
        show Steps p.tables e below (T.setTop (mkF m 24 #[.val (.int q), .val (.int hi), .val (.int lo), .unset, .unset] [])) _
        refine XS.iloadN X.here hx rfl (hb hby d2_24) rfl ?_
        show Steps p.tables e below (T.setTop (mkF m 25 #[.val (.int q), .val (.int hi), .val (.int lo), .unset, .unset] [(.int lo)])) _
        refine XS.bipush X.here hx rfl (hb hby d2_25) ?_
        show Steps p.tables e below (T.setTop (mkF m 27 #[.val (.int q), .val (.int hi), .val (.int lo), .unset, .unset] [(.int (26 : Int32)), (.int lo)])) _
        refine XS.icmpYes X.here hx rfl (pc0 := 27) (pc' := 34) rfl (hb hby d2_27) rfl (tlt h4).2.2.1 (by decide) (by decide) ?_
        show Steps p.tables e below (T.setTop (mkF m 34 #[.val (.int q), .val (.int hi), .val (.int lo), .unset, .unset] [])) _
        refine XS.iconst X.here hx rfl (hb hby d2_34) ?_
        show Steps p.tables e below (T.setTop (mkF m 35 #[.val (.int q), .val (.int hi), .val (.int lo), .unset, .unset] [(.int (0 : Int32))])) _
        refine XS.istoreN X.here hx rfl (hb hby d2_35) rfl (l' := #[.val (.int q), .val (.int hi), .val (.int lo), .val (.int (0 : Int32)), .unset]) rfl ?_
        exact kt
      · have hk : own_l hi lo = true := by simp [own_l, h1, h3, h4]
        rw [hk] at kt
        show Steps p.tables e below (T.setTop (mkF m 9 #[.val (.int q), .val (.int hi), .val (.int lo), .unset, .unset] [])) _
        refine XS.iloadN X.here hx rfl (hb hby d2_9) rfl ?_
        show Steps p.tables e below (T.setTop (mkF m 10 #[.val (.int q), .val (.int hi), .val (.int lo), .unset, .unset] [(.int hi)])) _
        refine XS.iconst X.here hx rfl (hb hby d2_10) ?_
        show Steps p.tables e below (T.setTop (mkF m 11 #[.val (.int q), .val (.int hi), .val (.int lo), .unset, .unset] [(.int (2 : Int32)), (.int hi)])) _
        refine XS.icmpYes X.here hx rfl (pc0 := 11) (pc' := 19) rfl (hb hby d2_11) rfl (teq h1).1 (by decide) (by decide) ?_
        show Steps p.tables e below (T.setTop (mkF m 19 #[.val (.int q), .val (.int hi), .val (.int lo), .unset, .unset] [])) _
        refine XS.iloadN X.here hx rfl (hb hby d2_19) rfl ?_
        show Steps p.tables e below (T.setTop (mkF m 20 #[.val (.int q), .val (.int hi), .val (.int lo), .unset, .unset] [(.int lo)])) _
        refine XS.iconst X.here hx rfl (hb hby d2_20) ?_
        show Steps p.tables e below (T.setTop (mkF m 21 #[.val (.int q), .val (.int hi), .val (.int lo), .unset, .unset] [(.int (1 : Int32)), (.int lo)])) _
        refine XS.icmpNo X.here hx rfl (hb hby d2_21) rfl (flt h3).1 ?_
        show Steps p.tables e below (T.setTop (mkF m 24 #[.val (.int q), .val (.int hi), .val (.int lo), .unset, .unset] [])) _
        refine XS.iloadN X.here hx rfl (hb hby d2_24) rfl ?_
        show Steps p.tables e below (T.setTop (mkF m 25 #[.val (.int q), .val (.int hi), .val (.int lo), .unset, .unset] [(.int lo)])) _
        refine XS.bipush X.here hx rfl (hb hby d2_25) ?_
        show Steps p.tables e below (T.setTop (mkF m 27 #[.val (.int q), .val (.int hi), .val (.int lo), .unset, .unset] [(.int (26 : Int32)), (.int lo)])) _
        refine XS.icmpNo X.here hx rfl (hb hby d2_27) rfl (flt h4).2.2.1 ?_
        show Steps p.tables e below (T.setTop (mkF m 30 #[.val (.int q), .val (.int hi), .val (.int lo), .unset, .unset] [])) _
        refine XS.iconst X.here hx rfl (hb hby d2_30) ?_
        show Steps p.tables e below (T.setTop (mkF m 31 #[.val (.int q), .val (.int hi), .val (.int lo), .unset, .unset] [(.int (1 : Int32))])) _
        refine XS.goto X.here hx rfl (pc0 := 31) (pc' := 35) rfl (hb hby d2_31) (by decide) (by decide) ?_
        show Steps p.tables e below (T.setTop (mkF m 35 #[.val (.int q), .val (.int hi), .val (.int lo), .unset, .unset] [(.int (1 : Int32))])) _
        refine XS.istoreN X.here hx rfl (hb hby d2_35) rfl (l' := #[.val (.int q), .val (.int hi), .val (.int lo), .val (.int (1 : Int32)), .unset]) rfl ?_
        exact kt
  · by_cases h2 : hi = (3 : Int32)
    · by_cases h3 : lo < (1 : Int32)
      · have hk : own_l hi lo = false := by simp [own_l, h3]
        rw [hk] at kt
        show Steps p.tables e below (T.setTop (mkF m 9 #[.val (.int q), .val (.int hi), .val (.int lo), .unset, .unset] [])) _
        refine XS.iloadN X.here hx rfl (hb hby d2_9) rfl ?_
        show Steps p.tables e below (T.setTop (mkF m 10 #[.val (.int q), .val (.int hi), .val (.int lo), .unset, .unset] [(.int hi)])) _
        refine XS.iconst X.here hx rfl (hb hby d2_10) ?_
        show Steps p.tables e below (T.setTop (mkF m 11 #[.val (.int q), .val (.int hi), .val (.int lo), .unset, .unset] [(.int (2 : Int32)), (.int hi)])) _
        refine XS.icmpNo X.here hx rfl (hb hby d2_11) rfl (feq h1).1 ?_
        show Steps p.tables e below (T.setTop (mkF m 14 #[.val (.int q), .val (.int hi), .val (.int lo), .unset, .unset] [])) _
        refine XS.iloadN X.here hx rfl (hb hby d2_14) rfl ?_
        show Steps p.tables e below (T.setTop (mkF m 15 #[.val (.int q), .val (.int hi), .val (.int lo), .unset, .unset] [(.int hi)])) _
        refine XS.iconst X.here hx rfl (hb hby d2_15) ?_
        show Steps p.tables e below (T.setTop (mkF m 16 #[.val (.int q), .val (.int hi), .val (.int lo), .unset, .unset] [(.int (3 : Int32)), (.int hi)])) _
        refine XS.icmpNo X.here hx rfl (hb hby d2_16) rfl (teq h2).2 ?_
        show Steps p.tables e below (T.setTop (mkF m 19 #[.val (.int q), .val (.int hi), .val (.int lo), .unset, .unset] [])) _
        refine XS.iloadN X.here hx rfl (hb hby d2_19) rfl ?_
        show Steps p.tables e below (T.setTop (mkF m 20 #[.val (.int q), .val (.int hi), .val (.int lo), .unset, .unset] [(.int lo)])) _
        refine XS.iconst X.here hx rfl (hb hby d2_20) ?_
        show Steps p.tables e below (T.setTop (mkF m 21 #[.val (.int q), .val (.int hi), .val (.int lo), .unset, .unset] [(.int (1 : Int32)), (.int lo)])) _
        refine XS.icmpYes X.here hx rfl (pc0 := 21) (pc' := 34) rfl (hb hby d2_21) rfl (tlt h3).1 (by decide) (by decide) ?_
        show Steps p.tables e below (T.setTop (mkF m 34 #[.val (.int q), .val (.int hi), .val (.int lo), .unset, .unset] [])) _
        refine XS.iconst X.here hx rfl (hb hby d2_34) ?_
        show Steps p.tables e below (T.setTop (mkF m 35 #[.val (.int q), .val (.int hi), .val (.int lo), .unset, .unset] [(.int (0 : Int32))])) _
        refine XS.istoreN X.here hx rfl (hb hby d2_35) rfl (l' := #[.val (.int q), .val (.int hi), .val (.int lo), .val (.int (0 : Int32)), .unset]) rfl ?_
        exact kt
      · by_cases h4 : (26 : Int32) < lo
        · have hk : own_l hi lo = false := by simp [own_l, h4]
          rw [hk] at kt
          show Steps p.tables e below (T.setTop (mkF m 9 #[.val (.int q), .val (.int hi), .val (.int lo), .unset, .unset] [])) _
          refine XS.iloadN X.here hx rfl (hb hby d2_9) rfl ?_
          show Steps p.tables e below (T.setTop (mkF m 10 #[.val (.int q), .val (.int hi), .val (.int lo), .unset, .unset] [(.int hi)])) _
          refine XS.iconst X.here hx rfl (hb hby d2_10) ?_
          show Steps p.tables e below (T.setTop (mkF m 11 #[.val (.int q), .val (.int hi), .val (.int lo), .unset, .unset] [(.int (2 : Int32)), (.int hi)])) _
          refine XS.icmpNo X.here hx rfl (hb hby d2_11) rfl (feq h1).1 ?_
          show Steps p.tables e below (T.setTop (mkF m 14 #[.val (.int q), .val (.int hi), .val (.int lo), .unset, .unset] [])) _
          refine XS.iloadN X.here hx rfl (hb hby d2_14) rfl ?_
          show Steps p.tables e below (T.setTop (mkF m 15 #[.val (.int q), .val (.int hi), .val (.int lo), .unset, .unset] [(.int hi)])) _
          refine XS.iconst X.here hx rfl (hb hby d2_15) ?_
          show Steps p.tables e below (T.setTop (mkF m 16 #[.val (.int q), .val (.int hi), .val (.int lo), .unset, .unset] [(.int (3 : Int32)), (.int hi)])) _
          refine XS.icmpNo X.here hx rfl (hb hby d2_16) rfl (teq h2).2 ?_
          show Steps p.tables e below (T.setTop (mkF m 19 #[.val (.int q), .val (.int hi), .val (.int lo), .unset, .unset] [])) _
          refine XS.iloadN X.here hx rfl (hb hby d2_19) rfl ?_
          show Steps p.tables e below (T.setTop (mkF m 20 #[.val (.int q), .val (.int hi), .val (.int lo), .unset, .unset] [(.int lo)])) _
          refine XS.iconst X.here hx rfl (hb hby d2_20) ?_
          show Steps p.tables e below (T.setTop (mkF m 21 #[.val (.int q), .val (.int hi), .val (.int lo), .unset, .unset] [(.int (1 : Int32)), (.int lo)])) _
          refine XS.icmpNo X.here hx rfl (hb hby d2_21) rfl (flt h3).1 ?_
          show Steps p.tables e below (T.setTop (mkF m 24 #[.val (.int q), .val (.int hi), .val (.int lo), .unset, .unset] [])) _
          refine XS.iloadN X.here hx rfl (hb hby d2_24) rfl ?_
          show Steps p.tables e below (T.setTop (mkF m 25 #[.val (.int q), .val (.int hi), .val (.int lo), .unset, .unset] [(.int lo)])) _
          refine XS.bipush X.here hx rfl (hb hby d2_25) ?_
          show Steps p.tables e below (T.setTop (mkF m 27 #[.val (.int q), .val (.int hi), .val (.int lo), .unset, .unset] [(.int (26 : Int32)), (.int lo)])) _
          refine XS.icmpYes X.here hx rfl (pc0 := 27) (pc' := 34) rfl (hb hby d2_27) rfl (tlt h4).2.2.1 (by decide) (by decide) ?_
          show Steps p.tables e below (T.setTop (mkF m 34 #[.val (.int q), .val (.int hi), .val (.int lo), .unset, .unset] [])) _
          refine XS.iconst X.here hx rfl (hb hby d2_34) ?_
          show Steps p.tables e below (T.setTop (mkF m 35 #[.val (.int q), .val (.int hi), .val (.int lo), .unset, .unset] [(.int (0 : Int32))])) _
          refine XS.istoreN X.here hx rfl (hb hby d2_35) rfl (l' := #[.val (.int q), .val (.int hi), .val (.int lo), .val (.int (0 : Int32)), .unset]) rfl ?_
          exact kt
        · have hk : own_l hi lo = true := by simp [own_l, h2, h3, h4]
          rw [hk] at kt
          show Steps p.tables e below (T.setTop (mkF m 9 #[.val (.int q), .val (.int hi), .val (.int lo), .unset, .unset] [])) _
          refine XS.iloadN X.here hx rfl (hb hby d2_9) rfl ?_
          show Steps p.tables e below (T.setTop (mkF m 10 #[.val (.int q), .val (.int hi), .val (.int lo), .unset, .unset] [(.int hi)])) _
          refine XS.iconst X.here hx rfl (hb hby d2_10) ?_
          show Steps p.tables e below (T.setTop (mkF m 11 #[.val (.int q), .val (.int hi), .val (.int lo), .unset, .unset] [(.int (2 : Int32)), (.int hi)])) _
          refine XS.icmpNo X.here hx rfl (hb hby d2_11) rfl (feq h1).1 ?_
          show Steps p.tables e below (T.setTop (mkF m 14 #[.val (.int q), .val (.int hi), .val (.int lo), .unset, .unset] [])) _
          refine XS.iloadN X.here hx rfl (hb hby d2_14) rfl ?_
          show Steps p.tables e below (T.setTop (mkF m 15 #[.val (.int q), .val (.int hi), .val (.int lo), .unset, .unset] [(.int hi)])) _
          refine XS.iconst X.here hx rfl (hb hby d2_15) ?_
          show Steps p.tables e below (T.setTop (mkF m 16 #[.val (.int q), .val (.int hi), .val (.int lo), .unset, .unset] [(.int (3 : Int32)), (.int hi)])) _
          refine XS.icmpNo X.here hx rfl (hb hby d2_16) rfl (teq h2).2 ?_
          show Steps p.tables e below (T.setTop (mkF m 19 #[.val (.int q), .val (.int hi), .val (.int lo), .unset, .unset] [])) _
          refine XS.iloadN X.here hx rfl (hb hby d2_19) rfl ?_
          show Steps p.tables e below (T.setTop (mkF m 20 #[.val (.int q), .val (.int hi), .val (.int lo), .unset, .unset] [(.int lo)])) _
          refine XS.iconst X.here hx rfl (hb hby d2_20) ?_
          show Steps p.tables e below (T.setTop (mkF m 21 #[.val (.int q), .val (.int hi), .val (.int lo), .unset, .unset] [(.int (1 : Int32)), (.int lo)])) _
          refine XS.icmpNo X.here hx rfl (hb hby d2_21) rfl (flt h3).1 ?_
          show Steps p.tables e below (T.setTop (mkF m 24 #[.val (.int q), .val (.int hi), .val (.int lo), .unset, .unset] [])) _
          refine XS.iloadN X.here hx rfl (hb hby d2_24) rfl ?_
          show Steps p.tables e below (T.setTop (mkF m 25 #[.val (.int q), .val (.int hi), .val (.int lo), .unset, .unset] [(.int lo)])) _
          refine XS.bipush X.here hx rfl (hb hby d2_25) ?_
          show Steps p.tables e below (T.setTop (mkF m 27 #[.val (.int q), .val (.int hi), .val (.int lo), .unset, .unset] [(.int (26 : Int32)), (.int lo)])) _
          refine XS.icmpNo X.here hx rfl (hb hby d2_27) rfl (flt h4).2.2.1 ?_
          show Steps p.tables e below (T.setTop (mkF m 30 #[.val (.int q), .val (.int hi), .val (.int lo), .unset, .unset] [])) _
          refine XS.iconst X.here hx rfl (hb hby d2_30) ?_
          show Steps p.tables e below (T.setTop (mkF m 31 #[.val (.int q), .val (.int hi), .val (.int lo), .unset, .unset] [(.int (1 : Int32))])) _
          refine XS.goto X.here hx rfl (pc0 := 31) (pc' := 35) rfl (hb hby d2_31) (by decide) (by decide) ?_
          show Steps p.tables e below (T.setTop (mkF m 35 #[.val (.int q), .val (.int hi), .val (.int lo), .unset, .unset] [(.int (1 : Int32))])) _
          refine XS.istoreN X.here hx rfl (hb hby d2_35) rfl (l' := #[.val (.int q), .val (.int hi), .val (.int lo), .val (.int (1 : Int32)), .unset]) rfl ?_
          exact kt
    · have hk : own_l hi lo = false := by simp [own_l, h1, h2]
      rw [hk] at kt
      show Steps p.tables e below (T.setTop (mkF m 9 #[.val (.int q), .val (.int hi), .val (.int lo), .unset, .unset] [])) _
      refine XS.iloadN X.here hx rfl (hb hby d2_9) rfl ?_
      show Steps p.tables e below (T.setTop (mkF m 10 #[.val (.int q), .val (.int hi), .val (.int lo), .unset, .unset] [(.int hi)])) _
      refine XS.iconst X.here hx rfl (hb hby d2_10) ?_
      show Steps p.tables e below (T.setTop (mkF m 11 #[.val (.int q), .val (.int hi), .val (.int lo), .unset, .unset] [(.int (2 : Int32)), (.int hi)])) _
      refine XS.icmpNo X.here hx rfl (hb hby d2_11) rfl (feq h1).1 ?_
      show Steps p.tables e below (T.setTop (mkF m 14 #[.val (.int q), .val (.int hi), .val (.int lo), .unset, .unset] [])) _
      refine XS.iloadN X.here hx rfl (hb hby d2_14) rfl ?_
      show Steps p.tables e below (T.setTop (mkF m 15 #[.val (.int q), .val (.int hi), .val (.int lo), .unset, .unset] [(.int hi)])) _
      refine XS.iconst X.here hx rfl (hb hby d2_15) ?_
      show Steps p.tables e below (T.setTop (mkF m 16 #[.val (.int q), .val (.int hi), .val (.int lo), .unset, .unset] [(.int (3 : Int32)), (.int hi)])) _
      refine XS.icmpYes X.here hx rfl (pc0 := 16) (pc' := 34) rfl (hb hby d2_16) rfl (feq h2).2 (by decide) (by decide) ?_
      show Steps p.tables e below (T.setTop (mkF m 34 #[.val (.int q), .val (.int hi), .val (.int lo), .unset, .unset] [])) _
      refine XS.iconst X.here hx rfl (hb hby d2_34) ?_
      show Steps p.tables e below (T.setTop (mkF m 35 #[.val (.int q), .val (.int hi), .val (.int lo), .unset, .unset] [(.int (0 : Int32))])) _
      refine XS.istoreN X.here hx rfl (hb hby d2_35) rfl (l' := #[.val (.int q), .val (.int hi), .val (.int lo), .val (.int (0 : Int32)), .unset]) rfl ?_
      exact kt
theorem segD {p : Program} {l : Launch} {e : Env} {R : Room} {s : State} {m : MethodId} {args : Array Value} {below : List Frame} {meth : Method} {c : Code} {T : State} {locs : List Loc} {cells slots : Nat} (q hi lo v : Int32) (X : Stand p l e R s m args below meth c T locs cells slots) (hx : p.tables.exec = Jvm.exec) (hby : c.code = method_2_code)  {target : State} (kt : Steps p.tables e below (T.setTop (mkF m 59 #[.val (.int q), .val (.int hi), .val (.int lo), .val (.int v), .val (.int (own_b (own_d ((q.toUInt32 >>> ((4 : Int32) &&& 31).toUInt32).toInt32) (q &&& (15 : Int32)))))] [])) target) : Steps p.tables e below (T.setTop (mkF m 36 #[.val (.int q), .val (.int hi), .val (.int lo), .val (.int v), .unset] [])) target := by
  by_cases h1 : ((q.toUInt32 >>> ((4 : Int32) &&& 31).toUInt32).toInt32) = (3 : Int32)
  · by_cases h2 : (9 : Int32) < (q &&& (15 : Int32))
    · have hk : (own_d ((q.toUInt32 >>> ((4 : Int32) &&& 31).toUInt32).toInt32) (q &&& (15 : Int32))) = false := by simp only [own_d, h2, decide_true, Bool.not_true, Bool.and_false]
      rw [hk] at kt
      show Steps p.tables e below (T.setTop (mkF m 36 #[.val (.int q), .val (.int hi), .val (.int lo), .val (.int v), .unset] [])) _
      refine XS.iloadN X.here hx rfl (hb hby d2_36) rfl ?_
      show Steps p.tables e below (T.setTop (mkF m 37 #[.val (.int q), .val (.int hi), .val (.int lo), .val (.int v), .unset] [(.int q)])) _
      refine XS.iconst X.here hx rfl (hb hby d2_37) ?_
      show Steps p.tables e below (T.setTop (mkF m 38 #[.val (.int q), .val (.int hi), .val (.int lo), .val (.int v), .unset] [(.int (4 : Int32)), (.int q)])) _
      refine XS.iushr X.here hx rfl (hb hby d2_38) rfl ?_
      show Steps p.tables e below (T.setTop (mkF m 39 #[.val (.int q), .val (.int hi), .val (.int lo), .val (.int v), .unset] [(.int ((q.toUInt32 >>> ((4 : Int32) &&& 31).toUInt32).toInt32))])) _
      refine XS.iconst X.here hx rfl (hb hby d2_39) ?_
      show Steps p.tables e below (T.setTop (mkF m 40 #[.val (.int q), .val (.int hi), .val (.int lo), .val (.int v), .unset] [(.int (3 : Int32)), (.int ((q.toUInt32 >>> ((4 : Int32) &&& 31).toUInt32).toInt32))])) _
      refine XS.icmpNo X.here hx rfl (hb hby d2_40) rfl (teq h1).2 ?_
      show Steps p.tables e below (T.setTop (mkF m 43 #[.val (.int q), .val (.int hi), .val (.int lo), .val (.int v), .unset] [])) _
      refine XS.iloadN X.here hx rfl (hb hby d2_43) rfl ?_
      show Steps p.tables e below (T.setTop (mkF m 44 #[.val (.int q), .val (.int hi), .val (.int lo), .val (.int v), .unset] [(.int q)])) _
      refine XS.bipush X.here hx rfl (hb hby d2_44) ?_
      show Steps p.tables e below (T.setTop (mkF m 46 #[.val (.int q), .val (.int hi), .val (.int lo), .val (.int v), .unset] [(.int (15 : Int32)), (.int q)])) _
      refine XS.iand X.here hx rfl (hb hby d2_46) rfl ?_
      show Steps p.tables e below (T.setTop (mkF m 47 #[.val (.int q), .val (.int hi), .val (.int lo), .val (.int v), .unset] [(.int (q &&& (15 : Int32)))])) _
      refine XS.bipush X.here hx rfl (hb hby d2_47) ?_
      show Steps p.tables e below (T.setTop (mkF m 49 #[.val (.int q), .val (.int hi), .val (.int lo), .val (.int v), .unset] [(.int (9 : Int32)), (.int (q &&& (15 : Int32)))])) _
      refine XS.icmpYes X.here hx rfl (pc0 := 49) (pc' := 56) rfl (hb hby d2_49) rfl (tlt h2).2.2.1 (by decide) (by decide) ?_
      show Steps p.tables e below (T.setTop (mkF m 56 #[.val (.int q), .val (.int hi), .val (.int lo), .val (.int v), .unset] [])) _
      refine XS.iconst X.here hx rfl (hb hby d2_56) ?_
      show Steps p.tables e below (T.setTop (mkF m 57 #[.val (.int q), .val (.int hi), .val (.int lo), .val (.int v), .unset] [(.int (0 : Int32))])) _
      refine XS.istore X.here hx rfl (hb hby d2_57) rfl (l' := #[.val (.int q), .val (.int hi), .val (.int lo), .val (.int v), .val (.int (0 : Int32))]) rfl ?_
      exact kt
    · have hk : (own_d ((q.toUInt32 >>> ((4 : Int32) &&& 31).toUInt32).toInt32) (q &&& (15 : Int32))) = true := by simp only [own_d, h1, h2, decide_true, decide_false, Bool.not_false, Bool.and_true]
      rw [hk] at kt
      show Steps p.tables e below (T.setTop (mkF m 36 #[.val (.int q), .val (.int hi), .val (.int lo), .val (.int v), .unset] [])) _
      refine XS.iloadN X.here hx rfl (hb hby d2_36) rfl ?_
      show Steps p.tables e below (T.setTop (mkF m 37 #[.val (.int q), .val (.int hi), .val (.int lo), .val (.int v), .unset] [(.int q)])) _
      refine XS.iconst X.here hx rfl (hb hby d2_37) ?_
      show Steps p.tables e below (T.setTop (mkF m 38 #[.val (.int q), .val (.int hi), .val (.int lo), .val (.int v), .unset] [(.int (4 : Int32)), (.int q)])) _
      refine XS.iushr X.here hx rfl (hb hby d2_38) rfl ?_
      show Steps p.tables e below (T.setTop (mkF m 39 #[.val (.int q), .val (.int hi), .val (.int lo), .val (.int v), .unset] [(.int ((q.toUInt32 >>> ((4 : Int32) &&& 31).toUInt32).toInt32))])) _
      refine XS.iconst X.here hx rfl (hb hby d2_39) ?_
      show Steps p.tables e below (T.setTop (mkF m 40 #[.val (.int q), .val (.int hi), .val (.int lo), .val (.int v), .unset] [(.int (3 : Int32)), (.int ((q.toUInt32 >>> ((4 : Int32) &&& 31).toUInt32).toInt32))])) _
      refine XS.icmpNo X.here hx rfl (hb hby d2_40) rfl (teq h1).2 ?_
      show Steps p.tables e below (T.setTop (mkF m 43 #[.val (.int q), .val (.int hi), .val (.int lo), .val (.int v), .unset] [])) _
      refine XS.iloadN X.here hx rfl (hb hby d2_43) rfl ?_
      show Steps p.tables e below (T.setTop (mkF m 44 #[.val (.int q), .val (.int hi), .val (.int lo), .val (.int v), .unset] [(.int q)])) _
      refine XS.bipush X.here hx rfl (hb hby d2_44) ?_
      show Steps p.tables e below (T.setTop (mkF m 46 #[.val (.int q), .val (.int hi), .val (.int lo), .val (.int v), .unset] [(.int (15 : Int32)), (.int q)])) _
      refine XS.iand X.here hx rfl (hb hby d2_46) rfl ?_
      show Steps p.tables e below (T.setTop (mkF m 47 #[.val (.int q), .val (.int hi), .val (.int lo), .val (.int v), .unset] [(.int (q &&& (15 : Int32)))])) _
      refine XS.bipush X.here hx rfl (hb hby d2_47) ?_
      show Steps p.tables e below (T.setTop (mkF m 49 #[.val (.int q), .val (.int hi), .val (.int lo), .val (.int v), .unset] [(.int (9 : Int32)), (.int (q &&& (15 : Int32)))])) _
      refine XS.icmpNo X.here hx rfl (hb hby d2_49) rfl (flt h2).2.2.1 ?_
      show Steps p.tables e below (T.setTop (mkF m 52 #[.val (.int q), .val (.int hi), .val (.int lo), .val (.int v), .unset] [])) _
      refine XS.iconst X.here hx rfl (hb hby d2_52) ?_
      show Steps p.tables e below (T.setTop (mkF m 53 #[.val (.int q), .val (.int hi), .val (.int lo), .val (.int v), .unset] [(.int (1 : Int32))])) _
      refine XS.goto X.here hx rfl (pc0 := 53) (pc' := 57) rfl (hb hby d2_53) (by decide) (by decide) ?_
      show Steps p.tables e below (T.setTop (mkF m 57 #[.val (.int q), .val (.int hi), .val (.int lo), .val (.int v), .unset] [(.int (1 : Int32))])) _
      refine XS.istore X.here hx rfl (hb hby d2_57) rfl (l' := #[.val (.int q), .val (.int hi), .val (.int lo), .val (.int v), .val (.int (1 : Int32))]) rfl ?_
      exact kt
  · have hk : (own_d ((q.toUInt32 >>> ((4 : Int32) &&& 31).toUInt32).toInt32) (q &&& (15 : Int32))) = false := by simp only [own_d, h1, decide_false, Bool.false_and]
    rw [hk] at kt
    show Steps p.tables e below (T.setTop (mkF m 36 #[.val (.int q), .val (.int hi), .val (.int lo), .val (.int v), .unset] [])) _
    refine XS.iloadN X.here hx rfl (hb hby d2_36) rfl ?_
    show Steps p.tables e below (T.setTop (mkF m 37 #[.val (.int q), .val (.int hi), .val (.int lo), .val (.int v), .unset] [(.int q)])) _
    refine XS.iconst X.here hx rfl (hb hby d2_37) ?_
    show Steps p.tables e below (T.setTop (mkF m 38 #[.val (.int q), .val (.int hi), .val (.int lo), .val (.int v), .unset] [(.int (4 : Int32)), (.int q)])) _
    refine XS.iushr X.here hx rfl (hb hby d2_38) rfl ?_
    show Steps p.tables e below (T.setTop (mkF m 39 #[.val (.int q), .val (.int hi), .val (.int lo), .val (.int v), .unset] [(.int ((q.toUInt32 >>> ((4 : Int32) &&& 31).toUInt32).toInt32))])) _
    refine XS.iconst X.here hx rfl (hb hby d2_39) ?_
    show Steps p.tables e below (T.setTop (mkF m 40 #[.val (.int q), .val (.int hi), .val (.int lo), .val (.int v), .unset] [(.int (3 : Int32)), (.int ((q.toUInt32 >>> ((4 : Int32) &&& 31).toUInt32).toInt32))])) _
    refine XS.icmpYes X.here hx rfl (pc0 := 40) (pc' := 56) rfl (hb hby d2_40) rfl (feq h1).2 (by decide) (by decide) ?_
    show Steps p.tables e below (T.setTop (mkF m 56 #[.val (.int q), .val (.int hi), .val (.int lo), .val (.int v), .unset] [])) _
    refine XS.iconst X.here hx rfl (hb hby d2_56) ?_
    show Steps p.tables e below (T.setTop (mkF m 57 #[.val (.int q), .val (.int hi), .val (.int lo), .val (.int v), .unset] [(.int (0 : Int32))])) _
    refine XS.istore X.here hx rfl (hb hby d2_57) rfl (l' := #[.val (.int q), .val (.int hi), .val (.int lo), .val (.int v), .val (.int (0 : Int32))]) rfl ?_
    exact kt
theorem segE {p : Program} {l : Launch} {e : Env} {R : Room} {s : State} {m : MethodId} {args : Array Value} {below : List Frame} {meth : Method} {c : Code} {T : State} {locs : List Loc} {cells slots : Nat} (q hi lo : Int32) (a b : Bool) (X : Stand p l e R s m args below meth c T locs cells slots) (hx : p.tables.exec = Jvm.exec) (hby : c.code = method_2_code) {target : State} (kt : Steps p.tables e below (T.setTop (mkF m 73 #[.val (.int q), .val (.int hi), .val (.int lo), .val (.int (own_b a)), .val (.int (own_b b))] [(.int (own_b (a || b)))])) target) : Steps p.tables e below (T.setTop (mkF m 59 #[.val (.int q), .val (.int hi), .val (.int lo), .val (.int (own_b a)), .val (.int (own_b b))] [])) target := by
  cases a with
  | true =>
    show Steps p.tables e below (T.setTop (mkF m 59 #[.val (.int q), .val (.int hi), .val (.int lo), .val (.int (1 : Int32)), .val (.int (own_b b))] [])) _
    refine XS.iloadN X.here hx rfl (hb hby d2_59) rfl ?_
    show Steps p.tables e below (T.setTop (mkF m 60 #[.val (.int q), .val (.int hi), .val (.int lo), .val (.int (1 : Int32)), .val (.int (own_b b))] [(.int (1 : Int32))])) _
    refine XS.ifYes X.here hx rfl (pc0 := 60) (pc' := 68) rfl (hb hby d2_60) rfl ((if0 _ _).trans (feq (by decide)).2) (by decide) (by decide) ?_
    show Steps p.tables e below (T.setTop (mkF m 68 #[.val (.int q), .val (.int hi), .val (.int lo), .val (.int (1 : Int32)), .val (.int (own_b b))] [])) _
    refine XS.iconst X.here hx rfl (hb hby d2_68) ?_
    show Steps p.tables e below (T.setTop (mkF m 69 #[.val (.int q), .val (.int hi), .val (.int lo), .val (.int (1 : Int32)), .val (.int (own_b b))] [(.int (1 : Int32))])) _
    refine XS.goto X.here hx rfl (pc0 := 69) (pc' := 73) rfl (hb hby d2_69) (by decide) (by decide) ?_
    exact kt
  | false =>
    cases b with
    | true =>
      show Steps p.tables e below (T.setTop (mkF m 59 #[.val (.int q), .val (.int hi), .val (.int lo), .val (.int (0 : Int32)), .val (.int (1 : Int32))] [])) _
      refine XS.iloadN X.here hx rfl (hb hby d2_59) rfl ?_
      show Steps p.tables e below (T.setTop (mkF m 60 #[.val (.int q), .val (.int hi), .val (.int lo), .val (.int (0 : Int32)), .val (.int (1 : Int32))] [(.int (0 : Int32))])) _
      refine XS.ifNo X.here hx rfl (hb hby d2_60) rfl ((if0 _ _).trans (teq rfl).2) ?_
      show Steps p.tables e below (T.setTop (mkF m 63 #[.val (.int q), .val (.int hi), .val (.int lo), .val (.int (0 : Int32)), .val (.int (1 : Int32))] [])) _
      refine XS.iload X.here hx rfl (hb hby d2_63) rfl ?_
      show Steps p.tables e below (T.setTop (mkF m 65 #[.val (.int q), .val (.int hi), .val (.int lo), .val (.int (0 : Int32)), .val (.int (1 : Int32))] [(.int (1 : Int32))])) _
      refine XS.ifNo X.here hx rfl (hb hby d2_65) rfl ((if0 _ _).trans (feq (by decide)).1) ?_
      show Steps p.tables e below (T.setTop (mkF m 68 #[.val (.int q), .val (.int hi), .val (.int lo), .val (.int (0 : Int32)), .val (.int (1 : Int32))] [])) _
      refine XS.iconst X.here hx rfl (hb hby d2_68) ?_
      show Steps p.tables e below (T.setTop (mkF m 69 #[.val (.int q), .val (.int hi), .val (.int lo), .val (.int (0 : Int32)), .val (.int (1 : Int32))] [(.int (1 : Int32))])) _
      refine XS.goto X.here hx rfl (pc0 := 69) (pc' := 73) rfl (hb hby d2_69) (by decide) (by decide) ?_
      exact kt
    | false =>
      show Steps p.tables e below (T.setTop (mkF m 59 #[.val (.int q), .val (.int hi), .val (.int lo), .val (.int (0 : Int32)), .val (.int (0 : Int32))] [])) _
      refine XS.iloadN X.here hx rfl (hb hby d2_59) rfl ?_
      show Steps p.tables e below (T.setTop (mkF m 60 #[.val (.int q), .val (.int hi), .val (.int lo), .val (.int (0 : Int32)), .val (.int (0 : Int32))] [(.int (0 : Int32))])) _
      refine XS.ifNo X.here hx rfl (hb hby d2_60) rfl ((if0 _ _).trans (teq rfl).2) ?_
      show Steps p.tables e below (T.setTop (mkF m 63 #[.val (.int q), .val (.int hi), .val (.int lo), .val (.int (0 : Int32)), .val (.int (0 : Int32))] [])) _
      refine XS.iload X.here hx rfl (hb hby d2_63) rfl ?_
      show Steps p.tables e below (T.setTop (mkF m 65 #[.val (.int q), .val (.int hi), .val (.int lo), .val (.int (0 : Int32)), .val (.int (0 : Int32))] [(.int (0 : Int32))])) _
      refine XS.ifYes X.here hx rfl (pc0 := 65) (pc' := 72) rfl (hb hby d2_65) rfl ((if0 _ _).trans (teq rfl).1) (by decide) (by decide) ?_
      show Steps p.tables e below (T.setTop (mkF m 72 #[.val (.int q), .val (.int hi), .val (.int lo), .val (.int (0 : Int32)), .val (.int (0 : Int32))] [])) _
      refine XS.iconst X.here hx rfl (hb hby d2_72) ?_
      exact kt
set_option maxRecDepth 65536 in
set_option maxHeartbeats 40000000 in
theorem rm2 (l : Launch) (Z : State) (a0 : Array Value) (hw : ∀ d ∈ tables_1, d.before a0 Z = true) (ws : List Jvm.Cond) (q : Int32) (h0 : Heap) (n0 : Nat) :
    MetFree l (⟨"com/example/regelwerk/regelwerk/util/UriCharactersIsAsciiLetterOrDigitPinLaw", "reference", "(I)Z"⟩ : MethodName) (head1 (Jvm.Cond.code (⟨"com/example/regelwerk/regelwerk/util/UriCharactersIsAsciiLetterOrDigitPinLaw", "reference", "(I)Z"⟩ : MethodName) method_2_code 5 (some .boolean) :: ws) ({ frames := 0, cells := 0, slots := 0, locals := 0 } : Room)) (fun a U => a = #[(.int q)] ∧ Z.Warmed39 U.vm ∧ U.heap = h0) (fun _ _ _ _ _ => True) (fun _ U o U' => ∃ v L, o = .returned v ∧ QV (own_b (own_f q)) h0 n0 v U'.heap L ∧ FrameEnd U o U' L ({ frames := 0, cells := 0, slots := 0, locals := 0 } : Room).cells ({ frames := 0, cells := 0, slots := 0, locals := 0 } : Room).slots) := by
  refine MetFree.of_bodySF (plainFor_of_name pn_0) hisR ?_
  intro p e s m args below meth c s₁ Bd hml0 hP hK
  obtain ⟨rfl, hZ, hh⟩ := hP
  have hx := Bd.exec
  have hby := Bd.bytes
  have hml : c.maxLocals = 5 := hml0
  have hown : s.vm.findClass "com/example/regelwerk/regelwerk/util/UriCharactersIsAsciiLetterOrDigitPinLaw" = some m.cls := findClass_of_methodNamed Bd.named
  have hnm := (name_of_methodNamed Bd.named Bd.method).1
  have X0 : Stand p l e ({ frames := 0, cells := 0, slots := 0, locals := 0 } : Room) s m #[(.int q)] below meth c s₁ [] 0 0 := Stand.of_body Bd
  have e0 : s₁.heap = h0 := by rw [← hh, Bd.state]; rfl
  have N0 := Fr.nil n0
  have pre0 : ∀ t, Steps p.tables e below (s₁.setTop (mkF m 0 #[.val (.int q), .unset, .unset, .unset, .unset] [])) t → Steps p.tables e below (s₁.setTop (entryFrame m #[(.int q)] 5)) t := fun t k => castTop (ef_2 m q) k
  obtain ⟨fs, hr, hrun, hended, hW, hsame⟩ := X0.leave (v := some (.int (own_b (own_f q)))) (fun h => by rw [Bd.returns] at h; cases h)
  refine ⟨_, _, pre0 _ ?_, hrun, hended, _, _, rfl, ?_, ⟨_, rfl⟩, hW, hsame.mono (by decide) (by decide)⟩
  · show Steps p.tables e below (s₁.setTop (mkF m 0 #[.val (.int q), .unset, .unset, .unset, .unset] [])) _
    refine XS.iloadN X0.here hx rfl (hb hby d2_0) rfl ?_
    show Steps p.tables e below (s₁.setTop (mkF m 1 #[.val (.int q), .unset, .unset, .unset, .unset] [(.int q)])) _
    refine XS.iconst X0.here hx rfl (hb hby d2_1) ?_
    show Steps p.tables e below (s₁.setTop (mkF m 2 #[.val (.int q), .unset, .unset, .unset, .unset] [(.int (5 : Int32)), (.int q)])) _
    refine XS.iushr X0.here hx rfl (hb hby d2_2) rfl ?_
    show Steps p.tables e below (s₁.setTop (mkF m 3 #[.val (.int q), .unset, .unset, .unset, .unset] [(.int ((q.toUInt32 >>> ((5 : Int32) &&& 31).toUInt32).toInt32))])) _
    refine XS.istoreN X0.here hx rfl (hb hby d2_3) rfl (l' := #[.val (.int q), .val (.int ((q.toUInt32 >>> ((5 : Int32) &&& 31).toUInt32).toInt32)), .unset, .unset, .unset]) rfl ?_
    show Steps p.tables e below (s₁.setTop (mkF m 4 #[.val (.int q), .val (.int ((q.toUInt32 >>> ((5 : Int32) &&& 31).toUInt32).toInt32)), .unset, .unset, .unset] [])) _
    refine XS.iloadN X0.here hx rfl (hb hby d2_4) rfl ?_
    show Steps p.tables e below (s₁.setTop (mkF m 5 #[.val (.int q), .val (.int ((q.toUInt32 >>> ((5 : Int32) &&& 31).toUInt32).toInt32)), .unset, .unset, .unset] [(.int q)])) _
    refine XS.bipush X0.here hx rfl (hb hby d2_5) ?_
    show Steps p.tables e below (s₁.setTop (mkF m 7 #[.val (.int q), .val (.int ((q.toUInt32 >>> ((5 : Int32) &&& 31).toUInt32).toInt32)), .unset, .unset, .unset] [(.int (31 : Int32)), (.int q)])) _
    refine XS.iand X0.here hx rfl (hb hby d2_7) rfl ?_
    show Steps p.tables e below (s₁.setTop (mkF m 8 #[.val (.int q), .val (.int ((q.toUInt32 >>> ((5 : Int32) &&& 31).toUInt32).toInt32)), .unset, .unset, .unset] [(.int (q &&& (31 : Int32)))])) _
    refine XS.istoreN X0.here hx rfl (hb hby d2_8) rfl (l' := #[.val (.int q), .val (.int ((q.toUInt32 >>> ((5 : Int32) &&& 31).toUInt32).toInt32)), .val (.int (q &&& (31 : Int32))), .unset, .unset]) rfl ?_
    show Steps p.tables e below (s₁.setTop (mkF m 9 #[.val (.int q), .val (.int ((q.toUInt32 >>> ((5 : Int32) &&& 31).toUInt32).toInt32)), .val (.int (q &&& (31 : Int32))), .unset, .unset] [])) _
    refine segL q ((q.toUInt32 >>> ((5 : Int32) &&& 31).toUInt32).toInt32) (q &&& (31 : Int32)) X0 hx hby ?_
    refine segD q ((q.toUInt32 >>> ((5 : Int32) &&& 31).toUInt32).toInt32) (q &&& (31 : Int32)) (own_b (own_l ((q.toUInt32 >>> ((5 : Int32) &&& 31).toUInt32).toInt32) (q &&& (31 : Int32)))) X0 hx hby ?_
    refine segE q ((q.toUInt32 >>> ((5 : Int32) &&& 31).toUInt32).toInt32) (q &&& (31 : Int32)) (own_l ((q.toUInt32 >>> ((5 : Int32) &&& 31).toUInt32).toInt32) (q &&& (31 : Int32))) (own_d ((q.toUInt32 >>> ((4 : Int32) &&& 31).toUInt32).toInt32) (q &&& (15 : Int32))) X0 hx hby ?_
    exact retN X0 hx (t := .boolean) Bd.returns (by simp) (hb hby d2_73) (by rw [own_bn]; exact hr)
  · exact ⟨rfl, N0, e0⟩
def Q0 (n0 : Nat) (v : Option Value) (h : Heap) (L : List Loc) : Prop := v = some (.int 1) ∧ Fr n0 L
set_option maxRecDepth 65536 in
set_option maxHeartbeats 40000000 in
theorem rm0 (l : Launch) (Z : State) (a0 : Array Value) (hw : ∀ d ∈ tables_1, d.before a0 Z = true) (ws : List Jvm.Cond) (i0 i1 : Int32) (h0 : Heap) (n0 : Nat) (Z0 : n0 ≤ h0.size) :
    MetFree l x (head1 (Jvm.Cond.code x code maxLocals ret :: ws) room_1) (fun a U => a = #[(.int i0), (.int i1)] ∧ Z.Warmed39 U.vm ∧ U.heap = h0) (fun _ _ _ _ _ => True) (fun _ U o U' => ∃ v L, o = .returned v ∧ Q0 n0 v U'.heap L ∧ FrameEnd U o U' L 0 0) := by
  refine MetFree.of_bodySF (plainFor_of_name pn_0) hisR ?_
  intro p e s m args below meth c s₁ Bd hml0 hP hK
  obtain ⟨rfl, hZ, hh⟩ := hP
  have hx := Bd.exec
  have hby := Bd.bytes
  have hml : c.maxLocals = 3 := hml0
  have hown : s.vm.findClass "com/example/regelwerk/regelwerk/util/UriCharactersIsAsciiLetterOrDigitPinLaw" = some m.cls := findClass_of_methodNamed Bd.named
  have X0 : Stand p l e room_1 s m #[(.int i0), (.int i1)] below meth c s₁ [] 0 0 := Stand.of_body Bd
  have pre0 : ∀ t, Steps p.tables e below (s₁.setTop (mkF m 0 #[.val (.int i0), .val (.int i1), .unset] [])) t → Steps p.tables e below (s₁.setTop (entryFrame m #[(.int i0), (.int i1)] maxLocals)) t := fun t k => castTop (ef_0 m i0 i1) k
  obtain ⟨q, go⟩ : ∃ q : Int32, ∀ t, Steps p.tables e below (s₁.setTop (mkF m 16 #[.val (.int i0), .val (.int i1), .val (.int q)] [])) t → Steps p.tables e below (s₁.setTop (mkF m 0 #[.val (.int i0), .val (.int i1), .unset] [])) t := by
    by_cases h1 : (i1 &&& (1 : Int32)) = (0 : Int32)
    · refine ⟨(i0 &&& (255 : Int32)), fun t kt => ?_⟩
      show Steps p.tables e below (s₁.setTop (mkF m 0 #[.val (.int i0), .val (.int i1), .unset] [])) _
      refine XS.iloadN X0.here hx rfl (hb hby at_0) rfl ?_
      show Steps p.tables e below (s₁.setTop (mkF m 1 #[.val (.int i0), .val (.int i1), .unset] [(.int i1)])) _
      refine XS.iconst X0.here hx rfl (hb hby at_1) ?_
      show Steps p.tables e below (s₁.setTop (mkF m 2 #[.val (.int i0), .val (.int i1), .unset] [(.int (1 : Int32)), (.int i1)])) _
      refine XS.iand X0.here hx rfl (hb hby at_2) rfl ?_
      show Steps p.tables e below (s₁.setTop (mkF m 3 #[.val (.int i0), .val (.int i1), .unset] [(.int (i1 &&& (1 : Int32)))])) _
      refine XS.ifYes X0.here hx rfl (pc0 := 3) (pc' := 10) rfl (hb hby at_3) rfl ((if0 _ _).trans (teq h1).1) (by decide) (by decide) ?_
      show Steps p.tables e below (s₁.setTop (mkF m 10 #[.val (.int i0), .val (.int i1), .unset] [])) _
      refine XS.iloadN X0.here hx rfl (hb hby at_10) rfl ?_
      show Steps p.tables e below (s₁.setTop (mkF m 11 #[.val (.int i0), .val (.int i1), .unset] [(.int i0)])) _
      refine XS.sipush X0.here hx rfl (hb hby at_11) ?_
      show Steps p.tables e below (s₁.setTop (mkF m 14 #[.val (.int i0), .val (.int i1), .unset] [(.int (255 : Int32)), (.int i0)])) _
      refine XS.iand X0.here hx rfl (hb hby at_14) rfl ?_
      show Steps p.tables e below (s₁.setTop (mkF m 15 #[.val (.int i0), .val (.int i1), .unset] [(.int (i0 &&& (255 : Int32)))])) _
      refine XS.istoreN X0.here hx rfl (hb hby at_15) rfl (l' := #[.val (.int i0), .val (.int i1), .val (.int (i0 &&& (255 : Int32)))]) rfl ?_
      exact kt
    · refine ⟨i0, fun t kt => ?_⟩
      show Steps p.tables e below (s₁.setTop (mkF m 0 #[.val (.int i0), .val (.int i1), .unset] [])) _
      refine XS.iloadN X0.here hx rfl (hb hby at_0) rfl ?_
      show Steps p.tables e below (s₁.setTop (mkF m 1 #[.val (.int i0), .val (.int i1), .unset] [(.int i1)])) _
      refine XS.iconst X0.here hx rfl (hb hby at_1) ?_
      show Steps p.tables e below (s₁.setTop (mkF m 2 #[.val (.int i0), .val (.int i1), .unset] [(.int (1 : Int32)), (.int i1)])) _
      refine XS.iand X0.here hx rfl (hb hby at_2) rfl ?_
      show Steps p.tables e below (s₁.setTop (mkF m 3 #[.val (.int i0), .val (.int i1), .unset] [(.int (i1 &&& (1 : Int32)))])) _
      refine XS.ifNo X0.here hx rfl (hb hby at_3) rfl ((if0 _ _).trans (feq h1).1) ?_
      show Steps p.tables e below (s₁.setTop (mkF m 6 #[.val (.int i0), .val (.int i1), .unset] [])) _
      refine XS.iloadN X0.here hx rfl (hb hby at_6) rfl ?_
      show Steps p.tables e below (s₁.setTop (mkF m 7 #[.val (.int i0), .val (.int i1), .unset] [(.int i0)])) _
      refine XS.goto X0.here hx rfl (pc0 := 7) (pc' := 15) rfl (hb hby at_7) (by decide) (by decide) ?_
      show Steps p.tables e below (s₁.setTop (mkF m 15 #[.val (.int i0), .val (.int i1), .unset] [(.int i0)])) _
      refine XS.istoreN X0.here hx rfl (hb hby at_15) rfl (l' := #[.val (.int i0), .val (.int i1), .val (.int i0)]) rfl ?_
      exact kt
  obtain ⟨_, _, ⟨T2, L2, k2, n2⟩, -, X2, ⟨Lc2, hQ2, l2, y2, z2⟩, st2⟩ := Jvm.LawKit.callS X0 hx (y := (⟨"com/example/regelwerk/regelwerk/util/UriCharacters", "isAsciiLetterOrDigit", "(I)Z"⟩ : MethodName)) hown (mvT hZ (hw _ (List.mem_of_getElem? (i := 0) rfl))) (mvT hZ (hw _ (List.mem_of_getElem? (i := 1) rfl))) (mvT hZ (hw _ (List.mem_of_getElem? (i := 2) rfl))) (mvT hZ (hw _ (List.mem_of_getElem? (i := 3) rfl))) (by decide) (backOf (W := 0) (rm1 l Z a0 hw [] q s₁.heap n0) hZ (hw _ (List.mem_of_getElem? (i := 3) rfl)) (hw _ (List.mem_of_getElem? (i := 2) rfl)) (by decide) (by decide)) (g := (mkF m 17 #[.val (.int i0), .val (.int i1), .val (.int q)] [(.int q)])) rfl (by rw [hml]; rfl) (argsL := [(.int q)]) (rest := []) (lenOf pd_i rfl) rfl (by show 2 * 0 + _ ≤ _; exact Nat.le_of_eq rfl) (hb hby at_17) (fun _ _ => ⟨rfl, rfl, (by decide : 0 + 0 ≤ _), (by decide : 0 + 0 ≤ _)⟩)
  dsimp only [Pt.U, Pt.locs, Pt.cells, Pt.slots] at X2 l2 y2 z2 st2 hQ2
  subst l2 y2 z2
  obtain ⟨rfl, N2q, e2⟩ := hQ2
  have N2 := Fr.app (Fr.nil n0) N2q
  obtain ⟨_, _, ⟨T3, L3, k3, n3⟩, -, X3, ⟨Lc3, hQ3, l3, y3, z3⟩, st3⟩ := Jvm.LawKit.callS X2 hx (y := (⟨"com/example/regelwerk/regelwerk/util/UriCharactersIsAsciiLetterOrDigitPinLaw", "reference", "(I)Z"⟩ : MethodName)) hown (mvT hZ (hw _ (List.mem_of_getElem? (i := 4) rfl))) (mvT hZ (hw _ (List.mem_of_getElem? (i := 5) rfl))) (mvT hZ (hw _ (List.mem_of_getElem? (i := 6) rfl))) (mvT hZ (hw _ (List.mem_of_getElem? (i := 7) rfl))) (by decide) (backOf (W := 1) (rm2 l Z a0 hw [] q T2.heap n0) hZ (hw _ (List.mem_of_getElem? (i := 7) rfl)) (hw _ (List.mem_of_getElem? (i := 6) rfl)) (by decide) (by decide)) (g := (mkF m 21 #[.val (.int i0), .val (.int i1), .val (.int q)] [(.int q), (.int (own_b (own_i q)))])) rfl (by rw [hml]; rfl) (argsL := [(.int q)]) (rest := [(.int (own_b (own_i q)))]) (lenOf pd_i rfl) rfl (by show 2 * 0 + _ ≤ _; exact Nat.le_of_eq rfl) (hb hby at_21) (fun _ _ => ⟨rfl, rfl, (by decide : 0 + 0 ≤ _), (by decide : 0 + 0 ≤ _)⟩)
  dsimp only [Pt.U, Pt.locs, Pt.cells, Pt.slots] at X3 l3 y3 z3 st3 hQ3
  subst l3 y3 z3
  obtain ⟨rfl, N3q, e3⟩ := hQ3
  have N3 := Fr.app N2 N3q
  obtain ⟨fs, hr, hrun, hended, hW, hsame⟩ := X3.leave (v := some (.int (1 : Int32))) (fun h => by rw [Bd.returns] at h; cases h)
  refine ⟨_, _, pre0 _ ?_, hrun, hended, _, _, rfl, ⟨rfl, N3⟩, ⟨_, rfl⟩, hW, hsame.mono (by decide) (by decide)⟩
  · refine go _ ?_
    show Steps p.tables e below (s₁.setTop (mkF m 16 #[.val (.int i0), .val (.int i1), .val (.int q)] [])) _
    refine XS.iloadN X0.here hx rfl (hb hby at_16) rfl ?_
    show Steps p.tables e below (s₁.setTop (mkF m 17 #[.val (.int i0), .val (.int i1), .val (.int q)] [(.int q)])) _
    refine st2 _ ?_
    show Steps p.tables e below (T2.setTop (mkF m 20 #[.val (.int i0), .val (.int i1), .val (.int q)] [(.int (own_b (own_i q)))])) _
    refine XS.iloadN X2.here hx rfl (hb hby at_20) rfl ?_
    show Steps p.tables e below (T2.setTop (mkF m 21 #[.val (.int i0), .val (.int i1), .val (.int q)] [(.int q), (.int (own_b (own_i q)))])) _
    refine st3 _ ?_
    show Steps p.tables e below (T3.setTop (mkF m 24 #[.val (.int i0), .val (.int i1), .val (.int q)] [(.int (own_b (own_f q))), (.int (own_b (own_i q)))])) _
    refine XS.icmpNo X3.here hx rfl (hb hby at_24) rfl (teq (by rw [own_eq])).2 ?_
    show Steps p.tables e below (T3.setTop (mkF m 27 #[.val (.int i0), .val (.int i1), .val (.int q)] [])) _
    refine XS.iconst X3.here hx rfl (hb hby at_27) ?_
    show Steps p.tables e below (T3.setTop (mkF m 28 #[.val (.int i0), .val (.int i1), .val (.int q)] [(.int (1 : Int32))])) _
    refine XS.goto X3.here hx rfl (pc0 := 28) (pc' := 32) rfl (hb hby at_28) (by decide) (by decide) ?_
    show Steps p.tables e below (T3.setTop (mkF m 32 #[.val (.int i0), .val (.int i1), .val (.int q)] [(.int (1 : Int32))])) _
    exact retN X3 hx (t := .boolean) Bd.returns (by simp) (hb hby at_32) hr
set_option maxRecDepth 65536 in
set_option maxHeartbeats 40000000 in
theorem comes_1 {Post : Tables → Env → Array Value → State → Outcome → State → Prop} (hpost : ∀ tb e args s v u, (limb_1_1.after args s (.returned v) u = true ∧ limb_1_2.after args s (.returned v) u = true ∧ True) → FrameEnd s (.returned v) u (Jvm.fieldLocs frame_1_writes args s ++ Jvm.arrayLocs frame_1_arrays args s ++ Jvm.staticLocs frame_1_statics s) 0 0 → Post tb e args s (.returned v) u) :
    ArmFor flags0 classFile x code maxLocals ret World_1 tables_1 room_1 Calls_1 rest_1 Pre_1 Post := by
  intro l hfl _ _ p e ha hc hk s m args below hf hA hF happ hP
  obtain ⟨hcalls, hrest, hpre⟩ := hP
  obtain ⟨-, -, -, hnamed, -, -, -, hat⟩ := (Spec.applies_iff hf).mp happ
  obtain ⟨hg, hn⟩ := and_e (Cond.before_iff.mp (show (Jvm.Cond.and given_1 narrow_1).before args s = true from hpre))
  obtain ⟨g0, r0⟩ := and_e hg
  obtain ⟨q0, r1⟩ := and_e r0
  obtain ⟨w0, w1, rfl⟩ : ∃ w0 w1 : Value, args = #[w0, w1] := by
    have hs : args.size = 2 := by simpa [Cond.value, given_1] using g0
    obtain ⟨L⟩ := args
    match L, hs with
    | [w0, w1], _ => exact ⟨w0, w1, rfl⟩
  have hw := fun d (hd : d ∈ tables_1) => atoms_spec (ws := Jvm.Cond.code x code maxLocals ret :: tables_1) hat d (List.mem_cons_of_mem _ hd)
  obtain ⟨i0, ei0⟩ := is_v q0
  obtain rfl : w0 = (.int i0) := Option.some.inj ei0
  obtain ⟨i1, ei1⟩ := is_v r1
  obtain rfl : w1 = (.int i1) := Option.some.inj ei1
  obtain ⟨n, o, h1, h2, h3, _, L, rfl, ⟨rfl, N⟩, hq⟩ := rm0 l s _ hw tables_1 i0 i1 s.heap s.heap.size (Nat.le_refl _) p e ha hc hk s m _ below hf ((Spec.applies_iff_loose hf).mp happ).1 ⟨rfl, State.Warmed39.refl s, rfl⟩ trivial
  refine ⟨n, _, h1, h2, h3, hpost _ _ _ _ _ _ ⟨Cond.after_iff.mpr rfl, Cond.after_iff.mpr (eq_i res_at (Term.int_eval (1)) rfl), trivial⟩ ⟨hq.1, hq.2.1, (hq.2.2.sift fun y hy => Or.inr (N y hy)).mono (by decide) (by decide)⟩⟩
theorem main_1_1 : Claimed_1_1 := comes_1 fun _ _ _ _ _ _ h hF => ⟨h.1, hF⟩
theorem main_1_2 : Claimed_1_2 := comes_1 fun _ _ _ _ _ _ h hF => ⟨h.2.1, hF⟩
end Jvm.Pilot.@@N@@
namespace Jvm.Pilot.@@N@@
open Jvm Jvm.ClassFile Sem Op Lib Jvm.Free Jvm.Stand Jvm.Pilot.@@N@@.Jvm.D
/-! MADE BY PROGRAM (witnessworld.py) out of the Statement's table words and the real class files: 9 classes; the members and pool entries that the words name. The judged class is class 1, her method 2. -/
namespace start1
open Jvm.ClassFile
def u (s : String) : CpInfo := .utf8 (stringToUtf16 s)
/-- a pool by its gaps: so many unusable entries, then the entry; so many at the end -/
def gap : Nat → List CpInfo → List CpInfo
  | 0, r => r
  | n + 1, r => .unusable :: gap n r
def poolList (es : List (Nat × CpInfo)) (last : Nat) : List CpInfo := es.foldr (fun e r => gap e.1 (e.2 :: r)) (gap last [])
def pool (es : List (Nat × CpInfo)) (last : Nat) : Array CpInfo := ⟨poolList es last⟩
def fileOf (pool : Array CpInfo) (this : Nat) (attrs : Array Attribute := #[]) (ms : Array MethodInfo := #[]) (fl : Nat := 33) (sup : Nat := 0) (ifs : Array Nat := #[]) (fds : Array FieldInfo := #[]) : ClassFile where
  minorVersion := 0
  majorVersion := 65
  constantPool := pool
  accessFlags := fl
  thisClass := this
  superClass := sup
  interfaces := ifs
  fields := fds
  methods := ms
  attributes := attrs
def plain (name : String) (sup : Option ClassId) : Class where
  name := name
  kind := .ordinary
  loader := none
  accessFlags := 33
  super := sup
  interfaces := #[]
  cf := none
  fields := #[]
  methods := #[]
  instanceTypes := #[]
  staticTypes := #[]
  resolved := #[]
  callSites := []
  init := .initialized
  statics := none
  mirror := none

def pool0 : Array CpInfo := pool [(5, u "<init>"), (0, u "()V"), (1, .class_ 10), (1, u "java/lang/Object")] 113

def k0m0 : Method := { name := "<init>", desc := "()V", sig := { parameters := [], returnType := none }, accessFlags := 1, code := none }
/-- java/lang/Object -/
def k0 : Class := { plain "java/lang/Object" none with
  accessFlags := 33
  interfaces := #[]
  cf := some (fileOf pool0 8 #[] #[{ accessFlags := 1, nameIndex := 5, descriptorIndex := 6, attributes := #[] }] 33 0 #[] #[])
  fields := #[]
  methods := #[k0m0]
  instanceTypes := #[]
  staticTypes := #[]
  resolved := Array.replicate 124 none
  statics := none }

def pool1 : Array CpInfo := pool [(2, .class_ 4), (1, u "java/lang/Object"), (0, u "<init>"), (0, u "()V"), (0, .methodref 8 9), (0, .class_ 10), (0, .nameAndType 11 12), (0, u "com/example/regelwerk/regelwerk/util/UriCharacters"), (0, u "isAsciiLetterOrDigit"), (0, u "(I)Z"), (0, .methodref 14 15), (0, .class_ 16), (0, .nameAndType 17 12), (0, u "com/example/regelwerk/regelwerk/util/UriCharactersIsAsciiLetterOrDigitPinLaw"), (0, u "reference"), (3, u "law"), (0, u "(II)Z")] 2

def k1m0 : Method := { name := "<init>", desc := "()V", sig := { parameters := [], returnType := none }, accessFlags := 2, code := none }
def k1c1 : Code := { maxStack := 2, maxLocals := 5, code := method_2_code, exceptionTable := #[], attributes := #[] }
def k1m1 : Method := { name := "reference", desc := "(I)Z", sig := { parameters := [.int], returnType := some .boolean }, accessFlags := 10, code := some k1c1 }
def k1c2 : Code := { maxStack := 2, maxLocals := 3, code := code, exceptionTable := #[], attributes := #[] }
def k1m2 : Method := { name := "law", desc := "(II)Z", sig := { parameters := [.int, .int], returnType := some .boolean }, accessFlags := 9, code := some k1c2 }
/-- com/example/regelwerk/regelwerk/util/UriCharactersIsAsciiLetterOrDigitPinLaw -/
def k1 : Class := { plain "com/example/regelwerk/regelwerk/util/UriCharactersIsAsciiLetterOrDigitPinLaw" (some 0) with
  accessFlags := 49
  interfaces := #[]
  cf := some (fileOf pool1 14 #[] #[{ accessFlags := 2, nameIndex := 5, descriptorIndex := 6, attributes := #[] }, { accessFlags := 10, nameIndex := 17, descriptorIndex := 12, attributes := #[] }, { accessFlags := 9, nameIndex := 21, descriptorIndex := 22, attributes := #[] }] 49 2 #[] #[])
  fields := #[]
  methods := #[k1m0, k1m1, k1m2]
  instanceTypes := #[]
  staticTypes := #[]
  resolved := Array.replicate 25 none
  statics := none }

def pool2 : Array CpInfo := pool [(2, .class_ 4), (1, u "java/lang/Object"), (0, u "<init>"), (0, u "()V"), (1, .class_ 10), (1, u "com/example/regelwerk/regelwerk/util/UriCharacters"), (0, u "isAsciiLetterOrDigit"), (0, u "(I)Z"), (27, u "SUB_DELIMS"), (0, u "Ljava/lang/String;")] 8

def k2m0 : Method := { name := "<init>", desc := "()V", sig := { parameters := [], returnType := none }, accessFlags := 2, code := none }
def k2c1 : Code := { maxStack := 2, maxLocals := 1, code := prog_45_method_2_code, exceptionTable := #[], attributes := #[] }
def k2m1 : Method := { name := "isAsciiLetterOrDigit", desc := "(I)Z", sig := { parameters := [.int], returnType := some .boolean }, accessFlags := 9, code := some k2c1 }
/-- com/example/regelwerk/regelwerk/util/UriCharacters -/
def k2 : Class := { plain "com/example/regelwerk/regelwerk/util/UriCharacters" (some 0) with
  accessFlags := 49
  interfaces := #[]
  cf := some (fileOf pool2 8 #[] #[{ accessFlags := 2, nameIndex := 5, descriptorIndex := 6, attributes := #[] }, { accessFlags := 9, nameIndex := 11, descriptorIndex := 12, attributes := #[] }] 49 2 #[] #[{ accessFlags := 25, nameIndex := 40, descriptorIndex := 41, attributes := #[] }])
  fields := #[{ name := "SUB_DELIMS", type := (.object "java/lang/String"), accessFlags := 25, slot := 0, constantValue := 0 }]
  methods := #[k2m0, k2m1]
  instanceTypes := #[]
  staticTypes := #[(.object "java/lang/String")]
  resolved := Array.replicate 50 none
  statics := none }

def pool3 : Array CpInfo := pool [(1, u "java/lang/Cloneable"), (0, .class_ 1), (0, u "java/lang/Object"), (0, .class_ 3)] 3

/-- java/lang/Cloneable -/
def k3 : Class := { plain "java/lang/Cloneable" (some 0) with
  accessFlags := 1537
  interfaces := #[]
  cf := some (fileOf pool3 2 #[] #[] 1537 4 #[] #[])
  fields := #[]
  methods := #[]
  instanceTypes := #[]
  staticTypes := #[]
  resolved := Array.replicate 8 none
  statics := none }

def pool4 : Array CpInfo := pool [(1, u "java/io/Serializable"), (0, .class_ 1), (0, u "java/lang/Object"), (0, .class_ 3)] 3

/-- java/io/Serializable -/
def k4 : Class := { plain "java/io/Serializable" (some 0) with
  accessFlags := 1537
  interfaces := #[]
  cf := some (fileOf pool4 2 #[] #[] 1537 4 #[] #[])
  fields := #[]
  methods := #[]
  instanceTypes := #[]
  staticTypes := #[]
  resolved := Array.replicate 8 none
  statics := none }

/-- the primitive byte -/
def k5 : Class := { plain "byte" none with kind := .primitive 'B', accessFlags := 0x411 }
/-- [B -/
def k6 : Class := { plain "[B" (some 0) with kind := .array 5 .byte, interfaces := #[3, 4], accessFlags := 1041 }

/-- the primitive int -/
def k7 : Class := { plain "int" none with kind := .primitive 'I', accessFlags := 0x411 }
/-- [I -/
def k8 : Class := { plain "[I" (some 0) with kind := .array 7 .int, interfaces := #[3, 4], accessFlags := 1041 }

def heap : Heap := #[]
def classes : Array Class := #[k0, k1, k2, k3, k4, k5, k6, k7, k8]
def interned : List (Array UInt16 × Addr) := []
def slotsUsed : Nat := 0
def theMethod : MethodId := ⟨1, 2⟩
def args0 : Array Value := #[.int 87, .int 63]
def aboutOver (below : List Frame) : State where
  vm := { classes := classes, interned := interned.toArray }
  heap := heap
  slotsUsed := slotsUsed
  threads := #[{ frames := .invoking theMethod args0 :: below }]
def below0 : List Frame := [.native { method := ⟨0, 0⟩, args := #[] }]
def about1 : State := aboutOver below0
def p0 : Program := .bare "" "" ""
def e0 : Env := launch0.env 0 0 0
theorem w_frames : about1.frames = Frame.invoking theMethod args0 :: below0 := rfl
set_option maxRecDepth 65536 in
theorem w_args : argsFit about1.vm theMethod args0 = true := by decide +kernel
set_option maxRecDepth 65536 in
theorem w_heap : heapFits about1 = true := by decide +kernel
set_option maxRecDepth 65536 in
theorem w_runnable : about1.curStatus? = some .runnable := by decide +kernel
set_option maxRecDepth 65536 in
theorem w_alone : about1.alone = true := by decide +kernel
set_option maxRecDepth 65536 in
theorem w_named : about1.methodNamed? x = some theMethod := by decide +kernel
set_option maxRecDepth 65536 in
theorem w_hears : about1.hears theMethod below0 = true := by decide +kernel
set_option maxRecDepth 65536 in
theorem w_ripe : about1.ripe theMethod args0 below0 = true := by decide +kernel
theorem w_running : about1.status = .running := rfl
set_option maxRecDepth 65536 in
theorem w_room : about1.hasRoom e0.platform room_1 = true :=
  launch0.hasRoom_least _ room_1 (by decide +kernel) (by decide +kernel) (by decide +kernel) (by decide +kernel) (by decide +kernel) (by decide +kernel)
theorem allAtoms_all (ts : List Jvm.Cond) (a : Array Jvm.Value) (st : Jvm.State) : (allAtoms ts).before a st = ts.all (fun c => c.before a st) := by
  induction ts with
  | nil => rfl
  | cons c t ih =>
    show (Jvm.Cond.and c (allAtoms t)).before a st = _
    rw [Jvm.Cond.before_and, ih, List.all_cons]
def words1 : List Jvm.Cond := Jvm.Cond.code x code maxLocals ret :: tables_1
/-- a 'code' word, met by the world's own term for the bytes: nothing is compared byte by byte -/
theorem code_word {y : MethodName} {bytes : ByteArray} {mx : Nat} {rt : Option FieldType} {a : Array Value} {s : State} {m : MethodId} {meth : Method} {c : Code} (h1 : s.methodNamed? y = some m) (h2 : s.vm.method? m = some meth) (h3 : meth.code = some c) (h4 : c.code = bytes)
    (h5 : (c.maxLocals == mx && c.exceptionTable.isEmpty && decide (c.maxStack ≤ mostOperands) && decide (meth.sig.returnType = rt) && !meth.locks && decide (parseMethodDescriptor y.desc = some meth.sig)) = true) : (Jvm.Cond.code y bytes mx rt).before a s = true := by
  simp only [Bool.and_eq_true, beq_iff_eq, Bool.not_eq_true', decide_eq_true_eq] at h5
  obtain ⟨⟨⟨⟨⟨g1, g2⟩, g3⟩, g4⟩, g5⟩, g6⟩ := h5
  simp [Cond.before, Cond.holds, Cond.value, h1, h2, h3, h4, g1, g2, g3, g4, g5, g6]
def isCode : Jvm.Cond → Bool
  | .code _ _ _ _ => true
  | _ => false
theorem all_split {L : List Jvm.Cond} {P : Jvm.Cond → Bool} (h1 : L.all (fun c => isCode c || P c) = true) (h2 : ∀ c ∈ L.filter isCode, P c = true) : L.all P = true := by
  refine List.all_eq_true.mpr fun c hc => ?_
  have h := List.all_eq_true.mp h1 c hc
  rcases Bool.eq_false_or_eq_true (isCode c) with hi | hi
  · exact h2 c (List.mem_filter.mpr ⟨hc, hi⟩)
  · simpa [hi] using h
set_option maxRecDepth 65536 in
theorem w_c0 : (Jvm.Cond.code x code maxLocals ret).before args0 about1 = true := code_word (m := ⟨1, 2⟩) (meth := k1m2) (c := k1c2) (by decide +kernel) rfl rfl rfl (by decide +kernel)
set_option maxRecDepth 65536 in
theorem w_c1 : (Jvm.Cond.code ({ cls := "com/example/regelwerk/regelwerk/util/UriCharacters", name := "isAsciiLetterOrDigit", desc := "(I)Z" } : Jvm.MethodName) prog_45_method_2_code (1 : Nat) (Option.some Jvm.ClassFile.FieldType.boolean)).before args0 about1 = true := code_word (m := ⟨2, 1⟩) (meth := k2m1) (c := k2c1) (by decide +kernel) rfl rfl rfl (by decide +kernel)
set_option maxRecDepth 65536 in
theorem w_c2 : (Jvm.Cond.code ({ cls := "com/example/regelwerk/regelwerk/util/UriCharactersIsAsciiLetterOrDigitPinLaw", name := "reference", desc := "(I)Z" } : Jvm.MethodName) method_2_code (5 : Nat) (Option.some Jvm.ClassFile.FieldType.boolean)).before args0 about1 = true := code_word (m := ⟨1, 1⟩) (meth := k1m1) (c := k1c1) (by decide +kernel) rfl rfl rfl (by decide +kernel)
def codes1 : List Jvm.Cond := [Jvm.Cond.code x code maxLocals ret, Jvm.Cond.code ({ cls := "com/example/regelwerk/regelwerk/util/UriCharacters", name := "isAsciiLetterOrDigit", desc := "(I)Z" } : Jvm.MethodName) prog_45_method_2_code (1 : Nat) (Option.some Jvm.ClassFile.FieldType.boolean), Jvm.Cond.code ({ cls := "com/example/regelwerk/regelwerk/util/UriCharactersIsAsciiLetterOrDigitPinLaw", name := "reference", desc := "(I)Z" } : Jvm.MethodName) method_2_code (5 : Nat) (Option.some Jvm.ClassFile.FieldType.boolean)]
set_option maxRecDepth 65536 in
theorem codes_eq : words1.filter isCode = codes1 := rfl
theorem w_codes : ∀ c ∈ words1.filter isCode, c.before args0 about1 = true := by
  rw [codes_eq]
  intro c hc
  simp only [codes1, List.mem_cons, List.not_mem_nil, or_false] at hc
  rcases hc with rfl | rfl | rfl
  · exact w_c0
  · exact w_c1
  · exact w_c2
set_option maxRecDepth 65536 in
theorem w_t1 : words1.all (fun c => isCode c || c.before args0 about1) = true := by decide +kernel
theorem w_tables : (allAtoms (Jvm.Cond.code x code maxLocals ret :: tables_1)).before args0 about1 = true := by
  rw [allAtoms_all]
  show words1.all (fun c => c.before args0 about1) = true
  refine all_split ?_ w_codes
  rw [w_t1]
set_option maxRecDepth 65536 in
theorem w_case : (Jvm.Cond.and given_1 narrow_1).before args0 about1 = true := by decide +kernel
theorem w_applies : (headSpec (Jvm.Cond.code x code maxLocals ret :: tables_1) room_1).applies x e0.platform about1 = true :=
  (Spec.applies_iff w_frames).mpr ⟨w_running, w_runnable, w_alone, w_named, w_hears, w_ripe, w_room, w_tables⟩
theorem atStart : AtStart classFile x code maxLocals ret World_1 tables_1 room_1 Calls_1 rest_1 Pre_1 launch0 p0 e0 about1 theMethod args0 below0 :=
  ⟨lists_1, trivial, launch0.admits_env _ _ _, launch0.least_env, fairChoices_fair.cas, fairChoices_fair.clock, w_frames, w_args, w_heap, w_applies, trivial, trivial, w_case⟩
end start1
theorem witness_1 : WitnessClaimed_1 := ⟨start1.p0, start1.e0, start1.about1, start1.theMethod, start1.args0, start1.below0, start1.atStart⟩
end Jvm.Pilot.@@N@@

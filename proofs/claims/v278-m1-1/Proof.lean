import JvmDerived
import JvmDerived.Pilot.@@N@@Statement
import JvmDerived.Pilot.@@N@@Code
set_option linter.unusedVariables false
set_option linter.unusedSimpArgs false
namespace Jvm.RoadKit
open Sem ClassFile Op Lib Jvm.Stand Jvm.Free Jvm.LawKit
section New
variable {p : Program} {l : Launch} {e : Env} {R : Room} {s : State} {m : MethodId} {args : Array Value} {below : List Frame} {meth : Method} {c : Code} {T : State} {locs : List Loc} {cells slots : Nat}
theorem retI (X : Stand p l e R s m args below meth c T locs cells slots) (hx : p.tables.exec = Jvm.exec) {pc : Nat} {Ls : Array Slot} {z : Int32} {rest : List Value} (hret : meth.sig.returnType = some .int) (hd : decode c.code pc = .ok (.ireturn, 1)) {fs : List Frame}
    (hl : ∀ (f : JFrame) (acts : List Action), f.method = m → f.locked = none → f.entered = [] → (doReturn e (T.setTop f) acts (some (.int z))).1 = T.setFrames fs) : Steps p.tables e below (T.setTop (mkF m pc Ls (.int z :: rest))) (T.setFrames fs) := by
  have hm' : T.vm.method? m = some meth := X.method'
  have hn : narrow .int (.int z) = .int z := rfl
  show Steps p.tables e below (T.setTop { method := m, pc := pc, locals := Ls, stack := _ :: rest, locked := none }) _
  jvm_step X.here [X.here.top, hx, hd, hm', hret, hn]
  first | (intro acts; rw [hl _ acts rfl rfl rfl]) | rw [hl _ _ rfl rfl rfl]
  exact Steps.refl _
end New
end Jvm.RoadKit
namespace Jvm.Pilot.@@N@@
open Jvm Jvm.ClassFile Sem Op Lib Jvm.Free Jvm.Stand Jvm.LawKit Jvm.RoadKit Bundle Jvm.Pilot.@@N@@.Jvm.D
theorem d1_0 : decode prog_22_method_3_code 0 = .ok (.iload_n 2, 1) := by decide +kernel
theorem d1_1 : decode prog_22_method_3_code 1 = .ok (.iload_n 1, 1) := by decide +kernel
theorem d1_2 : decode prog_22_method_3_code 2 = .ok (.if_icmp .le 15, 3) := by decide +kernel
theorem d1_5 : decode prog_22_method_3_code 5 = .ok (.iload_n 2, 1) := by decide +kernel
theorem d1_6 : decode prog_22_method_3_code 6 = .ok (.iload_n 1, 1) := by decide +kernel
theorem d1_7 : decode prog_22_method_3_code 7 = .ok (.isub, 1) := by decide +kernel
theorem d1_8 : decode prog_22_method_3_code 8 = .ok (.bipush 64, 2) := by decide +kernel
theorem d1_10 : decode prog_22_method_3_code 10 = .ok (.if_icmp .gt 7, 3) := by decide +kernel
theorem d1_13 : decode prog_22_method_3_code 13 = .ok (.iconst 1, 1) := by decide +kernel
theorem d1_14 : decode prog_22_method_3_code 14 = .ok (.goto 4, 3) := by decide +kernel
theorem d1_17 : decode prog_22_method_3_code 17 = .ok (.iconst 0, 1) := by decide +kernel
theorem d1_18 : decode prog_22_method_3_code 18 = .ok (.istore_n 3, 1) := by decide +kernel
theorem d1_19 : decode prog_22_method_3_code 19 = .ok (.iload_n 1, 1) := by decide +kernel
theorem d1_20 : decode prog_22_method_3_code 20 = .ok (.istore 4, 2) := by decide +kernel
theorem d1_22 : decode prog_22_method_3_code 22 = .ok (.iload_n 3, 1) := by decide +kernel
theorem d1_23 : decode prog_22_method_3_code 23 = .ok (.ifCond .eq 90, 3) := by decide +kernel
theorem d1_26 : decode prog_22_method_3_code 26 = .ok (.iload 4, 2) := by decide +kernel
theorem d1_28 : decode prog_22_method_3_code 28 = .ok (.iload_n 2, 1) := by decide +kernel
theorem d1_29 : decode prog_22_method_3_code 29 = .ok (.if_icmp .ge 84, 3) := by decide +kernel
theorem d1_32 : decode prog_22_method_3_code 32 = .ok (.aload_n 0, 1) := by decide +kernel
theorem d1_33 : decode prog_22_method_3_code 33 = .ok (.iload 4, 2) := by decide +kernel
theorem d1_35 : decode prog_22_method_3_code 35 = .ok (.baload, 1) := by decide +kernel
theorem d1_36 : decode prog_22_method_3_code 36 = .ok (.istore 5, 2) := by decide +kernel
theorem d1_38 : decode prog_22_method_3_code 38 = .ok (.iload 5, 2) := by decide +kernel
theorem d1_40 : decode prog_22_method_3_code 40 = .ok (.bipush 97, 2) := by decide +kernel
theorem d1_42 : decode prog_22_method_3_code 42 = .ok (.if_icmp .lt 10, 3) := by decide +kernel
theorem d1_45 : decode prog_22_method_3_code 45 = .ok (.iload 5, 2) := by decide +kernel
theorem d1_47 : decode prog_22_method_3_code 47 = .ok (.bipush 122, 2) := by decide +kernel
theorem d1_49 : decode prog_22_method_3_code 49 = .ok (.if_icmp .le 52, 3) := by decide +kernel
theorem d1_52 : decode prog_22_method_3_code 52 = .ok (.iload 5, 2) := by decide +kernel
theorem d1_54 : decode prog_22_method_3_code 54 = .ok (.bipush 65, 2) := by decide +kernel
theorem d1_56 : decode prog_22_method_3_code 56 = .ok (.if_icmp .lt 10, 3) := by decide +kernel
theorem d1_59 : decode prog_22_method_3_code 59 = .ok (.iload 5, 2) := by decide +kernel
theorem d1_61 : decode prog_22_method_3_code 61 = .ok (.bipush 90, 2) := by decide +kernel
theorem d1_63 : decode prog_22_method_3_code 63 = .ok (.if_icmp .le 38, 3) := by decide +kernel
theorem d1_66 : decode prog_22_method_3_code 66 = .ok (.iload 5, 2) := by decide +kernel
theorem d1_68 : decode prog_22_method_3_code 68 = .ok (.bipush 48, 2) := by decide +kernel
theorem d1_70 : decode prog_22_method_3_code 70 = .ok (.if_icmp .lt 10, 3) := by decide +kernel
theorem d1_73 : decode prog_22_method_3_code 73 = .ok (.iload 5, 2) := by decide +kernel
theorem d1_75 : decode prog_22_method_3_code 75 = .ok (.bipush 57, 2) := by decide +kernel
theorem d1_77 : decode prog_22_method_3_code 77 = .ok (.if_icmp .le 24, 3) := by decide +kernel
theorem d1_80 : decode prog_22_method_3_code 80 = .ok (.iload 5, 2) := by decide +kernel
theorem d1_82 : decode prog_22_method_3_code 82 = .ok (.bipush 95, 2) := by decide +kernel
theorem d1_84 : decode prog_22_method_3_code 84 = .ok (.if_icmp .eq 17, 3) := by decide +kernel
theorem d1_87 : decode prog_22_method_3_code 87 = .ok (.iload 5, 2) := by decide +kernel
theorem d1_89 : decode prog_22_method_3_code 89 = .ok (.bipush 46, 2) := by decide +kernel
theorem d1_91 : decode prog_22_method_3_code 91 = .ok (.if_icmp .eq 10, 3) := by decide +kernel
theorem d1_94 : decode prog_22_method_3_code 94 = .ok (.iload 5, 2) := by decide +kernel
theorem d1_96 : decode prog_22_method_3_code 96 = .ok (.bipush 45, 2) := by decide +kernel
theorem d1_98 : decode prog_22_method_3_code 98 = .ok (.if_icmp .ne 7, 3) := by decide +kernel
theorem d1_101 : decode prog_22_method_3_code 101 = .ok (.iconst 1, 1) := by decide +kernel
theorem d1_102 : decode prog_22_method_3_code 102 = .ok (.goto 4, 3) := by decide +kernel
theorem d1_105 : decode prog_22_method_3_code 105 = .ok (.iconst 0, 1) := by decide +kernel
theorem d1_106 : decode prog_22_method_3_code 106 = .ok (.istore_n 3, 1) := by decide +kernel
theorem d1_107 : decode prog_22_method_3_code 107 = .ok (.iinc 4 1, 3) := by decide +kernel
theorem d1_110 : decode prog_22_method_3_code 110 = .ok (.goto (-88), 3) := by decide +kernel
theorem d1_113 : decode prog_22_method_3_code 113 = .ok (.iload_n 3, 1) := by decide +kernel
theorem d1_114 : decode prog_22_method_3_code 114 = .ok (.ireturn, 1) := by decide +kernel
theorem d2_0 : decode method_3_code 0 = .ok (.iload_n 1, 1) := by decide +kernel
theorem d2_1 : decode method_3_code 1 = .ok (.iload_n 2, 1) := by decide +kernel
theorem d2_2 : decode method_3_code 2 = .ok (.if_icmp .lt 8, 3) := by decide +kernel
theorem d2_5 : decode method_3_code 5 = .ok (.iload_n 1, 1) := by decide +kernel
theorem d2_6 : decode method_3_code 6 = .ok (.iload_n 3, 1) := by decide +kernel
theorem d2_7 : decode method_3_code 7 = .ok (.if_icmp .lt 5, 3) := by decide +kernel
theorem d2_10 : decode method_3_code 10 = .ok (.iconst 1, 1) := by decide +kernel
theorem d2_11 : decode method_3_code 11 = .ok (.ireturn, 1) := by decide +kernel
theorem d2_12 : decode method_3_code 12 = .ok (.iload_n 0, 1) := by decide +kernel
theorem d2_13 : decode method_3_code 13 = .ok (.invokestatic 20, 3) := by decide +kernel
theorem d2_16 : decode method_3_code 16 = .ok (.ireturn, 1) := by decide +kernel
theorem d3_0 : decode method_4_code 0 = .ok (.iload_n 0, 1) := by decide +kernel
theorem d3_1 : decode method_4_code 1 = .ok (.bipush 97, 2) := by decide +kernel
theorem d3_3 : decode method_4_code 3 = .ok (.if_icmp .lt 11, 3) := by decide +kernel
theorem d3_6 : decode method_4_code 6 = .ok (.iload_n 0, 1) := by decide +kernel
theorem d3_7 : decode method_4_code 7 = .ok (.bipush 122, 2) := by decide +kernel
theorem d3_9 : decode method_4_code 9 = .ok (.if_icmp .gt 5, 3) := by decide +kernel
theorem d3_12 : decode method_4_code 12 = .ok (.iconst 1, 1) := by decide +kernel
theorem d3_13 : decode method_4_code 13 = .ok (.ireturn, 1) := by decide +kernel
theorem d3_14 : decode method_4_code 14 = .ok (.iload_n 0, 1) := by decide +kernel
theorem d3_15 : decode method_4_code 15 = .ok (.bipush 65, 2) := by decide +kernel
theorem d3_17 : decode method_4_code 17 = .ok (.if_icmp .lt 11, 3) := by decide +kernel
theorem d3_20 : decode method_4_code 20 = .ok (.iload_n 0, 1) := by decide +kernel
theorem d3_21 : decode method_4_code 21 = .ok (.bipush 90, 2) := by decide +kernel
theorem d3_23 : decode method_4_code 23 = .ok (.if_icmp .gt 5, 3) := by decide +kernel
theorem d3_26 : decode method_4_code 26 = .ok (.iconst 1, 1) := by decide +kernel
theorem d3_27 : decode method_4_code 27 = .ok (.ireturn, 1) := by decide +kernel
theorem d3_28 : decode method_4_code 28 = .ok (.iload_n 0, 1) := by decide +kernel
theorem d3_29 : decode method_4_code 29 = .ok (.bipush 48, 2) := by decide +kernel
theorem d3_31 : decode method_4_code 31 = .ok (.if_icmp .lt 11, 3) := by decide +kernel
theorem d3_34 : decode method_4_code 34 = .ok (.iload_n 0, 1) := by decide +kernel
theorem d3_35 : decode method_4_code 35 = .ok (.bipush 57, 2) := by decide +kernel
theorem d3_37 : decode method_4_code 37 = .ok (.if_icmp .gt 5, 3) := by decide +kernel
theorem d3_40 : decode method_4_code 40 = .ok (.iconst 1, 1) := by decide +kernel
theorem d3_41 : decode method_4_code 41 = .ok (.ireturn, 1) := by decide +kernel
theorem d3_42 : decode method_4_code 42 = .ok (.iload_n 0, 1) := by decide +kernel
theorem d3_43 : decode method_4_code 43 = .ok (.bipush 95, 2) := by decide +kernel
theorem d3_45 : decode method_4_code 45 = .ok (.if_icmp .eq 15, 3) := by decide +kernel
theorem d3_48 : decode method_4_code 48 = .ok (.iload_n 0, 1) := by decide +kernel
theorem d3_49 : decode method_4_code 49 = .ok (.bipush 46, 2) := by decide +kernel
theorem d3_51 : decode method_4_code 51 = .ok (.if_icmp .eq 9, 3) := by decide +kernel
theorem d3_54 : decode method_4_code 54 = .ok (.iload_n 0, 1) := by decide +kernel
theorem d3_55 : decode method_4_code 55 = .ok (.bipush 45, 2) := by decide +kernel
theorem d3_57 : decode method_4_code 57 = .ok (.if_icmp .ne 7, 3) := by decide +kernel
theorem d3_60 : decode method_4_code 60 = .ok (.iconst 1, 1) := by decide +kernel
theorem d3_61 : decode method_4_code 61 = .ok (.goto 4, 3) := by decide +kernel
theorem d3_64 : decode method_4_code 64 = .ok (.iconst 0, 1) := by decide +kernel
theorem d3_65 : decode method_4_code 65 = .ok (.ireturn, 1) := by decide +kernel
theorem pn_1 : plainName "com/example/lattis/lattis/Names" = true := by first | (simp [plainName, overriddenIn]; done) | decide +kernel
theorem pn_0 : plainName "com/example/lattis/lattis/NamesIsNamePinLaw" = true := by first | (simp [plainName, overriddenIn]; done) | decide +kernel
theorem pd_n : parseMethodDescriptor "([BII)Z" = some ⟨[.array .byte, .int, .int], some .boolean⟩ := by decide +kernel
theorem pd_g : parseMethodDescriptor "(BIII)Z" = some ⟨[.byte, .int, .int, .int], some .boolean⟩ := by decide +kernel
theorem pd_o : parseMethodDescriptor "(I)Z" = some ⟨[.int], some .boolean⟩ := by decide +kernel
theorem ef_1 (m : MethodId) (x0 : Addr) (x1 x2 : Int32) : entryFrame m #[(.ref x0), (.int x1), (.int x2)] 6 = mkF m 0 #[.val (.ref x0), .val (.int x1), .val (.int x2), .unset, .unset, .unset] [] := by first | (simp [entryFrame, mkF, argsToLocals, Value.category]; done) | rfl
theorem ef_2 (m : MethodId) (x0 x1 x2 x3 : Int32) : entryFrame m #[(.int x0), (.int x1), (.int x2), (.int x3)] 4 = mkF m 0 #[.val (.int x0), .val (.int x1), .val (.int x2), .val (.int x3)] [] := by first | (simp [entryFrame, mkF, argsToLocals, Value.category]; done) | rfl
theorem ef_3 (m : MethodId) (x0 : Int32) : entryFrame m #[(.int x0)] 1 = mkF m 0 #[.val (.int x0)] [] := by first | (simp [entryFrame, mkF, argsToLocals, Value.category]; done) | rfl
theorem ef_0 (m : MethodId) (x0 x1 x2 x3 : Int32) : entryFrame m #[(.int x0), (.int x1), (.int x2), (.int x3)] 10 = mkF m 0 #[.val (.int x0), .val (.int x1), .val (.int x2), .val (.int x3), .unset, .unset, .unset, .unset, .unset, .unset] [] := by first | (simp [entryFrame, mkF, argsToLocals, Value.category]; done) | rfl
/-! byte arrays: length n, place j holds f j -/
def own_upd (f : Nat → Int32) (j : Nat) (x : Int32) : Nat → Int32 := fun i => if i = j then x else f i
def By (Z : State) (h : Heap) (a : Addr) (n : Nat) (f : Nat → Int32) : Prop := ∃ c : Cell, Arr Z h a c .byte ∧ c.slots.size = n ∧ (∀ j, j < n → c.slots[j]? = some (.int (f j))) ∧ ∀ j, j < n → fits .byte (.int (f j)) = true
section Bytes
variable {p : Program} {l : Launch} {e : Env} {R : Room} {s : State} {m : MethodId} {args : Array Value} {below : List Frame} {meth : Method} {c : Code} {T : State} {locs : List Loc} {cells slots : Nat} {Z : State} {h h' : Heap} {a b : Addr} {n : Nat} {f : Nat → Int32}
theorem By.lt (B : By Z h a n f) : a < h.size := by obtain ⟨c, A, -⟩ := B; exact A.lt
theorem By.ext (B : By Z h a n f) (E : Ext h h') : By Z h' a n f := by obtain ⟨c, A, r⟩ := B; exact ⟨c, A.ext E, r⟩
theorem By.other {sl : Nat} {v : Value} (B : By Z h b n f) (W : Wr h h' a sl v) (q : b ≠ a) : By Z h' b n f := by obtain ⟨c, A, r⟩ := B; exact ⟨c, A.other W q, r⟩
theorem By.set {j : Nat} {x : Int32} (B : By Z h a n f) (W : Wr h h' a j (.int x)) (hx : fits .byte (.int x) = true) : By Z h' a n (own_upd f j x) := by
  obtain ⟨c, A, S, H, G⟩ := B
  refine ⟨c.setSlot j (.int x), A.same W, by rw [sz_set]; exact S, fun i hi => ?_, fun i hi => ?_⟩
  · by_cases q : i = j
    · subst q; simp [Cell.setSlot, own_upd, S, hi]
    · simp only [Cell.setSlot, own_upd, if_neg q]
      rw [Array.getElem?_setIfInBounds_ne (fun u => q u.symm)]; exact H i hi
  · by_cases q : i = j
    · simp only [own_upd, if_pos q]; exact hx
    · simp only [own_upd, if_neg q]; exact G i hi
theorem By.new {k : ClassId} {z : Int32} (A : Arr Z h a (newA k .byte z) .byte) : By Z h a z.toNatClampNeg (fun _ => 0) :=
  ⟨_, A, sz_new _ _ _, fun j hj => by simp [newA, hj, defaultValue], fun j hj => (by decide : fits .byte (.int (0 : Int32)) = true)⟩
theorem stBy (X : Stand p l e R s m args below meth c T locs cells slots) (hx : p.tables.exec = Jvm.exec) (hZ : Z.Warmed39 s.vm) (B : By Z T.heap a n f) {j x : Int32} (hj : ¬ j < 0) (hjn : j.toNatClampNeg < n) {g : JFrame} (hg : g.method = m) {rest : List Value} (hs : g.stack = .int x :: .int j :: .ref a :: rest) (hd : decode c.code g.pc = .ok (.bastore, 1)) :
    ∃ T', Stand p l e R s m args below meth c T' (locs ++ [⟨a, j.toNatClampNeg⟩]) cells slots ∧ By Z T'.heap a n (own_upd f j.toNatClampNeg x.toInt8.toInt32) ∧ (∃ v, Wr T.heap T'.heap a j.toNatClampNeg v) ∧ ∀ target, Steps p.tables e below (T'.setTop { g with pc := g.pc + 1, stack := rest }) target → Steps p.tables e below (T.setTop g) target := by
  obtain ⟨cl, A, S, H, G⟩ := id B
  obtain ⟨T', h', X', e', W', st⟩ := stB X hx hZ rfl A (j := j) (x := x) (fun q => q.elim hj (fun q => by omega)) hg hs hd
  subst e'
  exact ⟨T', X', B.set W' (fits_nar_byte x), ⟨_, W'⟩, st⟩
theorem ldBy (X : Stand p l e R s m args below meth c T locs cells slots) (hx : p.tables.exec = Jvm.exec) (hZ : Z.Warmed39 s.vm) (B : By Z T.heap a n f) {j : Int32} (hj : ¬ j < 0) (hjn : j.toNatClampNeg < n) {g : JFrame} (hg : g.method = m) {rest : List Value} (hs : g.stack = .int j :: .ref a :: rest) (hd : decode c.code g.pc = .ok (.baload, 1)) {target : State}
    (k : Steps p.tables e below (T.setTop { g with pc := g.pc + 1, stack := .int (f j.toNatClampNeg) :: rest }) target) : Steps p.tables e below (T.setTop g) target := by
  obtain ⟨cl, A, S, H, G⟩ := B
  exact X.baloadBytes hx (j := j) (v := .int (f j.toNatClampNeg)) A.1 (State.isArrayOf_alike hZ.alike A.2.1) A.2.2 (fun q => q.elim hj (fun q => by omega)) (H _ hjn) hg hs hd _ k
theorem lnBy (X : Stand p l e R s m args below meth c T locs cells slots) (hx : p.tables.exec = Jvm.exec) (hZ : Z.Warmed39 s.vm) (B : By Z T.heap a n f) {N : Int32} (hN : n.toInt32 = N) {g : JFrame} (hg : g.method = m) {rest : List Value} (hs : g.stack = .ref a :: rest) (hd : decode c.code g.pc = .ok (.arraylength, 1)) {target : State}
    (k : Steps p.tables e below (T.setTop { g with pc := g.pc + 1, stack := .int N :: rest }) target) : Steps p.tables e below (T.setTop g) target := by
  obtain ⟨cl, A, S, H, G⟩ := B
  refine X.arraylength hx (cell := cl) A.1 (State.isArrayOf_alike hZ.alike A.2.1) hg hs hd _ ?_
  rw [S, hN]; exact k
end Bytes
/-! what the methods compute -/
def own_k (c : Int32) : Bool := (!decide (c < 97) && !decide (122 < c)) || (!decide (c < 65) && !decide (90 < c)) || (!decide (c < 48) && !decide (57 < c)) || decide (c = 95) || decide (c = 46) || decide (c = 45)
def own_b (b : Bool) : Int32 := if b = true then 1 else 0
theorem own_bn (b : Bool) : nar .boolean (own_b b) = own_b b := by cases b <;> rfl
def own_g (c p fr to : Int32) : Bool := decide (p < fr) || (!decide (p < to) || own_k c)
def own_all (f : Nat → Int32) : Nat → Nat → Bool
  | _, 0 => true
  | i, k + 1 => own_k (f i) && own_all f (i + 1) k
def own_name (f : Nat → Int32) (F T : Nat) : Bool := decide (F < T) && (decide (T - F ≤ 64) && own_all f F (T - F))
theorem own_lt {i n : Nat} (h : i < n) (hn : n ≤ 68) : Int32.ofNat i < Int32.ofNat n := by
  rw [Int32.lt_iff_toInt_lt, Int32.toInt_ofNat_of_lt (by omega), Int32.toInt_ofNat_of_lt (by omega)]
  omega
theorem own_nlt {i n : Nat} (h : n ≤ i) (hi : i ≤ 68) : ¬ Int32.ofNat i < Int32.ofNat n := by
  rw [Int32.lt_iff_toInt_lt, Int32.toInt_ofNat_of_lt (by omega), Int32.toInt_ofNat_of_lt (by omega)]
  omega
theorem own_nn {n : Nat} (hn : n ≤ 68) : ¬ Int32.ofNat n < 0 := by
  rw [Int32.lt_iff_toInt_lt, Int32.toInt_ofNat_of_lt (by omega), show (0 : Int32).toInt = 0 from rfl]
  omega
theorem own_n32 {n : Nat} (hn : n ≤ 68) : (Int32.ofNat n).toNatClampNeg = n := by
  rw [Int32.toNatClampNeg, Int32.toInt_ofNat_of_lt (by omega)]; rfl
theorem own_one (i : Nat) : Int32.ofNat i + (1 : Int32) = Int32.ofNat (i + 1) := (Int32.ofNat_add i 1).symm
theorem own_sub {F T : Nat} (hF : F ≤ 68) (hT : T ≤ 68) : (Int32.ofNat T - Int32.ofNat F).toInt = (T : Int) - F := by
  rw [Int32.toInt_sub, Int32.toInt_ofNat_of_lt (by omega), Int32.toInt_ofNat_of_lt (by omega)]
  exact Int.bmod_eq_of_le (by omega) (by omega)
theorem ok1a {p : Program} {l : Launch} {e : Env} {R : Room} {s : State} {m : MethodId} {args : Array Value} {below : List Frame} {meth : Method} {c : Code} {T : State} {locs : List Loc} {cells slots : Nat} (q : Int32) (X : Stand p l e R s m args below meth c T locs cells slots) (hx : p.tables.exec = Jvm.exec) (hby : c.code = method_4_code) (h : q < (97 : Int32)) {target : State} (kt : Steps p.tables e below (T.setTop (mkF m 14 #[.val (.int q)] [])) target) : Steps p.tables e below (T.setTop (mkF m 0 #[.val (.int q)] [])) target := by
  show Steps p.tables e below (T.setTop (mkF m 0 #[.val (.int q)] [])) _
  refine XS.iloadN X.here hx rfl (hb hby d3_0) rfl ?_
  show Steps p.tables e below (T.setTop (mkF m 1 #[.val (.int q)] [(.int q)])) _
  refine XS.bipush X.here hx rfl (hb hby d3_1) ?_
  show Steps p.tables e below (T.setTop (mkF m 3 #[.val (.int q)] [(.int (97 : Int32)), (.int q)])) _
  refine XS.icmpYes X.here hx rfl (pc0 := 3) (pc' := 14) rfl (hb hby d3_3) rfl (tlt h).1 (by decide) (by decide) ?_
  exact kt
theorem ok1b {p : Program} {l : Launch} {e : Env} {R : Room} {s : State} {m : MethodId} {args : Array Value} {below : List Frame} {meth : Method} {c : Code} {T : State} {locs : List Loc} {cells slots : Nat} (q : Int32) (X : Stand p l e R s m args below meth c T locs cells slots) (hx : p.tables.exec = Jvm.exec) (hby : c.code = method_4_code) (h : ¬ q < (97 : Int32)) (h2 : (122 : Int32) < q) {target : State} (kt : Steps p.tables e below (T.setTop (mkF m 14 #[.val (.int q)] [])) target) : Steps p.tables e below (T.setTop (mkF m 0 #[.val (.int q)] [])) target := by
  show Steps p.tables e below (T.setTop (mkF m 0 #[.val (.int q)] [])) _
  refine XS.iloadN X.here hx rfl (hb hby d3_0) rfl ?_
  show Steps p.tables e below (T.setTop (mkF m 1 #[.val (.int q)] [(.int q)])) _
  refine XS.bipush X.here hx rfl (hb hby d3_1) ?_
  show Steps p.tables e below (T.setTop (mkF m 3 #[.val (.int q)] [(.int (97 : Int32)), (.int q)])) _
  refine XS.icmpNo X.here hx rfl (hb hby d3_3) rfl (flt h).1 ?_
  show Steps p.tables e below (T.setTop (mkF m 6 #[.val (.int q)] [])) _
  refine XS.iloadN X.here hx rfl (hb hby d3_6) rfl ?_
  show Steps p.tables e below (T.setTop (mkF m 7 #[.val (.int q)] [(.int q)])) _
  refine XS.bipush X.here hx rfl (hb hby d3_7) ?_
  show Steps p.tables e below (T.setTop (mkF m 9 #[.val (.int q)] [(.int (122 : Int32)), (.int q)])) _
  refine XS.icmpYes X.here hx rfl (pc0 := 9) (pc' := 14) rfl (hb hby d3_9) rfl (tlt h2).2.2.1 (by decide) (by decide) ?_
  exact kt
theorem ok1c {p : Program} {l : Launch} {e : Env} {R : Room} {s : State} {m : MethodId} {args : Array Value} {below : List Frame} {meth : Method} {c : Code} {T : State} {locs : List Loc} {cells slots : Nat} (q : Int32) (X : Stand p l e R s m args below meth c T locs cells slots) (hx : p.tables.exec = Jvm.exec) (hby : c.code = method_4_code) (h : ¬ q < (97 : Int32)) (h2 : ¬ (122 : Int32) < q) {target : State} (kt : Steps p.tables e below (T.setTop (mkF m 12 #[.val (.int q)] [])) target) : Steps p.tables e below (T.setTop (mkF m 0 #[.val (.int q)] [])) target := by
  show Steps p.tables e below (T.setTop (mkF m 0 #[.val (.int q)] [])) _
  refine XS.iloadN X.here hx rfl (hb hby d3_0) rfl ?_
  show Steps p.tables e below (T.setTop (mkF m 1 #[.val (.int q)] [(.int q)])) _
  refine XS.bipush X.here hx rfl (hb hby d3_1) ?_
  show Steps p.tables e below (T.setTop (mkF m 3 #[.val (.int q)] [(.int (97 : Int32)), (.int q)])) _
  refine XS.icmpNo X.here hx rfl (hb hby d3_3) rfl (flt h).1 ?_
  show Steps p.tables e below (T.setTop (mkF m 6 #[.val (.int q)] [])) _
  refine XS.iloadN X.here hx rfl (hb hby d3_6) rfl ?_
  show Steps p.tables e below (T.setTop (mkF m 7 #[.val (.int q)] [(.int q)])) _
  refine XS.bipush X.here hx rfl (hb hby d3_7) ?_
  show Steps p.tables e below (T.setTop (mkF m 9 #[.val (.int q)] [(.int (122 : Int32)), (.int q)])) _
  refine XS.icmpNo X.here hx rfl (hb hby d3_9) rfl (flt h2).2.2.1 ?_
  exact kt
theorem ok2a {p : Program} {l : Launch} {e : Env} {R : Room} {s : State} {m : MethodId} {args : Array Value} {below : List Frame} {meth : Method} {c : Code} {T : State} {locs : List Loc} {cells slots : Nat} (q : Int32) (X : Stand p l e R s m args below meth c T locs cells slots) (hx : p.tables.exec = Jvm.exec) (hby : c.code = method_4_code) (h : q < (65 : Int32)) {target : State} (kt : Steps p.tables e below (T.setTop (mkF m 28 #[.val (.int q)] [])) target) : Steps p.tables e below (T.setTop (mkF m 14 #[.val (.int q)] [])) target := by
  show Steps p.tables e below (T.setTop (mkF m 14 #[.val (.int q)] [])) _
  refine XS.iloadN X.here hx rfl (hb hby d3_14) rfl ?_
  show Steps p.tables e below (T.setTop (mkF m 15 #[.val (.int q)] [(.int q)])) _
  refine XS.bipush X.here hx rfl (hb hby d3_15) ?_
  show Steps p.tables e below (T.setTop (mkF m 17 #[.val (.int q)] [(.int (65 : Int32)), (.int q)])) _
  refine XS.icmpYes X.here hx rfl (pc0 := 17) (pc' := 28) rfl (hb hby d3_17) rfl (tlt h).1 (by decide) (by decide) ?_
  exact kt
theorem ok2b {p : Program} {l : Launch} {e : Env} {R : Room} {s : State} {m : MethodId} {args : Array Value} {below : List Frame} {meth : Method} {c : Code} {T : State} {locs : List Loc} {cells slots : Nat} (q : Int32) (X : Stand p l e R s m args below meth c T locs cells slots) (hx : p.tables.exec = Jvm.exec) (hby : c.code = method_4_code) (h : ¬ q < (65 : Int32)) (h2 : (90 : Int32) < q) {target : State} (kt : Steps p.tables e below (T.setTop (mkF m 28 #[.val (.int q)] [])) target) : Steps p.tables e below (T.setTop (mkF m 14 #[.val (.int q)] [])) target := by
  show Steps p.tables e below (T.setTop (mkF m 14 #[.val (.int q)] [])) _
  refine XS.iloadN X.here hx rfl (hb hby d3_14) rfl ?_
  show Steps p.tables e below (T.setTop (mkF m 15 #[.val (.int q)] [(.int q)])) _
  refine XS.bipush X.here hx rfl (hb hby d3_15) ?_
  show Steps p.tables e below (T.setTop (mkF m 17 #[.val (.int q)] [(.int (65 : Int32)), (.int q)])) _
  refine XS.icmpNo X.here hx rfl (hb hby d3_17) rfl (flt h).1 ?_
  show Steps p.tables e below (T.setTop (mkF m 20 #[.val (.int q)] [])) _
  refine XS.iloadN X.here hx rfl (hb hby d3_20) rfl ?_
  show Steps p.tables e below (T.setTop (mkF m 21 #[.val (.int q)] [(.int q)])) _
  refine XS.bipush X.here hx rfl (hb hby d3_21) ?_
  show Steps p.tables e below (T.setTop (mkF m 23 #[.val (.int q)] [(.int (90 : Int32)), (.int q)])) _
  refine XS.icmpYes X.here hx rfl (pc0 := 23) (pc' := 28) rfl (hb hby d3_23) rfl (tlt h2).2.2.1 (by decide) (by decide) ?_
  exact kt
theorem ok2c {p : Program} {l : Launch} {e : Env} {R : Room} {s : State} {m : MethodId} {args : Array Value} {below : List Frame} {meth : Method} {c : Code} {T : State} {locs : List Loc} {cells slots : Nat} (q : Int32) (X : Stand p l e R s m args below meth c T locs cells slots) (hx : p.tables.exec = Jvm.exec) (hby : c.code = method_4_code) (h : ¬ q < (65 : Int32)) (h2 : ¬ (90 : Int32) < q) {target : State} (kt : Steps p.tables e below (T.setTop (mkF m 26 #[.val (.int q)] [])) target) : Steps p.tables e below (T.setTop (mkF m 14 #[.val (.int q)] [])) target := by
  show Steps p.tables e below (T.setTop (mkF m 14 #[.val (.int q)] [])) _
  refine XS.iloadN X.here hx rfl (hb hby d3_14) rfl ?_
  show Steps p.tables e below (T.setTop (mkF m 15 #[.val (.int q)] [(.int q)])) _
  refine XS.bipush X.here hx rfl (hb hby d3_15) ?_
  show Steps p.tables e below (T.setTop (mkF m 17 #[.val (.int q)] [(.int (65 : Int32)), (.int q)])) _
  refine XS.icmpNo X.here hx rfl (hb hby d3_17) rfl (flt h).1 ?_
  show Steps p.tables e below (T.setTop (mkF m 20 #[.val (.int q)] [])) _
  refine XS.iloadN X.here hx rfl (hb hby d3_20) rfl ?_
  show Steps p.tables e below (T.setTop (mkF m 21 #[.val (.int q)] [(.int q)])) _
  refine XS.bipush X.here hx rfl (hb hby d3_21) ?_
  show Steps p.tables e below (T.setTop (mkF m 23 #[.val (.int q)] [(.int (90 : Int32)), (.int q)])) _
  refine XS.icmpNo X.here hx rfl (hb hby d3_23) rfl (flt h2).2.2.1 ?_
  exact kt
theorem ok3a {p : Program} {l : Launch} {e : Env} {R : Room} {s : State} {m : MethodId} {args : Array Value} {below : List Frame} {meth : Method} {c : Code} {T : State} {locs : List Loc} {cells slots : Nat} (q : Int32) (X : Stand p l e R s m args below meth c T locs cells slots) (hx : p.tables.exec = Jvm.exec) (hby : c.code = method_4_code) (h : q < (48 : Int32)) {target : State} (kt : Steps p.tables e below (T.setTop (mkF m 42 #[.val (.int q)] [])) target) : Steps p.tables e below (T.setTop (mkF m 28 #[.val (.int q)] [])) target := by
  show Steps p.tables e below (T.setTop (mkF m 28 #[.val (.int q)] [])) _
  refine XS.iloadN X.here hx rfl (hb hby d3_28) rfl ?_
  show Steps p.tables e below (T.setTop (mkF m 29 #[.val (.int q)] [(.int q)])) _
  refine XS.bipush X.here hx rfl (hb hby d3_29) ?_
  show Steps p.tables e below (T.setTop (mkF m 31 #[.val (.int q)] [(.int (48 : Int32)), (.int q)])) _
  refine XS.icmpYes X.here hx rfl (pc0 := 31) (pc' := 42) rfl (hb hby d3_31) rfl (tlt h).1 (by decide) (by decide) ?_
  exact kt
theorem ok3b {p : Program} {l : Launch} {e : Env} {R : Room} {s : State} {m : MethodId} {args : Array Value} {below : List Frame} {meth : Method} {c : Code} {T : State} {locs : List Loc} {cells slots : Nat} (q : Int32) (X : Stand p l e R s m args below meth c T locs cells slots) (hx : p.tables.exec = Jvm.exec) (hby : c.code = method_4_code) (h : ¬ q < (48 : Int32)) (h2 : (57 : Int32) < q) {target : State} (kt : Steps p.tables e below (T.setTop (mkF m 42 #[.val (.int q)] [])) target) : Steps p.tables e below (T.setTop (mkF m 28 #[.val (.int q)] [])) target := by
  show Steps p.tables e below (T.setTop (mkF m 28 #[.val (.int q)] [])) _
  refine XS.iloadN X.here hx rfl (hb hby d3_28) rfl ?_
  show Steps p.tables e below (T.setTop (mkF m 29 #[.val (.int q)] [(.int q)])) _
  refine XS.bipush X.here hx rfl (hb hby d3_29) ?_
  show Steps p.tables e below (T.setTop (mkF m 31 #[.val (.int q)] [(.int (48 : Int32)), (.int q)])) _
  refine XS.icmpNo X.here hx rfl (hb hby d3_31) rfl (flt h).1 ?_
  show Steps p.tables e below (T.setTop (mkF m 34 #[.val (.int q)] [])) _
  refine XS.iloadN X.here hx rfl (hb hby d3_34) rfl ?_
  show Steps p.tables e below (T.setTop (mkF m 35 #[.val (.int q)] [(.int q)])) _
  refine XS.bipush X.here hx rfl (hb hby d3_35) ?_
  show Steps p.tables e below (T.setTop (mkF m 37 #[.val (.int q)] [(.int (57 : Int32)), (.int q)])) _
  refine XS.icmpYes X.here hx rfl (pc0 := 37) (pc' := 42) rfl (hb hby d3_37) rfl (tlt h2).2.2.1 (by decide) (by decide) ?_
  exact kt
theorem ok3c {p : Program} {l : Launch} {e : Env} {R : Room} {s : State} {m : MethodId} {args : Array Value} {below : List Frame} {meth : Method} {c : Code} {T : State} {locs : List Loc} {cells slots : Nat} (q : Int32) (X : Stand p l e R s m args below meth c T locs cells slots) (hx : p.tables.exec = Jvm.exec) (hby : c.code = method_4_code) (h : ¬ q < (48 : Int32)) (h2 : ¬ (57 : Int32) < q) {target : State} (kt : Steps p.tables e below (T.setTop (mkF m 40 #[.val (.int q)] [])) target) : Steps p.tables e below (T.setTop (mkF m 28 #[.val (.int q)] [])) target := by
  show Steps p.tables e below (T.setTop (mkF m 28 #[.val (.int q)] [])) _
  refine XS.iloadN X.here hx rfl (hb hby d3_28) rfl ?_
  show Steps p.tables e below (T.setTop (mkF m 29 #[.val (.int q)] [(.int q)])) _
  refine XS.bipush X.here hx rfl (hb hby d3_29) ?_
  show Steps p.tables e below (T.setTop (mkF m 31 #[.val (.int q)] [(.int (48 : Int32)), (.int q)])) _
  refine XS.icmpNo X.here hx rfl (hb hby d3_31) rfl (flt h).1 ?_
  show Steps p.tables e below (T.setTop (mkF m 34 #[.val (.int q)] [])) _
  refine XS.iloadN X.here hx rfl (hb hby d3_34) rfl ?_
  show Steps p.tables e below (T.setTop (mkF m 35 #[.val (.int q)] [(.int q)])) _
  refine XS.bipush X.here hx rfl (hb hby d3_35) ?_
  show Steps p.tables e below (T.setTop (mkF m 37 #[.val (.int q)] [(.int (57 : Int32)), (.int q)])) _
  refine XS.icmpNo X.here hx rfl (hb hby d3_37) rfl (flt h2).2.2.1 ?_
  exact kt
theorem ok4a {p : Program} {l : Launch} {e : Env} {R : Room} {s : State} {m : MethodId} {args : Array Value} {below : List Frame} {meth : Method} {c : Code} {T : State} {locs : List Loc} {cells slots : Nat} (q : Int32) (X : Stand p l e R s m args below meth c T locs cells slots) (hx : p.tables.exec = Jvm.exec) (hby : c.code = method_4_code) (h : q = (95 : Int32)) {target : State} (kt : Steps p.tables e below (T.setTop (mkF m 60 #[.val (.int q)] [])) target) : Steps p.tables e below (T.setTop (mkF m 42 #[.val (.int q)] [])) target := by
  show Steps p.tables e below (T.setTop (mkF m 42 #[.val (.int q)] [])) _
  refine XS.iloadN X.here hx rfl (hb hby d3_42) rfl ?_
  show Steps p.tables e below (T.setTop (mkF m 43 #[.val (.int q)] [(.int q)])) _
  refine XS.bipush X.here hx rfl (hb hby d3_43) ?_
  show Steps p.tables e below (T.setTop (mkF m 45 #[.val (.int q)] [(.int (95 : Int32)), (.int q)])) _
  refine XS.icmpYes X.here hx rfl (pc0 := 45) (pc' := 60) rfl (hb hby d3_45) rfl (teq h).1 (by decide) (by decide) ?_
  exact kt
theorem ok4b {p : Program} {l : Launch} {e : Env} {R : Room} {s : State} {m : MethodId} {args : Array Value} {below : List Frame} {meth : Method} {c : Code} {T : State} {locs : List Loc} {cells slots : Nat} (q : Int32) (X : Stand p l e R s m args below meth c T locs cells slots) (hx : p.tables.exec = Jvm.exec) (hby : c.code = method_4_code) (h : ¬ q = (95 : Int32)) (h2 : q = (46 : Int32)) {target : State} (kt : Steps p.tables e below (T.setTop (mkF m 60 #[.val (.int q)] [])) target) : Steps p.tables e below (T.setTop (mkF m 42 #[.val (.int q)] [])) target := by
  show Steps p.tables e below (T.setTop (mkF m 42 #[.val (.int q)] [])) _
  refine XS.iloadN X.here hx rfl (hb hby d3_42) rfl ?_
  show Steps p.tables e below (T.setTop (mkF m 43 #[.val (.int q)] [(.int q)])) _
  refine XS.bipush X.here hx rfl (hb hby d3_43) ?_
  show Steps p.tables e below (T.setTop (mkF m 45 #[.val (.int q)] [(.int (95 : Int32)), (.int q)])) _
  refine XS.icmpNo X.here hx rfl (hb hby d3_45) rfl (feq h).1 ?_
  show Steps p.tables e below (T.setTop (mkF m 48 #[.val (.int q)] [])) _
  refine XS.iloadN X.here hx rfl (hb hby d3_48) rfl ?_
  show Steps p.tables e below (T.setTop (mkF m 49 #[.val (.int q)] [(.int q)])) _
  refine XS.bipush X.here hx rfl (hb hby d3_49) ?_
  show Steps p.tables e below (T.setTop (mkF m 51 #[.val (.int q)] [(.int (46 : Int32)), (.int q)])) _
  refine XS.icmpYes X.here hx rfl (pc0 := 51) (pc' := 60) rfl (hb hby d3_51) rfl (teq h2).1 (by decide) (by decide) ?_
  exact kt
theorem ok4c {p : Program} {l : Launch} {e : Env} {R : Room} {s : State} {m : MethodId} {args : Array Value} {below : List Frame} {meth : Method} {c : Code} {T : State} {locs : List Loc} {cells slots : Nat} (q : Int32) (X : Stand p l e R s m args below meth c T locs cells slots) (hx : p.tables.exec = Jvm.exec) (hby : c.code = method_4_code) (h : ¬ q = (95 : Int32)) (h2 : ¬ q = (46 : Int32)) (h3 : q = (45 : Int32)) {target : State} (kt : Steps p.tables e below (T.setTop (mkF m 60 #[.val (.int q)] [])) target) : Steps p.tables e below (T.setTop (mkF m 42 #[.val (.int q)] [])) target := by
  show Steps p.tables e below (T.setTop (mkF m 42 #[.val (.int q)] [])) _
  refine XS.iloadN X.here hx rfl (hb hby d3_42) rfl ?_
  show Steps p.tables e below (T.setTop (mkF m 43 #[.val (.int q)] [(.int q)])) _
  refine XS.bipush X.here hx rfl (hb hby d3_43) ?_
  show Steps p.tables e below (T.setTop (mkF m 45 #[.val (.int q)] [(.int (95 : Int32)), (.int q)])) _
  refine XS.icmpNo X.here hx rfl (hb hby d3_45) rfl (feq h).1 ?_
  show Steps p.tables e below (T.setTop (mkF m 48 #[.val (.int q)] [])) _
  refine XS.iloadN X.here hx rfl (hb hby d3_48) rfl ?_
  show Steps p.tables e below (T.setTop (mkF m 49 #[.val (.int q)] [(.int q)])) _
  refine XS.bipush X.here hx rfl (hb hby d3_49) ?_
  show Steps p.tables e below (T.setTop (mkF m 51 #[.val (.int q)] [(.int (46 : Int32)), (.int q)])) _
  refine XS.icmpNo X.here hx rfl (hb hby d3_51) rfl (feq h2).1 ?_
  show Steps p.tables e below (T.setTop (mkF m 54 #[.val (.int q)] [])) _
  refine XS.iloadN X.here hx rfl (hb hby d3_54) rfl ?_
  show Steps p.tables e below (T.setTop (mkF m 55 #[.val (.int q)] [(.int q)])) _
  refine XS.bipush X.here hx rfl (hb hby d3_55) ?_
  show Steps p.tables e below (T.setTop (mkF m 57 #[.val (.int q)] [(.int (45 : Int32)), (.int q)])) _
  refine XS.icmpNo X.here hx rfl (hb hby d3_57) rfl (teq h3).2 ?_
  exact kt
theorem ok4d {p : Program} {l : Launch} {e : Env} {R : Room} {s : State} {m : MethodId} {args : Array Value} {below : List Frame} {meth : Method} {c : Code} {T : State} {locs : List Loc} {cells slots : Nat} (q : Int32) (X : Stand p l e R s m args below meth c T locs cells slots) (hx : p.tables.exec = Jvm.exec) (hby : c.code = method_4_code) (h : ¬ q = (95 : Int32)) (h2 : ¬ q = (46 : Int32)) (h3 : ¬ q = (45 : Int32)) {target : State} (kt : Steps p.tables e below (T.setTop (mkF m 64 #[.val (.int q)] [])) target) : Steps p.tables e below (T.setTop (mkF m 42 #[.val (.int q)] [])) target := by
  show Steps p.tables e below (T.setTop (mkF m 42 #[.val (.int q)] [])) _
  refine XS.iloadN X.here hx rfl (hb hby d3_42) rfl ?_
  show Steps p.tables e below (T.setTop (mkF m 43 #[.val (.int q)] [(.int q)])) _
  refine XS.bipush X.here hx rfl (hb hby d3_43) ?_
  show Steps p.tables e below (T.setTop (mkF m 45 #[.val (.int q)] [(.int (95 : Int32)), (.int q)])) _
  refine XS.icmpNo X.here hx rfl (hb hby d3_45) rfl (feq h).1 ?_
  show Steps p.tables e below (T.setTop (mkF m 48 #[.val (.int q)] [])) _
  refine XS.iloadN X.here hx rfl (hb hby d3_48) rfl ?_
  show Steps p.tables e below (T.setTop (mkF m 49 #[.val (.int q)] [(.int q)])) _
  refine XS.bipush X.here hx rfl (hb hby d3_49) ?_
  show Steps p.tables e below (T.setTop (mkF m 51 #[.val (.int q)] [(.int (46 : Int32)), (.int q)])) _
  refine XS.icmpNo X.here hx rfl (hb hby d3_51) rfl (feq h2).1 ?_
  show Steps p.tables e below (T.setTop (mkF m 54 #[.val (.int q)] [])) _
  refine XS.iloadN X.here hx rfl (hb hby d3_54) rfl ?_
  show Steps p.tables e below (T.setTop (mkF m 55 #[.val (.int q)] [(.int q)])) _
  refine XS.bipush X.here hx rfl (hb hby d3_55) ?_
  show Steps p.tables e below (T.setTop (mkF m 57 #[.val (.int q)] [(.int (45 : Int32)), (.int q)])) _
  refine XS.icmpYes X.here hx rfl (pc0 := 57) (pc' := 64) rfl (hb hby d3_57) rfl (feq h3).2 (by decide) (by decide) ?_
  exact kt
theorem nm1a {p : Program} {l : Launch} {e : Env} {R : Room} {s : State} {m : MethodId} {args : Array Value} {below : List Frame} {meth : Method} {c : Code} {T : State} {locs : List Loc} {cells slots : Nat} (a : Addr) (fr to v i q : Int32) (X : Stand p l e R s m args below meth c T locs cells slots) (hx : p.tables.exec = Jvm.exec) (hby : c.code = prog_22_method_3_code) (h : q < (97 : Int32)) {target : State} (kt : Steps p.tables e below (T.setTop (mkF m 52 #[.val (.ref a), .val (.int fr), .val (.int to), .val (.int v), .val (.int i), .val (.int q)] [])) target) : Steps p.tables e below (T.setTop (mkF m 38 #[.val (.ref a), .val (.int fr), .val (.int to), .val (.int v), .val (.int i), .val (.int q)] [])) target := by
  show Steps p.tables e below (T.setTop (mkF m 38 #[.val (.ref a), .val (.int fr), .val (.int to), .val (.int v), .val (.int i), .val (.int q)] [])) _
  refine XS.iload X.here hx rfl (hb hby d1_38) rfl ?_
  show Steps p.tables e below (T.setTop (mkF m 40 #[.val (.ref a), .val (.int fr), .val (.int to), .val (.int v), .val (.int i), .val (.int q)] [(.int q)])) _
  refine XS.bipush X.here hx rfl (hb hby d1_40) ?_
  show Steps p.tables e below (T.setTop (mkF m 42 #[.val (.ref a), .val (.int fr), .val (.int to), .val (.int v), .val (.int i), .val (.int q)] [(.int (97 : Int32)), (.int q)])) _
  refine XS.icmpYes X.here hx rfl (pc0 := 42) (pc' := 52) rfl (hb hby d1_42) rfl (tlt h).1 (by decide) (by decide) ?_
  exact kt
theorem nm1b {p : Program} {l : Launch} {e : Env} {R : Room} {s : State} {m : MethodId} {args : Array Value} {below : List Frame} {meth : Method} {c : Code} {T : State} {locs : List Loc} {cells slots : Nat} (a : Addr) (fr to v i q : Int32) (X : Stand p l e R s m args below meth c T locs cells slots) (hx : p.tables.exec = Jvm.exec) (hby : c.code = prog_22_method_3_code) (h : ¬ q < (97 : Int32)) (h2 : (122 : Int32) < q) {target : State} (kt : Steps p.tables e below (T.setTop (mkF m 52 #[.val (.ref a), .val (.int fr), .val (.int to), .val (.int v), .val (.int i), .val (.int q)] [])) target) : Steps p.tables e below (T.setTop (mkF m 38 #[.val (.ref a), .val (.int fr), .val (.int to), .val (.int v), .val (.int i), .val (.int q)] [])) target := by
  show Steps p.tables e below (T.setTop (mkF m 38 #[.val (.ref a), .val (.int fr), .val (.int to), .val (.int v), .val (.int i), .val (.int q)] [])) _
  refine XS.iload X.here hx rfl (hb hby d1_38) rfl ?_
  show Steps p.tables e below (T.setTop (mkF m 40 #[.val (.ref a), .val (.int fr), .val (.int to), .val (.int v), .val (.int i), .val (.int q)] [(.int q)])) _
  refine XS.bipush X.here hx rfl (hb hby d1_40) ?_
  show Steps p.tables e below (T.setTop (mkF m 42 #[.val (.ref a), .val (.int fr), .val (.int to), .val (.int v), .val (.int i), .val (.int q)] [(.int (97 : Int32)), (.int q)])) _
  refine XS.icmpNo X.here hx rfl (hb hby d1_42) rfl (flt h).1 ?_
  show Steps p.tables e below (T.setTop (mkF m 45 #[.val (.ref a), .val (.int fr), .val (.int to), .val (.int v), .val (.int i), .val (.int q)] [])) _
  refine XS.iload X.here hx rfl (hb hby d1_45) rfl ?_
  show Steps p.tables e below (T.setTop (mkF m 47 #[.val (.ref a), .val (.int fr), .val (.int to), .val (.int v), .val (.int i), .val (.int q)] [(.int q)])) _
  refine XS.bipush X.here hx rfl (hb hby d1_47) ?_
  show Steps p.tables e below (T.setTop (mkF m 49 #[.val (.ref a), .val (.int fr), .val (.int to), .val (.int v), .val (.int i), .val (.int q)] [(.int (122 : Int32)), (.int q)])) _
  refine XS.icmpNo X.here hx rfl (hb hby d1_49) rfl (tlt h2).2.2.2 ?_
  exact kt
theorem nm1c {p : Program} {l : Launch} {e : Env} {R : Room} {s : State} {m : MethodId} {args : Array Value} {below : List Frame} {meth : Method} {c : Code} {T : State} {locs : List Loc} {cells slots : Nat} (a : Addr) (fr to v i q : Int32) (X : Stand p l e R s m args below meth c T locs cells slots) (hx : p.tables.exec = Jvm.exec) (hby : c.code = prog_22_method_3_code) (h : ¬ q < (97 : Int32)) (h2 : ¬ (122 : Int32) < q) {target : State} (kt : Steps p.tables e below (T.setTop (mkF m 101 #[.val (.ref a), .val (.int fr), .val (.int to), .val (.int v), .val (.int i), .val (.int q)] [])) target) : Steps p.tables e below (T.setTop (mkF m 38 #[.val (.ref a), .val (.int fr), .val (.int to), .val (.int v), .val (.int i), .val (.int q)] [])) target := by
  show Steps p.tables e below (T.setTop (mkF m 38 #[.val (.ref a), .val (.int fr), .val (.int to), .val (.int v), .val (.int i), .val (.int q)] [])) _
  refine XS.iload X.here hx rfl (hb hby d1_38) rfl ?_
  show Steps p.tables e below (T.setTop (mkF m 40 #[.val (.ref a), .val (.int fr), .val (.int to), .val (.int v), .val (.int i), .val (.int q)] [(.int q)])) _
  refine XS.bipush X.here hx rfl (hb hby d1_40) ?_
  show Steps p.tables e below (T.setTop (mkF m 42 #[.val (.ref a), .val (.int fr), .val (.int to), .val (.int v), .val (.int i), .val (.int q)] [(.int (97 : Int32)), (.int q)])) _
  refine XS.icmpNo X.here hx rfl (hb hby d1_42) rfl (flt h).1 ?_
  show Steps p.tables e below (T.setTop (mkF m 45 #[.val (.ref a), .val (.int fr), .val (.int to), .val (.int v), .val (.int i), .val (.int q)] [])) _
  refine XS.iload X.here hx rfl (hb hby d1_45) rfl ?_
  show Steps p.tables e below (T.setTop (mkF m 47 #[.val (.ref a), .val (.int fr), .val (.int to), .val (.int v), .val (.int i), .val (.int q)] [(.int q)])) _
  refine XS.bipush X.here hx rfl (hb hby d1_47) ?_
  show Steps p.tables e below (T.setTop (mkF m 49 #[.val (.ref a), .val (.int fr), .val (.int to), .val (.int v), .val (.int i), .val (.int q)] [(.int (122 : Int32)), (.int q)])) _
  refine XS.icmpYes X.here hx rfl (pc0 := 49) (pc' := 101) rfl (hb hby d1_49) rfl (flt h2).2.2.2 (by decide) (by decide) ?_
  exact kt
theorem nm2a {p : Program} {l : Launch} {e : Env} {R : Room} {s : State} {m : MethodId} {args : Array Value} {below : List Frame} {meth : Method} {c : Code} {T : State} {locs : List Loc} {cells slots : Nat} (a : Addr) (fr to v i q : Int32) (X : Stand p l e R s m args below meth c T locs cells slots) (hx : p.tables.exec = Jvm.exec) (hby : c.code = prog_22_method_3_code) (h : q < (65 : Int32)) {target : State} (kt : Steps p.tables e below (T.setTop (mkF m 66 #[.val (.ref a), .val (.int fr), .val (.int to), .val (.int v), .val (.int i), .val (.int q)] [])) target) : Steps p.tables e below (T.setTop (mkF m 52 #[.val (.ref a), .val (.int fr), .val (.int to), .val (.int v), .val (.int i), .val (.int q)] [])) target := by
  show Steps p.tables e below (T.setTop (mkF m 52 #[.val (.ref a), .val (.int fr), .val (.int to), .val (.int v), .val (.int i), .val (.int q)] [])) _
  refine XS.iload X.here hx rfl (hb hby d1_52) rfl ?_
  show Steps p.tables e below (T.setTop (mkF m 54 #[.val (.ref a), .val (.int fr), .val (.int to), .val (.int v), .val (.int i), .val (.int q)] [(.int q)])) _
  refine XS.bipush X.here hx rfl (hb hby d1_54) ?_
  show Steps p.tables e below (T.setTop (mkF m 56 #[.val (.ref a), .val (.int fr), .val (.int to), .val (.int v), .val (.int i), .val (.int q)] [(.int (65 : Int32)), (.int q)])) _
  refine XS.icmpYes X.here hx rfl (pc0 := 56) (pc' := 66) rfl (hb hby d1_56) rfl (tlt h).1 (by decide) (by decide) ?_
  exact kt
theorem nm2b {p : Program} {l : Launch} {e : Env} {R : Room} {s : State} {m : MethodId} {args : Array Value} {below : List Frame} {meth : Method} {c : Code} {T : State} {locs : List Loc} {cells slots : Nat} (a : Addr) (fr to v i q : Int32) (X : Stand p l e R s m args below meth c T locs cells slots) (hx : p.tables.exec = Jvm.exec) (hby : c.code = prog_22_method_3_code) (h : ¬ q < (65 : Int32)) (h2 : (90 : Int32) < q) {target : State} (kt : Steps p.tables e below (T.setTop (mkF m 66 #[.val (.ref a), .val (.int fr), .val (.int to), .val (.int v), .val (.int i), .val (.int q)] [])) target) : Steps p.tables e below (T.setTop (mkF m 52 #[.val (.ref a), .val (.int fr), .val (.int to), .val (.int v), .val (.int i), .val (.int q)] [])) target := by
  show Steps p.tables e below (T.setTop (mkF m 52 #[.val (.ref a), .val (.int fr), .val (.int to), .val (.int v), .val (.int i), .val (.int q)] [])) _
  refine XS.iload X.here hx rfl (hb hby d1_52) rfl ?_
  show Steps p.tables e below (T.setTop (mkF m 54 #[.val (.ref a), .val (.int fr), .val (.int to), .val (.int v), .val (.int i), .val (.int q)] [(.int q)])) _
  refine XS.bipush X.here hx rfl (hb hby d1_54) ?_
  show Steps p.tables e below (T.setTop (mkF m 56 #[.val (.ref a), .val (.int fr), .val (.int to), .val (.int v), .val (.int i), .val (.int q)] [(.int (65 : Int32)), (.int q)])) _
  refine XS.icmpNo X.here hx rfl (hb hby d1_56) rfl (flt h).1 ?_
  show Steps p.tables e below (T.setTop (mkF m 59 #[.val (.ref a), .val (.int fr), .val (.int to), .val (.int v), .val (.int i), .val (.int q)] [])) _
  refine XS.iload X.here hx rfl (hb hby d1_59) rfl ?_
  show Steps p.tables e below (T.setTop (mkF m 61 #[.val (.ref a), .val (.int fr), .val (.int to), .val (.int v), .val (.int i), .val (.int q)] [(.int q)])) _
  refine XS.bipush X.here hx rfl (hb hby d1_61) ?_
  show Steps p.tables e below (T.setTop (mkF m 63 #[.val (.ref a), .val (.int fr), .val (.int to), .val (.int v), .val (.int i), .val (.int q)] [(.int (90 : Int32)), (.int q)])) _
  refine XS.icmpNo X.here hx rfl (hb hby d1_63) rfl (tlt h2).2.2.2 ?_
  exact kt
theorem nm2c {p : Program} {l : Launch} {e : Env} {R : Room} {s : State} {m : MethodId} {args : Array Value} {below : List Frame} {meth : Method} {c : Code} {T : State} {locs : List Loc} {cells slots : Nat} (a : Addr) (fr to v i q : Int32) (X : Stand p l e R s m args below meth c T locs cells slots) (hx : p.tables.exec = Jvm.exec) (hby : c.code = prog_22_method_3_code) (h : ¬ q < (65 : Int32)) (h2 : ¬ (90 : Int32) < q) {target : State} (kt : Steps p.tables e below (T.setTop (mkF m 101 #[.val (.ref a), .val (.int fr), .val (.int to), .val (.int v), .val (.int i), .val (.int q)] [])) target) : Steps p.tables e below (T.setTop (mkF m 52 #[.val (.ref a), .val (.int fr), .val (.int to), .val (.int v), .val (.int i), .val (.int q)] [])) target := by
  show Steps p.tables e below (T.setTop (mkF m 52 #[.val (.ref a), .val (.int fr), .val (.int to), .val (.int v), .val (.int i), .val (.int q)] [])) _
  refine XS.iload X.here hx rfl (hb hby d1_52) rfl ?_
  show Steps p.tables e below (T.setTop (mkF m 54 #[.val (.ref a), .val (.int fr), .val (.int to), .val (.int v), .val (.int i), .val (.int q)] [(.int q)])) _
  refine XS.bipush X.here hx rfl (hb hby d1_54) ?_
  show Steps p.tables e below (T.setTop (mkF m 56 #[.val (.ref a), .val (.int fr), .val (.int to), .val (.int v), .val (.int i), .val (.int q)] [(.int (65 : Int32)), (.int q)])) _
  refine XS.icmpNo X.here hx rfl (hb hby d1_56) rfl (flt h).1 ?_
  show Steps p.tables e below (T.setTop (mkF m 59 #[.val (.ref a), .val (.int fr), .val (.int to), .val (.int v), .val (.int i), .val (.int q)] [])) _
  refine XS.iload X.here hx rfl (hb hby d1_59) rfl ?_
  show Steps p.tables e below (T.setTop (mkF m 61 #[.val (.ref a), .val (.int fr), .val (.int to), .val (.int v), .val (.int i), .val (.int q)] [(.int q)])) _
  refine XS.bipush X.here hx rfl (hb hby d1_61) ?_
  show Steps p.tables e below (T.setTop (mkF m 63 #[.val (.ref a), .val (.int fr), .val (.int to), .val (.int v), .val (.int i), .val (.int q)] [(.int (90 : Int32)), (.int q)])) _
  refine XS.icmpYes X.here hx rfl (pc0 := 63) (pc' := 101) rfl (hb hby d1_63) rfl (flt h2).2.2.2 (by decide) (by decide) ?_
  exact kt
theorem nm3a {p : Program} {l : Launch} {e : Env} {R : Room} {s : State} {m : MethodId} {args : Array Value} {below : List Frame} {meth : Method} {c : Code} {T : State} {locs : List Loc} {cells slots : Nat} (a : Addr) (fr to v i q : Int32) (X : Stand p l e R s m args below meth c T locs cells slots) (hx : p.tables.exec = Jvm.exec) (hby : c.code = prog_22_method_3_code) (h : q < (48 : Int32)) {target : State} (kt : Steps p.tables e below (T.setTop (mkF m 80 #[.val (.ref a), .val (.int fr), .val (.int to), .val (.int v), .val (.int i), .val (.int q)] [])) target) : Steps p.tables e below (T.setTop (mkF m 66 #[.val (.ref a), .val (.int fr), .val (.int to), .val (.int v), .val (.int i), .val (.int q)] [])) target := by
  show Steps p.tables e below (T.setTop (mkF m 66 #[.val (.ref a), .val (.int fr), .val (.int to), .val (.int v), .val (.int i), .val (.int q)] [])) _
  refine XS.iload X.here hx rfl (hb hby d1_66) rfl ?_
  show Steps p.tables e below (T.setTop (mkF m 68 #[.val (.ref a), .val (.int fr), .val (.int to), .val (.int v), .val (.int i), .val (.int q)] [(.int q)])) _
  refine XS.bipush X.here hx rfl (hb hby d1_68) ?_
  show Steps p.tables e below (T.setTop (mkF m 70 #[.val (.ref a), .val (.int fr), .val (.int to), .val (.int v), .val (.int i), .val (.int q)] [(.int (48 : Int32)), (.int q)])) _
  refine XS.icmpYes X.here hx rfl (pc0 := 70) (pc' := 80) rfl (hb hby d1_70) rfl (tlt h).1 (by decide) (by decide) ?_
  exact kt
theorem nm3b {p : Program} {l : Launch} {e : Env} {R : Room} {s : State} {m : MethodId} {args : Array Value} {below : List Frame} {meth : Method} {c : Code} {T : State} {locs : List Loc} {cells slots : Nat} (a : Addr) (fr to v i q : Int32) (X : Stand p l e R s m args below meth c T locs cells slots) (hx : p.tables.exec = Jvm.exec) (hby : c.code = prog_22_method_3_code) (h : ¬ q < (48 : Int32)) (h2 : (57 : Int32) < q) {target : State} (kt : Steps p.tables e below (T.setTop (mkF m 80 #[.val (.ref a), .val (.int fr), .val (.int to), .val (.int v), .val (.int i), .val (.int q)] [])) target) : Steps p.tables e below (T.setTop (mkF m 66 #[.val (.ref a), .val (.int fr), .val (.int to), .val (.int v), .val (.int i), .val (.int q)] [])) target := by
  show Steps p.tables e below (T.setTop (mkF m 66 #[.val (.ref a), .val (.int fr), .val (.int to), .val (.int v), .val (.int i), .val (.int q)] [])) _
  refine XS.iload X.here hx rfl (hb hby d1_66) rfl ?_
  show Steps p.tables e below (T.setTop (mkF m 68 #[.val (.ref a), .val (.int fr), .val (.int to), .val (.int v), .val (.int i), .val (.int q)] [(.int q)])) _
  refine XS.bipush X.here hx rfl (hb hby d1_68) ?_
  show Steps p.tables e below (T.setTop (mkF m 70 #[.val (.ref a), .val (.int fr), .val (.int to), .val (.int v), .val (.int i), .val (.int q)] [(.int (48 : Int32)), (.int q)])) _
  refine XS.icmpNo X.here hx rfl (hb hby d1_70) rfl (flt h).1 ?_
  show Steps p.tables e below (T.setTop (mkF m 73 #[.val (.ref a), .val (.int fr), .val (.int to), .val (.int v), .val (.int i), .val (.int q)] [])) _
  refine XS.iload X.here hx rfl (hb hby d1_73) rfl ?_
  show Steps p.tables e below (T.setTop (mkF m 75 #[.val (.ref a), .val (.int fr), .val (.int to), .val (.int v), .val (.int i), .val (.int q)] [(.int q)])) _
  refine XS.bipush X.here hx rfl (hb hby d1_75) ?_
  show Steps p.tables e below (T.setTop (mkF m 77 #[.val (.ref a), .val (.int fr), .val (.int to), .val (.int v), .val (.int i), .val (.int q)] [(.int (57 : Int32)), (.int q)])) _
  refine XS.icmpNo X.here hx rfl (hb hby d1_77) rfl (tlt h2).2.2.2 ?_
  exact kt
theorem nm3c {p : Program} {l : Launch} {e : Env} {R : Room} {s : State} {m : MethodId} {args : Array Value} {below : List Frame} {meth : Method} {c : Code} {T : State} {locs : List Loc} {cells slots : Nat} (a : Addr) (fr to v i q : Int32) (X : Stand p l e R s m args below meth c T locs cells slots) (hx : p.tables.exec = Jvm.exec) (hby : c.code = prog_22_method_3_code) (h : ¬ q < (48 : Int32)) (h2 : ¬ (57 : Int32) < q) {target : State} (kt : Steps p.tables e below (T.setTop (mkF m 101 #[.val (.ref a), .val (.int fr), .val (.int to), .val (.int v), .val (.int i), .val (.int q)] [])) target) : Steps p.tables e below (T.setTop (mkF m 66 #[.val (.ref a), .val (.int fr), .val (.int to), .val (.int v), .val (.int i), .val (.int q)] [])) target := by
  show Steps p.tables e below (T.setTop (mkF m 66 #[.val (.ref a), .val (.int fr), .val (.int to), .val (.int v), .val (.int i), .val (.int q)] [])) _
  refine XS.iload X.here hx rfl (hb hby d1_66) rfl ?_
  show Steps p.tables e below (T.setTop (mkF m 68 #[.val (.ref a), .val (.int fr), .val (.int to), .val (.int v), .val (.int i), .val (.int q)] [(.int q)])) _
  refine XS.bipush X.here hx rfl (hb hby d1_68) ?_
  show Steps p.tables e below (T.setTop (mkF m 70 #[.val (.ref a), .val (.int fr), .val (.int to), .val (.int v), .val (.int i), .val (.int q)] [(.int (48 : Int32)), (.int q)])) _
  refine XS.icmpNo X.here hx rfl (hb hby d1_70) rfl (flt h).1 ?_
  show Steps p.tables e below (T.setTop (mkF m 73 #[.val (.ref a), .val (.int fr), .val (.int to), .val (.int v), .val (.int i), .val (.int q)] [])) _
  refine XS.iload X.here hx rfl (hb hby d1_73) rfl ?_
  show Steps p.tables e below (T.setTop (mkF m 75 #[.val (.ref a), .val (.int fr), .val (.int to), .val (.int v), .val (.int i), .val (.int q)] [(.int q)])) _
  refine XS.bipush X.here hx rfl (hb hby d1_75) ?_
  show Steps p.tables e below (T.setTop (mkF m 77 #[.val (.ref a), .val (.int fr), .val (.int to), .val (.int v), .val (.int i), .val (.int q)] [(.int (57 : Int32)), (.int q)])) _
  refine XS.icmpYes X.here hx rfl (pc0 := 77) (pc' := 101) rfl (hb hby d1_77) rfl (flt h2).2.2.2 (by decide) (by decide) ?_
  exact kt
theorem nm4a {p : Program} {l : Launch} {e : Env} {R : Room} {s : State} {m : MethodId} {args : Array Value} {below : List Frame} {meth : Method} {c : Code} {T : State} {locs : List Loc} {cells slots : Nat} (a : Addr) (fr to v i q : Int32) (X : Stand p l e R s m args below meth c T locs cells slots) (hx : p.tables.exec = Jvm.exec) (hby : c.code = prog_22_method_3_code) (h : q = (95 : Int32)) {target : State} (kt : Steps p.tables e below (T.setTop (mkF m 101 #[.val (.ref a), .val (.int fr), .val (.int to), .val (.int v), .val (.int i), .val (.int q)] [])) target) : Steps p.tables e below (T.setTop (mkF m 80 #[.val (.ref a), .val (.int fr), .val (.int to), .val (.int v), .val (.int i), .val (.int q)] [])) target := by
  show Steps p.tables e below (T.setTop (mkF m 80 #[.val (.ref a), .val (.int fr), .val (.int to), .val (.int v), .val (.int i), .val (.int q)] [])) _
  refine XS.iload X.here hx rfl (hb hby d1_80) rfl ?_
  show Steps p.tables e below (T.setTop (mkF m 82 #[.val (.ref a), .val (.int fr), .val (.int to), .val (.int v), .val (.int i), .val (.int q)] [(.int q)])) _
  refine XS.bipush X.here hx rfl (hb hby d1_82) ?_
  show Steps p.tables e below (T.setTop (mkF m 84 #[.val (.ref a), .val (.int fr), .val (.int to), .val (.int v), .val (.int i), .val (.int q)] [(.int (95 : Int32)), (.int q)])) _
  refine XS.icmpYes X.here hx rfl (pc0 := 84) (pc' := 101) rfl (hb hby d1_84) rfl (teq h).1 (by decide) (by decide) ?_
  exact kt
theorem nm4b {p : Program} {l : Launch} {e : Env} {R : Room} {s : State} {m : MethodId} {args : Array Value} {below : List Frame} {meth : Method} {c : Code} {T : State} {locs : List Loc} {cells slots : Nat} (a : Addr) (fr to v i q : Int32) (X : Stand p l e R s m args below meth c T locs cells slots) (hx : p.tables.exec = Jvm.exec) (hby : c.code = prog_22_method_3_code) (h : ¬ q = (95 : Int32)) (h2 : q = (46 : Int32)) {target : State} (kt : Steps p.tables e below (T.setTop (mkF m 101 #[.val (.ref a), .val (.int fr), .val (.int to), .val (.int v), .val (.int i), .val (.int q)] [])) target) : Steps p.tables e below (T.setTop (mkF m 80 #[.val (.ref a), .val (.int fr), .val (.int to), .val (.int v), .val (.int i), .val (.int q)] [])) target := by
  show Steps p.tables e below (T.setTop (mkF m 80 #[.val (.ref a), .val (.int fr), .val (.int to), .val (.int v), .val (.int i), .val (.int q)] [])) _
  refine XS.iload X.here hx rfl (hb hby d1_80) rfl ?_
  show Steps p.tables e below (T.setTop (mkF m 82 #[.val (.ref a), .val (.int fr), .val (.int to), .val (.int v), .val (.int i), .val (.int q)] [(.int q)])) _
  refine XS.bipush X.here hx rfl (hb hby d1_82) ?_
  show Steps p.tables e below (T.setTop (mkF m 84 #[.val (.ref a), .val (.int fr), .val (.int to), .val (.int v), .val (.int i), .val (.int q)] [(.int (95 : Int32)), (.int q)])) _
  refine XS.icmpNo X.here hx rfl (hb hby d1_84) rfl (feq h).1 ?_
  show Steps p.tables e below (T.setTop (mkF m 87 #[.val (.ref a), .val (.int fr), .val (.int to), .val (.int v), .val (.int i), .val (.int q)] [])) _
  refine XS.iload X.here hx rfl (hb hby d1_87) rfl ?_
  show Steps p.tables e below (T.setTop (mkF m 89 #[.val (.ref a), .val (.int fr), .val (.int to), .val (.int v), .val (.int i), .val (.int q)] [(.int q)])) _
  refine XS.bipush X.here hx rfl (hb hby d1_89) ?_
  show Steps p.tables e below (T.setTop (mkF m 91 #[.val (.ref a), .val (.int fr), .val (.int to), .val (.int v), .val (.int i), .val (.int q)] [(.int (46 : Int32)), (.int q)])) _
  refine XS.icmpYes X.here hx rfl (pc0 := 91) (pc' := 101) rfl (hb hby d1_91) rfl (teq h2).1 (by decide) (by decide) ?_
  exact kt
theorem nm4c {p : Program} {l : Launch} {e : Env} {R : Room} {s : State} {m : MethodId} {args : Array Value} {below : List Frame} {meth : Method} {c : Code} {T : State} {locs : List Loc} {cells slots : Nat} (a : Addr) (fr to v i q : Int32) (X : Stand p l e R s m args below meth c T locs cells slots) (hx : p.tables.exec = Jvm.exec) (hby : c.code = prog_22_method_3_code) (h : ¬ q = (95 : Int32)) (h2 : ¬ q = (46 : Int32)) (h3 : q = (45 : Int32)) {target : State} (kt : Steps p.tables e below (T.setTop (mkF m 101 #[.val (.ref a), .val (.int fr), .val (.int to), .val (.int v), .val (.int i), .val (.int q)] [])) target) : Steps p.tables e below (T.setTop (mkF m 80 #[.val (.ref a), .val (.int fr), .val (.int to), .val (.int v), .val (.int i), .val (.int q)] [])) target := by
  show Steps p.tables e below (T.setTop (mkF m 80 #[.val (.ref a), .val (.int fr), .val (.int to), .val (.int v), .val (.int i), .val (.int q)] [])) _
  refine XS.iload X.here hx rfl (hb hby d1_80) rfl ?_
  show Steps p.tables e below (T.setTop (mkF m 82 #[.val (.ref a), .val (.int fr), .val (.int to), .val (.int v), .val (.int i), .val (.int q)] [(.int q)])) _
  refine XS.bipush X.here hx rfl (hb hby d1_82) ?_
  show Steps p.tables e below (T.setTop (mkF m 84 #[.val (.ref a), .val (.int fr), .val (.int to), .val (.int v), .val (.int i), .val (.int q)] [(.int (95 : Int32)), (.int q)])) _
  refine XS.icmpNo X.here hx rfl (hb hby d1_84) rfl (feq h).1 ?_
  show Steps p.tables e below (T.setTop (mkF m 87 #[.val (.ref a), .val (.int fr), .val (.int to), .val (.int v), .val (.int i), .val (.int q)] [])) _
  refine XS.iload X.here hx rfl (hb hby d1_87) rfl ?_
  show Steps p.tables e below (T.setTop (mkF m 89 #[.val (.ref a), .val (.int fr), .val (.int to), .val (.int v), .val (.int i), .val (.int q)] [(.int q)])) _
  refine XS.bipush X.here hx rfl (hb hby d1_89) ?_
  show Steps p.tables e below (T.setTop (mkF m 91 #[.val (.ref a), .val (.int fr), .val (.int to), .val (.int v), .val (.int i), .val (.int q)] [(.int (46 : Int32)), (.int q)])) _
  refine XS.icmpNo X.here hx rfl (hb hby d1_91) rfl (feq h2).1 ?_
  show Steps p.tables e below (T.setTop (mkF m 94 #[.val (.ref a), .val (.int fr), .val (.int to), .val (.int v), .val (.int i), .val (.int q)] [])) _
  refine XS.iload X.here hx rfl (hb hby d1_94) rfl ?_
  show Steps p.tables e below (T.setTop (mkF m 96 #[.val (.ref a), .val (.int fr), .val (.int to), .val (.int v), .val (.int i), .val (.int q)] [(.int q)])) _
  refine XS.bipush X.here hx rfl (hb hby d1_96) ?_
  show Steps p.tables e below (T.setTop (mkF m 98 #[.val (.ref a), .val (.int fr), .val (.int to), .val (.int v), .val (.int i), .val (.int q)] [(.int (45 : Int32)), (.int q)])) _
  refine XS.icmpNo X.here hx rfl (hb hby d1_98) rfl (teq h3).2 ?_
  exact kt
theorem nm4d {p : Program} {l : Launch} {e : Env} {R : Room} {s : State} {m : MethodId} {args : Array Value} {below : List Frame} {meth : Method} {c : Code} {T : State} {locs : List Loc} {cells slots : Nat} (a : Addr) (fr to v i q : Int32) (X : Stand p l e R s m args below meth c T locs cells slots) (hx : p.tables.exec = Jvm.exec) (hby : c.code = prog_22_method_3_code) (h : ¬ q = (95 : Int32)) (h2 : ¬ q = (46 : Int32)) (h3 : ¬ q = (45 : Int32)) {target : State} (kt : Steps p.tables e below (T.setTop (mkF m 105 #[.val (.ref a), .val (.int fr), .val (.int to), .val (.int v), .val (.int i), .val (.int q)] [])) target) : Steps p.tables e below (T.setTop (mkF m 80 #[.val (.ref a), .val (.int fr), .val (.int to), .val (.int v), .val (.int i), .val (.int q)] [])) target := by
  show Steps p.tables e below (T.setTop (mkF m 80 #[.val (.ref a), .val (.int fr), .val (.int to), .val (.int v), .val (.int i), .val (.int q)] [])) _
  refine XS.iload X.here hx rfl (hb hby d1_80) rfl ?_
  show Steps p.tables e below (T.setTop (mkF m 82 #[.val (.ref a), .val (.int fr), .val (.int to), .val (.int v), .val (.int i), .val (.int q)] [(.int q)])) _
  refine XS.bipush X.here hx rfl (hb hby d1_82) ?_
  show Steps p.tables e below (T.setTop (mkF m 84 #[.val (.ref a), .val (.int fr), .val (.int to), .val (.int v), .val (.int i), .val (.int q)] [(.int (95 : Int32)), (.int q)])) _
  refine XS.icmpNo X.here hx rfl (hb hby d1_84) rfl (feq h).1 ?_
  show Steps p.tables e below (T.setTop (mkF m 87 #[.val (.ref a), .val (.int fr), .val (.int to), .val (.int v), .val (.int i), .val (.int q)] [])) _
  refine XS.iload X.here hx rfl (hb hby d1_87) rfl ?_
  show Steps p.tables e below (T.setTop (mkF m 89 #[.val (.ref a), .val (.int fr), .val (.int to), .val (.int v), .val (.int i), .val (.int q)] [(.int q)])) _
  refine XS.bipush X.here hx rfl (hb hby d1_89) ?_
  show Steps p.tables e below (T.setTop (mkF m 91 #[.val (.ref a), .val (.int fr), .val (.int to), .val (.int v), .val (.int i), .val (.int q)] [(.int (46 : Int32)), (.int q)])) _
  refine XS.icmpNo X.here hx rfl (hb hby d1_91) rfl (feq h2).1 ?_
  show Steps p.tables e below (T.setTop (mkF m 94 #[.val (.ref a), .val (.int fr), .val (.int to), .val (.int v), .val (.int i), .val (.int q)] [])) _
  refine XS.iload X.here hx rfl (hb hby d1_94) rfl ?_
  show Steps p.tables e below (T.setTop (mkF m 96 #[.val (.ref a), .val (.int fr), .val (.int to), .val (.int v), .val (.int i), .val (.int q)] [(.int q)])) _
  refine XS.bipush X.here hx rfl (hb hby d1_96) ?_
  show Steps p.tables e below (T.setTop (mkF m 98 #[.val (.ref a), .val (.int fr), .val (.int to), .val (.int v), .val (.int i), .val (.int q)] [(.int (45 : Int32)), (.int q)])) _
  refine XS.icmpYes X.here hx rfl (pc0 := 98) (pc' := 105) rfl (hb hby d1_98) rfl (feq h3).2 (by decide) (by decide) ?_
  exact kt
theorem own_kc (q : Int32) : (¬ q < 97 ∧ ¬ 122 < q ∧ own_k q = true) ∨ ((q < 97 ∨ ¬ q < 97 ∧ 122 < q) ∧ ((¬ q < 65 ∧ ¬ 90 < q ∧ own_k q = true) ∨ ((q < 65 ∨ ¬ q < 65 ∧ 90 < q) ∧ ((¬ q < 48 ∧ ¬ 57 < q ∧ own_k q = true) ∨ ((q < 48 ∨ ¬ q < 48 ∧ 57 < q) ∧ ((q = 95 ∧ own_k q = true) ∨ (¬ q = 95 ∧ q = 46 ∧ own_k q = true) ∨ (¬ q = 95 ∧ ¬ q = 46 ∧ q = 45 ∧ own_k q = true) ∨ (¬ q = 95 ∧ ¬ q = 46 ∧ ¬ q = 45 ∧ own_k q = false))))))) := by
  by_cases a1 : q < 97 <;> by_cases a2 : 122 < q <;> by_cases b1 : q < 65 <;> by_cases b2 : 90 < q <;> by_cases c1 : q < 48 <;> by_cases c2 : 57 < q <;> by_cases d1 : q = 95 <;> by_cases d2 : q = 46 <;> by_cases d3 : q = 45 <;> simp [own_k, a1, a2, b1, b2, c1, c2, d1, d2, d3]
/-- isName's test of one byte: from pc 38 to pc 106 -/
theorem stepsN {p : Program} {l : Launch} {e : Env} {R : Room} {s : State} {m : MethodId} {args : Array Value} {below : List Frame} {meth : Method} {c : Code} {T : State} {locs : List Loc} {cells slots : Nat} (a : Addr) (fr to v i q : Int32) (X : Stand p l e R s m args below meth c T locs cells slots) (hx : p.tables.exec = Jvm.exec) (hby : c.code = prog_22_method_3_code) {target : State} (kt : Steps p.tables e below (T.setTop (mkF m 106 #[.val (.ref a), .val (.int fr), .val (.int to), .val (.int v), .val (.int i), .val (.int q)] [(.int (own_b (own_k q)))])) target) : Steps p.tables e below (T.setTop (mkF m 38 #[.val (.ref a), .val (.int fr), .val (.int to), .val (.int v), .val (.int i), .val (.int q)] [])) target := by
  have yes : own_k q = true → Steps p.tables e below (T.setTop (mkF m 101 #[.val (.ref a), .val (.int fr), .val (.int to), .val (.int v), .val (.int i), .val (.int q)] [])) target := fun hk => by
    rw [hk] at kt
    show Steps p.tables e below (T.setTop (mkF m 101 #[.val (.ref a), .val (.int fr), .val (.int to), .val (.int v), .val (.int i), .val (.int q)] [])) _
    refine XS.iconst X.here hx rfl (hb hby d1_101) ?_
    show Steps p.tables e below (T.setTop (mkF m 102 #[.val (.ref a), .val (.int fr), .val (.int to), .val (.int v), .val (.int i), .val (.int q)] [(.int (1 : Int32))])) _
    refine XS.goto X.here hx rfl (pc0 := 102) (pc' := 106) rfl (hb hby d1_102) (by decide) (by decide) ?_
    exact kt
  have no : own_k q = false → Steps p.tables e below (T.setTop (mkF m 105 #[.val (.ref a), .val (.int fr), .val (.int to), .val (.int v), .val (.int i), .val (.int q)] [])) target := fun hk => by
    rw [hk] at kt
    show Steps p.tables e below (T.setTop (mkF m 105 #[.val (.ref a), .val (.int fr), .val (.int to), .val (.int v), .val (.int i), .val (.int q)] [])) _
    refine XS.iconst X.here hx rfl (hb hby d1_105) ?_
    exact kt
  have one : (q < 97 ∨ ¬ q < 97 ∧ 122 < q) → Steps p.tables e below (T.setTop (mkF m 52 #[.val (.ref a), .val (.int fr), .val (.int to), .val (.int v), .val (.int i), .val (.int q)] [])) target → Steps p.tables e below (T.setTop (mkF m 38 #[.val (.ref a), .val (.int fr), .val (.int to), .val (.int v), .val (.int i), .val (.int q)] [])) target := fun h k => h.elim (fun h => nm1a a fr to v i q X hx hby h k) (fun h => nm1b a fr to v i q X hx hby h.1 h.2 k)
  have two : (q < 65 ∨ ¬ q < 65 ∧ 90 < q) → Steps p.tables e below (T.setTop (mkF m 66 #[.val (.ref a), .val (.int fr), .val (.int to), .val (.int v), .val (.int i), .val (.int q)] [])) target → Steps p.tables e below (T.setTop (mkF m 52 #[.val (.ref a), .val (.int fr), .val (.int to), .val (.int v), .val (.int i), .val (.int q)] [])) target := fun h k => h.elim (fun h => nm2a a fr to v i q X hx hby h k) (fun h => nm2b a fr to v i q X hx hby h.1 h.2 k)
  have thr : (q < 48 ∨ ¬ q < 48 ∧ 57 < q) → Steps p.tables e below (T.setTop (mkF m 80 #[.val (.ref a), .val (.int fr), .val (.int to), .val (.int v), .val (.int i), .val (.int q)] [])) target → Steps p.tables e below (T.setTop (mkF m 66 #[.val (.ref a), .val (.int fr), .val (.int to), .val (.int v), .val (.int i), .val (.int q)] [])) target := fun h k => h.elim (fun h => nm3a a fr to v i q X hx hby h k) (fun h => nm3b a fr to v i q X hx hby h.1 h.2 k)
  rcases own_kc q with ⟨h1, h2, hk⟩ | ⟨f1, ⟨h1, h2, hk⟩ | ⟨f2, ⟨h1, h2, hk⟩ | ⟨f3, ⟨h1, hk⟩ | ⟨h1, h2, hk⟩ | ⟨h1, h2, h3, hk⟩ | ⟨h1, h2, h3, hk⟩⟩⟩⟩
  · exact nm1c a fr to v i q X hx hby h1 h2 (yes hk)
  · exact one f1 (nm2c a fr to v i q X hx hby h1 h2 (yes hk))
  · exact one f1 (two f2 (nm3c a fr to v i q X hx hby h1 h2 (yes hk)))
  · exact one f1 (two f2 (thr f3 (nm4a a fr to v i q X hx hby h1 (yes hk))))
  · exact one f1 (two f2 (thr f3 (nm4b a fr to v i q X hx hby h1 h2 (yes hk))))
  · exact one f1 (two f2 (thr f3 (nm4c a fr to v i q X hx hby h1 h2 h3 (yes hk))))
  · exact one f1 (two f2 (thr f3 (nm4d a fr to v i q X hx hby h1 h2 h3 (no hk))))
/-- ok, whole: to one of its four returns -/
theorem stepsO {p : Program} {l : Launch} {e : Env} {R : Room} {s : State} {m : MethodId} {args : Array Value} {below : List Frame} {meth : Method} {c : Code} {T : State} {locs : List Loc} {cells slots : Nat} (q : Int32) (X : Stand p l e R s m args below meth c T locs cells slots) (hx : p.tables.exec = Jvm.exec) (hby : c.code = method_4_code) :
    ∃ pc, decode c.code pc = .ok (.ireturn, 1) ∧ ∀ target, Steps p.tables e below (T.setTop (mkF m pc #[.val (.int q)] [(.int (own_b (own_k q)))])) target → Steps p.tables e below (T.setTop (mkF m 0 #[.val (.int q)] [])) target := by
  have y1 : own_k q = true → (∀ target, Steps p.tables e below (T.setTop (mkF m 13 #[.val (.int q)] [(.int (own_b (own_k q)))])) target → Steps p.tables e below (T.setTop (mkF m 12 #[.val (.int q)] [])) target) := fun hk target kt => by
    rw [hk] at kt
    show Steps p.tables e below (T.setTop (mkF m 12 #[.val (.int q)] [])) _
    refine XS.iconst X.here hx rfl (hb hby d3_12) ?_
    exact kt
  have y2 : own_k q = true → (∀ target, Steps p.tables e below (T.setTop (mkF m 27 #[.val (.int q)] [(.int (own_b (own_k q)))])) target → Steps p.tables e below (T.setTop (mkF m 26 #[.val (.int q)] [])) target) := fun hk target kt => by
    rw [hk] at kt
    show Steps p.tables e below (T.setTop (mkF m 26 #[.val (.int q)] [])) _
    refine XS.iconst X.here hx rfl (hb hby d3_26) ?_
    exact kt
  have y3 : own_k q = true → (∀ target, Steps p.tables e below (T.setTop (mkF m 41 #[.val (.int q)] [(.int (own_b (own_k q)))])) target → Steps p.tables e below (T.setTop (mkF m 40 #[.val (.int q)] [])) target) := fun hk target kt => by
    rw [hk] at kt
    show Steps p.tables e below (T.setTop (mkF m 40 #[.val (.int q)] [])) _
    refine XS.iconst X.here hx rfl (hb hby d3_40) ?_
    exact kt
  have y4 : own_k q = true → (∀ target, Steps p.tables e below (T.setTop (mkF m 65 #[.val (.int q)] [(.int (own_b (own_k q)))])) target → Steps p.tables e below (T.setTop (mkF m 60 #[.val (.int q)] [])) target) := fun hk target kt => by
    rw [hk] at kt
    show Steps p.tables e below (T.setTop (mkF m 60 #[.val (.int q)] [])) _
    refine XS.iconst X.here hx rfl (hb hby d3_60) ?_
    show Steps p.tables e below (T.setTop (mkF m 61 #[.val (.int q)] [(.int (1 : Int32))])) _
    refine XS.goto X.here hx rfl (pc0 := 61) (pc' := 65) rfl (hb hby d3_61) (by decide) (by decide) ?_
    exact kt
  have no : own_k q = false → (∀ target, Steps p.tables e below (T.setTop (mkF m 65 #[.val (.int q)] [(.int (own_b (own_k q)))])) target → Steps p.tables e below (T.setTop (mkF m 64 #[.val (.int q)] [])) target) := fun hk target kt => by
    rw [hk] at kt
    show Steps p.tables e below (T.setTop (mkF m 64 #[.val (.int q)] [])) _
    refine XS.iconst X.here hx rfl (hb hby d3_64) ?_
    exact kt
  have one : (q < 97 ∨ ¬ q < 97 ∧ 122 < q) → ∀ target, Steps p.tables e below (T.setTop (mkF m 14 #[.val (.int q)] [])) target → Steps p.tables e below (T.setTop (mkF m 0 #[.val (.int q)] [])) target := fun h _ k => h.elim (fun h => ok1a q X hx hby h k) (fun h => ok1b q X hx hby h.1 h.2 k)
  have two : (q < 65 ∨ ¬ q < 65 ∧ 90 < q) → ∀ target, Steps p.tables e below (T.setTop (mkF m 28 #[.val (.int q)] [])) target → Steps p.tables e below (T.setTop (mkF m 14 #[.val (.int q)] [])) target := fun h _ k => h.elim (fun h => ok2a q X hx hby h k) (fun h => ok2b q X hx hby h.1 h.2 k)
  have thr : (q < 48 ∨ ¬ q < 48 ∧ 57 < q) → ∀ target, Steps p.tables e below (T.setTop (mkF m 42 #[.val (.int q)] [])) target → Steps p.tables e below (T.setTop (mkF m 28 #[.val (.int q)] [])) target := fun h _ k => h.elim (fun h => ok3a q X hx hby h k) (fun h => ok3b q X hx hby h.1 h.2 k)
  rcases own_kc q with ⟨h1, h2, hk⟩ | ⟨f1, ⟨h1, h2, hk⟩ | ⟨f2, ⟨h1, h2, hk⟩ | ⟨f3, ⟨h1, hk⟩ | ⟨h1, h2, hk⟩ | ⟨h1, h2, h3, hk⟩ | ⟨h1, h2, h3, hk⟩⟩⟩⟩
  · exact ⟨13, hb hby d3_13, fun t k => ok1c q X hx hby h1 h2 (y1 hk t k)⟩
  · exact ⟨27, hb hby d3_27, fun t k => one f1 t (ok2c q X hx hby h1 h2 (y2 hk t k))⟩
  · exact ⟨41, hb hby d3_41, fun t k => one f1 t (two f2 t (ok3c q X hx hby h1 h2 (y3 hk t k)))⟩
  · exact ⟨65, hb hby d3_65, fun t k => one f1 t (two f2 t (thr f3 t (ok4a q X hx hby h1 (y4 hk t k))))⟩
  · exact ⟨65, hb hby d3_65, fun t k => one f1 t (two f2 t (thr f3 t (ok4b q X hx hby h1 h2 (y4 hk t k))))⟩
  · exact ⟨65, hb hby d3_65, fun t k => one f1 t (two f2 t (thr f3 t (ok4c q X hx hby h1 h2 h3 (y4 hk t k))))⟩
  · exact ⟨65, hb hby d3_65, fun t k => one f1 t (two f2 t (thr f3 t (ok4d q X hx hby h1 h2 h3 (no hk t k))))⟩
def QV (z : Int32) (h0 : Heap) (n0 : Nat) (v : Option Value) (h : Heap) (L : List Loc) : Prop := v = some (.int z) ∧ Fr n0 L ∧ h = h0
set_option maxRecDepth 65536 in
set_option maxHeartbeats 40000000 in
theorem rm3 (l : Launch) (Z : State) (a0 : Array Value) (hw : ∀ d ∈ tables_1, d.before a0 Z = true) (ws : List Jvm.Cond) (q : Int32) (h0 : Heap) (n0 : Nat) :
    MetFree l (⟨"com/example/lattis/lattis/NamesIsNamePinLaw", "ok", "(I)Z"⟩ : MethodName) (head1 (Jvm.Cond.code (⟨"com/example/lattis/lattis/NamesIsNamePinLaw", "ok", "(I)Z"⟩ : MethodName) method_4_code 1 (some .boolean) :: ws) ({ frames := 0, cells := 0, slots := 0, locals := 0 } : Room)) (fun a U => a = #[(.int q)] ∧ Z.Warmed39 U.vm ∧ U.heap = h0) (fun _ _ _ _ _ => True) (fun _ U o U' => ∃ v L, o = .returned v ∧ QV (own_b (own_k q)) h0 n0 v U'.heap L ∧ FrameEnd U o U' L ({ frames := 0, cells := 0, slots := 0, locals := 0 } : Room).cells ({ frames := 0, cells := 0, slots := 0, locals := 0 } : Room).slots) := by
  refine MetFree.of_bodySF (plainFor_of_name pn_0) hisR ?_
  intro p e s m args below meth c s₁ Bd hml0 hP hK
  obtain ⟨rfl, hZ, hh⟩ := hP
  have hx := Bd.exec
  have hby := Bd.bytes
  have hml : c.maxLocals = 1 := hml0
  have hown : s.vm.findClass "com/example/lattis/lattis/NamesIsNamePinLaw" = some m.cls := findClass_of_methodNamed Bd.named
  have hnm := (name_of_methodNamed Bd.named Bd.method).1
  have X0 : Stand p l e ({ frames := 0, cells := 0, slots := 0, locals := 0 } : Room) s m #[(.int q)] below meth c s₁ [] 0 0 := Stand.of_body Bd
  have e0 : s₁.heap = h0 := by rw [← hh, Bd.state]; rfl
  have N0 := Fr.nil n0
  have pre0 : ∀ t, Steps p.tables e below (s₁.setTop (mkF m 0 #[.val (.int q)] [])) t → Steps p.tables e below (s₁.setTop (entryFrame m #[(.int q)] 1)) t := fun t k => castTop (ef_3 m q) k
  obtain ⟨pcR, hdR, stR⟩ := stepsO q X0 hx hby
  obtain ⟨fs, hr, hrun, hended, hW, hsame⟩ := X0.leave (v := some (.int (own_b (own_k q)))) (fun h => by rw [Bd.returns] at h; cases h)
  refine ⟨_, _, pre0 _ ?_, hrun, hended, _, _, rfl, ?_, ⟨_, rfl⟩, hW, hsame.mono (by decide) (by decide)⟩
  · refine stR _ ?_
    exact retN X0 hx (t := .boolean) Bd.returns (by simp) hdR (by rw [own_bn]; exact hr)
  · exact ⟨rfl, N0, e0⟩
set_option maxRecDepth 65536 in
set_option maxHeartbeats 40000000 in
theorem rm2 (l : Launch) (Z : State) (a0 : Array Value) (hw : ∀ d ∈ tables_1, d.before a0 Z = true) (ws : List Jvm.Cond) (q i fr to : Int32) (h0 : Heap) (n0 : Nat) :
    MetFree l (⟨"com/example/lattis/lattis/NamesIsNamePinLaw", "good", "(BIII)Z"⟩ : MethodName) (head1 (Jvm.Cond.code (⟨"com/example/lattis/lattis/NamesIsNamePinLaw", "good", "(BIII)Z"⟩ : MethodName) method_3_code 4 (some .boolean) :: ws) ({ frames := 1, cells := 0, slots := 0, locals := 12 } : Room)) (fun a U => a = #[(.int q), (.int i), (.int fr), (.int to)] ∧ Z.Warmed39 U.vm ∧ U.heap = h0) (fun _ _ _ _ _ => True) (fun _ U o U' => ∃ v L, o = .returned v ∧ QV (own_b (own_g q i fr to)) h0 n0 v U'.heap L ∧ FrameEnd U o U' L ({ frames := 1, cells := 0, slots := 0, locals := 12 } : Room).cells ({ frames := 1, cells := 0, slots := 0, locals := 12 } : Room).slots) := by
  refine MetFree.of_bodySF (plainFor_of_name pn_0) hisR ?_
  intro p e s m args below meth c s₁ Bd hml0 hP hK
  obtain ⟨rfl, hZ, hh⟩ := hP
  have hx := Bd.exec
  have hby := Bd.bytes
  have hml : c.maxLocals = 4 := hml0
  have hown : s.vm.findClass "com/example/lattis/lattis/NamesIsNamePinLaw" = some m.cls := findClass_of_methodNamed Bd.named
  have hnm := (name_of_methodNamed Bd.named Bd.method).1
  have X0 : Stand p l e ({ frames := 1, cells := 0, slots := 0, locals := 12 } : Room) s m #[(.int q), (.int i), (.int fr), (.int to)] below meth c s₁ [] 0 0 := Stand.of_body Bd
  have e0 : s₁.heap = h0 := by rw [← hh, Bd.state]; rfl
  have N0 := Fr.nil n0
  have pre0 : ∀ t, Steps p.tables e below (s₁.setTop (mkF m 0 #[.val (.int q), .val (.int i), .val (.int fr), .val (.int to)] [])) t → Steps p.tables e below (s₁.setTop (entryFrame m #[(.int q), (.int i), (.int fr), (.int to)] 4)) t := fun t k => castTop (ef_2 m q i fr to) k
  by_cases g1 : i < fr
  · have hv : own_g q i fr to = true := by simp [own_g, g1]
    rw [hv]
    obtain ⟨fs, hr, hrun, hended, hW, hsame⟩ := X0.leave (v := some (.int (1 : Int32))) (fun h => by rw [Bd.returns] at h; cases h)
    refine ⟨_, _, pre0 _ ?_, hrun, hended, _, _, rfl, ?_, ⟨_, rfl⟩, hW, hsame.mono (by decide) (by decide)⟩
    · show Steps p.tables e below (s₁.setTop (mkF m 0 #[.val (.int q), .val (.int i), .val (.int fr), .val (.int to)] [])) _
      refine XS.iloadN X0.here hx rfl (hb hby d2_0) rfl ?_
      show Steps p.tables e below (s₁.setTop (mkF m 1 #[.val (.int q), .val (.int i), .val (.int fr), .val (.int to)] [(.int i)])) _
      refine XS.iloadN X0.here hx rfl (hb hby d2_1) rfl ?_
      show Steps p.tables e below (s₁.setTop (mkF m 2 #[.val (.int q), .val (.int i), .val (.int fr), .val (.int to)] [(.int fr), (.int i)])) _
      refine XS.icmpYes X0.here hx rfl (pc0 := 2) (pc' := 10) rfl (hb hby d2_2) rfl (tlt g1).1 (by decide) (by decide) ?_
      show Steps p.tables e below (s₁.setTop (mkF m 10 #[.val (.int q), .val (.int i), .val (.int fr), .val (.int to)] [])) _
      refine XS.iconst X0.here hx rfl (hb hby d2_10) ?_
      exact retN X0 hx (t := .boolean) Bd.returns (by simp) (hb hby d2_11) hr
    · exact ⟨rfl, N0, e0⟩
  · by_cases g2 : i < to
    · have hv : own_g q i fr to = own_k q := by simp [own_g, g1, g2]
      rw [hv]
      obtain ⟨_, _, ⟨T2, L2, k2, n2⟩, -, X2, ⟨Lc2, hQ2, l2, y2, z2⟩, st2⟩ := Jvm.LawKit.callS X0 hx (y := (⟨"com/example/lattis/lattis/NamesIsNamePinLaw", "ok", "(I)Z"⟩ : MethodName)) hown (mvT hZ (hw _ (List.mem_of_getElem? (i := 10) rfl))) (mvT hZ (hw _ (List.mem_of_getElem? (i := 11) rfl))) (mvT hZ (hw _ (List.mem_of_getElem? (i := 8) rfl))) (mvT hZ (hw _ (List.mem_of_getElem? (i := 12) rfl))) (by decide) (backOf (W := 0) (rm3 l Z a0 hw [] q s₁.heap n0) hZ (hw _ (List.mem_of_getElem? (i := 12) rfl)) (hw _ (List.mem_of_getElem? (i := 8) rfl)) (by decide) (by decide)) (g := (mkF m 13 #[.val (.int q), .val (.int i), .val (.int fr), .val (.int to)] [(.int q)])) rfl (by rw [hml]; rfl) (argsL := [(.int q)]) (rest := []) (lenOf pd_o rfl) rfl (by show 2 * 0 + _ ≤ _; exact Nat.le_of_eq rfl) (hb hby d2_13) (fun _ _ => ⟨rfl, rfl, (by decide : 0 + 0 ≤ _), (by decide : 0 + 0 ≤ _)⟩)
      dsimp only [Pt.U, Pt.locs, Pt.cells, Pt.slots] at X2 l2 y2 z2 st2 hQ2
      subst l2 y2 z2
      obtain ⟨rfl, N2q, e2⟩ := hQ2
      have N2 := Fr.app N0 N2q
      obtain ⟨fs, hr, hrun, hended, hW, hsame⟩ := X2.leave (v := some (.int (own_b (own_k q)))) (fun h => by rw [Bd.returns] at h; cases h)
      refine ⟨_, _, pre0 _ ?_, hrun, hended, _, _, rfl, ?_, ⟨_, rfl⟩, hW, hsame.mono (by decide) (by decide)⟩
      · show Steps p.tables e below (s₁.setTop (mkF m 0 #[.val (.int q), .val (.int i), .val (.int fr), .val (.int to)] [])) _
        refine XS.iloadN X0.here hx rfl (hb hby d2_0) rfl ?_
        show Steps p.tables e below (s₁.setTop (mkF m 1 #[.val (.int q), .val (.int i), .val (.int fr), .val (.int to)] [(.int i)])) _
        refine XS.iloadN X0.here hx rfl (hb hby d2_1) rfl ?_
        show Steps p.tables e below (s₁.setTop (mkF m 2 #[.val (.int q), .val (.int i), .val (.int fr), .val (.int to)] [(.int fr), (.int i)])) _
        refine XS.icmpNo X0.here hx rfl (hb hby d2_2) rfl (flt g1).1 ?_
        show Steps p.tables e below (s₁.setTop (mkF m 5 #[.val (.int q), .val (.int i), .val (.int fr), .val (.int to)] [])) _
        refine XS.iloadN X0.here hx rfl (hb hby d2_5) rfl ?_
        show Steps p.tables e below (s₁.setTop (mkF m 6 #[.val (.int q), .val (.int i), .val (.int fr), .val (.int to)] [(.int i)])) _
        refine XS.iloadN X0.here hx rfl (hb hby d2_6) rfl ?_
        show Steps p.tables e below (s₁.setTop (mkF m 7 #[.val (.int q), .val (.int i), .val (.int fr), .val (.int to)] [(.int to), (.int i)])) _
        refine XS.icmpYes X0.here hx rfl (pc0 := 7) (pc' := 12) rfl (hb hby d2_7) rfl (tlt g2).1 (by decide) (by decide) ?_
        show Steps p.tables e below (s₁.setTop (mkF m 12 #[.val (.int q), .val (.int i), .val (.int fr), .val (.int to)] [])) _
        refine XS.iloadN X0.here hx rfl (hb hby d2_12) rfl ?_
        show Steps p.tables e below (s₁.setTop (mkF m 13 #[.val (.int q), .val (.int i), .val (.int fr), .val (.int to)] [(.int q)])) _
        refine st2 _ ?_
        show Steps p.tables e below (T2.setTop (mkF m 16 #[.val (.int q), .val (.int i), .val (.int fr), .val (.int to)] [(.int (own_b (own_k q)))])) _
        exact retN X2 hx (t := .boolean) Bd.returns (by simp) (hb hby d2_16) (by rw [own_bn]; exact hr)
      · exact ⟨rfl, N2, e2.trans e0⟩
    · have hv : own_g q i fr to = true := by simp [own_g, g1, g2]
      rw [hv]
      obtain ⟨fs, hr, hrun, hended, hW, hsame⟩ := X0.leave (v := some (.int (1 : Int32))) (fun h => by rw [Bd.returns] at h; cases h)
      refine ⟨_, _, pre0 _ ?_, hrun, hended, _, _, rfl, ?_, ⟨_, rfl⟩, hW, hsame.mono (by decide) (by decide)⟩
      · show Steps p.tables e below (s₁.setTop (mkF m 0 #[.val (.int q), .val (.int i), .val (.int fr), .val (.int to)] [])) _
        refine XS.iloadN X0.here hx rfl (hb hby d2_0) rfl ?_
        show Steps p.tables e below (s₁.setTop (mkF m 1 #[.val (.int q), .val (.int i), .val (.int fr), .val (.int to)] [(.int i)])) _
        refine XS.iloadN X0.here hx rfl (hb hby d2_1) rfl ?_
        show Steps p.tables e below (s₁.setTop (mkF m 2 #[.val (.int q), .val (.int i), .val (.int fr), .val (.int to)] [(.int fr), (.int i)])) _
        refine XS.icmpNo X0.here hx rfl (hb hby d2_2) rfl (flt g1).1 ?_
        show Steps p.tables e below (s₁.setTop (mkF m 5 #[.val (.int q), .val (.int i), .val (.int fr), .val (.int to)] [])) _
        refine XS.iloadN X0.here hx rfl (hb hby d2_5) rfl ?_
        show Steps p.tables e below (s₁.setTop (mkF m 6 #[.val (.int q), .val (.int i), .val (.int fr), .val (.int to)] [(.int i)])) _
        refine XS.iloadN X0.here hx rfl (hb hby d2_6) rfl ?_
        show Steps p.tables e below (s₁.setTop (mkF m 7 #[.val (.int q), .val (.int i), .val (.int fr), .val (.int to)] [(.int to), (.int i)])) _
        refine XS.icmpNo X0.here hx rfl (hb hby d2_7) rfl (flt g2).1 ?_
        show Steps p.tables e below (s₁.setTop (mkF m 10 #[.val (.int q), .val (.int i), .val (.int fr), .val (.int to)] [])) _
        refine XS.iconst X0.here hx rfl (hb hby d2_10) ?_
        exact retN X0 hx (t := .boolean) Bd.returns (by simp) (hb hby d2_11) hr
      · exact ⟨rfl, N0, e0⟩
theorem own_s5 {z0 z1 z2 z3 z4 : Value} {s5 : Slot} {v : Int32} (h : One s5) : storeLocals #[.val z0, .val z1, .val z2, .val z3, .val z4, s5] 5 (.int v) = some #[.val z0, .val z1, .val z2, .val z3, .val z4, .val (.int v)] := by
  rcases h with rfl | ⟨w, rfl, hw⟩
  · rfl
  · cases w <;> first | rfl | (simp [Value.category] at hw)
set_option maxRecDepth 65536 in
set_option maxHeartbeats 40000000 in
theorem loopN {p : Program} {l : Launch} {e : Env} {R : Room} {s : State} {m : MethodId} {args : Array Value} {below : List Frame} {meth : Method} {c : Code} {T : State} {locs : List Loc} {cells slots : Nat} {Z : State} (a : Addr) (fr : Int32) (Tn : Nat) (f : Nat → Int32) (hT : Tn ≤ 68) (X : Stand p l e R s m args below meth c T locs cells slots) (hx : p.tables.exec = Jvm.exec) (hZ : Z.Warmed39 s.vm) (hby : c.code = prog_22_method_3_code) (B : By Z T.heap a 68 f) {target : State} :
    ∀ (k i : Nat) (s5 : Slot), i + k = Tn → One s5 → (∀ (i' : Int32) (s5' : Slot), Steps p.tables e below (T.setTop (mkF m 113 #[.val (.ref a), .val (.int fr), .val (.int (Int32.ofNat Tn)), .val (.int (own_b (own_all f i k))), .val (.int i'), s5'] [])) target) → Steps p.tables e below (T.setTop (mkF m 22 #[.val (.ref a), .val (.int fr), .val (.int (Int32.ofNat Tn)), .val (.int (1 : Int32)), .val (.int (Int32.ofNat i)), s5] [])) target := by
  intro k
  induction k with
  | zero =>
    intro i s5 hi h5 kt
    show Steps p.tables e below (T.setTop (mkF m 22 #[.val (.ref a), .val (.int fr), .val (.int (Int32.ofNat Tn)), .val (.int (1 : Int32)), .val (.int (Int32.ofNat i)), s5] [])) _
    refine XS.iloadN X.here hx rfl (hb hby d1_22) rfl ?_
    show Steps p.tables e below (T.setTop (mkF m 23 #[.val (.ref a), .val (.int fr), .val (.int (Int32.ofNat Tn)), .val (.int (1 : Int32)), .val (.int (Int32.ofNat i)), s5] [(.int (1 : Int32))])) _
    refine XS.ifNo X.here hx rfl (hb hby d1_23) rfl ((if0 _ _).trans (feq (by decide)).1) ?_
    show Steps p.tables e below (T.setTop (mkF m 26 #[.val (.ref a), .val (.int fr), .val (.int (Int32.ofNat Tn)), .val (.int (1 : Int32)), .val (.int (Int32.ofNat i)), s5] [])) _
    refine XS.iload X.here hx rfl (hb hby d1_26) rfl ?_
    show Steps p.tables e below (T.setTop (mkF m 28 #[.val (.ref a), .val (.int fr), .val (.int (Int32.ofNat Tn)), .val (.int (1 : Int32)), .val (.int (Int32.ofNat i)), s5] [(.int (Int32.ofNat i))])) _
    refine XS.iloadN X.here hx rfl (hb hby d1_28) rfl ?_
    show Steps p.tables e below (T.setTop (mkF m 29 #[.val (.ref a), .val (.int fr), .val (.int (Int32.ofNat Tn)), .val (.int (1 : Int32)), .val (.int (Int32.ofNat i)), s5] [(.int (Int32.ofNat Tn)), (.int (Int32.ofNat i))])) _
    refine XS.icmpYes X.here hx rfl (pc0 := 29) (pc' := 113) rfl (hb hby d1_29) rfl (flt (own_nlt (by omega) (by omega))).2.1 (by decide) (by decide) ?_
    exact kt _ _
  | succ k ih =>
    intro i s5 hi h5 kt
    show Steps p.tables e below (T.setTop (mkF m 22 #[.val (.ref a), .val (.int fr), .val (.int (Int32.ofNat Tn)), .val (.int (1 : Int32)), .val (.int (Int32.ofNat i)), s5] [])) _
    refine XS.iloadN X.here hx rfl (hb hby d1_22) rfl ?_
    show Steps p.tables e below (T.setTop (mkF m 23 #[.val (.ref a), .val (.int fr), .val (.int (Int32.ofNat Tn)), .val (.int (1 : Int32)), .val (.int (Int32.ofNat i)), s5] [(.int (1 : Int32))])) _
    refine XS.ifNo X.here hx rfl (hb hby d1_23) rfl ((if0 _ _).trans (feq (by decide)).1) ?_
    show Steps p.tables e below (T.setTop (mkF m 26 #[.val (.ref a), .val (.int fr), .val (.int (Int32.ofNat Tn)), .val (.int (1 : Int32)), .val (.int (Int32.ofNat i)), s5] [])) _
    refine XS.iload X.here hx rfl (hb hby d1_26) rfl ?_
    show Steps p.tables e below (T.setTop (mkF m 28 #[.val (.ref a), .val (.int fr), .val (.int (Int32.ofNat Tn)), .val (.int (1 : Int32)), .val (.int (Int32.ofNat i)), s5] [(.int (Int32.ofNat i))])) _
    refine XS.iloadN X.here hx rfl (hb hby d1_28) rfl ?_
    show Steps p.tables e below (T.setTop (mkF m 29 #[.val (.ref a), .val (.int fr), .val (.int (Int32.ofNat Tn)), .val (.int (1 : Int32)), .val (.int (Int32.ofNat i)), s5] [(.int (Int32.ofNat Tn)), (.int (Int32.ofNat i))])) _
    refine XS.icmpNo X.here hx rfl (hb hby d1_29) rfl (tlt (own_lt (by omega) hT)).2.1 ?_
    show Steps p.tables e below (T.setTop (mkF m 32 #[.val (.ref a), .val (.int fr), .val (.int (Int32.ofNat Tn)), .val (.int (1 : Int32)), .val (.int (Int32.ofNat i)), s5] [])) _
    refine XS.aloadN X.here hx rfl (hb hby d1_32) rfl rfl ?_
    show Steps p.tables e below (T.setTop (mkF m 33 #[.val (.ref a), .val (.int fr), .val (.int (Int32.ofNat Tn)), .val (.int (1 : Int32)), .val (.int (Int32.ofNat i)), s5] [(.ref a)])) _
    refine XS.iload X.here hx rfl (hb hby d1_33) rfl ?_
    show Steps p.tables e below (T.setTop (mkF m 35 #[.val (.ref a), .val (.int fr), .val (.int (Int32.ofNat Tn)), .val (.int (1 : Int32)), .val (.int (Int32.ofNat i)), s5] [(.int (Int32.ofNat i)), (.ref a)])) _
    refine ldBy X hx hZ B (j := (Int32.ofNat i)) (own_nn (by omega)) (by rw [own_n32 (by omega)]; omega) (g := (mkF m 35 #[.val (.ref a), .val (.int fr), .val (.int (Int32.ofNat Tn)), .val (.int (1 : Int32)), .val (.int (Int32.ofNat i)), s5] [(.int (Int32.ofNat i)), (.ref a)])) rfl rfl (hb hby d1_35) ?_
    rw [own_n32 (show i ≤ 68 by omega)]
    show Steps p.tables e below (T.setTop (mkF m 36 #[.val (.ref a), .val (.int fr), .val (.int (Int32.ofNat Tn)), .val (.int (1 : Int32)), .val (.int (Int32.ofNat i)), s5] [(.int (f i))])) _
    refine XS.istore X.here hx rfl (hb hby d1_36) rfl (l' := #[.val (.ref a), .val (.int fr), .val (.int (Int32.ofNat Tn)), .val (.int (1 : Int32)), .val (.int (Int32.ofNat i)), .val (.int (f i))]) (own_s5 h5) ?_
    show Steps p.tables e below (T.setTop (mkF m 38 #[.val (.ref a), .val (.int fr), .val (.int (Int32.ofNat Tn)), .val (.int (1 : Int32)), .val (.int (Int32.ofNat i)), .val (.int (f i))] [])) _
    refine stepsN a fr (Int32.ofNat Tn) (1 : Int32) (Int32.ofNat i) (f i) X hx hby ?_
    show Steps p.tables e below (T.setTop (mkF m 106 #[.val (.ref a), .val (.int fr), .val (.int (Int32.ofNat Tn)), .val (.int (1 : Int32)), .val (.int (Int32.ofNat i)), .val (.int (f i))] [(.int (own_b (own_k (f i))))])) _
    refine XS.istoreN X.here hx rfl (hb hby d1_106) rfl (l' := #[.val (.ref a), .val (.int fr), .val (.int (Int32.ofNat Tn)), .val (.int (own_b (own_k (f i)))), .val (.int (Int32.ofNat i)), .val (.int (f i))]) rfl ?_
    show Steps p.tables e below (T.setTop (mkF m 107 #[.val (.ref a), .val (.int fr), .val (.int (Int32.ofNat Tn)), .val (.int (own_b (own_k (f i)))), .val (.int (Int32.ofNat i)), .val (.int (f i))] [])) _
    refine XS.iinc X.here hx rfl (hb hby d1_107) rfl (l' := #[.val (.ref a), .val (.int fr), .val (.int (Int32.ofNat Tn)), .val (.int (own_b (own_k (f i)))), .val (.int ((Int32.ofNat i) + (1 : Int32))), .val (.int (f i))]) rfl ?_
    show Steps p.tables e below (T.setTop (mkF m 110 #[.val (.ref a), .val (.int fr), .val (.int (Int32.ofNat Tn)), .val (.int (own_b (own_k (f i)))), .val (.int ((Int32.ofNat i) + (1 : Int32))), .val (.int (f i))] [])) _
    refine XS.goto X.here hx rfl (pc0 := 110) (pc' := 22) rfl (hb hby d1_110) (by decide) (by decide) ?_
    cases hk : own_k (f i) with
    | true =>
      have e1 : own_all f i (k + 1) = own_all f (i + 1) k := by simp [own_all, hk]
      rw [e1] at kt
      rw [own_one]
      exact ih (i + 1) (.val (.int (f i))) (by omega) (One.val rfl) kt
    | false =>
      have e1 : own_all f i (k + 1) = false := by simp [own_all, hk]
      rw [e1] at kt
      show Steps p.tables e below (T.setTop (mkF m 22 #[.val (.ref a), .val (.int fr), .val (.int (Int32.ofNat Tn)), .val (.int (0 : Int32)), .val (.int (Int32.ofNat i + (1 : Int32))), .val (.int (f i))] [])) _
      refine XS.iloadN X.here hx rfl (hb hby d1_22) rfl ?_
      show Steps p.tables e below (T.setTop (mkF m 23 #[.val (.ref a), .val (.int fr), .val (.int (Int32.ofNat Tn)), .val (.int (0 : Int32)), .val (.int (Int32.ofNat i + (1 : Int32))), .val (.int (f i))] [(.int (0 : Int32))])) _
      refine XS.ifYes X.here hx rfl (pc0 := 23) (pc' := 113) rfl (hb hby d1_23) rfl ((if0 _ _).trans (teq rfl).1) (by decide) (by decide) ?_
      exact kt _ _
set_option maxRecDepth 65536 in
set_option maxHeartbeats 40000000 in
theorem rm1 (l : Launch) (Z : State) (a0 : Array Value) (hw : ∀ d ∈ tables_1, d.before a0 Z = true) (ws : List Jvm.Cond) (a1 : Addr) (f : Nat → Int32) (F Tn : Nat) (hF : F ≤ 68) (hT : Tn ≤ 68) (h0 : Heap) (n0 : Nat) (B : By Z h0 a1 68 f) :
    MetFree l (⟨"com/example/lattis/lattis/Names", "isName", "([BII)Z"⟩ : MethodName) (head1 (Jvm.Cond.code (⟨"com/example/lattis/lattis/Names", "isName", "([BII)Z"⟩ : MethodName) prog_22_method_3_code 6 (some .boolean) :: ws) ({ frames := 0, cells := 0, slots := 0, locals := 0 } : Room)) (fun a U => a = #[(.ref a1), (.int (Int32.ofNat F)), (.int (Int32.ofNat Tn))] ∧ Z.Warmed39 U.vm ∧ U.heap = h0) (fun _ _ _ _ _ => True) (fun _ U o U' => ∃ v L, o = .returned v ∧ QV (own_b (own_name f F Tn)) h0 n0 v U'.heap L ∧ FrameEnd U o U' L ({ frames := 0, cells := 0, slots := 0, locals := 0 } : Room).cells ({ frames := 0, cells := 0, slots := 0, locals := 0 } : Room).slots) := by
  refine MetFree.of_bodySF (plainFor_of_name pn_1) hisR ?_
  intro p e s m args below meth c s₁ Bd hml0 hP hK
  obtain ⟨rfl, hZ, hh⟩ := hP
  have hx := Bd.exec
  have hby := Bd.bytes
  have hml : c.maxLocals = 6 := hml0
  have hown : s.vm.findClass "com/example/lattis/lattis/Names" = some m.cls := findClass_of_methodNamed Bd.named
  have hnm := (name_of_methodNamed Bd.named Bd.method).1
  have X0 : Stand p l e ({ frames := 0, cells := 0, slots := 0, locals := 0 } : Room) s m #[(.ref a1), (.int (Int32.ofNat F)), (.int (Int32.ofNat Tn))] below meth c s₁ [] 0 0 := Stand.of_body Bd
  have e0 : s₁.heap = h0 := by rw [← hh, Bd.state]; rfl
  have N0 := Fr.nil n0
  have pre0 : ∀ t, Steps p.tables e below (s₁.setTop (mkF m 0 #[.val (.ref a1), .val (.int (Int32.ofNat F)), .val (.int (Int32.ofNat Tn)), .unset, .unset, .unset] [])) t → Steps p.tables e below (s₁.setTop (entryFrame m #[(.ref a1), (.int (Int32.ofNat F)), (.int (Int32.ofNat Tn))] 6)) t := fun t k => castTop (ef_1 m a1 (Int32.ofNat F) (Int32.ofNat Tn)) k
  have B0 : By Z s₁.heap a1 68 f := by rw [e0]; exact B
  have es := own_sub hF hT
  have e64 : (64 : Int32).toInt = 64 := by decide
  by_cases g1 : Int32.ofNat F < Int32.ofNat Tn
  · have g1' : F < Tn := by
      rcases Nat.lt_or_ge F Tn with q | q
      · exact q
      · exact absurd g1 (own_nlt q hF)
    by_cases g2 : (64 : Int32) < (Int32.ofNat Tn - Int32.ofNat F)
    · have g2' : ¬ Tn - F ≤ 64 := by rw [Int32.lt_iff_toInt_lt] at g2; omega
      have hv : own_name f F Tn = false := by simp only [own_name, g2', decide_false, Bool.false_and, Bool.and_false]
      rw [hv]
      obtain ⟨fs, hr, hrun, hended, hW, hsame⟩ := X0.leave (v := some (.int (0 : Int32))) (fun h => by rw [Bd.returns] at h; cases h)
      refine ⟨_, _, pre0 _ ?_, hrun, hended, _, _, rfl, ?_, ⟨_, rfl⟩, hW, hsame.mono (by decide) (by decide)⟩
      · show Steps p.tables e below (s₁.setTop (mkF m 0 #[.val (.ref a1), .val (.int (Int32.ofNat F)), .val (.int (Int32.ofNat Tn)), .unset, .unset, .unset] [])) _
        refine XS.iloadN X0.here hx rfl (hb hby d1_0) rfl ?_
        show Steps p.tables e below (s₁.setTop (mkF m 1 #[.val (.ref a1), .val (.int (Int32.ofNat F)), .val (.int (Int32.ofNat Tn)), .unset, .unset, .unset] [(.int (Int32.ofNat Tn))])) _
        refine XS.iloadN X0.here hx rfl (hb hby d1_1) rfl ?_
        show Steps p.tables e below (s₁.setTop (mkF m 2 #[.val (.ref a1), .val (.int (Int32.ofNat F)), .val (.int (Int32.ofNat Tn)), .unset, .unset, .unset] [(.int (Int32.ofNat F)), (.int (Int32.ofNat Tn))])) _
        refine XS.icmpNo X0.here hx rfl (hb hby d1_2) rfl (tlt g1).2.2.2 ?_
        show Steps p.tables e below (s₁.setTop (mkF m 5 #[.val (.ref a1), .val (.int (Int32.ofNat F)), .val (.int (Int32.ofNat Tn)), .unset, .unset, .unset] [])) _
        refine XS.iloadN X0.here hx rfl (hb hby d1_5) rfl ?_
        show Steps p.tables e below (s₁.setTop (mkF m 6 #[.val (.ref a1), .val (.int (Int32.ofNat F)), .val (.int (Int32.ofNat Tn)), .unset, .unset, .unset] [(.int (Int32.ofNat Tn))])) _
        refine XS.iloadN X0.here hx rfl (hb hby d1_6) rfl ?_
        show Steps p.tables e below (s₁.setTop (mkF m 7 #[.val (.ref a1), .val (.int (Int32.ofNat F)), .val (.int (Int32.ofNat Tn)), .unset, .unset, .unset] [(.int (Int32.ofNat F)), (.int (Int32.ofNat Tn))])) _
        refine XS.isub X0.here hx rfl (hb hby d1_7) rfl ?_
        show Steps p.tables e below (s₁.setTop (mkF m 8 #[.val (.ref a1), .val (.int (Int32.ofNat F)), .val (.int (Int32.ofNat Tn)), .unset, .unset, .unset] [(.int ((Int32.ofNat Tn) - (Int32.ofNat F)))])) _
        refine XS.bipush X0.here hx rfl (hb hby d1_8) ?_
        show Steps p.tables e below (s₁.setTop (mkF m 10 #[.val (.ref a1), .val (.int (Int32.ofNat F)), .val (.int (Int32.ofNat Tn)), .unset, .unset, .unset] [(.int (64 : Int32)), (.int ((Int32.ofNat Tn) - (Int32.ofNat F)))])) _
        refine XS.icmpYes X0.here hx rfl (pc0 := 10) (pc' := 17) rfl (hb hby d1_10) rfl (tlt g2).2.2.1 (by decide) (by decide) ?_
        show Steps p.tables e below (s₁.setTop (mkF m 17 #[.val (.ref a1), .val (.int (Int32.ofNat F)), .val (.int (Int32.ofNat Tn)), .unset, .unset, .unset] [])) _
        refine XS.iconst X0.here hx rfl (hb hby d1_17) ?_
        show Steps p.tables e below (s₁.setTop (mkF m 18 #[.val (.ref a1), .val (.int (Int32.ofNat F)), .val (.int (Int32.ofNat Tn)), .unset, .unset, .unset] [(.int (0 : Int32))])) _
        refine XS.istoreN X0.here hx rfl (hb hby d1_18) rfl (l' := #[.val (.ref a1), .val (.int (Int32.ofNat F)), .val (.int (Int32.ofNat Tn)), .val (.int (0 : Int32)), .unset, .unset]) rfl ?_
        show Steps p.tables e below (s₁.setTop (mkF m 19 #[.val (.ref a1), .val (.int (Int32.ofNat F)), .val (.int (Int32.ofNat Tn)), .val (.int (0 : Int32)), .unset, .unset] [])) _
        refine XS.iloadN X0.here hx rfl (hb hby d1_19) rfl ?_
        show Steps p.tables e below (s₁.setTop (mkF m 20 #[.val (.ref a1), .val (.int (Int32.ofNat F)), .val (.int (Int32.ofNat Tn)), .val (.int (0 : Int32)), .unset, .unset] [(.int (Int32.ofNat F))])) _
        refine XS.istore X0.here hx rfl (hb hby d1_20) rfl (l' := #[.val (.ref a1), .val (.int (Int32.ofNat F)), .val (.int (Int32.ofNat Tn)), .val (.int (0 : Int32)), .val (.int (Int32.ofNat F)), .unset]) rfl ?_
        show Steps p.tables e below (s₁.setTop (mkF m 22 #[.val (.ref a1), .val (.int (Int32.ofNat F)), .val (.int (Int32.ofNat Tn)), .val (.int (0 : Int32)), .val (.int (Int32.ofNat F)), .unset] [])) _
        refine XS.iloadN X0.here hx rfl (hb hby d1_22) rfl ?_
        show Steps p.tables e below (s₁.setTop (mkF m 23 #[.val (.ref a1), .val (.int (Int32.ofNat F)), .val (.int (Int32.ofNat Tn)), .val (.int (0 : Int32)), .val (.int (Int32.ofNat F)), .unset] [(.int (0 : Int32))])) _
        refine XS.ifYes X0.here hx rfl (pc0 := 23) (pc' := 113) rfl (hb hby d1_23) rfl ((if0 _ _).trans (teq rfl).1) (by decide) (by decide) ?_
        show Steps p.tables e below (s₁.setTop (mkF m 113 #[.val (.ref a1), .val (.int (Int32.ofNat F)), .val (.int (Int32.ofNat Tn)), .val (.int (0 : Int32)), .val (.int (Int32.ofNat F)), .unset] [])) _
        refine XS.iloadN X0.here hx rfl (hb hby d1_113) rfl ?_
        exact retN X0 hx (t := .boolean) Bd.returns (by simp) (hb hby d1_114) hr
      · exact ⟨rfl, N0, e0⟩
    · have g2' : Tn - F ≤ 64 := by rw [Int32.lt_iff_toInt_lt] at g2; omega
      have hv : own_name f F Tn = own_all f F (Tn - F) := by simp only [own_name, g1', g2', decide_true, Bool.true_and]
      rw [hv]
      obtain ⟨fs, hr, hrun, hended, hW, hsame⟩ := X0.leave (v := some (.int (own_b (own_all f F (Tn - F))))) (fun h => by rw [Bd.returns] at h; cases h)
      refine ⟨_, _, pre0 _ ?_, hrun, hended, _, _, rfl, ?_, ⟨_, rfl⟩, hW, hsame.mono (by decide) (by decide)⟩
      · show Steps p.tables e below (s₁.setTop (mkF m 0 #[.val (.ref a1), .val (.int (Int32.ofNat F)), .val (.int (Int32.ofNat Tn)), .unset, .unset, .unset] [])) _
        refine XS.iloadN X0.here hx rfl (hb hby d1_0) rfl ?_
        show Steps p.tables e below (s₁.setTop (mkF m 1 #[.val (.ref a1), .val (.int (Int32.ofNat F)), .val (.int (Int32.ofNat Tn)), .unset, .unset, .unset] [(.int (Int32.ofNat Tn))])) _
        refine XS.iloadN X0.here hx rfl (hb hby d1_1) rfl ?_
        show Steps p.tables e below (s₁.setTop (mkF m 2 #[.val (.ref a1), .val (.int (Int32.ofNat F)), .val (.int (Int32.ofNat Tn)), .unset, .unset, .unset] [(.int (Int32.ofNat F)), (.int (Int32.ofNat Tn))])) _
        refine XS.icmpNo X0.here hx rfl (hb hby d1_2) rfl (tlt g1).2.2.2 ?_
        show Steps p.tables e below (s₁.setTop (mkF m 5 #[.val (.ref a1), .val (.int (Int32.ofNat F)), .val (.int (Int32.ofNat Tn)), .unset, .unset, .unset] [])) _
        refine XS.iloadN X0.here hx rfl (hb hby d1_5) rfl ?_
        show Steps p.tables e below (s₁.setTop (mkF m 6 #[.val (.ref a1), .val (.int (Int32.ofNat F)), .val (.int (Int32.ofNat Tn)), .unset, .unset, .unset] [(.int (Int32.ofNat Tn))])) _
        refine XS.iloadN X0.here hx rfl (hb hby d1_6) rfl ?_
        show Steps p.tables e below (s₁.setTop (mkF m 7 #[.val (.ref a1), .val (.int (Int32.ofNat F)), .val (.int (Int32.ofNat Tn)), .unset, .unset, .unset] [(.int (Int32.ofNat F)), (.int (Int32.ofNat Tn))])) _
        refine XS.isub X0.here hx rfl (hb hby d1_7) rfl ?_
        show Steps p.tables e below (s₁.setTop (mkF m 8 #[.val (.ref a1), .val (.int (Int32.ofNat F)), .val (.int (Int32.ofNat Tn)), .unset, .unset, .unset] [(.int ((Int32.ofNat Tn) - (Int32.ofNat F)))])) _
        refine XS.bipush X0.here hx rfl (hb hby d1_8) ?_
        show Steps p.tables e below (s₁.setTop (mkF m 10 #[.val (.ref a1), .val (.int (Int32.ofNat F)), .val (.int (Int32.ofNat Tn)), .unset, .unset, .unset] [(.int (64 : Int32)), (.int ((Int32.ofNat Tn) - (Int32.ofNat F)))])) _
        refine XS.icmpNo X0.here hx rfl (hb hby d1_10) rfl (flt g2).2.2.1 ?_
        show Steps p.tables e below (s₁.setTop (mkF m 13 #[.val (.ref a1), .val (.int (Int32.ofNat F)), .val (.int (Int32.ofNat Tn)), .unset, .unset, .unset] [])) _
        refine XS.iconst X0.here hx rfl (hb hby d1_13) ?_
        show Steps p.tables e below (s₁.setTop (mkF m 14 #[.val (.ref a1), .val (.int (Int32.ofNat F)), .val (.int (Int32.ofNat Tn)), .unset, .unset, .unset] [(.int (1 : Int32))])) _
        refine XS.goto X0.here hx rfl (pc0 := 14) (pc' := 18) rfl (hb hby d1_14) (by decide) (by decide) ?_
        show Steps p.tables e below (s₁.setTop (mkF m 18 #[.val (.ref a1), .val (.int (Int32.ofNat F)), .val (.int (Int32.ofNat Tn)), .unset, .unset, .unset] [(.int (1 : Int32))])) _
        refine XS.istoreN X0.here hx rfl (hb hby d1_18) rfl (l' := #[.val (.ref a1), .val (.int (Int32.ofNat F)), .val (.int (Int32.ofNat Tn)), .val (.int (1 : Int32)), .unset, .unset]) rfl ?_
        show Steps p.tables e below (s₁.setTop (mkF m 19 #[.val (.ref a1), .val (.int (Int32.ofNat F)), .val (.int (Int32.ofNat Tn)), .val (.int (1 : Int32)), .unset, .unset] [])) _
        refine XS.iloadN X0.here hx rfl (hb hby d1_19) rfl ?_
        show Steps p.tables e below (s₁.setTop (mkF m 20 #[.val (.ref a1), .val (.int (Int32.ofNat F)), .val (.int (Int32.ofNat Tn)), .val (.int (1 : Int32)), .unset, .unset] [(.int (Int32.ofNat F))])) _
        refine XS.istore X0.here hx rfl (hb hby d1_20) rfl (l' := #[.val (.ref a1), .val (.int (Int32.ofNat F)), .val (.int (Int32.ofNat Tn)), .val (.int (1 : Int32)), .val (.int (Int32.ofNat F)), .unset]) rfl ?_
        show Steps p.tables e below (s₁.setTop (mkF m 22 #[.val (.ref a1), .val (.int (Int32.ofNat F)), .val (.int (Int32.ofNat Tn)), .val (.int (1 : Int32)), .val (.int (Int32.ofNat F)), .unset] [])) _
        refine loopN a1 (Int32.ofNat F) Tn f hT X0 hx hZ hby B0 (Tn - F) F .unset (by omega) One.u (fun i' s5' => ?_)
        refine XS.iloadN X0.here hx rfl (hb hby d1_113) rfl ?_
        exact retN X0 hx (t := .boolean) Bd.returns (by simp) (hb hby d1_114) (by rw [own_bn]; exact hr)
      · exact ⟨rfl, N0, e0⟩
  · have g1' : ¬ F < Tn := fun q => g1 (own_lt q hT)
    have hv : own_name f F Tn = false := by simp only [own_name, g1', decide_false, Bool.false_and]
    rw [hv]
    obtain ⟨fs, hr, hrun, hended, hW, hsame⟩ := X0.leave (v := some (.int (0 : Int32))) (fun h => by rw [Bd.returns] at h; cases h)
    refine ⟨_, _, pre0 _ ?_, hrun, hended, _, _, rfl, ?_, ⟨_, rfl⟩, hW, hsame.mono (by decide) (by decide)⟩
    · show Steps p.tables e below (s₁.setTop (mkF m 0 #[.val (.ref a1), .val (.int (Int32.ofNat F)), .val (.int (Int32.ofNat Tn)), .unset, .unset, .unset] [])) _
      refine XS.iloadN X0.here hx rfl (hb hby d1_0) rfl ?_
      show Steps p.tables e below (s₁.setTop (mkF m 1 #[.val (.ref a1), .val (.int (Int32.ofNat F)), .val (.int (Int32.ofNat Tn)), .unset, .unset, .unset] [(.int (Int32.ofNat Tn))])) _
      refine XS.iloadN X0.here hx rfl (hb hby d1_1) rfl ?_
      show Steps p.tables e below (s₁.setTop (mkF m 2 #[.val (.ref a1), .val (.int (Int32.ofNat F)), .val (.int (Int32.ofNat Tn)), .unset, .unset, .unset] [(.int (Int32.ofNat F)), (.int (Int32.ofNat Tn))])) _
      refine XS.icmpYes X0.here hx rfl (pc0 := 2) (pc' := 17) rfl (hb hby d1_2) rfl (flt g1).2.2.2 (by decide) (by decide) ?_
      show Steps p.tables e below (s₁.setTop (mkF m 17 #[.val (.ref a1), .val (.int (Int32.ofNat F)), .val (.int (Int32.ofNat Tn)), .unset, .unset, .unset] [])) _
      refine XS.iconst X0.here hx rfl (hb hby d1_17) ?_
      show Steps p.tables e below (s₁.setTop (mkF m 18 #[.val (.ref a1), .val (.int (Int32.ofNat F)), .val (.int (Int32.ofNat Tn)), .unset, .unset, .unset] [(.int (0 : Int32))])) _
      refine XS.istoreN X0.here hx rfl (hb hby d1_18) rfl (l' := #[.val (.ref a1), .val (.int (Int32.ofNat F)), .val (.int (Int32.ofNat Tn)), .val (.int (0 : Int32)), .unset, .unset]) rfl ?_
      show Steps p.tables e below (s₁.setTop (mkF m 19 #[.val (.ref a1), .val (.int (Int32.ofNat F)), .val (.int (Int32.ofNat Tn)), .val (.int (0 : Int32)), .unset, .unset] [])) _
      refine XS.iloadN X0.here hx rfl (hb hby d1_19) rfl ?_
      show Steps p.tables e below (s₁.setTop (mkF m 20 #[.val (.ref a1), .val (.int (Int32.ofNat F)), .val (.int (Int32.ofNat Tn)), .val (.int (0 : Int32)), .unset, .unset] [(.int (Int32.ofNat F))])) _
      refine XS.istore X0.here hx rfl (hb hby d1_20) rfl (l' := #[.val (.ref a1), .val (.int (Int32.ofNat F)), .val (.int (Int32.ofNat Tn)), .val (.int (0 : Int32)), .val (.int (Int32.ofNat F)), .unset]) rfl ?_
      show Steps p.tables e below (s₁.setTop (mkF m 22 #[.val (.ref a1), .val (.int (Int32.ofNat F)), .val (.int (Int32.ofNat Tn)), .val (.int (0 : Int32)), .val (.int (Int32.ofNat F)), .unset] [])) _
      refine XS.iloadN X0.here hx rfl (hb hby d1_22) rfl ?_
      show Steps p.tables e below (s₁.setTop (mkF m 23 #[.val (.ref a1), .val (.int (Int32.ofNat F)), .val (.int (Int32.ofNat Tn)), .val (.int (0 : Int32)), .val (.int (Int32.ofNat F)), .unset] [(.int (0 : Int32))])) _
      refine XS.ifYes X0.here hx rfl (pc0 := 23) (pc' := 113) rfl (hb hby d1_23) rfl ((if0 _ _).trans (teq rfl).1) (by decide) (by decide) ?_
      show Steps p.tables e below (s₁.setTop (mkF m 113 #[.val (.ref a1), .val (.int (Int32.ofNat F)), .val (.int (Int32.ofNat Tn)), .val (.int (0 : Int32)), .val (.int (Int32.ofNat F)), .unset] [])) _
      refine XS.iloadN X0.here hx rfl (hb hby d1_113) rfl ?_
      exact retN X0 hx (t := .boolean) Bd.returns (by simp) (hb hby d1_114) hr
    · exact ⟨rfl, N0, e0⟩
/-- one stretch of the array's filling: k places hold 97 at pc, k' at pc' -/
def own_c (k : Nat) : Nat → Int32 := fun i => if i < k then 97 else 0
def Fill (p : Program) (l : Launch) (e : Env) (s : State) (m : MethodId) (args : Array Value) (below : List Frame) (meth : Method) (c : Code) (Z : State) (n0 : Nat) (b : Addr) (Ls : Array Slot) (pc k pc' k' : Nat) : Prop :=
  ∀ (T : State) (locs : List Loc), Stand p l e room_1 s m args below meth c T locs 1 68 → Fr n0 locs → By Z T.heap b 68 (own_c k) → ∃ (T' : State) (locs' : List Loc), Stand p l e room_1 s m args below meth c T' locs' 1 68 ∧ Fr n0 locs' ∧ By Z T'.heap b 68 (own_c k') ∧ ∀ target, Steps p.tables e below (T'.setTop (mkF m pc' Ls [(.ref b)])) target → Steps p.tables e below (T.setTop (mkF m pc Ls [(.ref b)])) target
theorem Fill.trans {p : Program} {l : Launch} {e : Env} {s : State} {m : MethodId} {args : Array Value} {below : List Frame} {meth : Method} {c : Code} {Z : State}  {n0 : Nat} {b : Addr} {Ls : Array Slot} {pc k pc' k' pc'' k'' : Nat} (A : Fill p l e s m args below meth c Z n0 b Ls pc k pc' k') (B : Fill p l e s m args below meth c Z n0 b Ls pc' k' pc'' k'') : Fill p l e s m args below meth c Z n0 b Ls pc k pc'' k'' := by
  intro T locs X N H
  obtain ⟨T1, L1, X1, N1, H1, st1⟩ := A T locs X N H
  obtain ⟨T2, L2, X2, N2, H2, st2⟩ := B T1 L1 X1 N1 H1
  exact ⟨T2, L2, X2, N2, H2, fun t k => st1 t (st2 t k)⟩
theorem own_c0 : (fun _ => (0 : Int32)) = own_c 0 := by
  funext i
  simp [own_c]
theorem own_cs (k : Nat) : own_upd (own_c k) k ((97 : Int32).toInt8.toInt32) = own_c (k + 1) := by
  funext i
  simp only [own_upd, own_c]
  by_cases h : i = k
  · rw [if_pos h, if_pos (by omega)]; rfl
  · by_cases h2 : i < k
    · rw [if_neg h, if_pos h2, if_pos (by omega)]
    · rw [if_neg h, if_neg h2, if_neg (by omega)]
theorem fillK {p : Program} {l : Launch} {e : Env} {s : State} {m : MethodId} {args : Array Value} {below : List Frame} {meth : Method} {c : Code} {Z : State}  {n0 : Nat} {b : Addr} {Ls : Array Slot} (hx : p.tables.exec = Jvm.exec) (hZ : Z.Warmed39 s.vm) (hby : c.code = code) (gb : n0 ≤ b) (pc k len : Nat) (hk : k < 68) (hd0 : decode code pc = .ok (.dup, 1)) (hp : ∀ (T : State), At T m c below → ∀ target, Steps p.tables e below (T.setTop (mkF m (pc + 1 + len) Ls [(.int (Int32.ofNat k)), (.ref b), (.ref b)])) target → Steps p.tables e below (T.setTop (mkF m (pc + 1) Ls [(.ref b), (.ref b)])) target) (hd2 : decode code (pc + 1 + len) = .ok (.bipush 97, 2)) (hd3 : decode code (pc + 1 + len + 2) = .ok (.bastore, 1)) :
    Fill p l e s m args below meth c Z n0 b Ls pc k (pc + 1 + len + 2 + 1) (k + 1) := by
  intro T locs X N H
  have hk' : (Int32.ofNat k).toNatClampNeg = k := own_n32 (by omega)
  obtain ⟨T1, X1, B1, -, st1⟩ := stBy X hx hZ H (j := Int32.ofNat k) (x := (97 : Int32)) (own_nn (by omega)) (by rw [hk']; exact hk) (g := (mkF m (pc + 1 + len + 2) Ls [(.int (97 : Int32)), (.int (Int32.ofNat k)), (.ref b), (.ref b)])) rfl rfl (hb hby hd3)
  rw [hk', own_cs] at B1
  refine ⟨T1, _, X1, Fr.snoc X1 N gb, B1, fun target kt => ?_⟩
  refine XS.dup X.here hx rfl (hb hby hd0) rfl rfl ?_
  refine hp T X.here _ ?_
  refine XS.bipush X.here hx rfl (hb hby hd2) ?_
  exact st1 _ kt
theorem fillC {p : Program} {l : Launch} {e : Env} {s : State} {m : MethodId} {args : Array Value} {below : List Frame} {meth : Method} {c : Code} {Z : State}  {n0 : Nat} {b : Addr} {Ls : Array Slot} (hx : p.tables.exec = Jvm.exec) (hZ : Z.Warmed39 s.vm) (hby : c.code = code) (gb : n0 ≤ b) (pc k : Nat) (hk : k < 68) (hd0 : decode code pc = .ok (.dup, 1)) {j : Int} (hj : Int32.ofInt j = Int32.ofNat k) (hd1 : decode code (pc + 1) = .ok (.iconst j, 1)) (hd2 : decode code (pc + 1 + 1) = .ok (.bipush 97, 2)) (hd3 : decode code (pc + 1 + 1 + 2) = .ok (.bastore, 1)) :
    Fill p l e s m args below meth c Z n0 b Ls pc k (pc + 1 + 1 + 2 + 1) (k + 1) :=
  fillK hx hZ hby gb pc k 1 hk hd0 (fun T hat target kt => XS.iconst hat hx rfl (hb hby hd1) (by rw [hj]; exact kt)) hd2 hd3
theorem fillB {p : Program} {l : Launch} {e : Env} {s : State} {m : MethodId} {args : Array Value} {below : List Frame} {meth : Method} {c : Code} {Z : State}  {n0 : Nat} {b : Addr} {Ls : Array Slot} (hx : p.tables.exec = Jvm.exec) (hZ : Z.Warmed39 s.vm) (hby : c.code = code) (gb : n0 ≤ b) (pc k : Nat) (hk : k < 68) (hd0 : decode code pc = .ok (.dup, 1)) {j : Int} (hj : (Int8.ofInt j).toInt32 = Int32.ofNat k) (hd1 : decode code (pc + 1) = .ok (.bipush j, 2)) (hd2 : decode code (pc + 1 + 2) = .ok (.bipush 97, 2)) (hd3 : decode code (pc + 1 + 2 + 2) = .ok (.bastore, 1)) :
    Fill p l e s m args below meth c Z n0 b Ls pc k (pc + 1 + 2 + 2 + 1) (k + 1) :=
  fillK hx hZ hby gb pc k 2 hk hd0 (fun T hat target kt => XS.bipush hat hx rfl (hb hby hd1) (by rw [hj]; exact kt)) hd2 hd3
theorem fill_0 {p : Program} {l : Launch} {e : Env} {s : State} {m : MethodId} {args : Array Value} {below : List Frame} {meth : Method} {c : Code} {Z : State} {n0 : Nat} {b : Addr} {Ls : Array Slot} (hx : p.tables.exec = Jvm.exec) (hZ : Z.Warmed39 s.vm) (hby : c.code = code) (gb : n0 ≤ b) : Fill p l e s m args below meth c Z n0 b Ls 4 0 100 17 := by
  refine Fill.trans (pc' := 9) (k' := 1) (fillC hx hZ hby gb 4 0 (by decide) at_4 (by decide) at_5 at_6 at_8) ?_
  refine Fill.trans (pc' := 14) (k' := 2) (fillC hx hZ hby gb 9 1 (by decide) at_9 (by decide) at_10 at_11 at_13) ?_
  refine Fill.trans (pc' := 19) (k' := 3) (fillC hx hZ hby gb 14 2 (by decide) at_14 (by decide) at_15 at_16 at_18) ?_
  refine Fill.trans (pc' := 24) (k' := 4) (fillC hx hZ hby gb 19 3 (by decide) at_19 (by decide) at_20 at_21 at_23) ?_
  refine Fill.trans (pc' := 29) (k' := 5) (fillC hx hZ hby gb 24 4 (by decide) at_24 (by decide) at_25 at_26 at_28) ?_
  refine Fill.trans (pc' := 34) (k' := 6) (fillC hx hZ hby gb 29 5 (by decide) at_29 (by decide) at_30 at_31 at_33) ?_
  refine Fill.trans (pc' := 40) (k' := 7) (fillB hx hZ hby gb 34 6 (by decide) at_34 (by decide) at_35 at_37 at_39) ?_
  refine Fill.trans (pc' := 46) (k' := 8) (fillB hx hZ hby gb 40 7 (by decide) at_40 (by decide) at_41 at_43 at_45) ?_
  refine Fill.trans (pc' := 52) (k' := 9) (fillB hx hZ hby gb 46 8 (by decide) at_46 (by decide) at_47 at_49 at_51) ?_
  refine Fill.trans (pc' := 58) (k' := 10) (fillB hx hZ hby gb 52 9 (by decide) at_52 (by decide) at_53 at_55 at_57) ?_
  refine Fill.trans (pc' := 64) (k' := 11) (fillB hx hZ hby gb 58 10 (by decide) at_58 (by decide) at_59 at_61 at_63) ?_
  refine Fill.trans (pc' := 70) (k' := 12) (fillB hx hZ hby gb 64 11 (by decide) at_64 (by decide) at_65 at_67 at_69) ?_
  refine Fill.trans (pc' := 76) (k' := 13) (fillB hx hZ hby gb 70 12 (by decide) at_70 (by decide) at_71 at_73 at_75) ?_
  refine Fill.trans (pc' := 82) (k' := 14) (fillB hx hZ hby gb 76 13 (by decide) at_76 (by decide) at_77 at_79 at_81) ?_
  refine Fill.trans (pc' := 88) (k' := 15) (fillB hx hZ hby gb 82 14 (by decide) at_82 (by decide) at_83 at_85 at_87) ?_
  refine Fill.trans (pc' := 94) (k' := 16) (fillB hx hZ hby gb 88 15 (by decide) at_88 (by decide) at_89 at_91 at_93) ?_
  exact fillB hx hZ hby gb 94 16 (by decide) at_94 (by decide) at_95 at_97 at_99
theorem fill_1 {p : Program} {l : Launch} {e : Env} {s : State} {m : MethodId} {args : Array Value} {below : List Frame} {meth : Method} {c : Code} {Z : State} {n0 : Nat} {b : Addr} {Ls : Array Slot} (hx : p.tables.exec = Jvm.exec) (hZ : Z.Warmed39 s.vm) (hby : c.code = code) (gb : n0 ≤ b) : Fill p l e s m args below meth c Z n0 b Ls 100 17 202 34 := by
  refine Fill.trans (pc' := 106) (k' := 18) (fillB hx hZ hby gb 100 17 (by decide) at_100 (by decide) at_101 at_103 at_105) ?_
  refine Fill.trans (pc' := 112) (k' := 19) (fillB hx hZ hby gb 106 18 (by decide) at_106 (by decide) at_107 at_109 at_111) ?_
  refine Fill.trans (pc' := 118) (k' := 20) (fillB hx hZ hby gb 112 19 (by decide) at_112 (by decide) at_113 at_115 at_117) ?_
  refine Fill.trans (pc' := 124) (k' := 21) (fillB hx hZ hby gb 118 20 (by decide) at_118 (by decide) at_119 at_121 at_123) ?_
  refine Fill.trans (pc' := 130) (k' := 22) (fillB hx hZ hby gb 124 21 (by decide) at_124 (by decide) at_125 at_127 at_129) ?_
  refine Fill.trans (pc' := 136) (k' := 23) (fillB hx hZ hby gb 130 22 (by decide) at_130 (by decide) at_131 at_133 at_135) ?_
  refine Fill.trans (pc' := 142) (k' := 24) (fillB hx hZ hby gb 136 23 (by decide) at_136 (by decide) at_137 at_139 at_141) ?_
  refine Fill.trans (pc' := 148) (k' := 25) (fillB hx hZ hby gb 142 24 (by decide) at_142 (by decide) at_143 at_145 at_147) ?_
  refine Fill.trans (pc' := 154) (k' := 26) (fillB hx hZ hby gb 148 25 (by decide) at_148 (by decide) at_149 at_151 at_153) ?_
  refine Fill.trans (pc' := 160) (k' := 27) (fillB hx hZ hby gb 154 26 (by decide) at_154 (by decide) at_155 at_157 at_159) ?_
  refine Fill.trans (pc' := 166) (k' := 28) (fillB hx hZ hby gb 160 27 (by decide) at_160 (by decide) at_161 at_163 at_165) ?_
  refine Fill.trans (pc' := 172) (k' := 29) (fillB hx hZ hby gb 166 28 (by decide) at_166 (by decide) at_167 at_169 at_171) ?_
  refine Fill.trans (pc' := 178) (k' := 30) (fillB hx hZ hby gb 172 29 (by decide) at_172 (by decide) at_173 at_175 at_177) ?_
  refine Fill.trans (pc' := 184) (k' := 31) (fillB hx hZ hby gb 178 30 (by decide) at_178 (by decide) at_179 at_181 at_183) ?_
  refine Fill.trans (pc' := 190) (k' := 32) (fillB hx hZ hby gb 184 31 (by decide) at_184 (by decide) at_185 at_187 at_189) ?_
  refine Fill.trans (pc' := 196) (k' := 33) (fillB hx hZ hby gb 190 32 (by decide) at_190 (by decide) at_191 at_193 at_195) ?_
  exact fillB hx hZ hby gb 196 33 (by decide) at_196 (by decide) at_197 at_199 at_201
theorem fill_2 {p : Program} {l : Launch} {e : Env} {s : State} {m : MethodId} {args : Array Value} {below : List Frame} {meth : Method} {c : Code} {Z : State} {n0 : Nat} {b : Addr} {Ls : Array Slot} (hx : p.tables.exec = Jvm.exec) (hZ : Z.Warmed39 s.vm) (hby : c.code = code) (gb : n0 ≤ b) : Fill p l e s m args below meth c Z n0 b Ls 202 34 304 51 := by
  refine Fill.trans (pc' := 208) (k' := 35) (fillB hx hZ hby gb 202 34 (by decide) at_202 (by decide) at_203 at_205 at_207) ?_
  refine Fill.trans (pc' := 214) (k' := 36) (fillB hx hZ hby gb 208 35 (by decide) at_208 (by decide) at_209 at_211 at_213) ?_
  refine Fill.trans (pc' := 220) (k' := 37) (fillB hx hZ hby gb 214 36 (by decide) at_214 (by decide) at_215 at_217 at_219) ?_
  refine Fill.trans (pc' := 226) (k' := 38) (fillB hx hZ hby gb 220 37 (by decide) at_220 (by decide) at_221 at_223 at_225) ?_
  refine Fill.trans (pc' := 232) (k' := 39) (fillB hx hZ hby gb 226 38 (by decide) at_226 (by decide) at_227 at_229 at_231) ?_
  refine Fill.trans (pc' := 238) (k' := 40) (fillB hx hZ hby gb 232 39 (by decide) at_232 (by decide) at_233 at_235 at_237) ?_
  refine Fill.trans (pc' := 244) (k' := 41) (fillB hx hZ hby gb 238 40 (by decide) at_238 (by decide) at_239 at_241 at_243) ?_
  refine Fill.trans (pc' := 250) (k' := 42) (fillB hx hZ hby gb 244 41 (by decide) at_244 (by decide) at_245 at_247 at_249) ?_
  refine Fill.trans (pc' := 256) (k' := 43) (fillB hx hZ hby gb 250 42 (by decide) at_250 (by decide) at_251 at_253 at_255) ?_
  refine Fill.trans (pc' := 262) (k' := 44) (fillB hx hZ hby gb 256 43 (by decide) at_256 (by decide) at_257 at_259 at_261) ?_
  refine Fill.trans (pc' := 268) (k' := 45) (fillB hx hZ hby gb 262 44 (by decide) at_262 (by decide) at_263 at_265 at_267) ?_
  refine Fill.trans (pc' := 274) (k' := 46) (fillB hx hZ hby gb 268 45 (by decide) at_268 (by decide) at_269 at_271 at_273) ?_
  refine Fill.trans (pc' := 280) (k' := 47) (fillB hx hZ hby gb 274 46 (by decide) at_274 (by decide) at_275 at_277 at_279) ?_
  refine Fill.trans (pc' := 286) (k' := 48) (fillB hx hZ hby gb 280 47 (by decide) at_280 (by decide) at_281 at_283 at_285) ?_
  refine Fill.trans (pc' := 292) (k' := 49) (fillB hx hZ hby gb 286 48 (by decide) at_286 (by decide) at_287 at_289 at_291) ?_
  refine Fill.trans (pc' := 298) (k' := 50) (fillB hx hZ hby gb 292 49 (by decide) at_292 (by decide) at_293 at_295 at_297) ?_
  exact fillB hx hZ hby gb 298 50 (by decide) at_298 (by decide) at_299 at_301 at_303
theorem fill_3 {p : Program} {l : Launch} {e : Env} {s : State} {m : MethodId} {args : Array Value} {below : List Frame} {meth : Method} {c : Code} {Z : State} {n0 : Nat} {b : Addr} {Ls : Array Slot} (hx : p.tables.exec = Jvm.exec) (hZ : Z.Warmed39 s.vm) (hby : c.code = code) (gb : n0 ≤ b) : Fill p l e s m args below meth c Z n0 b Ls 304 51 406 68 := by
  refine Fill.trans (pc' := 310) (k' := 52) (fillB hx hZ hby gb 304 51 (by decide) at_304 (by decide) at_305 at_307 at_309) ?_
  refine Fill.trans (pc' := 316) (k' := 53) (fillB hx hZ hby gb 310 52 (by decide) at_310 (by decide) at_311 at_313 at_315) ?_
  refine Fill.trans (pc' := 322) (k' := 54) (fillB hx hZ hby gb 316 53 (by decide) at_316 (by decide) at_317 at_319 at_321) ?_
  refine Fill.trans (pc' := 328) (k' := 55) (fillB hx hZ hby gb 322 54 (by decide) at_322 (by decide) at_323 at_325 at_327) ?_
  refine Fill.trans (pc' := 334) (k' := 56) (fillB hx hZ hby gb 328 55 (by decide) at_328 (by decide) at_329 at_331 at_333) ?_
  refine Fill.trans (pc' := 340) (k' := 57) (fillB hx hZ hby gb 334 56 (by decide) at_334 (by decide) at_335 at_337 at_339) ?_
  refine Fill.trans (pc' := 346) (k' := 58) (fillB hx hZ hby gb 340 57 (by decide) at_340 (by decide) at_341 at_343 at_345) ?_
  refine Fill.trans (pc' := 352) (k' := 59) (fillB hx hZ hby gb 346 58 (by decide) at_346 (by decide) at_347 at_349 at_351) ?_
  refine Fill.trans (pc' := 358) (k' := 60) (fillB hx hZ hby gb 352 59 (by decide) at_352 (by decide) at_353 at_355 at_357) ?_
  refine Fill.trans (pc' := 364) (k' := 61) (fillB hx hZ hby gb 358 60 (by decide) at_358 (by decide) at_359 at_361 at_363) ?_
  refine Fill.trans (pc' := 370) (k' := 62) (fillB hx hZ hby gb 364 61 (by decide) at_364 (by decide) at_365 at_367 at_369) ?_
  refine Fill.trans (pc' := 376) (k' := 63) (fillB hx hZ hby gb 370 62 (by decide) at_370 (by decide) at_371 at_373 at_375) ?_
  refine Fill.trans (pc' := 382) (k' := 64) (fillB hx hZ hby gb 376 63 (by decide) at_376 (by decide) at_377 at_379 at_381) ?_
  refine Fill.trans (pc' := 388) (k' := 65) (fillB hx hZ hby gb 382 64 (by decide) at_382 (by decide) at_383 at_385 at_387) ?_
  refine Fill.trans (pc' := 394) (k' := 66) (fillB hx hZ hby gb 388 65 (by decide) at_388 (by decide) at_389 at_391 at_393) ?_
  refine Fill.trans (pc' := 400) (k' := 67) (fillB hx hZ hby gb 394 66 (by decide) at_394 (by decide) at_395 at_397 at_399) ?_
  exact fillB hx hZ hby gb 400 67 (by decide) at_400 (by decide) at_401 at_403 at_405
theorem fillAll {p : Program} {l : Launch} {e : Env} {s : State} {m : MethodId} {args : Array Value} {below : List Frame} {meth : Method} {c : Code} {Z : State} {n0 : Nat} {b : Addr} {Ls : Array Slot} (hx : p.tables.exec = Jvm.exec) (hZ : Z.Warmed39 s.vm) (hby : c.code = code) (gb : n0 ≤ b) : Fill p l e s m args below meth c Z n0 b Ls 4 0 406 68 := (fill_0 hx hZ hby gb).trans ((fill_1 hx hZ hby gb).trans ((fill_2 hx hZ hby gb).trans (fill_3 hx hZ hby gb)))
set_option maxRecDepth 65536 in
set_option maxHeartbeats 40000000 in
theorem tnA {p : Program} {l : Launch} {e : Env} {s : State} {m : MethodId} {args : Array Value} {below : List Frame} {meth : Method} {c : Code} {Z : State} {a0 : Array Value} {T0 : State} {n0 : Nat} (i0 i1 i2 i3 : Int32) (F Tn : Nat) (X0 : Stand p l e room_1 s m args below meth c T0 [] 0 0) (hx : p.tables.exec = Jvm.exec) (hZ : Z.Warmed39 s.vm) (hw : ∀ d ∈ tables_1, d.before a0 Z = true) (hby : c.code = code) (hown : s.vm.findClass "com/example/lattis/lattis/NamesIsNamePinLaw" = some m.cls) (Z0 : n0 ≤ T0.heap.size) (hf : ((i2 &&& (2147483647 : Int32)) % (69 : Int32)) = Int32.ofNat F) (ht : ((i3 &&& (2147483647 : Int32)) % (69 : Int32)) = Int32.ofNat Tn) :
    ∃ (T' : State) (locs' : List Loc) (b : Addr), Stand p l e room_1 s m args below meth c T' locs' 1 68 ∧ Fr n0 locs' ∧ By Z T'.heap b 68 (own_upd (own_upd (own_upd (own_upd (own_upd (own_upd (own_upd (own_upd (own_c 68) ((0 : Int32)).toNatClampNeg ((i0.toInt8.toInt32)).toInt8.toInt32) ((1 : Int32)).toNatClampNeg (((i0 >>> ((8 : Int32) &&& 31)).toInt8.toInt32)).toInt8.toInt32) ((2 : Int32)).toNatClampNeg (((i0 >>> ((16 : Int32) &&& 31)).toInt8.toInt32)).toInt8.toInt32) ((3 : Int32)).toNatClampNeg ((((i0.toUInt32 >>> ((24 : Int32) &&& 31).toUInt32).toInt32).toInt8.toInt32)).toInt8.toInt32) ((64 : Int32)).toNatClampNeg ((i1.toInt8.toInt32)).toInt8.toInt32) ((65 : Int32)).toNatClampNeg (((i1 >>> ((8 : Int32) &&& 31)).toInt8.toInt32)).toInt8.toInt32) ((66 : Int32)).toNatClampNeg (((i1 >>> ((16 : Int32) &&& 31)).toInt8.toInt32)).toInt8.toInt32) ((67 : Int32)).toNatClampNeg ((((i1.toUInt32 >>> ((24 : Int32) &&& 31).toUInt32).toInt32).toInt8.toInt32)).toInt8.toInt32) ∧ ∀ target, Steps p.tables e below (T'.setTop (mkF m 496 #[.val (.int i0), .val (.int i1), .val (.int i2), .val (.int i3), .val (.ref b), .val (.int (Int32.ofNat F)), .val (.int (Int32.ofNat Tn)), .unset, .unset, .unset] [])) target → Steps p.tables e below (T0.setTop (mkF m 0 #[.val (.int i0), .val (.int i1), .val (.int i2), .val (.int i3), .unset, .unset, .unset, .unset, .unset, .unset] [])) target := by
  obtain ⟨T1, h1, k1, X1, e1, Ex1, A1, st1⟩ := newP X0 hx hZ (hw _ (List.mem_of_getElem? (i := 0) rfl)) rfl (g := (mkF m 2 #[.val (.int i0), .val (.int i1), .val (.int i2), .val (.int i3), .unset, .unset, .unset, .unset, .unset, .unset] [(.int (68 : Int32))])) rfl (hb hby at_2) rfl (by decide) (cap := 68) (by decide) (by decide) (by decide) (by decide)
  subst e1
  obtain ⟨b, gb⟩ : ∃ z, z = T0.heap.size := ⟨_, rfl⟩
  rw [← gb] at A1 st1
  have g_b : n0 ≤ b := Nat.le_trans Z0 (Nat.le_of_eq gb.symm)
  have B1 : By Z T1.heap b 68 (own_c 0) := by rw [← own_c0]; exact By.new A1
  obtain ⟨T2, L2, X2, N2, B2, st2⟩ := fillAll (Ls := #[.val (.int i0), .val (.int i1), .val (.int i2), .val (.int i3), .unset, .unset, .unset, .unset, .unset, .unset]) hx hZ hby g_b T1 [] X1 (Fr.nil n0) B1
  obtain ⟨T3, X3, B3, -, st3⟩ := stBy X2 hx hZ B2 (j := (0 : Int32)) (by decide) (by decide) (g := (mkF m 413 #[.val (.int i0), .val (.int i1), .val (.int i2), .val (.int i3), .val (.ref b), .unset, .unset, .unset, .unset, .unset] [(.int (i0.toInt8.toInt32)), (.int (0 : Int32)), (.ref b)])) rfl rfl (hb hby at_413)
  have N3 := Fr.snoc X3 N2 g_b
  obtain ⟨T4, X4, B4, -, st4⟩ := stBy X3 hx hZ B3 (j := (1 : Int32)) (by decide) (by decide) (g := (mkF m 422 #[.val (.int i0), .val (.int i1), .val (.int i2), .val (.int i3), .val (.ref b), .unset, .unset, .unset, .unset, .unset] [(.int ((i0 >>> ((8 : Int32) &&& 31)).toInt8.toInt32)), (.int (1 : Int32)), (.ref b)])) rfl rfl (hb hby at_422)
  have N4 := Fr.snoc X4 N3 g_b
  obtain ⟨T5, X5, B5, -, st5⟩ := stBy X4 hx hZ B4 (j := (2 : Int32)) (by decide) (by decide) (g := (mkF m 431 #[.val (.int i0), .val (.int i1), .val (.int i2), .val (.int i3), .val (.ref b), .unset, .unset, .unset, .unset, .unset] [(.int ((i0 >>> ((16 : Int32) &&& 31)).toInt8.toInt32)), (.int (2 : Int32)), (.ref b)])) rfl rfl (hb hby at_431)
  have N5 := Fr.snoc X5 N4 g_b
  obtain ⟨T6, X6, B6, -, st6⟩ := stBy X5 hx hZ B5 (j := (3 : Int32)) (by decide) (by decide) (g := (mkF m 440 #[.val (.int i0), .val (.int i1), .val (.int i2), .val (.int i3), .val (.ref b), .unset, .unset, .unset, .unset, .unset] [(.int (((i0.toUInt32 >>> ((24 : Int32) &&& 31).toUInt32).toInt32).toInt8.toInt32)), (.int (3 : Int32)), (.ref b)])) rfl rfl (hb hby at_440)
  have N6 := Fr.snoc X6 N5 g_b
  obtain ⟨T7, X7, B7, -, st7⟩ := stBy X6 hx hZ B6 (j := (64 : Int32)) (by decide) (by decide) (g := (mkF m 447 #[.val (.int i0), .val (.int i1), .val (.int i2), .val (.int i3), .val (.ref b), .unset, .unset, .unset, .unset, .unset] [(.int (i1.toInt8.toInt32)), (.int (64 : Int32)), (.ref b)])) rfl rfl (hb hby at_447)
  have N7 := Fr.snoc X7 N6 g_b
  obtain ⟨T8, X8, B8, -, st8⟩ := stBy X7 hx hZ B7 (j := (65 : Int32)) (by decide) (by decide) (g := (mkF m 457 #[.val (.int i0), .val (.int i1), .val (.int i2), .val (.int i3), .val (.ref b), .unset, .unset, .unset, .unset, .unset] [(.int ((i1 >>> ((8 : Int32) &&& 31)).toInt8.toInt32)), (.int (65 : Int32)), (.ref b)])) rfl rfl (hb hby at_457)
  have N8 := Fr.snoc X8 N7 g_b
  obtain ⟨T9, X9, B9, -, st9⟩ := stBy X8 hx hZ B8 (j := (66 : Int32)) (by decide) (by decide) (g := (mkF m 467 #[.val (.int i0), .val (.int i1), .val (.int i2), .val (.int i3), .val (.ref b), .unset, .unset, .unset, .unset, .unset] [(.int ((i1 >>> ((16 : Int32) &&& 31)).toInt8.toInt32)), (.int (66 : Int32)), (.ref b)])) rfl rfl (hb hby at_467)
  have N9 := Fr.snoc X9 N8 g_b
  obtain ⟨T10, X10, B10, -, st10⟩ := stBy X9 hx hZ B9 (j := (67 : Int32)) (by decide) (by decide) (g := (mkF m 477 #[.val (.int i0), .val (.int i1), .val (.int i2), .val (.int i3), .val (.ref b), .unset, .unset, .unset, .unset, .unset] [(.int (((i1.toUInt32 >>> ((24 : Int32) &&& 31).toUInt32).toInt32).toInt8.toInt32)), (.int (67 : Int32)), (.ref b)])) rfl rfl (hb hby at_477)
  have N10 := Fr.snoc X10 N9 g_b
  refine ⟨T10, _, b, X10, N10, B10, fun target kt => ?_⟩
  show Steps p.tables e below (T0.setTop (mkF m 0 #[.val (.int i0), .val (.int i1), .val (.int i2), .val (.int i3), .unset, .unset, .unset, .unset, .unset, .unset] [])) _
  refine XS.bipush X0.here hx rfl (hb hby at_0) ?_
  show Steps p.tables e below (T0.setTop (mkF m 2 #[.val (.int i0), .val (.int i1), .val (.int i2), .val (.int i3), .unset, .unset, .unset, .unset, .unset, .unset] [(.int (68 : Int32))])) _
  refine st1 _ ?_
  refine st2 _ ?_
  show Steps p.tables e below (T2.setTop (mkF m 406 #[.val (.int i0), .val (.int i1), .val (.int i2), .val (.int i3), .unset, .unset, .unset, .unset, .unset, .unset] [(.ref b)])) _
  refine XS.astore X2.here hx rfl (hb hby at_406) rfl rfl (l' := #[.val (.int i0), .val (.int i1), .val (.int i2), .val (.int i3), .val (.ref b), .unset, .unset, .unset, .unset, .unset]) rfl ?_
  show Steps p.tables e below (T2.setTop (mkF m 408 #[.val (.int i0), .val (.int i1), .val (.int i2), .val (.int i3), .val (.ref b), .unset, .unset, .unset, .unset, .unset] [])) _
  refine XS.aload X2.here hx rfl (hb hby at_408) rfl rfl ?_
  show Steps p.tables e below (T2.setTop (mkF m 410 #[.val (.int i0), .val (.int i1), .val (.int i2), .val (.int i3), .val (.ref b), .unset, .unset, .unset, .unset, .unset] [(.ref b)])) _
  refine XS.iconst X2.here hx rfl (hb hby at_410) ?_
  show Steps p.tables e below (T2.setTop (mkF m 411 #[.val (.int i0), .val (.int i1), .val (.int i2), .val (.int i3), .val (.ref b), .unset, .unset, .unset, .unset, .unset] [(.int (0 : Int32)), (.ref b)])) _
  refine XS.iloadN X2.here hx rfl (hb hby at_411) rfl ?_
  show Steps p.tables e below (T2.setTop (mkF m 412 #[.val (.int i0), .val (.int i1), .val (.int i2), .val (.int i3), .val (.ref b), .unset, .unset, .unset, .unset, .unset] [(.int i0), (.int (0 : Int32)), (.ref b)])) _
  refine XS.i2b X2.here hx rfl (hb hby at_412) rfl ?_
  show Steps p.tables e below (T2.setTop (mkF m 413 #[.val (.int i0), .val (.int i1), .val (.int i2), .val (.int i3), .val (.ref b), .unset, .unset, .unset, .unset, .unset] [(.int (i0.toInt8.toInt32)), (.int (0 : Int32)), (.ref b)])) _
  refine st3 _ ?_
  show Steps p.tables e below (T3.setTop (mkF m 414 #[.val (.int i0), .val (.int i1), .val (.int i2), .val (.int i3), .val (.ref b), .unset, .unset, .unset, .unset, .unset] [])) _
  refine XS.aload X3.here hx rfl (hb hby at_414) rfl rfl ?_
  show Steps p.tables e below (T3.setTop (mkF m 416 #[.val (.int i0), .val (.int i1), .val (.int i2), .val (.int i3), .val (.ref b), .unset, .unset, .unset, .unset, .unset] [(.ref b)])) _
  refine XS.iconst X3.here hx rfl (hb hby at_416) ?_
  show Steps p.tables e below (T3.setTop (mkF m 417 #[.val (.int i0), .val (.int i1), .val (.int i2), .val (.int i3), .val (.ref b), .unset, .unset, .unset, .unset, .unset] [(.int (1 : Int32)), (.ref b)])) _
  refine XS.iloadN X3.here hx rfl (hb hby at_417) rfl ?_
  show Steps p.tables e below (T3.setTop (mkF m 418 #[.val (.int i0), .val (.int i1), .val (.int i2), .val (.int i3), .val (.ref b), .unset, .unset, .unset, .unset, .unset] [(.int i0), (.int (1 : Int32)), (.ref b)])) _
  refine XS.bipush X3.here hx rfl (hb hby at_418) ?_
  show Steps p.tables e below (T3.setTop (mkF m 420 #[.val (.int i0), .val (.int i1), .val (.int i2), .val (.int i3), .val (.ref b), .unset, .unset, .unset, .unset, .unset] [(.int (8 : Int32)), (.int i0), (.int (1 : Int32)), (.ref b)])) _
  refine XS.ishr X3.here hx rfl (hb hby at_420) rfl ?_
  show Steps p.tables e below (T3.setTop (mkF m 421 #[.val (.int i0), .val (.int i1), .val (.int i2), .val (.int i3), .val (.ref b), .unset, .unset, .unset, .unset, .unset] [(.int (i0 >>> ((8 : Int32) &&& 31))), (.int (1 : Int32)), (.ref b)])) _
  refine XS.i2b X3.here hx rfl (hb hby at_421) rfl ?_
  show Steps p.tables e below (T3.setTop (mkF m 422 #[.val (.int i0), .val (.int i1), .val (.int i2), .val (.int i3), .val (.ref b), .unset, .unset, .unset, .unset, .unset] [(.int ((i0 >>> ((8 : Int32) &&& 31)).toInt8.toInt32)), (.int (1 : Int32)), (.ref b)])) _
  refine st4 _ ?_
  show Steps p.tables e below (T4.setTop (mkF m 423 #[.val (.int i0), .val (.int i1), .val (.int i2), .val (.int i3), .val (.ref b), .unset, .unset, .unset, .unset, .unset] [])) _
  refine XS.aload X4.here hx rfl (hb hby at_423) rfl rfl ?_
  show Steps p.tables e below (T4.setTop (mkF m 425 #[.val (.int i0), .val (.int i1), .val (.int i2), .val (.int i3), .val (.ref b), .unset, .unset, .unset, .unset, .unset] [(.ref b)])) _
  refine XS.iconst X4.here hx rfl (hb hby at_425) ?_
  show Steps p.tables e below (T4.setTop (mkF m 426 #[.val (.int i0), .val (.int i1), .val (.int i2), .val (.int i3), .val (.ref b), .unset, .unset, .unset, .unset, .unset] [(.int (2 : Int32)), (.ref b)])) _
  refine XS.iloadN X4.here hx rfl (hb hby at_426) rfl ?_
  show Steps p.tables e below (T4.setTop (mkF m 427 #[.val (.int i0), .val (.int i1), .val (.int i2), .val (.int i3), .val (.ref b), .unset, .unset, .unset, .unset, .unset] [(.int i0), (.int (2 : Int32)), (.ref b)])) _
  refine XS.bipush X4.here hx rfl (hb hby at_427) ?_
  show Steps p.tables e below (T4.setTop (mkF m 429 #[.val (.int i0), .val (.int i1), .val (.int i2), .val (.int i3), .val (.ref b), .unset, .unset, .unset, .unset, .unset] [(.int (16 : Int32)), (.int i0), (.int (2 : Int32)), (.ref b)])) _
  refine XS.ishr X4.here hx rfl (hb hby at_429) rfl ?_
  show Steps p.tables e below (T4.setTop (mkF m 430 #[.val (.int i0), .val (.int i1), .val (.int i2), .val (.int i3), .val (.ref b), .unset, .unset, .unset, .unset, .unset] [(.int (i0 >>> ((16 : Int32) &&& 31))), (.int (2 : Int32)), (.ref b)])) _
  refine XS.i2b X4.here hx rfl (hb hby at_430) rfl ?_
  show Steps p.tables e below (T4.setTop (mkF m 431 #[.val (.int i0), .val (.int i1), .val (.int i2), .val (.int i3), .val (.ref b), .unset, .unset, .unset, .unset, .unset] [(.int ((i0 >>> ((16 : Int32) &&& 31)).toInt8.toInt32)), (.int (2 : Int32)), (.ref b)])) _
  refine st5 _ ?_
  show Steps p.tables e below (T5.setTop (mkF m 432 #[.val (.int i0), .val (.int i1), .val (.int i2), .val (.int i3), .val (.ref b), .unset, .unset, .unset, .unset, .unset] [])) _
  refine XS.aload X5.here hx rfl (hb hby at_432) rfl rfl ?_
  show Steps p.tables e below (T5.setTop (mkF m 434 #[.val (.int i0), .val (.int i1), .val (.int i2), .val (.int i3), .val (.ref b), .unset, .unset, .unset, .unset, .unset] [(.ref b)])) _
  refine XS.iconst X5.here hx rfl (hb hby at_434) ?_
  show Steps p.tables e below (T5.setTop (mkF m 435 #[.val (.int i0), .val (.int i1), .val (.int i2), .val (.int i3), .val (.ref b), .unset, .unset, .unset, .unset, .unset] [(.int (3 : Int32)), (.ref b)])) _
  refine XS.iloadN X5.here hx rfl (hb hby at_435) rfl ?_
  show Steps p.tables e below (T5.setTop (mkF m 436 #[.val (.int i0), .val (.int i1), .val (.int i2), .val (.int i3), .val (.ref b), .unset, .unset, .unset, .unset, .unset] [(.int i0), (.int (3 : Int32)), (.ref b)])) _
  refine XS.bipush X5.here hx rfl (hb hby at_436) ?_
  show Steps p.tables e below (T5.setTop (mkF m 438 #[.val (.int i0), .val (.int i1), .val (.int i2), .val (.int i3), .val (.ref b), .unset, .unset, .unset, .unset, .unset] [(.int (24 : Int32)), (.int i0), (.int (3 : Int32)), (.ref b)])) _
  refine XS.iushr X5.here hx rfl (hb hby at_438) rfl ?_
  show Steps p.tables e below (T5.setTop (mkF m 439 #[.val (.int i0), .val (.int i1), .val (.int i2), .val (.int i3), .val (.ref b), .unset, .unset, .unset, .unset, .unset] [(.int ((i0.toUInt32 >>> ((24 : Int32) &&& 31).toUInt32).toInt32)), (.int (3 : Int32)), (.ref b)])) _
  refine XS.i2b X5.here hx rfl (hb hby at_439) rfl ?_
  show Steps p.tables e below (T5.setTop (mkF m 440 #[.val (.int i0), .val (.int i1), .val (.int i2), .val (.int i3), .val (.ref b), .unset, .unset, .unset, .unset, .unset] [(.int (((i0.toUInt32 >>> ((24 : Int32) &&& 31).toUInt32).toInt32).toInt8.toInt32)), (.int (3 : Int32)), (.ref b)])) _
  refine st6 _ ?_
  show Steps p.tables e below (T6.setTop (mkF m 441 #[.val (.int i0), .val (.int i1), .val (.int i2), .val (.int i3), .val (.ref b), .unset, .unset, .unset, .unset, .unset] [])) _
  refine XS.aload X6.here hx rfl (hb hby at_441) rfl rfl ?_
  show Steps p.tables e below (T6.setTop (mkF m 443 #[.val (.int i0), .val (.int i1), .val (.int i2), .val (.int i3), .val (.ref b), .unset, .unset, .unset, .unset, .unset] [(.ref b)])) _
  refine XS.bipush X6.here hx rfl (hb hby at_443) ?_
  show Steps p.tables e below (T6.setTop (mkF m 445 #[.val (.int i0), .val (.int i1), .val (.int i2), .val (.int i3), .val (.ref b), .unset, .unset, .unset, .unset, .unset] [(.int (64 : Int32)), (.ref b)])) _
  refine XS.iloadN X6.here hx rfl (hb hby at_445) rfl ?_
  show Steps p.tables e below (T6.setTop (mkF m 446 #[.val (.int i0), .val (.int i1), .val (.int i2), .val (.int i3), .val (.ref b), .unset, .unset, .unset, .unset, .unset] [(.int i1), (.int (64 : Int32)), (.ref b)])) _
  refine XS.i2b X6.here hx rfl (hb hby at_446) rfl ?_
  show Steps p.tables e below (T6.setTop (mkF m 447 #[.val (.int i0), .val (.int i1), .val (.int i2), .val (.int i3), .val (.ref b), .unset, .unset, .unset, .unset, .unset] [(.int (i1.toInt8.toInt32)), (.int (64 : Int32)), (.ref b)])) _
  refine st7 _ ?_
  show Steps p.tables e below (T7.setTop (mkF m 448 #[.val (.int i0), .val (.int i1), .val (.int i2), .val (.int i3), .val (.ref b), .unset, .unset, .unset, .unset, .unset] [])) _
  refine XS.aload X7.here hx rfl (hb hby at_448) rfl rfl ?_
  show Steps p.tables e below (T7.setTop (mkF m 450 #[.val (.int i0), .val (.int i1), .val (.int i2), .val (.int i3), .val (.ref b), .unset, .unset, .unset, .unset, .unset] [(.ref b)])) _
  refine XS.bipush X7.here hx rfl (hb hby at_450) ?_
  show Steps p.tables e below (T7.setTop (mkF m 452 #[.val (.int i0), .val (.int i1), .val (.int i2), .val (.int i3), .val (.ref b), .unset, .unset, .unset, .unset, .unset] [(.int (65 : Int32)), (.ref b)])) _
  refine XS.iloadN X7.here hx rfl (hb hby at_452) rfl ?_
  show Steps p.tables e below (T7.setTop (mkF m 453 #[.val (.int i0), .val (.int i1), .val (.int i2), .val (.int i3), .val (.ref b), .unset, .unset, .unset, .unset, .unset] [(.int i1), (.int (65 : Int32)), (.ref b)])) _
  refine XS.bipush X7.here hx rfl (hb hby at_453) ?_
  show Steps p.tables e below (T7.setTop (mkF m 455 #[.val (.int i0), .val (.int i1), .val (.int i2), .val (.int i3), .val (.ref b), .unset, .unset, .unset, .unset, .unset] [(.int (8 : Int32)), (.int i1), (.int (65 : Int32)), (.ref b)])) _
  refine XS.ishr X7.here hx rfl (hb hby at_455) rfl ?_
  show Steps p.tables e below (T7.setTop (mkF m 456 #[.val (.int i0), .val (.int i1), .val (.int i2), .val (.int i3), .val (.ref b), .unset, .unset, .unset, .unset, .unset] [(.int (i1 >>> ((8 : Int32) &&& 31))), (.int (65 : Int32)), (.ref b)])) _
  refine XS.i2b X7.here hx rfl (hb hby at_456) rfl ?_
  show Steps p.tables e below (T7.setTop (mkF m 457 #[.val (.int i0), .val (.int i1), .val (.int i2), .val (.int i3), .val (.ref b), .unset, .unset, .unset, .unset, .unset] [(.int ((i1 >>> ((8 : Int32) &&& 31)).toInt8.toInt32)), (.int (65 : Int32)), (.ref b)])) _
  refine st8 _ ?_
  show Steps p.tables e below (T8.setTop (mkF m 458 #[.val (.int i0), .val (.int i1), .val (.int i2), .val (.int i3), .val (.ref b), .unset, .unset, .unset, .unset, .unset] [])) _
  refine XS.aload X8.here hx rfl (hb hby at_458) rfl rfl ?_
  show Steps p.tables e below (T8.setTop (mkF m 460 #[.val (.int i0), .val (.int i1), .val (.int i2), .val (.int i3), .val (.ref b), .unset, .unset, .unset, .unset, .unset] [(.ref b)])) _
  refine XS.bipush X8.here hx rfl (hb hby at_460) ?_
  show Steps p.tables e below (T8.setTop (mkF m 462 #[.val (.int i0), .val (.int i1), .val (.int i2), .val (.int i3), .val (.ref b), .unset, .unset, .unset, .unset, .unset] [(.int (66 : Int32)), (.ref b)])) _
  refine XS.iloadN X8.here hx rfl (hb hby at_462) rfl ?_
  show Steps p.tables e below (T8.setTop (mkF m 463 #[.val (.int i0), .val (.int i1), .val (.int i2), .val (.int i3), .val (.ref b), .unset, .unset, .unset, .unset, .unset] [(.int i1), (.int (66 : Int32)), (.ref b)])) _
  refine XS.bipush X8.here hx rfl (hb hby at_463) ?_
  show Steps p.tables e below (T8.setTop (mkF m 465 #[.val (.int i0), .val (.int i1), .val (.int i2), .val (.int i3), .val (.ref b), .unset, .unset, .unset, .unset, .unset] [(.int (16 : Int32)), (.int i1), (.int (66 : Int32)), (.ref b)])) _
  refine XS.ishr X8.here hx rfl (hb hby at_465) rfl ?_
  show Steps p.tables e below (T8.setTop (mkF m 466 #[.val (.int i0), .val (.int i1), .val (.int i2), .val (.int i3), .val (.ref b), .unset, .unset, .unset, .unset, .unset] [(.int (i1 >>> ((16 : Int32) &&& 31))), (.int (66 : Int32)), (.ref b)])) _
  refine XS.i2b X8.here hx rfl (hb hby at_466) rfl ?_
  show Steps p.tables e below (T8.setTop (mkF m 467 #[.val (.int i0), .val (.int i1), .val (.int i2), .val (.int i3), .val (.ref b), .unset, .unset, .unset, .unset, .unset] [(.int ((i1 >>> ((16 : Int32) &&& 31)).toInt8.toInt32)), (.int (66 : Int32)), (.ref b)])) _
  refine st9 _ ?_
  show Steps p.tables e below (T9.setTop (mkF m 468 #[.val (.int i0), .val (.int i1), .val (.int i2), .val (.int i3), .val (.ref b), .unset, .unset, .unset, .unset, .unset] [])) _
  refine XS.aload X9.here hx rfl (hb hby at_468) rfl rfl ?_
  show Steps p.tables e below (T9.setTop (mkF m 470 #[.val (.int i0), .val (.int i1), .val (.int i2), .val (.int i3), .val (.ref b), .unset, .unset, .unset, .unset, .unset] [(.ref b)])) _
  refine XS.bipush X9.here hx rfl (hb hby at_470) ?_
  show Steps p.tables e below (T9.setTop (mkF m 472 #[.val (.int i0), .val (.int i1), .val (.int i2), .val (.int i3), .val (.ref b), .unset, .unset, .unset, .unset, .unset] [(.int (67 : Int32)), (.ref b)])) _
  refine XS.iloadN X9.here hx rfl (hb hby at_472) rfl ?_
  show Steps p.tables e below (T9.setTop (mkF m 473 #[.val (.int i0), .val (.int i1), .val (.int i2), .val (.int i3), .val (.ref b), .unset, .unset, .unset, .unset, .unset] [(.int i1), (.int (67 : Int32)), (.ref b)])) _
  refine XS.bipush X9.here hx rfl (hb hby at_473) ?_
  show Steps p.tables e below (T9.setTop (mkF m 475 #[.val (.int i0), .val (.int i1), .val (.int i2), .val (.int i3), .val (.ref b), .unset, .unset, .unset, .unset, .unset] [(.int (24 : Int32)), (.int i1), (.int (67 : Int32)), (.ref b)])) _
  refine XS.iushr X9.here hx rfl (hb hby at_475) rfl ?_
  show Steps p.tables e below (T9.setTop (mkF m 476 #[.val (.int i0), .val (.int i1), .val (.int i2), .val (.int i3), .val (.ref b), .unset, .unset, .unset, .unset, .unset] [(.int ((i1.toUInt32 >>> ((24 : Int32) &&& 31).toUInt32).toInt32)), (.int (67 : Int32)), (.ref b)])) _
  refine XS.i2b X9.here hx rfl (hb hby at_476) rfl ?_
  show Steps p.tables e below (T9.setTop (mkF m 477 #[.val (.int i0), .val (.int i1), .val (.int i2), .val (.int i3), .val (.ref b), .unset, .unset, .unset, .unset, .unset] [(.int (((i1.toUInt32 >>> ((24 : Int32) &&& 31).toUInt32).toInt32).toInt8.toInt32)), (.int (67 : Int32)), (.ref b)])) _
  refine st10 _ ?_
  show Steps p.tables e below (T10.setTop (mkF m 478 #[.val (.int i0), .val (.int i1), .val (.int i2), .val (.int i3), .val (.ref b), .unset, .unset, .unset, .unset, .unset] [])) _
  refine XS.iloadN X10.here hx rfl (hb hby at_478) rfl ?_
  show Steps p.tables e below (T10.setTop (mkF m 479 #[.val (.int i0), .val (.int i1), .val (.int i2), .val (.int i3), .val (.ref b), .unset, .unset, .unset, .unset, .unset] [(.int i2)])) _
  refine X10.ldcInt hx hown (mvT hZ (hw _ (List.mem_of_getElem? (i := 1) rfl))) (g := (mkF m 479 #[.val (.int i0), .val (.int i1), .val (.int i2), .val (.int i3), .val (.ref b), .unset, .unset, .unset, .unset, .unset] [(.int i2)])) rfl (hb hby at_479) _ ?_
  show Steps p.tables e below (T10.setTop (mkF m 481 #[.val (.int i0), .val (.int i1), .val (.int i2), .val (.int i3), .val (.ref b), .unset, .unset, .unset, .unset, .unset] [(.int (2147483647 : Int32)), (.int i2)])) _
  refine XS.iand X10.here hx rfl (hb hby at_481) rfl ?_
  show Steps p.tables e below (T10.setTop (mkF m 482 #[.val (.int i0), .val (.int i1), .val (.int i2), .val (.int i3), .val (.ref b), .unset, .unset, .unset, .unset, .unset] [(.int (i2 &&& (2147483647 : Int32)))])) _
  refine XS.bipush X10.here hx rfl (hb hby at_482) ?_
  show Steps p.tables e below (T10.setTop (mkF m 484 #[.val (.int i0), .val (.int i1), .val (.int i2), .val (.int i3), .val (.ref b), .unset, .unset, .unset, .unset, .unset] [(.int (69 : Int32)), (.int (i2 &&& (2147483647 : Int32)))])) _
  refine XS.irem X10.here hx rfl (hb hby at_484) rfl (by decide) ?_
  rw [irem_eq_mod]
  show Steps p.tables e below (T10.setTop (mkF m 485 #[.val (.int i0), .val (.int i1), .val (.int i2), .val (.int i3), .val (.ref b), .unset, .unset, .unset, .unset, .unset] [(.int ((i2 &&& (2147483647 : Int32)) % (69 : Int32)))])) _
  refine XS.istore X10.here hx rfl (hb hby at_485) rfl (l' := #[.val (.int i0), .val (.int i1), .val (.int i2), .val (.int i3), .val (.ref b), .val (.int ((i2 &&& (2147483647 : Int32)) % (69 : Int32))), .unset, .unset, .unset, .unset]) rfl ?_
  show Steps p.tables e below (T10.setTop (mkF m 487 #[.val (.int i0), .val (.int i1), .val (.int i2), .val (.int i3), .val (.ref b), .val (.int ((i2 &&& (2147483647 : Int32)) % (69 : Int32))), .unset, .unset, .unset, .unset] [])) _
  refine XS.iloadN X10.here hx rfl (hb hby at_487) rfl ?_
  show Steps p.tables e below (T10.setTop (mkF m 488 #[.val (.int i0), .val (.int i1), .val (.int i2), .val (.int i3), .val (.ref b), .val (.int ((i2 &&& (2147483647 : Int32)) % (69 : Int32))), .unset, .unset, .unset, .unset] [(.int i3)])) _
  refine X10.ldcInt hx hown (mvT hZ (hw _ (List.mem_of_getElem? (i := 1) rfl))) (g := (mkF m 488 #[.val (.int i0), .val (.int i1), .val (.int i2), .val (.int i3), .val (.ref b), .val (.int ((i2 &&& (2147483647 : Int32)) % (69 : Int32))), .unset, .unset, .unset, .unset] [(.int i3)])) rfl (hb hby at_488) _ ?_
  show Steps p.tables e below (T10.setTop (mkF m 490 #[.val (.int i0), .val (.int i1), .val (.int i2), .val (.int i3), .val (.ref b), .val (.int ((i2 &&& (2147483647 : Int32)) % (69 : Int32))), .unset, .unset, .unset, .unset] [(.int (2147483647 : Int32)), (.int i3)])) _
  refine XS.iand X10.here hx rfl (hb hby at_490) rfl ?_
  show Steps p.tables e below (T10.setTop (mkF m 491 #[.val (.int i0), .val (.int i1), .val (.int i2), .val (.int i3), .val (.ref b), .val (.int ((i2 &&& (2147483647 : Int32)) % (69 : Int32))), .unset, .unset, .unset, .unset] [(.int (i3 &&& (2147483647 : Int32)))])) _
  refine XS.bipush X10.here hx rfl (hb hby at_491) ?_
  show Steps p.tables e below (T10.setTop (mkF m 493 #[.val (.int i0), .val (.int i1), .val (.int i2), .val (.int i3), .val (.ref b), .val (.int ((i2 &&& (2147483647 : Int32)) % (69 : Int32))), .unset, .unset, .unset, .unset] [(.int (69 : Int32)), (.int (i3 &&& (2147483647 : Int32)))])) _
  refine XS.irem X10.here hx rfl (hb hby at_493) rfl (by decide) ?_
  rw [irem_eq_mod]
  show Steps p.tables e below (T10.setTop (mkF m 494 #[.val (.int i0), .val (.int i1), .val (.int i2), .val (.int i3), .val (.ref b), .val (.int ((i2 &&& (2147483647 : Int32)) % (69 : Int32))), .unset, .unset, .unset, .unset] [(.int ((i3 &&& (2147483647 : Int32)) % (69 : Int32)))])) _
  refine XS.istore X10.here hx rfl (hb hby at_494) rfl (l' := #[.val (.int i0), .val (.int i1), .val (.int i2), .val (.int i3), .val (.ref b), .val (.int ((i2 &&& (2147483647 : Int32)) % (69 : Int32))), .val (.int ((i3 &&& (2147483647 : Int32)) % (69 : Int32))), .unset, .unset, .unset]) rfl ?_
  rw [hf, ht]
  exact kt
set_option maxRecDepth 65536 in
set_option maxHeartbeats 40000000 in
theorem callN {p : Program} {l : Launch} {e : Env} {s : State} {m : MethodId} {args : Array Value} {below : List Frame} {meth : Method} {c : Code} {Z : State} {a0 : Array Value} {T : State} {locs : List Loc} (X : Stand p l e room_1 s m args below meth c T locs 1 68) (hx : p.tables.exec = Jvm.exec) (hZ : Z.Warmed39 s.vm) (hw : ∀ d ∈ tables_1, d.before a0 Z = true) (hby : c.code = code) (hml : c.maxLocals = 10) (hown : s.vm.findClass "com/example/lattis/lattis/NamesIsNamePinLaw" = some m.cls) {n0 : Nat} (N0 : Fr n0 locs) {a : Addr} (f : Nat → Int32) (F Tn : Nat) (hF : F ≤ 68) (hT : Tn ≤ 68) (B : By Z T.heap a 68 f) {pc : Nat} {Ls : Array Slot} (hsz : Ls.size = 10) (hd : decode code pc = .ok (.invokestatic 8, 3)) :
    ∃ (T' : State) (locs' : List Loc), Stand p l e room_1 s m args below meth c T' locs' 1 68 ∧ Fr n0 locs' ∧ T'.heap = T.heap ∧ ∀ target, Steps p.tables e below (T'.setTop (mkF m (pc + 3) Ls [(.int (own_b (own_name f F Tn)))])) target → Steps p.tables e below (T.setTop (mkF m pc Ls [(.int (Int32.ofNat Tn)), (.int (Int32.ofNat F)), (.ref a)])) target := by
  obtain ⟨_, _, ⟨T', L', k', n'⟩, -, X', ⟨Lc, hQ, l', y', z'⟩, st⟩ := Jvm.LawKit.callS X hx (y := (⟨"com/example/lattis/lattis/Names", "isName", "([BII)Z"⟩ : MethodName)) hown (mvT hZ (hw _ (List.mem_of_getElem? (i := 2) rfl))) (mvT hZ (hw _ (List.mem_of_getElem? (i := 3) rfl))) (mvT hZ (hw _ (List.mem_of_getElem? (i := 4) rfl))) (mvT hZ (hw _ (List.mem_of_getElem? (i := 5) rfl))) (by decide) (backOf (W := 0) (rm1 l Z a0 hw [] a f F Tn hF hT T.heap n0 B) hZ (hw _ (List.mem_of_getElem? (i := 5) rfl)) (hw _ (List.mem_of_getElem? (i := 4) rfl)) (by decide) (by decide)) (g := (mkF m pc Ls [(.int (Int32.ofNat Tn)), (.int (Int32.ofNat F)), (.ref a)])) rfl (by rw [hml]; exact hsz) (argsL := [(.ref a), (.int (Int32.ofNat F)), (.int (Int32.ofNat Tn))]) (rest := []) (lenOf pd_n rfl) rfl (by show 2 * 0 + _ ≤ _; exact Nat.le_of_eq rfl) (hb hby hd) (fun _ _ => ⟨rfl, rfl, (by decide : 1 + 0 ≤ _), (by decide : 68 + 0 ≤ _)⟩)
  dsimp only [Pt.U, Pt.locs, Pt.cells, Pt.slots] at X' l' y' z' st hQ
  subst l' y' z'
  obtain ⟨rfl, Nq, e'⟩ := hQ
  exact ⟨T', _, X', Fr.app N0 Nq, e', fun target k => st target k⟩
set_option maxRecDepth 65536 in
set_option maxHeartbeats 40000000 in
theorem callG {p : Program} {l : Launch} {e : Env} {s : State} {m : MethodId} {args : Array Value} {below : List Frame} {meth : Method} {c : Code} {Z : State} {a0 : Array Value} {T : State} {locs : List Loc} (X : Stand p l e room_1 s m args below meth c T locs 1 68) (hx : p.tables.exec = Jvm.exec) (hZ : Z.Warmed39 s.vm) (hw : ∀ d ∈ tables_1, d.before a0 Z = true) (hby : c.code = code) (hml : c.maxLocals = 10) (hown : s.vm.findClass "com/example/lattis/lattis/NamesIsNamePinLaw" = some m.cls) {n0 : Nat} (N0 : Fr n0 locs) (q i fr to : Int32) {pc : Nat} {Ls : Array Slot} (hsz : Ls.size = 10) (hd : decode code pc = .ok (.invokestatic 14, 3)) :
    ∃ (T' : State) (locs' : List Loc), Stand p l e room_1 s m args below meth c T' locs' 1 68 ∧ Fr n0 locs' ∧ T'.heap = T.heap ∧ ∀ target, Steps p.tables e below (T'.setTop (mkF m (pc + 3) Ls [(.int (own_b (own_g q i fr to)))])) target → Steps p.tables e below (T.setTop (mkF m pc Ls [(.int to), (.int fr), (.int i), (.int q)])) target := by
  obtain ⟨_, _, ⟨T', L', k', n'⟩, -, X', ⟨Lc, hQ, l', y', z'⟩, st⟩ := Jvm.LawKit.callS X hx (y := (⟨"com/example/lattis/lattis/NamesIsNamePinLaw", "good", "(BIII)Z"⟩ : MethodName)) hown (mvT hZ (hw _ (List.mem_of_getElem? (i := 6) rfl))) (mvT hZ (hw _ (List.mem_of_getElem? (i := 7) rfl))) (mvT hZ (hw _ (List.mem_of_getElem? (i := 8) rfl))) (mvT hZ (hw _ (List.mem_of_getElem? (i := 9) rfl))) (by decide) (backOf (W := 0) (rm2 l Z a0 hw [] q i fr to T.heap n0) hZ (hw _ (List.mem_of_getElem? (i := 9) rfl)) (hw _ (List.mem_of_getElem? (i := 8) rfl)) (by decide) (by decide)) (g := (mkF m pc Ls [(.int to), (.int fr), (.int i), (.int q)])) rfl (by rw [hml]; exact hsz) (argsL := [(.int q), (.int i), (.int fr), (.int to)]) (rest := []) (lenOf pd_g rfl) rfl (by show 2 * 0 + _ ≤ _; exact Nat.le_of_eq rfl) (hb hby hd) (fun _ _ => ⟨rfl, rfl, (by decide : 1 + 0 ≤ _), (by decide : 68 + 0 ≤ _)⟩)
  dsimp only [Pt.U, Pt.locs, Pt.cells, Pt.slots] at X' l' y' z' st hQ
  subst l' y' z'
  obtain ⟨rfl, Nq, e'⟩ := hQ
  exact ⟨T', _, X', Fr.app N0 Nq, e', fun target k => st target k⟩
set_option maxRecDepth 65536 in
set_option maxHeartbeats 40000000 in
theorem good_0 {p : Program} {l : Launch} {e : Env} {s : State} {m : MethodId} {args : Array Value} {below : List Frame} {meth : Method} {c : Code} {Z : State} {a0 : Array Value} {T : State} {locs : List Loc} (X : Stand p l e room_1 s m args below meth c T locs 1 68) (hx : p.tables.exec = Jvm.exec) (hZ : Z.Warmed39 s.vm) (hw : ∀ d ∈ tables_1, d.before a0 Z = true) (hby : c.code = code) (hml : c.maxLocals = 10) (hown : s.vm.findClass "com/example/lattis/lattis/NamesIsNamePinLaw" = some m.cls) {n0 : Nat} (N0 : Fr n0 locs) (i0 i1 i2 i3 A len : Int32) {b : Addr} (f : Nat → Int32) (F Tn : Nat) (B : By Z T.heap b 68 f) :
    ∃ (T' : State) (locs' : List Loc), Stand p l e room_1 s m args below meth c T' locs' 1 68 ∧ Fr n0 locs' ∧ By Z T'.heap b 68 f ∧ (own_g (f 0) (0 : Int32) (Int32.ofNat F) (Int32.ofNat Tn) = true → ∀ target, Steps p.tables e below (T'.setTop (mkF m 542 #[.val (.int i0), .val (.int i1), .val (.int i2), .val (.int i3), .val (.ref b), .val (.int (Int32.ofNat F)), .val (.int (Int32.ofNat Tn)), .val (.int A), .val (.int len), .unset] [])) target → Steps p.tables e below (T.setTop (mkF m 527 #[.val (.int i0), .val (.int i1), .val (.int i2), .val (.int i3), .val (.ref b), .val (.int (Int32.ofNat F)), .val (.int (Int32.ofNat Tn)), .val (.int A), .val (.int len), .unset] [])) target) ∧ (own_g (f 0) (0 : Int32) (Int32.ofNat F) (Int32.ofNat Tn) = false → ∀ target, Steps p.tables e below (T'.setTop (mkF m 659 #[.val (.int i0), .val (.int i1), .val (.int i2), .val (.int i3), .val (.ref b), .val (.int (Int32.ofNat F)), .val (.int (Int32.ofNat Tn)), .val (.int A), .val (.int len), .unset] [])) target → Steps p.tables e below (T.setTop (mkF m 527 #[.val (.int i0), .val (.int i1), .val (.int i2), .val (.int i3), .val (.ref b), .val (.int (Int32.ofNat F)), .val (.int (Int32.ofNat Tn)), .val (.int A), .val (.int len), .unset] [])) target) := by
  obtain ⟨T1, L1, X1, N1, e1, st1⟩ := callG X hx hZ hw hby hml hown N0 (f 0) (0 : Int32) (Int32.ofNat F) (Int32.ofNat Tn) (Ls := #[.val (.int i0), .val (.int i1), .val (.int i2), .val (.int i3), .val (.ref b), .val (.int (Int32.ofNat F)), .val (.int (Int32.ofNat Tn)), .val (.int A), .val (.int len), .unset]) rfl at_536
  refine ⟨T1, L1, X1, N1, by rw [e1]; exact B, fun hv target kt => ?_, fun hv target kt => ?_⟩
  · show Steps p.tables e below (T.setTop (mkF m 527 #[.val (.int i0), .val (.int i1), .val (.int i2), .val (.int i3), .val (.ref b), .val (.int (Int32.ofNat F)), .val (.int (Int32.ofNat Tn)), .val (.int A), .val (.int len), .unset] [])) _
    refine XS.aload X.here hx rfl (hb hby at_527) rfl rfl ?_
    show Steps p.tables e below (T.setTop (mkF m 529 #[.val (.int i0), .val (.int i1), .val (.int i2), .val (.int i3), .val (.ref b), .val (.int (Int32.ofNat F)), .val (.int (Int32.ofNat Tn)), .val (.int A), .val (.int len), .unset] [(.ref b)])) _
    refine XS.iconst X.here hx rfl (hb hby at_529) ?_
    show Steps p.tables e below (T.setTop (mkF m 530 #[.val (.int i0), .val (.int i1), .val (.int i2), .val (.int i3), .val (.ref b), .val (.int (Int32.ofNat F)), .val (.int (Int32.ofNat Tn)), .val (.int A), .val (.int len), .unset] [(.int (0 : Int32)), (.ref b)])) _
    refine ldBy X hx hZ B (j := (0 : Int32)) (by decide) (by decide) (g := (mkF m 530 #[.val (.int i0), .val (.int i1), .val (.int i2), .val (.int i3), .val (.ref b), .val (.int (Int32.ofNat F)), .val (.int (Int32.ofNat Tn)), .val (.int A), .val (.int len), .unset] [(.int (0 : Int32)), (.ref b)])) rfl rfl (hb hby at_530) ?_
    show Steps p.tables e below (T.setTop (mkF m 531 #[.val (.int i0), .val (.int i1), .val (.int i2), .val (.int i3), .val (.ref b), .val (.int (Int32.ofNat F)), .val (.int (Int32.ofNat Tn)), .val (.int A), .val (.int len), .unset] [(.int (f 0))])) _
    refine XS.iconst X.here hx rfl (hb hby at_531) ?_
    show Steps p.tables e below (T.setTop (mkF m 532 #[.val (.int i0), .val (.int i1), .val (.int i2), .val (.int i3), .val (.ref b), .val (.int (Int32.ofNat F)), .val (.int (Int32.ofNat Tn)), .val (.int A), .val (.int len), .unset] [(.int (0 : Int32)), (.int (f 0))])) _
    refine XS.iload X.here hx rfl (hb hby at_532) rfl ?_
    show Steps p.tables e below (T.setTop (mkF m 534 #[.val (.int i0), .val (.int i1), .val (.int i2), .val (.int i3), .val (.ref b), .val (.int (Int32.ofNat F)), .val (.int (Int32.ofNat Tn)), .val (.int A), .val (.int len), .unset] [(.int (Int32.ofNat F)), (.int (0 : Int32)), (.int (f 0))])) _
    refine XS.iload X.here hx rfl (hb hby at_534) rfl ?_
    show Steps p.tables e below (T.setTop (mkF m 536 #[.val (.int i0), .val (.int i1), .val (.int i2), .val (.int i3), .val (.ref b), .val (.int (Int32.ofNat F)), .val (.int (Int32.ofNat Tn)), .val (.int A), .val (.int len), .unset] [(.int (Int32.ofNat Tn)), (.int (Int32.ofNat F)), (.int (0 : Int32)), (.int (f 0))])) _
    refine st1 _ ?_
    rw [hv]
    show Steps p.tables e below (T1.setTop (mkF m 539 #[.val (.int i0), .val (.int i1), .val (.int i2), .val (.int i3), .val (.ref b), .val (.int (Int32.ofNat F)), .val (.int (Int32.ofNat Tn)), .val (.int A), .val (.int len), .unset] [(.int (1 : Int32))])) _
    refine XS.ifNo X1.here hx rfl (hb hby at_539) rfl ((if0 _ _).trans (feq (by decide)).1) ?_
    exact kt
  · show Steps p.tables e below (T.setTop (mkF m 527 #[.val (.int i0), .val (.int i1), .val (.int i2), .val (.int i3), .val (.ref b), .val (.int (Int32.ofNat F)), .val (.int (Int32.ofNat Tn)), .val (.int A), .val (.int len), .unset] [])) _
    refine XS.aload X.here hx rfl (hb hby at_527) rfl rfl ?_
    show Steps p.tables e below (T.setTop (mkF m 529 #[.val (.int i0), .val (.int i1), .val (.int i2), .val (.int i3), .val (.ref b), .val (.int (Int32.ofNat F)), .val (.int (Int32.ofNat Tn)), .val (.int A), .val (.int len), .unset] [(.ref b)])) _
    refine XS.iconst X.here hx rfl (hb hby at_529) ?_
    show Steps p.tables e below (T.setTop (mkF m 530 #[.val (.int i0), .val (.int i1), .val (.int i2), .val (.int i3), .val (.ref b), .val (.int (Int32.ofNat F)), .val (.int (Int32.ofNat Tn)), .val (.int A), .val (.int len), .unset] [(.int (0 : Int32)), (.ref b)])) _
    refine ldBy X hx hZ B (j := (0 : Int32)) (by decide) (by decide) (g := (mkF m 530 #[.val (.int i0), .val (.int i1), .val (.int i2), .val (.int i3), .val (.ref b), .val (.int (Int32.ofNat F)), .val (.int (Int32.ofNat Tn)), .val (.int A), .val (.int len), .unset] [(.int (0 : Int32)), (.ref b)])) rfl rfl (hb hby at_530) ?_
    show Steps p.tables e below (T.setTop (mkF m 531 #[.val (.int i0), .val (.int i1), .val (.int i2), .val (.int i3), .val (.ref b), .val (.int (Int32.ofNat F)), .val (.int (Int32.ofNat Tn)), .val (.int A), .val (.int len), .unset] [(.int (f 0))])) _
    refine XS.iconst X.here hx rfl (hb hby at_531) ?_
    show Steps p.tables e below (T.setTop (mkF m 532 #[.val (.int i0), .val (.int i1), .val (.int i2), .val (.int i3), .val (.ref b), .val (.int (Int32.ofNat F)), .val (.int (Int32.ofNat Tn)), .val (.int A), .val (.int len), .unset] [(.int (0 : Int32)), (.int (f 0))])) _
    refine XS.iload X.here hx rfl (hb hby at_532) rfl ?_
    show Steps p.tables e below (T.setTop (mkF m 534 #[.val (.int i0), .val (.int i1), .val (.int i2), .val (.int i3), .val (.ref b), .val (.int (Int32.ofNat F)), .val (.int (Int32.ofNat Tn)), .val (.int A), .val (.int len), .unset] [(.int (Int32.ofNat F)), (.int (0 : Int32)), (.int (f 0))])) _
    refine XS.iload X.here hx rfl (hb hby at_534) rfl ?_
    show Steps p.tables e below (T.setTop (mkF m 536 #[.val (.int i0), .val (.int i1), .val (.int i2), .val (.int i3), .val (.ref b), .val (.int (Int32.ofNat F)), .val (.int (Int32.ofNat Tn)), .val (.int A), .val (.int len), .unset] [(.int (Int32.ofNat Tn)), (.int (Int32.ofNat F)), (.int (0 : Int32)), (.int (f 0))])) _
    refine st1 _ ?_
    rw [hv]
    show Steps p.tables e below (T1.setTop (mkF m 539 #[.val (.int i0), .val (.int i1), .val (.int i2), .val (.int i3), .val (.ref b), .val (.int (Int32.ofNat F)), .val (.int (Int32.ofNat Tn)), .val (.int A), .val (.int len), .unset] [(.int (0 : Int32))])) _
    refine XS.ifYes X1.here hx rfl (pc0 := 539) (pc' := 659) rfl (hb hby at_539) rfl ((if0 _ _).trans (teq rfl).1) (by decide) (by decide) ?_
    exact kt
set_option maxRecDepth 65536 in
set_option maxHeartbeats 40000000 in
theorem good_1 {p : Program} {l : Launch} {e : Env} {s : State} {m : MethodId} {args : Array Value} {below : List Frame} {meth : Method} {c : Code} {Z : State} {a0 : Array Value} {T : State} {locs : List Loc} (X : Stand p l e room_1 s m args below meth c T locs 1 68) (hx : p.tables.exec = Jvm.exec) (hZ : Z.Warmed39 s.vm) (hw : ∀ d ∈ tables_1, d.before a0 Z = true) (hby : c.code = code) (hml : c.maxLocals = 10) (hown : s.vm.findClass "com/example/lattis/lattis/NamesIsNamePinLaw" = some m.cls) {n0 : Nat} (N0 : Fr n0 locs) (i0 i1 i2 i3 A len : Int32) {b : Addr} (f : Nat → Int32) (F Tn : Nat) (B : By Z T.heap b 68 f) :
    ∃ (T' : State) (locs' : List Loc), Stand p l e room_1 s m args below meth c T' locs' 1 68 ∧ Fr n0 locs' ∧ By Z T'.heap b 68 f ∧ (own_g (f 1) (1 : Int32) (Int32.ofNat F) (Int32.ofNat Tn) = true → ∀ target, Steps p.tables e below (T'.setTop (mkF m 557 #[.val (.int i0), .val (.int i1), .val (.int i2), .val (.int i3), .val (.ref b), .val (.int (Int32.ofNat F)), .val (.int (Int32.ofNat Tn)), .val (.int A), .val (.int len), .unset] [])) target → Steps p.tables e below (T.setTop (mkF m 542 #[.val (.int i0), .val (.int i1), .val (.int i2), .val (.int i3), .val (.ref b), .val (.int (Int32.ofNat F)), .val (.int (Int32.ofNat Tn)), .val (.int A), .val (.int len), .unset] [])) target) ∧ (own_g (f 1) (1 : Int32) (Int32.ofNat F) (Int32.ofNat Tn) = false → ∀ target, Steps p.tables e below (T'.setTop (mkF m 659 #[.val (.int i0), .val (.int i1), .val (.int i2), .val (.int i3), .val (.ref b), .val (.int (Int32.ofNat F)), .val (.int (Int32.ofNat Tn)), .val (.int A), .val (.int len), .unset] [])) target → Steps p.tables e below (T.setTop (mkF m 542 #[.val (.int i0), .val (.int i1), .val (.int i2), .val (.int i3), .val (.ref b), .val (.int (Int32.ofNat F)), .val (.int (Int32.ofNat Tn)), .val (.int A), .val (.int len), .unset] [])) target) := by
  obtain ⟨T1, L1, X1, N1, e1, st1⟩ := callG X hx hZ hw hby hml hown N0 (f 1) (1 : Int32) (Int32.ofNat F) (Int32.ofNat Tn) (Ls := #[.val (.int i0), .val (.int i1), .val (.int i2), .val (.int i3), .val (.ref b), .val (.int (Int32.ofNat F)), .val (.int (Int32.ofNat Tn)), .val (.int A), .val (.int len), .unset]) rfl at_551
  refine ⟨T1, L1, X1, N1, by rw [e1]; exact B, fun hv target kt => ?_, fun hv target kt => ?_⟩
  · show Steps p.tables e below (T.setTop (mkF m 542 #[.val (.int i0), .val (.int i1), .val (.int i2), .val (.int i3), .val (.ref b), .val (.int (Int32.ofNat F)), .val (.int (Int32.ofNat Tn)), .val (.int A), .val (.int len), .unset] [])) _
    refine XS.aload X.here hx rfl (hb hby at_542) rfl rfl ?_
    show Steps p.tables e below (T.setTop (mkF m 544 #[.val (.int i0), .val (.int i1), .val (.int i2), .val (.int i3), .val (.ref b), .val (.int (Int32.ofNat F)), .val (.int (Int32.ofNat Tn)), .val (.int A), .val (.int len), .unset] [(.ref b)])) _
    refine XS.iconst X.here hx rfl (hb hby at_544) ?_
    show Steps p.tables e below (T.setTop (mkF m 545 #[.val (.int i0), .val (.int i1), .val (.int i2), .val (.int i3), .val (.ref b), .val (.int (Int32.ofNat F)), .val (.int (Int32.ofNat Tn)), .val (.int A), .val (.int len), .unset] [(.int (1 : Int32)), (.ref b)])) _
    refine ldBy X hx hZ B (j := (1 : Int32)) (by decide) (by decide) (g := (mkF m 545 #[.val (.int i0), .val (.int i1), .val (.int i2), .val (.int i3), .val (.ref b), .val (.int (Int32.ofNat F)), .val (.int (Int32.ofNat Tn)), .val (.int A), .val (.int len), .unset] [(.int (1 : Int32)), (.ref b)])) rfl rfl (hb hby at_545) ?_
    show Steps p.tables e below (T.setTop (mkF m 546 #[.val (.int i0), .val (.int i1), .val (.int i2), .val (.int i3), .val (.ref b), .val (.int (Int32.ofNat F)), .val (.int (Int32.ofNat Tn)), .val (.int A), .val (.int len), .unset] [(.int (f 1))])) _
    refine XS.iconst X.here hx rfl (hb hby at_546) ?_
    show Steps p.tables e below (T.setTop (mkF m 547 #[.val (.int i0), .val (.int i1), .val (.int i2), .val (.int i3), .val (.ref b), .val (.int (Int32.ofNat F)), .val (.int (Int32.ofNat Tn)), .val (.int A), .val (.int len), .unset] [(.int (1 : Int32)), (.int (f 1))])) _
    refine XS.iload X.here hx rfl (hb hby at_547) rfl ?_
    show Steps p.tables e below (T.setTop (mkF m 549 #[.val (.int i0), .val (.int i1), .val (.int i2), .val (.int i3), .val (.ref b), .val (.int (Int32.ofNat F)), .val (.int (Int32.ofNat Tn)), .val (.int A), .val (.int len), .unset] [(.int (Int32.ofNat F)), (.int (1 : Int32)), (.int (f 1))])) _
    refine XS.iload X.here hx rfl (hb hby at_549) rfl ?_
    show Steps p.tables e below (T.setTop (mkF m 551 #[.val (.int i0), .val (.int i1), .val (.int i2), .val (.int i3), .val (.ref b), .val (.int (Int32.ofNat F)), .val (.int (Int32.ofNat Tn)), .val (.int A), .val (.int len), .unset] [(.int (Int32.ofNat Tn)), (.int (Int32.ofNat F)), (.int (1 : Int32)), (.int (f 1))])) _
    refine st1 _ ?_
    rw [hv]
    show Steps p.tables e below (T1.setTop (mkF m 554 #[.val (.int i0), .val (.int i1), .val (.int i2), .val (.int i3), .val (.ref b), .val (.int (Int32.ofNat F)), .val (.int (Int32.ofNat Tn)), .val (.int A), .val (.int len), .unset] [(.int (1 : Int32))])) _
    refine XS.ifNo X1.here hx rfl (hb hby at_554) rfl ((if0 _ _).trans (feq (by decide)).1) ?_
    exact kt
  · show Steps p.tables e below (T.setTop (mkF m 542 #[.val (.int i0), .val (.int i1), .val (.int i2), .val (.int i3), .val (.ref b), .val (.int (Int32.ofNat F)), .val (.int (Int32.ofNat Tn)), .val (.int A), .val (.int len), .unset] [])) _
    refine XS.aload X.here hx rfl (hb hby at_542) rfl rfl ?_
    show Steps p.tables e below (T.setTop (mkF m 544 #[.val (.int i0), .val (.int i1), .val (.int i2), .val (.int i3), .val (.ref b), .val (.int (Int32.ofNat F)), .val (.int (Int32.ofNat Tn)), .val (.int A), .val (.int len), .unset] [(.ref b)])) _
    refine XS.iconst X.here hx rfl (hb hby at_544) ?_
    show Steps p.tables e below (T.setTop (mkF m 545 #[.val (.int i0), .val (.int i1), .val (.int i2), .val (.int i3), .val (.ref b), .val (.int (Int32.ofNat F)), .val (.int (Int32.ofNat Tn)), .val (.int A), .val (.int len), .unset] [(.int (1 : Int32)), (.ref b)])) _
    refine ldBy X hx hZ B (j := (1 : Int32)) (by decide) (by decide) (g := (mkF m 545 #[.val (.int i0), .val (.int i1), .val (.int i2), .val (.int i3), .val (.ref b), .val (.int (Int32.ofNat F)), .val (.int (Int32.ofNat Tn)), .val (.int A), .val (.int len), .unset] [(.int (1 : Int32)), (.ref b)])) rfl rfl (hb hby at_545) ?_
    show Steps p.tables e below (T.setTop (mkF m 546 #[.val (.int i0), .val (.int i1), .val (.int i2), .val (.int i3), .val (.ref b), .val (.int (Int32.ofNat F)), .val (.int (Int32.ofNat Tn)), .val (.int A), .val (.int len), .unset] [(.int (f 1))])) _
    refine XS.iconst X.here hx rfl (hb hby at_546) ?_
    show Steps p.tables e below (T.setTop (mkF m 547 #[.val (.int i0), .val (.int i1), .val (.int i2), .val (.int i3), .val (.ref b), .val (.int (Int32.ofNat F)), .val (.int (Int32.ofNat Tn)), .val (.int A), .val (.int len), .unset] [(.int (1 : Int32)), (.int (f 1))])) _
    refine XS.iload X.here hx rfl (hb hby at_547) rfl ?_
    show Steps p.tables e below (T.setTop (mkF m 549 #[.val (.int i0), .val (.int i1), .val (.int i2), .val (.int i3), .val (.ref b), .val (.int (Int32.ofNat F)), .val (.int (Int32.ofNat Tn)), .val (.int A), .val (.int len), .unset] [(.int (Int32.ofNat F)), (.int (1 : Int32)), (.int (f 1))])) _
    refine XS.iload X.here hx rfl (hb hby at_549) rfl ?_
    show Steps p.tables e below (T.setTop (mkF m 551 #[.val (.int i0), .val (.int i1), .val (.int i2), .val (.int i3), .val (.ref b), .val (.int (Int32.ofNat F)), .val (.int (Int32.ofNat Tn)), .val (.int A), .val (.int len), .unset] [(.int (Int32.ofNat Tn)), (.int (Int32.ofNat F)), (.int (1 : Int32)), (.int (f 1))])) _
    refine st1 _ ?_
    rw [hv]
    show Steps p.tables e below (T1.setTop (mkF m 554 #[.val (.int i0), .val (.int i1), .val (.int i2), .val (.int i3), .val (.ref b), .val (.int (Int32.ofNat F)), .val (.int (Int32.ofNat Tn)), .val (.int A), .val (.int len), .unset] [(.int (0 : Int32))])) _
    refine XS.ifYes X1.here hx rfl (pc0 := 554) (pc' := 659) rfl (hb hby at_554) rfl ((if0 _ _).trans (teq rfl).1) (by decide) (by decide) ?_
    exact kt
set_option maxRecDepth 65536 in
set_option maxHeartbeats 40000000 in
theorem good_2 {p : Program} {l : Launch} {e : Env} {s : State} {m : MethodId} {args : Array Value} {below : List Frame} {meth : Method} {c : Code} {Z : State} {a0 : Array Value} {T : State} {locs : List Loc} (X : Stand p l e room_1 s m args below meth c T locs 1 68) (hx : p.tables.exec = Jvm.exec) (hZ : Z.Warmed39 s.vm) (hw : ∀ d ∈ tables_1, d.before a0 Z = true) (hby : c.code = code) (hml : c.maxLocals = 10) (hown : s.vm.findClass "com/example/lattis/lattis/NamesIsNamePinLaw" = some m.cls) {n0 : Nat} (N0 : Fr n0 locs) (i0 i1 i2 i3 A len : Int32) {b : Addr} (f : Nat → Int32) (F Tn : Nat) (B : By Z T.heap b 68 f) :
    ∃ (T' : State) (locs' : List Loc), Stand p l e room_1 s m args below meth c T' locs' 1 68 ∧ Fr n0 locs' ∧ By Z T'.heap b 68 f ∧ (own_g (f 2) (2 : Int32) (Int32.ofNat F) (Int32.ofNat Tn) = true → ∀ target, Steps p.tables e below (T'.setTop (mkF m 572 #[.val (.int i0), .val (.int i1), .val (.int i2), .val (.int i3), .val (.ref b), .val (.int (Int32.ofNat F)), .val (.int (Int32.ofNat Tn)), .val (.int A), .val (.int len), .unset] [])) target → Steps p.tables e below (T.setTop (mkF m 557 #[.val (.int i0), .val (.int i1), .val (.int i2), .val (.int i3), .val (.ref b), .val (.int (Int32.ofNat F)), .val (.int (Int32.ofNat Tn)), .val (.int A), .val (.int len), .unset] [])) target) ∧ (own_g (f 2) (2 : Int32) (Int32.ofNat F) (Int32.ofNat Tn) = false → ∀ target, Steps p.tables e below (T'.setTop (mkF m 659 #[.val (.int i0), .val (.int i1), .val (.int i2), .val (.int i3), .val (.ref b), .val (.int (Int32.ofNat F)), .val (.int (Int32.ofNat Tn)), .val (.int A), .val (.int len), .unset] [])) target → Steps p.tables e below (T.setTop (mkF m 557 #[.val (.int i0), .val (.int i1), .val (.int i2), .val (.int i3), .val (.ref b), .val (.int (Int32.ofNat F)), .val (.int (Int32.ofNat Tn)), .val (.int A), .val (.int len), .unset] [])) target) := by
  obtain ⟨T1, L1, X1, N1, e1, st1⟩ := callG X hx hZ hw hby hml hown N0 (f 2) (2 : Int32) (Int32.ofNat F) (Int32.ofNat Tn) (Ls := #[.val (.int i0), .val (.int i1), .val (.int i2), .val (.int i3), .val (.ref b), .val (.int (Int32.ofNat F)), .val (.int (Int32.ofNat Tn)), .val (.int A), .val (.int len), .unset]) rfl at_566
  refine ⟨T1, L1, X1, N1, by rw [e1]; exact B, fun hv target kt => ?_, fun hv target kt => ?_⟩
  · show Steps p.tables e below (T.setTop (mkF m 557 #[.val (.int i0), .val (.int i1), .val (.int i2), .val (.int i3), .val (.ref b), .val (.int (Int32.ofNat F)), .val (.int (Int32.ofNat Tn)), .val (.int A), .val (.int len), .unset] [])) _
    refine XS.aload X.here hx rfl (hb hby at_557) rfl rfl ?_
    show Steps p.tables e below (T.setTop (mkF m 559 #[.val (.int i0), .val (.int i1), .val (.int i2), .val (.int i3), .val (.ref b), .val (.int (Int32.ofNat F)), .val (.int (Int32.ofNat Tn)), .val (.int A), .val (.int len), .unset] [(.ref b)])) _
    refine XS.iconst X.here hx rfl (hb hby at_559) ?_
    show Steps p.tables e below (T.setTop (mkF m 560 #[.val (.int i0), .val (.int i1), .val (.int i2), .val (.int i3), .val (.ref b), .val (.int (Int32.ofNat F)), .val (.int (Int32.ofNat Tn)), .val (.int A), .val (.int len), .unset] [(.int (2 : Int32)), (.ref b)])) _
    refine ldBy X hx hZ B (j := (2 : Int32)) (by decide) (by decide) (g := (mkF m 560 #[.val (.int i0), .val (.int i1), .val (.int i2), .val (.int i3), .val (.ref b), .val (.int (Int32.ofNat F)), .val (.int (Int32.ofNat Tn)), .val (.int A), .val (.int len), .unset] [(.int (2 : Int32)), (.ref b)])) rfl rfl (hb hby at_560) ?_
    show Steps p.tables e below (T.setTop (mkF m 561 #[.val (.int i0), .val (.int i1), .val (.int i2), .val (.int i3), .val (.ref b), .val (.int (Int32.ofNat F)), .val (.int (Int32.ofNat Tn)), .val (.int A), .val (.int len), .unset] [(.int (f 2))])) _
    refine XS.iconst X.here hx rfl (hb hby at_561) ?_
    show Steps p.tables e below (T.setTop (mkF m 562 #[.val (.int i0), .val (.int i1), .val (.int i2), .val (.int i3), .val (.ref b), .val (.int (Int32.ofNat F)), .val (.int (Int32.ofNat Tn)), .val (.int A), .val (.int len), .unset] [(.int (2 : Int32)), (.int (f 2))])) _
    refine XS.iload X.here hx rfl (hb hby at_562) rfl ?_
    show Steps p.tables e below (T.setTop (mkF m 564 #[.val (.int i0), .val (.int i1), .val (.int i2), .val (.int i3), .val (.ref b), .val (.int (Int32.ofNat F)), .val (.int (Int32.ofNat Tn)), .val (.int A), .val (.int len), .unset] [(.int (Int32.ofNat F)), (.int (2 : Int32)), (.int (f 2))])) _
    refine XS.iload X.here hx rfl (hb hby at_564) rfl ?_
    show Steps p.tables e below (T.setTop (mkF m 566 #[.val (.int i0), .val (.int i1), .val (.int i2), .val (.int i3), .val (.ref b), .val (.int (Int32.ofNat F)), .val (.int (Int32.ofNat Tn)), .val (.int A), .val (.int len), .unset] [(.int (Int32.ofNat Tn)), (.int (Int32.ofNat F)), (.int (2 : Int32)), (.int (f 2))])) _
    refine st1 _ ?_
    rw [hv]
    show Steps p.tables e below (T1.setTop (mkF m 569 #[.val (.int i0), .val (.int i1), .val (.int i2), .val (.int i3), .val (.ref b), .val (.int (Int32.ofNat F)), .val (.int (Int32.ofNat Tn)), .val (.int A), .val (.int len), .unset] [(.int (1 : Int32))])) _
    refine XS.ifNo X1.here hx rfl (hb hby at_569) rfl ((if0 _ _).trans (feq (by decide)).1) ?_
    exact kt
  · show Steps p.tables e below (T.setTop (mkF m 557 #[.val (.int i0), .val (.int i1), .val (.int i2), .val (.int i3), .val (.ref b), .val (.int (Int32.ofNat F)), .val (.int (Int32.ofNat Tn)), .val (.int A), .val (.int len), .unset] [])) _
    refine XS.aload X.here hx rfl (hb hby at_557) rfl rfl ?_
    show Steps p.tables e below (T.setTop (mkF m 559 #[.val (.int i0), .val (.int i1), .val (.int i2), .val (.int i3), .val (.ref b), .val (.int (Int32.ofNat F)), .val (.int (Int32.ofNat Tn)), .val (.int A), .val (.int len), .unset] [(.ref b)])) _
    refine XS.iconst X.here hx rfl (hb hby at_559) ?_
    show Steps p.tables e below (T.setTop (mkF m 560 #[.val (.int i0), .val (.int i1), .val (.int i2), .val (.int i3), .val (.ref b), .val (.int (Int32.ofNat F)), .val (.int (Int32.ofNat Tn)), .val (.int A), .val (.int len), .unset] [(.int (2 : Int32)), (.ref b)])) _
    refine ldBy X hx hZ B (j := (2 : Int32)) (by decide) (by decide) (g := (mkF m 560 #[.val (.int i0), .val (.int i1), .val (.int i2), .val (.int i3), .val (.ref b), .val (.int (Int32.ofNat F)), .val (.int (Int32.ofNat Tn)), .val (.int A), .val (.int len), .unset] [(.int (2 : Int32)), (.ref b)])) rfl rfl (hb hby at_560) ?_
    show Steps p.tables e below (T.setTop (mkF m 561 #[.val (.int i0), .val (.int i1), .val (.int i2), .val (.int i3), .val (.ref b), .val (.int (Int32.ofNat F)), .val (.int (Int32.ofNat Tn)), .val (.int A), .val (.int len), .unset] [(.int (f 2))])) _
    refine XS.iconst X.here hx rfl (hb hby at_561) ?_
    show Steps p.tables e below (T.setTop (mkF m 562 #[.val (.int i0), .val (.int i1), .val (.int i2), .val (.int i3), .val (.ref b), .val (.int (Int32.ofNat F)), .val (.int (Int32.ofNat Tn)), .val (.int A), .val (.int len), .unset] [(.int (2 : Int32)), (.int (f 2))])) _
    refine XS.iload X.here hx rfl (hb hby at_562) rfl ?_
    show Steps p.tables e below (T.setTop (mkF m 564 #[.val (.int i0), .val (.int i1), .val (.int i2), .val (.int i3), .val (.ref b), .val (.int (Int32.ofNat F)), .val (.int (Int32.ofNat Tn)), .val (.int A), .val (.int len), .unset] [(.int (Int32.ofNat F)), (.int (2 : Int32)), (.int (f 2))])) _
    refine XS.iload X.here hx rfl (hb hby at_564) rfl ?_
    show Steps p.tables e below (T.setTop (mkF m 566 #[.val (.int i0), .val (.int i1), .val (.int i2), .val (.int i3), .val (.ref b), .val (.int (Int32.ofNat F)), .val (.int (Int32.ofNat Tn)), .val (.int A), .val (.int len), .unset] [(.int (Int32.ofNat Tn)), (.int (Int32.ofNat F)), (.int (2 : Int32)), (.int (f 2))])) _
    refine st1 _ ?_
    rw [hv]
    show Steps p.tables e below (T1.setTop (mkF m 569 #[.val (.int i0), .val (.int i1), .val (.int i2), .val (.int i3), .val (.ref b), .val (.int (Int32.ofNat F)), .val (.int (Int32.ofNat Tn)), .val (.int A), .val (.int len), .unset] [(.int (0 : Int32))])) _
    refine XS.ifYes X1.here hx rfl (pc0 := 569) (pc' := 659) rfl (hb hby at_569) rfl ((if0 _ _).trans (teq rfl).1) (by decide) (by decide) ?_
    exact kt
set_option maxRecDepth 65536 in
set_option maxHeartbeats 40000000 in
theorem good_3 {p : Program} {l : Launch} {e : Env} {s : State} {m : MethodId} {args : Array Value} {below : List Frame} {meth : Method} {c : Code} {Z : State} {a0 : Array Value} {T : State} {locs : List Loc} (X : Stand p l e room_1 s m args below meth c T locs 1 68) (hx : p.tables.exec = Jvm.exec) (hZ : Z.Warmed39 s.vm) (hw : ∀ d ∈ tables_1, d.before a0 Z = true) (hby : c.code = code) (hml : c.maxLocals = 10) (hown : s.vm.findClass "com/example/lattis/lattis/NamesIsNamePinLaw" = some m.cls) {n0 : Nat} (N0 : Fr n0 locs) (i0 i1 i2 i3 A len : Int32) {b : Addr} (f : Nat → Int32) (F Tn : Nat) (B : By Z T.heap b 68 f) :
    ∃ (T' : State) (locs' : List Loc), Stand p l e room_1 s m args below meth c T' locs' 1 68 ∧ Fr n0 locs' ∧ By Z T'.heap b 68 f ∧ (own_g (f 3) (3 : Int32) (Int32.ofNat F) (Int32.ofNat Tn) = true → ∀ target, Steps p.tables e below (T'.setTop (mkF m 587 #[.val (.int i0), .val (.int i1), .val (.int i2), .val (.int i3), .val (.ref b), .val (.int (Int32.ofNat F)), .val (.int (Int32.ofNat Tn)), .val (.int A), .val (.int len), .unset] [])) target → Steps p.tables e below (T.setTop (mkF m 572 #[.val (.int i0), .val (.int i1), .val (.int i2), .val (.int i3), .val (.ref b), .val (.int (Int32.ofNat F)), .val (.int (Int32.ofNat Tn)), .val (.int A), .val (.int len), .unset] [])) target) ∧ (own_g (f 3) (3 : Int32) (Int32.ofNat F) (Int32.ofNat Tn) = false → ∀ target, Steps p.tables e below (T'.setTop (mkF m 659 #[.val (.int i0), .val (.int i1), .val (.int i2), .val (.int i3), .val (.ref b), .val (.int (Int32.ofNat F)), .val (.int (Int32.ofNat Tn)), .val (.int A), .val (.int len), .unset] [])) target → Steps p.tables e below (T.setTop (mkF m 572 #[.val (.int i0), .val (.int i1), .val (.int i2), .val (.int i3), .val (.ref b), .val (.int (Int32.ofNat F)), .val (.int (Int32.ofNat Tn)), .val (.int A), .val (.int len), .unset] [])) target) := by
  obtain ⟨T1, L1, X1, N1, e1, st1⟩ := callG X hx hZ hw hby hml hown N0 (f 3) (3 : Int32) (Int32.ofNat F) (Int32.ofNat Tn) (Ls := #[.val (.int i0), .val (.int i1), .val (.int i2), .val (.int i3), .val (.ref b), .val (.int (Int32.ofNat F)), .val (.int (Int32.ofNat Tn)), .val (.int A), .val (.int len), .unset]) rfl at_581
  refine ⟨T1, L1, X1, N1, by rw [e1]; exact B, fun hv target kt => ?_, fun hv target kt => ?_⟩
  · show Steps p.tables e below (T.setTop (mkF m 572 #[.val (.int i0), .val (.int i1), .val (.int i2), .val (.int i3), .val (.ref b), .val (.int (Int32.ofNat F)), .val (.int (Int32.ofNat Tn)), .val (.int A), .val (.int len), .unset] [])) _
    refine XS.aload X.here hx rfl (hb hby at_572) rfl rfl ?_
    show Steps p.tables e below (T.setTop (mkF m 574 #[.val (.int i0), .val (.int i1), .val (.int i2), .val (.int i3), .val (.ref b), .val (.int (Int32.ofNat F)), .val (.int (Int32.ofNat Tn)), .val (.int A), .val (.int len), .unset] [(.ref b)])) _
    refine XS.iconst X.here hx rfl (hb hby at_574) ?_
    show Steps p.tables e below (T.setTop (mkF m 575 #[.val (.int i0), .val (.int i1), .val (.int i2), .val (.int i3), .val (.ref b), .val (.int (Int32.ofNat F)), .val (.int (Int32.ofNat Tn)), .val (.int A), .val (.int len), .unset] [(.int (3 : Int32)), (.ref b)])) _
    refine ldBy X hx hZ B (j := (3 : Int32)) (by decide) (by decide) (g := (mkF m 575 #[.val (.int i0), .val (.int i1), .val (.int i2), .val (.int i3), .val (.ref b), .val (.int (Int32.ofNat F)), .val (.int (Int32.ofNat Tn)), .val (.int A), .val (.int len), .unset] [(.int (3 : Int32)), (.ref b)])) rfl rfl (hb hby at_575) ?_
    show Steps p.tables e below (T.setTop (mkF m 576 #[.val (.int i0), .val (.int i1), .val (.int i2), .val (.int i3), .val (.ref b), .val (.int (Int32.ofNat F)), .val (.int (Int32.ofNat Tn)), .val (.int A), .val (.int len), .unset] [(.int (f 3))])) _
    refine XS.iconst X.here hx rfl (hb hby at_576) ?_
    show Steps p.tables e below (T.setTop (mkF m 577 #[.val (.int i0), .val (.int i1), .val (.int i2), .val (.int i3), .val (.ref b), .val (.int (Int32.ofNat F)), .val (.int (Int32.ofNat Tn)), .val (.int A), .val (.int len), .unset] [(.int (3 : Int32)), (.int (f 3))])) _
    refine XS.iload X.here hx rfl (hb hby at_577) rfl ?_
    show Steps p.tables e below (T.setTop (mkF m 579 #[.val (.int i0), .val (.int i1), .val (.int i2), .val (.int i3), .val (.ref b), .val (.int (Int32.ofNat F)), .val (.int (Int32.ofNat Tn)), .val (.int A), .val (.int len), .unset] [(.int (Int32.ofNat F)), (.int (3 : Int32)), (.int (f 3))])) _
    refine XS.iload X.here hx rfl (hb hby at_579) rfl ?_
    show Steps p.tables e below (T.setTop (mkF m 581 #[.val (.int i0), .val (.int i1), .val (.int i2), .val (.int i3), .val (.ref b), .val (.int (Int32.ofNat F)), .val (.int (Int32.ofNat Tn)), .val (.int A), .val (.int len), .unset] [(.int (Int32.ofNat Tn)), (.int (Int32.ofNat F)), (.int (3 : Int32)), (.int (f 3))])) _
    refine st1 _ ?_
    rw [hv]
    show Steps p.tables e below (T1.setTop (mkF m 584 #[.val (.int i0), .val (.int i1), .val (.int i2), .val (.int i3), .val (.ref b), .val (.int (Int32.ofNat F)), .val (.int (Int32.ofNat Tn)), .val (.int A), .val (.int len), .unset] [(.int (1 : Int32))])) _
    refine XS.ifNo X1.here hx rfl (hb hby at_584) rfl ((if0 _ _).trans (feq (by decide)).1) ?_
    exact kt
  · show Steps p.tables e below (T.setTop (mkF m 572 #[.val (.int i0), .val (.int i1), .val (.int i2), .val (.int i3), .val (.ref b), .val (.int (Int32.ofNat F)), .val (.int (Int32.ofNat Tn)), .val (.int A), .val (.int len), .unset] [])) _
    refine XS.aload X.here hx rfl (hb hby at_572) rfl rfl ?_
    show Steps p.tables e below (T.setTop (mkF m 574 #[.val (.int i0), .val (.int i1), .val (.int i2), .val (.int i3), .val (.ref b), .val (.int (Int32.ofNat F)), .val (.int (Int32.ofNat Tn)), .val (.int A), .val (.int len), .unset] [(.ref b)])) _
    refine XS.iconst X.here hx rfl (hb hby at_574) ?_
    show Steps p.tables e below (T.setTop (mkF m 575 #[.val (.int i0), .val (.int i1), .val (.int i2), .val (.int i3), .val (.ref b), .val (.int (Int32.ofNat F)), .val (.int (Int32.ofNat Tn)), .val (.int A), .val (.int len), .unset] [(.int (3 : Int32)), (.ref b)])) _
    refine ldBy X hx hZ B (j := (3 : Int32)) (by decide) (by decide) (g := (mkF m 575 #[.val (.int i0), .val (.int i1), .val (.int i2), .val (.int i3), .val (.ref b), .val (.int (Int32.ofNat F)), .val (.int (Int32.ofNat Tn)), .val (.int A), .val (.int len), .unset] [(.int (3 : Int32)), (.ref b)])) rfl rfl (hb hby at_575) ?_
    show Steps p.tables e below (T.setTop (mkF m 576 #[.val (.int i0), .val (.int i1), .val (.int i2), .val (.int i3), .val (.ref b), .val (.int (Int32.ofNat F)), .val (.int (Int32.ofNat Tn)), .val (.int A), .val (.int len), .unset] [(.int (f 3))])) _
    refine XS.iconst X.here hx rfl (hb hby at_576) ?_
    show Steps p.tables e below (T.setTop (mkF m 577 #[.val (.int i0), .val (.int i1), .val (.int i2), .val (.int i3), .val (.ref b), .val (.int (Int32.ofNat F)), .val (.int (Int32.ofNat Tn)), .val (.int A), .val (.int len), .unset] [(.int (3 : Int32)), (.int (f 3))])) _
    refine XS.iload X.here hx rfl (hb hby at_577) rfl ?_
    show Steps p.tables e below (T.setTop (mkF m 579 #[.val (.int i0), .val (.int i1), .val (.int i2), .val (.int i3), .val (.ref b), .val (.int (Int32.ofNat F)), .val (.int (Int32.ofNat Tn)), .val (.int A), .val (.int len), .unset] [(.int (Int32.ofNat F)), (.int (3 : Int32)), (.int (f 3))])) _
    refine XS.iload X.here hx rfl (hb hby at_579) rfl ?_
    show Steps p.tables e below (T.setTop (mkF m 581 #[.val (.int i0), .val (.int i1), .val (.int i2), .val (.int i3), .val (.ref b), .val (.int (Int32.ofNat F)), .val (.int (Int32.ofNat Tn)), .val (.int A), .val (.int len), .unset] [(.int (Int32.ofNat Tn)), (.int (Int32.ofNat F)), (.int (3 : Int32)), (.int (f 3))])) _
    refine st1 _ ?_
    rw [hv]
    show Steps p.tables e below (T1.setTop (mkF m 584 #[.val (.int i0), .val (.int i1), .val (.int i2), .val (.int i3), .val (.ref b), .val (.int (Int32.ofNat F)), .val (.int (Int32.ofNat Tn)), .val (.int A), .val (.int len), .unset] [(.int (0 : Int32))])) _
    refine XS.ifYes X1.here hx rfl (pc0 := 584) (pc' := 659) rfl (hb hby at_584) rfl ((if0 _ _).trans (teq rfl).1) (by decide) (by decide) ?_
    exact kt
set_option maxRecDepth 65536 in
set_option maxHeartbeats 40000000 in
theorem good_4 {p : Program} {l : Launch} {e : Env} {s : State} {m : MethodId} {args : Array Value} {below : List Frame} {meth : Method} {c : Code} {Z : State} {a0 : Array Value} {T : State} {locs : List Loc} (X : Stand p l e room_1 s m args below meth c T locs 1 68) (hx : p.tables.exec = Jvm.exec) (hZ : Z.Warmed39 s.vm) (hw : ∀ d ∈ tables_1, d.before a0 Z = true) (hby : c.code = code) (hml : c.maxLocals = 10) (hown : s.vm.findClass "com/example/lattis/lattis/NamesIsNamePinLaw" = some m.cls) {n0 : Nat} (N0 : Fr n0 locs) (i0 i1 i2 i3 A len : Int32) {b : Addr} (f : Nat → Int32) (F Tn : Nat) (B : By Z T.heap b 68 f) :
    ∃ (T' : State) (locs' : List Loc), Stand p l e room_1 s m args below meth c T' locs' 1 68 ∧ Fr n0 locs' ∧ By Z T'.heap b 68 f ∧ (own_g (f 64) (64 : Int32) (Int32.ofNat F) (Int32.ofNat Tn) = true → ∀ target, Steps p.tables e below (T'.setTop (mkF m 604 #[.val (.int i0), .val (.int i1), .val (.int i2), .val (.int i3), .val (.ref b), .val (.int (Int32.ofNat F)), .val (.int (Int32.ofNat Tn)), .val (.int A), .val (.int len), .unset] [])) target → Steps p.tables e below (T.setTop (mkF m 587 #[.val (.int i0), .val (.int i1), .val (.int i2), .val (.int i3), .val (.ref b), .val (.int (Int32.ofNat F)), .val (.int (Int32.ofNat Tn)), .val (.int A), .val (.int len), .unset] [])) target) ∧ (own_g (f 64) (64 : Int32) (Int32.ofNat F) (Int32.ofNat Tn) = false → ∀ target, Steps p.tables e below (T'.setTop (mkF m 659 #[.val (.int i0), .val (.int i1), .val (.int i2), .val (.int i3), .val (.ref b), .val (.int (Int32.ofNat F)), .val (.int (Int32.ofNat Tn)), .val (.int A), .val (.int len), .unset] [])) target → Steps p.tables e below (T.setTop (mkF m 587 #[.val (.int i0), .val (.int i1), .val (.int i2), .val (.int i3), .val (.ref b), .val (.int (Int32.ofNat F)), .val (.int (Int32.ofNat Tn)), .val (.int A), .val (.int len), .unset] [])) target) := by
  obtain ⟨T1, L1, X1, N1, e1, st1⟩ := callG X hx hZ hw hby hml hown N0 (f 64) (64 : Int32) (Int32.ofNat F) (Int32.ofNat Tn) (Ls := #[.val (.int i0), .val (.int i1), .val (.int i2), .val (.int i3), .val (.ref b), .val (.int (Int32.ofNat F)), .val (.int (Int32.ofNat Tn)), .val (.int A), .val (.int len), .unset]) rfl at_598
  refine ⟨T1, L1, X1, N1, by rw [e1]; exact B, fun hv target kt => ?_, fun hv target kt => ?_⟩
  · show Steps p.tables e below (T.setTop (mkF m 587 #[.val (.int i0), .val (.int i1), .val (.int i2), .val (.int i3), .val (.ref b), .val (.int (Int32.ofNat F)), .val (.int (Int32.ofNat Tn)), .val (.int A), .val (.int len), .unset] [])) _
    refine XS.aload X.here hx rfl (hb hby at_587) rfl rfl ?_
    show Steps p.tables e below (T.setTop (mkF m 589 #[.val (.int i0), .val (.int i1), .val (.int i2), .val (.int i3), .val (.ref b), .val (.int (Int32.ofNat F)), .val (.int (Int32.ofNat Tn)), .val (.int A), .val (.int len), .unset] [(.ref b)])) _
    refine XS.bipush X.here hx rfl (hb hby at_589) ?_
    show Steps p.tables e below (T.setTop (mkF m 591 #[.val (.int i0), .val (.int i1), .val (.int i2), .val (.int i3), .val (.ref b), .val (.int (Int32.ofNat F)), .val (.int (Int32.ofNat Tn)), .val (.int A), .val (.int len), .unset] [(.int (64 : Int32)), (.ref b)])) _
    refine ldBy X hx hZ B (j := (64 : Int32)) (by decide) (by decide) (g := (mkF m 591 #[.val (.int i0), .val (.int i1), .val (.int i2), .val (.int i3), .val (.ref b), .val (.int (Int32.ofNat F)), .val (.int (Int32.ofNat Tn)), .val (.int A), .val (.int len), .unset] [(.int (64 : Int32)), (.ref b)])) rfl rfl (hb hby at_591) ?_
    show Steps p.tables e below (T.setTop (mkF m 592 #[.val (.int i0), .val (.int i1), .val (.int i2), .val (.int i3), .val (.ref b), .val (.int (Int32.ofNat F)), .val (.int (Int32.ofNat Tn)), .val (.int A), .val (.int len), .unset] [(.int (f 64))])) _
    refine XS.bipush X.here hx rfl (hb hby at_592) ?_
    show Steps p.tables e below (T.setTop (mkF m 594 #[.val (.int i0), .val (.int i1), .val (.int i2), .val (.int i3), .val (.ref b), .val (.int (Int32.ofNat F)), .val (.int (Int32.ofNat Tn)), .val (.int A), .val (.int len), .unset] [(.int (64 : Int32)), (.int (f 64))])) _
    refine XS.iload X.here hx rfl (hb hby at_594) rfl ?_
    show Steps p.tables e below (T.setTop (mkF m 596 #[.val (.int i0), .val (.int i1), .val (.int i2), .val (.int i3), .val (.ref b), .val (.int (Int32.ofNat F)), .val (.int (Int32.ofNat Tn)), .val (.int A), .val (.int len), .unset] [(.int (Int32.ofNat F)), (.int (64 : Int32)), (.int (f 64))])) _
    refine XS.iload X.here hx rfl (hb hby at_596) rfl ?_
    show Steps p.tables e below (T.setTop (mkF m 598 #[.val (.int i0), .val (.int i1), .val (.int i2), .val (.int i3), .val (.ref b), .val (.int (Int32.ofNat F)), .val (.int (Int32.ofNat Tn)), .val (.int A), .val (.int len), .unset] [(.int (Int32.ofNat Tn)), (.int (Int32.ofNat F)), (.int (64 : Int32)), (.int (f 64))])) _
    refine st1 _ ?_
    rw [hv]
    show Steps p.tables e below (T1.setTop (mkF m 601 #[.val (.int i0), .val (.int i1), .val (.int i2), .val (.int i3), .val (.ref b), .val (.int (Int32.ofNat F)), .val (.int (Int32.ofNat Tn)), .val (.int A), .val (.int len), .unset] [(.int (1 : Int32))])) _
    refine XS.ifNo X1.here hx rfl (hb hby at_601) rfl ((if0 _ _).trans (feq (by decide)).1) ?_
    exact kt
  · show Steps p.tables e below (T.setTop (mkF m 587 #[.val (.int i0), .val (.int i1), .val (.int i2), .val (.int i3), .val (.ref b), .val (.int (Int32.ofNat F)), .val (.int (Int32.ofNat Tn)), .val (.int A), .val (.int len), .unset] [])) _
    refine XS.aload X.here hx rfl (hb hby at_587) rfl rfl ?_
    show Steps p.tables e below (T.setTop (mkF m 589 #[.val (.int i0), .val (.int i1), .val (.int i2), .val (.int i3), .val (.ref b), .val (.int (Int32.ofNat F)), .val (.int (Int32.ofNat Tn)), .val (.int A), .val (.int len), .unset] [(.ref b)])) _
    refine XS.bipush X.here hx rfl (hb hby at_589) ?_
    show Steps p.tables e below (T.setTop (mkF m 591 #[.val (.int i0), .val (.int i1), .val (.int i2), .val (.int i3), .val (.ref b), .val (.int (Int32.ofNat F)), .val (.int (Int32.ofNat Tn)), .val (.int A), .val (.int len), .unset] [(.int (64 : Int32)), (.ref b)])) _
    refine ldBy X hx hZ B (j := (64 : Int32)) (by decide) (by decide) (g := (mkF m 591 #[.val (.int i0), .val (.int i1), .val (.int i2), .val (.int i3), .val (.ref b), .val (.int (Int32.ofNat F)), .val (.int (Int32.ofNat Tn)), .val (.int A), .val (.int len), .unset] [(.int (64 : Int32)), (.ref b)])) rfl rfl (hb hby at_591) ?_
    show Steps p.tables e below (T.setTop (mkF m 592 #[.val (.int i0), .val (.int i1), .val (.int i2), .val (.int i3), .val (.ref b), .val (.int (Int32.ofNat F)), .val (.int (Int32.ofNat Tn)), .val (.int A), .val (.int len), .unset] [(.int (f 64))])) _
    refine XS.bipush X.here hx rfl (hb hby at_592) ?_
    show Steps p.tables e below (T.setTop (mkF m 594 #[.val (.int i0), .val (.int i1), .val (.int i2), .val (.int i3), .val (.ref b), .val (.int (Int32.ofNat F)), .val (.int (Int32.ofNat Tn)), .val (.int A), .val (.int len), .unset] [(.int (64 : Int32)), (.int (f 64))])) _
    refine XS.iload X.here hx rfl (hb hby at_594) rfl ?_
    show Steps p.tables e below (T.setTop (mkF m 596 #[.val (.int i0), .val (.int i1), .val (.int i2), .val (.int i3), .val (.ref b), .val (.int (Int32.ofNat F)), .val (.int (Int32.ofNat Tn)), .val (.int A), .val (.int len), .unset] [(.int (Int32.ofNat F)), (.int (64 : Int32)), (.int (f 64))])) _
    refine XS.iload X.here hx rfl (hb hby at_596) rfl ?_
    show Steps p.tables e below (T.setTop (mkF m 598 #[.val (.int i0), .val (.int i1), .val (.int i2), .val (.int i3), .val (.ref b), .val (.int (Int32.ofNat F)), .val (.int (Int32.ofNat Tn)), .val (.int A), .val (.int len), .unset] [(.int (Int32.ofNat Tn)), (.int (Int32.ofNat F)), (.int (64 : Int32)), (.int (f 64))])) _
    refine st1 _ ?_
    rw [hv]
    show Steps p.tables e below (T1.setTop (mkF m 601 #[.val (.int i0), .val (.int i1), .val (.int i2), .val (.int i3), .val (.ref b), .val (.int (Int32.ofNat F)), .val (.int (Int32.ofNat Tn)), .val (.int A), .val (.int len), .unset] [(.int (0 : Int32))])) _
    refine XS.ifYes X1.here hx rfl (pc0 := 601) (pc' := 659) rfl (hb hby at_601) rfl ((if0 _ _).trans (teq rfl).1) (by decide) (by decide) ?_
    exact kt
set_option maxRecDepth 65536 in
set_option maxHeartbeats 40000000 in
theorem good_5 {p : Program} {l : Launch} {e : Env} {s : State} {m : MethodId} {args : Array Value} {below : List Frame} {meth : Method} {c : Code} {Z : State} {a0 : Array Value} {T : State} {locs : List Loc} (X : Stand p l e room_1 s m args below meth c T locs 1 68) (hx : p.tables.exec = Jvm.exec) (hZ : Z.Warmed39 s.vm) (hw : ∀ d ∈ tables_1, d.before a0 Z = true) (hby : c.code = code) (hml : c.maxLocals = 10) (hown : s.vm.findClass "com/example/lattis/lattis/NamesIsNamePinLaw" = some m.cls) {n0 : Nat} (N0 : Fr n0 locs) (i0 i1 i2 i3 A len : Int32) {b : Addr} (f : Nat → Int32) (F Tn : Nat) (B : By Z T.heap b 68 f) :
    ∃ (T' : State) (locs' : List Loc), Stand p l e room_1 s m args below meth c T' locs' 1 68 ∧ Fr n0 locs' ∧ By Z T'.heap b 68 f ∧ (own_g (f 65) (65 : Int32) (Int32.ofNat F) (Int32.ofNat Tn) = true → ∀ target, Steps p.tables e below (T'.setTop (mkF m 621 #[.val (.int i0), .val (.int i1), .val (.int i2), .val (.int i3), .val (.ref b), .val (.int (Int32.ofNat F)), .val (.int (Int32.ofNat Tn)), .val (.int A), .val (.int len), .unset] [])) target → Steps p.tables e below (T.setTop (mkF m 604 #[.val (.int i0), .val (.int i1), .val (.int i2), .val (.int i3), .val (.ref b), .val (.int (Int32.ofNat F)), .val (.int (Int32.ofNat Tn)), .val (.int A), .val (.int len), .unset] [])) target) ∧ (own_g (f 65) (65 : Int32) (Int32.ofNat F) (Int32.ofNat Tn) = false → ∀ target, Steps p.tables e below (T'.setTop (mkF m 659 #[.val (.int i0), .val (.int i1), .val (.int i2), .val (.int i3), .val (.ref b), .val (.int (Int32.ofNat F)), .val (.int (Int32.ofNat Tn)), .val (.int A), .val (.int len), .unset] [])) target → Steps p.tables e below (T.setTop (mkF m 604 #[.val (.int i0), .val (.int i1), .val (.int i2), .val (.int i3), .val (.ref b), .val (.int (Int32.ofNat F)), .val (.int (Int32.ofNat Tn)), .val (.int A), .val (.int len), .unset] [])) target) := by
  obtain ⟨T1, L1, X1, N1, e1, st1⟩ := callG X hx hZ hw hby hml hown N0 (f 65) (65 : Int32) (Int32.ofNat F) (Int32.ofNat Tn) (Ls := #[.val (.int i0), .val (.int i1), .val (.int i2), .val (.int i3), .val (.ref b), .val (.int (Int32.ofNat F)), .val (.int (Int32.ofNat Tn)), .val (.int A), .val (.int len), .unset]) rfl at_615
  refine ⟨T1, L1, X1, N1, by rw [e1]; exact B, fun hv target kt => ?_, fun hv target kt => ?_⟩
  · show Steps p.tables e below (T.setTop (mkF m 604 #[.val (.int i0), .val (.int i1), .val (.int i2), .val (.int i3), .val (.ref b), .val (.int (Int32.ofNat F)), .val (.int (Int32.ofNat Tn)), .val (.int A), .val (.int len), .unset] [])) _
    refine XS.aload X.here hx rfl (hb hby at_604) rfl rfl ?_
    show Steps p.tables e below (T.setTop (mkF m 606 #[.val (.int i0), .val (.int i1), .val (.int i2), .val (.int i3), .val (.ref b), .val (.int (Int32.ofNat F)), .val (.int (Int32.ofNat Tn)), .val (.int A), .val (.int len), .unset] [(.ref b)])) _
    refine XS.bipush X.here hx rfl (hb hby at_606) ?_
    show Steps p.tables e below (T.setTop (mkF m 608 #[.val (.int i0), .val (.int i1), .val (.int i2), .val (.int i3), .val (.ref b), .val (.int (Int32.ofNat F)), .val (.int (Int32.ofNat Tn)), .val (.int A), .val (.int len), .unset] [(.int (65 : Int32)), (.ref b)])) _
    refine ldBy X hx hZ B (j := (65 : Int32)) (by decide) (by decide) (g := (mkF m 608 #[.val (.int i0), .val (.int i1), .val (.int i2), .val (.int i3), .val (.ref b), .val (.int (Int32.ofNat F)), .val (.int (Int32.ofNat Tn)), .val (.int A), .val (.int len), .unset] [(.int (65 : Int32)), (.ref b)])) rfl rfl (hb hby at_608) ?_
    show Steps p.tables e below (T.setTop (mkF m 609 #[.val (.int i0), .val (.int i1), .val (.int i2), .val (.int i3), .val (.ref b), .val (.int (Int32.ofNat F)), .val (.int (Int32.ofNat Tn)), .val (.int A), .val (.int len), .unset] [(.int (f 65))])) _
    refine XS.bipush X.here hx rfl (hb hby at_609) ?_
    show Steps p.tables e below (T.setTop (mkF m 611 #[.val (.int i0), .val (.int i1), .val (.int i2), .val (.int i3), .val (.ref b), .val (.int (Int32.ofNat F)), .val (.int (Int32.ofNat Tn)), .val (.int A), .val (.int len), .unset] [(.int (65 : Int32)), (.int (f 65))])) _
    refine XS.iload X.here hx rfl (hb hby at_611) rfl ?_
    show Steps p.tables e below (T.setTop (mkF m 613 #[.val (.int i0), .val (.int i1), .val (.int i2), .val (.int i3), .val (.ref b), .val (.int (Int32.ofNat F)), .val (.int (Int32.ofNat Tn)), .val (.int A), .val (.int len), .unset] [(.int (Int32.ofNat F)), (.int (65 : Int32)), (.int (f 65))])) _
    refine XS.iload X.here hx rfl (hb hby at_613) rfl ?_
    show Steps p.tables e below (T.setTop (mkF m 615 #[.val (.int i0), .val (.int i1), .val (.int i2), .val (.int i3), .val (.ref b), .val (.int (Int32.ofNat F)), .val (.int (Int32.ofNat Tn)), .val (.int A), .val (.int len), .unset] [(.int (Int32.ofNat Tn)), (.int (Int32.ofNat F)), (.int (65 : Int32)), (.int (f 65))])) _
    refine st1 _ ?_
    rw [hv]
    show Steps p.tables e below (T1.setTop (mkF m 618 #[.val (.int i0), .val (.int i1), .val (.int i2), .val (.int i3), .val (.ref b), .val (.int (Int32.ofNat F)), .val (.int (Int32.ofNat Tn)), .val (.int A), .val (.int len), .unset] [(.int (1 : Int32))])) _
    refine XS.ifNo X1.here hx rfl (hb hby at_618) rfl ((if0 _ _).trans (feq (by decide)).1) ?_
    exact kt
  · show Steps p.tables e below (T.setTop (mkF m 604 #[.val (.int i0), .val (.int i1), .val (.int i2), .val (.int i3), .val (.ref b), .val (.int (Int32.ofNat F)), .val (.int (Int32.ofNat Tn)), .val (.int A), .val (.int len), .unset] [])) _
    refine XS.aload X.here hx rfl (hb hby at_604) rfl rfl ?_
    show Steps p.tables e below (T.setTop (mkF m 606 #[.val (.int i0), .val (.int i1), .val (.int i2), .val (.int i3), .val (.ref b), .val (.int (Int32.ofNat F)), .val (.int (Int32.ofNat Tn)), .val (.int A), .val (.int len), .unset] [(.ref b)])) _
    refine XS.bipush X.here hx rfl (hb hby at_606) ?_
    show Steps p.tables e below (T.setTop (mkF m 608 #[.val (.int i0), .val (.int i1), .val (.int i2), .val (.int i3), .val (.ref b), .val (.int (Int32.ofNat F)), .val (.int (Int32.ofNat Tn)), .val (.int A), .val (.int len), .unset] [(.int (65 : Int32)), (.ref b)])) _
    refine ldBy X hx hZ B (j := (65 : Int32)) (by decide) (by decide) (g := (mkF m 608 #[.val (.int i0), .val (.int i1), .val (.int i2), .val (.int i3), .val (.ref b), .val (.int (Int32.ofNat F)), .val (.int (Int32.ofNat Tn)), .val (.int A), .val (.int len), .unset] [(.int (65 : Int32)), (.ref b)])) rfl rfl (hb hby at_608) ?_
    show Steps p.tables e below (T.setTop (mkF m 609 #[.val (.int i0), .val (.int i1), .val (.int i2), .val (.int i3), .val (.ref b), .val (.int (Int32.ofNat F)), .val (.int (Int32.ofNat Tn)), .val (.int A), .val (.int len), .unset] [(.int (f 65))])) _
    refine XS.bipush X.here hx rfl (hb hby at_609) ?_
    show Steps p.tables e below (T.setTop (mkF m 611 #[.val (.int i0), .val (.int i1), .val (.int i2), .val (.int i3), .val (.ref b), .val (.int (Int32.ofNat F)), .val (.int (Int32.ofNat Tn)), .val (.int A), .val (.int len), .unset] [(.int (65 : Int32)), (.int (f 65))])) _
    refine XS.iload X.here hx rfl (hb hby at_611) rfl ?_
    show Steps p.tables e below (T.setTop (mkF m 613 #[.val (.int i0), .val (.int i1), .val (.int i2), .val (.int i3), .val (.ref b), .val (.int (Int32.ofNat F)), .val (.int (Int32.ofNat Tn)), .val (.int A), .val (.int len), .unset] [(.int (Int32.ofNat F)), (.int (65 : Int32)), (.int (f 65))])) _
    refine XS.iload X.here hx rfl (hb hby at_613) rfl ?_
    show Steps p.tables e below (T.setTop (mkF m 615 #[.val (.int i0), .val (.int i1), .val (.int i2), .val (.int i3), .val (.ref b), .val (.int (Int32.ofNat F)), .val (.int (Int32.ofNat Tn)), .val (.int A), .val (.int len), .unset] [(.int (Int32.ofNat Tn)), (.int (Int32.ofNat F)), (.int (65 : Int32)), (.int (f 65))])) _
    refine st1 _ ?_
    rw [hv]
    show Steps p.tables e below (T1.setTop (mkF m 618 #[.val (.int i0), .val (.int i1), .val (.int i2), .val (.int i3), .val (.ref b), .val (.int (Int32.ofNat F)), .val (.int (Int32.ofNat Tn)), .val (.int A), .val (.int len), .unset] [(.int (0 : Int32))])) _
    refine XS.ifYes X1.here hx rfl (pc0 := 618) (pc' := 659) rfl (hb hby at_618) rfl ((if0 _ _).trans (teq rfl).1) (by decide) (by decide) ?_
    exact kt
set_option maxRecDepth 65536 in
set_option maxHeartbeats 40000000 in
theorem good_6 {p : Program} {l : Launch} {e : Env} {s : State} {m : MethodId} {args : Array Value} {below : List Frame} {meth : Method} {c : Code} {Z : State} {a0 : Array Value} {T : State} {locs : List Loc} (X : Stand p l e room_1 s m args below meth c T locs 1 68) (hx : p.tables.exec = Jvm.exec) (hZ : Z.Warmed39 s.vm) (hw : ∀ d ∈ tables_1, d.before a0 Z = true) (hby : c.code = code) (hml : c.maxLocals = 10) (hown : s.vm.findClass "com/example/lattis/lattis/NamesIsNamePinLaw" = some m.cls) {n0 : Nat} (N0 : Fr n0 locs) (i0 i1 i2 i3 A len : Int32) {b : Addr} (f : Nat → Int32) (F Tn : Nat) (B : By Z T.heap b 68 f) :
    ∃ (T' : State) (locs' : List Loc), Stand p l e room_1 s m args below meth c T' locs' 1 68 ∧ Fr n0 locs' ∧ By Z T'.heap b 68 f ∧ (own_g (f 66) (66 : Int32) (Int32.ofNat F) (Int32.ofNat Tn) = true → ∀ target, Steps p.tables e below (T'.setTop (mkF m 638 #[.val (.int i0), .val (.int i1), .val (.int i2), .val (.int i3), .val (.ref b), .val (.int (Int32.ofNat F)), .val (.int (Int32.ofNat Tn)), .val (.int A), .val (.int len), .unset] [])) target → Steps p.tables e below (T.setTop (mkF m 621 #[.val (.int i0), .val (.int i1), .val (.int i2), .val (.int i3), .val (.ref b), .val (.int (Int32.ofNat F)), .val (.int (Int32.ofNat Tn)), .val (.int A), .val (.int len), .unset] [])) target) ∧ (own_g (f 66) (66 : Int32) (Int32.ofNat F) (Int32.ofNat Tn) = false → ∀ target, Steps p.tables e below (T'.setTop (mkF m 659 #[.val (.int i0), .val (.int i1), .val (.int i2), .val (.int i3), .val (.ref b), .val (.int (Int32.ofNat F)), .val (.int (Int32.ofNat Tn)), .val (.int A), .val (.int len), .unset] [])) target → Steps p.tables e below (T.setTop (mkF m 621 #[.val (.int i0), .val (.int i1), .val (.int i2), .val (.int i3), .val (.ref b), .val (.int (Int32.ofNat F)), .val (.int (Int32.ofNat Tn)), .val (.int A), .val (.int len), .unset] [])) target) := by
  obtain ⟨T1, L1, X1, N1, e1, st1⟩ := callG X hx hZ hw hby hml hown N0 (f 66) (66 : Int32) (Int32.ofNat F) (Int32.ofNat Tn) (Ls := #[.val (.int i0), .val (.int i1), .val (.int i2), .val (.int i3), .val (.ref b), .val (.int (Int32.ofNat F)), .val (.int (Int32.ofNat Tn)), .val (.int A), .val (.int len), .unset]) rfl at_632
  refine ⟨T1, L1, X1, N1, by rw [e1]; exact B, fun hv target kt => ?_, fun hv target kt => ?_⟩
  · show Steps p.tables e below (T.setTop (mkF m 621 #[.val (.int i0), .val (.int i1), .val (.int i2), .val (.int i3), .val (.ref b), .val (.int (Int32.ofNat F)), .val (.int (Int32.ofNat Tn)), .val (.int A), .val (.int len), .unset] [])) _
    refine XS.aload X.here hx rfl (hb hby at_621) rfl rfl ?_
    show Steps p.tables e below (T.setTop (mkF m 623 #[.val (.int i0), .val (.int i1), .val (.int i2), .val (.int i3), .val (.ref b), .val (.int (Int32.ofNat F)), .val (.int (Int32.ofNat Tn)), .val (.int A), .val (.int len), .unset] [(.ref b)])) _
    refine XS.bipush X.here hx rfl (hb hby at_623) ?_
    show Steps p.tables e below (T.setTop (mkF m 625 #[.val (.int i0), .val (.int i1), .val (.int i2), .val (.int i3), .val (.ref b), .val (.int (Int32.ofNat F)), .val (.int (Int32.ofNat Tn)), .val (.int A), .val (.int len), .unset] [(.int (66 : Int32)), (.ref b)])) _
    refine ldBy X hx hZ B (j := (66 : Int32)) (by decide) (by decide) (g := (mkF m 625 #[.val (.int i0), .val (.int i1), .val (.int i2), .val (.int i3), .val (.ref b), .val (.int (Int32.ofNat F)), .val (.int (Int32.ofNat Tn)), .val (.int A), .val (.int len), .unset] [(.int (66 : Int32)), (.ref b)])) rfl rfl (hb hby at_625) ?_
    show Steps p.tables e below (T.setTop (mkF m 626 #[.val (.int i0), .val (.int i1), .val (.int i2), .val (.int i3), .val (.ref b), .val (.int (Int32.ofNat F)), .val (.int (Int32.ofNat Tn)), .val (.int A), .val (.int len), .unset] [(.int (f 66))])) _
    refine XS.bipush X.here hx rfl (hb hby at_626) ?_
    show Steps p.tables e below (T.setTop (mkF m 628 #[.val (.int i0), .val (.int i1), .val (.int i2), .val (.int i3), .val (.ref b), .val (.int (Int32.ofNat F)), .val (.int (Int32.ofNat Tn)), .val (.int A), .val (.int len), .unset] [(.int (66 : Int32)), (.int (f 66))])) _
    refine XS.iload X.here hx rfl (hb hby at_628) rfl ?_
    show Steps p.tables e below (T.setTop (mkF m 630 #[.val (.int i0), .val (.int i1), .val (.int i2), .val (.int i3), .val (.ref b), .val (.int (Int32.ofNat F)), .val (.int (Int32.ofNat Tn)), .val (.int A), .val (.int len), .unset] [(.int (Int32.ofNat F)), (.int (66 : Int32)), (.int (f 66))])) _
    refine XS.iload X.here hx rfl (hb hby at_630) rfl ?_
    show Steps p.tables e below (T.setTop (mkF m 632 #[.val (.int i0), .val (.int i1), .val (.int i2), .val (.int i3), .val (.ref b), .val (.int (Int32.ofNat F)), .val (.int (Int32.ofNat Tn)), .val (.int A), .val (.int len), .unset] [(.int (Int32.ofNat Tn)), (.int (Int32.ofNat F)), (.int (66 : Int32)), (.int (f 66))])) _
    refine st1 _ ?_
    rw [hv]
    show Steps p.tables e below (T1.setTop (mkF m 635 #[.val (.int i0), .val (.int i1), .val (.int i2), .val (.int i3), .val (.ref b), .val (.int (Int32.ofNat F)), .val (.int (Int32.ofNat Tn)), .val (.int A), .val (.int len), .unset] [(.int (1 : Int32))])) _
    refine XS.ifNo X1.here hx rfl (hb hby at_635) rfl ((if0 _ _).trans (feq (by decide)).1) ?_
    exact kt
  · show Steps p.tables e below (T.setTop (mkF m 621 #[.val (.int i0), .val (.int i1), .val (.int i2), .val (.int i3), .val (.ref b), .val (.int (Int32.ofNat F)), .val (.int (Int32.ofNat Tn)), .val (.int A), .val (.int len), .unset] [])) _
    refine XS.aload X.here hx rfl (hb hby at_621) rfl rfl ?_
    show Steps p.tables e below (T.setTop (mkF m 623 #[.val (.int i0), .val (.int i1), .val (.int i2), .val (.int i3), .val (.ref b), .val (.int (Int32.ofNat F)), .val (.int (Int32.ofNat Tn)), .val (.int A), .val (.int len), .unset] [(.ref b)])) _
    refine XS.bipush X.here hx rfl (hb hby at_623) ?_
    show Steps p.tables e below (T.setTop (mkF m 625 #[.val (.int i0), .val (.int i1), .val (.int i2), .val (.int i3), .val (.ref b), .val (.int (Int32.ofNat F)), .val (.int (Int32.ofNat Tn)), .val (.int A), .val (.int len), .unset] [(.int (66 : Int32)), (.ref b)])) _
    refine ldBy X hx hZ B (j := (66 : Int32)) (by decide) (by decide) (g := (mkF m 625 #[.val (.int i0), .val (.int i1), .val (.int i2), .val (.int i3), .val (.ref b), .val (.int (Int32.ofNat F)), .val (.int (Int32.ofNat Tn)), .val (.int A), .val (.int len), .unset] [(.int (66 : Int32)), (.ref b)])) rfl rfl (hb hby at_625) ?_
    show Steps p.tables e below (T.setTop (mkF m 626 #[.val (.int i0), .val (.int i1), .val (.int i2), .val (.int i3), .val (.ref b), .val (.int (Int32.ofNat F)), .val (.int (Int32.ofNat Tn)), .val (.int A), .val (.int len), .unset] [(.int (f 66))])) _
    refine XS.bipush X.here hx rfl (hb hby at_626) ?_
    show Steps p.tables e below (T.setTop (mkF m 628 #[.val (.int i0), .val (.int i1), .val (.int i2), .val (.int i3), .val (.ref b), .val (.int (Int32.ofNat F)), .val (.int (Int32.ofNat Tn)), .val (.int A), .val (.int len), .unset] [(.int (66 : Int32)), (.int (f 66))])) _
    refine XS.iload X.here hx rfl (hb hby at_628) rfl ?_
    show Steps p.tables e below (T.setTop (mkF m 630 #[.val (.int i0), .val (.int i1), .val (.int i2), .val (.int i3), .val (.ref b), .val (.int (Int32.ofNat F)), .val (.int (Int32.ofNat Tn)), .val (.int A), .val (.int len), .unset] [(.int (Int32.ofNat F)), (.int (66 : Int32)), (.int (f 66))])) _
    refine XS.iload X.here hx rfl (hb hby at_630) rfl ?_
    show Steps p.tables e below (T.setTop (mkF m 632 #[.val (.int i0), .val (.int i1), .val (.int i2), .val (.int i3), .val (.ref b), .val (.int (Int32.ofNat F)), .val (.int (Int32.ofNat Tn)), .val (.int A), .val (.int len), .unset] [(.int (Int32.ofNat Tn)), (.int (Int32.ofNat F)), (.int (66 : Int32)), (.int (f 66))])) _
    refine st1 _ ?_
    rw [hv]
    show Steps p.tables e below (T1.setTop (mkF m 635 #[.val (.int i0), .val (.int i1), .val (.int i2), .val (.int i3), .val (.ref b), .val (.int (Int32.ofNat F)), .val (.int (Int32.ofNat Tn)), .val (.int A), .val (.int len), .unset] [(.int (0 : Int32))])) _
    refine XS.ifYes X1.here hx rfl (pc0 := 635) (pc' := 659) rfl (hb hby at_635) rfl ((if0 _ _).trans (teq rfl).1) (by decide) (by decide) ?_
    exact kt
set_option maxRecDepth 65536 in
set_option maxHeartbeats 40000000 in
theorem good_7 {p : Program} {l : Launch} {e : Env} {s : State} {m : MethodId} {args : Array Value} {below : List Frame} {meth : Method} {c : Code} {Z : State} {a0 : Array Value} {T : State} {locs : List Loc} (X : Stand p l e room_1 s m args below meth c T locs 1 68) (hx : p.tables.exec = Jvm.exec) (hZ : Z.Warmed39 s.vm) (hw : ∀ d ∈ tables_1, d.before a0 Z = true) (hby : c.code = code) (hml : c.maxLocals = 10) (hown : s.vm.findClass "com/example/lattis/lattis/NamesIsNamePinLaw" = some m.cls) {n0 : Nat} (N0 : Fr n0 locs) (i0 i1 i2 i3 A len : Int32) {b : Addr} (f : Nat → Int32) (F Tn : Nat) (B : By Z T.heap b 68 f) :
    ∃ (T' : State) (locs' : List Loc), Stand p l e room_1 s m args below meth c T' locs' 1 68 ∧ Fr n0 locs' ∧ By Z T'.heap b 68 f ∧ (own_g (f 67) (67 : Int32) (Int32.ofNat F) (Int32.ofNat Tn) = true → ∀ target, Steps p.tables e below (T'.setTop (mkF m 655 #[.val (.int i0), .val (.int i1), .val (.int i2), .val (.int i3), .val (.ref b), .val (.int (Int32.ofNat F)), .val (.int (Int32.ofNat Tn)), .val (.int A), .val (.int len), .unset] [])) target → Steps p.tables e below (T.setTop (mkF m 638 #[.val (.int i0), .val (.int i1), .val (.int i2), .val (.int i3), .val (.ref b), .val (.int (Int32.ofNat F)), .val (.int (Int32.ofNat Tn)), .val (.int A), .val (.int len), .unset] [])) target) ∧ (own_g (f 67) (67 : Int32) (Int32.ofNat F) (Int32.ofNat Tn) = false → ∀ target, Steps p.tables e below (T'.setTop (mkF m 659 #[.val (.int i0), .val (.int i1), .val (.int i2), .val (.int i3), .val (.ref b), .val (.int (Int32.ofNat F)), .val (.int (Int32.ofNat Tn)), .val (.int A), .val (.int len), .unset] [])) target → Steps p.tables e below (T.setTop (mkF m 638 #[.val (.int i0), .val (.int i1), .val (.int i2), .val (.int i3), .val (.ref b), .val (.int (Int32.ofNat F)), .val (.int (Int32.ofNat Tn)), .val (.int A), .val (.int len), .unset] [])) target) := by
  obtain ⟨T1, L1, X1, N1, e1, st1⟩ := callG X hx hZ hw hby hml hown N0 (f 67) (67 : Int32) (Int32.ofNat F) (Int32.ofNat Tn) (Ls := #[.val (.int i0), .val (.int i1), .val (.int i2), .val (.int i3), .val (.ref b), .val (.int (Int32.ofNat F)), .val (.int (Int32.ofNat Tn)), .val (.int A), .val (.int len), .unset]) rfl at_649
  refine ⟨T1, L1, X1, N1, by rw [e1]; exact B, fun hv target kt => ?_, fun hv target kt => ?_⟩
  · show Steps p.tables e below (T.setTop (mkF m 638 #[.val (.int i0), .val (.int i1), .val (.int i2), .val (.int i3), .val (.ref b), .val (.int (Int32.ofNat F)), .val (.int (Int32.ofNat Tn)), .val (.int A), .val (.int len), .unset] [])) _
    refine XS.aload X.here hx rfl (hb hby at_638) rfl rfl ?_
    show Steps p.tables e below (T.setTop (mkF m 640 #[.val (.int i0), .val (.int i1), .val (.int i2), .val (.int i3), .val (.ref b), .val (.int (Int32.ofNat F)), .val (.int (Int32.ofNat Tn)), .val (.int A), .val (.int len), .unset] [(.ref b)])) _
    refine XS.bipush X.here hx rfl (hb hby at_640) ?_
    show Steps p.tables e below (T.setTop (mkF m 642 #[.val (.int i0), .val (.int i1), .val (.int i2), .val (.int i3), .val (.ref b), .val (.int (Int32.ofNat F)), .val (.int (Int32.ofNat Tn)), .val (.int A), .val (.int len), .unset] [(.int (67 : Int32)), (.ref b)])) _
    refine ldBy X hx hZ B (j := (67 : Int32)) (by decide) (by decide) (g := (mkF m 642 #[.val (.int i0), .val (.int i1), .val (.int i2), .val (.int i3), .val (.ref b), .val (.int (Int32.ofNat F)), .val (.int (Int32.ofNat Tn)), .val (.int A), .val (.int len), .unset] [(.int (67 : Int32)), (.ref b)])) rfl rfl (hb hby at_642) ?_
    show Steps p.tables e below (T.setTop (mkF m 643 #[.val (.int i0), .val (.int i1), .val (.int i2), .val (.int i3), .val (.ref b), .val (.int (Int32.ofNat F)), .val (.int (Int32.ofNat Tn)), .val (.int A), .val (.int len), .unset] [(.int (f 67))])) _
    refine XS.bipush X.here hx rfl (hb hby at_643) ?_
    show Steps p.tables e below (T.setTop (mkF m 645 #[.val (.int i0), .val (.int i1), .val (.int i2), .val (.int i3), .val (.ref b), .val (.int (Int32.ofNat F)), .val (.int (Int32.ofNat Tn)), .val (.int A), .val (.int len), .unset] [(.int (67 : Int32)), (.int (f 67))])) _
    refine XS.iload X.here hx rfl (hb hby at_645) rfl ?_
    show Steps p.tables e below (T.setTop (mkF m 647 #[.val (.int i0), .val (.int i1), .val (.int i2), .val (.int i3), .val (.ref b), .val (.int (Int32.ofNat F)), .val (.int (Int32.ofNat Tn)), .val (.int A), .val (.int len), .unset] [(.int (Int32.ofNat F)), (.int (67 : Int32)), (.int (f 67))])) _
    refine XS.iload X.here hx rfl (hb hby at_647) rfl ?_
    show Steps p.tables e below (T.setTop (mkF m 649 #[.val (.int i0), .val (.int i1), .val (.int i2), .val (.int i3), .val (.ref b), .val (.int (Int32.ofNat F)), .val (.int (Int32.ofNat Tn)), .val (.int A), .val (.int len), .unset] [(.int (Int32.ofNat Tn)), (.int (Int32.ofNat F)), (.int (67 : Int32)), (.int (f 67))])) _
    refine st1 _ ?_
    rw [hv]
    show Steps p.tables e below (T1.setTop (mkF m 652 #[.val (.int i0), .val (.int i1), .val (.int i2), .val (.int i3), .val (.ref b), .val (.int (Int32.ofNat F)), .val (.int (Int32.ofNat Tn)), .val (.int A), .val (.int len), .unset] [(.int (1 : Int32))])) _
    refine XS.ifNo X1.here hx rfl (hb hby at_652) rfl ((if0 _ _).trans (feq (by decide)).1) ?_
    exact kt
  · show Steps p.tables e below (T.setTop (mkF m 638 #[.val (.int i0), .val (.int i1), .val (.int i2), .val (.int i3), .val (.ref b), .val (.int (Int32.ofNat F)), .val (.int (Int32.ofNat Tn)), .val (.int A), .val (.int len), .unset] [])) _
    refine XS.aload X.here hx rfl (hb hby at_638) rfl rfl ?_
    show Steps p.tables e below (T.setTop (mkF m 640 #[.val (.int i0), .val (.int i1), .val (.int i2), .val (.int i3), .val (.ref b), .val (.int (Int32.ofNat F)), .val (.int (Int32.ofNat Tn)), .val (.int A), .val (.int len), .unset] [(.ref b)])) _
    refine XS.bipush X.here hx rfl (hb hby at_640) ?_
    show Steps p.tables e below (T.setTop (mkF m 642 #[.val (.int i0), .val (.int i1), .val (.int i2), .val (.int i3), .val (.ref b), .val (.int (Int32.ofNat F)), .val (.int (Int32.ofNat Tn)), .val (.int A), .val (.int len), .unset] [(.int (67 : Int32)), (.ref b)])) _
    refine ldBy X hx hZ B (j := (67 : Int32)) (by decide) (by decide) (g := (mkF m 642 #[.val (.int i0), .val (.int i1), .val (.int i2), .val (.int i3), .val (.ref b), .val (.int (Int32.ofNat F)), .val (.int (Int32.ofNat Tn)), .val (.int A), .val (.int len), .unset] [(.int (67 : Int32)), (.ref b)])) rfl rfl (hb hby at_642) ?_
    show Steps p.tables e below (T.setTop (mkF m 643 #[.val (.int i0), .val (.int i1), .val (.int i2), .val (.int i3), .val (.ref b), .val (.int (Int32.ofNat F)), .val (.int (Int32.ofNat Tn)), .val (.int A), .val (.int len), .unset] [(.int (f 67))])) _
    refine XS.bipush X.here hx rfl (hb hby at_643) ?_
    show Steps p.tables e below (T.setTop (mkF m 645 #[.val (.int i0), .val (.int i1), .val (.int i2), .val (.int i3), .val (.ref b), .val (.int (Int32.ofNat F)), .val (.int (Int32.ofNat Tn)), .val (.int A), .val (.int len), .unset] [(.int (67 : Int32)), (.int (f 67))])) _
    refine XS.iload X.here hx rfl (hb hby at_645) rfl ?_
    show Steps p.tables e below (T.setTop (mkF m 647 #[.val (.int i0), .val (.int i1), .val (.int i2), .val (.int i3), .val (.ref b), .val (.int (Int32.ofNat F)), .val (.int (Int32.ofNat Tn)), .val (.int A), .val (.int len), .unset] [(.int (Int32.ofNat F)), (.int (67 : Int32)), (.int (f 67))])) _
    refine XS.iload X.here hx rfl (hb hby at_647) rfl ?_
    show Steps p.tables e below (T.setTop (mkF m 649 #[.val (.int i0), .val (.int i1), .val (.int i2), .val (.int i3), .val (.ref b), .val (.int (Int32.ofNat F)), .val (.int (Int32.ofNat Tn)), .val (.int A), .val (.int len), .unset] [(.int (Int32.ofNat Tn)), (.int (Int32.ofNat F)), (.int (67 : Int32)), (.int (f 67))])) _
    refine st1 _ ?_
    rw [hv]
    show Steps p.tables e below (T1.setTop (mkF m 652 #[.val (.int i0), .val (.int i1), .val (.int i2), .val (.int i3), .val (.ref b), .val (.int (Int32.ofNat F)), .val (.int (Int32.ofNat Tn)), .val (.int A), .val (.int len), .unset] [(.int (0 : Int32))])) _
    refine XS.ifYes X1.here hx rfl (pc0 := 652) (pc' := 659) rfl (hb hby at_652) rfl ((if0 _ _).trans (teq rfl).1) (by decide) (by decide) ?_
    exact kt
theorem tail0 {p : Program} {l : Launch} {e : Env} {s : State} {m : MethodId} {args : Array Value} {below : List Frame} {meth : Method} {c : Code}  {T : State} {locs : List Loc} (X : Stand p l e room_1 s m args below meth c T locs 1 68) (hx : p.tables.exec = Jvm.exec) (hby : c.code = code) (i0 i1 i2 i3 len : Int32) (b : Addr) (F Tn : Nat) {target : State} (kt : ∀ (Ls : Array Slot), Steps p.tables e below (T.setTop (mkF m 674 Ls [(.int (1 : Int32))])) target) : Steps p.tables e below (T.setTop (mkF m 659 #[.val (.int i0), .val (.int i1), .val (.int i2), .val (.int i3), .val (.ref b), .val (.int (Int32.ofNat F)), .val (.int (Int32.ofNat Tn)), .val (.int (0 : Int32)), .val (.int len), .unset] [])) target := by
  show Steps p.tables e below (T.setTop (mkF m 659 #[.val (.int i0), .val (.int i1), .val (.int i2), .val (.int i3), .val (.ref b), .val (.int (Int32.ofNat F)), .val (.int (Int32.ofNat Tn)), .val (.int (0 : Int32)), .val (.int len), .unset] [])) _
  refine XS.iconst X.here hx rfl (hb hby at_659) ?_
  show Steps p.tables e below (T.setTop (mkF m 660 #[.val (.int i0), .val (.int i1), .val (.int i2), .val (.int i3), .val (.ref b), .val (.int (Int32.ofNat F)), .val (.int (Int32.ofNat Tn)), .val (.int (0 : Int32)), .val (.int len), .unset] [(.int (0 : Int32))])) _
  refine XS.istore X.here hx rfl (hb hby at_660) rfl (l' := #[.val (.int i0), .val (.int i1), .val (.int i2), .val (.int i3), .val (.ref b), .val (.int (Int32.ofNat F)), .val (.int (Int32.ofNat Tn)), .val (.int (0 : Int32)), .val (.int len), .val (.int (0 : Int32))]) rfl ?_
  show Steps p.tables e below (T.setTop (mkF m 662 #[.val (.int i0), .val (.int i1), .val (.int i2), .val (.int i3), .val (.ref b), .val (.int (Int32.ofNat F)), .val (.int (Int32.ofNat Tn)), .val (.int (0 : Int32)), .val (.int len), .val (.int (0 : Int32))] [])) _
  refine XS.iload X.here hx rfl (hb hby at_662) rfl ?_
  show Steps p.tables e below (T.setTop (mkF m 664 #[.val (.int i0), .val (.int i1), .val (.int i2), .val (.int i3), .val (.ref b), .val (.int (Int32.ofNat F)), .val (.int (Int32.ofNat Tn)), .val (.int (0 : Int32)), .val (.int len), .val (.int (0 : Int32))] [(.int (0 : Int32))])) _
  refine XS.iload X.here hx rfl (hb hby at_664) rfl ?_
  show Steps p.tables e below (T.setTop (mkF m 666 #[.val (.int i0), .val (.int i1), .val (.int i2), .val (.int i3), .val (.ref b), .val (.int (Int32.ofNat F)), .val (.int (Int32.ofNat Tn)), .val (.int (0 : Int32)), .val (.int len), .val (.int (0 : Int32))] [(.int (0 : Int32)), (.int (0 : Int32))])) _
  refine XS.icmpNo X.here hx rfl (hb hby at_666) rfl (teq rfl).2 ?_
  show Steps p.tables e below (T.setTop (mkF m 669 #[.val (.int i0), .val (.int i1), .val (.int i2), .val (.int i3), .val (.ref b), .val (.int (Int32.ofNat F)), .val (.int (Int32.ofNat Tn)), .val (.int (0 : Int32)), .val (.int len), .val (.int (0 : Int32))] [])) _
  refine XS.iconst X.here hx rfl (hb hby at_669) ?_
  show Steps p.tables e below (T.setTop (mkF m 670 #[.val (.int i0), .val (.int i1), .val (.int i2), .val (.int i3), .val (.ref b), .val (.int (Int32.ofNat F)), .val (.int (Int32.ofNat Tn)), .val (.int (0 : Int32)), .val (.int len), .val (.int (0 : Int32))] [(.int (1 : Int32))])) _
  refine XS.goto X.here hx rfl (pc0 := 670) (pc' := 674) rfl (hb hby at_670) (by decide) (by decide) ?_
  exact kt _
theorem tail1 {p : Program} {l : Launch} {e : Env} {s : State} {m : MethodId} {args : Array Value} {below : List Frame} {meth : Method} {c : Code}  {T : State} {locs : List Loc} (X : Stand p l e room_1 s m args below meth c T locs 1 68) (hx : p.tables.exec = Jvm.exec) (hby : c.code = code) (i0 i1 i2 i3 len : Int32) (b : Addr) (F Tn : Nat) {target : State} (kt : ∀ (Ls : Array Slot), Steps p.tables e below (T.setTop (mkF m 674 Ls [(.int (1 : Int32))])) target) : Steps p.tables e below (T.setTop (mkF m 655 #[.val (.int i0), .val (.int i1), .val (.int i2), .val (.int i3), .val (.ref b), .val (.int (Int32.ofNat F)), .val (.int (Int32.ofNat Tn)), .val (.int (1 : Int32)), .val (.int len), .unset] [])) target := by
  show Steps p.tables e below (T.setTop (mkF m 655 #[.val (.int i0), .val (.int i1), .val (.int i2), .val (.int i3), .val (.ref b), .val (.int (Int32.ofNat F)), .val (.int (Int32.ofNat Tn)), .val (.int (1 : Int32)), .val (.int len), .unset] [])) _
  refine XS.iconst X.here hx rfl (hb hby at_655) ?_
  show Steps p.tables e below (T.setTop (mkF m 656 #[.val (.int i0), .val (.int i1), .val (.int i2), .val (.int i3), .val (.ref b), .val (.int (Int32.ofNat F)), .val (.int (Int32.ofNat Tn)), .val (.int (1 : Int32)), .val (.int len), .unset] [(.int (1 : Int32))])) _
  refine XS.goto X.here hx rfl (pc0 := 656) (pc' := 660) rfl (hb hby at_656) (by decide) (by decide) ?_
  show Steps p.tables e below (T.setTop (mkF m 660 #[.val (.int i0), .val (.int i1), .val (.int i2), .val (.int i3), .val (.ref b), .val (.int (Int32.ofNat F)), .val (.int (Int32.ofNat Tn)), .val (.int (1 : Int32)), .val (.int len), .unset] [(.int (1 : Int32))])) _
  refine XS.istore X.here hx rfl (hb hby at_660) rfl (l' := #[.val (.int i0), .val (.int i1), .val (.int i2), .val (.int i3), .val (.ref b), .val (.int (Int32.ofNat F)), .val (.int (Int32.ofNat Tn)), .val (.int (1 : Int32)), .val (.int len), .val (.int (1 : Int32))]) rfl ?_
  show Steps p.tables e below (T.setTop (mkF m 662 #[.val (.int i0), .val (.int i1), .val (.int i2), .val (.int i3), .val (.ref b), .val (.int (Int32.ofNat F)), .val (.int (Int32.ofNat Tn)), .val (.int (1 : Int32)), .val (.int len), .val (.int (1 : Int32))] [])) _
  refine XS.iload X.here hx rfl (hb hby at_662) rfl ?_
  show Steps p.tables e below (T.setTop (mkF m 664 #[.val (.int i0), .val (.int i1), .val (.int i2), .val (.int i3), .val (.ref b), .val (.int (Int32.ofNat F)), .val (.int (Int32.ofNat Tn)), .val (.int (1 : Int32)), .val (.int len), .val (.int (1 : Int32))] [(.int (1 : Int32))])) _
  refine XS.iload X.here hx rfl (hb hby at_664) rfl ?_
  show Steps p.tables e below (T.setTop (mkF m 666 #[.val (.int i0), .val (.int i1), .val (.int i2), .val (.int i3), .val (.ref b), .val (.int (Int32.ofNat F)), .val (.int (Int32.ofNat Tn)), .val (.int (1 : Int32)), .val (.int len), .val (.int (1 : Int32))] [(.int (1 : Int32)), (.int (1 : Int32))])) _
  refine XS.icmpNo X.here hx rfl (hb hby at_666) rfl (teq rfl).2 ?_
  show Steps p.tables e below (T.setTop (mkF m 669 #[.val (.int i0), .val (.int i1), .val (.int i2), .val (.int i3), .val (.ref b), .val (.int (Int32.ofNat F)), .val (.int (Int32.ofNat Tn)), .val (.int (1 : Int32)), .val (.int len), .val (.int (1 : Int32))] [])) _
  refine XS.iconst X.here hx rfl (hb hby at_669) ?_
  show Steps p.tables e below (T.setTop (mkF m 670 #[.val (.int i0), .val (.int i1), .val (.int i2), .val (.int i3), .val (.ref b), .val (.int (Int32.ofNat F)), .val (.int (Int32.ofNat Tn)), .val (.int (1 : Int32)), .val (.int len), .val (.int (1 : Int32))] [(.int (1 : Int32))])) _
  refine XS.goto X.here hx rfl (pc0 := 670) (pc' := 674) rfl (hb hby at_670) (by decide) (by decide) ?_
  exact kt _
/-! the plain law -/
theorem own_mod (x : Int32) : ∃ n : Nat, n ≤ 68 ∧ ((x &&& (2147483647 : Int32)) % (69 : Int32)) = Int32.ofNat n := by
  have h0 : 0 ≤ (x &&& (2147483647 : Int32)).toInt := (c_andS x 2147483647).2.2 (by decide)
  have h1 : ((x &&& (2147483647 : Int32)) % (69 : Int32)).toInt = (x &&& (2147483647 : Int32)).toInt % 69 := by
    rw [Int32.toInt_mod, show (69 : Int32).toInt = 69 from by decide, Int.tmod_eq_emod_of_nonneg h0]
  refine ⟨((x &&& (2147483647 : Int32)) % (69 : Int32)).toInt.toNat, by omega, ?_⟩
  apply Int32.toInt_inj.mp
  rw [Int32.toInt_ofNat_of_lt (by omega)]
  omega
theorem own_allT {f : Nat → Int32} : ∀ (k i : Nat), (∀ j, i ≤ j → j < i + k → own_k (f j) = true) → own_all f i k = true
  | 0, _, _ => rfl
  | k + 1, i, h => by
    rw [own_all, h i (Nat.le_refl _) (by omega), own_allT k (i + 1) (fun j h1 h2 => h j (by omega) (by omega))]; rfl
theorem own_allF {f : Nat → Int32} : ∀ (k i j : Nat), i ≤ j → j < i + k → own_k (f j) = false → own_all f i k = false
  | 0, i, j, h1, h2, _ => by omega
  | k + 1, i, j, h1, h2, h => by
    rw [own_all]
    by_cases e : i = j
    · rw [e, h]; rfl
    · rw [own_allF k (i + 1) j (by omega) (by omega) h]; simp
theorem own_gF {f : Nat → Int32} {F T j : Nat} (hF : F ≤ 68) (hT : T ≤ 68) (hj : j ≤ 68) (h : own_g (f j) (Int32.ofNat j) (Int32.ofNat F) (Int32.ofNat T) = false) : own_name f F T = false := by
  simp only [own_g, Bool.or_eq_false_iff, Bool.not_eq_false', decide_eq_false_iff_not, decide_eq_true_eq] at h
  obtain ⟨h1, h2, h3⟩ := h
  have a1 : F ≤ j := by
    rcases Nat.lt_or_ge j F with q | q
    · exact absurd (own_lt q hF) h1
    · exact q
  have a2 : j < T := by
    rcases Nat.lt_or_ge j T with q | q
    · exact q
    · exact absurd h2 (own_nlt q hj)
  rw [own_name, own_allF (T - F) F j a1 (by omega) h3]; simp
theorem own_gT {f : Nat → Int32} {F T j : Nat} (hF : F ≤ 68) (hT : T ≤ 68) (h : own_g (f j) (Int32.ofNat j) (Int32.ofNat F) (Int32.ofNat T) = true) (h1 : F ≤ j) (h2 : j < T) : own_k (f j) = true := by
  simp only [own_g, Bool.or_eq_true, Bool.not_eq_true', decide_eq_true_eq, decide_eq_false_iff_not] at h
  rcases h with h | h | h
  · exact absurd h (own_nlt h1 (by omega))
  · exact absurd (own_lt h2 hT) h
  · exact h
set_option maxRecDepth 65536 in
set_option maxHeartbeats 40000000 in
theorem tnB {p : Program} {l : Launch} {e : Env} {s : State} {m : MethodId} {args : Array Value} {below : List Frame} {meth : Method} {c : Code} {Z : State} {a0 : Array Value} {T0 : State} {locs : List Loc} {n0 : Nat} {b : Addr} (i0 i1 i2 i3 : Int32) (f : Nat → Int32) (F Tn : Nat) (hF : F ≤ 68) (hT : Tn ≤ 68) (X0 : Stand p l e room_1 s m args below meth c T0 locs 1 68) (hx : p.tables.exec = Jvm.exec) (hZ : Z.Warmed39 s.vm) (hw : ∀ d ∈ tables_1, d.before a0 Z = true) (hby : c.code = code) (hml : c.maxLocals = 10) (hown : s.vm.findClass "com/example/lattis/lattis/NamesIsNamePinLaw" = some m.cls) (N0 : Fr n0 locs) (B : By Z T0.heap b 68 f) (rest : ∀ j, j < 68 → ¬ (j = 0 ∨ j = 1 ∨ j = 2 ∨ j = 3 ∨ j = 64 ∨ j = 65 ∨ j = 66 ∨ j = 67) → own_k (f j) = true) :
    ∃ (T' : State) (locs' : List Loc), Stand p l e room_1 s m args below meth c T' locs' 1 68 ∧ Fr n0 locs' ∧ ∀ target, (∀ (Ls : Array Slot), Steps p.tables e below (T'.setTop (mkF m 674 Ls [(.int (1 : Int32))])) target) → Steps p.tables e below (T0.setTop (mkF m 496 #[.val (.int i0), .val (.int i1), .val (.int i2), .val (.int i3), .val (.ref b), .val (.int (Int32.ofNat F)), .val (.int (Int32.ofNat Tn)), .unset, .unset, .unset] [])) target := by
  obtain ⟨T1, L1, X1, N1, e1, st1⟩ := callN X0 hx hZ hw hby hml hown N0 f F Tn hF hT B (Ls := #[.val (.int i0), .val (.int i1), .val (.int i2), .val (.int i3), .val (.ref b), .val (.int (Int32.ofNat F)), .val (.int (Int32.ofNat Tn)), .unset, .unset, .unset]) rfl at_502
  have B1 : By Z T1.heap b 68 f := by rw [e1]; exact B
  have hA : own_b (own_name f F Tn) = own_b (own_name f F Tn) := rfl
  obtain ⟨A, hA⟩ : ∃ A, own_b (own_name f F Tn) = A := ⟨_, rfl⟩
  have st0 : ∀ target, Steps p.tables e below (T1.setTop (mkF m 514 #[.val (.int i0), .val (.int i1), .val (.int i2), .val (.int i3), .val (.ref b), .val (.int (Int32.ofNat F)), .val (.int (Int32.ofNat Tn)), .val (.int A), .val (.int (Int32.ofNat Tn - Int32.ofNat F)), .unset] [])) target → Steps p.tables e below (T0.setTop (mkF m 496 #[.val (.int i0), .val (.int i1), .val (.int i2), .val (.int i3), .val (.ref b), .val (.int (Int32.ofNat F)), .val (.int (Int32.ofNat Tn)), .unset, .unset, .unset] [])) target := fun target kt => by
    show Steps p.tables e below (T0.setTop (mkF m 496 #[.val (.int i0), .val (.int i1), .val (.int i2), .val (.int i3), .val (.ref b), .val (.int (Int32.ofNat F)), .val (.int (Int32.ofNat Tn)), .unset, .unset, .unset] [])) _
    refine XS.aload X0.here hx rfl (hb hby at_496) rfl rfl ?_
    show Steps p.tables e below (T0.setTop (mkF m 498 #[.val (.int i0), .val (.int i1), .val (.int i2), .val (.int i3), .val (.ref b), .val (.int (Int32.ofNat F)), .val (.int (Int32.ofNat Tn)), .unset, .unset, .unset] [(.ref b)])) _
    refine XS.iload X0.here hx rfl (hb hby at_498) rfl ?_
    show Steps p.tables e below (T0.setTop (mkF m 500 #[.val (.int i0), .val (.int i1), .val (.int i2), .val (.int i3), .val (.ref b), .val (.int (Int32.ofNat F)), .val (.int (Int32.ofNat Tn)), .unset, .unset, .unset] [(.int (Int32.ofNat F)), (.ref b)])) _
    refine XS.iload X0.here hx rfl (hb hby at_500) rfl ?_
    show Steps p.tables e below (T0.setTop (mkF m 502 #[.val (.int i0), .val (.int i1), .val (.int i2), .val (.int i3), .val (.ref b), .val (.int (Int32.ofNat F)), .val (.int (Int32.ofNat Tn)), .unset, .unset, .unset] [(.int (Int32.ofNat Tn)), (.int (Int32.ofNat F)), (.ref b)])) _
    refine st1 _ ?_
    rw [hA]
    show Steps p.tables e below (T1.setTop (mkF m 505 #[.val (.int i0), .val (.int i1), .val (.int i2), .val (.int i3), .val (.ref b), .val (.int (Int32.ofNat F)), .val (.int (Int32.ofNat Tn)), .unset, .unset, .unset] [(.int A)])) _
    refine XS.istore X1.here hx rfl (hb hby at_505) rfl (l' := #[.val (.int i0), .val (.int i1), .val (.int i2), .val (.int i3), .val (.ref b), .val (.int (Int32.ofNat F)), .val (.int (Int32.ofNat Tn)), .val (.int A), .unset, .unset]) rfl ?_
    show Steps p.tables e below (T1.setTop (mkF m 507 #[.val (.int i0), .val (.int i1), .val (.int i2), .val (.int i3), .val (.ref b), .val (.int (Int32.ofNat F)), .val (.int (Int32.ofNat Tn)), .val (.int A), .unset, .unset] [])) _
    refine XS.iload X1.here hx rfl (hb hby at_507) rfl ?_
    show Steps p.tables e below (T1.setTop (mkF m 509 #[.val (.int i0), .val (.int i1), .val (.int i2), .val (.int i3), .val (.ref b), .val (.int (Int32.ofNat F)), .val (.int (Int32.ofNat Tn)), .val (.int A), .unset, .unset] [(.int (Int32.ofNat Tn))])) _
    refine XS.iload X1.here hx rfl (hb hby at_509) rfl ?_
    show Steps p.tables e below (T1.setTop (mkF m 511 #[.val (.int i0), .val (.int i1), .val (.int i2), .val (.int i3), .val (.ref b), .val (.int (Int32.ofNat F)), .val (.int (Int32.ofNat Tn)), .val (.int A), .unset, .unset] [(.int (Int32.ofNat F)), (.int (Int32.ofNat Tn))])) _
    refine XS.isub X1.here hx rfl (hb hby at_511) rfl ?_
    show Steps p.tables e below (T1.setTop (mkF m 512 #[.val (.int i0), .val (.int i1), .val (.int i2), .val (.int i3), .val (.ref b), .val (.int (Int32.ofNat F)), .val (.int (Int32.ofNat Tn)), .val (.int A), .unset, .unset] [(.int ((Int32.ofNat Tn) - (Int32.ofNat F)))])) _
    refine XS.istore X1.here hx rfl (hb hby at_512) rfl (l' := #[.val (.int i0), .val (.int i1), .val (.int i2), .val (.int i3), .val (.ref b), .val (.int (Int32.ofNat F)), .val (.int (Int32.ofNat Tn)), .val (.int A), .val (.int ((Int32.ofNat Tn) - (Int32.ofNat F))), .unset]) rfl ?_
    exact kt
  have es := own_sub hF hT
  have e64 : (64 : Int32).toInt = 64 := by decide
  have e1' : (1 : Int32).toInt = 1 := by decide
  by_cases g1 : (Int32.ofNat Tn - Int32.ofNat F) < (1 : Int32)
  · have hv : own_name f F Tn = false := by
      have : ¬ F < Tn := by rw [Int32.lt_iff_toInt_lt] at g1; omega
      simp only [own_name, this, decide_false, Bool.false_and]
    rw [hv] at hA
    subst hA
    refine ⟨T1, L1, X1, N1, fun target kt => st0 target ?_⟩
    have go : Steps p.tables e below (T1.setTop (mkF m 514 #[.val (.int i0), .val (.int i1), .val (.int i2), .val (.int i3), .val (.ref b), .val (.int (Int32.ofNat F)), .val (.int (Int32.ofNat Tn)), .val (.int (0 : Int32)), .val (.int (Int32.ofNat Tn - Int32.ofNat F)), .unset] [])) target := by
      show Steps p.tables e below (T1.setTop (mkF m 514 #[.val (.int i0), .val (.int i1), .val (.int i2), .val (.int i3), .val (.ref b), .val (.int (Int32.ofNat F)), .val (.int (Int32.ofNat Tn)), .val (.int (0 : Int32)), .val (.int (Int32.ofNat Tn - Int32.ofNat F)), .unset] [])) _
      refine XS.iload X1.here hx rfl (hb hby at_514) rfl ?_
      show Steps p.tables e below (T1.setTop (mkF m 516 #[.val (.int i0), .val (.int i1), .val (.int i2), .val (.int i3), .val (.ref b), .val (.int (Int32.ofNat F)), .val (.int (Int32.ofNat Tn)), .val (.int (0 : Int32)), .val (.int (Int32.ofNat Tn - Int32.ofNat F)), .unset] [(.int (Int32.ofNat Tn - Int32.ofNat F))])) _
      refine XS.iconst X1.here hx rfl (hb hby at_516) ?_
      show Steps p.tables e below (T1.setTop (mkF m 517 #[.val (.int i0), .val (.int i1), .val (.int i2), .val (.int i3), .val (.ref b), .val (.int (Int32.ofNat F)), .val (.int (Int32.ofNat Tn)), .val (.int (0 : Int32)), .val (.int (Int32.ofNat Tn - Int32.ofNat F)), .unset] [(.int (1 : Int32)), (.int (Int32.ofNat Tn - Int32.ofNat F))])) _
      refine XS.icmpYes X1.here hx rfl (pc0 := 517) (pc' := 659) rfl (hb hby at_517) rfl (tlt g1).1 (by decide) (by decide) ?_
      exact tail0 X1 hx hby i0 i1 i2 i3 (Int32.ofNat Tn - Int32.ofNat F) b F Tn kt
    exact go
  · by_cases g2 : (64 : Int32) < (Int32.ofNat Tn - Int32.ofNat F)
    · have hv : own_name f F Tn = false := by
        have : ¬ Tn - F ≤ 64 := by rw [Int32.lt_iff_toInt_lt] at g2; omega
        simp only [own_name, this, decide_false, Bool.false_and, Bool.and_false]
      rw [hv] at hA
      subst hA
      refine ⟨T1, L1, X1, N1, fun target kt => st0 target ?_⟩
      have go : Steps p.tables e below (T1.setTop (mkF m 514 #[.val (.int i0), .val (.int i1), .val (.int i2), .val (.int i3), .val (.ref b), .val (.int (Int32.ofNat F)), .val (.int (Int32.ofNat Tn)), .val (.int (0 : Int32)), .val (.int (Int32.ofNat Tn - Int32.ofNat F)), .unset] [])) target := by
        show Steps p.tables e below (T1.setTop (mkF m 514 #[.val (.int i0), .val (.int i1), .val (.int i2), .val (.int i3), .val (.ref b), .val (.int (Int32.ofNat F)), .val (.int (Int32.ofNat Tn)), .val (.int (0 : Int32)), .val (.int (Int32.ofNat Tn - Int32.ofNat F)), .unset] [])) _
        refine XS.iload X1.here hx rfl (hb hby at_514) rfl ?_
        show Steps p.tables e below (T1.setTop (mkF m 516 #[.val (.int i0), .val (.int i1), .val (.int i2), .val (.int i3), .val (.ref b), .val (.int (Int32.ofNat F)), .val (.int (Int32.ofNat Tn)), .val (.int (0 : Int32)), .val (.int (Int32.ofNat Tn - Int32.ofNat F)), .unset] [(.int (Int32.ofNat Tn - Int32.ofNat F))])) _
        refine XS.iconst X1.here hx rfl (hb hby at_516) ?_
        show Steps p.tables e below (T1.setTop (mkF m 517 #[.val (.int i0), .val (.int i1), .val (.int i2), .val (.int i3), .val (.ref b), .val (.int (Int32.ofNat F)), .val (.int (Int32.ofNat Tn)), .val (.int (0 : Int32)), .val (.int (Int32.ofNat Tn - Int32.ofNat F)), .unset] [(.int (1 : Int32)), (.int (Int32.ofNat Tn - Int32.ofNat F))])) _
        refine XS.icmpNo X1.here hx rfl (hb hby at_517) rfl (flt g1).1 ?_
        show Steps p.tables e below (T1.setTop (mkF m 520 #[.val (.int i0), .val (.int i1), .val (.int i2), .val (.int i3), .val (.ref b), .val (.int (Int32.ofNat F)), .val (.int (Int32.ofNat Tn)), .val (.int (0 : Int32)), .val (.int (Int32.ofNat Tn - Int32.ofNat F)), .unset] [])) _
        refine XS.iload X1.here hx rfl (hb hby at_520) rfl ?_
        show Steps p.tables e below (T1.setTop (mkF m 522 #[.val (.int i0), .val (.int i1), .val (.int i2), .val (.int i3), .val (.ref b), .val (.int (Int32.ofNat F)), .val (.int (Int32.ofNat Tn)), .val (.int (0 : Int32)), .val (.int (Int32.ofNat Tn - Int32.ofNat F)), .unset] [(.int (Int32.ofNat Tn - Int32.ofNat F))])) _
        refine XS.bipush X1.here hx rfl (hb hby at_522) ?_
        show Steps p.tables e below (T1.setTop (mkF m 524 #[.val (.int i0), .val (.int i1), .val (.int i2), .val (.int i3), .val (.ref b), .val (.int (Int32.ofNat F)), .val (.int (Int32.ofNat Tn)), .val (.int (0 : Int32)), .val (.int (Int32.ofNat Tn - Int32.ofNat F)), .unset] [(.int (64 : Int32)), (.int (Int32.ofNat Tn - Int32.ofNat F))])) _
        refine XS.icmpYes X1.here hx rfl (pc0 := 524) (pc' := 659) rfl (hb hby at_524) rfl (tlt g2).2.2.1 (by decide) (by decide) ?_
        exact tail0 X1 hx hby i0 i1 i2 i3 (Int32.ofNat Tn - Int32.ofNat F) b F Tn kt
      exact go
    · have a1 : F < Tn := by rw [Int32.lt_iff_toInt_lt] at g1; omega
      have a2 : Tn - F ≤ 64 := by rw [Int32.lt_iff_toInt_lt] at g2; omega
      have st00 : ∀ target, Steps p.tables e below (T1.setTop (mkF m 527 #[.val (.int i0), .val (.int i1), .val (.int i2), .val (.int i3), .val (.ref b), .val (.int (Int32.ofNat F)), .val (.int (Int32.ofNat Tn)), .val (.int A), .val (.int (Int32.ofNat Tn - Int32.ofNat F)), .unset] [])) target → Steps p.tables e below (T0.setTop (mkF m 496 #[.val (.int i0), .val (.int i1), .val (.int i2), .val (.int i3), .val (.ref b), .val (.int (Int32.ofNat F)), .val (.int (Int32.ofNat Tn)), .unset, .unset, .unset] [])) target := fun target kt => st0 target (by
        show Steps p.tables e below (T1.setTop (mkF m 514 #[.val (.int i0), .val (.int i1), .val (.int i2), .val (.int i3), .val (.ref b), .val (.int (Int32.ofNat F)), .val (.int (Int32.ofNat Tn)), .val (.int A), .val (.int (Int32.ofNat Tn - Int32.ofNat F)), .unset] [])) _
        refine XS.iload X1.here hx rfl (hb hby at_514) rfl ?_
        show Steps p.tables e below (T1.setTop (mkF m 516 #[.val (.int i0), .val (.int i1), .val (.int i2), .val (.int i3), .val (.ref b), .val (.int (Int32.ofNat F)), .val (.int (Int32.ofNat Tn)), .val (.int A), .val (.int (Int32.ofNat Tn - Int32.ofNat F)), .unset] [(.int (Int32.ofNat Tn - Int32.ofNat F))])) _
        refine XS.iconst X1.here hx rfl (hb hby at_516) ?_
        show Steps p.tables e below (T1.setTop (mkF m 517 #[.val (.int i0), .val (.int i1), .val (.int i2), .val (.int i3), .val (.ref b), .val (.int (Int32.ofNat F)), .val (.int (Int32.ofNat Tn)), .val (.int A), .val (.int (Int32.ofNat Tn - Int32.ofNat F)), .unset] [(.int (1 : Int32)), (.int (Int32.ofNat Tn - Int32.ofNat F))])) _
        refine XS.icmpNo X1.here hx rfl (hb hby at_517) rfl (flt g1).1 ?_
        show Steps p.tables e below (T1.setTop (mkF m 520 #[.val (.int i0), .val (.int i1), .val (.int i2), .val (.int i3), .val (.ref b), .val (.int (Int32.ofNat F)), .val (.int (Int32.ofNat Tn)), .val (.int A), .val (.int (Int32.ofNat Tn - Int32.ofNat F)), .unset] [])) _
        refine XS.iload X1.here hx rfl (hb hby at_520) rfl ?_
        show Steps p.tables e below (T1.setTop (mkF m 522 #[.val (.int i0), .val (.int i1), .val (.int i2), .val (.int i3), .val (.ref b), .val (.int (Int32.ofNat F)), .val (.int (Int32.ofNat Tn)), .val (.int A), .val (.int (Int32.ofNat Tn - Int32.ofNat F)), .unset] [(.int (Int32.ofNat Tn - Int32.ofNat F))])) _
        refine XS.bipush X1.here hx rfl (hb hby at_522) ?_
        show Steps p.tables e below (T1.setTop (mkF m 524 #[.val (.int i0), .val (.int i1), .val (.int i2), .val (.int i3), .val (.ref b), .val (.int (Int32.ofNat F)), .val (.int (Int32.ofNat Tn)), .val (.int A), .val (.int (Int32.ofNat Tn - Int32.ofNat F)), .unset] [(.int (64 : Int32)), (.int (Int32.ofNat Tn - Int32.ofNat F))])) _
        refine XS.icmpNo X1.here hx rfl (hb hby at_524) rfl (flt g2).2.2.1 ?_
        exact kt)
      obtain ⟨T2, L2, X2, N2, B2, y2, z2⟩ := good_0 X1 hx hZ hw hby hml hown N1 i0 i1 i2 i3 A (Int32.ofNat Tn - Int32.ofNat F) f F Tn B1
      by_cases v0 : own_g (f 0) (Int32.ofNat 0) (Int32.ofNat F) (Int32.ofNat Tn) = false
      · have hv := own_gF hF hT (by omega) v0
        rw [hv] at hA
        subst hA
        exact ⟨T2, L2, X2, N2, fun target kt => st00 target (z2 v0 target (tail0 X2 hx hby i0 i1 i2 i3 (Int32.ofNat Tn - Int32.ofNat F) b F Tn kt))⟩
      replace v0 : own_g (f 0) (Int32.ofNat 0) (Int32.ofNat F) (Int32.ofNat Tn) = true := by simpa using v0
      have st527 : ∀ target, Steps p.tables e below (T2.setTop (mkF m 542 #[.val (.int i0), .val (.int i1), .val (.int i2), .val (.int i3), .val (.ref b), .val (.int (Int32.ofNat F)), .val (.int (Int32.ofNat Tn)), .val (.int A), .val (.int (Int32.ofNat Tn - Int32.ofNat F)), .unset] [])) target → Steps p.tables e below (T0.setTop (mkF m 496 #[.val (.int i0), .val (.int i1), .val (.int i2), .val (.int i3), .val (.ref b), .val (.int (Int32.ofNat F)), .val (.int (Int32.ofNat Tn)), .unset, .unset, .unset] [])) target := fun target kt => st00 target (y2 v0 target kt)
      obtain ⟨T3, L3, X3, N3, B3, y3, z3⟩ := good_1 X2 hx hZ hw hby hml hown N2 i0 i1 i2 i3 A (Int32.ofNat Tn - Int32.ofNat F) f F Tn B2
      by_cases v1 : own_g (f 1) (Int32.ofNat 1) (Int32.ofNat F) (Int32.ofNat Tn) = false
      · have hv := own_gF hF hT (by omega) v1
        rw [hv] at hA
        subst hA
        exact ⟨T3, L3, X3, N3, fun target kt => st527 target (z3 v1 target (tail0 X3 hx hby i0 i1 i2 i3 (Int32.ofNat Tn - Int32.ofNat F) b F Tn kt))⟩
      replace v1 : own_g (f 1) (Int32.ofNat 1) (Int32.ofNat F) (Int32.ofNat Tn) = true := by simpa using v1
      have st542 : ∀ target, Steps p.tables e below (T3.setTop (mkF m 557 #[.val (.int i0), .val (.int i1), .val (.int i2), .val (.int i3), .val (.ref b), .val (.int (Int32.ofNat F)), .val (.int (Int32.ofNat Tn)), .val (.int A), .val (.int (Int32.ofNat Tn - Int32.ofNat F)), .unset] [])) target → Steps p.tables e below (T0.setTop (mkF m 496 #[.val (.int i0), .val (.int i1), .val (.int i2), .val (.int i3), .val (.ref b), .val (.int (Int32.ofNat F)), .val (.int (Int32.ofNat Tn)), .unset, .unset, .unset] [])) target := fun target kt => st527 target (y3 v1 target kt)
      obtain ⟨T4, L4, X4, N4, B4, y4, z4⟩ := good_2 X3 hx hZ hw hby hml hown N3 i0 i1 i2 i3 A (Int32.ofNat Tn - Int32.ofNat F) f F Tn B3
      by_cases v2 : own_g (f 2) (Int32.ofNat 2) (Int32.ofNat F) (Int32.ofNat Tn) = false
      · have hv := own_gF hF hT (by omega) v2
        rw [hv] at hA
        subst hA
        exact ⟨T4, L4, X4, N4, fun target kt => st542 target (z4 v2 target (tail0 X4 hx hby i0 i1 i2 i3 (Int32.ofNat Tn - Int32.ofNat F) b F Tn kt))⟩
      replace v2 : own_g (f 2) (Int32.ofNat 2) (Int32.ofNat F) (Int32.ofNat Tn) = true := by simpa using v2
      have st557 : ∀ target, Steps p.tables e below (T4.setTop (mkF m 572 #[.val (.int i0), .val (.int i1), .val (.int i2), .val (.int i3), .val (.ref b), .val (.int (Int32.ofNat F)), .val (.int (Int32.ofNat Tn)), .val (.int A), .val (.int (Int32.ofNat Tn - Int32.ofNat F)), .unset] [])) target → Steps p.tables e below (T0.setTop (mkF m 496 #[.val (.int i0), .val (.int i1), .val (.int i2), .val (.int i3), .val (.ref b), .val (.int (Int32.ofNat F)), .val (.int (Int32.ofNat Tn)), .unset, .unset, .unset] [])) target := fun target kt => st542 target (y4 v2 target kt)
      obtain ⟨T5, L5, X5, N5, B5, y5, z5⟩ := good_3 X4 hx hZ hw hby hml hown N4 i0 i1 i2 i3 A (Int32.ofNat Tn - Int32.ofNat F) f F Tn B4
      by_cases v3 : own_g (f 3) (Int32.ofNat 3) (Int32.ofNat F) (Int32.ofNat Tn) = false
      · have hv := own_gF hF hT (by omega) v3
        rw [hv] at hA
        subst hA
        exact ⟨T5, L5, X5, N5, fun target kt => st557 target (z5 v3 target (tail0 X5 hx hby i0 i1 i2 i3 (Int32.ofNat Tn - Int32.ofNat F) b F Tn kt))⟩
      replace v3 : own_g (f 3) (Int32.ofNat 3) (Int32.ofNat F) (Int32.ofNat Tn) = true := by simpa using v3
      have st572 : ∀ target, Steps p.tables e below (T5.setTop (mkF m 587 #[.val (.int i0), .val (.int i1), .val (.int i2), .val (.int i3), .val (.ref b), .val (.int (Int32.ofNat F)), .val (.int (Int32.ofNat Tn)), .val (.int A), .val (.int (Int32.ofNat Tn - Int32.ofNat F)), .unset] [])) target → Steps p.tables e below (T0.setTop (mkF m 496 #[.val (.int i0), .val (.int i1), .val (.int i2), .val (.int i3), .val (.ref b), .val (.int (Int32.ofNat F)), .val (.int (Int32.ofNat Tn)), .unset, .unset, .unset] [])) target := fun target kt => st557 target (y5 v3 target kt)
      obtain ⟨T6, L6, X6, N6, B6, y6, z6⟩ := good_4 X5 hx hZ hw hby hml hown N5 i0 i1 i2 i3 A (Int32.ofNat Tn - Int32.ofNat F) f F Tn B5
      by_cases v4 : own_g (f 64) (Int32.ofNat 64) (Int32.ofNat F) (Int32.ofNat Tn) = false
      · have hv := own_gF hF hT (by omega) v4
        rw [hv] at hA
        subst hA
        exact ⟨T6, L6, X6, N6, fun target kt => st572 target (z6 v4 target (tail0 X6 hx hby i0 i1 i2 i3 (Int32.ofNat Tn - Int32.ofNat F) b F Tn kt))⟩
      replace v4 : own_g (f 64) (Int32.ofNat 64) (Int32.ofNat F) (Int32.ofNat Tn) = true := by simpa using v4
      have st587 : ∀ target, Steps p.tables e below (T6.setTop (mkF m 604 #[.val (.int i0), .val (.int i1), .val (.int i2), .val (.int i3), .val (.ref b), .val (.int (Int32.ofNat F)), .val (.int (Int32.ofNat Tn)), .val (.int A), .val (.int (Int32.ofNat Tn - Int32.ofNat F)), .unset] [])) target → Steps p.tables e below (T0.setTop (mkF m 496 #[.val (.int i0), .val (.int i1), .val (.int i2), .val (.int i3), .val (.ref b), .val (.int (Int32.ofNat F)), .val (.int (Int32.ofNat Tn)), .unset, .unset, .unset] [])) target := fun target kt => st572 target (y6 v4 target kt)
      obtain ⟨T7, L7, X7, N7, B7, y7, z7⟩ := good_5 X6 hx hZ hw hby hml hown N6 i0 i1 i2 i3 A (Int32.ofNat Tn - Int32.ofNat F) f F Tn B6
      by_cases v5 : own_g (f 65) (Int32.ofNat 65) (Int32.ofNat F) (Int32.ofNat Tn) = false
      · have hv := own_gF hF hT (by omega) v5
        rw [hv] at hA
        subst hA
        exact ⟨T7, L7, X7, N7, fun target kt => st587 target (z7 v5 target (tail0 X7 hx hby i0 i1 i2 i3 (Int32.ofNat Tn - Int32.ofNat F) b F Tn kt))⟩
      replace v5 : own_g (f 65) (Int32.ofNat 65) (Int32.ofNat F) (Int32.ofNat Tn) = true := by simpa using v5
      have st604 : ∀ target, Steps p.tables e below (T7.setTop (mkF m 621 #[.val (.int i0), .val (.int i1), .val (.int i2), .val (.int i3), .val (.ref b), .val (.int (Int32.ofNat F)), .val (.int (Int32.ofNat Tn)), .val (.int A), .val (.int (Int32.ofNat Tn - Int32.ofNat F)), .unset] [])) target → Steps p.tables e below (T0.setTop (mkF m 496 #[.val (.int i0), .val (.int i1), .val (.int i2), .val (.int i3), .val (.ref b), .val (.int (Int32.ofNat F)), .val (.int (Int32.ofNat Tn)), .unset, .unset, .unset] [])) target := fun target kt => st587 target (y7 v5 target kt)
      obtain ⟨T8, L8, X8, N8, B8, y8, z8⟩ := good_6 X7 hx hZ hw hby hml hown N7 i0 i1 i2 i3 A (Int32.ofNat Tn - Int32.ofNat F) f F Tn B7
      by_cases v6 : own_g (f 66) (Int32.ofNat 66) (Int32.ofNat F) (Int32.ofNat Tn) = false
      · have hv := own_gF hF hT (by omega) v6
        rw [hv] at hA
        subst hA
        exact ⟨T8, L8, X8, N8, fun target kt => st604 target (z8 v6 target (tail0 X8 hx hby i0 i1 i2 i3 (Int32.ofNat Tn - Int32.ofNat F) b F Tn kt))⟩
      replace v6 : own_g (f 66) (Int32.ofNat 66) (Int32.ofNat F) (Int32.ofNat Tn) = true := by simpa using v6
      have st621 : ∀ target, Steps p.tables e below (T8.setTop (mkF m 638 #[.val (.int i0), .val (.int i1), .val (.int i2), .val (.int i3), .val (.ref b), .val (.int (Int32.ofNat F)), .val (.int (Int32.ofNat Tn)), .val (.int A), .val (.int (Int32.ofNat Tn - Int32.ofNat F)), .unset] [])) target → Steps p.tables e below (T0.setTop (mkF m 496 #[.val (.int i0), .val (.int i1), .val (.int i2), .val (.int i3), .val (.ref b), .val (.int (Int32.ofNat F)), .val (.int (Int32.ofNat Tn)), .unset, .unset, .unset] [])) target := fun target kt => st604 target (y8 v6 target kt)
      obtain ⟨T9, L9, X9, N9, B9, y9, z9⟩ := good_7 X8 hx hZ hw hby hml hown N8 i0 i1 i2 i3 A (Int32.ofNat Tn - Int32.ofNat F) f F Tn B8
      by_cases v7 : own_g (f 67) (Int32.ofNat 67) (Int32.ofNat F) (Int32.ofNat Tn) = false
      · have hv := own_gF hF hT (by omega) v7
        rw [hv] at hA
        subst hA
        exact ⟨T9, L9, X9, N9, fun target kt => st621 target (z9 v7 target (tail0 X9 hx hby i0 i1 i2 i3 (Int32.ofNat Tn - Int32.ofNat F) b F Tn kt))⟩
      replace v7 : own_g (f 67) (Int32.ofNat 67) (Int32.ofNat F) (Int32.ofNat Tn) = true := by simpa using v7
      have st638 : ∀ target, Steps p.tables e below (T9.setTop (mkF m 655 #[.val (.int i0), .val (.int i1), .val (.int i2), .val (.int i3), .val (.ref b), .val (.int (Int32.ofNat F)), .val (.int (Int32.ofNat Tn)), .val (.int A), .val (.int (Int32.ofNat Tn - Int32.ofNat F)), .unset] [])) target → Steps p.tables e below (T0.setTop (mkF m 496 #[.val (.int i0), .val (.int i1), .val (.int i2), .val (.int i3), .val (.ref b), .val (.int (Int32.ofNat F)), .val (.int (Int32.ofNat Tn)), .unset, .unset, .unset] [])) target := fun target kt => st621 target (y9 v7 target kt)
      have hv : own_name f F Tn = true := by
        simp only [own_name, a1, a2, decide_true, Bool.true_and]
        refine own_allT (Tn - F) F (fun j h1 h2 => ?_)
        by_cases q : j = 0 ∨ j = 1 ∨ j = 2 ∨ j = 3 ∨ j = 64 ∨ j = 65 ∨ j = 66 ∨ j = 67
        · rcases q with rfl | rfl | rfl | rfl | rfl | rfl | rfl | rfl
          · exact own_gT hF hT v0 h1 (by omega)
          · exact own_gT hF hT v1 h1 (by omega)
          · exact own_gT hF hT v2 h1 (by omega)
          · exact own_gT hF hT v3 h1 (by omega)
          · exact own_gT hF hT v4 h1 (by omega)
          · exact own_gT hF hT v5 h1 (by omega)
          · exact own_gT hF hT v6 h1 (by omega)
          · exact own_gT hF hT v7 h1 (by omega)
        · exact rest j (by omega) q
      rw [hv] at hA
      subst hA
      exact ⟨T9, L9, X9, N9, fun target kt => st638 target (tail1 X9 hx hby i0 i1 i2 i3 (Int32.ofNat Tn - Int32.ofNat F) b F Tn kt)⟩
def Q0 (n0 : Nat) (v : Option Value) (h : Heap) (L : List Loc) : Prop := v = some (.int 1) ∧ Fr n0 L
set_option maxRecDepth 65536 in
set_option maxHeartbeats 40000000 in
theorem rm0 (l : Launch) (Z : State) (a0 : Array Value) (hw : ∀ d ∈ tables_1, d.before a0 Z = true) (ws : List Jvm.Cond) (p0 p1 p2 p3 : Int32) (h0 : Heap) (n0 : Nat) (Z0 : n0 ≤ h0.size) :
    MetFree l x (head1 (Jvm.Cond.code x code maxLocals ret :: ws) room_1) (fun a U => a = #[(.int p0), (.int p1), (.int p2), (.int p3)] ∧ Z.Warmed39 U.vm ∧ U.heap = h0) (fun _ _ _ _ _ => True) (fun _ U o U' => ∃ v L, o = .returned v ∧ Q0 n0 v U'.heap L ∧ FrameEnd U o U' L 1 68) := by
  refine MetFree.of_bodySF (plainFor_of_name pn_0) hisR ?_
  intro p e s m args below meth c s₁ Bd hml0 hP hK
  obtain ⟨rfl, hZ, hh⟩ := hP
  have hx := Bd.exec
  have hby := Bd.bytes
  have hml : c.maxLocals = 10 := hml0
  have hown : s.vm.findClass "com/example/lattis/lattis/NamesIsNamePinLaw" = some m.cls := findClass_of_methodNamed Bd.named
  have X0 : Stand p l e room_1 s m #[(.int p0), (.int p1), (.int p2), (.int p3)] below meth c s₁ [] 0 0 := Stand.of_body Bd
  have e0 : s₁.heap = h0 := by rw [← hh, Bd.state]; rfl
  have Z1 : n0 ≤ s₁.heap.size := by rw [e0]; exact Z0
  have pre0 : ∀ t, Steps p.tables e below (s₁.setTop (mkF m 0 #[.val (.int p0), .val (.int p1), .val (.int p2), .val (.int p3), .unset, .unset, .unset, .unset, .unset, .unset] [])) t → Steps p.tables e below (s₁.setTop (entryFrame m #[(.int p0), (.int p1), (.int p2), (.int p3)] maxLocals)) t := fun t k => castTop (ef_0 m p0 p1 p2 p3) k
  obtain ⟨F, hF, hf⟩ := own_mod p2
  obtain ⟨Tn, hT, ht⟩ := own_mod p3
  obtain ⟨T1, L1, b, X1, N1, B1, st1⟩ := tnA (n0 := n0) p0 p1 p2 p3 F Tn X0 hx hZ hw hby hown Z1 hf ht
  obtain ⟨T2, L2, X2, N2, st2⟩ := tnB p0 p1 p2 p3 _ F Tn hF hT X1 hx hZ hw hby hml hown N1 B1 (fun j hj q => by
    have hq : ¬ j = 0 ∧ ¬ j = 1 ∧ ¬ j = 2 ∧ ¬ j = 3 ∧ ¬ j = 64 ∧ ¬ j = 65 ∧ ¬ j = 66 ∧ ¬ j = 67 := by omega
    obtain ⟨q0, q1, q2, q3, q4, q5, q6, q7⟩ := hq
    show own_k (own_upd _ 67 _ j) = true
    rw [own_upd, if_neg q7]
    show own_k (own_upd _ 66 _ j) = true
    rw [own_upd, if_neg q6]
    show own_k (own_upd _ 65 _ j) = true
    rw [own_upd, if_neg q5]
    show own_k (own_upd _ 64 _ j) = true
    rw [own_upd, if_neg q4]
    show own_k (own_upd _ 3 _ j) = true
    rw [own_upd, if_neg q3]
    show own_k (own_upd _ 2 _ j) = true
    rw [own_upd, if_neg q2]
    show own_k (own_upd _ 1 _ j) = true
    rw [own_upd, if_neg q1]
    show own_k (own_upd _ 0 _ j) = true
    rw [own_upd, if_neg q0, own_c, if_pos hj]
    decide)
  obtain ⟨fs, hr, hrun, hended, hW, hsame⟩ := X2.leave (v := some (.int (1 : Int32))) (fun h => by rw [Bd.returns] at h; cases h)
  refine ⟨_, _, pre0 _ ?_, hrun, hended, _, _, rfl, ⟨rfl, N2⟩, ⟨_, rfl⟩, hW, hsame.mono (by decide) (by decide)⟩
  refine st1 _ ?_
  refine st2 _ (fun Ls => ?_)
  exact retN X2 hx (t := .boolean) Bd.returns (by simp) (hb hby at_674) hr
set_option maxRecDepth 65536 in
set_option maxHeartbeats 40000000 in
theorem comes_1 {Post : Tables → Env → Array Value → State → Outcome → State → Prop} (hpost : ∀ tb e args s v u, (limb_1_1.after args s (.returned v) u = true ∧ limb_1_2.after args s (.returned v) u = true ∧ True) → FrameEnd s (.returned v) u (Jvm.fieldLocs frame_1_writes args s ++ Jvm.arrayLocs frame_1_arrays args s ++ Jvm.staticLocs frame_1_statics s) 16 256 → Post tb e args s (.returned v) u) :
    ArmFor flags0 classFile x code maxLocals ret World_1 tables_1 room_1 Calls_1 rest_1 Pre_1 Post := by
  intro l hfl _ _ p e ha hc hk s m args below hf hA hF happ hP
  obtain ⟨hcalls, hrest, hpre⟩ := hP
  obtain ⟨-, -, -, hnamed, -, -, -, hat⟩ := (Spec.applies_iff hf).mp happ
  obtain ⟨hg, hn⟩ := and_e (Cond.before_iff.mp (show (Jvm.Cond.and given_1 narrow_1).before args s = true from hpre))
  obtain ⟨g0, r0⟩ := and_e hg
  obtain ⟨q0, r1⟩ := and_e r0
  obtain ⟨q1, r2⟩ := and_e r1
  obtain ⟨q2, r3⟩ := and_e r2
  obtain ⟨w0, w1, w2, w3, rfl⟩ : ∃ w0 w1 w2 w3 : Value, args = #[w0, w1, w2, w3] := by
    have hs : args.size = 4 := by simpa [Cond.value, given_1] using g0
    obtain ⟨L⟩ := args
    match L, hs with
    | [w0, w1, w2, w3], _ => exact ⟨w0, w1, w2, w3, rfl⟩
  have hw := fun d (hd : d ∈ tables_1) => atoms_spec (ws := Jvm.Cond.code x code maxLocals ret :: tables_1) hat d (List.mem_cons_of_mem _ hd)
  obtain ⟨i0, ei0⟩ := is_v q0
  obtain rfl : w0 = (.int i0) := Option.some.inj ei0
  obtain ⟨i1, ei1⟩ := is_v q1
  obtain rfl : w1 = (.int i1) := Option.some.inj ei1
  obtain ⟨i2, ei2⟩ := is_v q2
  obtain rfl : w2 = (.int i2) := Option.some.inj ei2
  obtain ⟨i3, ei3⟩ := is_v r3
  obtain rfl : w3 = (.int i3) := Option.some.inj ei3
  obtain ⟨n, o, h1, h2, h3, _, L, rfl, ⟨rfl, N⟩, hq⟩ := rm0 l s _ hw tables_1 i0 i1 i2 i3 s.heap s.heap.size (Nat.le_refl _) p e ha hc hk s m _ below hf ((Spec.applies_iff_loose hf).mp happ).1 ⟨rfl, State.Warmed39.refl s, rfl⟩ trivial
  refine ⟨n, _, h1, h2, h3, hpost _ _ _ _ _ _ ⟨Cond.after_iff.mpr rfl, Cond.after_iff.mpr (eq_i res_at (Term.int_eval (1)) rfl), trivial⟩ ⟨hq.1, hq.2.1, (hq.2.2.sift fun y hy => Or.inr (N y hy)).mono (by decide) (by decide)⟩⟩
theorem main_1_1 : Claimed_1_1 := comes_1 fun _ _ _ _ _ _ h hF => ⟨h.1, hF⟩
theorem main_1_2 : Claimed_1_2 := comes_1 fun _ _ _ _ _ _ h hF => ⟨h.2.1, hF⟩
end Jvm.Pilot.@@N@@
namespace Jvm.Pilot.@@N@@
open Jvm Jvm.ClassFile Sem Op Lib Jvm.Free Jvm.Stand Jvm.Pilot.@@N@@.Jvm.D
/-! MADE BY PROGRAM (witnessworld.py) out of the Statement's table words and the real class files: 9 classes; the members and pool entries that the words name. The judged class is class 1, her method 1. -/
namespace start1
open Jvm.ClassFile
def u (s : String) : CpInfo := .utf8 (stringToUtf16 s)
/-- a pool by its gaps: so many unusable entries, then the entry; so many at the end -/
def gap : Nat → List CpInfo → List CpInfo
  | 0, r => r
  | n + 1, r => .unusable :: gap n r
def poolList (es : List (Nat × CpInfo)) (last : Nat) : List CpInfo := es.foldr (fun e r => gap e.1 (e.2 :: r)) (gap last [])
def pool (es : List (Nat × CpInfo)) (last : Nat) : Array CpInfo := ⟨poolList es last⟩
def fileOf (pool : Array CpInfo) (this : Nat) (attrs : Array Attribute := #[]) (ms : Array MethodInfo := #[]) (fl : Nat := 33) (sup : Nat := 0) (ifs : Array Nat := #[]) (fds : Array FieldInfo := #[]) : ClassFile where
  minorVersion := 0
  majorVersion := 65
  constantPool := pool
  accessFlags := fl
  thisClass := this
  superClass := sup
  interfaces := ifs
  fields := fds
  methods := ms
  attributes := attrs
def plain (name : String) (sup : Option ClassId) : Class where
  name := name
  kind := .ordinary
  loader := none
  accessFlags := 33
  super := sup
  interfaces := #[]
  cf := none
  fields := #[]
  methods := #[]
  instanceTypes := #[]
  staticTypes := #[]
  resolved := #[]
  callSites := []
  init := .initialized
  statics := none
  mirror := none

def pool0 : Array CpInfo := pool [(5, u "<init>"), (0, u "()V"), (1, .class_ 10), (1, u "java/lang/Object")] 113

def k0m0 : Method := { name := "<init>", desc := "()V", sig := { parameters := [], returnType := none }, accessFlags := 1, code := none }
/-- java/lang/Object -/
def k0 : Class := { plain "java/lang/Object" none with
  accessFlags := 33
  interfaces := #[]
  cf := some (fileOf pool0 8 #[] #[{ accessFlags := 1, nameIndex := 5, descriptorIndex := 6, attributes := #[] }] 33 0 #[] #[])
  fields := #[]
  methods := #[k0m0]
  instanceTypes := #[]
  staticTypes := #[]
  resolved := Array.replicate 124 none
  statics := none }

def pool1 : Array CpInfo := pool [(2, .class_ 4), (1, u "java/lang/Object"), (0, u "<init>"), (0, u "()V"), (0, .integer 2147483647), (0, .methodref 9 10), (0, .class_ 11), (0, .nameAndType 12 13), (0, u "com/example/lattis/lattis/Names"), (0, u "isName"), (0, u "([BII)Z"), (0, .methodref 15 16), (0, .class_ 17), (0, .nameAndType 18 19), (0, u "com/example/lattis/lattis/NamesIsNamePinLaw"), (0, u "good"), (0, u "(BIII)Z"), (0, .methodref 15 21), (0, .nameAndType 22 23), (0, u "ok"), (0, u "(I)Z"), (2, u "law"), (0, u "(IIII)Z")] 5

def k1m0 : Method := { name := "<init>", desc := "()V", sig := { parameters := [], returnType := none }, accessFlags := 2, code := none }
def k1c1 : Code := { maxStack := 4, maxLocals := 10, code := code, exceptionTable := #[], attributes := #[] }
def k1m1 : Method := { name := "law", desc := "(IIII)Z", sig := { parameters := [.int, .int, .int, .int], returnType := some .boolean }, accessFlags := 9, code := some k1c1 }
def k1c2 : Code := { maxStack := 2, maxLocals := 4, code := method_3_code, exceptionTable := #[], attributes := #[] }
def k1m2 : Method := { name := "good", desc := "(BIII)Z", sig := { parameters := [.byte, .int, .int, .int], returnType := some .boolean }, accessFlags := 10, code := some k1c2 }
def k1c3 : Code := { maxStack := 2, maxLocals := 1, code := method_4_code, exceptionTable := #[], attributes := #[] }
def k1m3 : Method := { name := "ok", desc := "(I)Z", sig := { parameters := [.int], returnType := some .boolean }, accessFlags := 10, code := some k1c3 }
/-- com/example/lattis/lattis/NamesIsNamePinLaw -/
def k1 : Class := { plain "com/example/lattis/lattis/NamesIsNamePinLaw" (some 0) with
  accessFlags := 49
  interfaces := #[]
  cf := some (fileOf pool1 15 #[] #[{ accessFlags := 2, nameIndex := 5, descriptorIndex := 6, attributes := #[] }, { accessFlags := 9, nameIndex := 26, descriptorIndex := 27, attributes := #[] }, { accessFlags := 10, nameIndex := 18, descriptorIndex := 19, attributes := #[] }, { accessFlags := 10, nameIndex := 22, descriptorIndex := 23, attributes := #[] }] 49 2 #[] #[])
  fields := #[]
  methods := #[k1m0, k1m1, k1m2, k1m3]
  instanceTypes := #[]
  staticTypes := #[]
  resolved := Array.replicate 33 none
  statics := none }

def pool2 : Array CpInfo := pool [(1, .class_ 2), (0, u "com/example/lattis/lattis/Names"), (1, .class_ 6), (1, u "java/lang/Object"), (0, u "<init>"), (0, u "()V"), (14, u "isName"), (0, u "([BII)Z"), (53, u "MAX_LENGTH"), (0, u "I"), (2, u "SHOWN_LENGTH")] 23

def k2m0 : Method := { name := "<init>", desc := "()V", sig := { parameters := [], returnType := none }, accessFlags := 2, code := none }
def k2c1 : Code := { maxStack := 2, maxLocals := 6, code := prog_22_method_3_code, exceptionTable := #[], attributes := #[] }
def k2m1 : Method := { name := "isName", desc := "([BII)Z", sig := { parameters := [(.array .byte), .int, .int], returnType := some .boolean }, accessFlags := 8, code := some k2c1 }
/-- com/example/lattis/lattis/Names -/
def k2 : Class := { plain "com/example/lattis/lattis/Names" (some 0) with
  accessFlags := 48
  interfaces := #[]
  cf := some (fileOf pool2 1 #[] #[{ accessFlags := 2, nameIndex := 7, descriptorIndex := 8, attributes := #[] }, { accessFlags := 8, nameIndex := 23, descriptorIndex := 24, attributes := #[] }] 48 4 #[] #[{ accessFlags := 24, nameIndex := 78, descriptorIndex := 79, attributes := #[] }, { accessFlags := 26, nameIndex := 82, descriptorIndex := 79, attributes := #[] }])
  fields := #[{ name := "MAX_LENGTH", type := .int, accessFlags := 24, slot := 0, constantValue := 0 }, { name := "SHOWN_LENGTH", type := .int, accessFlags := 26, slot := 1, constantValue := 0 }]
  methods := #[k2m0, k2m1]
  instanceTypes := #[]
  staticTypes := #[.int, .int]
  resolved := Array.replicate 106 none
  statics := none }

def pool3 : Array CpInfo := pool [(1, u "java/lang/Cloneable"), (0, .class_ 1), (0, u "java/lang/Object"), (0, .class_ 3)] 3

/-- java/lang/Cloneable -/
def k3 : Class := { plain "java/lang/Cloneable" (some 0) with
  accessFlags := 1537
  interfaces := #[]
  cf := some (fileOf pool3 2 #[] #[] 1537 4 #[] #[])
  fields := #[]
  methods := #[]
  instanceTypes := #[]
  staticTypes := #[]
  resolved := Array.replicate 8 none
  statics := none }

def pool4 : Array CpInfo := pool [(1, u "java/io/Serializable"), (0, .class_ 1), (0, u "java/lang/Object"), (0, .class_ 3)] 3

/-- java/io/Serializable -/
def k4 : Class := { plain "java/io/Serializable" (some 0) with
  accessFlags := 1537
  interfaces := #[]
  cf := some (fileOf pool4 2 #[] #[] 1537 4 #[] #[])
  fields := #[]
  methods := #[]
  instanceTypes := #[]
  staticTypes := #[]
  resolved := Array.replicate 8 none
  statics := none }

/-- the primitive byte -/
def k5 : Class := { plain "byte" none with kind := .primitive 'B', accessFlags := 0x411 }
/-- [B -/
def k6 : Class := { plain "[B" (some 0) with kind := .array 5 .byte, interfaces := #[3, 4], accessFlags := 1041 }

/-- the primitive int -/
def k7 : Class := { plain "int" none with kind := .primitive 'I', accessFlags := 0x411 }
/-- [I -/
def k8 : Class := { plain "[I" (some 0) with kind := .array 7 .int, interfaces := #[3, 4], accessFlags := 1041 }

def heap : Heap := #[]
def classes : Array Class := #[k0, k1, k2, k3, k4, k5, k6, k7, k8]
def interned : List (Array UInt16 × Addr) := []
def slotsUsed : Nat := 0
def theMethod : MethodId := ⟨1, 1⟩
def args0 : Array Value := #[.int 11, .int 8, .int 14, .int 7]
def aboutOver (below : List Frame) : State where
  vm := { classes := classes, interned := interned.toArray }
  heap := heap
  slotsUsed := slotsUsed
  threads := #[{ frames := .invoking theMethod args0 :: below }]
def below0 : List Frame := [.native { method := ⟨0, 0⟩, args := #[] }]
def about1 : State := aboutOver below0
def p0 : Program := .bare "" "" ""
def e0 : Env := launch0.env 0 0 0
theorem w_frames : about1.frames = Frame.invoking theMethod args0 :: below0 := rfl
set_option maxRecDepth 65536 in
theorem w_args : argsFit about1.vm theMethod args0 = true := by decide +kernel
set_option maxRecDepth 65536 in
theorem w_heap : heapFits about1 = true := by decide +kernel
set_option maxRecDepth 65536 in
theorem w_runnable : about1.curStatus? = some .runnable := by decide +kernel
set_option maxRecDepth 65536 in
theorem w_alone : about1.alone = true := by decide +kernel
set_option maxRecDepth 65536 in
theorem w_named : about1.methodNamed? x = some theMethod := by decide +kernel
set_option maxRecDepth 65536 in
theorem w_hears : about1.hears theMethod below0 = true := by decide +kernel
set_option maxRecDepth 65536 in
theorem w_ripe : about1.ripe theMethod args0 below0 = true := by decide +kernel
theorem w_running : about1.status = .running := rfl
set_option maxRecDepth 65536 in
theorem w_room : about1.hasRoom e0.platform room_1 = true :=
  launch0.hasRoom_least _ room_1 (by decide +kernel) (by decide +kernel) (by decide +kernel) (by decide +kernel) (by decide +kernel) (by decide +kernel)
theorem allAtoms_all (ts : List Jvm.Cond) (a : Array Jvm.Value) (st : Jvm.State) : (allAtoms ts).before a st = ts.all (fun c => c.before a st) := by
  induction ts with
  | nil => rfl
  | cons c t ih =>
    show (Jvm.Cond.and c (allAtoms t)).before a st = _
    rw [Jvm.Cond.before_and, ih, List.all_cons]
def words1 : List Jvm.Cond := Jvm.Cond.code x code maxLocals ret :: tables_1
/-- a 'code' word, met by the world's own term for the bytes: nothing is compared byte by byte -/
theorem code_word {y : MethodName} {bytes : ByteArray} {mx : Nat} {rt : Option FieldType} {a : Array Value} {s : State} {m : MethodId} {meth : Method} {c : Code} (h1 : s.methodNamed? y = some m) (h2 : s.vm.method? m = some meth) (h3 : meth.code = some c) (h4 : c.code = bytes)
    (h5 : (c.maxLocals == mx && c.exceptionTable.isEmpty && decide (c.maxStack ≤ mostOperands) && decide (meth.sig.returnType = rt) && !meth.locks && decide (parseMethodDescriptor y.desc = some meth.sig)) = true) : (Jvm.Cond.code y bytes mx rt).before a s = true := by
  simp only [Bool.and_eq_true, beq_iff_eq, Bool.not_eq_true', decide_eq_true_eq] at h5
  obtain ⟨⟨⟨⟨⟨g1, g2⟩, g3⟩, g4⟩, g5⟩, g6⟩ := h5
  simp [Cond.before, Cond.holds, Cond.value, h1, h2, h3, h4, g1, g2, g3, g4, g5, g6]
def isCode : Jvm.Cond → Bool
  | .code _ _ _ _ => true
  | _ => false
theorem all_split {L : List Jvm.Cond} {P : Jvm.Cond → Bool} (h1 : L.all (fun c => isCode c || P c) = true) (h2 : ∀ c ∈ L.filter isCode, P c = true) : L.all P = true := by
  refine List.all_eq_true.mpr fun c hc => ?_
  have h := List.all_eq_true.mp h1 c hc
  rcases Bool.eq_false_or_eq_true (isCode c) with hi | hi
  · exact h2 c (List.mem_filter.mpr ⟨hc, hi⟩)
  · simpa [hi] using h
set_option maxRecDepth 65536 in
theorem w_c0 : (Jvm.Cond.code x code maxLocals ret).before args0 about1 = true := code_word (m := ⟨1, 1⟩) (meth := k1m1) (c := k1c1) (by decide +kernel) rfl rfl rfl (by decide +kernel)
set_option maxRecDepth 65536 in
theorem w_c1 : (Jvm.Cond.code ({ cls := "com/example/lattis/lattis/Names", name := "isName", desc := "([BII)Z" } : Jvm.MethodName) prog_22_method_3_code (6 : Nat) (Option.some Jvm.ClassFile.FieldType.boolean)).before args0 about1 = true := code_word (m := ⟨2, 1⟩) (meth := k2m1) (c := k2c1) (by decide +kernel) rfl rfl rfl (by decide +kernel)
set_option maxRecDepth 65536 in
theorem w_c2 : (Jvm.Cond.code ({ cls := "com/example/lattis/lattis/NamesIsNamePinLaw", name := "good", desc := "(BIII)Z" } : Jvm.MethodName) method_3_code (4 : Nat) (Option.some Jvm.ClassFile.FieldType.boolean)).before args0 about1 = true := code_word (m := ⟨1, 2⟩) (meth := k1m2) (c := k1c2) (by decide +kernel) rfl rfl rfl (by decide +kernel)
set_option maxRecDepth 65536 in
theorem w_c3 : (Jvm.Cond.code ({ cls := "com/example/lattis/lattis/NamesIsNamePinLaw", name := "ok", desc := "(I)Z" } : Jvm.MethodName) method_4_code (1 : Nat) (Option.some Jvm.ClassFile.FieldType.boolean)).before args0 about1 = true := code_word (m := ⟨1, 3⟩) (meth := k1m3) (c := k1c3) (by decide +kernel) rfl rfl rfl (by decide +kernel)
def codes1 : List Jvm.Cond := [Jvm.Cond.code x code maxLocals ret, Jvm.Cond.code ({ cls := "com/example/lattis/lattis/Names", name := "isName", desc := "([BII)Z" } : Jvm.MethodName) prog_22_method_3_code (6 : Nat) (Option.some Jvm.ClassFile.FieldType.boolean), Jvm.Cond.code ({ cls := "com/example/lattis/lattis/NamesIsNamePinLaw", name := "good", desc := "(BIII)Z" } : Jvm.MethodName) method_3_code (4 : Nat) (Option.some Jvm.ClassFile.FieldType.boolean), Jvm.Cond.code ({ cls := "com/example/lattis/lattis/NamesIsNamePinLaw", name := "ok", desc := "(I)Z" } : Jvm.MethodName) method_4_code (1 : Nat) (Option.some Jvm.ClassFile.FieldType.boolean)]
set_option maxRecDepth 65536 in
theorem codes_eq : words1.filter isCode = codes1 := rfl
theorem w_codes : ∀ c ∈ words1.filter isCode, c.before args0 about1 = true := by
  rw [codes_eq]
  intro c hc
  simp only [codes1, List.mem_cons, List.not_mem_nil, or_false] at hc
  rcases hc with rfl | rfl | rfl | rfl
  · exact w_c0
  · exact w_c1
  · exact w_c2
  · exact w_c3
set_option maxRecDepth 65536 in
theorem w_t1 : words1.all (fun c => isCode c || c.before args0 about1) = true := by decide +kernel
theorem w_tables : (allAtoms (Jvm.Cond.code x code maxLocals ret :: tables_1)).before args0 about1 = true := by
  rw [allAtoms_all]
  show words1.all (fun c => c.before args0 about1) = true
  refine all_split ?_ w_codes
  rw [w_t1]
set_option maxRecDepth 65536 in
theorem w_case : (Jvm.Cond.and given_1 narrow_1).before args0 about1 = true := by decide +kernel
theorem w_applies : (headSpec (Jvm.Cond.code x code maxLocals ret :: tables_1) room_1).applies x e0.platform about1 = true :=
  (Spec.applies_iff w_frames).mpr ⟨w_running, w_runnable, w_alone, w_named, w_hears, w_ripe, w_room, w_tables⟩
theorem atStart : AtStart classFile x code maxLocals ret World_1 tables_1 room_1 Calls_1 rest_1 Pre_1 launch0 p0 e0 about1 theMethod args0 below0 :=
  ⟨lists_1, trivial, launch0.admits_env _ _ _, launch0.least_env, fairChoices_fair.cas, fairChoices_fair.clock, w_frames, w_args, w_heap, w_applies, trivial, trivial, w_case⟩
end start1
theorem witness_1 : WitnessClaimed_1 := ⟨start1.p0, start1.e0, start1.about1, start1.theMethod, start1.args0, start1.below0, start1.atStart⟩
end Jvm.Pilot.@@N@@

import JvmDerived
import JvmDerived.Pilot.@@N@@Statement
import JvmDerived.Pilot.@@N@@Code
set_option linter.unusedVariables false
set_option linter.unusedSimpArgs false
namespace Jvm.RoadKit
open Sem ClassFile Op Lib Jvm.Stand Jvm.Free Jvm.LawKit
section New
variable {p : Program} {l : Launch} {e : Env} {R : Room} {s : State} {m : MethodId} {args : Array Value} {below : List Frame} {meth : Method} {c : Code} {T : State} {locs : List Loc} {cells slots : Nat}
theorem retI (X : Stand p l e R s m args below meth c T locs cells slots) (hx : p.tables.exec = Jvm.exec) {pc : Nat} {Ls : Array Slot} {z : Int32} {rest : List Value} (hret : meth.sig.returnType = some .int) (hd : decode c.code pc = .ok (.ireturn, 1)) {fs : List Frame}
    (hl : ∀ (f : JFrame) (acts : List Action), f.method = m → f.locked = none → f.entered = [] → (doReturn e (T.setTop f) acts (some (.int z))).1 = T.setFrames fs) : Steps p.tables e below (T.setTop (mkF m pc Ls (.int z :: rest))) (T.setFrames fs) := by
  have hm' : T.vm.method? m = some meth := X.method'
  have hn : narrow .int (.int z) = .int z := rfl
  show Steps p.tables e below (T.setTop { method := m, pc := pc, locals := Ls, stack := _ :: rest, locked := none }) _
  jvm_step X.here [X.here.top, hx, hd, hm', hret, hn]
  first | (intro acts; rw [hl _ acts rfl rfl rfl]) | rw [hl _ _ rfl rfl rfl]
  exact Steps.refl _
end New
end Jvm.RoadKit
namespace Jvm.Pilot.@@N@@
open Jvm Jvm.ClassFile Sem Op Lib Jvm.Free Jvm.Stand Jvm.LawKit Jvm.RoadKit Bundle Jvm.Pilot.@@N@@.Jvm.D
theorem d1_0 : decode prog_20_method_5_code 0 = .ok (.aload_n 0, 1) := by decide +kernel
theorem d1_1 : decode prog_20_method_5_code 1 = .ok (.arraylength, 1) := by decide +kernel
theorem d1_2 : decode prog_20_method_5_code 2 = .ok (.ifCond .eq 13, 3) := by decide +kernel
theorem d1_5 : decode prog_20_method_5_code 5 = .ok (.aload_n 0, 1) := by decide +kernel
theorem d1_6 : decode prog_20_method_5_code 6 = .ok (.aload_n 0, 1) := by decide +kernel
theorem d1_7 : decode prog_20_method_5_code 7 = .ok (.arraylength, 1) := by decide +kernel
theorem d1_8 : decode prog_20_method_5_code 8 = .ok (.iconst 1, 1) := by decide +kernel
theorem d1_9 : decode prog_20_method_5_code 9 = .ok (.isub, 1) := by decide +kernel
theorem d1_10 : decode prog_20_method_5_code 10 = .ok (.baload, 1) := by decide +kernel
theorem d1_11 : decode prog_20_method_5_code 11 = .ok (.iconst (-1), 1) := by decide +kernel
theorem d1_12 : decode prog_20_method_5_code 12 = .ok (.if_icmp .ne 13, 3) := by decide +kernel
theorem d1_25 : decode prog_20_method_5_code 25 = .ok (.aload_n 0, 1) := by decide +kernel
theorem d1_26 : decode prog_20_method_5_code 26 = .ok (.invokevirtual 35, 3) := by decide +kernel
theorem d1_29 : decode prog_20_method_5_code 29 = .ok (.checkcast 36, 3) := by decide +kernel
theorem d1_32 : decode prog_20_method_5_code 32 = .ok (.astore_n 1, 1) := by decide +kernel
theorem d1_33 : decode prog_20_method_5_code 33 = .ok (.aload_n 1, 1) := by decide +kernel
theorem d1_34 : decode prog_20_method_5_code 34 = .ok (.aload_n 1, 1) := by decide +kernel
theorem d1_35 : decode prog_20_method_5_code 35 = .ok (.arraylength, 1) := by decide +kernel
theorem d1_36 : decode prog_20_method_5_code 36 = .ok (.iconst 1, 1) := by decide +kernel
theorem d1_37 : decode prog_20_method_5_code 37 = .ok (.isub, 1) := by decide +kernel
theorem d1_38 : decode prog_20_method_5_code 38 = .ok (.dup2, 1) := by decide +kernel
theorem d1_39 : decode prog_20_method_5_code 39 = .ok (.baload, 1) := by decide +kernel
theorem d1_40 : decode prog_20_method_5_code 40 = .ok (.iconst 1, 1) := by decide +kernel
theorem d1_41 : decode prog_20_method_5_code 41 = .ok (.iadd, 1) := by decide +kernel
theorem d1_42 : decode prog_20_method_5_code 42 = .ok (.i2b, 1) := by decide +kernel
theorem d1_43 : decode prog_20_method_5_code 43 = .ok (.bastore, 1) := by decide +kernel
theorem d1_44 : decode prog_20_method_5_code 44 = .ok (.aload_n 1, 1) := by decide +kernel
theorem d1_45 : decode prog_20_method_5_code 45 = .ok (.areturn, 1) := by decide +kernel
theorem d2_0 : decode method_2_code 0 = .ok (.iload_n 1, 1) := by decide +kernel
theorem d2_1 : decode method_2_code 1 = .ok (.iload_n 2, 1) := by decide +kernel
theorem d2_2 : decode method_2_code 2 = .ok (.iconst 1, 1) := by decide +kernel
theorem d2_3 : decode method_2_code 3 = .ok (.isub, 1) := by decide +kernel
theorem d2_4 : decode method_2_code 4 = .ok (.if_icmp .ge 11, 3) := by decide +kernel
theorem d2_7 : decode method_2_code 7 = .ok (.aload_n 0, 1) := by decide +kernel
theorem d2_8 : decode method_2_code 8 = .ok (.iload_n 1, 1) := by decide +kernel
theorem d2_9 : decode method_2_code 9 = .ok (.baload, 1) := by decide +kernel
theorem d2_10 : decode method_2_code 10 = .ok (.iload_n 3, 1) := by decide +kernel
theorem d2_11 : decode method_2_code 11 = .ok (.i2b, 1) := by decide +kernel
theorem d2_12 : decode method_2_code 12 = .ok (.if_icmp .ne 7, 3) := by decide +kernel
theorem d2_15 : decode method_2_code 15 = .ok (.iconst 1, 1) := by decide +kernel
theorem d2_16 : decode method_2_code 16 = .ok (.goto 4, 3) := by decide +kernel
theorem d2_19 : decode method_2_code 19 = .ok (.iconst 0, 1) := by decide +kernel
theorem d2_20 : decode method_2_code 20 = .ok (.ireturn, 1) := by decide +kernel
theorem pn_1 : plainName "com/example/shoalwater/shoalwater/store/Keys" = true := by first | (simp [plainName, overriddenIn]; done) | decide +kernel
theorem pn_0 : plainName "com/example/shoalwater/shoalwater/store/KeysPastPrefixPinLaw" = true := by first | (simp [plainName, overriddenIn]; done) | decide +kernel
theorem pd_p : parseMethodDescriptor "([B)[B" = some ⟨[.array .byte], some (.array .byte)⟩ := by decide +kernel
theorem pd_k : parseMethodDescriptor "([BIII)Z" = some ⟨[.array .byte, .int, .int, .int], some .boolean⟩ := by decide +kernel
theorem ef_1 (m : MethodId) (x0 : Addr) : entryFrame m #[(.ref x0)] 2 = mkF m 0 #[.val (.ref x0), .unset] [] := by first | (simp [entryFrame, mkF, argsToLocals, Value.category]; done) | rfl
theorem ef_2 (m : MethodId) (x0 : Addr) (x1 x2 x3 : Int32) : entryFrame m #[(.ref x0), (.int x1), (.int x2), (.int x3)] 4 = mkF m 0 #[.val (.ref x0), .val (.int x1), .val (.int x2), .val (.int x3)] [] := by first | (simp [entryFrame, mkF, argsToLocals, Value.category]; done) | rfl
theorem ef_0 (m : MethodId) (x0 x1 x2 x3 x4 : Int32) : entryFrame m #[(.int x0), (.int x1), (.int x2), (.int x3), (.int x4)] 12 = mkF m 0 #[.val (.int x0), .val (.int x1), .val (.int x2), .val (.int x3), .val (.int x4), .unset, .unset, .unset, .unset, .unset, .unset, .unset] [] := by first | (simp [entryFrame, mkF, argsToLocals, Value.category]; done) | rfl
/-! byte arrays: length n, place j holds f j -/
def own_upd (f : Nat → Int32) (j : Nat) (x : Int32) : Nat → Int32 := fun i => if i = j then x else f i
def By (Z : State) (h : Heap) (a : Addr) (n : Nat) (f : Nat → Int32) : Prop := ∃ c : Cell, Arr Z h a c .byte ∧ c.slots.size = n ∧ (∀ j, j < n → c.slots[j]? = some (.int (f j))) ∧ ∀ j, j < n → fits .byte (.int (f j)) = true
section Bytes
variable {p : Program} {l : Launch} {e : Env} {R : Room} {s : State} {m : MethodId} {args : Array Value} {below : List Frame} {meth : Method} {c : Code} {T : State} {locs : List Loc} {cells slots : Nat} {Z : State} {h h' : Heap} {a b : Addr} {n : Nat} {f : Nat → Int32}
theorem By.lt (B : By Z h a n f) : a < h.size := by obtain ⟨c, A, -⟩ := B; exact A.lt
theorem By.ext (B : By Z h a n f) (E : Ext h h') : By Z h' a n f := by obtain ⟨c, A, r⟩ := B; exact ⟨c, A.ext E, r⟩
theorem By.other {sl : Nat} {v : Value} (B : By Z h b n f) (W : Wr h h' a sl v) (q : b ≠ a) : By Z h' b n f := by obtain ⟨c, A, r⟩ := B; exact ⟨c, A.other W q, r⟩
theorem By.set {j : Nat} {x : Int32} (B : By Z h a n f) (W : Wr h h' a j (.int x)) (hx : fits .byte (.int x) = true) : By Z h' a n (own_upd f j x) := by
  obtain ⟨c, A, S, H, G⟩ := B
  refine ⟨c.setSlot j (.int x), A.same W, by rw [sz_set]; exact S, fun i hi => ?_, fun i hi => ?_⟩
  · by_cases q : i = j
    · subst q; simp [Cell.setSlot, own_upd, S, hi]
    · simp only [Cell.setSlot, own_upd, if_neg q]
      rw [Array.getElem?_setIfInBounds_ne (fun u => q u.symm)]; exact H i hi
  · by_cases q : i = j
    · simp only [own_upd, if_pos q]; exact hx
    · simp only [own_upd, if_neg q]; exact G i hi
theorem By.new {k : ClassId} {z : Int32} (A : Arr Z h a (newA k .byte z) .byte) : By Z h a z.toNatClampNeg (fun _ => 0) :=
  ⟨_, A, sz_new _ _ _, fun j hj => by simp [newA, hj, defaultValue], fun j hj => (by decide : fits .byte (.int (0 : Int32)) = true)⟩
theorem stBy (X : Stand p l e R s m args below meth c T locs cells slots) (hx : p.tables.exec = Jvm.exec) (hZ : Z.Warmed39 s.vm) (B : By Z T.heap a n f) {j x : Int32} (hj : ¬ j < 0) (hjn : j.toNatClampNeg < n) {g : JFrame} (hg : g.method = m) {rest : List Value} (hs : g.stack = .int x :: .int j :: .ref a :: rest) (hd : decode c.code g.pc = .ok (.bastore, 1)) :
    ∃ T', Stand p l e R s m args below meth c T' (locs ++ [⟨a, j.toNatClampNeg⟩]) cells slots ∧ By Z T'.heap a n (own_upd f j.toNatClampNeg x.toInt8.toInt32) ∧ (∃ v, Wr T.heap T'.heap a j.toNatClampNeg v) ∧ ∀ target, Steps p.tables e below (T'.setTop { g with pc := g.pc + 1, stack := rest }) target → Steps p.tables e below (T.setTop g) target := by
  obtain ⟨cl, A, S, H, G⟩ := id B
  obtain ⟨T', h', X', e', W', st⟩ := stB X hx hZ rfl A (j := j) (x := x) (fun q => q.elim hj (fun q => by omega)) hg hs hd
  subst e'
  exact ⟨T', X', B.set W' (fits_nar_byte x), ⟨_, W'⟩, st⟩
theorem ldBy (X : Stand p l e R s m args below meth c T locs cells slots) (hx : p.tables.exec = Jvm.exec) (hZ : Z.Warmed39 s.vm) (B : By Z T.heap a n f) {j : Int32} (hj : ¬ j < 0) (hjn : j.toNatClampNeg < n) {g : JFrame} (hg : g.method = m) {rest : List Value} (hs : g.stack = .int j :: .ref a :: rest) (hd : decode c.code g.pc = .ok (.baload, 1)) {target : State}
    (k : Steps p.tables e below (T.setTop { g with pc := g.pc + 1, stack := .int (f j.toNatClampNeg) :: rest }) target) : Steps p.tables e below (T.setTop g) target := by
  obtain ⟨cl, A, S, H, G⟩ := B
  exact X.baloadBytes hx (j := j) (v := .int (f j.toNatClampNeg)) A.1 (State.isArrayOf_alike hZ.alike A.2.1) A.2.2 (fun q => q.elim hj (fun q => by omega)) (H _ hjn) hg hs hd _ k
theorem lnBy (X : Stand p l e R s m args below meth c T locs cells slots) (hx : p.tables.exec = Jvm.exec) (hZ : Z.Warmed39 s.vm) (B : By Z T.heap a n f) {N : Int32} (hN : n.toInt32 = N) {g : JFrame} (hg : g.method = m) {rest : List Value} (hs : g.stack = .ref a :: rest) (hd : decode c.code g.pc = .ok (.arraylength, 1)) {target : State}
    (k : Steps p.tables e below (T.setTop { g with pc := g.pc + 1, stack := .int N :: rest }) target) : Steps p.tables e below (T.setTop g) target := by
  obtain ⟨cl, A, S, H, G⟩ := B
  refine X.arraylength hx (cell := cl) A.1 (State.isArrayOf_alike hZ.alike A.2.1) hg hs hd _ ?_
  rw [S, hN]; exact k
end Bytes
def Q1 (Z : State) (a1 : Addr) (n : Nat) (N : Int32) (f : Nat → Int32) (n0 : Nat) (v : Option Value) (h : Heap) (L : List Loc) : Prop := ∃ b, v = some (.ref b) ∧ Fr n0 L ∧ b ≠ a1 ∧ By Z h a1 n f ∧ By Z h b n (own_upd f (N - (1 : Int32)).toNatClampNeg (f (N - (1 : Int32)).toNatClampNeg + (1 : Int32)).toInt8.toInt32.toInt8.toInt32)
set_option maxRecDepth 65536 in
set_option maxHeartbeats 40000000 in
theorem rm1 (l : Launch) (Z : State) (a0 : Array Value) (hw : ∀ d ∈ tables_1, d.before a0 Z = true) (ws : List Jvm.Cond) (a1 : Addr) (n : Nat) (N : Int32) (f : Nat → Int32) (hN : n.toInt32 = N) (hn1 : ¬ N = (0 : Int32)) (hj : ¬ (N - (1 : Int32)) < 0) (hjn : (N - (1 : Int32)).toNatClampNeg < n) (hn4 : n ≤ 4) (hf : ¬ f (N - (1 : Int32)).toNatClampNeg = (-1 : Int32)) (h0 : Heap) (n0 : Nat) (Z0 : n0 ≤ h0.size) (B : By Z h0 a1 n f) (E : Exa Z h0 a1 "[B") :
    MetFree l (⟨"com/example/shoalwater/shoalwater/store/Keys", "pastPrefix", "([B)[B"⟩ : MethodName) (head1 (Jvm.Cond.code (⟨"com/example/shoalwater/shoalwater/store/Keys", "pastPrefix", "([B)[B"⟩ : MethodName) prog_20_method_5_code 2 (some (.array .byte)) :: ws) ({ frames := 1, cells := 1, slots := 4, locals := 14 } : Room)) (fun a U => a = #[(.ref a1)] ∧ Z.Warmed39 U.vm ∧ U.heap = h0) (fun _ _ _ _ _ => True) (fun _ U o U' => ∃ v L, o = .returned v ∧ Q1 Z a1 n N f n0 v U'.heap L ∧ FrameEnd U o U' L ({ frames := 1, cells := 1, slots := 4, locals := 14 } : Room).cells ({ frames := 1, cells := 1, slots := 4, locals := 14 } : Room).slots) := by
  refine MetFree.of_bodySF (plainFor_of_name pn_1) hisR ?_
  intro p e s m args below meth c s₁ Bd hml0 hP hK
  obtain ⟨rfl, hZ, hh⟩ := hP
  have hx := Bd.exec
  have hby := Bd.bytes
  have hml : c.maxLocals = 2 := hml0
  have hown : s.vm.findClass "com/example/shoalwater/shoalwater/store/Keys" = some m.cls := findClass_of_methodNamed Bd.named
  have hnm := (name_of_methodNamed Bd.named Bd.method).1
  have X0 : Stand p l e ({ frames := 1, cells := 1, slots := 4, locals := 14 } : Room) s m #[(.ref a1)] below meth c s₁ [] 0 0 := Stand.of_body Bd
  have e0 : s₁.heap = h0 := by rw [← hh, Bd.state]; rfl
  have N0 := Fr.nil n0
  have pre0 : ∀ t, Steps p.tables e below (s₁.setTop (mkF m 0 #[.val (.ref a1), .unset] [])) t → Steps p.tables e below (s₁.setTop (entryFrame m #[(.ref a1)] 2)) t := fun t k => castTop (ef_1 m a1) k
  have B_X0_a1 : By Z s₁.heap a1 n f := by rw [e0]; exact B
  have E0 : Exa Z s₁.heap a1 "[B" := by rw [e0]; exact E
  obtain ⟨cl, A, S, H, G⟩ := id B_X0_a1
  obtain ⟨T3, h3, X3, e3, Ex3, A3, E3, st3⟩ := cloneA X0 hx hZ hown (hw _ (List.mem_of_getElem? (i := 6) rfl)) (hw _ (List.mem_of_getElem? (i := 7) rfl)) (hw _ (List.mem_of_getElem? (i := 11) rfl)) (hw _ (List.mem_of_getElem? (i := 9) rfl)) (hw _ (List.mem_of_getElem? (i := 10) rfl)) (hw _ (List.mem_of_getElem? (i := 12) rfl)) rfl A E0 (fitC_of A (fun i hi v hv => by rw [S] at hi; rw [H i hi] at hv; cases hv; exact G i hi)) (g := (mkF m 26 #[.val (.ref a1), .unset] [(.ref a1)])) rfl (by rw [hml]; rfl) rfl (hb hby d1_26) (by decide) (W := 0) (by show 2 * 0 + _ ≤ _; exact Nat.le_of_eq rfl) (by decide) (cap := 4) (by rw [S]; exact hn4) (by decide) (by decide)
  subst e3
  obtain ⟨b3, g3⟩ : ∃ z, z = s₁.heap.size := ⟨_, rfl⟩
  rw [← g3] at A3 E3 st3
  have B_X3_a1 : By Z T3.heap a1 n f := B_X0_a1.ext Ex3
  have B_X3_b3 : By Z T3.heap b3 n f := ⟨_, A3, S, H, G⟩
  obtain ⟨T4, X4, e4, st4⟩ := castY X3 hx hZ hown (hw _ (List.mem_of_getElem? (i := 13) rfl)) rfl (Ins.self E3) (g := (mkF m 29 #[.val (.ref a1), .unset] [(.ref b3)])) rfl rfl (hb hby d1_29)
  have B_X4_a1 : By Z T4.heap a1 n f := by rw [e4]; exact B_X3_a1
  have B_X4_b3 : By Z T4.heap b3 n f := by rw [e4]; exact B_X3_b3
  obtain ⟨T6, X6, B_X6_b3, ⟨_, W6⟩, st6⟩ := stBy X4 hx hZ B_X4_b3 (j := (N - (1 : Int32))) hj hjn (g := (mkF m 43 #[.val (.ref a1), .val (.ref b3)] [(.int (((f ((N - (1 : Int32))).toNatClampNeg) + (1 : Int32)).toInt8.toInt32)), (.int (N - (1 : Int32))), (.ref b3)])) rfl rfl (hb hby d1_43)
  have ne1 : a1 ≠ b3 := Nat.ne_of_lt (by rw [g3]; exact B_X0_a1.lt)
  have B_X6_a1 := B_X4_a1.other W6 ne1
  have N6 := Fr.snoc X6 N0 (show n0 ≤ b3 by rw [g3, e0]; exact Z0)
  obtain ⟨fs, hr, hrun, hended, hW, hsame⟩ := X6.leave (v := some (.ref b3)) (fun h => by rw [Bd.returns] at h; cases h)
  refine ⟨_, _, pre0 _ ?_, hrun, hended, _, _, rfl, ?_, ⟨_, rfl⟩, hW, hsame.mono (by decide) (by decide)⟩
  · show Steps p.tables e below (s₁.setTop (mkF m 0 #[.val (.ref a1), .unset] [])) _
    refine XS.aloadN X0.here hx rfl (hb hby d1_0) rfl rfl ?_
    show Steps p.tables e below (s₁.setTop (mkF m 1 #[.val (.ref a1), .unset] [(.ref a1)])) _
    refine lnBy X0 hx hZ B_X0_a1 hN (g := (mkF m 1 #[.val (.ref a1), .unset] [(.ref a1)])) rfl rfl (hb hby d1_1) ?_
    show Steps p.tables e below (s₁.setTop (mkF m 2 #[.val (.ref a1), .unset] [(.int N)])) _
    refine XS.ifNo X0.here hx rfl (hb hby d1_2) rfl ((if0 _ _).trans (feq hn1).1) ?_
    show Steps p.tables e below (s₁.setTop (mkF m 5 #[.val (.ref a1), .unset] [])) _
    refine XS.aloadN X0.here hx rfl (hb hby d1_5) rfl rfl ?_
    show Steps p.tables e below (s₁.setTop (mkF m 6 #[.val (.ref a1), .unset] [(.ref a1)])) _
    refine XS.aloadN X0.here hx rfl (hb hby d1_6) rfl rfl ?_
    show Steps p.tables e below (s₁.setTop (mkF m 7 #[.val (.ref a1), .unset] [(.ref a1), (.ref a1)])) _
    refine lnBy X0 hx hZ B_X0_a1 hN (g := (mkF m 7 #[.val (.ref a1), .unset] [(.ref a1), (.ref a1)])) rfl rfl (hb hby d1_7) ?_
    show Steps p.tables e below (s₁.setTop (mkF m 8 #[.val (.ref a1), .unset] [(.int N), (.ref a1)])) _
    refine XS.iconst X0.here hx rfl (hb hby d1_8) ?_
    show Steps p.tables e below (s₁.setTop (mkF m 9 #[.val (.ref a1), .unset] [(.int (1 : Int32)), (.int N), (.ref a1)])) _
    refine XS.isub X0.here hx rfl (hb hby d1_9) rfl ?_
    show Steps p.tables e below (s₁.setTop (mkF m 10 #[.val (.ref a1), .unset] [(.int (N - (1 : Int32))), (.ref a1)])) _
    refine ldBy X0 hx hZ B_X0_a1 (j := (N - (1 : Int32))) hj hjn (g := (mkF m 10 #[.val (.ref a1), .unset] [(.int (N - (1 : Int32))), (.ref a1)])) rfl rfl (hb hby d1_10) ?_
    show Steps p.tables e below (s₁.setTop (mkF m 11 #[.val (.ref a1), .unset] [(.int (f ((N - (1 : Int32))).toNatClampNeg))])) _
    refine XS.iconst X0.here hx rfl (hb hby d1_11) ?_
    show Steps p.tables e below (s₁.setTop (mkF m 12 #[.val (.ref a1), .unset] [(.int (-1 : Int32)), (.int (f ((N - (1 : Int32))).toNatClampNeg))])) _
    refine XS.icmpYes X0.here hx rfl (pc0 := 12) (pc' := 25) rfl (hb hby d1_12) rfl (feq hf).2 (by decide) (by decide) ?_
    show Steps p.tables e below (s₁.setTop (mkF m 25 #[.val (.ref a1), .unset] [])) _
    refine XS.aloadN X0.here hx rfl (hb hby d1_25) rfl rfl ?_
    show Steps p.tables e below (s₁.setTop (mkF m 26 #[.val (.ref a1), .unset] [(.ref a1)])) _
    refine st3 _ ?_
    show Steps p.tables e below (T3.setTop (mkF m 29 #[.val (.ref a1), .unset] [(.ref b3)])) _
    refine st4 _ ?_
    show Steps p.tables e below (T4.setTop (mkF m 32 #[.val (.ref a1), .unset] [(.ref b3)])) _
    refine XS.astoreN X4.here hx rfl (hb hby d1_32) rfl rfl (l' := #[.val (.ref a1), .val (.ref b3)]) rfl ?_
    show Steps p.tables e below (T4.setTop (mkF m 33 #[.val (.ref a1), .val (.ref b3)] [])) _
    refine XS.aloadN X4.here hx rfl (hb hby d1_33) rfl rfl ?_
    show Steps p.tables e below (T4.setTop (mkF m 34 #[.val (.ref a1), .val (.ref b3)] [(.ref b3)])) _
    refine XS.aloadN X4.here hx rfl (hb hby d1_34) rfl rfl ?_
    show Steps p.tables e below (T4.setTop (mkF m 35 #[.val (.ref a1), .val (.ref b3)] [(.ref b3), (.ref b3)])) _
    refine lnBy X4 hx hZ B_X4_b3 hN (g := (mkF m 35 #[.val (.ref a1), .val (.ref b3)] [(.ref b3), (.ref b3)])) rfl rfl (hb hby d1_35) ?_
    show Steps p.tables e below (T4.setTop (mkF m 36 #[.val (.ref a1), .val (.ref b3)] [(.int N), (.ref b3)])) _
    refine XS.iconst X4.here hx rfl (hb hby d1_36) ?_
    show Steps p.tables e below (T4.setTop (mkF m 37 #[.val (.ref a1), .val (.ref b3)] [(.int (1 : Int32)), (.int N), (.ref b3)])) _
    refine XS.isub X4.here hx rfl (hb hby d1_37) rfl ?_
    show Steps p.tables e below (T4.setTop (mkF m 38 #[.val (.ref a1), .val (.ref b3)] [(.int (N - (1 : Int32))), (.ref b3)])) _
    refine XT.dup2 X4.here hx rfl (hb hby d1_38) rfl rfl rfl ?_
    show Steps p.tables e below (T4.setTop (mkF m 39 #[.val (.ref a1), .val (.ref b3)] [(.int (N - (1 : Int32))), (.ref b3), (.int (N - (1 : Int32))), (.ref b3)])) _
    refine ldBy X4 hx hZ B_X4_b3 (j := (N - (1 : Int32))) hj hjn (g := (mkF m 39 #[.val (.ref a1), .val (.ref b3)] [(.int (N - (1 : Int32))), (.ref b3), (.int (N - (1 : Int32))), (.ref b3)])) rfl rfl (hb hby d1_39) ?_
    show Steps p.tables e below (T4.setTop (mkF m 40 #[.val (.ref a1), .val (.ref b3)] [(.int (f ((N - (1 : Int32))).toNatClampNeg)), (.int (N - (1 : Int32))), (.ref b3)])) _
    refine XS.iconst X4.here hx rfl (hb hby d1_40) ?_
    show Steps p.tables e below (T4.setTop (mkF m 41 #[.val (.ref a1), .val (.ref b3)] [(.int (1 : Int32)), (.int (f ((N - (1 : Int32))).toNatClampNeg)), (.int (N - (1 : Int32))), (.ref b3)])) _
    refine XS.iadd X4.here hx rfl (hb hby d1_41) rfl ?_
    show Steps p.tables e below (T4.setTop (mkF m 42 #[.val (.ref a1), .val (.ref b3)] [(.int ((f ((N - (1 : Int32))).toNatClampNeg) + (1 : Int32))), (.int (N - (1 : Int32))), (.ref b3)])) _
    refine XS.i2b X4.here hx rfl (hb hby d1_42) rfl ?_
    show Steps p.tables e below (T4.setTop (mkF m 43 #[.val (.ref a1), .val (.ref b3)] [(.int (((f ((N - (1 : Int32))).toNatClampNeg) + (1 : Int32)).toInt8.toInt32)), (.int (N - (1 : Int32))), (.ref b3)])) _
    refine st6 _ ?_
    show Steps p.tables e below (T6.setTop (mkF m 44 #[.val (.ref a1), .val (.ref b3)] [])) _
    refine XS.aloadN X6.here hx rfl (hb hby d1_44) rfl rfl ?_
    show Steps p.tables e below (T6.setTop (mkF m 45 #[.val (.ref a1), .val (.ref b3)] [(.ref b3)])) _
    jvm_step X6.here [X6.here.top, hx, (hb hby d1_45), X6.method', Bd.returns, Value.isRef, FieldType.isReference]
    first | (intro acts; rw [hr _ acts rfl rfl rfl]) | rw [hr _ _ rfl rfl rfl]
    exact Steps.refl _
  · exact ⟨b3, rfl, N6, ne1.symm, B_X6_a1, B_X6_b3⟩
def Q2 (h0 : Heap) (n0 : Nat) (v : Option Value) (h : Heap) (L : List Loc) : Prop := v = some (.int 1) ∧ Fr n0 L ∧ h = h0
set_option maxRecDepth 65536 in
set_option maxHeartbeats 40000000 in
theorem rm2A (l : Launch) (Z : State) (a0 : Array Value) (hw : ∀ d ∈ tables_1, d.before a0 Z = true) (ws : List Jvm.Cond) (a1 : Addr) (i N q : Int32) (n : Nat) (f : Nat → Int32) (h0 : Heap) (n0 : Nat) (B : By Z h0 a1 n f) (hc : ¬ i < (N - (1 : Int32))) :
    MetFree l (⟨"com/example/shoalwater/shoalwater/store/KeysPastPrefixPinLaw", "keeps", "([BIII)Z"⟩ : MethodName) (head1 (Jvm.Cond.code (⟨"com/example/shoalwater/shoalwater/store/KeysPastPrefixPinLaw", "keeps", "([BIII)Z"⟩ : MethodName) method_2_code 4 (some .boolean) :: ws) ({ frames := 0, cells := 0, slots := 0, locals := 0 } : Room)) (fun a U => a = #[(.ref a1), (.int i), (.int N), (.int q)] ∧ Z.Warmed39 U.vm ∧ U.heap = h0) (fun _ _ _ _ _ => True) (fun _ U o U' => ∃ v L, o = .returned v ∧ Q2 h0 n0 v U'.heap L ∧ FrameEnd U o U' L ({ frames := 0, cells := 0, slots := 0, locals := 0 } : Room).cells ({ frames := 0, cells := 0, slots := 0, locals := 0 } : Room).slots) := by
  refine MetFree.of_bodySF (plainFor_of_name pn_0) hisR ?_
  intro p e s m args below meth c s₁ Bd hml0 hP hK
  obtain ⟨rfl, hZ, hh⟩ := hP
  have hx := Bd.exec
  have hby := Bd.bytes
  have hml : c.maxLocals = 4 := hml0
  have hown : s.vm.findClass "com/example/shoalwater/shoalwater/store/KeysPastPrefixPinLaw" = some m.cls := findClass_of_methodNamed Bd.named
  have hnm := (name_of_methodNamed Bd.named Bd.method).1
  have X0 : Stand p l e ({ frames := 0, cells := 0, slots := 0, locals := 0 } : Room) s m #[(.ref a1), (.int i), (.int N), (.int q)] below meth c s₁ [] 0 0 := Stand.of_body Bd
  have e0 : s₁.heap = h0 := by rw [← hh, Bd.state]; rfl
  have N0 := Fr.nil n0
  have pre0 : ∀ t, Steps p.tables e below (s₁.setTop (mkF m 0 #[.val (.ref a1), .val (.int i), .val (.int N), .val (.int q)] [])) t → Steps p.tables e below (s₁.setTop (entryFrame m #[(.ref a1), (.int i), (.int N), (.int q)] 4)) t := fun t k => castTop (ef_2 m a1 i N q) k
  have B_X0_a1 : By Z s₁.heap a1 n f := by rw [e0]; exact B
  obtain ⟨fs, hr, hrun, hended, hW, hsame⟩ := X0.leave (v := some (.int (1 : Int32))) (fun h => by rw [Bd.returns] at h; cases h)
  refine ⟨_, _, pre0 _ ?_, hrun, hended, _, _, rfl, ?_, ⟨_, rfl⟩, hW, hsame.mono (by decide) (by decide)⟩
  · show Steps p.tables e below (s₁.setTop (mkF m 0 #[.val (.ref a1), .val (.int i), .val (.int N), .val (.int q)] [])) _
    refine XS.iloadN X0.here hx rfl (hb hby d2_0) rfl ?_
    show Steps p.tables e below (s₁.setTop (mkF m 1 #[.val (.ref a1), .val (.int i), .val (.int N), .val (.int q)] [(.int i)])) _
    refine XS.iloadN X0.here hx rfl (hb hby d2_1) rfl ?_
    show Steps p.tables e below (s₁.setTop (mkF m 2 #[.val (.ref a1), .val (.int i), .val (.int N), .val (.int q)] [(.int N), (.int i)])) _
    refine XS.iconst X0.here hx rfl (hb hby d2_2) ?_
    show Steps p.tables e below (s₁.setTop (mkF m 3 #[.val (.ref a1), .val (.int i), .val (.int N), .val (.int q)] [(.int (1 : Int32)), (.int N), (.int i)])) _
    refine XS.isub X0.here hx rfl (hb hby d2_3) rfl ?_
    show Steps p.tables e below (s₁.setTop (mkF m 4 #[.val (.ref a1), .val (.int i), .val (.int N), .val (.int q)] [(.int (N - (1 : Int32))), (.int i)])) _
    refine XS.icmpYes X0.here hx rfl (pc0 := 4) (pc' := 15) rfl (hb hby d2_4) rfl (flt hc).2.1 (by decide) (by decide) ?_
    show Steps p.tables e below (s₁.setTop (mkF m 15 #[.val (.ref a1), .val (.int i), .val (.int N), .val (.int q)] [])) _
    refine XS.iconst X0.here hx rfl (hb hby d2_15) ?_
    show Steps p.tables e below (s₁.setTop (mkF m 16 #[.val (.ref a1), .val (.int i), .val (.int N), .val (.int q)] [(.int (1 : Int32))])) _
    refine XS.goto X0.here hx rfl (pc0 := 16) (pc' := 20) rfl (hb hby d2_16) (by decide) (by decide) ?_
    show Steps p.tables e below (s₁.setTop (mkF m 20 #[.val (.ref a1), .val (.int i), .val (.int N), .val (.int q)] [(.int (1 : Int32))])) _
    exact retN X0 hx (t := .boolean) Bd.returns (by simp) (hb hby d2_20) hr
  · exact ⟨rfl, N0, e0⟩
set_option maxRecDepth 65536 in
set_option maxHeartbeats 40000000 in
theorem rm2B (l : Launch) (Z : State) (a0 : Array Value) (hw : ∀ d ∈ tables_1, d.before a0 Z = true) (ws : List Jvm.Cond) (a1 : Addr) (i N q : Int32) (n : Nat) (f : Nat → Int32) (h0 : Heap) (n0 : Nat) (B : By Z h0 a1 n f) (hc : i < (N - (1 : Int32))) (hj : ¬ i < 0) (hjn : i.toNatClampNeg < n) (hat : f i.toNatClampNeg = q.toInt8.toInt32) :
    MetFree l (⟨"com/example/shoalwater/shoalwater/store/KeysPastPrefixPinLaw", "keeps", "([BIII)Z"⟩ : MethodName) (head1 (Jvm.Cond.code (⟨"com/example/shoalwater/shoalwater/store/KeysPastPrefixPinLaw", "keeps", "([BIII)Z"⟩ : MethodName) method_2_code 4 (some .boolean) :: ws) ({ frames := 0, cells := 0, slots := 0, locals := 0 } : Room)) (fun a U => a = #[(.ref a1), (.int i), (.int N), (.int q)] ∧ Z.Warmed39 U.vm ∧ U.heap = h0) (fun _ _ _ _ _ => True) (fun _ U o U' => ∃ v L, o = .returned v ∧ Q2 h0 n0 v U'.heap L ∧ FrameEnd U o U' L ({ frames := 0, cells := 0, slots := 0, locals := 0 } : Room).cells ({ frames := 0, cells := 0, slots := 0, locals := 0 } : Room).slots) := by
  refine MetFree.of_bodySF (plainFor_of_name pn_0) hisR ?_
  intro p e s m args below meth c s₁ Bd hml0 hP hK
  obtain ⟨rfl, hZ, hh⟩ := hP
  have hx := Bd.exec
  have hby := Bd.bytes
  have hml : c.maxLocals = 4 := hml0
  have hown : s.vm.findClass "com/example/shoalwater/shoalwater/store/KeysPastPrefixPinLaw" = some m.cls := findClass_of_methodNamed Bd.named
  have hnm := (name_of_methodNamed Bd.named Bd.method).1
  have X0 : Stand p l e ({ frames := 0, cells := 0, slots := 0, locals := 0 } : Room) s m #[(.ref a1), (.int i), (.int N), (.int q)] below meth c s₁ [] 0 0 := Stand.of_body Bd
  have e0 : s₁.heap = h0 := by rw [← hh, Bd.state]; rfl
  have N0 := Fr.nil n0
  have pre0 : ∀ t, Steps p.tables e below (s₁.setTop (mkF m 0 #[.val (.ref a1), .val (.int i), .val (.int N), .val (.int q)] [])) t → Steps p.tables e below (s₁.setTop (entryFrame m #[(.ref a1), (.int i), (.int N), (.int q)] 4)) t := fun t k => castTop (ef_2 m a1 i N q) k
  have B_X0_a1 : By Z s₁.heap a1 n f := by rw [e0]; exact B
  obtain ⟨fs, hr, hrun, hended, hW, hsame⟩ := X0.leave (v := some (.int (1 : Int32))) (fun h => by rw [Bd.returns] at h; cases h)
  refine ⟨_, _, pre0 _ ?_, hrun, hended, _, _, rfl, ?_, ⟨_, rfl⟩, hW, hsame.mono (by decide) (by decide)⟩
  · show Steps p.tables e below (s₁.setTop (mkF m 0 #[.val (.ref a1), .val (.int i), .val (.int N), .val (.int q)] [])) _
    refine XS.iloadN X0.here hx rfl (hb hby d2_0) rfl ?_
    show Steps p.tables e below (s₁.setTop (mkF m 1 #[.val (.ref a1), .val (.int i), .val (.int N), .val (.int q)] [(.int i)])) _
    refine XS.iloadN X0.here hx rfl (hb hby d2_1) rfl ?_
    show Steps p.tables e below (s₁.setTop (mkF m 2 #[.val (.ref a1), .val (.int i), .val (.int N), .val (.int q)] [(.int N), (.int i)])) _
    refine XS.iconst X0.here hx rfl (hb hby d2_2) ?_
    show Steps p.tables e below (s₁.setTop (mkF m 3 #[.val (.ref a1), .val (.int i), .val (.int N), .val (.int q)] [(.int (1 : Int32)), (.int N), (.int i)])) _
    refine XS.isub X0.here hx rfl (hb hby d2_3) rfl ?_
    show Steps p.tables e below (s₁.setTop (mkF m 4 #[.val (.ref a1), .val (.int i), .val (.int N), .val (.int q)] [(.int (N - (1 : Int32))), (.int i)])) _
    refine XS.icmpNo X0.here hx rfl (hb hby d2_4) rfl (tlt hc).2.1 ?_
    show Steps p.tables e below (s₁.setTop (mkF m 7 #[.val (.ref a1), .val (.int i), .val (.int N), .val (.int q)] [])) _
    refine XS.aloadN X0.here hx rfl (hb hby d2_7) rfl rfl ?_
    show Steps p.tables e below (s₁.setTop (mkF m 8 #[.val (.ref a1), .val (.int i), .val (.int N), .val (.int q)] [(.ref a1)])) _
    refine XS.iloadN X0.here hx rfl (hb hby d2_8) rfl ?_
    show Steps p.tables e below (s₁.setTop (mkF m 9 #[.val (.ref a1), .val (.int i), .val (.int N), .val (.int q)] [(.int i), (.ref a1)])) _
    refine ldBy X0 hx hZ B_X0_a1 (j := i) hj hjn (g := (mkF m 9 #[.val (.ref a1), .val (.int i), .val (.int N), .val (.int q)] [(.int i), (.ref a1)])) rfl rfl (hb hby d2_9) ?_
    show Steps p.tables e below (s₁.setTop (mkF m 10 #[.val (.ref a1), .val (.int i), .val (.int N), .val (.int q)] [(.int (f (i).toNatClampNeg))])) _
    refine XS.iloadN X0.here hx rfl (hb hby d2_10) rfl ?_
    show Steps p.tables e below (s₁.setTop (mkF m 11 #[.val (.ref a1), .val (.int i), .val (.int N), .val (.int q)] [(.int q), (.int (f (i).toNatClampNeg))])) _
    refine XS.i2b X0.here hx rfl (hb hby d2_11) rfl ?_
    show Steps p.tables e below (s₁.setTop (mkF m 12 #[.val (.ref a1), .val (.int i), .val (.int N), .val (.int q)] [(.int (q.toInt8.toInt32)), (.int (f (i).toNatClampNeg))])) _
    refine XS.icmpNo X0.here hx rfl (hb hby d2_12) rfl (teq hat).2 ?_
    show Steps p.tables e below (s₁.setTop (mkF m 15 #[.val (.ref a1), .val (.int i), .val (.int N), .val (.int q)] [])) _
    refine XS.iconst X0.here hx rfl (hb hby d2_15) ?_
    show Steps p.tables e below (s₁.setTop (mkF m 16 #[.val (.ref a1), .val (.int i), .val (.int N), .val (.int q)] [(.int (1 : Int32))])) _
    refine XS.goto X0.here hx rfl (pc0 := 16) (pc' := 20) rfl (hb hby d2_16) (by decide) (by decide) ?_
    show Steps p.tables e below (s₁.setTop (mkF m 20 #[.val (.ref a1), .val (.int i), .val (.int N), .val (.int q)] [(.int (1 : Int32))])) _
    exact retN X0 hx (t := .boolean) Bd.returns (by simp) (hb hby d2_20) hr
  · exact ⟨rfl, N0, e0⟩
theorem rm2 (l : Launch) (Z : State) (a0 : Array Value) (hw : ∀ d ∈ tables_1, d.before a0 Z = true) (ws : List Jvm.Cond) (a1 : Addr) (i N q : Int32) (n : Nat) (f : Nat → Int32) (h0 : Heap) (n0 : Nat) (B : By Z h0 a1 n f) (hk : ¬ i < (N - (1 : Int32)) ∨ (i < (N - (1 : Int32)) ∧ ¬ i < 0 ∧ i.toNatClampNeg < n ∧ f i.toNatClampNeg = q.toInt8.toInt32)) :
    MetFree l (⟨"com/example/shoalwater/shoalwater/store/KeysPastPrefixPinLaw", "keeps", "([BIII)Z"⟩ : MethodName) (head1 (Jvm.Cond.code (⟨"com/example/shoalwater/shoalwater/store/KeysPastPrefixPinLaw", "keeps", "([BIII)Z"⟩ : MethodName) method_2_code 4 (some .boolean) :: ws) ({ frames := 0, cells := 0, slots := 0, locals := 0 } : Room)) (fun a U => a = #[(.ref a1), (.int i), (.int N), (.int q)] ∧ Z.Warmed39 U.vm ∧ U.heap = h0) (fun _ _ _ _ _ => True) (fun _ U o U' => ∃ v L, o = .returned v ∧ Q2 h0 n0 v U'.heap L ∧ FrameEnd U o U' L ({ frames := 0, cells := 0, slots := 0, locals := 0 } : Room).cells ({ frames := 0, cells := 0, slots := 0, locals := 0 } : Room).slots) := by
  rcases hk with hk | ⟨k1, k2, k3, k4⟩
  · exact rm2A l Z a0 hw ws a1 i N q n f h0 n0 B hk
  · exact rm2B l Z a0 hw ws a1 i N q n f h0 n0 B k1 k2 k3 k4
set_option maxRecDepth 65536 in
set_option maxHeartbeats 40000000 in
theorem callP {p : Program} {l : Launch} {e : Env} {s : State} {m : MethodId} {args : Array Value} {below : List Frame} {meth : Method} {c : Code} {T : State} {locs : List Loc} {cells slots : Nat} {Z : State} {a0 : Array Value} (X : Stand p l e room_1 s m args below meth c T locs cells slots) (hx : p.tables.exec = Jvm.exec) (hZ : Z.Warmed39 s.vm) (hw : ∀ d ∈ tables_1, d.before a0 Z = true) (hby : c.code = code) (hml : c.maxLocals = 12) (hown : s.vm.findClass "com/example/shoalwater/shoalwater/store/KeysPastPrefixPinLaw" = some m.cls) {n0 : Nat} (N0 : Fr n0 locs) (hc : cells + 1 ≤ 16) (hs : slots + 4 ≤ 128) {a : Addr} (n : Nat) (N : Int32) (f : Nat → Int32) (hN : n.toInt32 = N) (hn1 : ¬ N = (0 : Int32)) (hj : ¬ (N - (1 : Int32)) < 0) (hjn : (N - (1 : Int32)).toNatClampNeg < n) (hn4 : n ≤ 4) (hf : ¬ f (N - (1 : Int32)).toNatClampNeg = (-1 : Int32)) (Z0 : n0 ≤ T.heap.size) (B : By Z T.heap a n f) (E : Exa Z T.heap a "[B") (gf : Nat → Int32) (hgf : (own_upd f (N - (1 : Int32)).toNatClampNeg (f (N - (1 : Int32)).toNatClampNeg + (1 : Int32)).toInt8.toInt32.toInt8.toInt32) = gf) {pc : Nat} {Ls : Array Slot} (hsz : Ls.size = 12) (hd : decode code pc = .ok (.invokestatic 8, 3)) :
    ∃ (T' : State) (locs' : List Loc) (b : Addr), Stand p l e room_1 s m args below meth c T' locs' (cells + 1) (slots + 4) ∧ Fr n0 locs' ∧ b ≠ a ∧ By Z T'.heap a n f ∧ By Z T'.heap b n gf ∧ ∀ target, Steps p.tables e below (T'.setTop (mkF m (pc + 3) Ls [(.ref b)])) target → Steps p.tables e below (T.setTop (mkF m pc Ls [(.ref a)])) target := by
  obtain ⟨_, _, ⟨T', L', k', n'⟩, -, X', ⟨Lc, hQ, l', y', z'⟩, st⟩ := Jvm.LawKit.callS X hx (y := (⟨"com/example/shoalwater/shoalwater/store/Keys", "pastPrefix", "([B)[B"⟩ : MethodName)) hown (mvT hZ (hw _ (List.mem_of_getElem? (i := 2) rfl))) (mvT hZ (hw _ (List.mem_of_getElem? (i := 3) rfl))) (mvT hZ (hw _ (List.mem_of_getElem? (i := 4) rfl))) (mvT hZ (hw _ (List.mem_of_getElem? (i := 5) rfl))) (by decide) (backOf (W := 0) (rm1 l Z a0 hw [] a n N f hN hn1 hj hjn hn4 hf T.heap n0 Z0 B E) hZ (hw _ (List.mem_of_getElem? (i := 5) rfl)) (hw _ (List.mem_of_getElem? (i := 4) rfl)) (by decide) (by decide)) (g := (mkF m pc Ls [(.ref a)])) rfl (by rw [hml]; exact hsz) (argsL := [(.ref a)]) (rest := []) (lenOf pd_p rfl) rfl (by show 2 * 0 + _ ≤ _; exact Nat.le_of_eq rfl) (hb hby hd) (fun _ _ => ⟨rfl, rfl, (show cells + 1 ≤ 16 from hc), (show slots + 4 ≤ 128 from hs)⟩)
  dsimp only [Pt.U, Pt.locs, Pt.cells, Pt.slots] at X' l' y' z' st hQ
  subst l' y' z'
  obtain ⟨b, rfl, Nq, ne, Ba, Bb⟩ := hQ
  rw [hgf] at Bb
  exact ⟨T', _, b, X', Fr.app N0 Nq, ne, Ba, Bb, fun target k => st target k⟩
set_option maxRecDepth 65536 in
set_option maxHeartbeats 40000000 in
theorem callK {p : Program} {l : Launch} {e : Env} {s : State} {m : MethodId} {args : Array Value} {below : List Frame} {meth : Method} {c : Code} {T : State} {locs : List Loc} {cells slots : Nat} {Z : State} {a0 : Array Value} (X : Stand p l e room_1 s m args below meth c T locs cells slots) (hx : p.tables.exec = Jvm.exec) (hZ : Z.Warmed39 s.vm) (hw : ∀ d ∈ tables_1, d.before a0 Z = true) (hby : c.code = code) (hml : c.maxLocals = 12) (hown : s.vm.findClass "com/example/shoalwater/shoalwater/store/KeysPastPrefixPinLaw" = some m.cls) {n0 : Nat} (N0 : Fr n0 locs) (hc : cells + 1 ≤ 16) (hs : slots + 4 ≤ 128) {a : Addr} (i N q : Int32) (n : Nat) (f : Nat → Int32) (B : By Z T.heap a n f) (hk : ¬ i < (N - (1 : Int32)) ∨ (i < (N - (1 : Int32)) ∧ ¬ i < 0 ∧ i.toNatClampNeg < n ∧ f i.toNatClampNeg = q.toInt8.toInt32)) {pc : Nat} {Ls : Array Slot} (hsz : Ls.size = 12) (hd : decode code pc = .ok (.invokestatic 14, 3)) :
    ∃ (T' : State) (locs' : List Loc), Stand p l e room_1 s m args below meth c T' locs' cells slots ∧ Fr n0 locs' ∧ T'.heap = T.heap ∧ ∀ target, Steps p.tables e below (T'.setTop (mkF m (pc + 3) Ls [(.int (1 : Int32))])) target → Steps p.tables e below (T.setTop (mkF m pc Ls [(.int q), (.int N), (.int i), (.ref a)])) target := by
  obtain ⟨_, _, ⟨T', L', k', n'⟩, -, X', ⟨Lc, hQ, l', y', z'⟩, st⟩ := Jvm.LawKit.callS X hx (y := (⟨"com/example/shoalwater/shoalwater/store/KeysPastPrefixPinLaw", "keeps", "([BIII)Z"⟩ : MethodName)) hown (mvT hZ (hw _ (List.mem_of_getElem? (i := 15) rfl))) (mvT hZ (hw _ (List.mem_of_getElem? (i := 16) rfl))) (mvT hZ (hw _ (List.mem_of_getElem? (i := 17) rfl))) (mvT hZ (hw _ (List.mem_of_getElem? (i := 18) rfl))) (by decide) (backOf (W := 0) (rm2 l Z a0 hw [] a i N q n f T.heap n0 B hk) hZ (hw _ (List.mem_of_getElem? (i := 18) rfl)) (hw _ (List.mem_of_getElem? (i := 17) rfl)) (by decide) (by decide)) (g := (mkF m pc Ls [(.int q), (.int N), (.int i), (.ref a)])) rfl (by rw [hml]; exact hsz) (argsL := [(.ref a), (.int i), (.int N), (.int q)]) (rest := []) (lenOf pd_k rfl) rfl (by show 2 * 0 + _ ≤ _; exact Nat.le_of_eq rfl) (hb hby hd) (fun _ _ => ⟨rfl, rfl, (show cells + 0 ≤ 16 by omega), (show slots + 0 ≤ 128 by omega)⟩)
  dsimp only [Pt.U, Pt.locs, Pt.cells, Pt.slots] at X' l' y' z' st hQ
  subst l' y' z'
  obtain ⟨rfl, Nq, e'⟩ := hQ
  exact ⟨T', _, X', Fr.app N0 Nq, e', fun target k => st target k⟩
set_option maxRecDepth 65536 in
set_option maxHeartbeats 40000000 in
theorem tnA1 {p : Program} {l : Launch} {e : Env} {s : State} {m : MethodId} {args : Array Value} {below : List Frame} {meth : Method} {c : Code} {T0 : State} {Z : State} {a0 : Array Value} {n0 : Nat} (i0 i1 i2 i3 i4 la : Int32) (X0 : Stand p l e room_1 s m args below meth c T0 [] 0 0) (hx : p.tables.exec = Jvm.exec) (hZ : Z.Warmed39 s.vm) (hw : ∀ d ∈ tables_1, d.before a0 Z = true) (hby : c.code = code) (hml : c.maxLocals = 12) (hown : s.vm.findClass "com/example/shoalwater/shoalwater/store/KeysPastPrefixPinLaw" = some m.cls) (Z0 : n0 ≤ T0.heap.size) (hn : ((1 : Int32) + (i0 &&& (3 : Int32))) = (1 : Int32)) (hl : ((i4 &&& (2147483647 : Int32)) % (255 : Int32)) = la) :
    ∃ (T' : State) (locs' : List Loc) (b : Addr), Stand p l e room_1 s m args below meth c T' locs' 1 4 ∧ Fr n0 locs' ∧ n0 ≤ T'.heap.size ∧ By Z T'.heap b 1 (own_upd (fun _ => (0 : Int32)) (((1 : Int32) - (1 : Int32))).toNatClampNeg ((la.toInt8.toInt32)).toInt8.toInt32) ∧ Exa Z T'.heap b "[B" ∧ ∀ target, Steps p.tables e below (T'.setTop (mkF m 70 #[.val (.int i0), .val (.int i1), .val (.int i2), .val (.int i3), .val (.int i4), .val (.int (1 : Int32)), .val (.int la), .val (.ref b), .unset, .unset, .unset, .unset] [])) target → Steps p.tables e below (T0.setTop (mkF m 0 #[.val (.int i0), .val (.int i1), .val (.int i2), .val (.int i3), .val (.int i4), .unset, .unset, .unset, .unset, .unset, .unset, .unset] [])) target := by
  obtain ⟨T1, h1, k1, X1, e1, Ex1, A1, E1, st1⟩ := newPE X0 hx hZ (hw _ (List.mem_of_getElem? (i := 1) rfl)) rfl (g := (mkF m 20 #[.val (.int i0), .val (.int i1), .val (.int i2), .val (.int i3), .val (.int i4), .val (.int (1 : Int32)), .val (.int la), .unset, .unset, .unset, .unset, .unset] [(.int (1 : Int32))])) rfl (hb hby at_20) rfl (by decide) (cap := 4) (by decide) (by decide) (by decide) (by decide) (ad := "[B") rfl
  subst e1
  obtain ⟨b, gb⟩ : ∃ z, z = T0.heap.size := ⟨_, rfl⟩
  rw [← gb] at A1 E1 st1
  have B1 : By Z T1.heap b 1 (fun _ => (0 : Int32)) := By.new A1
  have g_b : n0 ≤ b := Nat.le_trans Z0 (Nat.le_of_eq gb.symm)
  have N1 : Fr n0 [] := Fr.nil n0
  obtain ⟨T2, X2, B2, ⟨_, W2⟩, st2⟩ := stBy X1 hx hZ B1 (j := ((1 : Int32) - (1 : Int32))) (by decide) (by decide) (g := (mkF m 69 #[.val (.int i0), .val (.int i1), .val (.int i2), .val (.int i3), .val (.int i4), .val (.int (1 : Int32)), .val (.int la), .val (.ref b), .unset, .unset, .unset, .unset] [(.int (la.toInt8.toInt32)), (.int ((1 : Int32) - (1 : Int32))), (.ref b)])) rfl rfl (hb hby at_69)
  have N2 := Fr.snoc X2 N1 g_b
  have E2 := E1.wr W2
  refine ⟨T2, _, b, X2, N2, Nat.le_trans g_b (Nat.le_of_lt B2.lt), B2, E2, fun target kt => ?_⟩
  show Steps p.tables e below (T0.setTop (mkF m 0 #[.val (.int i0), .val (.int i1), .val (.int i2), .val (.int i3), .val (.int i4), .unset, .unset, .unset, .unset, .unset, .unset, .unset] [])) _
  refine XS.iconst X0.here hx rfl (hb hby at_0) ?_
  show Steps p.tables e below (T0.setTop (mkF m 1 #[.val (.int i0), .val (.int i1), .val (.int i2), .val (.int i3), .val (.int i4), .unset, .unset, .unset, .unset, .unset, .unset, .unset] [(.int (1 : Int32))])) _
  refine XS.iloadN X0.here hx rfl (hb hby at_1) rfl ?_
  show Steps p.tables e below (T0.setTop (mkF m 2 #[.val (.int i0), .val (.int i1), .val (.int i2), .val (.int i3), .val (.int i4), .unset, .unset, .unset, .unset, .unset, .unset, .unset] [(.int i0), (.int (1 : Int32))])) _
  refine XS.iconst X0.here hx rfl (hb hby at_2) ?_
  show Steps p.tables e below (T0.setTop (mkF m 3 #[.val (.int i0), .val (.int i1), .val (.int i2), .val (.int i3), .val (.int i4), .unset, .unset, .unset, .unset, .unset, .unset, .unset] [(.int (3 : Int32)), (.int i0), (.int (1 : Int32))])) _
  refine XS.iand X0.here hx rfl (hb hby at_3) rfl ?_
  show Steps p.tables e below (T0.setTop (mkF m 4 #[.val (.int i0), .val (.int i1), .val (.int i2), .val (.int i3), .val (.int i4), .unset, .unset, .unset, .unset, .unset, .unset, .unset] [(.int (i0 &&& (3 : Int32))), (.int (1 : Int32))])) _
  refine XS.iadd X0.here hx rfl (hb hby at_4) rfl ?_
  show Steps p.tables e below (T0.setTop (mkF m 5 #[.val (.int i0), .val (.int i1), .val (.int i2), .val (.int i3), .val (.int i4), .unset, .unset, .unset, .unset, .unset, .unset, .unset] [(.int ((1 : Int32) + (i0 &&& (3 : Int32))))])) _
  refine XS.istore X0.here hx rfl (hb hby at_5) rfl (l' := #[.val (.int i0), .val (.int i1), .val (.int i2), .val (.int i3), .val (.int i4), .val (.int ((1 : Int32) + (i0 &&& (3 : Int32)))), .unset, .unset, .unset, .unset, .unset, .unset]) rfl ?_
  show Steps p.tables e below (T0.setTop (mkF m 7 #[.val (.int i0), .val (.int i1), .val (.int i2), .val (.int i3), .val (.int i4), .val (.int ((1 : Int32) + (i0 &&& (3 : Int32)))), .unset, .unset, .unset, .unset, .unset, .unset] [])) _
  refine XS.iload X0.here hx rfl (hb hby at_7) rfl ?_
  show Steps p.tables e below (T0.setTop (mkF m 9 #[.val (.int i0), .val (.int i1), .val (.int i2), .val (.int i3), .val (.int i4), .val (.int ((1 : Int32) + (i0 &&& (3 : Int32)))), .unset, .unset, .unset, .unset, .unset, .unset] [(.int i4)])) _
  refine X0.ldcInt hx hown (mvT hZ (hw _ (List.mem_of_getElem? (i := 0) rfl))) (g := (mkF m 9 #[.val (.int i0), .val (.int i1), .val (.int i2), .val (.int i3), .val (.int i4), .val (.int ((1 : Int32) + (i0 &&& (3 : Int32)))), .unset, .unset, .unset, .unset, .unset, .unset] [(.int i4)])) rfl (hb hby at_9) _ ?_
  show Steps p.tables e below (T0.setTop (mkF m 11 #[.val (.int i0), .val (.int i1), .val (.int i2), .val (.int i3), .val (.int i4), .val (.int ((1 : Int32) + (i0 &&& (3 : Int32)))), .unset, .unset, .unset, .unset, .unset, .unset] [(.int (2147483647 : Int32)), (.int i4)])) _
  refine XS.iand X0.here hx rfl (hb hby at_11) rfl ?_
  show Steps p.tables e below (T0.setTop (mkF m 12 #[.val (.int i0), .val (.int i1), .val (.int i2), .val (.int i3), .val (.int i4), .val (.int ((1 : Int32) + (i0 &&& (3 : Int32)))), .unset, .unset, .unset, .unset, .unset, .unset] [(.int (i4 &&& (2147483647 : Int32)))])) _
  refine XS.sipush X0.here hx rfl (hb hby at_12) ?_
  show Steps p.tables e below (T0.setTop (mkF m 15 #[.val (.int i0), .val (.int i1), .val (.int i2), .val (.int i3), .val (.int i4), .val (.int ((1 : Int32) + (i0 &&& (3 : Int32)))), .unset, .unset, .unset, .unset, .unset, .unset] [(.int (255 : Int32)), (.int (i4 &&& (2147483647 : Int32)))])) _
  refine XS.irem X0.here hx rfl (hb hby at_15) rfl (by decide) ?_
  rw [irem_eq_mod]
  show Steps p.tables e below (T0.setTop (mkF m 16 #[.val (.int i0), .val (.int i1), .val (.int i2), .val (.int i3), .val (.int i4), .val (.int ((1 : Int32) + (i0 &&& (3 : Int32)))), .unset, .unset, .unset, .unset, .unset, .unset] [(.int ((i4 &&& (2147483647 : Int32)) % (255 : Int32)))])) _
  refine XS.istore X0.here hx rfl (hb hby at_16) rfl (l' := #[.val (.int i0), .val (.int i1), .val (.int i2), .val (.int i3), .val (.int i4), .val (.int ((1 : Int32) + (i0 &&& (3 : Int32)))), .val (.int ((i4 &&& (2147483647 : Int32)) % (255 : Int32))), .unset, .unset, .unset, .unset, .unset]) rfl ?_
  rw [hn, hl]
  show Steps p.tables e below (T0.setTop (mkF m 18 #[.val (.int i0), .val (.int i1), .val (.int i2), .val (.int i3), .val (.int i4), .val (.int (1 : Int32)), .val (.int la), .unset, .unset, .unset, .unset, .unset] [])) _
  refine XS.iload X0.here hx rfl (hb hby at_18) rfl ?_
  show Steps p.tables e below (T0.setTop (mkF m 20 #[.val (.int i0), .val (.int i1), .val (.int i2), .val (.int i3), .val (.int i4), .val (.int (1 : Int32)), .val (.int la), .unset, .unset, .unset, .unset, .unset] [(.int (1 : Int32))])) _
  refine st1 _ ?_
  show Steps p.tables e below (T1.setTop (mkF m 22 #[.val (.int i0), .val (.int i1), .val (.int i2), .val (.int i3), .val (.int i4), .val (.int (1 : Int32)), .val (.int la), .unset, .unset, .unset, .unset, .unset] [(.ref b)])) _
  refine XS.astore X1.here hx rfl (hb hby at_22) rfl rfl (l' := #[.val (.int i0), .val (.int i1), .val (.int i2), .val (.int i3), .val (.int i4), .val (.int (1 : Int32)), .val (.int la), .val (.ref b), .unset, .unset, .unset, .unset]) rfl ?_
  show Steps p.tables e below (T1.setTop (mkF m 24 #[.val (.int i0), .val (.int i1), .val (.int i2), .val (.int i3), .val (.int i4), .val (.int (1 : Int32)), .val (.int la), .val (.ref b), .unset, .unset, .unset, .unset] [])) _
  refine XS.iload X1.here hx rfl (hb hby at_24) rfl ?_
  show Steps p.tables e below (T1.setTop (mkF m 26 #[.val (.int i0), .val (.int i1), .val (.int i2), .val (.int i3), .val (.int i4), .val (.int (1 : Int32)), .val (.int la), .val (.ref b), .unset, .unset, .unset, .unset] [(.int (1 : Int32))])) _
  refine XS.iconst X1.here hx rfl (hb hby at_26) ?_
  show Steps p.tables e below (T1.setTop (mkF m 27 #[.val (.int i0), .val (.int i1), .val (.int i2), .val (.int i3), .val (.int i4), .val (.int (1 : Int32)), .val (.int la), .val (.ref b), .unset, .unset, .unset, .unset] [(.int (1 : Int32)), (.int (1 : Int32))])) _
  refine XS.icmpYes X1.here hx rfl (pc0 := 27) (pc' := 36) rfl (hb hby at_27) rfl (flt (by decide)).2.2.2 (by decide) (by decide) ?_
  show Steps p.tables e below (T1.setTop (mkF m 36 #[.val (.int i0), .val (.int i1), .val (.int i2), .val (.int i3), .val (.int i4), .val (.int (1 : Int32)), .val (.int la), .val (.ref b), .unset, .unset, .unset, .unset] [])) _
  refine XS.iload X1.here hx rfl (hb hby at_36) rfl ?_
  show Steps p.tables e below (T1.setTop (mkF m 38 #[.val (.int i0), .val (.int i1), .val (.int i2), .val (.int i3), .val (.int i4), .val (.int (1 : Int32)), .val (.int la), .val (.ref b), .unset, .unset, .unset, .unset] [(.int (1 : Int32))])) _
  refine XS.iconst X1.here hx rfl (hb hby at_38) ?_
  show Steps p.tables e below (T1.setTop (mkF m 39 #[.val (.int i0), .val (.int i1), .val (.int i2), .val (.int i3), .val (.int i4), .val (.int (1 : Int32)), .val (.int la), .val (.ref b), .unset, .unset, .unset, .unset] [(.int (2 : Int32)), (.int (1 : Int32))])) _
  refine XS.icmpYes X1.here hx rfl (pc0 := 39) (pc' := 48) rfl (hb hby at_39) rfl (flt (by decide)).2.2.2 (by decide) (by decide) ?_
  show Steps p.tables e below (T1.setTop (mkF m 48 #[.val (.int i0), .val (.int i1), .val (.int i2), .val (.int i3), .val (.int i4), .val (.int (1 : Int32)), .val (.int la), .val (.ref b), .unset, .unset, .unset, .unset] [])) _
  refine XS.iload X1.here hx rfl (hb hby at_48) rfl ?_
  show Steps p.tables e below (T1.setTop (mkF m 50 #[.val (.int i0), .val (.int i1), .val (.int i2), .val (.int i3), .val (.int i4), .val (.int (1 : Int32)), .val (.int la), .val (.ref b), .unset, .unset, .unset, .unset] [(.int (1 : Int32))])) _
  refine XS.iconst X1.here hx rfl (hb hby at_50) ?_
  show Steps p.tables e below (T1.setTop (mkF m 51 #[.val (.int i0), .val (.int i1), .val (.int i2), .val (.int i3), .val (.int i4), .val (.int (1 : Int32)), .val (.int la), .val (.ref b), .unset, .unset, .unset, .unset] [(.int (3 : Int32)), (.int (1 : Int32))])) _
  refine XS.icmpYes X1.here hx rfl (pc0 := 51) (pc' := 60) rfl (hb hby at_51) rfl (flt (by decide)).2.2.2 (by decide) (by decide) ?_
  show Steps p.tables e below (T1.setTop (mkF m 60 #[.val (.int i0), .val (.int i1), .val (.int i2), .val (.int i3), .val (.int i4), .val (.int (1 : Int32)), .val (.int la), .val (.ref b), .unset, .unset, .unset, .unset] [])) _
  refine XS.aload X1.here hx rfl (hb hby at_60) rfl rfl ?_
  show Steps p.tables e below (T1.setTop (mkF m 62 #[.val (.int i0), .val (.int i1), .val (.int i2), .val (.int i3), .val (.int i4), .val (.int (1 : Int32)), .val (.int la), .val (.ref b), .unset, .unset, .unset, .unset] [(.ref b)])) _
  refine XS.iload X1.here hx rfl (hb hby at_62) rfl ?_
  show Steps p.tables e below (T1.setTop (mkF m 64 #[.val (.int i0), .val (.int i1), .val (.int i2), .val (.int i3), .val (.int i4), .val (.int (1 : Int32)), .val (.int la), .val (.ref b), .unset, .unset, .unset, .unset] [(.int (1 : Int32)), (.ref b)])) _
  refine XS.iconst X1.here hx rfl (hb hby at_64) ?_
  show Steps p.tables e below (T1.setTop (mkF m 65 #[.val (.int i0), .val (.int i1), .val (.int i2), .val (.int i3), .val (.int i4), .val (.int (1 : Int32)), .val (.int la), .val (.ref b), .unset, .unset, .unset, .unset] [(.int (1 : Int32)), (.int (1 : Int32)), (.ref b)])) _
  refine XS.isub X1.here hx rfl (hb hby at_65) rfl ?_
  show Steps p.tables e below (T1.setTop (mkF m 66 #[.val (.int i0), .val (.int i1), .val (.int i2), .val (.int i3), .val (.int i4), .val (.int (1 : Int32)), .val (.int la), .val (.ref b), .unset, .unset, .unset, .unset] [(.int ((1 : Int32) - (1 : Int32))), (.ref b)])) _
  refine XS.iload X1.here hx rfl (hb hby at_66) rfl ?_
  show Steps p.tables e below (T1.setTop (mkF m 68 #[.val (.int i0), .val (.int i1), .val (.int i2), .val (.int i3), .val (.int i4), .val (.int (1 : Int32)), .val (.int la), .val (.ref b), .unset, .unset, .unset, .unset] [(.int la), (.int ((1 : Int32) - (1 : Int32))), (.ref b)])) _
  refine XS.i2b X1.here hx rfl (hb hby at_68) rfl ?_
  show Steps p.tables e below (T1.setTop (mkF m 69 #[.val (.int i0), .val (.int i1), .val (.int i2), .val (.int i3), .val (.int i4), .val (.int (1 : Int32)), .val (.int la), .val (.ref b), .unset, .unset, .unset, .unset] [(.int (la.toInt8.toInt32)), (.int ((1 : Int32) - (1 : Int32))), (.ref b)])) _
  refine st2 _ ?_
  exact kt
set_option maxRecDepth 65536 in
set_option maxHeartbeats 40000000 in
theorem tnA2 {p : Program} {l : Launch} {e : Env} {s : State} {m : MethodId} {args : Array Value} {below : List Frame} {meth : Method} {c : Code} {T0 : State} {Z : State} {a0 : Array Value} {n0 : Nat} (i0 i1 i2 i3 i4 la : Int32) (X0 : Stand p l e room_1 s m args below meth c T0 [] 0 0) (hx : p.tables.exec = Jvm.exec) (hZ : Z.Warmed39 s.vm) (hw : ∀ d ∈ tables_1, d.before a0 Z = true) (hby : c.code = code) (hml : c.maxLocals = 12) (hown : s.vm.findClass "com/example/shoalwater/shoalwater/store/KeysPastPrefixPinLaw" = some m.cls) (Z0 : n0 ≤ T0.heap.size) (hn : ((1 : Int32) + (i0 &&& (3 : Int32))) = (2 : Int32)) (hl : ((i4 &&& (2147483647 : Int32)) % (255 : Int32)) = la) :
    ∃ (T' : State) (locs' : List Loc) (b : Addr), Stand p l e room_1 s m args below meth c T' locs' 1 4 ∧ Fr n0 locs' ∧ n0 ≤ T'.heap.size ∧ By Z T'.heap b 2 (own_upd (own_upd (fun _ => (0 : Int32)) ((0 : Int32)).toNatClampNeg ((i1.toInt8.toInt32)).toInt8.toInt32) (((2 : Int32) - (1 : Int32))).toNatClampNeg ((la.toInt8.toInt32)).toInt8.toInt32) ∧ Exa Z T'.heap b "[B" ∧ ∀ target, Steps p.tables e below (T'.setTop (mkF m 70 #[.val (.int i0), .val (.int i1), .val (.int i2), .val (.int i3), .val (.int i4), .val (.int (2 : Int32)), .val (.int la), .val (.ref b), .unset, .unset, .unset, .unset] [])) target → Steps p.tables e below (T0.setTop (mkF m 0 #[.val (.int i0), .val (.int i1), .val (.int i2), .val (.int i3), .val (.int i4), .unset, .unset, .unset, .unset, .unset, .unset, .unset] [])) target := by
  obtain ⟨T1, h1, k1, X1, e1, Ex1, A1, E1, st1⟩ := newPE X0 hx hZ (hw _ (List.mem_of_getElem? (i := 1) rfl)) rfl (g := (mkF m 20 #[.val (.int i0), .val (.int i1), .val (.int i2), .val (.int i3), .val (.int i4), .val (.int (2 : Int32)), .val (.int la), .unset, .unset, .unset, .unset, .unset] [(.int (2 : Int32))])) rfl (hb hby at_20) rfl (by decide) (cap := 4) (by decide) (by decide) (by decide) (by decide) (ad := "[B") rfl
  subst e1
  obtain ⟨b, gb⟩ : ∃ z, z = T0.heap.size := ⟨_, rfl⟩
  rw [← gb] at A1 E1 st1
  have B1 : By Z T1.heap b 2 (fun _ => (0 : Int32)) := By.new A1
  have g_b : n0 ≤ b := Nat.le_trans Z0 (Nat.le_of_eq gb.symm)
  have N1 : Fr n0 [] := Fr.nil n0
  obtain ⟨T2, X2, B2, ⟨_, W2⟩, st2⟩ := stBy X1 hx hZ B1 (j := (0 : Int32)) (by decide) (by decide) (g := (mkF m 35 #[.val (.int i0), .val (.int i1), .val (.int i2), .val (.int i3), .val (.int i4), .val (.int (2 : Int32)), .val (.int la), .val (.ref b), .unset, .unset, .unset, .unset] [(.int (i1.toInt8.toInt32)), (.int (0 : Int32)), (.ref b)])) rfl rfl (hb hby at_35)
  have N2 := Fr.snoc X2 N1 g_b
  have E2 := E1.wr W2
  obtain ⟨T3, X3, B3, ⟨_, W3⟩, st3⟩ := stBy X2 hx hZ B2 (j := ((2 : Int32) - (1 : Int32))) (by decide) (by decide) (g := (mkF m 69 #[.val (.int i0), .val (.int i1), .val (.int i2), .val (.int i3), .val (.int i4), .val (.int (2 : Int32)), .val (.int la), .val (.ref b), .unset, .unset, .unset, .unset] [(.int (la.toInt8.toInt32)), (.int ((2 : Int32) - (1 : Int32))), (.ref b)])) rfl rfl (hb hby at_69)
  have N3 := Fr.snoc X3 N2 g_b
  have E3 := E2.wr W3
  refine ⟨T3, _, b, X3, N3, Nat.le_trans g_b (Nat.le_of_lt B3.lt), B3, E3, fun target kt => ?_⟩
  show Steps p.tables e below (T0.setTop (mkF m 0 #[.val (.int i0), .val (.int i1), .val (.int i2), .val (.int i3), .val (.int i4), .unset, .unset, .unset, .unset, .unset, .unset, .unset] [])) _
  refine XS.iconst X0.here hx rfl (hb hby at_0) ?_
  show Steps p.tables e below (T0.setTop (mkF m 1 #[.val (.int i0), .val (.int i1), .val (.int i2), .val (.int i3), .val (.int i4), .unset, .unset, .unset, .unset, .unset, .unset, .unset] [(.int (1 : Int32))])) _
  refine XS.iloadN X0.here hx rfl (hb hby at_1) rfl ?_
  show Steps p.tables e below (T0.setTop (mkF m 2 #[.val (.int i0), .val (.int i1), .val (.int i2), .val (.int i3), .val (.int i4), .unset, .unset, .unset, .unset, .unset, .unset, .unset] [(.int i0), (.int (1 : Int32))])) _
  refine XS.iconst X0.here hx rfl (hb hby at_2) ?_
  show Steps p.tables e below (T0.setTop (mkF m 3 #[.val (.int i0), .val (.int i1), .val (.int i2), .val (.int i3), .val (.int i4), .unset, .unset, .unset, .unset, .unset, .unset, .unset] [(.int (3 : Int32)), (.int i0), (.int (1 : Int32))])) _
  refine XS.iand X0.here hx rfl (hb hby at_3) rfl ?_
  show Steps p.tables e below (T0.setTop (mkF m 4 #[.val (.int i0), .val (.int i1), .val (.int i2), .val (.int i3), .val (.int i4), .unset, .unset, .unset, .unset, .unset, .unset, .unset] [(.int (i0 &&& (3 : Int32))), (.int (1 : Int32))])) _
  refine XS.iadd X0.here hx rfl (hb hby at_4) rfl ?_
  show Steps p.tables e below (T0.setTop (mkF m 5 #[.val (.int i0), .val (.int i1), .val (.int i2), .val (.int i3), .val (.int i4), .unset, .unset, .unset, .unset, .unset, .unset, .unset] [(.int ((1 : Int32) + (i0 &&& (3 : Int32))))])) _
  refine XS.istore X0.here hx rfl (hb hby at_5) rfl (l' := #[.val (.int i0), .val (.int i1), .val (.int i2), .val (.int i3), .val (.int i4), .val (.int ((1 : Int32) + (i0 &&& (3 : Int32)))), .unset, .unset, .unset, .unset, .unset, .unset]) rfl ?_
  show Steps p.tables e below (T0.setTop (mkF m 7 #[.val (.int i0), .val (.int i1), .val (.int i2), .val (.int i3), .val (.int i4), .val (.int ((1 : Int32) + (i0 &&& (3 : Int32)))), .unset, .unset, .unset, .unset, .unset, .unset] [])) _
  refine XS.iload X0.here hx rfl (hb hby at_7) rfl ?_
  show Steps p.tables e below (T0.setTop (mkF m 9 #[.val (.int i0), .val (.int i1), .val (.int i2), .val (.int i3), .val (.int i4), .val (.int ((1 : Int32) + (i0 &&& (3 : Int32)))), .unset, .unset, .unset, .unset, .unset, .unset] [(.int i4)])) _
  refine X0.ldcInt hx hown (mvT hZ (hw _ (List.mem_of_getElem? (i := 0) rfl))) (g := (mkF m 9 #[.val (.int i0), .val (.int i1), .val (.int i2), .val (.int i3), .val (.int i4), .val (.int ((1 : Int32) + (i0 &&& (3 : Int32)))), .unset, .unset, .unset, .unset, .unset, .unset] [(.int i4)])) rfl (hb hby at_9) _ ?_
  show Steps p.tables e below (T0.setTop (mkF m 11 #[.val (.int i0), .val (.int i1), .val (.int i2), .val (.int i3), .val (.int i4), .val (.int ((1 : Int32) + (i0 &&& (3 : Int32)))), .unset, .unset, .unset, .unset, .unset, .unset] [(.int (2147483647 : Int32)), (.int i4)])) _
  refine XS.iand X0.here hx rfl (hb hby at_11) rfl ?_
  show Steps p.tables e below (T0.setTop (mkF m 12 #[.val (.int i0), .val (.int i1), .val (.int i2), .val (.int i3), .val (.int i4), .val (.int ((1 : Int32) + (i0 &&& (3 : Int32)))), .unset, .unset, .unset, .unset, .unset, .unset] [(.int (i4 &&& (2147483647 : Int32)))])) _
  refine XS.sipush X0.here hx rfl (hb hby at_12) ?_
  show Steps p.tables e below (T0.setTop (mkF m 15 #[.val (.int i0), .val (.int i1), .val (.int i2), .val (.int i3), .val (.int i4), .val (.int ((1 : Int32) + (i0 &&& (3 : Int32)))), .unset, .unset, .unset, .unset, .unset, .unset] [(.int (255 : Int32)), (.int (i4 &&& (2147483647 : Int32)))])) _
  refine XS.irem X0.here hx rfl (hb hby at_15) rfl (by decide) ?_
  rw [irem_eq_mod]
  show Steps p.tables e below (T0.setTop (mkF m 16 #[.val (.int i0), .val (.int i1), .val (.int i2), .val (.int i3), .val (.int i4), .val (.int ((1 : Int32) + (i0 &&& (3 : Int32)))), .unset, .unset, .unset, .unset, .unset, .unset] [(.int ((i4 &&& (2147483647 : Int32)) % (255 : Int32)))])) _
  refine XS.istore X0.here hx rfl (hb hby at_16) rfl (l' := #[.val (.int i0), .val (.int i1), .val (.int i2), .val (.int i3), .val (.int i4), .val (.int ((1 : Int32) + (i0 &&& (3 : Int32)))), .val (.int ((i4 &&& (2147483647 : Int32)) % (255 : Int32))), .unset, .unset, .unset, .unset, .unset]) rfl ?_
  rw [hn, hl]
  show Steps p.tables e below (T0.setTop (mkF m 18 #[.val (.int i0), .val (.int i1), .val (.int i2), .val (.int i3), .val (.int i4), .val (.int (2 : Int32)), .val (.int la), .unset, .unset, .unset, .unset, .unset] [])) _
  refine XS.iload X0.here hx rfl (hb hby at_18) rfl ?_
  show Steps p.tables e below (T0.setTop (mkF m 20 #[.val (.int i0), .val (.int i1), .val (.int i2), .val (.int i3), .val (.int i4), .val (.int (2 : Int32)), .val (.int la), .unset, .unset, .unset, .unset, .unset] [(.int (2 : Int32))])) _
  refine st1 _ ?_
  show Steps p.tables e below (T1.setTop (mkF m 22 #[.val (.int i0), .val (.int i1), .val (.int i2), .val (.int i3), .val (.int i4), .val (.int (2 : Int32)), .val (.int la), .unset, .unset, .unset, .unset, .unset] [(.ref b)])) _
  refine XS.astore X1.here hx rfl (hb hby at_22) rfl rfl (l' := #[.val (.int i0), .val (.int i1), .val (.int i2), .val (.int i3), .val (.int i4), .val (.int (2 : Int32)), .val (.int la), .val (.ref b), .unset, .unset, .unset, .unset]) rfl ?_
  show Steps p.tables e below (T1.setTop (mkF m 24 #[.val (.int i0), .val (.int i1), .val (.int i2), .val (.int i3), .val (.int i4), .val (.int (2 : Int32)), .val (.int la), .val (.ref b), .unset, .unset, .unset, .unset] [])) _
  refine XS.iload X1.here hx rfl (hb hby at_24) rfl ?_
  show Steps p.tables e below (T1.setTop (mkF m 26 #[.val (.int i0), .val (.int i1), .val (.int i2), .val (.int i3), .val (.int i4), .val (.int (2 : Int32)), .val (.int la), .val (.ref b), .unset, .unset, .unset, .unset] [(.int (2 : Int32))])) _
  refine XS.iconst X1.here hx rfl (hb hby at_26) ?_
  show Steps p.tables e below (T1.setTop (mkF m 27 #[.val (.int i0), .val (.int i1), .val (.int i2), .val (.int i3), .val (.int i4), .val (.int (2 : Int32)), .val (.int la), .val (.ref b), .unset, .unset, .unset, .unset] [(.int (1 : Int32)), (.int (2 : Int32))])) _
  refine XS.icmpNo X1.here hx rfl (hb hby at_27) rfl (tlt (by decide)).2.2.2 ?_
  show Steps p.tables e below (T1.setTop (mkF m 30 #[.val (.int i0), .val (.int i1), .val (.int i2), .val (.int i3), .val (.int i4), .val (.int (2 : Int32)), .val (.int la), .val (.ref b), .unset, .unset, .unset, .unset] [])) _
  refine XS.aload X1.here hx rfl (hb hby at_30) rfl rfl ?_
  show Steps p.tables e below (T1.setTop (mkF m 32 #[.val (.int i0), .val (.int i1), .val (.int i2), .val (.int i3), .val (.int i4), .val (.int (2 : Int32)), .val (.int la), .val (.ref b), .unset, .unset, .unset, .unset] [(.ref b)])) _
  refine XS.iconst X1.here hx rfl (hb hby at_32) ?_
  show Steps p.tables e below (T1.setTop (mkF m 33 #[.val (.int i0), .val (.int i1), .val (.int i2), .val (.int i3), .val (.int i4), .val (.int (2 : Int32)), .val (.int la), .val (.ref b), .unset, .unset, .unset, .unset] [(.int (0 : Int32)), (.ref b)])) _
  refine XS.iloadN X1.here hx rfl (hb hby at_33) rfl ?_
  show Steps p.tables e below (T1.setTop (mkF m 34 #[.val (.int i0), .val (.int i1), .val (.int i2), .val (.int i3), .val (.int i4), .val (.int (2 : Int32)), .val (.int la), .val (.ref b), .unset, .unset, .unset, .unset] [(.int i1), (.int (0 : Int32)), (.ref b)])) _
  refine XS.i2b X1.here hx rfl (hb hby at_34) rfl ?_
  show Steps p.tables e below (T1.setTop (mkF m 35 #[.val (.int i0), .val (.int i1), .val (.int i2), .val (.int i3), .val (.int i4), .val (.int (2 : Int32)), .val (.int la), .val (.ref b), .unset, .unset, .unset, .unset] [(.int (i1.toInt8.toInt32)), (.int (0 : Int32)), (.ref b)])) _
  refine st2 _ ?_
  show Steps p.tables e below (T2.setTop (mkF m 36 #[.val (.int i0), .val (.int i1), .val (.int i2), .val (.int i3), .val (.int i4), .val (.int (2 : Int32)), .val (.int la), .val (.ref b), .unset, .unset, .unset, .unset] [])) _
  refine XS.iload X2.here hx rfl (hb hby at_36) rfl ?_
  show Steps p.tables e below (T2.setTop (mkF m 38 #[.val (.int i0), .val (.int i1), .val (.int i2), .val (.int i3), .val (.int i4), .val (.int (2 : Int32)), .val (.int la), .val (.ref b), .unset, .unset, .unset, .unset] [(.int (2 : Int32))])) _
  refine XS.iconst X2.here hx rfl (hb hby at_38) ?_
  show Steps p.tables e below (T2.setTop (mkF m 39 #[.val (.int i0), .val (.int i1), .val (.int i2), .val (.int i3), .val (.int i4), .val (.int (2 : Int32)), .val (.int la), .val (.ref b), .unset, .unset, .unset, .unset] [(.int (2 : Int32)), (.int (2 : Int32))])) _
  refine XS.icmpYes X2.here hx rfl (pc0 := 39) (pc' := 48) rfl (hb hby at_39) rfl (flt (by decide)).2.2.2 (by decide) (by decide) ?_
  show Steps p.tables e below (T2.setTop (mkF m 48 #[.val (.int i0), .val (.int i1), .val (.int i2), .val (.int i3), .val (.int i4), .val (.int (2 : Int32)), .val (.int la), .val (.ref b), .unset, .unset, .unset, .unset] [])) _
  refine XS.iload X2.here hx rfl (hb hby at_48) rfl ?_
  show Steps p.tables e below (T2.setTop (mkF m 50 #[.val (.int i0), .val (.int i1), .val (.int i2), .val (.int i3), .val (.int i4), .val (.int (2 : Int32)), .val (.int la), .val (.ref b), .unset, .unset, .unset, .unset] [(.int (2 : Int32))])) _
  refine XS.iconst X2.here hx rfl (hb hby at_50) ?_
  show Steps p.tables e below (T2.setTop (mkF m 51 #[.val (.int i0), .val (.int i1), .val (.int i2), .val (.int i3), .val (.int i4), .val (.int (2 : Int32)), .val (.int la), .val (.ref b), .unset, .unset, .unset, .unset] [(.int (3 : Int32)), (.int (2 : Int32))])) _
  refine XS.icmpYes X2.here hx rfl (pc0 := 51) (pc' := 60) rfl (hb hby at_51) rfl (flt (by decide)).2.2.2 (by decide) (by decide) ?_
  show Steps p.tables e below (T2.setTop (mkF m 60 #[.val (.int i0), .val (.int i1), .val (.int i2), .val (.int i3), .val (.int i4), .val (.int (2 : Int32)), .val (.int la), .val (.ref b), .unset, .unset, .unset, .unset] [])) _
  refine XS.aload X2.here hx rfl (hb hby at_60) rfl rfl ?_
  show Steps p.tables e below (T2.setTop (mkF m 62 #[.val (.int i0), .val (.int i1), .val (.int i2), .val (.int i3), .val (.int i4), .val (.int (2 : Int32)), .val (.int la), .val (.ref b), .unset, .unset, .unset, .unset] [(.ref b)])) _
  refine XS.iload X2.here hx rfl (hb hby at_62) rfl ?_
  show Steps p.tables e below (T2.setTop (mkF m 64 #[.val (.int i0), .val (.int i1), .val (.int i2), .val (.int i3), .val (.int i4), .val (.int (2 : Int32)), .val (.int la), .val (.ref b), .unset, .unset, .unset, .unset] [(.int (2 : Int32)), (.ref b)])) _
  refine XS.iconst X2.here hx rfl (hb hby at_64) ?_
  show Steps p.tables e below (T2.setTop (mkF m 65 #[.val (.int i0), .val (.int i1), .val (.int i2), .val (.int i3), .val (.int i4), .val (.int (2 : Int32)), .val (.int la), .val (.ref b), .unset, .unset, .unset, .unset] [(.int (1 : Int32)), (.int (2 : Int32)), (.ref b)])) _
  refine XS.isub X2.here hx rfl (hb hby at_65) rfl ?_
  show Steps p.tables e below (T2.setTop (mkF m 66 #[.val (.int i0), .val (.int i1), .val (.int i2), .val (.int i3), .val (.int i4), .val (.int (2 : Int32)), .val (.int la), .val (.ref b), .unset, .unset, .unset, .unset] [(.int ((2 : Int32) - (1 : Int32))), (.ref b)])) _
  refine XS.iload X2.here hx rfl (hb hby at_66) rfl ?_
  show Steps p.tables e below (T2.setTop (mkF m 68 #[.val (.int i0), .val (.int i1), .val (.int i2), .val (.int i3), .val (.int i4), .val (.int (2 : Int32)), .val (.int la), .val (.ref b), .unset, .unset, .unset, .unset] [(.int la), (.int ((2 : Int32) - (1 : Int32))), (.ref b)])) _
  refine XS.i2b X2.here hx rfl (hb hby at_68) rfl ?_
  show Steps p.tables e below (T2.setTop (mkF m 69 #[.val (.int i0), .val (.int i1), .val (.int i2), .val (.int i3), .val (.int i4), .val (.int (2 : Int32)), .val (.int la), .val (.ref b), .unset, .unset, .unset, .unset] [(.int (la.toInt8.toInt32)), (.int ((2 : Int32) - (1 : Int32))), (.ref b)])) _
  refine st3 _ ?_
  exact kt
set_option maxRecDepth 65536 in
set_option maxHeartbeats 40000000 in
theorem tnA3 {p : Program} {l : Launch} {e : Env} {s : State} {m : MethodId} {args : Array Value} {below : List Frame} {meth : Method} {c : Code} {T0 : State} {Z : State} {a0 : Array Value} {n0 : Nat} (i0 i1 i2 i3 i4 la : Int32) (X0 : Stand p l e room_1 s m args below meth c T0 [] 0 0) (hx : p.tables.exec = Jvm.exec) (hZ : Z.Warmed39 s.vm) (hw : ∀ d ∈ tables_1, d.before a0 Z = true) (hby : c.code = code) (hml : c.maxLocals = 12) (hown : s.vm.findClass "com/example/shoalwater/shoalwater/store/KeysPastPrefixPinLaw" = some m.cls) (Z0 : n0 ≤ T0.heap.size) (hn : ((1 : Int32) + (i0 &&& (3 : Int32))) = (3 : Int32)) (hl : ((i4 &&& (2147483647 : Int32)) % (255 : Int32)) = la) :
    ∃ (T' : State) (locs' : List Loc) (b : Addr), Stand p l e room_1 s m args below meth c T' locs' 1 4 ∧ Fr n0 locs' ∧ n0 ≤ T'.heap.size ∧ By Z T'.heap b 3 (own_upd (own_upd (own_upd (fun _ => (0 : Int32)) ((0 : Int32)).toNatClampNeg ((i1.toInt8.toInt32)).toInt8.toInt32) ((1 : Int32)).toNatClampNeg ((i2.toInt8.toInt32)).toInt8.toInt32) (((3 : Int32) - (1 : Int32))).toNatClampNeg ((la.toInt8.toInt32)).toInt8.toInt32) ∧ Exa Z T'.heap b "[B" ∧ ∀ target, Steps p.tables e below (T'.setTop (mkF m 70 #[.val (.int i0), .val (.int i1), .val (.int i2), .val (.int i3), .val (.int i4), .val (.int (3 : Int32)), .val (.int la), .val (.ref b), .unset, .unset, .unset, .unset] [])) target → Steps p.tables e below (T0.setTop (mkF m 0 #[.val (.int i0), .val (.int i1), .val (.int i2), .val (.int i3), .val (.int i4), .unset, .unset, .unset, .unset, .unset, .unset, .unset] [])) target := by
  obtain ⟨T1, h1, k1, X1, e1, Ex1, A1, E1, st1⟩ := newPE X0 hx hZ (hw _ (List.mem_of_getElem? (i := 1) rfl)) rfl (g := (mkF m 20 #[.val (.int i0), .val (.int i1), .val (.int i2), .val (.int i3), .val (.int i4), .val (.int (3 : Int32)), .val (.int la), .unset, .unset, .unset, .unset, .unset] [(.int (3 : Int32))])) rfl (hb hby at_20) rfl (by decide) (cap := 4) (by decide) (by decide) (by decide) (by decide) (ad := "[B") rfl
  subst e1
  obtain ⟨b, gb⟩ : ∃ z, z = T0.heap.size := ⟨_, rfl⟩
  rw [← gb] at A1 E1 st1
  have B1 : By Z T1.heap b 3 (fun _ => (0 : Int32)) := By.new A1
  have g_b : n0 ≤ b := Nat.le_trans Z0 (Nat.le_of_eq gb.symm)
  have N1 : Fr n0 [] := Fr.nil n0
  obtain ⟨T2, X2, B2, ⟨_, W2⟩, st2⟩ := stBy X1 hx hZ B1 (j := (0 : Int32)) (by decide) (by decide) (g := (mkF m 35 #[.val (.int i0), .val (.int i1), .val (.int i2), .val (.int i3), .val (.int i4), .val (.int (3 : Int32)), .val (.int la), .val (.ref b), .unset, .unset, .unset, .unset] [(.int (i1.toInt8.toInt32)), (.int (0 : Int32)), (.ref b)])) rfl rfl (hb hby at_35)
  have N2 := Fr.snoc X2 N1 g_b
  have E2 := E1.wr W2
  obtain ⟨T3, X3, B3, ⟨_, W3⟩, st3⟩ := stBy X2 hx hZ B2 (j := (1 : Int32)) (by decide) (by decide) (g := (mkF m 47 #[.val (.int i0), .val (.int i1), .val (.int i2), .val (.int i3), .val (.int i4), .val (.int (3 : Int32)), .val (.int la), .val (.ref b), .unset, .unset, .unset, .unset] [(.int (i2.toInt8.toInt32)), (.int (1 : Int32)), (.ref b)])) rfl rfl (hb hby at_47)
  have N3 := Fr.snoc X3 N2 g_b
  have E3 := E2.wr W3
  obtain ⟨T4, X4, B4, ⟨_, W4⟩, st4⟩ := stBy X3 hx hZ B3 (j := ((3 : Int32) - (1 : Int32))) (by decide) (by decide) (g := (mkF m 69 #[.val (.int i0), .val (.int i1), .val (.int i2), .val (.int i3), .val (.int i4), .val (.int (3 : Int32)), .val (.int la), .val (.ref b), .unset, .unset, .unset, .unset] [(.int (la.toInt8.toInt32)), (.int ((3 : Int32) - (1 : Int32))), (.ref b)])) rfl rfl (hb hby at_69)
  have N4 := Fr.snoc X4 N3 g_b
  have E4 := E3.wr W4
  refine ⟨T4, _, b, X4, N4, Nat.le_trans g_b (Nat.le_of_lt B4.lt), B4, E4, fun target kt => ?_⟩
  show Steps p.tables e below (T0.setTop (mkF m 0 #[.val (.int i0), .val (.int i1), .val (.int i2), .val (.int i3), .val (.int i4), .unset, .unset, .unset, .unset, .unset, .unset, .unset] [])) _
  refine XS.iconst X0.here hx rfl (hb hby at_0) ?_
  show Steps p.tables e below (T0.setTop (mkF m 1 #[.val (.int i0), .val (.int i1), .val (.int i2), .val (.int i3), .val (.int i4), .unset, .unset, .unset, .unset, .unset, .unset, .unset] [(.int (1 : Int32))])) _
  refine XS.iloadN X0.here hx rfl (hb hby at_1) rfl ?_
  show Steps p.tables e below (T0.setTop (mkF m 2 #[.val (.int i0), .val (.int i1), .val (.int i2), .val (.int i3), .val (.int i4), .unset, .unset, .unset, .unset, .unset, .unset, .unset] [(.int i0), (.int (1 : Int32))])) _
  refine XS.iconst X0.here hx rfl (hb hby at_2) ?_
  show Steps p.tables e below (T0.setTop (mkF m 3 #[.val (.int i0), .val (.int i1), .val (.int i2), .val (.int i3), .val (.int i4), .unset, .unset, .unset, .unset, .unset, .unset, .unset] [(.int (3 : Int32)), (.int i0), (.int (1 : Int32))])) _
  refine XS.iand X0.here hx rfl (hb hby at_3) rfl ?_
  show Steps p.tables e below (T0.setTop (mkF m 4 #[.val (.int i0), .val (.int i1), .val (.int i2), .val (.int i3), .val (.int i4), .unset, .unset, .unset, .unset, .unset, .unset, .unset] [(.int (i0 &&& (3 : Int32))), (.int (1 : Int32))])) _
  refine XS.iadd X0.here hx rfl (hb hby at_4) rfl ?_
  show Steps p.tables e below (T0.setTop (mkF m 5 #[.val (.int i0), .val (.int i1), .val (.int i2), .val (.int i3), .val (.int i4), .unset, .unset, .unset, .unset, .unset, .unset, .unset] [(.int ((1 : Int32) + (i0 &&& (3 : Int32))))])) _
  refine XS.istore X0.here hx rfl (hb hby at_5) rfl (l' := #[.val (.int i0), .val (.int i1), .val (.int i2), .val (.int i3), .val (.int i4), .val (.int ((1 : Int32) + (i0 &&& (3 : Int32)))), .unset, .unset, .unset, .unset, .unset, .unset]) rfl ?_
  show Steps p.tables e below (T0.setTop (mkF m 7 #[.val (.int i0), .val (.int i1), .val (.int i2), .val (.int i3), .val (.int i4), .val (.int ((1 : Int32) + (i0 &&& (3 : Int32)))), .unset, .unset, .unset, .unset, .unset, .unset] [])) _
  refine XS.iload X0.here hx rfl (hb hby at_7) rfl ?_
  show Steps p.tables e below (T0.setTop (mkF m 9 #[.val (.int i0), .val (.int i1), .val (.int i2), .val (.int i3), .val (.int i4), .val (.int ((1 : Int32) + (i0 &&& (3 : Int32)))), .unset, .unset, .unset, .unset, .unset, .unset] [(.int i4)])) _
  refine X0.ldcInt hx hown (mvT hZ (hw _ (List.mem_of_getElem? (i := 0) rfl))) (g := (mkF m 9 #[.val (.int i0), .val (.int i1), .val (.int i2), .val (.int i3), .val (.int i4), .val (.int ((1 : Int32) + (i0 &&& (3 : Int32)))), .unset, .unset, .unset, .unset, .unset, .unset] [(.int i4)])) rfl (hb hby at_9) _ ?_
  show Steps p.tables e below (T0.setTop (mkF m 11 #[.val (.int i0), .val (.int i1), .val (.int i2), .val (.int i3), .val (.int i4), .val (.int ((1 : Int32) + (i0 &&& (3 : Int32)))), .unset, .unset, .unset, .unset, .unset, .unset] [(.int (2147483647 : Int32)), (.int i4)])) _
  refine XS.iand X0.here hx rfl (hb hby at_11) rfl ?_
  show Steps p.tables e below (T0.setTop (mkF m 12 #[.val (.int i0), .val (.int i1), .val (.int i2), .val (.int i3), .val (.int i4), .val (.int ((1 : Int32) + (i0 &&& (3 : Int32)))), .unset, .unset, .unset, .unset, .unset, .unset] [(.int (i4 &&& (2147483647 : Int32)))])) _
  refine XS.sipush X0.here hx rfl (hb hby at_12) ?_
  show Steps p.tables e below (T0.setTop (mkF m 15 #[.val (.int i0), .val (.int i1), .val (.int i2), .val (.int i3), .val (.int i4), .val (.int ((1 : Int32) + (i0 &&& (3 : Int32)))), .unset, .unset, .unset, .unset, .unset, .unset] [(.int (255 : Int32)), (.int (i4 &&& (2147483647 : Int32)))])) _
  refine XS.irem X0.here hx rfl (hb hby at_15) rfl (by decide) ?_
  rw [irem_eq_mod]
  show Steps p.tables e below (T0.setTop (mkF m 16 #[.val (.int i0), .val (.int i1), .val (.int i2), .val (.int i3), .val (.int i4), .val (.int ((1 : Int32) + (i0 &&& (3 : Int32)))), .unset, .unset, .unset, .unset, .unset, .unset] [(.int ((i4 &&& (2147483647 : Int32)) % (255 : Int32)))])) _
  refine XS.istore X0.here hx rfl (hb hby at_16) rfl (l' := #[.val (.int i0), .val (.int i1), .val (.int i2), .val (.int i3), .val (.int i4), .val (.int ((1 : Int32) + (i0 &&& (3 : Int32)))), .val (.int ((i4 &&& (2147483647 : Int32)) % (255 : Int32))), .unset, .unset, .unset, .unset, .unset]) rfl ?_
  rw [hn, hl]
  show Steps p.tables e below (T0.setTop (mkF m 18 #[.val (.int i0), .val (.int i1), .val (.int i2), .val (.int i3), .val (.int i4), .val (.int (3 : Int32)), .val (.int la), .unset, .unset, .unset, .unset, .unset] [])) _
  refine XS.iload X0.here hx rfl (hb hby at_18) rfl ?_
  show Steps p.tables e below (T0.setTop (mkF m 20 #[.val (.int i0), .val (.int i1), .val (.int i2), .val (.int i3), .val (.int i4), .val (.int (3 : Int32)), .val (.int la), .unset, .unset, .unset, .unset, .unset] [(.int (3 : Int32))])) _
  refine st1 _ ?_
  show Steps p.tables e below (T1.setTop (mkF m 22 #[.val (.int i0), .val (.int i1), .val (.int i2), .val (.int i3), .val (.int i4), .val (.int (3 : Int32)), .val (.int la), .unset, .unset, .unset, .unset, .unset] [(.ref b)])) _
  refine XS.astore X1.here hx rfl (hb hby at_22) rfl rfl (l' := #[.val (.int i0), .val (.int i1), .val (.int i2), .val (.int i3), .val (.int i4), .val (.int (3 : Int32)), .val (.int la), .val (.ref b), .unset, .unset, .unset, .unset]) rfl ?_
  show Steps p.tables e below (T1.setTop (mkF m 24 #[.val (.int i0), .val (.int i1), .val (.int i2), .val (.int i3), .val (.int i4), .val (.int (3 : Int32)), .val (.int la), .val (.ref b), .unset, .unset, .unset, .unset] [])) _
  refine XS.iload X1.here hx rfl (hb hby at_24) rfl ?_
  show Steps p.tables e below (T1.setTop (mkF m 26 #[.val (.int i0), .val (.int i1), .val (.int i2), .val (.int i3), .val (.int i4), .val (.int (3 : Int32)), .val (.int la), .val (.ref b), .unset, .unset, .unset, .unset] [(.int (3 : Int32))])) _
  refine XS.iconst X1.here hx rfl (hb hby at_26) ?_
  show Steps p.tables e below (T1.setTop (mkF m 27 #[.val (.int i0), .val (.int i1), .val (.int i2), .val (.int i3), .val (.int i4), .val (.int (3 : Int32)), .val (.int la), .val (.ref b), .unset, .unset, .unset, .unset] [(.int (1 : Int32)), (.int (3 : Int32))])) _
  refine XS.icmpNo X1.here hx rfl (hb hby at_27) rfl (tlt (by decide)).2.2.2 ?_
  show Steps p.tables e below (T1.setTop (mkF m 30 #[.val (.int i0), .val (.int i1), .val (.int i2), .val (.int i3), .val (.int i4), .val (.int (3 : Int32)), .val (.int la), .val (.ref b), .unset, .unset, .unset, .unset] [])) _
  refine XS.aload X1.here hx rfl (hb hby at_30) rfl rfl ?_
  show Steps p.tables e below (T1.setTop (mkF m 32 #[.val (.int i0), .val (.int i1), .val (.int i2), .val (.int i3), .val (.int i4), .val (.int (3 : Int32)), .val (.int la), .val (.ref b), .unset, .unset, .unset, .unset] [(.ref b)])) _
  refine XS.iconst X1.here hx rfl (hb hby at_32) ?_
  show Steps p.tables e below (T1.setTop (mkF m 33 #[.val (.int i0), .val (.int i1), .val (.int i2), .val (.int i3), .val (.int i4), .val (.int (3 : Int32)), .val (.int la), .val (.ref b), .unset, .unset, .unset, .unset] [(.int (0 : Int32)), (.ref b)])) _
  refine XS.iloadN X1.here hx rfl (hb hby at_33) rfl ?_
  show Steps p.tables e below (T1.setTop (mkF m 34 #[.val (.int i0), .val (.int i1), .val (.int i2), .val (.int i3), .val (.int i4), .val (.int (3 : Int32)), .val (.int la), .val (.ref b), .unset, .unset, .unset, .unset] [(.int i1), (.int (0 : Int32)), (.ref b)])) _
  refine XS.i2b X1.here hx rfl (hb hby at_34) rfl ?_
  show Steps p.tables e below (T1.setTop (mkF m 35 #[.val (.int i0), .val (.int i1), .val (.int i2), .val (.int i3), .val (.int i4), .val (.int (3 : Int32)), .val (.int la), .val (.ref b), .unset, .unset, .unset, .unset] [(.int (i1.toInt8.toInt32)), (.int (0 : Int32)), (.ref b)])) _
  refine st2 _ ?_
  show Steps p.tables e below (T2.setTop (mkF m 36 #[.val (.int i0), .val (.int i1), .val (.int i2), .val (.int i3), .val (.int i4), .val (.int (3 : Int32)), .val (.int la), .val (.ref b), .unset, .unset, .unset, .unset] [])) _
  refine XS.iload X2.here hx rfl (hb hby at_36) rfl ?_
  show Steps p.tables e below (T2.setTop (mkF m 38 #[.val (.int i0), .val (.int i1), .val (.int i2), .val (.int i3), .val (.int i4), .val (.int (3 : Int32)), .val (.int la), .val (.ref b), .unset, .unset, .unset, .unset] [(.int (3 : Int32))])) _
  refine XS.iconst X2.here hx rfl (hb hby at_38) ?_
  show Steps p.tables e below (T2.setTop (mkF m 39 #[.val (.int i0), .val (.int i1), .val (.int i2), .val (.int i3), .val (.int i4), .val (.int (3 : Int32)), .val (.int la), .val (.ref b), .unset, .unset, .unset, .unset] [(.int (2 : Int32)), (.int (3 : Int32))])) _
  refine XS.icmpNo X2.here hx rfl (hb hby at_39) rfl (tlt (by decide)).2.2.2 ?_
  show Steps p.tables e below (T2.setTop (mkF m 42 #[.val (.int i0), .val (.int i1), .val (.int i2), .val (.int i3), .val (.int i4), .val (.int (3 : Int32)), .val (.int la), .val (.ref b), .unset, .unset, .unset, .unset] [])) _
  refine XS.aload X2.here hx rfl (hb hby at_42) rfl rfl ?_
  show Steps p.tables e below (T2.setTop (mkF m 44 #[.val (.int i0), .val (.int i1), .val (.int i2), .val (.int i3), .val (.int i4), .val (.int (3 : Int32)), .val (.int la), .val (.ref b), .unset, .unset, .unset, .unset] [(.ref b)])) _
  refine XS.iconst X2.here hx rfl (hb hby at_44) ?_
  show Steps p.tables e below (T2.setTop (mkF m 45 #[.val (.int i0), .val (.int i1), .val (.int i2), .val (.int i3), .val (.int i4), .val (.int (3 : Int32)), .val (.int la), .val (.ref b), .unset, .unset, .unset, .unset] [(.int (1 : Int32)), (.ref b)])) _
  refine XS.iloadN X2.here hx rfl (hb hby at_45) rfl ?_
  show Steps p.tables e below (T2.setTop (mkF m 46 #[.val (.int i0), .val (.int i1), .val (.int i2), .val (.int i3), .val (.int i4), .val (.int (3 : Int32)), .val (.int la), .val (.ref b), .unset, .unset, .unset, .unset] [(.int i2), (.int (1 : Int32)), (.ref b)])) _
  refine XS.i2b X2.here hx rfl (hb hby at_46) rfl ?_
  show Steps p.tables e below (T2.setTop (mkF m 47 #[.val (.int i0), .val (.int i1), .val (.int i2), .val (.int i3), .val (.int i4), .val (.int (3 : Int32)), .val (.int la), .val (.ref b), .unset, .unset, .unset, .unset] [(.int (i2.toInt8.toInt32)), (.int (1 : Int32)), (.ref b)])) _
  refine st3 _ ?_
  show Steps p.tables e below (T3.setTop (mkF m 48 #[.val (.int i0), .val (.int i1), .val (.int i2), .val (.int i3), .val (.int i4), .val (.int (3 : Int32)), .val (.int la), .val (.ref b), .unset, .unset, .unset, .unset] [])) _
  refine XS.iload X3.here hx rfl (hb hby at_48) rfl ?_
  show Steps p.tables e below (T3.setTop (mkF m 50 #[.val (.int i0), .val (.int i1), .val (.int i2), .val (.int i3), .val (.int i4), .val (.int (3 : Int32)), .val (.int la), .val (.ref b), .unset, .unset, .unset, .unset] [(.int (3 : Int32))])) _
  refine XS.iconst X3.here hx rfl (hb hby at_50) ?_
  show Steps p.tables e below (T3.setTop (mkF m 51 #[.val (.int i0), .val (.int i1), .val (.int i2), .val (.int i3), .val (.int i4), .val (.int (3 : Int32)), .val (.int la), .val (.ref b), .unset, .unset, .unset, .unset] [(.int (3 : Int32)), (.int (3 : Int32))])) _
  refine XS.icmpYes X3.here hx rfl (pc0 := 51) (pc' := 60) rfl (hb hby at_51) rfl (flt (by decide)).2.2.2 (by decide) (by decide) ?_
  show Steps p.tables e below (T3.setTop (mkF m 60 #[.val (.int i0), .val (.int i1), .val (.int i2), .val (.int i3), .val (.int i4), .val (.int (3 : Int32)), .val (.int la), .val (.ref b), .unset, .unset, .unset, .unset] [])) _
  refine XS.aload X3.here hx rfl (hb hby at_60) rfl rfl ?_
  show Steps p.tables e below (T3.setTop (mkF m 62 #[.val (.int i0), .val (.int i1), .val (.int i2), .val (.int i3), .val (.int i4), .val (.int (3 : Int32)), .val (.int la), .val (.ref b), .unset, .unset, .unset, .unset] [(.ref b)])) _
  refine XS.iload X3.here hx rfl (hb hby at_62) rfl ?_
  show Steps p.tables e below (T3.setTop (mkF m 64 #[.val (.int i0), .val (.int i1), .val (.int i2), .val (.int i3), .val (.int i4), .val (.int (3 : Int32)), .val (.int la), .val (.ref b), .unset, .unset, .unset, .unset] [(.int (3 : Int32)), (.ref b)])) _
  refine XS.iconst X3.here hx rfl (hb hby at_64) ?_
  show Steps p.tables e below (T3.setTop (mkF m 65 #[.val (.int i0), .val (.int i1), .val (.int i2), .val (.int i3), .val (.int i4), .val (.int (3 : Int32)), .val (.int la), .val (.ref b), .unset, .unset, .unset, .unset] [(.int (1 : Int32)), (.int (3 : Int32)), (.ref b)])) _
  refine XS.isub X3.here hx rfl (hb hby at_65) rfl ?_
  show Steps p.tables e below (T3.setTop (mkF m 66 #[.val (.int i0), .val (.int i1), .val (.int i2), .val (.int i3), .val (.int i4), .val (.int (3 : Int32)), .val (.int la), .val (.ref b), .unset, .unset, .unset, .unset] [(.int ((3 : Int32) - (1 : Int32))), (.ref b)])) _
  refine XS.iload X3.here hx rfl (hb hby at_66) rfl ?_
  show Steps p.tables e below (T3.setTop (mkF m 68 #[.val (.int i0), .val (.int i1), .val (.int i2), .val (.int i3), .val (.int i4), .val (.int (3 : Int32)), .val (.int la), .val (.ref b), .unset, .unset, .unset, .unset] [(.int la), (.int ((3 : Int32) - (1 : Int32))), (.ref b)])) _
  refine XS.i2b X3.here hx rfl (hb hby at_68) rfl ?_
  show Steps p.tables e below (T3.setTop (mkF m 69 #[.val (.int i0), .val (.int i1), .val (.int i2), .val (.int i3), .val (.int i4), .val (.int (3 : Int32)), .val (.int la), .val (.ref b), .unset, .unset, .unset, .unset] [(.int (la.toInt8.toInt32)), (.int ((3 : Int32) - (1 : Int32))), (.ref b)])) _
  refine st4 _ ?_
  exact kt
set_option maxRecDepth 65536 in
set_option maxHeartbeats 40000000 in
theorem tnA4 {p : Program} {l : Launch} {e : Env} {s : State} {m : MethodId} {args : Array Value} {below : List Frame} {meth : Method} {c : Code} {T0 : State} {Z : State} {a0 : Array Value} {n0 : Nat} (i0 i1 i2 i3 i4 la : Int32) (X0 : Stand p l e room_1 s m args below meth c T0 [] 0 0) (hx : p.tables.exec = Jvm.exec) (hZ : Z.Warmed39 s.vm) (hw : ∀ d ∈ tables_1, d.before a0 Z = true) (hby : c.code = code) (hml : c.maxLocals = 12) (hown : s.vm.findClass "com/example/shoalwater/shoalwater/store/KeysPastPrefixPinLaw" = some m.cls) (Z0 : n0 ≤ T0.heap.size) (hn : ((1 : Int32) + (i0 &&& (3 : Int32))) = (4 : Int32)) (hl : ((i4 &&& (2147483647 : Int32)) % (255 : Int32)) = la) :
    ∃ (T' : State) (locs' : List Loc) (b : Addr), Stand p l e room_1 s m args below meth c T' locs' 1 4 ∧ Fr n0 locs' ∧ n0 ≤ T'.heap.size ∧ By Z T'.heap b 4 (own_upd (own_upd (own_upd (own_upd (fun _ => (0 : Int32)) ((0 : Int32)).toNatClampNeg ((i1.toInt8.toInt32)).toInt8.toInt32) ((1 : Int32)).toNatClampNeg ((i2.toInt8.toInt32)).toInt8.toInt32) ((2 : Int32)).toNatClampNeg ((i3.toInt8.toInt32)).toInt8.toInt32) (((4 : Int32) - (1 : Int32))).toNatClampNeg ((la.toInt8.toInt32)).toInt8.toInt32) ∧ Exa Z T'.heap b "[B" ∧ ∀ target, Steps p.tables e below (T'.setTop (mkF m 70 #[.val (.int i0), .val (.int i1), .val (.int i2), .val (.int i3), .val (.int i4), .val (.int (4 : Int32)), .val (.int la), .val (.ref b), .unset, .unset, .unset, .unset] [])) target → Steps p.tables e below (T0.setTop (mkF m 0 #[.val (.int i0), .val (.int i1), .val (.int i2), .val (.int i3), .val (.int i4), .unset, .unset, .unset, .unset, .unset, .unset, .unset] [])) target := by
  obtain ⟨T1, h1, k1, X1, e1, Ex1, A1, E1, st1⟩ := newPE X0 hx hZ (hw _ (List.mem_of_getElem? (i := 1) rfl)) rfl (g := (mkF m 20 #[.val (.int i0), .val (.int i1), .val (.int i2), .val (.int i3), .val (.int i4), .val (.int (4 : Int32)), .val (.int la), .unset, .unset, .unset, .unset, .unset] [(.int (4 : Int32))])) rfl (hb hby at_20) rfl (by decide) (cap := 4) (by decide) (by decide) (by decide) (by decide) (ad := "[B") rfl
  subst e1
  obtain ⟨b, gb⟩ : ∃ z, z = T0.heap.size := ⟨_, rfl⟩
  rw [← gb] at A1 E1 st1
  have B1 : By Z T1.heap b 4 (fun _ => (0 : Int32)) := By.new A1
  have g_b : n0 ≤ b := Nat.le_trans Z0 (Nat.le_of_eq gb.symm)
  have N1 : Fr n0 [] := Fr.nil n0
  obtain ⟨T2, X2, B2, ⟨_, W2⟩, st2⟩ := stBy X1 hx hZ B1 (j := (0 : Int32)) (by decide) (by decide) (g := (mkF m 35 #[.val (.int i0), .val (.int i1), .val (.int i2), .val (.int i3), .val (.int i4), .val (.int (4 : Int32)), .val (.int la), .val (.ref b), .unset, .unset, .unset, .unset] [(.int (i1.toInt8.toInt32)), (.int (0 : Int32)), (.ref b)])) rfl rfl (hb hby at_35)
  have N2 := Fr.snoc X2 N1 g_b
  have E2 := E1.wr W2
  obtain ⟨T3, X3, B3, ⟨_, W3⟩, st3⟩ := stBy X2 hx hZ B2 (j := (1 : Int32)) (by decide) (by decide) (g := (mkF m 47 #[.val (.int i0), .val (.int i1), .val (.int i2), .val (.int i3), .val (.int i4), .val (.int (4 : Int32)), .val (.int la), .val (.ref b), .unset, .unset, .unset, .unset] [(.int (i2.toInt8.toInt32)), (.int (1 : Int32)), (.ref b)])) rfl rfl (hb hby at_47)
  have N3 := Fr.snoc X3 N2 g_b
  have E3 := E2.wr W3
  obtain ⟨T4, X4, B4, ⟨_, W4⟩, st4⟩ := stBy X3 hx hZ B3 (j := (2 : Int32)) (by decide) (by decide) (g := (mkF m 59 #[.val (.int i0), .val (.int i1), .val (.int i2), .val (.int i3), .val (.int i4), .val (.int (4 : Int32)), .val (.int la), .val (.ref b), .unset, .unset, .unset, .unset] [(.int (i3.toInt8.toInt32)), (.int (2 : Int32)), (.ref b)])) rfl rfl (hb hby at_59)
  have N4 := Fr.snoc X4 N3 g_b
  have E4 := E3.wr W4
  obtain ⟨T5, X5, B5, ⟨_, W5⟩, st5⟩ := stBy X4 hx hZ B4 (j := ((4 : Int32) - (1 : Int32))) (by decide) (by decide) (g := (mkF m 69 #[.val (.int i0), .val (.int i1), .val (.int i2), .val (.int i3), .val (.int i4), .val (.int (4 : Int32)), .val (.int la), .val (.ref b), .unset, .unset, .unset, .unset] [(.int (la.toInt8.toInt32)), (.int ((4 : Int32) - (1 : Int32))), (.ref b)])) rfl rfl (hb hby at_69)
  have N5 := Fr.snoc X5 N4 g_b
  have E5 := E4.wr W5
  refine ⟨T5, _, b, X5, N5, Nat.le_trans g_b (Nat.le_of_lt B5.lt), B5, E5, fun target kt => ?_⟩
  show Steps p.tables e below (T0.setTop (mkF m 0 #[.val (.int i0), .val (.int i1), .val (.int i2), .val (.int i3), .val (.int i4), .unset, .unset, .unset, .unset, .unset, .unset, .unset] [])) _
  refine XS.iconst X0.here hx rfl (hb hby at_0) ?_
  show Steps p.tables e below (T0.setTop (mkF m 1 #[.val (.int i0), .val (.int i1), .val (.int i2), .val (.int i3), .val (.int i4), .unset, .unset, .unset, .unset, .unset, .unset, .unset] [(.int (1 : Int32))])) _
  refine XS.iloadN X0.here hx rfl (hb hby at_1) rfl ?_
  show Steps p.tables e below (T0.setTop (mkF m 2 #[.val (.int i0), .val (.int i1), .val (.int i2), .val (.int i3), .val (.int i4), .unset, .unset, .unset, .unset, .unset, .unset, .unset] [(.int i0), (.int (1 : Int32))])) _
  refine XS.iconst X0.here hx rfl (hb hby at_2) ?_
  show Steps p.tables e below (T0.setTop (mkF m 3 #[.val (.int i0), .val (.int i1), .val (.int i2), .val (.int i3), .val (.int i4), .unset, .unset, .unset, .unset, .unset, .unset, .unset] [(.int (3 : Int32)), (.int i0), (.int (1 : Int32))])) _
  refine XS.iand X0.here hx rfl (hb hby at_3) rfl ?_
  show Steps p.tables e below (T0.setTop (mkF m 4 #[.val (.int i0), .val (.int i1), .val (.int i2), .val (.int i3), .val (.int i4), .unset, .unset, .unset, .unset, .unset, .unset, .unset] [(.int (i0 &&& (3 : Int32))), (.int (1 : Int32))])) _
  refine XS.iadd X0.here hx rfl (hb hby at_4) rfl ?_
  show Steps p.tables e below (T0.setTop (mkF m 5 #[.val (.int i0), .val (.int i1), .val (.int i2), .val (.int i3), .val (.int i4), .unset, .unset, .unset, .unset, .unset, .unset, .unset] [(.int ((1 : Int32) + (i0 &&& (3 : Int32))))])) _
  refine XS.istore X0.here hx rfl (hb hby at_5) rfl (l' := #[.val (.int i0), .val (.int i1), .val (.int i2), .val (.int i3), .val (.int i4), .val (.int ((1 : Int32) + (i0 &&& (3 : Int32)))), .unset, .unset, .unset, .unset, .unset, .unset]) rfl ?_
  show Steps p.tables e below (T0.setTop (mkF m 7 #[.val (.int i0), .val (.int i1), .val (.int i2), .val (.int i3), .val (.int i4), .val (.int ((1 : Int32) + (i0 &&& (3 : Int32)))), .unset, .unset, .unset, .unset, .unset, .unset] [])) _
  refine XS.iload X0.here hx rfl (hb hby at_7) rfl ?_
  show Steps p.tables e below (T0.setTop (mkF m 9 #[.val (.int i0), .val (.int i1), .val (.int i2), .val (.int i3), .val (.int i4), .val (.int ((1 : Int32) + (i0 &&& (3 : Int32)))), .unset, .unset, .unset, .unset, .unset, .unset] [(.int i4)])) _
  refine X0.ldcInt hx hown (mvT hZ (hw _ (List.mem_of_getElem? (i := 0) rfl))) (g := (mkF m 9 #[.val (.int i0), .val (.int i1), .val (.int i2), .val (.int i3), .val (.int i4), .val (.int ((1 : Int32) + (i0 &&& (3 : Int32)))), .unset, .unset, .unset, .unset, .unset, .unset] [(.int i4)])) rfl (hb hby at_9) _ ?_
  show Steps p.tables e below (T0.setTop (mkF m 11 #[.val (.int i0), .val (.int i1), .val (.int i2), .val (.int i3), .val (.int i4), .val (.int ((1 : Int32) + (i0 &&& (3 : Int32)))), .unset, .unset, .unset, .unset, .unset, .unset] [(.int (2147483647 : Int32)), (.int i4)])) _
  refine XS.iand X0.here hx rfl (hb hby at_11) rfl ?_
  show Steps p.tables e below (T0.setTop (mkF m 12 #[.val (.int i0), .val (.int i1), .val (.int i2), .val (.int i3), .val (.int i4), .val (.int ((1 : Int32) + (i0 &&& (3 : Int32)))), .unset, .unset, .unset, .unset, .unset, .unset] [(.int (i4 &&& (2147483647 : Int32)))])) _
  refine XS.sipush X0.here hx rfl (hb hby at_12) ?_
  show Steps p.tables e below (T0.setTop (mkF m 15 #[.val (.int i0), .val (.int i1), .val (.int i2), .val (.int i3), .val (.int i4), .val (.int ((1 : Int32) + (i0 &&& (3 : Int32)))), .unset, .unset, .unset, .unset, .unset, .unset] [(.int (255 : Int32)), (.int (i4 &&& (2147483647 : Int32)))])) _
  refine XS.irem X0.here hx rfl (hb hby at_15) rfl (by decide) ?_
  rw [irem_eq_mod]
  show Steps p.tables e below (T0.setTop (mkF m 16 #[.val (.int i0), .val (.int i1), .val (.int i2), .val (.int i3), .val (.int i4), .val (.int ((1 : Int32) + (i0 &&& (3 : Int32)))), .unset, .unset, .unset, .unset, .unset, .unset] [(.int ((i4 &&& (2147483647 : Int32)) % (255 : Int32)))])) _
  refine XS.istore X0.here hx rfl (hb hby at_16) rfl (l' := #[.val (.int i0), .val (.int i1), .val (.int i2), .val (.int i3), .val (.int i4), .val (.int ((1 : Int32) + (i0 &&& (3 : Int32)))), .val (.int ((i4 &&& (2147483647 : Int32)) % (255 : Int32))), .unset, .unset, .unset, .unset, .unset]) rfl ?_
  rw [hn, hl]
  show Steps p.tables e below (T0.setTop (mkF m 18 #[.val (.int i0), .val (.int i1), .val (.int i2), .val (.int i3), .val (.int i4), .val (.int (4 : Int32)), .val (.int la), .unset, .unset, .unset, .unset, .unset] [])) _
  refine XS.iload X0.here hx rfl (hb hby at_18) rfl ?_
  show Steps p.tables e below (T0.setTop (mkF m 20 #[.val (.int i0), .val (.int i1), .val (.int i2), .val (.int i3), .val (.int i4), .val (.int (4 : Int32)), .val (.int la), .unset, .unset, .unset, .unset, .unset] [(.int (4 : Int32))])) _
  refine st1 _ ?_
  show Steps p.tables e below (T1.setTop (mkF m 22 #[.val (.int i0), .val (.int i1), .val (.int i2), .val (.int i3), .val (.int i4), .val (.int (4 : Int32)), .val (.int la), .unset, .unset, .unset, .unset, .unset] [(.ref b)])) _
  refine XS.astore X1.here hx rfl (hb hby at_22) rfl rfl (l' := #[.val (.int i0), .val (.int i1), .val (.int i2), .val (.int i3), .val (.int i4), .val (.int (4 : Int32)), .val (.int la), .val (.ref b), .unset, .unset, .unset, .unset]) rfl ?_
  show Steps p.tables e below (T1.setTop (mkF m 24 #[.val (.int i0), .val (.int i1), .val (.int i2), .val (.int i3), .val (.int i4), .val (.int (4 : Int32)), .val (.int la), .val (.ref b), .unset, .unset, .unset, .unset] [])) _
  refine XS.iload X1.here hx rfl (hb hby at_24) rfl ?_
  show Steps p.tables e below (T1.setTop (mkF m 26 #[.val (.int i0), .val (.int i1), .val (.int i2), .val (.int i3), .val (.int i4), .val (.int (4 : Int32)), .val (.int la), .val (.ref b), .unset, .unset, .unset, .unset] [(.int (4 : Int32))])) _
  refine XS.iconst X1.here hx rfl (hb hby at_26) ?_
  show Steps p.tables e below (T1.setTop (mkF m 27 #[.val (.int i0), .val (.int i1), .val (.int i2), .val (.int i3), .val (.int i4), .val (.int (4 : Int32)), .val (.int la), .val (.ref b), .unset, .unset, .unset, .unset] [(.int (1 : Int32)), (.int (4 : Int32))])) _
  refine XS.icmpNo X1.here hx rfl (hb hby at_27) rfl (tlt (by decide)).2.2.2 ?_
  show Steps p.tables e below (T1.setTop (mkF m 30 #[.val (.int i0), .val (.int i1), .val (.int i2), .val (.int i3), .val (.int i4), .val (.int (4 : Int32)), .val (.int la), .val (.ref b), .unset, .unset, .unset, .unset] [])) _
  refine XS.aload X1.here hx rfl (hb hby at_30) rfl rfl ?_
  show Steps p.tables e below (T1.setTop (mkF m 32 #[.val (.int i0), .val (.int i1), .val (.int i2), .val (.int i3), .val (.int i4), .val (.int (4 : Int32)), .val (.int la), .val (.ref b), .unset, .unset, .unset, .unset] [(.ref b)])) _
  refine XS.iconst X1.here hx rfl (hb hby at_32) ?_
  show Steps p.tables e below (T1.setTop (mkF m 33 #[.val (.int i0), .val (.int i1), .val (.int i2), .val (.int i3), .val (.int i4), .val (.int (4 : Int32)), .val (.int la), .val (.ref b), .unset, .unset, .unset, .unset] [(.int (0 : Int32)), (.ref b)])) _
  refine XS.iloadN X1.here hx rfl (hb hby at_33) rfl ?_
  show Steps p.tables e below (T1.setTop (mkF m 34 #[.val (.int i0), .val (.int i1), .val (.int i2), .val (.int i3), .val (.int i4), .val (.int (4 : Int32)), .val (.int la), .val (.ref b), .unset, .unset, .unset, .unset] [(.int i1), (.int (0 : Int32)), (.ref b)])) _
  refine XS.i2b X1.here hx rfl (hb hby at_34) rfl ?_
  show Steps p.tables e below (T1.setTop (mkF m 35 #[.val (.int i0), .val (.int i1), .val (.int i2), .val (.int i3), .val (.int i4), .val (.int (4 : Int32)), .val (.int la), .val (.ref b), .unset, .unset, .unset, .unset] [(.int (i1.toInt8.toInt32)), (.int (0 : Int32)), (.ref b)])) _
  refine st2 _ ?_
  show Steps p.tables e below (T2.setTop (mkF m 36 #[.val (.int i0), .val (.int i1), .val (.int i2), .val (.int i3), .val (.int i4), .val (.int (4 : Int32)), .val (.int la), .val (.ref b), .unset, .unset, .unset, .unset] [])) _
  refine XS.iload X2.here hx rfl (hb hby at_36) rfl ?_
  show Steps p.tables e below (T2.setTop (mkF m 38 #[.val (.int i0), .val (.int i1), .val (.int i2), .val (.int i3), .val (.int i4), .val (.int (4 : Int32)), .val (.int la), .val (.ref b), .unset, .unset, .unset, .unset] [(.int (4 : Int32))])) _
  refine XS.iconst X2.here hx rfl (hb hby at_38) ?_
  show Steps p.tables e below (T2.setTop (mkF m 39 #[.val (.int i0), .val (.int i1), .val (.int i2), .val (.int i3), .val (.int i4), .val (.int (4 : Int32)), .val (.int la), .val (.ref b), .unset, .unset, .unset, .unset] [(.int (2 : Int32)), (.int (4 : Int32))])) _
  refine XS.icmpNo X2.here hx rfl (hb hby at_39) rfl (tlt (by decide)).2.2.2 ?_
  show Steps p.tables e below (T2.setTop (mkF m 42 #[.val (.int i0), .val (.int i1), .val (.int i2), .val (.int i3), .val (.int i4), .val (.int (4 : Int32)), .val (.int la), .val (.ref b), .unset, .unset, .unset, .unset] [])) _
  refine XS.aload X2.here hx rfl (hb hby at_42) rfl rfl ?_
  show Steps p.tables e below (T2.setTop (mkF m 44 #[.val (.int i0), .val (.int i1), .val (.int i2), .val (.int i3), .val (.int i4), .val (.int (4 : Int32)), .val (.int la), .val (.ref b), .unset, .unset, .unset, .unset] [(.ref b)])) _
  refine XS.iconst X2.here hx rfl (hb hby at_44) ?_
  show Steps p.tables e below (T2.setTop (mkF m 45 #[.val (.int i0), .val (.int i1), .val (.int i2), .val (.int i3), .val (.int i4), .val (.int (4 : Int32)), .val (.int la), .val (.ref b), .unset, .unset, .unset, .unset] [(.int (1 : Int32)), (.ref b)])) _
  refine XS.iloadN X2.here hx rfl (hb hby at_45) rfl ?_
  show Steps p.tables e below (T2.setTop (mkF m 46 #[.val (.int i0), .val (.int i1), .val (.int i2), .val (.int i3), .val (.int i4), .val (.int (4 : Int32)), .val (.int la), .val (.ref b), .unset, .unset, .unset, .unset] [(.int i2), (.int (1 : Int32)), (.ref b)])) _
  refine XS.i2b X2.here hx rfl (hb hby at_46) rfl ?_
  show Steps p.tables e below (T2.setTop (mkF m 47 #[.val (.int i0), .val (.int i1), .val (.int i2), .val (.int i3), .val (.int i4), .val (.int (4 : Int32)), .val (.int la), .val (.ref b), .unset, .unset, .unset, .unset] [(.int (i2.toInt8.toInt32)), (.int (1 : Int32)), (.ref b)])) _
  refine st3 _ ?_
  show Steps p.tables e below (T3.setTop (mkF m 48 #[.val (.int i0), .val (.int i1), .val (.int i2), .val (.int i3), .val (.int i4), .val (.int (4 : Int32)), .val (.int la), .val (.ref b), .unset, .unset, .unset, .unset] [])) _
  refine XS.iload X3.here hx rfl (hb hby at_48) rfl ?_
  show Steps p.tables e below (T3.setTop (mkF m 50 #[.val (.int i0), .val (.int i1), .val (.int i2), .val (.int i3), .val (.int i4), .val (.int (4 : Int32)), .val (.int la), .val (.ref b), .unset, .unset, .unset, .unset] [(.int (4 : Int32))])) _
  refine XS.iconst X3.here hx rfl (hb hby at_50) ?_
  show Steps p.tables e below (T3.setTop (mkF m 51 #[.val (.int i0), .val (.int i1), .val (.int i2), .val (.int i3), .val (.int i4), .val (.int (4 : Int32)), .val (.int la), .val (.ref b), .unset, .unset, .unset, .unset] [(.int (3 : Int32)), (.int (4 : Int32))])) _
  refine XS.icmpNo X3.here hx rfl (hb hby at_51) rfl (tlt (by decide)).2.2.2 ?_
  show Steps p.tables e below (T3.setTop (mkF m 54 #[.val (.int i0), .val (.int i1), .val (.int i2), .val (.int i3), .val (.int i4), .val (.int (4 : Int32)), .val (.int la), .val (.ref b), .unset, .unset, .unset, .unset] [])) _
  refine XS.aload X3.here hx rfl (hb hby at_54) rfl rfl ?_
  show Steps p.tables e below (T3.setTop (mkF m 56 #[.val (.int i0), .val (.int i1), .val (.int i2), .val (.int i3), .val (.int i4), .val (.int (4 : Int32)), .val (.int la), .val (.ref b), .unset, .unset, .unset, .unset] [(.ref b)])) _
  refine XS.iconst X3.here hx rfl (hb hby at_56) ?_
  show Steps p.tables e below (T3.setTop (mkF m 57 #[.val (.int i0), .val (.int i1), .val (.int i2), .val (.int i3), .val (.int i4), .val (.int (4 : Int32)), .val (.int la), .val (.ref b), .unset, .unset, .unset, .unset] [(.int (2 : Int32)), (.ref b)])) _
  refine XS.iloadN X3.here hx rfl (hb hby at_57) rfl ?_
  show Steps p.tables e below (T3.setTop (mkF m 58 #[.val (.int i0), .val (.int i1), .val (.int i2), .val (.int i3), .val (.int i4), .val (.int (4 : Int32)), .val (.int la), .val (.ref b), .unset, .unset, .unset, .unset] [(.int i3), (.int (2 : Int32)), (.ref b)])) _
  refine XS.i2b X3.here hx rfl (hb hby at_58) rfl ?_
  show Steps p.tables e below (T3.setTop (mkF m 59 #[.val (.int i0), .val (.int i1), .val (.int i2), .val (.int i3), .val (.int i4), .val (.int (4 : Int32)), .val (.int la), .val (.ref b), .unset, .unset, .unset, .unset] [(.int (i3.toInt8.toInt32)), (.int (2 : Int32)), (.ref b)])) _
  refine st4 _ ?_
  show Steps p.tables e below (T4.setTop (mkF m 60 #[.val (.int i0), .val (.int i1), .val (.int i2), .val (.int i3), .val (.int i4), .val (.int (4 : Int32)), .val (.int la), .val (.ref b), .unset, .unset, .unset, .unset] [])) _
  refine XS.aload X4.here hx rfl (hb hby at_60) rfl rfl ?_
  show Steps p.tables e below (T4.setTop (mkF m 62 #[.val (.int i0), .val (.int i1), .val (.int i2), .val (.int i3), .val (.int i4), .val (.int (4 : Int32)), .val (.int la), .val (.ref b), .unset, .unset, .unset, .unset] [(.ref b)])) _
  refine XS.iload X4.here hx rfl (hb hby at_62) rfl ?_
  show Steps p.tables e below (T4.setTop (mkF m 64 #[.val (.int i0), .val (.int i1), .val (.int i2), .val (.int i3), .val (.int i4), .val (.int (4 : Int32)), .val (.int la), .val (.ref b), .unset, .unset, .unset, .unset] [(.int (4 : Int32)), (.ref b)])) _
  refine XS.iconst X4.here hx rfl (hb hby at_64) ?_
  show Steps p.tables e below (T4.setTop (mkF m 65 #[.val (.int i0), .val (.int i1), .val (.int i2), .val (.int i3), .val (.int i4), .val (.int (4 : Int32)), .val (.int la), .val (.ref b), .unset, .unset, .unset, .unset] [(.int (1 : Int32)), (.int (4 : Int32)), (.ref b)])) _
  refine XS.isub X4.here hx rfl (hb hby at_65) rfl ?_
  show Steps p.tables e below (T4.setTop (mkF m 66 #[.val (.int i0), .val (.int i1), .val (.int i2), .val (.int i3), .val (.int i4), .val (.int (4 : Int32)), .val (.int la), .val (.ref b), .unset, .unset, .unset, .unset] [(.int ((4 : Int32) - (1 : Int32))), (.ref b)])) _
  refine XS.iload X4.here hx rfl (hb hby at_66) rfl ?_
  show Steps p.tables e below (T4.setTop (mkF m 68 #[.val (.int i0), .val (.int i1), .val (.int i2), .val (.int i3), .val (.int i4), .val (.int (4 : Int32)), .val (.int la), .val (.ref b), .unset, .unset, .unset, .unset] [(.int la), (.int ((4 : Int32) - (1 : Int32))), (.ref b)])) _
  refine XS.i2b X4.here hx rfl (hb hby at_68) rfl ?_
  show Steps p.tables e below (T4.setTop (mkF m 69 #[.val (.int i0), .val (.int i1), .val (.int i2), .val (.int i3), .val (.int i4), .val (.int (4 : Int32)), .val (.int la), .val (.ref b), .unset, .unset, .unset, .unset] [(.int (la.toInt8.toInt32)), (.int ((4 : Int32) - (1 : Int32))), (.ref b)])) _
  refine st5 _ ?_
  exact kt
set_option maxRecDepth 65536 in
set_option maxHeartbeats 40000000 in
theorem tnB {p : Program} {l : Launch} {e : Env} {s : State} {m : MethodId} {args : Array Value} {below : List Frame} {meth : Method} {c : Code} {T0 : State} {locs : List Loc} {Z : State} {a0 : Array Value} {n0 : Nat} {b : Addr} (i0 i1 i2 i3 i4 la N : Int32) (n : Nat) (f gf : Nat → Int32) (X0 : Stand p l e room_1 s m args below meth c T0 locs 1 4) (hx : p.tables.exec = Jvm.exec) (hZ : Z.Warmed39 s.vm) (hw : ∀ d ∈ tables_1, d.before a0 Z = true) (hby : c.code = code) (hml : c.maxLocals = 12) (hown : s.vm.findClass "com/example/shoalwater/shoalwater/store/KeysPastPrefixPinLaw" = some m.cls) (N0 : Fr n0 locs) (Z0 : n0 ≤ T0.heap.size) (B : By Z T0.heap b n f) (E : Exa Z T0.heap b "[B") (hN : n.toInt32 = N) (hn1 : ¬ N = (0 : Int32)) (hj : ¬ (N - (1 : Int32)) < 0) (hjn : (N - (1 : Int32)).toNatClampNeg < n) (hn4 : n ≤ 4) (hf : ¬ f (N - (1 : Int32)).toNatClampNeg = (-1 : Int32)) (hgf : (own_upd f (N - (1 : Int32)).toNatClampNeg (f (N - (1 : Int32)).toNatClampNeg + (1 : Int32)).toInt8.toInt32.toInt8.toInt32) = gf) (kr0 : ¬ (0 : Int32) < (N - (1 : Int32)) ∨ ((0 : Int32) < (N - (1 : Int32)) ∧ ¬ (0 : Int32) < 0 ∧ ((0 : Int32)).toNatClampNeg < n ∧ gf ((0 : Int32)).toNatClampNeg = (i1).toInt8.toInt32)) (kr1 : ¬ (1 : Int32) < (N - (1 : Int32)) ∨ ((1 : Int32) < (N - (1 : Int32)) ∧ ¬ (1 : Int32) < 0 ∧ ((1 : Int32)).toNatClampNeg < n ∧ gf ((1 : Int32)).toNatClampNeg = (i2).toInt8.toInt32)) (kr2 : ¬ (2 : Int32) < (N - (1 : Int32)) ∨ ((2 : Int32) < (N - (1 : Int32)) ∧ ¬ (2 : Int32) < 0 ∧ ((2 : Int32)).toNatClampNeg < n ∧ gf ((2 : Int32)).toNatClampNeg = (i3).toInt8.toInt32)) (kp0 : ¬ (0 : Int32) < (N - (1 : Int32)) ∨ ((0 : Int32) < (N - (1 : Int32)) ∧ ¬ (0 : Int32) < 0 ∧ ((0 : Int32)).toNatClampNeg < n ∧ f ((0 : Int32)).toNatClampNeg = (i1).toInt8.toInt32)) (kp1 : ¬ (1 : Int32) < (N - (1 : Int32)) ∨ ((1 : Int32) < (N - (1 : Int32)) ∧ ¬ (1 : Int32) < 0 ∧ ((1 : Int32)).toNatClampNeg < n ∧ f ((1 : Int32)).toNatClampNeg = (i2).toInt8.toInt32)) (kp2 : ¬ (2 : Int32) < (N - (1 : Int32)) ∨ ((2 : Int32) < (N - (1 : Int32)) ∧ ¬ (2 : Int32) < 0 ∧ ((2 : Int32)).toNatClampNeg < n ∧ f ((2 : Int32)).toNatClampNeg = (i3).toInt8.toInt32)) (hp : ((f (N - (1 : Int32)).toNatClampNeg) &&& (255 : Int32)) = la) (hr : ((gf (N - (1 : Int32)).toNatClampNeg) &&& (255 : Int32)) = (la + (1 : Int32))) :
    ∃ (T' : State) (locs' : List Loc) (r : Addr), Stand p l e room_1 s m args below meth c T' locs' 2 8 ∧ Fr n0 locs' ∧ ∀ target, Steps p.tables e below (T'.setTop (mkF m 246 #[.val (.int i0), .val (.int i1), .val (.int i2), .val (.int i3), .val (.int i4), .val (.int N), .val (.int la), .val (.ref b), .val (.ref r), .val (.int (1 : Int32)), .val (.int (1 : Int32)), .val (.int (1 : Int32))] [(.int (1 : Int32))])) target → Steps p.tables e below (T0.setTop (mkF m 70 #[.val (.int i0), .val (.int i1), .val (.int i2), .val (.int i3), .val (.int i4), .val (.int N), .val (.int la), .val (.ref b), .unset, .unset, .unset, .unset] [])) target := by
  obtain ⟨T1, L1, r, X1, N1, ne1, Bp1, Br1, st1⟩ := callP X0 hx hZ hw hby hml hown N0 (by decide) (by decide) n N f hN hn1 hj hjn hn4 hf Z0 B E gf hgf (Ls := #[.val (.int i0), .val (.int i1), .val (.int i2), .val (.int i3), .val (.int i4), .val (.int N), .val (.int la), .val (.ref b), .unset, .unset, .unset, .unset]) rfl at_72
  obtain ⟨T2, L2, X2, N2, e2, st2⟩ := callK X1 hx hZ hw hby hml hown N1 (by decide) (by decide) (0 : Int32) N i1 n gf Br1 kr0 (Ls := #[.val (.int i0), .val (.int i1), .val (.int i2), .val (.int i3), .val (.int i4), .val (.int N), .val (.int la), .val (.ref b), .val (.ref r), .unset, .unset, .unset]) rfl at_105
  have Bp2 : By Z T2.heap b n f := by rw [e2]; exact Bp1
  have Br2 : By Z T2.heap r n gf := by rw [e2]; exact Br1
  obtain ⟨T3, L3, X3, N3, e3, st3⟩ := callK X2 hx hZ hw hby hml hown N2 (by decide) (by decide) (1 : Int32) N i2 n gf Br2 kr1 (Ls := #[.val (.int i0), .val (.int i1), .val (.int i2), .val (.int i3), .val (.int i4), .val (.int N), .val (.int la), .val (.ref b), .val (.ref r), .unset, .unset, .unset]) rfl at_117
  have Bp3 : By Z T3.heap b n f := by rw [e3]; exact Bp2
  have Br3 : By Z T3.heap r n gf := by rw [e3]; exact Br2
  obtain ⟨T4, L4, X4, N4, e4, st4⟩ := callK X3 hx hZ hw hby hml hown N3 (by decide) (by decide) (2 : Int32) N i3 n gf Br3 kr2 (Ls := #[.val (.int i0), .val (.int i1), .val (.int i2), .val (.int i3), .val (.int i4), .val (.int N), .val (.int la), .val (.ref b), .val (.ref r), .unset, .unset, .unset]) rfl at_129
  have Bp4 : By Z T4.heap b n f := by rw [e4]; exact Bp3
  have Br4 : By Z T4.heap r n gf := by rw [e4]; exact Br3
  obtain ⟨T5, L5, X5, N5, e5, st5⟩ := callK X4 hx hZ hw hby hml hown N4 (by decide) (by decide) (0 : Int32) N i1 n f Bp4 kp0 (Ls := #[.val (.int i0), .val (.int i1), .val (.int i2), .val (.int i3), .val (.int i4), .val (.int N), .val (.int la), .val (.ref b), .val (.ref r), .val (.int (1 : Int32)), .unset, .unset]) rfl at_148
  have Bp5 : By Z T5.heap b n f := by rw [e5]; exact Bp4
  have Br5 : By Z T5.heap r n gf := by rw [e5]; exact Br4
  obtain ⟨T6, L6, X6, N6, e6, st6⟩ := callK X5 hx hZ hw hby hml hown N5 (by decide) (by decide) (1 : Int32) N i2 n f Bp5 kp1 (Ls := #[.val (.int i0), .val (.int i1), .val (.int i2), .val (.int i3), .val (.int i4), .val (.int N), .val (.int la), .val (.ref b), .val (.ref r), .val (.int (1 : Int32)), .unset, .unset]) rfl at_160
  have Bp6 : By Z T6.heap b n f := by rw [e6]; exact Bp5
  have Br6 : By Z T6.heap r n gf := by rw [e6]; exact Br5
  obtain ⟨T7, L7, X7, N7, e7, st7⟩ := callK X6 hx hZ hw hby hml hown N6 (by decide) (by decide) (2 : Int32) N i3 n f Bp6 kp2 (Ls := #[.val (.int i0), .val (.int i1), .val (.int i2), .val (.int i3), .val (.int i4), .val (.int N), .val (.int la), .val (.ref b), .val (.ref r), .val (.int (1 : Int32)), .unset, .unset]) rfl at_172
  have Bp7 : By Z T7.heap b n f := by rw [e7]; exact Bp6
  have Br7 : By Z T7.heap r n gf := by rw [e7]; exact Br6
  refine ⟨T7, L7, r, X7, N7, fun target kt => ?_⟩
  show Steps p.tables e below (T0.setTop (mkF m 70 #[.val (.int i0), .val (.int i1), .val (.int i2), .val (.int i3), .val (.int i4), .val (.int N), .val (.int la), .val (.ref b), .unset, .unset, .unset, .unset] [])) _
  refine XS.aload X0.here hx rfl (hb hby at_70) rfl rfl ?_
  show Steps p.tables e below (T0.setTop (mkF m 72 #[.val (.int i0), .val (.int i1), .val (.int i2), .val (.int i3), .val (.int i4), .val (.int N), .val (.int la), .val (.ref b), .unset, .unset, .unset, .unset] [(.ref b)])) _
  refine st1 _ ?_
  show Steps p.tables e below (T1.setTop (mkF m 75 #[.val (.int i0), .val (.int i1), .val (.int i2), .val (.int i3), .val (.int i4), .val (.int N), .val (.int la), .val (.ref b), .unset, .unset, .unset, .unset] [(.ref r)])) _
  refine XS.astore X1.here hx rfl (hb hby at_75) rfl rfl (l' := #[.val (.int i0), .val (.int i1), .val (.int i2), .val (.int i3), .val (.int i4), .val (.int N), .val (.int la), .val (.ref b), .val (.ref r), .unset, .unset, .unset]) rfl ?_
  show Steps p.tables e below (T1.setTop (mkF m 77 #[.val (.int i0), .val (.int i1), .val (.int i2), .val (.int i3), .val (.int i4), .val (.int N), .val (.int la), .val (.ref b), .val (.ref r), .unset, .unset, .unset] [])) _
  refine XS.aload X1.here hx rfl (hb hby at_77) rfl rfl ?_
  show Steps p.tables e below (T1.setTop (mkF m 79 #[.val (.int i0), .val (.int i1), .val (.int i2), .val (.int i3), .val (.int i4), .val (.int N), .val (.int la), .val (.ref b), .val (.ref r), .unset, .unset, .unset] [(.ref r)])) _
  refine XS.ifnullNo X1.here hx rfl (hb hby at_79) rfl ?_
  show Steps p.tables e below (T1.setTop (mkF m 82 #[.val (.int i0), .val (.int i1), .val (.int i2), .val (.int i3), .val (.int i4), .val (.int N), .val (.int la), .val (.ref b), .val (.ref r), .unset, .unset, .unset] [])) _
  refine XS.aload X1.here hx rfl (hb hby at_82) rfl rfl ?_
  show Steps p.tables e below (T1.setTop (mkF m 84 #[.val (.int i0), .val (.int i1), .val (.int i2), .val (.int i3), .val (.int i4), .val (.int N), .val (.int la), .val (.ref b), .val (.ref r), .unset, .unset, .unset] [(.ref r)])) _
  refine XS.aload X1.here hx rfl (hb hby at_84) rfl rfl ?_
  show Steps p.tables e below (T1.setTop (mkF m 86 #[.val (.int i0), .val (.int i1), .val (.int i2), .val (.int i3), .val (.int i4), .val (.int N), .val (.int la), .val (.ref b), .val (.ref r), .unset, .unset, .unset] [(.ref b), (.ref r)])) _
  refine XT.acmpNo X1.here hx rfl (hb hby at_86) rfl rfl rfl (show XT.acmp .eq (.ref r) (.ref b) = false from decide_eq_false (fun h => ne1 (Value.ref.inj h))) ?_
  show Steps p.tables e below (T1.setTop (mkF m 89 #[.val (.int i0), .val (.int i1), .val (.int i2), .val (.int i3), .val (.int i4), .val (.int N), .val (.int la), .val (.ref b), .val (.ref r), .unset, .unset, .unset] [])) _
  refine XS.aload X1.here hx rfl (hb hby at_89) rfl rfl ?_
  show Steps p.tables e below (T1.setTop (mkF m 91 #[.val (.int i0), .val (.int i1), .val (.int i2), .val (.int i3), .val (.int i4), .val (.int N), .val (.int la), .val (.ref b), .val (.ref r), .unset, .unset, .unset] [(.ref r)])) _
  refine lnBy X1 hx hZ Br1 hN (g := (mkF m 91 #[.val (.int i0), .val (.int i1), .val (.int i2), .val (.int i3), .val (.int i4), .val (.int N), .val (.int la), .val (.ref b), .val (.ref r), .unset, .unset, .unset] [(.ref r)])) rfl rfl (hb hby at_91) ?_
  show Steps p.tables e below (T1.setTop (mkF m 92 #[.val (.int i0), .val (.int i1), .val (.int i2), .val (.int i3), .val (.int i4), .val (.int N), .val (.int la), .val (.ref b), .val (.ref r), .unset, .unset, .unset] [(.int N)])) _
  refine XS.iload X1.here hx rfl (hb hby at_92) rfl ?_
  show Steps p.tables e below (T1.setTop (mkF m 94 #[.val (.int i0), .val (.int i1), .val (.int i2), .val (.int i3), .val (.int i4), .val (.int N), .val (.int la), .val (.ref b), .val (.ref r), .unset, .unset, .unset] [(.int N), (.int N)])) _
  refine XS.icmpYes X1.here hx rfl (pc0 := 94) (pc' := 99) rfl (hb hby at_94) rfl (teq rfl).1 (by decide) (by decide) ?_
  show Steps p.tables e below (T1.setTop (mkF m 99 #[.val (.int i0), .val (.int i1), .val (.int i2), .val (.int i3), .val (.int i4), .val (.int N), .val (.int la), .val (.ref b), .val (.ref r), .unset, .unset, .unset] [])) _
  refine XS.aload X1.here hx rfl (hb hby at_99) rfl rfl ?_
  show Steps p.tables e below (T1.setTop (mkF m 101 #[.val (.int i0), .val (.int i1), .val (.int i2), .val (.int i3), .val (.int i4), .val (.int N), .val (.int la), .val (.ref b), .val (.ref r), .unset, .unset, .unset] [(.ref r)])) _
  refine XS.iconst X1.here hx rfl (hb hby at_101) ?_
  show Steps p.tables e below (T1.setTop (mkF m 102 #[.val (.int i0), .val (.int i1), .val (.int i2), .val (.int i3), .val (.int i4), .val (.int N), .val (.int la), .val (.ref b), .val (.ref r), .unset, .unset, .unset] [(.int (0 : Int32)), (.ref r)])) _
  refine XS.iload X1.here hx rfl (hb hby at_102) rfl ?_
  show Steps p.tables e below (T1.setTop (mkF m 104 #[.val (.int i0), .val (.int i1), .val (.int i2), .val (.int i3), .val (.int i4), .val (.int N), .val (.int la), .val (.ref b), .val (.ref r), .unset, .unset, .unset] [(.int N), (.int (0 : Int32)), (.ref r)])) _
  refine XS.iloadN X1.here hx rfl (hb hby at_104) rfl ?_
  show Steps p.tables e below (T1.setTop (mkF m 105 #[.val (.int i0), .val (.int i1), .val (.int i2), .val (.int i3), .val (.int i4), .val (.int N), .val (.int la), .val (.ref b), .val (.ref r), .unset, .unset, .unset] [(.int i1), (.int N), (.int (0 : Int32)), (.ref r)])) _
  refine st2 _ ?_
  show Steps p.tables e below (T2.setTop (mkF m 108 #[.val (.int i0), .val (.int i1), .val (.int i2), .val (.int i3), .val (.int i4), .val (.int N), .val (.int la), .val (.ref b), .val (.ref r), .unset, .unset, .unset] [(.int (1 : Int32))])) _
  refine XS.ifNo X2.here hx rfl (hb hby at_108) rfl ((if0 _ _).trans (feq (by decide)).1) ?_
  show Steps p.tables e below (T2.setTop (mkF m 111 #[.val (.int i0), .val (.int i1), .val (.int i2), .val (.int i3), .val (.int i4), .val (.int N), .val (.int la), .val (.ref b), .val (.ref r), .unset, .unset, .unset] [])) _
  refine XS.aload X2.here hx rfl (hb hby at_111) rfl rfl ?_
  show Steps p.tables e below (T2.setTop (mkF m 113 #[.val (.int i0), .val (.int i1), .val (.int i2), .val (.int i3), .val (.int i4), .val (.int N), .val (.int la), .val (.ref b), .val (.ref r), .unset, .unset, .unset] [(.ref r)])) _
  refine XS.iconst X2.here hx rfl (hb hby at_113) ?_
  show Steps p.tables e below (T2.setTop (mkF m 114 #[.val (.int i0), .val (.int i1), .val (.int i2), .val (.int i3), .val (.int i4), .val (.int N), .val (.int la), .val (.ref b), .val (.ref r), .unset, .unset, .unset] [(.int (1 : Int32)), (.ref r)])) _
  refine XS.iload X2.here hx rfl (hb hby at_114) rfl ?_
  show Steps p.tables e below (T2.setTop (mkF m 116 #[.val (.int i0), .val (.int i1), .val (.int i2), .val (.int i3), .val (.int i4), .val (.int N), .val (.int la), .val (.ref b), .val (.ref r), .unset, .unset, .unset] [(.int N), (.int (1 : Int32)), (.ref r)])) _
  refine XS.iloadN X2.here hx rfl (hb hby at_116) rfl ?_
  show Steps p.tables e below (T2.setTop (mkF m 117 #[.val (.int i0), .val (.int i1), .val (.int i2), .val (.int i3), .val (.int i4), .val (.int N), .val (.int la), .val (.ref b), .val (.ref r), .unset, .unset, .unset] [(.int i2), (.int N), (.int (1 : Int32)), (.ref r)])) _
  refine st3 _ ?_
  show Steps p.tables e below (T3.setTop (mkF m 120 #[.val (.int i0), .val (.int i1), .val (.int i2), .val (.int i3), .val (.int i4), .val (.int N), .val (.int la), .val (.ref b), .val (.ref r), .unset, .unset, .unset] [(.int (1 : Int32))])) _
  refine XS.ifNo X3.here hx rfl (hb hby at_120) rfl ((if0 _ _).trans (feq (by decide)).1) ?_
  show Steps p.tables e below (T3.setTop (mkF m 123 #[.val (.int i0), .val (.int i1), .val (.int i2), .val (.int i3), .val (.int i4), .val (.int N), .val (.int la), .val (.ref b), .val (.ref r), .unset, .unset, .unset] [])) _
  refine XS.aload X3.here hx rfl (hb hby at_123) rfl rfl ?_
  show Steps p.tables e below (T3.setTop (mkF m 125 #[.val (.int i0), .val (.int i1), .val (.int i2), .val (.int i3), .val (.int i4), .val (.int N), .val (.int la), .val (.ref b), .val (.ref r), .unset, .unset, .unset] [(.ref r)])) _
  refine XS.iconst X3.here hx rfl (hb hby at_125) ?_
  show Steps p.tables e below (T3.setTop (mkF m 126 #[.val (.int i0), .val (.int i1), .val (.int i2), .val (.int i3), .val (.int i4), .val (.int N), .val (.int la), .val (.ref b), .val (.ref r), .unset, .unset, .unset] [(.int (2 : Int32)), (.ref r)])) _
  refine XS.iload X3.here hx rfl (hb hby at_126) rfl ?_
  show Steps p.tables e below (T3.setTop (mkF m 128 #[.val (.int i0), .val (.int i1), .val (.int i2), .val (.int i3), .val (.int i4), .val (.int N), .val (.int la), .val (.ref b), .val (.ref r), .unset, .unset, .unset] [(.int N), (.int (2 : Int32)), (.ref r)])) _
  refine XS.iloadN X3.here hx rfl (hb hby at_128) rfl ?_
  show Steps p.tables e below (T3.setTop (mkF m 129 #[.val (.int i0), .val (.int i1), .val (.int i2), .val (.int i3), .val (.int i4), .val (.int N), .val (.int la), .val (.ref b), .val (.ref r), .unset, .unset, .unset] [(.int i3), (.int N), (.int (2 : Int32)), (.ref r)])) _
  refine st4 _ ?_
  show Steps p.tables e below (T4.setTop (mkF m 132 #[.val (.int i0), .val (.int i1), .val (.int i2), .val (.int i3), .val (.int i4), .val (.int N), .val (.int la), .val (.ref b), .val (.ref r), .unset, .unset, .unset] [(.int (1 : Int32))])) _
  refine XS.ifNo X4.here hx rfl (hb hby at_132) rfl ((if0 _ _).trans (feq (by decide)).1) ?_
  show Steps p.tables e below (T4.setTop (mkF m 135 #[.val (.int i0), .val (.int i1), .val (.int i2), .val (.int i3), .val (.int i4), .val (.int N), .val (.int la), .val (.ref b), .val (.ref r), .unset, .unset, .unset] [])) _
  refine XS.iconst X4.here hx rfl (hb hby at_135) ?_
  show Steps p.tables e below (T4.setTop (mkF m 136 #[.val (.int i0), .val (.int i1), .val (.int i2), .val (.int i3), .val (.int i4), .val (.int N), .val (.int la), .val (.ref b), .val (.ref r), .unset, .unset, .unset] [(.int (1 : Int32))])) _
  refine XS.goto X4.here hx rfl (pc0 := 136) (pc' := 140) rfl (hb hby at_136) (by decide) (by decide) ?_
  show Steps p.tables e below (T4.setTop (mkF m 140 #[.val (.int i0), .val (.int i1), .val (.int i2), .val (.int i3), .val (.int i4), .val (.int N), .val (.int la), .val (.ref b), .val (.ref r), .unset, .unset, .unset] [(.int (1 : Int32))])) _
  refine XS.istore X4.here hx rfl (hb hby at_140) rfl (l' := #[.val (.int i0), .val (.int i1), .val (.int i2), .val (.int i3), .val (.int i4), .val (.int N), .val (.int la), .val (.ref b), .val (.ref r), .val (.int (1 : Int32)), .unset, .unset]) rfl ?_
  show Steps p.tables e below (T4.setTop (mkF m 142 #[.val (.int i0), .val (.int i1), .val (.int i2), .val (.int i3), .val (.int i4), .val (.int N), .val (.int la), .val (.ref b), .val (.ref r), .val (.int (1 : Int32)), .unset, .unset] [])) _
  refine XS.aload X4.here hx rfl (hb hby at_142) rfl rfl ?_
  show Steps p.tables e below (T4.setTop (mkF m 144 #[.val (.int i0), .val (.int i1), .val (.int i2), .val (.int i3), .val (.int i4), .val (.int N), .val (.int la), .val (.ref b), .val (.ref r), .val (.int (1 : Int32)), .unset, .unset] [(.ref b)])) _
  refine XS.iconst X4.here hx rfl (hb hby at_144) ?_
  show Steps p.tables e below (T4.setTop (mkF m 145 #[.val (.int i0), .val (.int i1), .val (.int i2), .val (.int i3), .val (.int i4), .val (.int N), .val (.int la), .val (.ref b), .val (.ref r), .val (.int (1 : Int32)), .unset, .unset] [(.int (0 : Int32)), (.ref b)])) _
  refine XS.iload X4.here hx rfl (hb hby at_145) rfl ?_
  show Steps p.tables e below (T4.setTop (mkF m 147 #[.val (.int i0), .val (.int i1), .val (.int i2), .val (.int i3), .val (.int i4), .val (.int N), .val (.int la), .val (.ref b), .val (.ref r), .val (.int (1 : Int32)), .unset, .unset] [(.int N), (.int (0 : Int32)), (.ref b)])) _
  refine XS.iloadN X4.here hx rfl (hb hby at_147) rfl ?_
  show Steps p.tables e below (T4.setTop (mkF m 148 #[.val (.int i0), .val (.int i1), .val (.int i2), .val (.int i3), .val (.int i4), .val (.int N), .val (.int la), .val (.ref b), .val (.ref r), .val (.int (1 : Int32)), .unset, .unset] [(.int i1), (.int N), (.int (0 : Int32)), (.ref b)])) _
  refine st5 _ ?_
  show Steps p.tables e below (T5.setTop (mkF m 151 #[.val (.int i0), .val (.int i1), .val (.int i2), .val (.int i3), .val (.int i4), .val (.int N), .val (.int la), .val (.ref b), .val (.ref r), .val (.int (1 : Int32)), .unset, .unset] [(.int (1 : Int32))])) _
  refine XS.ifNo X5.here hx rfl (hb hby at_151) rfl ((if0 _ _).trans (feq (by decide)).1) ?_
  show Steps p.tables e below (T5.setTop (mkF m 154 #[.val (.int i0), .val (.int i1), .val (.int i2), .val (.int i3), .val (.int i4), .val (.int N), .val (.int la), .val (.ref b), .val (.ref r), .val (.int (1 : Int32)), .unset, .unset] [])) _
  refine XS.aload X5.here hx rfl (hb hby at_154) rfl rfl ?_
  show Steps p.tables e below (T5.setTop (mkF m 156 #[.val (.int i0), .val (.int i1), .val (.int i2), .val (.int i3), .val (.int i4), .val (.int N), .val (.int la), .val (.ref b), .val (.ref r), .val (.int (1 : Int32)), .unset, .unset] [(.ref b)])) _
  refine XS.iconst X5.here hx rfl (hb hby at_156) ?_
  show Steps p.tables e below (T5.setTop (mkF m 157 #[.val (.int i0), .val (.int i1), .val (.int i2), .val (.int i3), .val (.int i4), .val (.int N), .val (.int la), .val (.ref b), .val (.ref r), .val (.int (1 : Int32)), .unset, .unset] [(.int (1 : Int32)), (.ref b)])) _
  refine XS.iload X5.here hx rfl (hb hby at_157) rfl ?_
  show Steps p.tables e below (T5.setTop (mkF m 159 #[.val (.int i0), .val (.int i1), .val (.int i2), .val (.int i3), .val (.int i4), .val (.int N), .val (.int la), .val (.ref b), .val (.ref r), .val (.int (1 : Int32)), .unset, .unset] [(.int N), (.int (1 : Int32)), (.ref b)])) _
  refine XS.iloadN X5.here hx rfl (hb hby at_159) rfl ?_
  show Steps p.tables e below (T5.setTop (mkF m 160 #[.val (.int i0), .val (.int i1), .val (.int i2), .val (.int i3), .val (.int i4), .val (.int N), .val (.int la), .val (.ref b), .val (.ref r), .val (.int (1 : Int32)), .unset, .unset] [(.int i2), (.int N), (.int (1 : Int32)), (.ref b)])) _
  refine st6 _ ?_
  show Steps p.tables e below (T6.setTop (mkF m 163 #[.val (.int i0), .val (.int i1), .val (.int i2), .val (.int i3), .val (.int i4), .val (.int N), .val (.int la), .val (.ref b), .val (.ref r), .val (.int (1 : Int32)), .unset, .unset] [(.int (1 : Int32))])) _
  refine XS.ifNo X6.here hx rfl (hb hby at_163) rfl ((if0 _ _).trans (feq (by decide)).1) ?_
  show Steps p.tables e below (T6.setTop (mkF m 166 #[.val (.int i0), .val (.int i1), .val (.int i2), .val (.int i3), .val (.int i4), .val (.int N), .val (.int la), .val (.ref b), .val (.ref r), .val (.int (1 : Int32)), .unset, .unset] [])) _
  refine XS.aload X6.here hx rfl (hb hby at_166) rfl rfl ?_
  show Steps p.tables e below (T6.setTop (mkF m 168 #[.val (.int i0), .val (.int i1), .val (.int i2), .val (.int i3), .val (.int i4), .val (.int N), .val (.int la), .val (.ref b), .val (.ref r), .val (.int (1 : Int32)), .unset, .unset] [(.ref b)])) _
  refine XS.iconst X6.here hx rfl (hb hby at_168) ?_
  show Steps p.tables e below (T6.setTop (mkF m 169 #[.val (.int i0), .val (.int i1), .val (.int i2), .val (.int i3), .val (.int i4), .val (.int N), .val (.int la), .val (.ref b), .val (.ref r), .val (.int (1 : Int32)), .unset, .unset] [(.int (2 : Int32)), (.ref b)])) _
  refine XS.iload X6.here hx rfl (hb hby at_169) rfl ?_
  show Steps p.tables e below (T6.setTop (mkF m 171 #[.val (.int i0), .val (.int i1), .val (.int i2), .val (.int i3), .val (.int i4), .val (.int N), .val (.int la), .val (.ref b), .val (.ref r), .val (.int (1 : Int32)), .unset, .unset] [(.int N), (.int (2 : Int32)), (.ref b)])) _
  refine XS.iloadN X6.here hx rfl (hb hby at_171) rfl ?_
  show Steps p.tables e below (T6.setTop (mkF m 172 #[.val (.int i0), .val (.int i1), .val (.int i2), .val (.int i3), .val (.int i4), .val (.int N), .val (.int la), .val (.ref b), .val (.ref r), .val (.int (1 : Int32)), .unset, .unset] [(.int i3), (.int N), (.int (2 : Int32)), (.ref b)])) _
  refine st7 _ ?_
  show Steps p.tables e below (T7.setTop (mkF m 175 #[.val (.int i0), .val (.int i1), .val (.int i2), .val (.int i3), .val (.int i4), .val (.int N), .val (.int la), .val (.ref b), .val (.ref r), .val (.int (1 : Int32)), .unset, .unset] [(.int (1 : Int32))])) _
  refine XS.ifNo X7.here hx rfl (hb hby at_175) rfl ((if0 _ _).trans (feq (by decide)).1) ?_
  show Steps p.tables e below (T7.setTop (mkF m 178 #[.val (.int i0), .val (.int i1), .val (.int i2), .val (.int i3), .val (.int i4), .val (.int N), .val (.int la), .val (.ref b), .val (.ref r), .val (.int (1 : Int32)), .unset, .unset] [])) _
  refine XS.aload X7.here hx rfl (hb hby at_178) rfl rfl ?_
  show Steps p.tables e below (T7.setTop (mkF m 180 #[.val (.int i0), .val (.int i1), .val (.int i2), .val (.int i3), .val (.int i4), .val (.int N), .val (.int la), .val (.ref b), .val (.ref r), .val (.int (1 : Int32)), .unset, .unset] [(.ref b)])) _
  refine XS.iload X7.here hx rfl (hb hby at_180) rfl ?_
  show Steps p.tables e below (T7.setTop (mkF m 182 #[.val (.int i0), .val (.int i1), .val (.int i2), .val (.int i3), .val (.int i4), .val (.int N), .val (.int la), .val (.ref b), .val (.ref r), .val (.int (1 : Int32)), .unset, .unset] [(.int N), (.ref b)])) _
  refine XS.iconst X7.here hx rfl (hb hby at_182) ?_
  show Steps p.tables e below (T7.setTop (mkF m 183 #[.val (.int i0), .val (.int i1), .val (.int i2), .val (.int i3), .val (.int i4), .val (.int N), .val (.int la), .val (.ref b), .val (.ref r), .val (.int (1 : Int32)), .unset, .unset] [(.int (1 : Int32)), (.int N), (.ref b)])) _
  refine XS.isub X7.here hx rfl (hb hby at_183) rfl ?_
  show Steps p.tables e below (T7.setTop (mkF m 184 #[.val (.int i0), .val (.int i1), .val (.int i2), .val (.int i3), .val (.int i4), .val (.int N), .val (.int la), .val (.ref b), .val (.ref r), .val (.int (1 : Int32)), .unset, .unset] [(.int (N - (1 : Int32))), (.ref b)])) _
  refine ldBy X7 hx hZ Bp7 (j := (N - (1 : Int32))) hj hjn (g := (mkF m 184 #[.val (.int i0), .val (.int i1), .val (.int i2), .val (.int i3), .val (.int i4), .val (.int N), .val (.int la), .val (.ref b), .val (.ref r), .val (.int (1 : Int32)), .unset, .unset] [(.int (N - (1 : Int32))), (.ref b)])) rfl rfl (hb hby at_184) ?_
  show Steps p.tables e below (T7.setTop (mkF m 185 #[.val (.int i0), .val (.int i1), .val (.int i2), .val (.int i3), .val (.int i4), .val (.int N), .val (.int la), .val (.ref b), .val (.ref r), .val (.int (1 : Int32)), .unset, .unset] [(.int (f ((N - (1 : Int32))).toNatClampNeg))])) _
  refine XS.sipush X7.here hx rfl (hb hby at_185) ?_
  show Steps p.tables e below (T7.setTop (mkF m 188 #[.val (.int i0), .val (.int i1), .val (.int i2), .val (.int i3), .val (.int i4), .val (.int N), .val (.int la), .val (.ref b), .val (.ref r), .val (.int (1 : Int32)), .unset, .unset] [(.int (255 : Int32)), (.int (f ((N - (1 : Int32))).toNatClampNeg))])) _
  refine XS.iand X7.here hx rfl (hb hby at_188) rfl ?_
  show Steps p.tables e below (T7.setTop (mkF m 189 #[.val (.int i0), .val (.int i1), .val (.int i2), .val (.int i3), .val (.int i4), .val (.int N), .val (.int la), .val (.ref b), .val (.ref r), .val (.int (1 : Int32)), .unset, .unset] [(.int ((f ((N - (1 : Int32))).toNatClampNeg) &&& (255 : Int32)))])) _
  refine XS.iload X7.here hx rfl (hb hby at_189) rfl ?_
  show Steps p.tables e below (T7.setTop (mkF m 191 #[.val (.int i0), .val (.int i1), .val (.int i2), .val (.int i3), .val (.int i4), .val (.int N), .val (.int la), .val (.ref b), .val (.ref r), .val (.int (1 : Int32)), .unset, .unset] [(.int la), (.int ((f ((N - (1 : Int32))).toNatClampNeg) &&& (255 : Int32)))])) _
  refine XS.icmpNo X7.here hx rfl (hb hby at_191) rfl (teq hp).2 ?_
  show Steps p.tables e below (T7.setTop (mkF m 194 #[.val (.int i0), .val (.int i1), .val (.int i2), .val (.int i3), .val (.int i4), .val (.int N), .val (.int la), .val (.ref b), .val (.ref r), .val (.int (1 : Int32)), .unset, .unset] [])) _
  refine XS.iconst X7.here hx rfl (hb hby at_194) ?_
  show Steps p.tables e below (T7.setTop (mkF m 195 #[.val (.int i0), .val (.int i1), .val (.int i2), .val (.int i3), .val (.int i4), .val (.int N), .val (.int la), .val (.ref b), .val (.ref r), .val (.int (1 : Int32)), .unset, .unset] [(.int (1 : Int32))])) _
  refine XS.goto X7.here hx rfl (pc0 := 195) (pc' := 199) rfl (hb hby at_195) (by decide) (by decide) ?_
  show Steps p.tables e below (T7.setTop (mkF m 199 #[.val (.int i0), .val (.int i1), .val (.int i2), .val (.int i3), .val (.int i4), .val (.int N), .val (.int la), .val (.ref b), .val (.ref r), .val (.int (1 : Int32)), .unset, .unset] [(.int (1 : Int32))])) _
  refine XS.istore X7.here hx rfl (hb hby at_199) rfl (l' := #[.val (.int i0), .val (.int i1), .val (.int i2), .val (.int i3), .val (.int i4), .val (.int N), .val (.int la), .val (.ref b), .val (.ref r), .val (.int (1 : Int32)), .val (.int (1 : Int32)), .unset]) rfl ?_
  show Steps p.tables e below (T7.setTop (mkF m 201 #[.val (.int i0), .val (.int i1), .val (.int i2), .val (.int i3), .val (.int i4), .val (.int N), .val (.int la), .val (.ref b), .val (.ref r), .val (.int (1 : Int32)), .val (.int (1 : Int32)), .unset] [])) _
  refine XS.aload X7.here hx rfl (hb hby at_201) rfl rfl ?_
  show Steps p.tables e below (T7.setTop (mkF m 203 #[.val (.int i0), .val (.int i1), .val (.int i2), .val (.int i3), .val (.int i4), .val (.int N), .val (.int la), .val (.ref b), .val (.ref r), .val (.int (1 : Int32)), .val (.int (1 : Int32)), .unset] [(.ref r)])) _
  refine XS.iload X7.here hx rfl (hb hby at_203) rfl ?_
  show Steps p.tables e below (T7.setTop (mkF m 205 #[.val (.int i0), .val (.int i1), .val (.int i2), .val (.int i3), .val (.int i4), .val (.int N), .val (.int la), .val (.ref b), .val (.ref r), .val (.int (1 : Int32)), .val (.int (1 : Int32)), .unset] [(.int N), (.ref r)])) _
  refine XS.iconst X7.here hx rfl (hb hby at_205) ?_
  show Steps p.tables e below (T7.setTop (mkF m 206 #[.val (.int i0), .val (.int i1), .val (.int i2), .val (.int i3), .val (.int i4), .val (.int N), .val (.int la), .val (.ref b), .val (.ref r), .val (.int (1 : Int32)), .val (.int (1 : Int32)), .unset] [(.int (1 : Int32)), (.int N), (.ref r)])) _
  refine XS.isub X7.here hx rfl (hb hby at_206) rfl ?_
  show Steps p.tables e below (T7.setTop (mkF m 207 #[.val (.int i0), .val (.int i1), .val (.int i2), .val (.int i3), .val (.int i4), .val (.int N), .val (.int la), .val (.ref b), .val (.ref r), .val (.int (1 : Int32)), .val (.int (1 : Int32)), .unset] [(.int (N - (1 : Int32))), (.ref r)])) _
  refine ldBy X7 hx hZ Br7 (j := (N - (1 : Int32))) hj hjn (g := (mkF m 207 #[.val (.int i0), .val (.int i1), .val (.int i2), .val (.int i3), .val (.int i4), .val (.int N), .val (.int la), .val (.ref b), .val (.ref r), .val (.int (1 : Int32)), .val (.int (1 : Int32)), .unset] [(.int (N - (1 : Int32))), (.ref r)])) rfl rfl (hb hby at_207) ?_
  show Steps p.tables e below (T7.setTop (mkF m 208 #[.val (.int i0), .val (.int i1), .val (.int i2), .val (.int i3), .val (.int i4), .val (.int N), .val (.int la), .val (.ref b), .val (.ref r), .val (.int (1 : Int32)), .val (.int (1 : Int32)), .unset] [(.int (gf ((N - (1 : Int32))).toNatClampNeg))])) _
  refine XS.sipush X7.here hx rfl (hb hby at_208) ?_
  show Steps p.tables e below (T7.setTop (mkF m 211 #[.val (.int i0), .val (.int i1), .val (.int i2), .val (.int i3), .val (.int i4), .val (.int N), .val (.int la), .val (.ref b), .val (.ref r), .val (.int (1 : Int32)), .val (.int (1 : Int32)), .unset] [(.int (255 : Int32)), (.int (gf ((N - (1 : Int32))).toNatClampNeg))])) _
  refine XS.iand X7.here hx rfl (hb hby at_211) rfl ?_
  show Steps p.tables e below (T7.setTop (mkF m 212 #[.val (.int i0), .val (.int i1), .val (.int i2), .val (.int i3), .val (.int i4), .val (.int N), .val (.int la), .val (.ref b), .val (.ref r), .val (.int (1 : Int32)), .val (.int (1 : Int32)), .unset] [(.int ((gf ((N - (1 : Int32))).toNatClampNeg) &&& (255 : Int32)))])) _
  refine XS.iload X7.here hx rfl (hb hby at_212) rfl ?_
  show Steps p.tables e below (T7.setTop (mkF m 214 #[.val (.int i0), .val (.int i1), .val (.int i2), .val (.int i3), .val (.int i4), .val (.int N), .val (.int la), .val (.ref b), .val (.ref r), .val (.int (1 : Int32)), .val (.int (1 : Int32)), .unset] [(.int la), (.int ((gf ((N - (1 : Int32))).toNatClampNeg) &&& (255 : Int32)))])) _
  refine XS.iconst X7.here hx rfl (hb hby at_214) ?_
  show Steps p.tables e below (T7.setTop (mkF m 215 #[.val (.int i0), .val (.int i1), .val (.int i2), .val (.int i3), .val (.int i4), .val (.int N), .val (.int la), .val (.ref b), .val (.ref r), .val (.int (1 : Int32)), .val (.int (1 : Int32)), .unset] [(.int (1 : Int32)), (.int la), (.int ((gf ((N - (1 : Int32))).toNatClampNeg) &&& (255 : Int32)))])) _
  refine XS.iadd X7.here hx rfl (hb hby at_215) rfl ?_
  show Steps p.tables e below (T7.setTop (mkF m 216 #[.val (.int i0), .val (.int i1), .val (.int i2), .val (.int i3), .val (.int i4), .val (.int N), .val (.int la), .val (.ref b), .val (.ref r), .val (.int (1 : Int32)), .val (.int (1 : Int32)), .unset] [(.int (la + (1 : Int32))), (.int ((gf ((N - (1 : Int32))).toNatClampNeg) &&& (255 : Int32)))])) _
  refine XS.icmpNo X7.here hx rfl (hb hby at_216) rfl (teq hr).2 ?_
  show Steps p.tables e below (T7.setTop (mkF m 219 #[.val (.int i0), .val (.int i1), .val (.int i2), .val (.int i3), .val (.int i4), .val (.int N), .val (.int la), .val (.ref b), .val (.ref r), .val (.int (1 : Int32)), .val (.int (1 : Int32)), .unset] [])) _
  refine XS.iconst X7.here hx rfl (hb hby at_219) ?_
  show Steps p.tables e below (T7.setTop (mkF m 220 #[.val (.int i0), .val (.int i1), .val (.int i2), .val (.int i3), .val (.int i4), .val (.int N), .val (.int la), .val (.ref b), .val (.ref r), .val (.int (1 : Int32)), .val (.int (1 : Int32)), .unset] [(.int (1 : Int32))])) _
  refine XS.goto X7.here hx rfl (pc0 := 220) (pc' := 224) rfl (hb hby at_220) (by decide) (by decide) ?_
  show Steps p.tables e below (T7.setTop (mkF m 224 #[.val (.int i0), .val (.int i1), .val (.int i2), .val (.int i3), .val (.int i4), .val (.int N), .val (.int la), .val (.ref b), .val (.ref r), .val (.int (1 : Int32)), .val (.int (1 : Int32)), .unset] [(.int (1 : Int32))])) _
  refine XS.istore X7.here hx rfl (hb hby at_224) rfl (l' := #[.val (.int i0), .val (.int i1), .val (.int i2), .val (.int i3), .val (.int i4), .val (.int N), .val (.int la), .val (.ref b), .val (.ref r), .val (.int (1 : Int32)), .val (.int (1 : Int32)), .val (.int (1 : Int32))]) rfl ?_
  show Steps p.tables e below (T7.setTop (mkF m 226 #[.val (.int i0), .val (.int i1), .val (.int i2), .val (.int i3), .val (.int i4), .val (.int N), .val (.int la), .val (.ref b), .val (.ref r), .val (.int (1 : Int32)), .val (.int (1 : Int32)), .val (.int (1 : Int32))] [])) _
  refine XS.iload X7.here hx rfl (hb hby at_226) rfl ?_
  show Steps p.tables e below (T7.setTop (mkF m 228 #[.val (.int i0), .val (.int i1), .val (.int i2), .val (.int i3), .val (.int i4), .val (.int N), .val (.int la), .val (.ref b), .val (.ref r), .val (.int (1 : Int32)), .val (.int (1 : Int32)), .val (.int (1 : Int32))] [(.int (1 : Int32))])) _
  refine XS.ifNo X7.here hx rfl (hb hby at_228) rfl ((if0 _ _).trans (feq (by decide)).1) ?_
  show Steps p.tables e below (T7.setTop (mkF m 231 #[.val (.int i0), .val (.int i1), .val (.int i2), .val (.int i3), .val (.int i4), .val (.int N), .val (.int la), .val (.ref b), .val (.ref r), .val (.int (1 : Int32)), .val (.int (1 : Int32)), .val (.int (1 : Int32))] [])) _
  refine XS.iload X7.here hx rfl (hb hby at_231) rfl ?_
  show Steps p.tables e below (T7.setTop (mkF m 233 #[.val (.int i0), .val (.int i1), .val (.int i2), .val (.int i3), .val (.int i4), .val (.int N), .val (.int la), .val (.ref b), .val (.ref r), .val (.int (1 : Int32)), .val (.int (1 : Int32)), .val (.int (1 : Int32))] [(.int (1 : Int32))])) _
  refine XS.ifNo X7.here hx rfl (hb hby at_233) rfl ((if0 _ _).trans (feq (by decide)).1) ?_
  show Steps p.tables e below (T7.setTop (mkF m 236 #[.val (.int i0), .val (.int i1), .val (.int i2), .val (.int i3), .val (.int i4), .val (.int N), .val (.int la), .val (.ref b), .val (.ref r), .val (.int (1 : Int32)), .val (.int (1 : Int32)), .val (.int (1 : Int32))] [])) _
  refine XS.iload X7.here hx rfl (hb hby at_236) rfl ?_
  show Steps p.tables e below (T7.setTop (mkF m 238 #[.val (.int i0), .val (.int i1), .val (.int i2), .val (.int i3), .val (.int i4), .val (.int N), .val (.int la), .val (.ref b), .val (.ref r), .val (.int (1 : Int32)), .val (.int (1 : Int32)), .val (.int (1 : Int32))] [(.int (1 : Int32))])) _
  refine XS.ifNo X7.here hx rfl (hb hby at_238) rfl ((if0 _ _).trans (feq (by decide)).1) ?_
  show Steps p.tables e below (T7.setTop (mkF m 241 #[.val (.int i0), .val (.int i1), .val (.int i2), .val (.int i3), .val (.int i4), .val (.int N), .val (.int la), .val (.ref b), .val (.ref r), .val (.int (1 : Int32)), .val (.int (1 : Int32)), .val (.int (1 : Int32))] [])) _
  refine XS.iconst X7.here hx rfl (hb hby at_241) ?_
  show Steps p.tables e below (T7.setTop (mkF m 242 #[.val (.int i0), .val (.int i1), .val (.int i2), .val (.int i3), .val (.int i4), .val (.int N), .val (.int la), .val (.ref b), .val (.ref r), .val (.int (1 : Int32)), .val (.int (1 : Int32)), .val (.int (1 : Int32))] [(.int (1 : Int32))])) _
  refine XS.goto X7.here hx rfl (pc0 := 242) (pc' := 246) rfl (hb hby at_242) (by decide) (by decide) ?_
  exact kt
/-! numbers -/
theorem own_n4 (x : Int32) : ((1 : Int32) + (x &&& (3 : Int32))) = (1 : Int32) ∨ ((1 : Int32) + (x &&& (3 : Int32))) = (2 : Int32) ∨ ((1 : Int32) + (x &&& (3 : Int32))) = (3 : Int32) ∨ ((1 : Int32) + (x &&& (3 : Int32))) = (4 : Int32) := by
  obtain ⟨k, hk, e⟩ : ∃ k : Nat, k ≤ 3 ∧ (x &&& (3 : Int32)) = Int32.ofNat k := by
    refine ⟨(x &&& 3).toBitVec.toNat, ?_, ?_⟩
    · simp only [Int32.toBitVec_and, BitVec.toNat_and]
      exact Nat.and_le_right
    · apply Int32.toBitVec_inj.mp
      show _ = BitVec.ofNat 32 _
      rw [BitVec.ofNat_toNat]; simp
  rw [e]
  have : k = 0 ∨ k = 1 ∨ k = 2 ∨ k = 3 := by omega
  rcases this with rfl | rfl | rfl | rfl <;> decide
theorem own_la (x : Int32) : ∃ k : Fin 255, ((x &&& (2147483647 : Int32)) % (255 : Int32)) = Int32.ofNat k.1 := by
  have h0 : 0 ≤ (x &&& (2147483647 : Int32)).toInt := (c_andS x 2147483647).2.2 (by decide)
  have h1 : ((x &&& (2147483647 : Int32)) % (255 : Int32)).toInt = (x &&& (2147483647 : Int32)).toInt % 255 := by
    rw [Int32.toInt_mod, show (255 : Int32).toInt = 255 from by decide, Int.tmod_eq_emod_of_nonneg h0]
  refine ⟨⟨((x &&& (2147483647 : Int32)) % (255 : Int32)).toInt.toNat, by omega⟩, ?_⟩
  apply Int32.toInt_inj.mp
  rw [Int32.toInt_ofNat_of_lt (by show _ < 2 ^ 31; show ((x &&& (2147483647 : Int32)) % (255 : Int32)).toInt.toNat < 2 ^ 31; omega)]
  show _ = ((((x &&& (2147483647 : Int32)) % (255 : Int32)).toInt.toNat : Nat) : Int)
  omega
theorem own_8 (x : Int32) : x.toInt8.toInt32.toInt8.toInt32 = x.toInt8.toInt32 := by
  rw [Int8.toInt8_toInt32]
theorem own_a : ∀ k : Fin 255, ¬ (Int32.ofNat k.1).toInt8.toInt32.toInt8.toInt32 = (-1 : Int32) := by decide +kernel
theorem own_b : ∀ k : Fin 255, ((Int32.ofNat k.1).toInt8.toInt32.toInt8.toInt32 &&& (255 : Int32)) = Int32.ofNat k.1 := by decide +kernel
theorem own_c : ∀ k : Fin 255, (((Int32.ofNat k.1).toInt8.toInt32.toInt8.toInt32 + (1 : Int32)).toInt8.toInt32.toInt8.toInt32 &&& (255 : Int32)) = (Int32.ofNat k.1 + (1 : Int32)) := by decide +kernel
def Q0 (n0 : Nat) (v : Option Value) (h : Heap) (L : List Loc) : Prop := v = some (.int 1) ∧ Fr n0 L
set_option maxRecDepth 65536 in
set_option maxHeartbeats 40000000 in
theorem rm0 (l : Launch) (Z : State) (a0 : Array Value) (hw : ∀ d ∈ tables_1, d.before a0 Z = true) (ws : List Jvm.Cond) (p0 p1 p2 p3 p4 : Int32) (h0 : Heap) (n0 : Nat) (Z0 : n0 ≤ h0.size) :
    MetFree l x (head1 (Jvm.Cond.code x code maxLocals ret :: ws) room_1) (fun a U => a = #[(.int p0), (.int p1), (.int p2), (.int p3), (.int p4)] ∧ Z.Warmed39 U.vm ∧ U.heap = h0) (fun _ _ _ _ _ => True) (fun _ U o U' => ∃ v L, o = .returned v ∧ Q0 n0 v U'.heap L ∧ FrameEnd U o U' L 2 8) := by
  refine MetFree.of_bodySF (plainFor_of_name pn_0) hisR ?_
  intro p e s m args below meth c s₁ Bd hml0 hP hK
  obtain ⟨rfl, hZ, hh⟩ := hP
  have hx := Bd.exec
  have hby := Bd.bytes
  have hml : c.maxLocals = 12 := hml0
  have hown : s.vm.findClass "com/example/shoalwater/shoalwater/store/KeysPastPrefixPinLaw" = some m.cls := findClass_of_methodNamed Bd.named
  have X0 : Stand p l e room_1 s m #[(.int p0), (.int p1), (.int p2), (.int p3), (.int p4)] below meth c s₁ [] 0 0 := Stand.of_body Bd
  have e0 : s₁.heap = h0 := by rw [← hh, Bd.state]; rfl
  have Z1 : n0 ≤ s₁.heap.size := by rw [e0]; exact Z0
  have pre0 : ∀ t, Steps p.tables e below (s₁.setTop (mkF m 0 #[.val (.int p0), .val (.int p1), .val (.int p2), .val (.int p3), .val (.int p4), .unset, .unset, .unset, .unset, .unset, .unset, .unset] [])) t → Steps p.tables e below (s₁.setTop (entryFrame m #[(.int p0), (.int p1), (.int p2), (.int p3), (.int p4)] maxLocals)) t := fun t k => castTop (ef_0 m p0 p1 p2 p3 p4) k
  obtain ⟨k, hl⟩ := own_la p4
  rcases own_n4 p0 with hn | hn | hn | hn
  · obtain ⟨T1, L1, b, X1, N1, Z2, B1, E1, st1⟩ := tnA1 (n0 := n0) p0 p1 p2 p3 p4 (Int32.ofNat k.1) X0 hx hZ hw hby hml hown Z1 hn hl
    obtain ⟨T2, L2, r, X2, N2, st2⟩ := tnB p0 p1 p2 p3 p4 (Int32.ofNat k.1) (1 : Int32) 1 _ _ X1 hx hZ hw hby hml hown N1 Z2 B1 E1 rfl (by decide) (by decide) (by decide) (by decide) (own_a k) rfl (Or.inl (by decide)) (Or.inl (by decide)) (Or.inl (by decide)) (Or.inl (by decide)) (Or.inl (by decide)) (Or.inl (by decide)) (own_b k) (own_c k)
    obtain ⟨fs, hr, hrun, hended, hW, hsame⟩ := X2.leave (v := some (.int (1 : Int32))) (fun h => by rw [Bd.returns] at h; cases h)
    refine ⟨_, _, pre0 _ ?_, hrun, hended, _, _, rfl, ⟨rfl, N2⟩, ⟨_, rfl⟩, hW, hsame.mono (by decide) (by decide)⟩
    refine st1 _ ?_
    refine st2 _ ?_
    exact retN X2 hx (t := .boolean) Bd.returns (by simp) (hb hby at_246) hr
  · obtain ⟨T1, L1, b, X1, N1, Z2, B1, E1, st1⟩ := tnA2 (n0 := n0) p0 p1 p2 p3 p4 (Int32.ofNat k.1) X0 hx hZ hw hby hml hown Z1 hn hl
    obtain ⟨T2, L2, r, X2, N2, st2⟩ := tnB p0 p1 p2 p3 p4 (Int32.ofNat k.1) (2 : Int32) 2 _ _ X1 hx hZ hw hby hml hown N1 Z2 B1 E1 rfl (by decide) (by decide) (by decide) (by decide) (own_a k) rfl (Or.inr ⟨by decide, by decide, by decide, own_8 p1⟩) (Or.inl (by decide)) (Or.inl (by decide)) (Or.inr ⟨by decide, by decide, by decide, own_8 p1⟩) (Or.inl (by decide)) (Or.inl (by decide)) (own_b k) (own_c k)
    obtain ⟨fs, hr, hrun, hended, hW, hsame⟩ := X2.leave (v := some (.int (1 : Int32))) (fun h => by rw [Bd.returns] at h; cases h)
    refine ⟨_, _, pre0 _ ?_, hrun, hended, _, _, rfl, ⟨rfl, N2⟩, ⟨_, rfl⟩, hW, hsame.mono (by decide) (by decide)⟩
    refine st1 _ ?_
    refine st2 _ ?_
    exact retN X2 hx (t := .boolean) Bd.returns (by simp) (hb hby at_246) hr
  · obtain ⟨T1, L1, b, X1, N1, Z2, B1, E1, st1⟩ := tnA3 (n0 := n0) p0 p1 p2 p3 p4 (Int32.ofNat k.1) X0 hx hZ hw hby hml hown Z1 hn hl
    obtain ⟨T2, L2, r, X2, N2, st2⟩ := tnB p0 p1 p2 p3 p4 (Int32.ofNat k.1) (3 : Int32) 3 _ _ X1 hx hZ hw hby hml hown N1 Z2 B1 E1 rfl (by decide) (by decide) (by decide) (by decide) (own_a k) rfl (Or.inr ⟨by decide, by decide, by decide, own_8 p1⟩) (Or.inr ⟨by decide, by decide, by decide, own_8 p2⟩) (Or.inl (by decide)) (Or.inr ⟨by decide, by decide, by decide, own_8 p1⟩) (Or.inr ⟨by decide, by decide, by decide, own_8 p2⟩) (Or.inl (by decide)) (own_b k) (own_c k)
    obtain ⟨fs, hr, hrun, hended, hW, hsame⟩ := X2.leave (v := some (.int (1 : Int32))) (fun h => by rw [Bd.returns] at h; cases h)
    refine ⟨_, _, pre0 _ ?_, hrun, hended, _, _, rfl, ⟨rfl, N2⟩, ⟨_, rfl⟩, hW, hsame.mono (by decide) (by decide)⟩
    refine st1 _ ?_
    refine st2 _ ?_
    exact retN X2 hx (t := .boolean) Bd.returns (by simp) (hb hby at_246) hr
  · obtain ⟨T1, L1, b, X1, N1, Z2, B1, E1, st1⟩ := tnA4 (n0 := n0) p0 p1 p2 p3 p4 (Int32.ofNat k.1) X0 hx hZ hw hby hml hown Z1 hn hl
    obtain ⟨T2, L2, r, X2, N2, st2⟩ := tnB p0 p1 p2 p3 p4 (Int32.ofNat k.1) (4 : Int32) 4 _ _ X1 hx hZ hw hby hml hown N1 Z2 B1 E1 rfl (by decide) (by decide) (by decide) (by decide) (own_a k) rfl (Or.inr ⟨by decide, by decide, by decide, own_8 p1⟩) (Or.inr ⟨by decide, by decide, by decide, own_8 p2⟩) (Or.inr ⟨by decide, by decide, by decide, own_8 p3⟩) (Or.inr ⟨by decide, by decide, by decide, own_8 p1⟩) (Or.inr ⟨by decide, by decide, by decide, own_8 p2⟩) (Or.inr ⟨by decide, by decide, by decide, own_8 p3⟩) (own_b k) (own_c k)
    obtain ⟨fs, hr, hrun, hended, hW, hsame⟩ := X2.leave (v := some (.int (1 : Int32))) (fun h => by rw [Bd.returns] at h; cases h)
    refine ⟨_, _, pre0 _ ?_, hrun, hended, _, _, rfl, ⟨rfl, N2⟩, ⟨_, rfl⟩, hW, hsame.mono (by decide) (by decide)⟩
    refine st1 _ ?_
    refine st2 _ ?_
    exact retN X2 hx (t := .boolean) Bd.returns (by simp) (hb hby at_246) hr
set_option maxRecDepth 65536 in
set_option maxHeartbeats 40000000 in
theorem comes_1 {Post : Tables → Env → Array Value → State → Outcome → State → Prop} (hpost : ∀ tb e args s v u, (limb_1_1.after args s (.returned v) u = true ∧ limb_1_2.after args s (.returned v) u = true ∧ True) → FrameEnd s (.returned v) u (Jvm.fieldLocs frame_1_writes args s ++ Jvm.arrayLocs frame_1_arrays args s ++ Jvm.staticLocs frame_1_statics s) 16 128 → Post tb e args s (.returned v) u) :
    ArmFor flags0 classFile x code maxLocals ret World_1 tables_1 room_1 Calls_1 rest_1 Pre_1 Post := by
  intro l hfl _ _ p e ha hc hk s m args below hf hA hF happ hP
  obtain ⟨hcalls, hrest, hpre⟩ := hP
  obtain ⟨-, -, -, hnamed, -, -, -, hat⟩ := (Spec.applies_iff hf).mp happ
  obtain ⟨hg, hn⟩ := and_e (Cond.before_iff.mp (show (Jvm.Cond.and given_1 narrow_1).before args s = true from hpre))
  obtain ⟨g0, r0⟩ := and_e hg
  obtain ⟨q0, r1⟩ := and_e r0
  obtain ⟨q1, r2⟩ := and_e r1
  obtain ⟨q2, r3⟩ := and_e r2
  obtain ⟨q3, r4⟩ := and_e r3
  obtain ⟨w0, w1, w2, w3, w4, rfl⟩ : ∃ w0 w1 w2 w3 w4 : Value, args = #[w0, w1, w2, w3, w4] := by
    have hs : args.size = 5 := by simpa [Cond.value, given_1] using g0
    obtain ⟨L⟩ := args
    match L, hs with
    | [w0, w1, w2, w3, w4], _ => exact ⟨w0, w1, w2, w3, w4, rfl⟩
  have hw := fun d (hd : d ∈ tables_1) => atoms_spec (ws := Jvm.Cond.code x code maxLocals ret :: tables_1) hat d (List.mem_cons_of_mem _ hd)
  obtain ⟨i0, ei0⟩ := is_v q0
  obtain rfl : w0 = (.int i0) := Option.some.inj ei0
  obtain ⟨i1, ei1⟩ := is_v q1
  obtain rfl : w1 = (.int i1) := Option.some.inj ei1
  obtain ⟨i2, ei2⟩ := is_v q2
  obtain rfl : w2 = (.int i2) := Option.some.inj ei2
  obtain ⟨i3, ei3⟩ := is_v q3
  obtain rfl : w3 = (.int i3) := Option.some.inj ei3
  obtain ⟨i4, ei4⟩ := is_v r4
  obtain rfl : w4 = (.int i4) := Option.some.inj ei4
  obtain ⟨n, o, h1, h2, h3, _, L, rfl, ⟨rfl, N⟩, hq⟩ := rm0 l s _ hw tables_1 i0 i1 i2 i3 i4 s.heap s.heap.size (Nat.le_refl _) p e ha hc hk s m _ below hf ((Spec.applies_iff_loose hf).mp happ).1 ⟨rfl, State.Warmed39.refl s, rfl⟩ trivial
  refine ⟨n, _, h1, h2, h3, hpost _ _ _ _ _ _ ⟨Cond.after_iff.mpr rfl, Cond.after_iff.mpr (eq_i res_at (Term.int_eval (1)) rfl), trivial⟩ ⟨hq.1, hq.2.1, (hq.2.2.sift fun y hy => Or.inr (N y hy)).mono (by decide) (by decide)⟩⟩
theorem main_1_1 : Claimed_1_1 := comes_1 fun _ _ _ _ _ _ h hF => ⟨h.1, hF⟩
theorem main_1_2 : Claimed_1_2 := comes_1 fun _ _ _ _ _ _ h hF => ⟨h.2.1, hF⟩
end Jvm.Pilot.@@N@@
namespace Jvm.Pilot.@@N@@
open Jvm Jvm.ClassFile Sem Op Lib Jvm.Free Jvm.Stand Jvm.Pilot.@@N@@.Jvm.D
/-! MADE BY PROGRAM (witnessworld.py) out of the Statement's table words and the real class files: 9 classes; the members and pool entries that the words name. The judged class is class 1, her method 2. -/
namespace start1
open Jvm.ClassFile
def u (s : String) : CpInfo := .utf8 (stringToUtf16 s)
/-- a pool by its gaps: so many unusable entries, then the entry; so many at the end -/
def gap : Nat → List CpInfo → List CpInfo
  | 0, r => r
  | n + 1, r => .unusable :: gap n r
def poolList (es : List (Nat × CpInfo)) (last : Nat) : List CpInfo := es.foldr (fun e r => gap e.1 (e.2 :: r)) (gap last [])
def pool (es : List (Nat × CpInfo)) (last : Nat) : Array CpInfo := ⟨poolList es last⟩
def fileOf (pool : Array CpInfo) (this : Nat) (attrs : Array Attribute := #[]) (ms : Array MethodInfo := #[]) (fl : Nat := 33) (sup : Nat := 0) (ifs : Array Nat := #[]) (fds : Array FieldInfo := #[]) : ClassFile where
  minorVersion := 0
  majorVersion := 65
  constantPool := pool
  accessFlags := fl
  thisClass := this
  superClass := sup
  interfaces := ifs
  fields := fds
  methods := ms
  attributes := attrs
def plain (name : String) (sup : Option ClassId) : Class where
  name := name
  kind := .ordinary
  loader := none
  accessFlags := 33
  super := sup
  interfaces := #[]
  cf := none
  fields := #[]
  methods := #[]
  instanceTypes := #[]
  staticTypes := #[]
  resolved := #[]
  callSites := []
  init := .initialized
  statics := none
  mirror := none

def pool0 : Array CpInfo := pool [(5, u "<init>"), (0, u "()V"), (1, .class_ 10), (1, u "java/lang/Object"), (85, u "clone"), (0, u "()Ljava/lang/Object;")] 26

def k0m0 : Method := { name := "<init>", desc := "()V", sig := { parameters := [], returnType := none }, accessFlags := 1, code := none }
def k0m1 : Method := { name := "clone", desc := "()Ljava/lang/Object;", sig := { parameters := [], returnType := some (.object "java/lang/Object") }, accessFlags := 260, code := none }
/-- java/lang/Object -/
def k0 : Class := { plain "java/lang/Object" none with
  accessFlags := 33
  interfaces := #[]
  cf := some (fileOf pool0 8 #[] #[{ accessFlags := 1, nameIndex := 5, descriptorIndex := 6, attributes := #[] }, { accessFlags := 260, nameIndex := 96, descriptorIndex := 97, attributes := #[] }] 33 0 #[] #[])
  fields := #[]
  methods := #[k0m0, k0m1]
  instanceTypes := #[]
  staticTypes := #[]
  resolved := Array.replicate 124 none
  statics := none }

def pool1 : Array CpInfo := pool [(2, .class_ 4), (1, u "java/lang/Object"), (0, u "<init>"), (0, u "()V"), (0, .integer 2147483647), (0, .methodref 9 10), (0, .class_ 11), (0, .nameAndType 12 13), (0, u "com/example/shoalwater/shoalwater/store/Keys"), (0, u "pastPrefix"), (0, u "([B)[B"), (0, .methodref 15 16), (0, .class_ 17), (0, .nameAndType 18 19), (0, u "com/example/shoalwater/shoalwater/store/KeysPastPrefixPinLaw"), (0, u "keeps"), (0, u "([BIII)Z"), (3, u "law"), (0, u "(IIIII)Z")] 4

def k1m0 : Method := { name := "<init>", desc := "()V", sig := { parameters := [], returnType := none }, accessFlags := 2, code := none }
def k1c1 : Code := { maxStack := 3, maxLocals := 4, code := method_2_code, exceptionTable := #[], attributes := #[] }
def k1m1 : Method := { name := "keeps", desc := "([BIII)Z", sig := { parameters := [(.array .byte), .int, .int, .int], returnType := some .boolean }, accessFlags := 10, code := some k1c1 }
def k1c2 : Code := { maxStack := 4, maxLocals := 12, code := code, exceptionTable := #[], attributes := #[] }
def k1m2 : Method := { name := "law", desc := "(IIIII)Z", sig := { parameters := [.int, .int, .int, .int, .int], returnType := some .boolean }, accessFlags := 9, code := some k1c2 }
/-- com/example/shoalwater/shoalwater/store/KeysPastPrefixPinLaw -/
def k1 : Class := { plain "com/example/shoalwater/shoalwater/store/KeysPastPrefixPinLaw" (some 0) with
  accessFlags := 49
  interfaces := #[]
  cf := some (fileOf pool1 15 #[] #[{ accessFlags := 2, nameIndex := 5, descriptorIndex := 6, attributes := #[] }, { accessFlags := 10, nameIndex := 18, descriptorIndex := 19, attributes := #[] }, { accessFlags := 9, nameIndex := 23, descriptorIndex := 24, attributes := #[] }] 49 2 #[] #[])
  fields := #[]
  methods := #[k1m0, k1m1, k1m2]
  instanceTypes := #[]
  staticTypes := #[]
  resolved := Array.replicate 29 none
  statics := none }

def pool2 : Array CpInfo := pool [(2, .class_ 4), (1, u "java/lang/Object"), (0, u "<init>"), (0, u "()V"), (28, .methodref 36 37), (0, .class_ 38), (0, .nameAndType 39 40), (0, u "[B"), (0, u "clone"), (0, u "()Ljava/lang/Object;"), (0, .class_ 42), (0, u "com/example/shoalwater/shoalwater/store/Keys"), (9, u "pastPrefix"), (0, u "([B)[B")] 2

def k2m0 : Method := { name := "<init>", desc := "()V", sig := { parameters := [], returnType := none }, accessFlags := 2, code := none }
def k2c1 : Code := { maxStack := 4, maxLocals := 2, code := prog_20_method_5_code, exceptionTable := #[], attributes := #[] }
def k2m1 : Method := { name := "pastPrefix", desc := "([B)[B", sig := { parameters := [(.array .byte)], returnType := some (.array .byte) }, accessFlags := 8, code := some k2c1 }
/-- com/example/shoalwater/shoalwater/store/Keys -/
def k2 : Class := { plain "com/example/shoalwater/shoalwater/store/Keys" (some 0) with
  accessFlags := 48
  interfaces := #[]
  cf := some (fileOf pool2 41 #[] #[{ accessFlags := 2, nameIndex := 5, descriptorIndex := 6, attributes := #[] }, { accessFlags := 8, nameIndex := 52, descriptorIndex := 53, attributes := #[] }] 48 2 #[] #[])
  fields := #[]
  methods := #[k2m0, k2m1]
  instanceTypes := #[]
  staticTypes := #[]
  resolved := Array.replicate 56 none
  statics := none }

def pool3 : Array CpInfo := pool [(1, .class_ 2), (0, u "java/lang/Cloneable"), (0, .class_ 4), (0, u "java/lang/Object")] 2

/-- java/lang/Cloneable -/
def k3 : Class := { plain "java/lang/Cloneable" (some 0) with
  accessFlags := 1537
  interfaces := #[]
  cf := some (fileOf pool3 1 #[] #[] 1537 3 #[] #[])
  fields := #[]
  methods := #[]
  instanceTypes := #[]
  staticTypes := #[]
  resolved := Array.replicate 7 none
  statics := none }

def pool4 : Array CpInfo := pool [(1, u "java/io/Serializable"), (0, .class_ 1), (0, u "java/lang/Object"), (0, .class_ 3)] 3

/-- java/io/Serializable -/
def k4 : Class := { plain "java/io/Serializable" (some 0) with
  accessFlags := 1537
  interfaces := #[]
  cf := some (fileOf pool4 2 #[] #[] 1537 4 #[] #[])
  fields := #[]
  methods := #[]
  instanceTypes := #[]
  staticTypes := #[]
  resolved := Array.replicate 8 none
  statics := none }

/-- the primitive byte -/
def k5 : Class := { plain "byte" none with kind := .primitive 'B', accessFlags := 0x411 }
/-- [B -/
def k6 : Class := { plain "[B" (some 0) with kind := .array 5 .byte, interfaces := #[3, 4], accessFlags := 1041 }

/-- the primitive int -/
def k7 : Class := { plain "int" none with kind := .primitive 'I', accessFlags := 0x411 }
/-- [I -/
def k8 : Class := { plain "[I" (some 0) with kind := .array 7 .int, interfaces := #[3, 4], accessFlags := 1041 }

def heap : Heap := #[]
def classes : Array Class := #[k0, k1, k2, k3, k4, k5, k6, k7, k8]
def interned : List (Array UInt16 × Addr) := []
def slotsUsed : Nat := 0
def theMethod : MethodId := ⟨1, 2⟩
def args0 : Array Value := #[.int 8, .int 7, .int 2, .int 12, .int 14]
def aboutOver (below : List Frame) : State where
  vm := { classes := classes, interned := interned.toArray }
  heap := heap
  slotsUsed := slotsUsed
  threads := #[{ frames := .invoking theMethod args0 :: below }]
def below0 : List Frame := [.native { method := ⟨0, 0⟩, args := #[] }]
def about1 : State := aboutOver below0
def p0 : Program := .bare "" "" ""
def e0 : Env := launch0.env 0 0 0
theorem w_frames : about1.frames = Frame.invoking theMethod args0 :: below0 := rfl
set_option maxRecDepth 65536 in
theorem w_args : argsFit about1.vm theMethod args0 = true := by decide +kernel
set_option maxRecDepth 65536 in
theorem w_heap : heapFits about1 = true := by decide +kernel
set_option maxRecDepth 65536 in
theorem w_runnable : about1.curStatus? = some .runnable := by decide +kernel
set_option maxRecDepth 65536 in
theorem w_alone : about1.alone = true := by decide +kernel
set_option maxRecDepth 65536 in
theorem w_named : about1.methodNamed? x = some theMethod := by decide +kernel
set_option maxRecDepth 65536 in
theorem w_hears : about1.hears theMethod below0 = true := by decide +kernel
set_option maxRecDepth 65536 in
theorem w_ripe : about1.ripe theMethod args0 below0 = true := by decide +kernel
theorem w_running : about1.status = .running := rfl
set_option maxRecDepth 65536 in
theorem w_room : about1.hasRoom e0.platform room_1 = true :=
  launch0.hasRoom_least _ room_1 (by decide +kernel) (by decide +kernel) (by decide +kernel) (by decide +kernel) (by decide +kernel) (by decide +kernel)
theorem allAtoms_all (ts : List Jvm.Cond) (a : Array Jvm.Value) (st : Jvm.State) : (allAtoms ts).before a st = ts.all (fun c => c.before a st) := by
  induction ts with
  | nil => rfl
  | cons c t ih =>
    show (Jvm.Cond.and c (allAtoms t)).before a st = _
    rw [Jvm.Cond.before_and, ih, List.all_cons]
def words1 : List Jvm.Cond := Jvm.Cond.code x code maxLocals ret :: tables_1
/-- a 'code' word, met by the world's own term for the bytes: nothing is compared byte by byte -/
theorem code_word {y : MethodName} {bytes : ByteArray} {mx : Nat} {rt : Option FieldType} {a : Array Value} {s : State} {m : MethodId} {meth : Method} {c : Code} (h1 : s.methodNamed? y = some m) (h2 : s.vm.method? m = some meth) (h3 : meth.code = some c) (h4 : c.code = bytes)
    (h5 : (c.maxLocals == mx && c.exceptionTable.isEmpty && decide (c.maxStack ≤ mostOperands) && decide (meth.sig.returnType = rt) && !meth.locks && decide (parseMethodDescriptor y.desc = some meth.sig)) = true) : (Jvm.Cond.code y bytes mx rt).before a s = true := by
  simp only [Bool.and_eq_true, beq_iff_eq, Bool.not_eq_true', decide_eq_true_eq] at h5
  obtain ⟨⟨⟨⟨⟨g1, g2⟩, g3⟩, g4⟩, g5⟩, g6⟩ := h5
  simp [Cond.before, Cond.holds, Cond.value, h1, h2, h3, h4, g1, g2, g3, g4, g5, g6]
def isCode : Jvm.Cond → Bool
  | .code _ _ _ _ => true
  | _ => false
theorem all_split {L : List Jvm.Cond} {P : Jvm.Cond → Bool} (h1 : L.all (fun c => isCode c || P c) = true) (h2 : ∀ c ∈ L.filter isCode, P c = true) : L.all P = true := by
  refine List.all_eq_true.mpr fun c hc => ?_
  have h := List.all_eq_true.mp h1 c hc
  rcases Bool.eq_false_or_eq_true (isCode c) with hi | hi
  · exact h2 c (List.mem_filter.mpr ⟨hc, hi⟩)
  · simpa [hi] using h
set_option maxRecDepth 65536 in
theorem w_c0 : (Jvm.Cond.code x code maxLocals ret).before args0 about1 = true := code_word (m := ⟨1, 2⟩) (meth := k1m2) (c := k1c2) (by decide +kernel) rfl rfl rfl (by decide +kernel)
set_option maxRecDepth 65536 in
theorem w_c1 : (Jvm.Cond.code ({ cls := "com/example/shoalwater/shoalwater/store/Keys", name := "pastPrefix", desc := "([B)[B" } : Jvm.MethodName) prog_20_method_5_code (2 : Nat) (Option.some (Jvm.ClassFile.FieldType.array Jvm.ClassFile.FieldType.byte))).before args0 about1 = true := code_word (m := ⟨2, 1⟩) (meth := k2m1) (c := k2c1) (by decide +kernel) rfl rfl rfl (by decide +kernel)
set_option maxRecDepth 65536 in
theorem w_c2 : (Jvm.Cond.code ({ cls := "com/example/shoalwater/shoalwater/store/KeysPastPrefixPinLaw", name := "keeps", desc := "([BIII)Z" } : Jvm.MethodName) method_2_code (4 : Nat) (Option.some Jvm.ClassFile.FieldType.boolean)).before args0 about1 = true := code_word (m := ⟨1, 1⟩) (meth := k1m1) (c := k1c1) (by decide +kernel) rfl rfl rfl (by decide +kernel)
def codes1 : List Jvm.Cond := [Jvm.Cond.code x code maxLocals ret, Jvm.Cond.code ({ cls := "com/example/shoalwater/shoalwater/store/Keys", name := "pastPrefix", desc := "([B)[B" } : Jvm.MethodName) prog_20_method_5_code (2 : Nat) (Option.some (Jvm.ClassFile.FieldType.array Jvm.ClassFile.FieldType.byte)), Jvm.Cond.code ({ cls := "com/example/shoalwater/shoalwater/store/KeysPastPrefixPinLaw", name := "keeps", desc := "([BIII)Z" } : Jvm.MethodName) method_2_code (4 : Nat) (Option.some Jvm.ClassFile.FieldType.boolean)]
set_option maxRecDepth 65536 in
theorem codes_eq : words1.filter isCode = codes1 := rfl
theorem w_codes : ∀ c ∈ words1.filter isCode, c.before args0 about1 = true := by
  rw [codes_eq]
  intro c hc
  simp only [codes1, List.mem_cons, List.not_mem_nil, or_false] at hc
  rcases hc with rfl | rfl | rfl
  · exact w_c0
  · exact w_c1
  · exact w_c2
set_option maxRecDepth 65536 in
theorem w_t1 : words1.all (fun c => isCode c || c.before args0 about1) = true := by decide +kernel
theorem w_tables : (allAtoms (Jvm.Cond.code x code maxLocals ret :: tables_1)).before args0 about1 = true := by
  rw [allAtoms_all]
  show words1.all (fun c => c.before args0 about1) = true
  refine all_split ?_ w_codes
  rw [w_t1]
set_option maxRecDepth 65536 in
theorem w_case : (Jvm.Cond.and given_1 narrow_1).before args0 about1 = true := by decide +kernel
theorem w_applies : (headSpec (Jvm.Cond.code x code maxLocals ret :: tables_1) room_1).applies x e0.platform about1 = true :=
  (Spec.applies_iff w_frames).mpr ⟨w_running, w_runnable, w_alone, w_named, w_hears, w_ripe, w_room, w_tables⟩
theorem atStart : AtStart classFile x code maxLocals ret World_1 tables_1 room_1 Calls_1 rest_1 Pre_1 launch0 p0 e0 about1 theMethod args0 below0 :=
  ⟨lists_1, trivial, launch0.admits_env _ _ _, launch0.least_env, fairChoices_fair.cas, fairChoices_fair.clock, w_frames, w_args, w_heap, w_applies, trivial, trivial, w_case⟩
end start1
theorem witness_1 : WitnessClaimed_1 := ⟨start1.p0, start1.e0, start1.about1, start1.theMethod, start1.args0, start1.below0, start1.atStart⟩
end Jvm.Pilot.@@N@@

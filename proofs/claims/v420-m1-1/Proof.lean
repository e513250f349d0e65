import JvmDerived
import JvmDerived.Pilot.@@N@@Statement
import JvmDerived.Pilot.@@N@@Code
set_option linter.unusedVariables false
set_option linter.unusedSimpArgs false
namespace Jvm.RoadKit
open Sem ClassFile Op Lib Jvm.Stand Jvm.Free Jvm.LawKit
section New
variable {p : Program} {l : Launch} {e : Env} {R : Room} {s : State} {m : MethodId} {args : Array Value} {below : List Frame} {meth : Method} {c : Code} {T : State} {locs : List Loc} {cells slots : Nat}
theorem retI (X : Stand p l e R s m args below meth c T locs cells slots) (hx : p.tables.exec = Jvm.exec) {pc : Nat} {Ls : Array Slot} {z : Int32} {rest : List Value} (hret : meth.sig.returnType = some .int) (hd : decode c.code pc = .ok (.ireturn, 1)) {fs : List Frame}
    (hl : ∀ (f : JFrame) (acts : List Action), f.method = m → f.locked = none → f.entered = [] → (doReturn e (T.setTop f) acts (some (.int z))).1 = T.setFrames fs) : Steps p.tables e below (T.setTop (mkF m pc Ls (.int z :: rest))) (T.setFrames fs) := by
  have hm' : T.vm.method? m = some meth := X.method'
  have hn : narrow .int (.int z) = .int z := rfl
  show Steps p.tables e below (T.setTop { method := m, pc := pc, locals := Ls, stack := _ :: rest, locked := none }) _
  jvm_step X.here [X.here.top, hx, hd, hm', hret, hn]
  first | (intro acts; rw [hl _ acts rfl rfl rfl]) | rw [hl _ _ rfl rfl rfl]
  exact Steps.refl _
end New
end Jvm.RoadKit
namespace Jvm.Pilot.@@N@@
open Jvm Jvm.ClassFile Sem Op Lib Jvm.Free Jvm.Stand Jvm.LawKit Jvm.RoadKit Bundle Jvm.Pilot.@@N@@.Jvm.D
theorem d1_0 : decode prog_10_method_1_code 0 = .ok (.aload_n 0, 1) := by decide +kernel
theorem d1_1 : decode prog_10_method_1_code 1 = .ok (.invokespecial 1, 3) := by decide +kernel
theorem d1_4 : decode prog_10_method_1_code 4 = .ok (.return_, 1) := by decide +kernel
theorem d3_0 : decode prog_10_method_3_code 0 = .ok (.aload_n 0, 1) := by decide +kernel
theorem d3_1 : decode prog_10_method_3_code 1 = .ok (.iload_n 1, 1) := by decide +kernel
theorem d3_2 : decode prog_10_method_3_code 2 = .ok (.ifCond .eq 7, 3) := by decide +kernel
theorem d3_5 : decode prog_10_method_3_code 5 = .ok (.iconst 0, 1) := by decide +kernel
theorem d3_6 : decode prog_10_method_3_code 6 = .ok (.goto 9, 3) := by decide +kernel
theorem d3_9 : decode prog_10_method_3_code 9 = .ok (.aload_n 0, 1) := by decide +kernel
theorem d3_10 : decode prog_10_method_3_code 10 = .ok (.getfield 7, 3) := by decide +kernel
theorem d3_13 : decode prog_10_method_3_code 13 = .ok (.iconst 1, 1) := by decide +kernel
theorem d3_14 : decode prog_10_method_3_code 14 = .ok (.iadd, 1) := by decide +kernel
theorem d3_15 : decode prog_10_method_3_code 15 = .ok (.putfield 7, 3) := by decide +kernel
theorem d3_18 : decode prog_10_method_3_code 18 = .ok (.return_, 1) := by decide +kernel
theorem d4_0 : decode prog_10_method_2_code 0 = .ok (.aload_n 0, 1) := by decide +kernel
theorem d4_1 : decode prog_10_method_2_code 1 = .ok (.getfield 7, 3) := by decide +kernel
theorem d4_4 : decode prog_10_method_2_code 4 = .ok (.iconst 2, 1) := by decide +kernel
theorem d4_5 : decode prog_10_method_2_code 5 = .ok (.if_icmp .ge 5, 3) := by decide +kernel
theorem d4_8 : decode prog_10_method_2_code 8 = .ok (.iconst 0, 1) := by decide +kernel
theorem d4_9 : decode prog_10_method_2_code 9 = .ok (.ireturn, 1) := by decide +kernel
theorem d4_10 : decode prog_10_method_2_code 10 = .ok (.aload_n 0, 1) := by decide +kernel
theorem d4_11 : decode prog_10_method_2_code 11 = .ok (.dup, 1) := by decide +kernel
theorem d4_12 : decode prog_10_method_2_code 12 = .ok (.getfield 13, 3) := by decide +kernel
theorem d4_15 : decode prog_10_method_2_code 15 = .ok (.iconst 1, 1) := by decide +kernel
theorem d4_16 : decode prog_10_method_2_code 16 = .ok (.iadd, 1) := by decide +kernel
theorem d4_17 : decode prog_10_method_2_code 17 = .ok (.dup_x1, 1) := by decide +kernel
theorem d4_18 : decode prog_10_method_2_code 18 = .ok (.putfield 13, 3) := by decide +kernel
theorem d4_21 : decode prog_10_method_2_code 21 = .ok (.bipush 8, 2) := by decide +kernel
theorem d4_23 : decode prog_10_method_2_code 23 = .ok (.if_icmp .ge 5, 3) := by decide +kernel
theorem d4_26 : decode prog_10_method_2_code 26 = .ok (.iconst 2, 1) := by decide +kernel
theorem d4_27 : decode prog_10_method_2_code 27 = .ok (.ireturn, 1) := by decide +kernel
theorem d4_28 : decode prog_10_method_2_code 28 = .ok (.aload_n 0, 1) := by decide +kernel
theorem d4_29 : decode prog_10_method_2_code 29 = .ok (.iconst 0, 1) := by decide +kernel
theorem d4_30 : decode prog_10_method_2_code 30 = .ok (.putfield 13, 3) := by decide +kernel
theorem d4_33 : decode prog_10_method_2_code 33 = .ok (.iconst 1, 1) := by decide +kernel
theorem d4_34 : decode prog_10_method_2_code 34 = .ok (.ireturn, 1) := by decide +kernel
theorem d5_0 : decode method_2_code 0 = .ok (.iload_n 0, 1) := by decide +kernel
theorem d5_1 : decode method_2_code 1 = .ok (.ifCond .ne 5, 3) := by decide +kernel
theorem d5_4 : decode method_2_code 4 = .ok (.iconst 0, 1) := by decide +kernel
theorem d5_5 : decode method_2_code 5 = .ok (.ireturn, 1) := by decide +kernel
theorem d5_6 : decode method_2_code 6 = .ok (.iload_n 1, 1) := by decide +kernel
theorem d5_7 : decode method_2_code 7 = .ok (.bipush 8, 2) := by decide +kernel
theorem d5_9 : decode method_2_code 9 = .ok (.irem, 1) := by decide +kernel
theorem d5_10 : decode method_2_code 10 = .ok (.ifCond .ne 5, 3) := by decide +kernel
theorem d5_13 : decode method_2_code 13 = .ok (.iconst 1, 1) := by decide +kernel
theorem d5_14 : decode method_2_code 14 = .ok (.ireturn, 1) := by decide +kernel
theorem d5_15 : decode method_2_code 15 = .ok (.iconst 2, 1) := by decide +kernel
theorem d5_16 : decode method_2_code 16 = .ok (.ireturn, 1) := by decide +kernel
theorem pn_w : plainName "com/example/latchpost/latchpost/IdleWatch" = true := by first | (simp [plainName, overriddenIn]; done) | decide +kernel
theorem pn_0 : plainName "com/example/latchpost/latchpost/IdleWatchPlanPinLaw" = true := by first | (simp [plainName, overriddenIn]; done) | decide +kernel
theorem pd_v : parseMethodDescriptor "()V" = some ⟨[], none⟩ := by decide +kernel
theorem pd_z : parseMethodDescriptor "(Z)V" = some ⟨[.boolean], none⟩ := by decide +kernel
theorem pd_i : parseMethodDescriptor "()I" = some ⟨[], some .int⟩ := by decide +kernel
theorem pd_e : parseMethodDescriptor "(ZI)I" = some ⟨[.boolean, .int], some .int⟩ := by decide +kernel
theorem ef_1 (m : MethodId) (x0 : Addr) : entryFrame m #[(.ref x0)] 1 = mkF m 0 #[.val (.ref x0)] [] := by first | (simp [entryFrame, mkF, argsToLocals, Value.category]; done) | rfl
theorem ef_3 (m : MethodId) (x0 : Addr) (x1 : Int32) : entryFrame m #[(.ref x0), (.int x1)] 2 = mkF m 0 #[.val (.ref x0), .val (.int x1)] [] := by first | (simp [entryFrame, mkF, argsToLocals, Value.category]; done) | rfl
theorem ef_5 (m : MethodId) (x0 : Int32) (x1 : Int32) : entryFrame m #[(.int x0), (.int x1)] 2 = mkF m 0 #[.val (.int x0), .val (.int x1)] [] := by first | (simp [entryFrame, mkF, argsToLocals, Value.category]; done) | rfl
theorem ef_0 (m : MethodId) (x0 : Int32) : entryFrame m #[(.int x0)] 21 = mkF m 0 #[.val (.int x0), .unset, .unset, .unset, .unset, .unset, .unset, .unset, .unset, .unset, .unset, .unset, .unset, .unset, .unset, .unset, .unset, .unset, .unset, .unset, .unset] [] := by first | (simp [entryFrame, mkF, argsToLocals, Value.category]; done) | rfl
/-! what the four methods compute -/
def own_w (c mi : Int32) : Int32 := if c = 0 then mi + 1 else 0
def own_r (mi un : Int32) : Int32 := if mi < 2 then 0 else if un + 1 < 8 then 2 else 1
def own_u (mi un : Int32) : Int32 := if mi < 2 then un else if un + 1 < 8 then un + 1 else 0
def own_e (off k : Int32) : Int32 := if off = 0 then 0 else if k % 8 = 0 then 1 else 2
/-- the watch: its class, its two fields -/
def Ob (Z : State) (h : Heap) (a : Addr) (mi un : Int32) : Prop := Exa Z h a "com/example/latchpost/latchpost/IdleWatch" ∧ Fld Z h a "com/example/latchpost/latchpost/IdleWatch" "misses" "I" (.int mi) ∧ Fld Z h a "com/example/latchpost/latchpost/IdleWatch" "untimed" "I" (.int un)
theorem own_ne {Z : State} {a0 : Array Value} (hw : ∀ d ∈ tables_1, d.before a0 Z = true) : Jvm.RoadKit.slotOf Z "com/example/latchpost/latchpost/IdleWatch" "untimed" "I" ≠ Jvm.RoadKit.slotOf Z "com/example/latchpost/latchpost/IdleWatch" "misses" "I" :=
  slot_ne (t := .int) (t' := .int) (Or.inl (hw _ (List.mem_of_getElem? (i := 22) rfl))) (Or.inl (hw _ (List.mem_of_getElem? (i := 15) rfl))) (by decide) (by decide) (by decide)
def Q1 (h0 : Heap) (n0 : Nat) (v : Option Value) (h : Heap) (L : List Loc) : Prop := v = none ∧ Fr n0 L ∧ h = h0
set_option maxRecDepth 65536 in
set_option maxHeartbeats 40000000 in
theorem rm1 (l : Launch) (Z : State) (a0 : Array Value) (hw : ∀ d ∈ tables_1, d.before a0 Z = true) (ws : List Jvm.Cond) (a1 : Addr) (h0 : Heap) (n0 : Nat) :
    MetFree l (⟨"com/example/latchpost/latchpost/IdleWatch", "<init>", "()V"⟩ : MethodName) (head1 (Jvm.Cond.code (⟨"com/example/latchpost/latchpost/IdleWatch", "<init>", "()V"⟩ : MethodName) prog_10_method_1_code 1 none :: ws) ({ frames := 1, cells := 0, slots := 0, locals := 12 } : Room)) (fun a U => a = #[(.ref a1)] ∧ Z.Warmed39 U.vm ∧ U.heap = h0) (fun _ _ _ _ _ => True) (fun _ U o U' => ∃ v L, o = .returned v ∧ Q1 h0 n0 v U'.heap L ∧ FrameEnd U o U' L ({ frames := 1, cells := 0, slots := 0, locals := 12 } : Room).cells ({ frames := 1, cells := 0, slots := 0, locals := 12 } : Room).slots) := by
  refine MetFree.of_bodySF (plainFor_of_name pn_w) hisR ?_
  intro p e s m args below meth c s₁ Bd hml0 hP hK
  obtain ⟨rfl, hZ, hh⟩ := hP
  have hx := Bd.exec
  have hby := Bd.bytes
  have hml : c.maxLocals = 1 := hml0
  have hown : s.vm.findClass "com/example/latchpost/latchpost/IdleWatch" = some m.cls := findClass_of_methodNamed Bd.named
  have hnm := (name_of_methodNamed Bd.named Bd.method).1
  have X0 : Stand p l e ({ frames := 1, cells := 0, slots := 0, locals := 12 } : Room) s m #[(.ref a1)] below meth c s₁ [] 0 0 := Stand.of_body Bd
  have e0 : s₁.heap = h0 := by rw [← hh, Bd.state]; rfl
  have N0 := Fr.nil n0
  have pre0 : ∀ t, Steps p.tables e below (s₁.setTop (mkF m 0 #[.val (.ref a1)] [])) t → Steps p.tables e below (s₁.setTop (entryFrame m #[(.ref a1)] 1)) t := fun t k => castTop (ef_1 m a1) k
  obtain ⟨T2, X2, e2, st2⟩ := initO X0 hx hZ hown (hw _ (List.mem_of_getElem? (i := 6) rfl)) (hw _ (List.mem_of_getElem? (i := 7) rfl)) (hw _ (List.mem_of_getElem? (i := 8) rfl)) e0 (g := (mkF m 1 #[.val (.ref a1)] [(.ref a1)])) rfl (by rw [hml]; rfl) rfl (hb hby d1_1) (by decide) (W := 0) (by show 2 * 0 + _ ≤ _; exact Nat.le_of_eq rfl) (by decide)
  obtain ⟨fs, hr, hrun, hended, hW, hsame⟩ := X2.leave (v := none) (fun _ => rfl)
  refine ⟨_, _, pre0 _ ?_, hrun, hended, _, _, rfl, ?_, ⟨_, rfl⟩, hW, hsame.mono (by decide) (by decide)⟩
  · show Steps p.tables e below (s₁.setTop (mkF m 0 #[.val (.ref a1)] [])) _
    refine XS.aloadN X0.here hx rfl (hb hby d1_0) rfl rfl ?_
    show Steps p.tables e below (s₁.setTop (mkF m 1 #[.val (.ref a1)] [(.ref a1)])) _
    refine st2 _ ?_
    show Steps p.tables e below (T2.setTop (mkF m 4 #[.val (.ref a1)] [])) _
    exact X2.returnOut hx Bd.returns (hb hby d1_4) hr
  · show Q1 h0 n0 _ T2.heap _
    rw [e2]
    exact ⟨rfl, N0, rfl⟩
def Q3 (Z : State) (a1 : Addr) (p2 mi un : Int32) (n0 : Nat) (v : Option Value) (h : Heap) (L : List Loc) : Prop := v = none ∧ Fr n0 L ∧ Ob Z h a1 (own_w p2 mi) un
set_option maxRecDepth 65536 in
set_option maxHeartbeats 40000000 in
theorem rm3t (l : Launch) (Z : State) (a0 : Array Value) (hw : ∀ d ∈ tables_1, d.before a0 Z = true) (ws : List Jvm.Cond) (a1 : Addr) (p2 mi un : Int32) (h0 : Heap) (n0 : Nat) (O : Ob Z h0 a1 mi un) (g_a1 : n0 ≤ a1) (hc2 : p2 = (0 : Int32)) :
    MetFree l (⟨"com/example/latchpost/latchpost/IdleWatch", "watched", "(Z)V"⟩ : MethodName) (head1 (Jvm.Cond.code (⟨"com/example/latchpost/latchpost/IdleWatch", "watched", "(Z)V"⟩ : MethodName) prog_10_method_3_code 2 none :: ws) ({ frames := 0, cells := 0, slots := 0, locals := 0 } : Room)) (fun a U => a = #[(.ref a1), (.int p2)] ∧ Z.Warmed39 U.vm ∧ U.heap = h0) (fun _ _ _ _ _ => True) (fun _ U o U' => ∃ v L, o = .returned v ∧ Q3 Z a1 p2 mi un n0 v U'.heap L ∧ FrameEnd U o U' L ({ frames := 0, cells := 0, slots := 0, locals := 0 } : Room).cells ({ frames := 0, cells := 0, slots := 0, locals := 0 } : Room).slots) := by
  refine MetFree.of_bodySF (plainFor_of_name pn_w) hisR ?_
  intro p e s m args below meth c s₁ Bd hml0 hP hK
  obtain ⟨rfl, hZ, hh⟩ := hP
  have hx := Bd.exec
  have hby := Bd.bytes
  have hml : c.maxLocals = 2 := hml0
  have hown : s.vm.findClass "com/example/latchpost/latchpost/IdleWatch" = some m.cls := findClass_of_methodNamed Bd.named
  have hnm := (name_of_methodNamed Bd.named Bd.method).1
  have X0 : Stand p l e ({ frames := 0, cells := 0, slots := 0, locals := 0 } : Room) s m #[(.ref a1), (.int p2)] below meth c s₁ [] 0 0 := Stand.of_body Bd
  have e0 : s₁.heap = h0 := by rw [← hh, Bd.state]; rfl
  have N0 := Fr.nil n0
  have pre0 : ∀ t, Steps p.tables e below (s₁.setTop (mkF m 0 #[.val (.ref a1), .val (.int p2)] [])) t → Steps p.tables e below (s₁.setTop (entryFrame m #[(.ref a1), (.int p2)] 2)) t := fun t k => castTop (ef_3 m a1 p2) k
  obtain ⟨E_a, F_m, F_u⟩ := O
  obtain ⟨T4, X4, e4, st4⟩ := getF X0 hx hZ hown (host := "") (Or.inl (hw _ (List.mem_of_getElem? (i := 14) rfl))) Via.refl e0 F_m (g := (mkF m 10 #[.val (.ref a1), .val (.int p2)] [(.ref a1), (.ref a1)])) rfl rfl (hb hby d3_10)
  obtain ⟨T5, h5, X5, e5, W5, st5⟩ := putF X4 hx hZ hown (host := "") (Or.inl (hw _ (List.mem_of_getElem? (i := 14) rfl))) Via.refl e4 F_m E_a (Or.inl (hw _ (List.mem_of_getElem? (i := 15) rfl))) (hw _ (List.mem_of_getElem? (i := 1) rfl)) (ty := .int) (by decide) rfl rfl (g := (mkF m 15 #[.val (.ref a1), .val (.int p2)] [(.int (mi + (1 : Int32))), (.ref a1)])) rfl rfl (hb hby d3_15)
  have N5 := Fr.snoc X5 N0 g_a1
  obtain ⟨fs, hr, hrun, hended, hW, hsame⟩ := X5.leave (v := none) (fun _ => rfl)
  refine ⟨_, _, pre0 _ ?_, hrun, hended, _, _, rfl, ?_, ⟨_, rfl⟩, hW, hsame.mono (by decide) (by decide)⟩
  · show Steps p.tables e below (s₁.setTop (mkF m 0 #[.val (.ref a1), .val (.int p2)] [])) _
    refine XS.aloadN X0.here hx rfl (hb hby d3_0) rfl rfl ?_
    show Steps p.tables e below (s₁.setTop (mkF m 1 #[.val (.ref a1), .val (.int p2)] [(.ref a1)])) _
    refine XS.iloadN X0.here hx rfl (hb hby d3_1) rfl ?_
    show Steps p.tables e below (s₁.setTop (mkF m 2 #[.val (.ref a1), .val (.int p2)] [(.int p2), (.ref a1)])) _
    refine XS.ifYes X0.here hx rfl (pc0 := 2) (pc' := 9) rfl (hb hby d3_2) rfl ((if0 _ _).trans (teq hc2).1) (by decide) (by decide) ?_
    show Steps p.tables e below (s₁.setTop (mkF m 9 #[.val (.ref a1), .val (.int p2)] [(.ref a1)])) _
    refine XS.aloadN X0.here hx rfl (hb hby d3_9) rfl rfl ?_
    show Steps p.tables e below (s₁.setTop (mkF m 10 #[.val (.ref a1), .val (.int p2)] [(.ref a1), (.ref a1)])) _
    refine st4 _ ?_
    show Steps p.tables e below (T4.setTop (mkF m 13 #[.val (.ref a1), .val (.int p2)] [(.int mi), (.ref a1)])) _
    refine XS.iconst X4.here hx rfl (hb hby d3_13) ?_
    show Steps p.tables e below (T4.setTop (mkF m 14 #[.val (.ref a1), .val (.int p2)] [(.int (1 : Int32)), (.int mi), (.ref a1)])) _
    refine XS.iadd X4.here hx rfl (hb hby d3_14) rfl ?_
    show Steps p.tables e below (T4.setTop (mkF m 15 #[.val (.ref a1), .val (.int p2)] [(.int (mi + (1 : Int32))), (.ref a1)])) _
    refine st5 _ ?_
    show Steps p.tables e below (T5.setTop (mkF m 18 #[.val (.ref a1), .val (.int p2)] [])) _
    exact X5.returnOut hx Bd.returns (hb hby d3_18) hr
  · show Q3 Z a1 p2 mi un n0 _ T5.heap _
    rw [e5]
    refine ⟨rfl, N5, E_a.wr W5, ?_, F_u.other W5 (Or.inr (own_ne hw))⟩
    rw [own_w, if_pos hc2]
    exact F_m.same W5
set_option maxRecDepth 65536 in
set_option maxHeartbeats 40000000 in
theorem rm3f (l : Launch) (Z : State) (a0 : Array Value) (hw : ∀ d ∈ tables_1, d.before a0 Z = true) (ws : List Jvm.Cond) (a1 : Addr) (p2 mi un : Int32) (h0 : Heap) (n0 : Nat) (O : Ob Z h0 a1 mi un) (g_a1 : n0 ≤ a1) (hc2 : ¬ p2 = (0 : Int32)) :
    MetFree l (⟨"com/example/latchpost/latchpost/IdleWatch", "watched", "(Z)V"⟩ : MethodName) (head1 (Jvm.Cond.code (⟨"com/example/latchpost/latchpost/IdleWatch", "watched", "(Z)V"⟩ : MethodName) prog_10_method_3_code 2 none :: ws) ({ frames := 0, cells := 0, slots := 0, locals := 0 } : Room)) (fun a U => a = #[(.ref a1), (.int p2)] ∧ Z.Warmed39 U.vm ∧ U.heap = h0) (fun _ _ _ _ _ => True) (fun _ U o U' => ∃ v L, o = .returned v ∧ Q3 Z a1 p2 mi un n0 v U'.heap L ∧ FrameEnd U o U' L ({ frames := 0, cells := 0, slots := 0, locals := 0 } : Room).cells ({ frames := 0, cells := 0, slots := 0, locals := 0 } : Room).slots) := by
  refine MetFree.of_bodySF (plainFor_of_name pn_w) hisR ?_
  intro p e s m args below meth c s₁ Bd hml0 hP hK
  obtain ⟨rfl, hZ, hh⟩ := hP
  have hx := Bd.exec
  have hby := Bd.bytes
  have hml : c.maxLocals = 2 := hml0
  have hown : s.vm.findClass "com/example/latchpost/latchpost/IdleWatch" = some m.cls := findClass_of_methodNamed Bd.named
  have hnm := (name_of_methodNamed Bd.named Bd.method).1
  have X0 : Stand p l e ({ frames := 0, cells := 0, slots := 0, locals := 0 } : Room) s m #[(.ref a1), (.int p2)] below meth c s₁ [] 0 0 := Stand.of_body Bd
  have e0 : s₁.heap = h0 := by rw [← hh, Bd.state]; rfl
  have N0 := Fr.nil n0
  have pre0 : ∀ t, Steps p.tables e below (s₁.setTop (mkF m 0 #[.val (.ref a1), .val (.int p2)] [])) t → Steps p.tables e below (s₁.setTop (entryFrame m #[(.ref a1), (.int p2)] 2)) t := fun t k => castTop (ef_3 m a1 p2) k
  obtain ⟨E_a, F_m, F_u⟩ := O
  obtain ⟨T5, h5, X5, e5, W5, st5⟩ := putF X0 hx hZ hown (host := "") (Or.inl (hw _ (List.mem_of_getElem? (i := 14) rfl))) Via.refl e0 F_m E_a (Or.inl (hw _ (List.mem_of_getElem? (i := 15) rfl))) (hw _ (List.mem_of_getElem? (i := 1) rfl)) (ty := .int) (by decide) rfl rfl (g := (mkF m 15 #[.val (.ref a1), .val (.int p2)] [(.int (0 : Int32)), (.ref a1)])) rfl rfl (hb hby d3_15)
  have N5 := Fr.snoc X5 N0 g_a1
  obtain ⟨fs, hr, hrun, hended, hW, hsame⟩ := X5.leave (v := none) (fun _ => rfl)
  refine ⟨_, _, pre0 _ ?_, hrun, hended, _, _, rfl, ?_, ⟨_, rfl⟩, hW, hsame.mono (by decide) (by decide)⟩
  · show Steps p.tables e below (s₁.setTop (mkF m 0 #[.val (.ref a1), .val (.int p2)] [])) _
    refine XS.aloadN X0.here hx rfl (hb hby d3_0) rfl rfl ?_
    show Steps p.tables e below (s₁.setTop (mkF m 1 #[.val (.ref a1), .val (.int p2)] [(.ref a1)])) _
    refine XS.iloadN X0.here hx rfl (hb hby d3_1) rfl ?_
    show Steps p.tables e below (s₁.setTop (mkF m 2 #[.val (.ref a1), .val (.int p2)] [(.int p2), (.ref a1)])) _
    refine XS.ifNo X0.here hx rfl (hb hby d3_2) rfl ((if0 _ _).trans (feq hc2).1) ?_
    show Steps p.tables e below (s₁.setTop (mkF m 5 #[.val (.ref a1), .val (.int p2)] [(.ref a1)])) _
    refine XS.iconst X0.here hx rfl (hb hby d3_5) ?_
    show Steps p.tables e below (s₁.setTop (mkF m 6 #[.val (.ref a1), .val (.int p2)] [(.int (0 : Int32)), (.ref a1)])) _
    refine XS.goto X0.here hx rfl (pc0 := 6) (pc' := 15) rfl (hb hby d3_6) (by decide) (by decide) ?_
    show Steps p.tables e below (s₁.setTop (mkF m 15 #[.val (.ref a1), .val (.int p2)] [(.int (0 : Int32)), (.ref a1)])) _
    refine st5 _ ?_
    show Steps p.tables e below (T5.setTop (mkF m 18 #[.val (.ref a1), .val (.int p2)] [])) _
    exact X5.returnOut hx Bd.returns (hb hby d3_18) hr
  · show Q3 Z a1 p2 mi un n0 _ T5.heap _
    rw [e5]
    refine ⟨rfl, N5, E_a.wr W5, ?_, F_u.other W5 (Or.inr (own_ne hw))⟩
    rw [own_w, if_neg hc2]
    exact F_m.same W5
theorem rm3 (l : Launch) (Z : State) (a0 : Array Value) (hw : ∀ d ∈ tables_1, d.before a0 Z = true) (ws : List Jvm.Cond) (a1 : Addr) (p2 mi un : Int32) (h0 : Heap) (n0 : Nat) (O : Ob Z h0 a1 mi un) (g_a1 : n0 ≤ a1) :
    MetFree l (⟨"com/example/latchpost/latchpost/IdleWatch", "watched", "(Z)V"⟩ : MethodName) (head1 (Jvm.Cond.code (⟨"com/example/latchpost/latchpost/IdleWatch", "watched", "(Z)V"⟩ : MethodName) prog_10_method_3_code 2 none :: ws) ({ frames := 0, cells := 0, slots := 0, locals := 0 } : Room)) (fun a U => a = #[(.ref a1), (.int p2)] ∧ Z.Warmed39 U.vm ∧ U.heap = h0) (fun _ _ _ _ _ => True) (fun _ U o U' => ∃ v L, o = .returned v ∧ Q3 Z a1 p2 mi un n0 v U'.heap L ∧ FrameEnd U o U' L ({ frames := 0, cells := 0, slots := 0, locals := 0 } : Room).cells ({ frames := 0, cells := 0, slots := 0, locals := 0 } : Room).slots) := by
  by_cases hc2 : p2 = (0 : Int32)
  · exact rm3t l Z a0 hw ws a1 p2 mi un h0 n0 O g_a1 hc2
  · exact rm3f l Z a0 hw ws a1 p2 mi un h0 n0 O g_a1 hc2
def Q4 (Z : State) (a1 : Addr) (mi un : Int32) (n0 : Nat) (v : Option Value) (h : Heap) (L : List Loc) : Prop := v = some (.int (own_r mi un)) ∧ Fr n0 L ∧ Ob Z h a1 mi (own_u mi un)
set_option maxRecDepth 65536 in
set_option maxHeartbeats 40000000 in
theorem rm4f (l : Launch) (Z : State) (a0 : Array Value) (hw : ∀ d ∈ tables_1, d.before a0 Z = true) (ws : List Jvm.Cond) (a1 : Addr) (mi un : Int32) (h0 : Heap) (n0 : Nat) (O : Ob Z h0 a1 mi un) (g_a1 : n0 ≤ a1) (hc5 : mi < (2 : Int32)) :
    MetFree l (⟨"com/example/latchpost/latchpost/IdleWatch", "plan", "()I"⟩ : MethodName) (head1 (Jvm.Cond.code (⟨"com/example/latchpost/latchpost/IdleWatch", "plan", "()I"⟩ : MethodName) prog_10_method_2_code 1 (some .int) :: ws) ({ frames := 0, cells := 0, slots := 0, locals := 0 } : Room)) (fun a U => a = #[(.ref a1)] ∧ Z.Warmed39 U.vm ∧ U.heap = h0) (fun _ _ _ _ _ => True) (fun _ U o U' => ∃ v L, o = .returned v ∧ Q4 Z a1 mi un n0 v U'.heap L ∧ FrameEnd U o U' L ({ frames := 0, cells := 0, slots := 0, locals := 0 } : Room).cells ({ frames := 0, cells := 0, slots := 0, locals := 0 } : Room).slots) := by
  refine MetFree.of_bodySF (plainFor_of_name pn_w) hisR ?_
  intro p e s m args below meth c s₁ Bd hml0 hP hK
  obtain ⟨rfl, hZ, hh⟩ := hP
  have hx := Bd.exec
  have hby := Bd.bytes
  have hml : c.maxLocals = 1 := hml0
  have hown : s.vm.findClass "com/example/latchpost/latchpost/IdleWatch" = some m.cls := findClass_of_methodNamed Bd.named
  have hnm := (name_of_methodNamed Bd.named Bd.method).1
  have X0 : Stand p l e ({ frames := 0, cells := 0, slots := 0, locals := 0 } : Room) s m #[(.ref a1)] below meth c s₁ [] 0 0 := Stand.of_body Bd
  have e0 : s₁.heap = h0 := by rw [← hh, Bd.state]; rfl
  have N0 := Fr.nil n0
  have pre0 : ∀ t, Steps p.tables e below (s₁.setTop (mkF m 0 #[.val (.ref a1)] [])) t → Steps p.tables e below (s₁.setTop (entryFrame m #[(.ref a1)] 1)) t := fun t k => castTop (ef_1 m a1) k
  obtain ⟨E_a, F_m, F_u⟩ := O
  obtain ⟨T3, X3, e3, st3⟩ := getF X0 hx hZ hown (host := "") (Or.inl (hw _ (List.mem_of_getElem? (i := 14) rfl))) Via.refl e0 F_m (g := (mkF m 1 #[.val (.ref a1)] [(.ref a1)])) rfl rfl (hb hby d4_1)
  obtain ⟨fs, hr, hrun, hended, hW, hsame⟩ := X3.leave (v := some (.int (0 : Int32))) (fun h => by rw [Bd.returns] at h; cases h)
  refine ⟨_, _, pre0 _ ?_, hrun, hended, _, _, rfl, ?_, ⟨_, rfl⟩, hW, hsame.mono (by decide) (by decide)⟩
  · show Steps p.tables e below (s₁.setTop (mkF m 0 #[.val (.ref a1)] [])) _
    refine XS.aloadN X0.here hx rfl (hb hby d4_0) rfl rfl ?_
    show Steps p.tables e below (s₁.setTop (mkF m 1 #[.val (.ref a1)] [(.ref a1)])) _
    refine st3 _ ?_
    show Steps p.tables e below (T3.setTop (mkF m 4 #[.val (.ref a1)] [(.int mi)])) _
    refine XS.iconst X3.here hx rfl (hb hby d4_4) ?_
    show Steps p.tables e below (T3.setTop (mkF m 5 #[.val (.ref a1)] [(.int (2 : Int32)), (.int mi)])) _
    refine XS.icmpNo X3.here hx rfl (hb hby d4_5) rfl (tlt hc5).2.1 ?_
    show Steps p.tables e below (T3.setTop (mkF m 8 #[.val (.ref a1)] [])) _
    refine XS.iconst X3.here hx rfl (hb hby d4_8) ?_
    show Steps p.tables e below (T3.setTop (mkF m 9 #[.val (.ref a1)] [(.int (0 : Int32))])) _
    exact retI X3 hx Bd.returns (hb hby d4_9) hr
  · show Q4 Z a1 mi un n0 _ T3.heap _
    rw [e3, Q4, Ob]
    rw [own_r, own_u, if_pos hc5, if_pos hc5]
    exact ⟨rfl, N0, E_a, F_m, F_u⟩
set_option maxRecDepth 65536 in
set_option maxHeartbeats 40000000 in
theorem rm4tf (l : Launch) (Z : State) (a0 : Array Value) (hw : ∀ d ∈ tables_1, d.before a0 Z = true) (ws : List Jvm.Cond) (a1 : Addr) (mi un : Int32) (h0 : Heap) (n0 : Nat) (O : Ob Z h0 a1 mi un) (g_a1 : n0 ≤ a1) (hc5 : ¬ mi < (2 : Int32)) (hc23 : un + (1 : Int32) < (8 : Int32)) :
    MetFree l (⟨"com/example/latchpost/latchpost/IdleWatch", "plan", "()I"⟩ : MethodName) (head1 (Jvm.Cond.code (⟨"com/example/latchpost/latchpost/IdleWatch", "plan", "()I"⟩ : MethodName) prog_10_method_2_code 1 (some .int) :: ws) ({ frames := 0, cells := 0, slots := 0, locals := 0 } : Room)) (fun a U => a = #[(.ref a1)] ∧ Z.Warmed39 U.vm ∧ U.heap = h0) (fun _ _ _ _ _ => True) (fun _ U o U' => ∃ v L, o = .returned v ∧ Q4 Z a1 mi un n0 v U'.heap L ∧ FrameEnd U o U' L ({ frames := 0, cells := 0, slots := 0, locals := 0 } : Room).cells ({ frames := 0, cells := 0, slots := 0, locals := 0 } : Room).slots) := by
  refine MetFree.of_bodySF (plainFor_of_name pn_w) hisR ?_
  intro p e s m args below meth c s₁ Bd hml0 hP hK
  obtain ⟨rfl, hZ, hh⟩ := hP
  have hx := Bd.exec
  have hby := Bd.bytes
  have hml : c.maxLocals = 1 := hml0
  have hown : s.vm.findClass "com/example/latchpost/latchpost/IdleWatch" = some m.cls := findClass_of_methodNamed Bd.named
  have hnm := (name_of_methodNamed Bd.named Bd.method).1
  have X0 : Stand p l e ({ frames := 0, cells := 0, slots := 0, locals := 0 } : Room) s m #[(.ref a1)] below meth c s₁ [] 0 0 := Stand.of_body Bd
  have e0 : s₁.heap = h0 := by rw [← hh, Bd.state]; rfl
  have N0 := Fr.nil n0
  have pre0 : ∀ t, Steps p.tables e below (s₁.setTop (mkF m 0 #[.val (.ref a1)] [])) t → Steps p.tables e below (s₁.setTop (entryFrame m #[(.ref a1)] 1)) t := fun t k => castTop (ef_1 m a1) k
  obtain ⟨E_a, F_m, F_u⟩ := O
  obtain ⟨T3, X3, e3, st3⟩ := getF X0 hx hZ hown (host := "") (Or.inl (hw _ (List.mem_of_getElem? (i := 14) rfl))) Via.refl e0 F_m (g := (mkF m 1 #[.val (.ref a1)] [(.ref a1)])) rfl rfl (hb hby d4_1)
  obtain ⟨T5, X5, e5, st5⟩ := getF X3 hx hZ hown (host := "") (Or.inl (hw _ (List.mem_of_getElem? (i := 21) rfl))) Via.refl e3 F_u (g := (mkF m 12 #[.val (.ref a1)] [(.ref a1), (.ref a1)])) rfl rfl (hb hby d4_12)
  obtain ⟨T6, h6, X6, e6, W6, st6⟩ := putF X5 hx hZ hown (host := "") (Or.inl (hw _ (List.mem_of_getElem? (i := 21) rfl))) Via.refl e5 F_u E_a (Or.inl (hw _ (List.mem_of_getElem? (i := 22) rfl))) (hw _ (List.mem_of_getElem? (i := 1) rfl)) (ty := .int) (by decide) rfl rfl (g := (mkF m 18 #[.val (.ref a1)] [(.int (un + (1 : Int32))), (.ref a1), (.int (un + (1 : Int32)))])) rfl rfl (hb hby d4_18)
  have Fw6 := F_u.same W6
  have N6 := Fr.snoc X6 N0 g_a1
  obtain ⟨fs, hr, hrun, hended, hW, hsame⟩ := X6.leave (v := some (.int (2 : Int32))) (fun h => by rw [Bd.returns] at h; cases h)
  refine ⟨_, _, pre0 _ ?_, hrun, hended, _, _, rfl, ?_, ⟨_, rfl⟩, hW, hsame.mono (by decide) (by decide)⟩
  · show Steps p.tables e below (s₁.setTop (mkF m 0 #[.val (.ref a1)] [])) _
    refine XS.aloadN X0.here hx rfl (hb hby d4_0) rfl rfl ?_
    show Steps p.tables e below (s₁.setTop (mkF m 1 #[.val (.ref a1)] [(.ref a1)])) _
    refine st3 _ ?_
    show Steps p.tables e below (T3.setTop (mkF m 4 #[.val (.ref a1)] [(.int mi)])) _
    refine XS.iconst X3.here hx rfl (hb hby d4_4) ?_
    show Steps p.tables e below (T3.setTop (mkF m 5 #[.val (.ref a1)] [(.int (2 : Int32)), (.int mi)])) _
    refine XS.icmpYes X3.here hx rfl (pc0 := 5) (pc' := 10) rfl (hb hby d4_5) rfl (flt hc5).2.1 (by decide) (by decide) ?_
    show Steps p.tables e below (T3.setTop (mkF m 10 #[.val (.ref a1)] [])) _
    refine XS.aloadN X3.here hx rfl (hb hby d4_10) rfl rfl ?_
    show Steps p.tables e below (T3.setTop (mkF m 11 #[.val (.ref a1)] [(.ref a1)])) _
    refine XS.dup X3.here hx rfl (hb hby d4_11) rfl rfl ?_
    show Steps p.tables e below (T3.setTop (mkF m 12 #[.val (.ref a1)] [(.ref a1), (.ref a1)])) _
    refine st5 _ ?_
    show Steps p.tables e below (T5.setTop (mkF m 15 #[.val (.ref a1)] [(.int un), (.ref a1)])) _
    refine XS.iconst X5.here hx rfl (hb hby d4_15) ?_
    show Steps p.tables e below (T5.setTop (mkF m 16 #[.val (.ref a1)] [(.int (1 : Int32)), (.int un), (.ref a1)])) _
    refine XS.iadd X5.here hx rfl (hb hby d4_16) rfl ?_
    show Steps p.tables e below (T5.setTop (mkF m 17 #[.val (.ref a1)] [(.int (un + (1 : Int32))), (.ref a1)])) _
    refine XS.dupX1 X5.here hx rfl (hb hby d4_17) rfl rfl rfl ?_
    show Steps p.tables e below (T5.setTop (mkF m 18 #[.val (.ref a1)] [(.int (un + (1 : Int32))), (.ref a1), (.int (un + (1 : Int32)))])) _
    refine st6 _ ?_
    show Steps p.tables e below (T6.setTop (mkF m 21 #[.val (.ref a1)] [(.int (un + (1 : Int32)))])) _
    refine XS.bipush X6.here hx rfl (hb hby d4_21) ?_
    show Steps p.tables e below (T6.setTop (mkF m 23 #[.val (.ref a1)] [(.int (8 : Int32)), (.int (un + (1 : Int32)))])) _
    refine XS.icmpNo X6.here hx rfl (hb hby d4_23) rfl (tlt hc23).2.1 ?_
    show Steps p.tables e below (T6.setTop (mkF m 26 #[.val (.ref a1)] [])) _
    refine XS.iconst X6.here hx rfl (hb hby d4_26) ?_
    show Steps p.tables e below (T6.setTop (mkF m 27 #[.val (.ref a1)] [(.int (2 : Int32))])) _
    exact retI X6 hx Bd.returns (hb hby d4_27) hr
  · show Q4 Z a1 mi un n0 _ T6.heap _
    rw [e6, Q4, Ob]
    rw [own_r, own_u, if_neg hc5, if_neg hc5, if_pos hc23, if_pos hc23]
    exact ⟨rfl, N6, E_a.wr W6, F_m.other W6 (Or.inr (own_ne hw).symm), Fw6⟩
set_option maxRecDepth 65536 in
set_option maxHeartbeats 40000000 in
theorem rm4tt (l : Launch) (Z : State) (a0 : Array Value) (hw : ∀ d ∈ tables_1, d.before a0 Z = true) (ws : List Jvm.Cond) (a1 : Addr) (mi un : Int32) (h0 : Heap) (n0 : Nat) (O : Ob Z h0 a1 mi un) (g_a1 : n0 ≤ a1) (hc5 : ¬ mi < (2 : Int32)) (hc23 : ¬ un + (1 : Int32) < (8 : Int32)) :
    MetFree l (⟨"com/example/latchpost/latchpost/IdleWatch", "plan", "()I"⟩ : MethodName) (head1 (Jvm.Cond.code (⟨"com/example/latchpost/latchpost/IdleWatch", "plan", "()I"⟩ : MethodName) prog_10_method_2_code 1 (some .int) :: ws) ({ frames := 0, cells := 0, slots := 0, locals := 0 } : Room)) (fun a U => a = #[(.ref a1)] ∧ Z.Warmed39 U.vm ∧ U.heap = h0) (fun _ _ _ _ _ => True) (fun _ U o U' => ∃ v L, o = .returned v ∧ Q4 Z a1 mi un n0 v U'.heap L ∧ FrameEnd U o U' L ({ frames := 0, cells := 0, slots := 0, locals := 0 } : Room).cells ({ frames := 0, cells := 0, slots := 0, locals := 0 } : Room).slots) := by
  refine MetFree.of_bodySF (plainFor_of_name pn_w) hisR ?_
  intro p e s m args below meth c s₁ Bd hml0 hP hK
  obtain ⟨rfl, hZ, hh⟩ := hP
  have hx := Bd.exec
  have hby := Bd.bytes
  have hml : c.maxLocals = 1 := hml0
  have hown : s.vm.findClass "com/example/latchpost/latchpost/IdleWatch" = some m.cls := findClass_of_methodNamed Bd.named
  have hnm := (name_of_methodNamed Bd.named Bd.method).1
  have X0 : Stand p l e ({ frames := 0, cells := 0, slots := 0, locals := 0 } : Room) s m #[(.ref a1)] below meth c s₁ [] 0 0 := Stand.of_body Bd
  have e0 : s₁.heap = h0 := by rw [← hh, Bd.state]; rfl
  have N0 := Fr.nil n0
  have pre0 : ∀ t, Steps p.tables e below (s₁.setTop (mkF m 0 #[.val (.ref a1)] [])) t → Steps p.tables e below (s₁.setTop (entryFrame m #[(.ref a1)] 1)) t := fun t k => castTop (ef_1 m a1) k
  obtain ⟨E_a, F_m, F_u⟩ := O
  obtain ⟨T3, X3, e3, st3⟩ := getF X0 hx hZ hown (host := "") (Or.inl (hw _ (List.mem_of_getElem? (i := 14) rfl))) Via.refl e0 F_m (g := (mkF m 1 #[.val (.ref a1)] [(.ref a1)])) rfl rfl (hb hby d4_1)
  obtain ⟨T5, X5, e5, st5⟩ := getF X3 hx hZ hown (host := "") (Or.inl (hw _ (List.mem_of_getElem? (i := 21) rfl))) Via.refl e3 F_u (g := (mkF m 12 #[.val (.ref a1)] [(.ref a1), (.ref a1)])) rfl rfl (hb hby d4_12)
  obtain ⟨T6, h6, X6, e6, W6, st6⟩ := putF X5 hx hZ hown (host := "") (Or.inl (hw _ (List.mem_of_getElem? (i := 21) rfl))) Via.refl e5 F_u E_a (Or.inl (hw _ (List.mem_of_getElem? (i := 22) rfl))) (hw _ (List.mem_of_getElem? (i := 1) rfl)) (ty := .int) (by decide) rfl rfl (g := (mkF m 18 #[.val (.ref a1)] [(.int (un + (1 : Int32))), (.ref a1), (.int (un + (1 : Int32)))])) rfl rfl (hb hby d4_18)
  have Fw6 := F_u.same W6
  have N6 := Fr.snoc X6 N0 g_a1
  obtain ⟨T7, h7, X7, e7, W7, st7⟩ := putF X6 hx hZ hown (host := "") (Or.inl (hw _ (List.mem_of_getElem? (i := 21) rfl))) Via.refl e6 Fw6 (E_a.wr W6) (Or.inl (hw _ (List.mem_of_getElem? (i := 22) rfl))) (hw _ (List.mem_of_getElem? (i := 1) rfl)) (ty := .int) (by decide) rfl rfl (g := (mkF m 30 #[.val (.ref a1)] [(.int (0 : Int32)), (.ref a1)])) rfl rfl (hb hby d4_30)
  have Fw7 := Fw6.same W7
  have N7 := Fr.snoc X7 N6 g_a1
  obtain ⟨fs, hr, hrun, hended, hW, hsame⟩ := X7.leave (v := some (.int (1 : Int32))) (fun h => by rw [Bd.returns] at h; cases h)
  refine ⟨_, _, pre0 _ ?_, hrun, hended, _, _, rfl, ?_, ⟨_, rfl⟩, hW, hsame.mono (by decide) (by decide)⟩
  · show Steps p.tables e below (s₁.setTop (mkF m 0 #[.val (.ref a1)] [])) _
    refine XS.aloadN X0.here hx rfl (hb hby d4_0) rfl rfl ?_
    show Steps p.tables e below (s₁.setTop (mkF m 1 #[.val (.ref a1)] [(.ref a1)])) _
    refine st3 _ ?_
    show Steps p.tables e below (T3.setTop (mkF m 4 #[.val (.ref a1)] [(.int mi)])) _
    refine XS.iconst X3.here hx rfl (hb hby d4_4) ?_
    show Steps p.tables e below (T3.setTop (mkF m 5 #[.val (.ref a1)] [(.int (2 : Int32)), (.int mi)])) _
    refine XS.icmpYes X3.here hx rfl (pc0 := 5) (pc' := 10) rfl (hb hby d4_5) rfl (flt hc5).2.1 (by decide) (by decide) ?_
    show Steps p.tables e below (T3.setTop (mkF m 10 #[.val (.ref a1)] [])) _
    refine XS.aloadN X3.here hx rfl (hb hby d4_10) rfl rfl ?_
    show Steps p.tables e below (T3.setTop (mkF m 11 #[.val (.ref a1)] [(.ref a1)])) _
    refine XS.dup X3.here hx rfl (hb hby d4_11) rfl rfl ?_
    show Steps p.tables e below (T3.setTop (mkF m 12 #[.val (.ref a1)] [(.ref a1), (.ref a1)])) _
    refine st5 _ ?_
    show Steps p.tables e below (T5.setTop (mkF m 15 #[.val (.ref a1)] [(.int un), (.ref a1)])) _
    refine XS.iconst X5.here hx rfl (hb hby d4_15) ?_
    show Steps p.tables e below (T5.setTop (mkF m 16 #[.val (.ref a1)] [(.int (1 : Int32)), (.int un), (.ref a1)])) _
    refine XS.iadd X5.here hx rfl (hb hby d4_16) rfl ?_
    show Steps p.tables e below (T5.setTop (mkF m 17 #[.val (.ref a1)] [(.int (un + (1 : Int32))), (.ref a1)])) _
    refine XS.dupX1 X5.here hx rfl (hb hby d4_17) rfl rfl rfl ?_
    show Steps p.tables e below (T5.setTop (mkF m 18 #[.val (.ref a1)] [(.int (un + (1 : Int32))), (.ref a1), (.int (un + (1 : Int32)))])) _
    refine st6 _ ?_
    show Steps p.tables e below (T6.setTop (mkF m 21 #[.val (.ref a1)] [(.int (un + (1 : Int32)))])) _
    refine XS.bipush X6.here hx rfl (hb hby d4_21) ?_
    show Steps p.tables e below (T6.setTop (mkF m 23 #[.val (.ref a1)] [(.int (8 : Int32)), (.int (un + (1 : Int32)))])) _
    refine XS.icmpYes X6.here hx rfl (pc0 := 23) (pc' := 28) rfl (hb hby d4_23) rfl (flt hc23).2.1 (by decide) (by decide) ?_
    show Steps p.tables e below (T6.setTop (mkF m 28 #[.val (.ref a1)] [])) _
    refine XS.aloadN X6.here hx rfl (hb hby d4_28) rfl rfl ?_
    show Steps p.tables e below (T6.setTop (mkF m 29 #[.val (.ref a1)] [(.ref a1)])) _
    refine XS.iconst X6.here hx rfl (hb hby d4_29) ?_
    show Steps p.tables e below (T6.setTop (mkF m 30 #[.val (.ref a1)] [(.int (0 : Int32)), (.ref a1)])) _
    refine st7 _ ?_
    show Steps p.tables e below (T7.setTop (mkF m 33 #[.val (.ref a1)] [])) _
    refine XS.iconst X7.here hx rfl (hb hby d4_33) ?_
    show Steps p.tables e below (T7.setTop (mkF m 34 #[.val (.ref a1)] [(.int (1 : Int32))])) _
    exact retI X7 hx Bd.returns (hb hby d4_34) hr
  · show Q4 Z a1 mi un n0 _ T7.heap _
    rw [e7, Q4, Ob]
    rw [own_r, own_u, if_neg hc5, if_neg hc5, if_neg hc23, if_neg hc23]
    exact ⟨rfl, N7, (E_a.wr W6).wr W7, (F_m.other W6 (Or.inr (own_ne hw).symm)).other W7 (Or.inr (own_ne hw).symm), Fw7⟩
theorem rm4 (l : Launch) (Z : State) (a0 : Array Value) (hw : ∀ d ∈ tables_1, d.before a0 Z = true) (ws : List Jvm.Cond) (a1 : Addr) (mi un : Int32) (h0 : Heap) (n0 : Nat) (O : Ob Z h0 a1 mi un) (g_a1 : n0 ≤ a1) :
    MetFree l (⟨"com/example/latchpost/latchpost/IdleWatch", "plan", "()I"⟩ : MethodName) (head1 (Jvm.Cond.code (⟨"com/example/latchpost/latchpost/IdleWatch", "plan", "()I"⟩ : MethodName) prog_10_method_2_code 1 (some .int) :: ws) ({ frames := 0, cells := 0, slots := 0, locals := 0 } : Room)) (fun a U => a = #[(.ref a1)] ∧ Z.Warmed39 U.vm ∧ U.heap = h0) (fun _ _ _ _ _ => True) (fun _ U o U' => ∃ v L, o = .returned v ∧ Q4 Z a1 mi un n0 v U'.heap L ∧ FrameEnd U o U' L ({ frames := 0, cells := 0, slots := 0, locals := 0 } : Room).cells ({ frames := 0, cells := 0, slots := 0, locals := 0 } : Room).slots) := by
  by_cases hc5 : mi < (2 : Int32)
  · exact rm4f l Z a0 hw ws a1 mi un h0 n0 O g_a1 hc5
  · by_cases hc23 : un + (1 : Int32) < (8 : Int32)
    · exact rm4tf l Z a0 hw ws a1 mi un h0 n0 O g_a1 hc5 hc23
    · exact rm4tt l Z a0 hw ws a1 mi un h0 n0 O g_a1 hc5 hc23
def Q5 (p1 p2 : Int32) (h0 : Heap) (n0 : Nat) (v : Option Value) (h : Heap) (L : List Loc) : Prop := v = some (.int (own_e p1 p2)) ∧ Fr n0 L ∧ h = h0
set_option maxRecDepth 65536 in
set_option maxHeartbeats 40000000 in
theorem rm5f (l : Launch) (Z : State) (a0 : Array Value) (hw : ∀ d ∈ tables_1, d.before a0 Z = true) (ws : List Jvm.Cond) (p1 p2 : Int32) (h0 : Heap) (n0 : Nat) (hc1 : p1 = (0 : Int32)) :
    MetFree l (⟨"com/example/latchpost/latchpost/IdleWatchPlanPinLaw", "exp", "(ZI)I"⟩ : MethodName) (head1 (Jvm.Cond.code (⟨"com/example/latchpost/latchpost/IdleWatchPlanPinLaw", "exp", "(ZI)I"⟩ : MethodName) method_2_code 2 (some .int) :: ws) ({ frames := 0, cells := 0, slots := 0, locals := 0 } : Room)) (fun a U => a = #[(.int p1), (.int p2)] ∧ Z.Warmed39 U.vm ∧ U.heap = h0) (fun _ _ _ _ _ => True) (fun _ U o U' => ∃ v L, o = .returned v ∧ Q5 p1 p2 h0 n0 v U'.heap L ∧ FrameEnd U o U' L ({ frames := 0, cells := 0, slots := 0, locals := 0 } : Room).cells ({ frames := 0, cells := 0, slots := 0, locals := 0 } : Room).slots) := by
  refine MetFree.of_bodySF (plainFor_of_name pn_0) hisR ?_
  intro p e s m args below meth c s₁ Bd hml0 hP hK
  obtain ⟨rfl, hZ, hh⟩ := hP
  have hx := Bd.exec
  have hby := Bd.bytes
  have hml : c.maxLocals = 2 := hml0
  have hown : s.vm.findClass "com/example/latchpost/latchpost/IdleWatchPlanPinLaw" = some m.cls := findClass_of_methodNamed Bd.named
  have hnm := (name_of_methodNamed Bd.named Bd.method).1
  have X0 : Stand p l e ({ frames := 0, cells := 0, slots := 0, locals := 0 } : Room) s m #[(.int p1), (.int p2)] below meth c s₁ [] 0 0 := Stand.of_body Bd
  have e0 : s₁.heap = h0 := by rw [← hh, Bd.state]; rfl
  have N0 := Fr.nil n0
  have pre0 : ∀ t, Steps p.tables e below (s₁.setTop (mkF m 0 #[.val (.int p1), .val (.int p2)] [])) t → Steps p.tables e below (s₁.setTop (entryFrame m #[(.int p1), (.int p2)] 2)) t := fun t k => castTop (ef_5 m p1 p2) k
  obtain ⟨fs, hr, hrun, hended, hW, hsame⟩ := X0.leave (v := some (.int (0 : Int32))) (fun h => by rw [Bd.returns] at h; cases h)
  refine ⟨_, _, pre0 _ ?_, hrun, hended, _, _, rfl, ?_, ⟨_, rfl⟩, hW, hsame.mono (by decide) (by decide)⟩
  · show Steps p.tables e below (s₁.setTop (mkF m 0 #[.val (.int p1), .val (.int p2)] [])) _
    refine XS.iloadN X0.here hx rfl (hb hby d5_0) rfl ?_
    show Steps p.tables e below (s₁.setTop (mkF m 1 #[.val (.int p1), .val (.int p2)] [(.int p1)])) _
    refine XS.ifNo X0.here hx rfl (hb hby d5_1) rfl ((if0 _ _).trans (teq hc1).2) ?_
    show Steps p.tables e below (s₁.setTop (mkF m 4 #[.val (.int p1), .val (.int p2)] [])) _
    refine XS.iconst X0.here hx rfl (hb hby d5_4) ?_
    show Steps p.tables e below (s₁.setTop (mkF m 5 #[.val (.int p1), .val (.int p2)] [(.int (0 : Int32))])) _
    exact retI X0 hx Bd.returns (hb hby d5_5) hr
  · show Q5 p1 p2 h0 n0 _ s₁.heap _
    rw [e0, Q5, own_e, if_pos hc1]
    exact ⟨rfl, N0, rfl⟩
set_option maxRecDepth 65536 in
set_option maxHeartbeats 40000000 in
theorem rm5tf (l : Launch) (Z : State) (a0 : Array Value) (hw : ∀ d ∈ tables_1, d.before a0 Z = true) (ws : List Jvm.Cond) (p1 p2 : Int32) (h0 : Heap) (n0 : Nat) (hc1 : ¬ p1 = (0 : Int32)) (hc10 : p2 % (8 : Int32) = (0 : Int32)) :
    MetFree l (⟨"com/example/latchpost/latchpost/IdleWatchPlanPinLaw", "exp", "(ZI)I"⟩ : MethodName) (head1 (Jvm.Cond.code (⟨"com/example/latchpost/latchpost/IdleWatchPlanPinLaw", "exp", "(ZI)I"⟩ : MethodName) method_2_code 2 (some .int) :: ws) ({ frames := 0, cells := 0, slots := 0, locals := 0 } : Room)) (fun a U => a = #[(.int p1), (.int p2)] ∧ Z.Warmed39 U.vm ∧ U.heap = h0) (fun _ _ _ _ _ => True) (fun _ U o U' => ∃ v L, o = .returned v ∧ Q5 p1 p2 h0 n0 v U'.heap L ∧ FrameEnd U o U' L ({ frames := 0, cells := 0, slots := 0, locals := 0 } : Room).cells ({ frames := 0, cells := 0, slots := 0, locals := 0 } : Room).slots) := by
  refine MetFree.of_bodySF (plainFor_of_name pn_0) hisR ?_
  intro p e s m args below meth c s₁ Bd hml0 hP hK
  obtain ⟨rfl, hZ, hh⟩ := hP
  have hx := Bd.exec
  have hby := Bd.bytes
  have hml : c.maxLocals = 2 := hml0
  have hown : s.vm.findClass "com/example/latchpost/latchpost/IdleWatchPlanPinLaw" = some m.cls := findClass_of_methodNamed Bd.named
  have hnm := (name_of_methodNamed Bd.named Bd.method).1
  have X0 : Stand p l e ({ frames := 0, cells := 0, slots := 0, locals := 0 } : Room) s m #[(.int p1), (.int p2)] below meth c s₁ [] 0 0 := Stand.of_body Bd
  have e0 : s₁.heap = h0 := by rw [← hh, Bd.state]; rfl
  have N0 := Fr.nil n0
  have pre0 : ∀ t, Steps p.tables e below (s₁.setTop (mkF m 0 #[.val (.int p1), .val (.int p2)] [])) t → Steps p.tables e below (s₁.setTop (entryFrame m #[(.int p1), (.int p2)] 2)) t := fun t k => castTop (ef_5 m p1 p2) k
  obtain ⟨fs, hr, hrun, hended, hW, hsame⟩ := X0.leave (v := some (.int (1 : Int32))) (fun h => by rw [Bd.returns] at h; cases h)
  refine ⟨_, _, pre0 _ ?_, hrun, hended, _, _, rfl, ?_, ⟨_, rfl⟩, hW, hsame.mono (by decide) (by decide)⟩
  · show Steps p.tables e below (s₁.setTop (mkF m 0 #[.val (.int p1), .val (.int p2)] [])) _
    refine XS.iloadN X0.here hx rfl (hb hby d5_0) rfl ?_
    show Steps p.tables e below (s₁.setTop (mkF m 1 #[.val (.int p1), .val (.int p2)] [(.int p1)])) _
    refine XS.ifYes X0.here hx rfl (pc0 := 1) (pc' := 6) rfl (hb hby d5_1) rfl ((if0 _ _).trans (feq hc1).2) (by decide) (by decide) ?_
    show Steps p.tables e below (s₁.setTop (mkF m 6 #[.val (.int p1), .val (.int p2)] [])) _
    refine XS.iloadN X0.here hx rfl (hb hby d5_6) rfl ?_
    show Steps p.tables e below (s₁.setTop (mkF m 7 #[.val (.int p1), .val (.int p2)] [(.int p2)])) _
    refine XS.bipush X0.here hx rfl (hb hby d5_7) ?_
    show Steps p.tables e below (s₁.setTop (mkF m 9 #[.val (.int p1), .val (.int p2)] [(.int (8 : Int32)), (.int p2)])) _
    refine XS.irem X0.here hx rfl (hb hby d5_9) rfl (by decide) ?_
    rw [irem_eq_mod]
    show Steps p.tables e below (s₁.setTop (mkF m 10 #[.val (.int p1), .val (.int p2)] [(.int (p2 % (8 : Int32)))])) _
    refine XS.ifNo X0.here hx rfl (hb hby d5_10) rfl ((if0 _ _).trans (teq hc10).2) ?_
    show Steps p.tables e below (s₁.setTop (mkF m 13 #[.val (.int p1), .val (.int p2)] [])) _
    refine XS.iconst X0.here hx rfl (hb hby d5_13) ?_
    show Steps p.tables e below (s₁.setTop (mkF m 14 #[.val (.int p1), .val (.int p2)] [(.int (1 : Int32))])) _
    exact retI X0 hx Bd.returns (hb hby d5_14) hr
  · show Q5 p1 p2 h0 n0 _ s₁.heap _
    rw [e0, Q5, own_e, if_neg hc1, if_pos hc10]
    exact ⟨rfl, N0, rfl⟩
set_option maxRecDepth 65536 in
set_option maxHeartbeats 40000000 in
theorem rm5tt (l : Launch) (Z : State) (a0 : Array Value) (hw : ∀ d ∈ tables_1, d.before a0 Z = true) (ws : List Jvm.Cond) (p1 p2 : Int32) (h0 : Heap) (n0 : Nat) (hc1 : ¬ p1 = (0 : Int32)) (hc10 : ¬ p2 % (8 : Int32) = (0 : Int32)) :
    MetFree l (⟨"com/example/latchpost/latchpost/IdleWatchPlanPinLaw", "exp", "(ZI)I"⟩ : MethodName) (head1 (Jvm.Cond.code (⟨"com/example/latchpost/latchpost/IdleWatchPlanPinLaw", "exp", "(ZI)I"⟩ : MethodName) method_2_code 2 (some .int) :: ws) ({ frames := 0, cells := 0, slots := 0, locals := 0 } : Room)) (fun a U => a = #[(.int p1), (.int p2)] ∧ Z.Warmed39 U.vm ∧ U.heap = h0) (fun _ _ _ _ _ => True) (fun _ U o U' => ∃ v L, o = .returned v ∧ Q5 p1 p2 h0 n0 v U'.heap L ∧ FrameEnd U o U' L ({ frames := 0, cells := 0, slots := 0, locals := 0 } : Room).cells ({ frames := 0, cells := 0, slots := 0, locals := 0 } : Room).slots) := by
  refine MetFree.of_bodySF (plainFor_of_name pn_0) hisR ?_
  intro p e s m args below meth c s₁ Bd hml0 hP hK
  obtain ⟨rfl, hZ, hh⟩ := hP
  have hx := Bd.exec
  have hby := Bd.bytes
  have hml : c.maxLocals = 2 := hml0
  have hown : s.vm.findClass "com/example/latchpost/latchpost/IdleWatchPlanPinLaw" = some m.cls := findClass_of_methodNamed Bd.named
  have hnm := (name_of_methodNamed Bd.named Bd.method).1
  have X0 : Stand p l e ({ frames := 0, cells := 0, slots := 0, locals := 0 } : Room) s m #[(.int p1), (.int p2)] below meth c s₁ [] 0 0 := Stand.of_body Bd
  have e0 : s₁.heap = h0 := by rw [← hh, Bd.state]; rfl
  have N0 := Fr.nil n0
  have pre0 : ∀ t, Steps p.tables e below (s₁.setTop (mkF m 0 #[.val (.int p1), .val (.int p2)] [])) t → Steps p.tables e below (s₁.setTop (entryFrame m #[(.int p1), (.int p2)] 2)) t := fun t k => castTop (ef_5 m p1 p2) k
  obtain ⟨fs, hr, hrun, hended, hW, hsame⟩ := X0.leave (v := some (.int (2 : Int32))) (fun h => by rw [Bd.returns] at h; cases h)
  refine ⟨_, _, pre0 _ ?_, hrun, hended, _, _, rfl, ?_, ⟨_, rfl⟩, hW, hsame.mono (by decide) (by decide)⟩
  · show Steps p.tables e below (s₁.setTop (mkF m 0 #[.val (.int p1), .val (.int p2)] [])) _
    refine XS.iloadN X0.here hx rfl (hb hby d5_0) rfl ?_
    show Steps p.tables e below (s₁.setTop (mkF m 1 #[.val (.int p1), .val (.int p2)] [(.int p1)])) _
    refine XS.ifYes X0.here hx rfl (pc0 := 1) (pc' := 6) rfl (hb hby d5_1) rfl ((if0 _ _).trans (feq hc1).2) (by decide) (by decide) ?_
    show Steps p.tables e below (s₁.setTop (mkF m 6 #[.val (.int p1), .val (.int p2)] [])) _
    refine XS.iloadN X0.here hx rfl (hb hby d5_6) rfl ?_
    show Steps p.tables e below (s₁.setTop (mkF m 7 #[.val (.int p1), .val (.int p2)] [(.int p2)])) _
    refine XS.bipush X0.here hx rfl (hb hby d5_7) ?_
    show Steps p.tables e below (s₁.setTop (mkF m 9 #[.val (.int p1), .val (.int p2)] [(.int (8 : Int32)), (.int p2)])) _
    refine XS.irem X0.here hx rfl (hb hby d5_9) rfl (by decide) ?_
    rw [irem_eq_mod]
    show Steps p.tables e below (s₁.setTop (mkF m 10 #[.val (.int p1), .val (.int p2)] [(.int (p2 % (8 : Int32)))])) _
    refine XS.ifYes X0.here hx rfl (pc0 := 10) (pc' := 15) rfl (hb hby d5_10) rfl ((if0 _ _).trans (feq hc10).2) (by decide) (by decide) ?_
    show Steps p.tables e below (s₁.setTop (mkF m 15 #[.val (.int p1), .val (.int p2)] [])) _
    refine XS.iconst X0.here hx rfl (hb hby d5_15) ?_
    show Steps p.tables e below (s₁.setTop (mkF m 16 #[.val (.int p1), .val (.int p2)] [(.int (2 : Int32))])) _
    exact retI X0 hx Bd.returns (hb hby d5_16) hr
  · show Q5 p1 p2 h0 n0 _ s₁.heap _
    rw [e0, Q5, own_e, if_neg hc1, if_neg hc10]
    exact ⟨rfl, N0, rfl⟩
theorem rm5 (l : Launch) (Z : State) (a0 : Array Value) (hw : ∀ d ∈ tables_1, d.before a0 Z = true) (ws : List Jvm.Cond) (p1 p2 : Int32) (h0 : Heap) (n0 : Nat) :
    MetFree l (⟨"com/example/latchpost/latchpost/IdleWatchPlanPinLaw", "exp", "(ZI)I"⟩ : MethodName) (head1 (Jvm.Cond.code (⟨"com/example/latchpost/latchpost/IdleWatchPlanPinLaw", "exp", "(ZI)I"⟩ : MethodName) method_2_code 2 (some .int) :: ws) ({ frames := 0, cells := 0, slots := 0, locals := 0 } : Room)) (fun a U => a = #[(.int p1), (.int p2)] ∧ Z.Warmed39 U.vm ∧ U.heap = h0) (fun _ _ _ _ _ => True) (fun _ U o U' => ∃ v L, o = .returned v ∧ Q5 p1 p2 h0 n0 v U'.heap L ∧ FrameEnd U o U' L ({ frames := 0, cells := 0, slots := 0, locals := 0 } : Room).cells ({ frames := 0, cells := 0, slots := 0, locals := 0 } : Room).slots) := by
  by_cases hc1 : p1 = (0 : Int32)
  · exact rm5f l Z a0 hw ws p1 p2 h0 n0 hc1
  · by_cases hc10 : p2 % (8 : Int32) = (0 : Int32)
    · exact rm5tf l Z a0 hw ws p1 p2 h0 n0 hc1 hc10
    · exact rm5tt l Z a0 hw ws p1 p2 h0 n0 hc1 hc10
set_option maxRecDepth 65536 in
set_option maxHeartbeats 40000000 in
theorem callW {p : Program} {l : Launch} {e : Env} {s : State} {m : MethodId} {args : Array Value} {below : List Frame} {meth : Method} {c : Code} {T : State} {locs : List Loc} {cells slots : Nat} {Z : State} {a0 : Array Value} (X : Stand p l e room_1 s m args below meth c T locs cells slots) (hx : p.tables.exec = Jvm.exec) (hZ : Z.Warmed39 s.vm) (hw : ∀ d ∈ tables_1, d.before a0 Z = true) (hby : c.code = code) (hml : c.maxLocals = 21) (hown : s.vm.findClass "com/example/latchpost/latchpost/IdleWatchPlanPinLaw" = some m.cls) {n0 : Nat} (N : Fr n0 locs) (hc : cells ≤ 16) (hs : slots ≤ 128) {a : Addr} (ga : n0 ≤ a) {mi un : Int32} (O : Ob Z T.heap a mi un) {pc : Nat} {Ls : Array Slot} (hsz : Ls.size = 21) (p2 mi' : Int32) (hm : own_w p2 mi = mi') (hd : decode code pc = .ok (.invokevirtual 10, 3)) :
    ∃ (T' : State) (locs' : List Loc), Stand p l e room_1 s m args below meth c T' locs' cells slots ∧ Fr n0 locs' ∧ Ob Z T'.heap a mi' un ∧ ∀ target, Steps p.tables e below (T'.setTop (mkF m (pc + 3) Ls [])) target → Steps p.tables e below (T.setTop (mkF m pc Ls [(.int p2), (.ref a)])) target := by
  obtain ⟨cq, kq, qa, qb, qc⟩ := isOf hZ rfl O.1
  obtain ⟨_, _, ⟨T', L', k', n'⟩, -, X', ⟨Lc, hQ, l', y', z'⟩, st⟩ := X.virtualBack hx (y := (⟨"com/example/latchpost/latchpost/IdleWatch", "watched", "(Z)V"⟩ : MethodName)) (z := (⟨"com/example/latchpost/latchpost/IdleWatch", "watched", "(Z)V"⟩ : MethodName)) hown (mvT hZ (hw _ (List.mem_of_getElem? (i := 9) rfl))) (mvT hZ (hw _ (List.mem_of_getElem? (i := 10) rfl))) (notFace_of_selects (args := #[]) (mvT hZ (hw _ (List.mem_of_getElem? (i := 12) rfl)))) (mvT hZ (hw _ (List.mem_of_getElem? (i := 12) rfl))) (mvT hZ (hw _ (List.mem_of_getElem? (i := 11) rfl))) (by decide) (backOf (W := 0) (rm3 l Z a0 hw [] a p2 mi un T.heap n0 O ga) hZ (hw _ (List.mem_of_getElem? (i := 13) rfl)) (hw _ (List.mem_of_getElem? (i := 2) rfl)) (by decide) (by decide)) qa qc (g := (mkF m pc Ls [(.int p2), (.ref a)])) rfl (by rw [hml]; exact hsz) (Steps.refl _) (argsL := [(.int p2)]) (rest := []) (lenOf pd_z rfl) rfl (by show 2 * 0 + _ ≤ _; exact Nat.le_of_eq rfl) (hb hby hd) (fun _ _ => ⟨rfl, rfl, (show cells + 0 ≤ 16 from hc), (show slots + 0 ≤ 128 from hs)⟩)
  dsimp only [Pt.U, Pt.locs, Pt.cells, Pt.slots] at X' l' y' z' st hQ
  subst l' y' z'
  obtain ⟨rfl, Nq, O'⟩ := hQ
  rw [hm] at O'
  exact ⟨T', _, X', Fr.app N Nq, O', fun target k => st.trans k⟩
set_option maxRecDepth 65536 in
set_option maxHeartbeats 40000000 in
theorem callP {p : Program} {l : Launch} {e : Env} {s : State} {m : MethodId} {args : Array Value} {below : List Frame} {meth : Method} {c : Code} {T : State} {locs : List Loc} {cells slots : Nat} {Z : State} {a0 : Array Value} (X : Stand p l e room_1 s m args below meth c T locs cells slots) (hx : p.tables.exec = Jvm.exec) (hZ : Z.Warmed39 s.vm) (hw : ∀ d ∈ tables_1, d.before a0 Z = true) (hby : c.code = code) (hml : c.maxLocals = 21) (hown : s.vm.findClass "com/example/latchpost/latchpost/IdleWatchPlanPinLaw" = some m.cls) {n0 : Nat} (N : Fr n0 locs) (hc : cells ≤ 16) (hs : slots ≤ 128) {a : Addr} (ga : n0 ≤ a) {mi un : Int32} (O : Ob Z T.heap a mi un) {pc : Nat} {Ls : Array Slot} (hsz : Ls.size = 21) (r un' : Int32) (hr : own_r mi un = r) (hu : own_u mi un = un') (hd : decode code pc = .ok (.invokevirtual 14, 3)) :
    ∃ (T' : State) (locs' : List Loc), Stand p l e room_1 s m args below meth c T' locs' cells slots ∧ Fr n0 locs' ∧ Ob Z T'.heap a mi un' ∧ ∀ target, Steps p.tables e below (T'.setTop (mkF m (pc + 3) Ls [(.int r)])) target → Steps p.tables e below (T.setTop (mkF m pc Ls [(.ref a)])) target := by
  obtain ⟨cq, kq, qa, qb, qc⟩ := isOf hZ rfl O.1
  obtain ⟨_, _, ⟨T', L', k', n'⟩, -, X', ⟨Lc, hQ, l', y', z'⟩, st⟩ := X.virtualBack hx (y := (⟨"com/example/latchpost/latchpost/IdleWatch", "plan", "()I"⟩ : MethodName)) (z := (⟨"com/example/latchpost/latchpost/IdleWatch", "plan", "()I"⟩ : MethodName)) hown (mvT hZ (hw _ (List.mem_of_getElem? (i := 16) rfl))) (mvT hZ (hw _ (List.mem_of_getElem? (i := 17) rfl))) (notFace_of_selects (args := #[]) (mvT hZ (hw _ (List.mem_of_getElem? (i := 19) rfl)))) (mvT hZ (hw _ (List.mem_of_getElem? (i := 19) rfl))) (mvT hZ (hw _ (List.mem_of_getElem? (i := 18) rfl))) (by decide) (backOf (W := 0) (rm4 l Z a0 hw [] a mi un T.heap n0 O ga) hZ (hw _ (List.mem_of_getElem? (i := 20) rfl)) (hw _ (List.mem_of_getElem? (i := 2) rfl)) (by decide) (by decide)) qa qc (g := (mkF m pc Ls [(.ref a)])) rfl (by rw [hml]; exact hsz) (Steps.refl _) (argsL := []) (rest := []) (lenOf pd_i rfl) rfl (by show 2 * 0 + _ ≤ _; exact Nat.le_of_eq rfl) (hb hby hd) (fun _ _ => ⟨rfl, rfl, (show cells + 0 ≤ 16 from hc), (show slots + 0 ≤ 128 from hs)⟩)
  dsimp only [Pt.U, Pt.locs, Pt.cells, Pt.slots] at X' l' y' z' st hQ
  subst l' y' z'
  obtain ⟨rfl, Nq, O'⟩ := hQ
  rw [hu] at O'
  rw [hr] at st
  exact ⟨T', _, X', Fr.app N Nq, O', fun target k => st.trans k⟩
set_option maxRecDepth 65536 in
set_option maxHeartbeats 40000000 in
theorem callE {p : Program} {l : Launch} {e : Env} {s : State} {m : MethodId} {args : Array Value} {below : List Frame} {meth : Method} {c : Code} {T : State} {locs : List Loc} {cells slots : Nat} {Z : State} {a0 : Array Value} (X : Stand p l e room_1 s m args below meth c T locs cells slots) (hx : p.tables.exec = Jvm.exec) (hZ : Z.Warmed39 s.vm) (hw : ∀ d ∈ tables_1, d.before a0 Z = true) (hby : c.code = code) (hml : c.maxLocals = 21) (hown : s.vm.findClass "com/example/latchpost/latchpost/IdleWatchPlanPinLaw" = some m.cls) {n0 : Nat} (N : Fr n0 locs) (hc : cells ≤ 16) (hs : slots ≤ 128) {pc : Nat} {Ls : Array Slot} (hsz : Ls.size = 21) (q off k r : Int32) (hr : own_e off k = r) (hd : decode code pc = .ok (.invokestatic 18, 3)) :
    ∃ (T' : State) (locs' : List Loc), Stand p l e room_1 s m args below meth c T' locs' cells slots ∧ Fr n0 locs' ∧ ∀ target, Steps p.tables e below (T'.setTop (mkF m (pc + 3) Ls [(.int r), (.int q)])) target → Steps p.tables e below (T.setTop (mkF m pc Ls [(.int k), (.int off), (.int q)])) target := by
  obtain ⟨_, _, ⟨T', L', k', n'⟩, -, X', ⟨Lc, hQ, l', y', z'⟩, st⟩ := Jvm.LawKit.callS X hx (y := (⟨"com/example/latchpost/latchpost/IdleWatchPlanPinLaw", "exp", "(ZI)I"⟩ : MethodName)) hown (mvT hZ (hw _ (List.mem_of_getElem? (i := 23) rfl))) (mvT hZ (hw _ (List.mem_of_getElem? (i := 24) rfl))) (mvT hZ (hw _ (List.mem_of_getElem? (i := 25) rfl))) (mvT hZ (hw _ (List.mem_of_getElem? (i := 26) rfl))) (by decide) (backOf (W := 1) (rm5 l Z a0 hw [] off k T.heap n0) hZ (hw _ (List.mem_of_getElem? (i := 26) rfl)) (hw _ (List.mem_of_getElem? (i := 25) rfl)) (by decide) (by decide)) (g := (mkF m pc Ls [(.int k), (.int off), (.int q)])) rfl (by rw [hml]; exact hsz) (argsL := [(.int off), (.int k)]) (rest := [(.int q)]) (lenOf pd_e rfl) rfl (by show 2 * 0 + _ ≤ _; exact Nat.le_of_eq rfl) (hb hby hd) (fun _ _ => ⟨rfl, rfl, (show cells + 0 ≤ 16 from hc), (show slots + 0 ≤ 128 from hs)⟩)
  dsimp only [Pt.U, Pt.locs, Pt.cells, Pt.slots] at X' l' y' z' st hQ
  subst l' y' z'
  obtain ⟨rfl, Nq, e'⟩ := hQ
  rw [hr] at st
  exact ⟨T', _, X', Fr.app N Nq, fun target k => st target k⟩
set_option maxRecDepth 65536 in
set_option maxHeartbeats 40000000 in
theorem tnA0 {p : Program} {l : Launch} {e : Env} {R : Room} {s : State} {m : MethodId} {args : Array Value} {below : List Frame} {meth : Method} {c : Code} {T0 : State} {locs : List Loc} {cells slots : Nat} (i0 : Int32) (X0 : Stand p l e R s m args below meth c T0 locs cells slots) (hx : p.tables.exec = Jvm.exec) (hby : c.code = code) (h1 : (i0 &&& (1 : Int32)) = (0 : Int32)) (h2 : (i0 &&& (2 : Int32)) = (0 : Int32)) (h4 : (i0 &&& (4 : Int32)) = (0 : Int32)) (target : State)
    (kt : Steps p.tables e below (T0.setTop (mkF m 113 #[.val (.int i0), .val (.int (0 : Int32)), .val (.int (0 : Int32)), .val (.int (0 : Int32)), .val (.int (1 : Int32)), .val (.int ((1 : Int32) + (1 : Int32))), .val (.int (((1 : Int32) + (1 : Int32)) + (1 : Int32))), .val (.int (1 : Int32)), .val (.int (1 : Int32)), .val (.int (1 : Int32)), .unset, .unset, .unset, .unset, .unset, .unset, .unset, .unset, .unset, .unset, .unset] [])) target) : Steps p.tables e below (T0.setTop (mkF m 0 #[.val (.int i0), .unset, .unset, .unset, .unset, .unset, .unset, .unset, .unset, .unset, .unset, .unset, .unset, .unset, .unset, .unset, .unset, .unset, .unset, .unset, .unset] [])) target := by
  show Steps p.tables e below (T0.setTop (mkF m 0 #[.val (.int i0), .unset, .unset, .unset, .unset, .unset, .unset, .unset, .unset, .unset, .unset, .unset, .unset, .unset, .unset, .unset, .unset, .unset, .unset, .unset, .unset] [])) _
  refine XS.iloadN X0.here hx rfl (hb hby at_0) rfl ?_
  show Steps p.tables e below (T0.setTop (mkF m 1 #[.val (.int i0), .unset, .unset, .unset, .unset, .unset, .unset, .unset, .unset, .unset, .unset, .unset, .unset, .unset, .unset, .unset, .unset, .unset, .unset, .unset, .unset] [(.int i0)])) _
  refine XS.iconst X0.here hx rfl (hb hby at_1) ?_
  show Steps p.tables e below (T0.setTop (mkF m 2 #[.val (.int i0), .unset, .unset, .unset, .unset, .unset, .unset, .unset, .unset, .unset, .unset, .unset, .unset, .unset, .unset, .unset, .unset, .unset, .unset, .unset, .unset] [(.int (1 : Int32)), (.int i0)])) _
  refine XS.iand X0.here hx rfl (hb hby at_2) rfl ?_
  show Steps p.tables e below (T0.setTop (mkF m 3 #[.val (.int i0), .unset, .unset, .unset, .unset, .unset, .unset, .unset, .unset, .unset, .unset, .unset, .unset, .unset, .unset, .unset, .unset, .unset, .unset, .unset, .unset] [(.int (i0 &&& (1 : Int32)))])) _
  refine XS.ifYes X0.here hx rfl (pc0 := 3) (pc' := 10) rfl (hb hby at_3) rfl ((if0 _ _).trans (teq h1).1) (by decide) (by decide) ?_
  show Steps p.tables e below (T0.setTop (mkF m 10 #[.val (.int i0), .unset, .unset, .unset, .unset, .unset, .unset, .unset, .unset, .unset, .unset, .unset, .unset, .unset, .unset, .unset, .unset, .unset, .unset, .unset, .unset] [])) _
  refine XS.iconst X0.here hx rfl (hb hby at_10) ?_
  show Steps p.tables e below (T0.setTop (mkF m 11 #[.val (.int i0), .unset, .unset, .unset, .unset, .unset, .unset, .unset, .unset, .unset, .unset, .unset, .unset, .unset, .unset, .unset, .unset, .unset, .unset, .unset, .unset] [(.int (0 : Int32))])) _
  refine XS.istoreN X0.here hx rfl (hb hby at_11) rfl (l' := #[.val (.int i0), .val (.int (0 : Int32)), .unset, .unset, .unset, .unset, .unset, .unset, .unset, .unset, .unset, .unset, .unset, .unset, .unset, .unset, .unset, .unset, .unset, .unset, .unset]) rfl ?_
  show Steps p.tables e below (T0.setTop (mkF m 12 #[.val (.int i0), .val (.int (0 : Int32)), .unset, .unset, .unset, .unset, .unset, .unset, .unset, .unset, .unset, .unset, .unset, .unset, .unset, .unset, .unset, .unset, .unset, .unset, .unset] [])) _
  refine XS.iloadN X0.here hx rfl (hb hby at_12) rfl ?_
  show Steps p.tables e below (T0.setTop (mkF m 13 #[.val (.int i0), .val (.int (0 : Int32)), .unset, .unset, .unset, .unset, .unset, .unset, .unset, .unset, .unset, .unset, .unset, .unset, .unset, .unset, .unset, .unset, .unset, .unset, .unset] [(.int i0)])) _
  refine XS.iconst X0.here hx rfl (hb hby at_13) ?_
  show Steps p.tables e below (T0.setTop (mkF m 14 #[.val (.int i0), .val (.int (0 : Int32)), .unset, .unset, .unset, .unset, .unset, .unset, .unset, .unset, .unset, .unset, .unset, .unset, .unset, .unset, .unset, .unset, .unset, .unset, .unset] [(.int (2 : Int32)), (.int i0)])) _
  refine XS.iand X0.here hx rfl (hb hby at_14) rfl ?_
  show Steps p.tables e below (T0.setTop (mkF m 15 #[.val (.int i0), .val (.int (0 : Int32)), .unset, .unset, .unset, .unset, .unset, .unset, .unset, .unset, .unset, .unset, .unset, .unset, .unset, .unset, .unset, .unset, .unset, .unset, .unset] [(.int (i0 &&& (2 : Int32)))])) _
  refine XS.ifYes X0.here hx rfl (pc0 := 15) (pc' := 22) rfl (hb hby at_15) rfl ((if0 _ _).trans (teq h2).1) (by decide) (by decide) ?_
  show Steps p.tables e below (T0.setTop (mkF m 22 #[.val (.int i0), .val (.int (0 : Int32)), .unset, .unset, .unset, .unset, .unset, .unset, .unset, .unset, .unset, .unset, .unset, .unset, .unset, .unset, .unset, .unset, .unset, .unset, .unset] [])) _
  refine XS.iconst X0.here hx rfl (hb hby at_22) ?_
  show Steps p.tables e below (T0.setTop (mkF m 23 #[.val (.int i0), .val (.int (0 : Int32)), .unset, .unset, .unset, .unset, .unset, .unset, .unset, .unset, .unset, .unset, .unset, .unset, .unset, .unset, .unset, .unset, .unset, .unset, .unset] [(.int (0 : Int32))])) _
  refine XS.istoreN X0.here hx rfl (hb hby at_23) rfl (l' := #[.val (.int i0), .val (.int (0 : Int32)), .val (.int (0 : Int32)), .unset, .unset, .unset, .unset, .unset, .unset, .unset, .unset, .unset, .unset, .unset, .unset, .unset, .unset, .unset, .unset, .unset, .unset]) rfl ?_
  show Steps p.tables e below (T0.setTop (mkF m 24 #[.val (.int i0), .val (.int (0 : Int32)), .val (.int (0 : Int32)), .unset, .unset, .unset, .unset, .unset, .unset, .unset, .unset, .unset, .unset, .unset, .unset, .unset, .unset, .unset, .unset, .unset, .unset] [])) _
  refine XS.iloadN X0.here hx rfl (hb hby at_24) rfl ?_
  show Steps p.tables e below (T0.setTop (mkF m 25 #[.val (.int i0), .val (.int (0 : Int32)), .val (.int (0 : Int32)), .unset, .unset, .unset, .unset, .unset, .unset, .unset, .unset, .unset, .unset, .unset, .unset, .unset, .unset, .unset, .unset, .unset, .unset] [(.int i0)])) _
  refine XS.iconst X0.here hx rfl (hb hby at_25) ?_
  show Steps p.tables e below (T0.setTop (mkF m 26 #[.val (.int i0), .val (.int (0 : Int32)), .val (.int (0 : Int32)), .unset, .unset, .unset, .unset, .unset, .unset, .unset, .unset, .unset, .unset, .unset, .unset, .unset, .unset, .unset, .unset, .unset, .unset] [(.int (4 : Int32)), (.int i0)])) _
  refine XS.iand X0.here hx rfl (hb hby at_26) rfl ?_
  show Steps p.tables e below (T0.setTop (mkF m 27 #[.val (.int i0), .val (.int (0 : Int32)), .val (.int (0 : Int32)), .unset, .unset, .unset, .unset, .unset, .unset, .unset, .unset, .unset, .unset, .unset, .unset, .unset, .unset, .unset, .unset, .unset, .unset] [(.int (i0 &&& (4 : Int32)))])) _
  refine XS.ifYes X0.here hx rfl (pc0 := 27) (pc' := 34) rfl (hb hby at_27) rfl ((if0 _ _).trans (teq h4).1) (by decide) (by decide) ?_
  show Steps p.tables e below (T0.setTop (mkF m 34 #[.val (.int i0), .val (.int (0 : Int32)), .val (.int (0 : Int32)), .unset, .unset, .unset, .unset, .unset, .unset, .unset, .unset, .unset, .unset, .unset, .unset, .unset, .unset, .unset, .unset, .unset, .unset] [])) _
  refine XS.iconst X0.here hx rfl (hb hby at_34) ?_
  show Steps p.tables e below (T0.setTop (mkF m 35 #[.val (.int i0), .val (.int (0 : Int32)), .val (.int (0 : Int32)), .unset, .unset, .unset, .unset, .unset, .unset, .unset, .unset, .unset, .unset, .unset, .unset, .unset, .unset, .unset, .unset, .unset, .unset] [(.int (0 : Int32))])) _
  refine XS.istoreN X0.here hx rfl (hb hby at_35) rfl (l' := #[.val (.int i0), .val (.int (0 : Int32)), .val (.int (0 : Int32)), .val (.int (0 : Int32)), .unset, .unset, .unset, .unset, .unset, .unset, .unset, .unset, .unset, .unset, .unset, .unset, .unset, .unset, .unset, .unset, .unset]) rfl ?_
  show Steps p.tables e below (T0.setTop (mkF m 36 #[.val (.int i0), .val (.int (0 : Int32)), .val (.int (0 : Int32)), .val (.int (0 : Int32)), .unset, .unset, .unset, .unset, .unset, .unset, .unset, .unset, .unset, .unset, .unset, .unset, .unset, .unset, .unset, .unset, .unset] [])) _
  refine XS.iloadN X0.here hx rfl (hb hby at_36) rfl ?_
  show Steps p.tables e below (T0.setTop (mkF m 37 #[.val (.int i0), .val (.int (0 : Int32)), .val (.int (0 : Int32)), .val (.int (0 : Int32)), .unset, .unset, .unset, .unset, .unset, .unset, .unset, .unset, .unset, .unset, .unset, .unset, .unset, .unset, .unset, .unset, .unset] [(.int (0 : Int32))])) _
  refine XS.ifYes X0.here hx rfl (pc0 := 37) (pc' := 44) rfl (hb hby at_37) rfl ((if0 _ _).trans (teq (by decide)).1) (by decide) (by decide) ?_
  show Steps p.tables e below (T0.setTop (mkF m 44 #[.val (.int i0), .val (.int (0 : Int32)), .val (.int (0 : Int32)), .val (.int (0 : Int32)), .unset, .unset, .unset, .unset, .unset, .unset, .unset, .unset, .unset, .unset, .unset, .unset, .unset, .unset, .unset, .unset, .unset] [])) _
  refine XS.iconst X0.here hx rfl (hb hby at_44) ?_
  show Steps p.tables e below (T0.setTop (mkF m 45 #[.val (.int i0), .val (.int (0 : Int32)), .val (.int (0 : Int32)), .val (.int (0 : Int32)), .unset, .unset, .unset, .unset, .unset, .unset, .unset, .unset, .unset, .unset, .unset, .unset, .unset, .unset, .unset, .unset, .unset] [(.int (1 : Int32))])) _
  refine XS.istore X0.here hx rfl (hb hby at_45) rfl (l' := #[.val (.int i0), .val (.int (0 : Int32)), .val (.int (0 : Int32)), .val (.int (0 : Int32)), .val (.int (1 : Int32)), .unset, .unset, .unset, .unset, .unset, .unset, .unset, .unset, .unset, .unset, .unset, .unset, .unset, .unset, .unset, .unset]) rfl ?_
  show Steps p.tables e below (T0.setTop (mkF m 47 #[.val (.int i0), .val (.int (0 : Int32)), .val (.int (0 : Int32)), .val (.int (0 : Int32)), .val (.int (1 : Int32)), .unset, .unset, .unset, .unset, .unset, .unset, .unset, .unset, .unset, .unset, .unset, .unset, .unset, .unset, .unset, .unset] [])) _
  refine XS.iloadN X0.here hx rfl (hb hby at_47) rfl ?_
  show Steps p.tables e below (T0.setTop (mkF m 48 #[.val (.int i0), .val (.int (0 : Int32)), .val (.int (0 : Int32)), .val (.int (0 : Int32)), .val (.int (1 : Int32)), .unset, .unset, .unset, .unset, .unset, .unset, .unset, .unset, .unset, .unset, .unset, .unset, .unset, .unset, .unset, .unset] [(.int (0 : Int32))])) _
  refine XS.ifYes X0.here hx rfl (pc0 := 48) (pc' := 55) rfl (hb hby at_48) rfl ((if0 _ _).trans (teq (by decide)).1) (by decide) (by decide) ?_
  show Steps p.tables e below (T0.setTop (mkF m 55 #[.val (.int i0), .val (.int (0 : Int32)), .val (.int (0 : Int32)), .val (.int (0 : Int32)), .val (.int (1 : Int32)), .unset, .unset, .unset, .unset, .unset, .unset, .unset, .unset, .unset, .unset, .unset, .unset, .unset, .unset, .unset, .unset] [])) _
  refine XS.iload X0.here hx rfl (hb hby at_55) rfl ?_
  show Steps p.tables e below (T0.setTop (mkF m 57 #[.val (.int i0), .val (.int (0 : Int32)), .val (.int (0 : Int32)), .val (.int (0 : Int32)), .val (.int (1 : Int32)), .unset, .unset, .unset, .unset, .unset, .unset, .unset, .unset, .unset, .unset, .unset, .unset, .unset, .unset, .unset, .unset] [(.int (1 : Int32))])) _
  refine XS.iconst X0.here hx rfl (hb hby at_57) ?_
  show Steps p.tables e below (T0.setTop (mkF m 58 #[.val (.int i0), .val (.int (0 : Int32)), .val (.int (0 : Int32)), .val (.int (0 : Int32)), .val (.int (1 : Int32)), .unset, .unset, .unset, .unset, .unset, .unset, .unset, .unset, .unset, .unset, .unset, .unset, .unset, .unset, .unset, .unset] [(.int (1 : Int32)), (.int (1 : Int32))])) _
  refine XS.iadd X0.here hx rfl (hb hby at_58) rfl ?_
  show Steps p.tables e below (T0.setTop (mkF m 59 #[.val (.int i0), .val (.int (0 : Int32)), .val (.int (0 : Int32)), .val (.int (0 : Int32)), .val (.int (1 : Int32)), .unset, .unset, .unset, .unset, .unset, .unset, .unset, .unset, .unset, .unset, .unset, .unset, .unset, .unset, .unset, .unset] [(.int ((1 : Int32) + (1 : Int32)))])) _
  refine XS.istore X0.here hx rfl (hb hby at_59) rfl (l' := #[.val (.int i0), .val (.int (0 : Int32)), .val (.int (0 : Int32)), .val (.int (0 : Int32)), .val (.int (1 : Int32)), .val (.int ((1 : Int32) + (1 : Int32))), .unset, .unset, .unset, .unset, .unset, .unset, .unset, .unset, .unset, .unset, .unset, .unset, .unset, .unset, .unset]) rfl ?_
  show Steps p.tables e below (T0.setTop (mkF m 61 #[.val (.int i0), .val (.int (0 : Int32)), .val (.int (0 : Int32)), .val (.int (0 : Int32)), .val (.int (1 : Int32)), .val (.int ((1 : Int32) + (1 : Int32))), .unset, .unset, .unset, .unset, .unset, .unset, .unset, .unset, .unset, .unset, .unset, .unset, .unset, .unset, .unset] [])) _
  refine XS.iloadN X0.here hx rfl (hb hby at_61) rfl ?_
  show Steps p.tables e below (T0.setTop (mkF m 62 #[.val (.int i0), .val (.int (0 : Int32)), .val (.int (0 : Int32)), .val (.int (0 : Int32)), .val (.int (1 : Int32)), .val (.int ((1 : Int32) + (1 : Int32))), .unset, .unset, .unset, .unset, .unset, .unset, .unset, .unset, .unset, .unset, .unset, .unset, .unset, .unset, .unset] [(.int (0 : Int32))])) _
  refine XS.ifYes X0.here hx rfl (pc0 := 62) (pc' := 69) rfl (hb hby at_62) rfl ((if0 _ _).trans (teq (by decide)).1) (by decide) (by decide) ?_
  show Steps p.tables e below (T0.setTop (mkF m 69 #[.val (.int i0), .val (.int (0 : Int32)), .val (.int (0 : Int32)), .val (.int (0 : Int32)), .val (.int (1 : Int32)), .val (.int ((1 : Int32) + (1 : Int32))), .unset, .unset, .unset, .unset, .unset, .unset, .unset, .unset, .unset, .unset, .unset, .unset, .unset, .unset, .unset] [])) _
  refine XS.iload X0.here hx rfl (hb hby at_69) rfl ?_
  show Steps p.tables e below (T0.setTop (mkF m 71 #[.val (.int i0), .val (.int (0 : Int32)), .val (.int (0 : Int32)), .val (.int (0 : Int32)), .val (.int (1 : Int32)), .val (.int ((1 : Int32) + (1 : Int32))), .unset, .unset, .unset, .unset, .unset, .unset, .unset, .unset, .unset, .unset, .unset, .unset, .unset, .unset, .unset] [(.int ((1 : Int32) + (1 : Int32)))])) _
  refine XS.iconst X0.here hx rfl (hb hby at_71) ?_
  show Steps p.tables e below (T0.setTop (mkF m 72 #[.val (.int i0), .val (.int (0 : Int32)), .val (.int (0 : Int32)), .val (.int (0 : Int32)), .val (.int (1 : Int32)), .val (.int ((1 : Int32) + (1 : Int32))), .unset, .unset, .unset, .unset, .unset, .unset, .unset, .unset, .unset, .unset, .unset, .unset, .unset, .unset, .unset] [(.int (1 : Int32)), (.int ((1 : Int32) + (1 : Int32)))])) _
  refine XS.iadd X0.here hx rfl (hb hby at_72) rfl ?_
  show Steps p.tables e below (T0.setTop (mkF m 73 #[.val (.int i0), .val (.int (0 : Int32)), .val (.int (0 : Int32)), .val (.int (0 : Int32)), .val (.int (1 : Int32)), .val (.int ((1 : Int32) + (1 : Int32))), .unset, .unset, .unset, .unset, .unset, .unset, .unset, .unset, .unset, .unset, .unset, .unset, .unset, .unset, .unset] [(.int (((1 : Int32) + (1 : Int32)) + (1 : Int32)))])) _
  refine XS.istore X0.here hx rfl (hb hby at_73) rfl (l' := #[.val (.int i0), .val (.int (0 : Int32)), .val (.int (0 : Int32)), .val (.int (0 : Int32)), .val (.int (1 : Int32)), .val (.int ((1 : Int32) + (1 : Int32))), .val (.int (((1 : Int32) + (1 : Int32)) + (1 : Int32))), .unset, .unset, .unset, .unset, .unset, .unset, .unset, .unset, .unset, .unset, .unset, .unset, .unset, .unset]) rfl ?_
  show Steps p.tables e below (T0.setTop (mkF m 75 #[.val (.int i0), .val (.int (0 : Int32)), .val (.int (0 : Int32)), .val (.int (0 : Int32)), .val (.int (1 : Int32)), .val (.int ((1 : Int32) + (1 : Int32))), .val (.int (((1 : Int32) + (1 : Int32)) + (1 : Int32))), .unset, .unset, .unset, .unset, .unset, .unset, .unset, .unset, .unset, .unset, .unset, .unset, .unset, .unset] [])) _
  refine XS.iload X0.here hx rfl (hb hby at_75) rfl ?_
  show Steps p.tables e below (T0.setTop (mkF m 77 #[.val (.int i0), .val (.int (0 : Int32)), .val (.int (0 : Int32)), .val (.int (0 : Int32)), .val (.int (1 : Int32)), .val (.int ((1 : Int32) + (1 : Int32))), .val (.int (((1 : Int32) + (1 : Int32)) + (1 : Int32))), .unset, .unset, .unset, .unset, .unset, .unset, .unset, .unset, .unset, .unset, .unset, .unset, .unset, .unset] [(.int ((1 : Int32) + (1 : Int32)))])) _
  refine XS.iconst X0.here hx rfl (hb hby at_77) ?_
  show Steps p.tables e below (T0.setTop (mkF m 78 #[.val (.int i0), .val (.int (0 : Int32)), .val (.int (0 : Int32)), .val (.int (0 : Int32)), .val (.int (1 : Int32)), .val (.int ((1 : Int32) + (1 : Int32))), .val (.int (((1 : Int32) + (1 : Int32)) + (1 : Int32))), .unset, .unset, .unset, .unset, .unset, .unset, .unset, .unset, .unset, .unset, .unset, .unset, .unset, .unset] [(.int (2 : Int32)), (.int ((1 : Int32) + (1 : Int32)))])) _
  refine XS.icmpNo X0.here hx rfl (hb hby at_78) rfl (flt (by decide)).1 ?_
  show Steps p.tables e below (T0.setTop (mkF m 81 #[.val (.int i0), .val (.int (0 : Int32)), .val (.int (0 : Int32)), .val (.int (0 : Int32)), .val (.int (1 : Int32)), .val (.int ((1 : Int32) + (1 : Int32))), .val (.int (((1 : Int32) + (1 : Int32)) + (1 : Int32))), .unset, .unset, .unset, .unset, .unset, .unset, .unset, .unset, .unset, .unset, .unset, .unset, .unset, .unset] [])) _
  refine XS.iconst X0.here hx rfl (hb hby at_81) ?_
  show Steps p.tables e below (T0.setTop (mkF m 82 #[.val (.int i0), .val (.int (0 : Int32)), .val (.int (0 : Int32)), .val (.int (0 : Int32)), .val (.int (1 : Int32)), .val (.int ((1 : Int32) + (1 : Int32))), .val (.int (((1 : Int32) + (1 : Int32)) + (1 : Int32))), .unset, .unset, .unset, .unset, .unset, .unset, .unset, .unset, .unset, .unset, .unset, .unset, .unset, .unset] [(.int (1 : Int32))])) _
  refine XS.goto X0.here hx rfl (pc0 := 82) (pc' := 86) rfl (hb hby at_82) (by decide) (by decide) ?_
  show Steps p.tables e below (T0.setTop (mkF m 86 #[.val (.int i0), .val (.int (0 : Int32)), .val (.int (0 : Int32)), .val (.int (0 : Int32)), .val (.int (1 : Int32)), .val (.int ((1 : Int32) + (1 : Int32))), .val (.int (((1 : Int32) + (1 : Int32)) + (1 : Int32))), .unset, .unset, .unset, .unset, .unset, .unset, .unset, .unset, .unset, .unset, .unset, .unset, .unset, .unset] [(.int (1 : Int32))])) _
  refine XS.istore X0.here hx rfl (hb hby at_86) rfl (l' := #[.val (.int i0), .val (.int (0 : Int32)), .val (.int (0 : Int32)), .val (.int (0 : Int32)), .val (.int (1 : Int32)), .val (.int ((1 : Int32) + (1 : Int32))), .val (.int (((1 : Int32) + (1 : Int32)) + (1 : Int32))), .val (.int (1 : Int32)), .unset, .unset, .unset, .unset, .unset, .unset, .unset, .unset, .unset, .unset, .unset, .unset, .unset]) rfl ?_
  show Steps p.tables e below (T0.setTop (mkF m 88 #[.val (.int i0), .val (.int (0 : Int32)), .val (.int (0 : Int32)), .val (.int (0 : Int32)), .val (.int (1 : Int32)), .val (.int ((1 : Int32) + (1 : Int32))), .val (.int (((1 : Int32) + (1 : Int32)) + (1 : Int32))), .val (.int (1 : Int32)), .unset, .unset, .unset, .unset, .unset, .unset, .unset, .unset, .unset, .unset, .unset, .unset, .unset] [])) _
  refine XS.iload X0.here hx rfl (hb hby at_88) rfl ?_
  show Steps p.tables e below (T0.setTop (mkF m 90 #[.val (.int i0), .val (.int (0 : Int32)), .val (.int (0 : Int32)), .val (.int (0 : Int32)), .val (.int (1 : Int32)), .val (.int ((1 : Int32) + (1 : Int32))), .val (.int (((1 : Int32) + (1 : Int32)) + (1 : Int32))), .val (.int (1 : Int32)), .unset, .unset, .unset, .unset, .unset, .unset, .unset, .unset, .unset, .unset, .unset, .unset, .unset] [(.int (((1 : Int32) + (1 : Int32)) + (1 : Int32)))])) _
  refine XS.iconst X0.here hx rfl (hb hby at_90) ?_
  show Steps p.tables e below (T0.setTop (mkF m 91 #[.val (.int i0), .val (.int (0 : Int32)), .val (.int (0 : Int32)), .val (.int (0 : Int32)), .val (.int (1 : Int32)), .val (.int ((1 : Int32) + (1 : Int32))), .val (.int (((1 : Int32) + (1 : Int32)) + (1 : Int32))), .val (.int (1 : Int32)), .unset, .unset, .unset, .unset, .unset, .unset, .unset, .unset, .unset, .unset, .unset, .unset, .unset] [(.int (2 : Int32)), (.int (((1 : Int32) + (1 : Int32)) + (1 : Int32)))])) _
  refine XS.icmpNo X0.here hx rfl (hb hby at_91) rfl (flt (by decide)).1 ?_
  show Steps p.tables e below (T0.setTop (mkF m 94 #[.val (.int i0), .val (.int (0 : Int32)), .val (.int (0 : Int32)), .val (.int (0 : Int32)), .val (.int (1 : Int32)), .val (.int ((1 : Int32) + (1 : Int32))), .val (.int (((1 : Int32) + (1 : Int32)) + (1 : Int32))), .val (.int (1 : Int32)), .unset, .unset, .unset, .unset, .unset, .unset, .unset, .unset, .unset, .unset, .unset, .unset, .unset] [])) _
  refine XS.iconst X0.here hx rfl (hb hby at_94) ?_
  show Steps p.tables e below (T0.setTop (mkF m 95 #[.val (.int i0), .val (.int (0 : Int32)), .val (.int (0 : Int32)), .val (.int (0 : Int32)), .val (.int (1 : Int32)), .val (.int ((1 : Int32) + (1 : Int32))), .val (.int (((1 : Int32) + (1 : Int32)) + (1 : Int32))), .val (.int (1 : Int32)), .unset, .unset, .unset, .unset, .unset, .unset, .unset, .unset, .unset, .unset, .unset, .unset, .unset] [(.int (1 : Int32))])) _
  refine XS.goto X0.here hx rfl (pc0 := 95) (pc' := 99) rfl (hb hby at_95) (by decide) (by decide) ?_
  show Steps p.tables e below (T0.setTop (mkF m 99 #[.val (.int i0), .val (.int (0 : Int32)), .val (.int (0 : Int32)), .val (.int (0 : Int32)), .val (.int (1 : Int32)), .val (.int ((1 : Int32) + (1 : Int32))), .val (.int (((1 : Int32) + (1 : Int32)) + (1 : Int32))), .val (.int (1 : Int32)), .unset, .unset, .unset, .unset, .unset, .unset, .unset, .unset, .unset, .unset, .unset, .unset, .unset] [(.int (1 : Int32))])) _
  refine XS.istore X0.here hx rfl (hb hby at_99) rfl (l' := #[.val (.int i0), .val (.int (0 : Int32)), .val (.int (0 : Int32)), .val (.int (0 : Int32)), .val (.int (1 : Int32)), .val (.int ((1 : Int32) + (1 : Int32))), .val (.int (((1 : Int32) + (1 : Int32)) + (1 : Int32))), .val (.int (1 : Int32)), .val (.int (1 : Int32)), .unset, .unset, .unset, .unset, .unset, .unset, .unset, .unset, .unset, .unset, .unset, .unset]) rfl ?_
  show Steps p.tables e below (T0.setTop (mkF m 101 #[.val (.int i0), .val (.int (0 : Int32)), .val (.int (0 : Int32)), .val (.int (0 : Int32)), .val (.int (1 : Int32)), .val (.int ((1 : Int32) + (1 : Int32))), .val (.int (((1 : Int32) + (1 : Int32)) + (1 : Int32))), .val (.int (1 : Int32)), .val (.int (1 : Int32)), .unset, .unset, .unset, .unset, .unset, .unset, .unset, .unset, .unset, .unset, .unset, .unset] [])) _
  refine XS.iload X0.here hx rfl (hb hby at_101) rfl ?_
  show Steps p.tables e below (T0.setTop (mkF m 103 #[.val (.int i0), .val (.int (0 : Int32)), .val (.int (0 : Int32)), .val (.int (0 : Int32)), .val (.int (1 : Int32)), .val (.int ((1 : Int32) + (1 : Int32))), .val (.int (((1 : Int32) + (1 : Int32)) + (1 : Int32))), .val (.int (1 : Int32)), .val (.int (1 : Int32)), .unset, .unset, .unset, .unset, .unset, .unset, .unset, .unset, .unset, .unset, .unset, .unset] [(.int (1 : Int32))])) _
  refine XS.ifNo X0.here hx rfl (hb hby at_103) rfl ((if0 _ _).trans (feq (by decide)).1) ?_
  show Steps p.tables e below (T0.setTop (mkF m 106 #[.val (.int i0), .val (.int (0 : Int32)), .val (.int (0 : Int32)), .val (.int (0 : Int32)), .val (.int (1 : Int32)), .val (.int ((1 : Int32) + (1 : Int32))), .val (.int (((1 : Int32) + (1 : Int32)) + (1 : Int32))), .val (.int (1 : Int32)), .val (.int (1 : Int32)), .unset, .unset, .unset, .unset, .unset, .unset, .unset, .unset, .unset, .unset, .unset, .unset] [])) _
  refine XS.iconst X0.here hx rfl (hb hby at_106) ?_
  show Steps p.tables e below (T0.setTop (mkF m 107 #[.val (.int i0), .val (.int (0 : Int32)), .val (.int (0 : Int32)), .val (.int (0 : Int32)), .val (.int (1 : Int32)), .val (.int ((1 : Int32) + (1 : Int32))), .val (.int (((1 : Int32) + (1 : Int32)) + (1 : Int32))), .val (.int (1 : Int32)), .val (.int (1 : Int32)), .unset, .unset, .unset, .unset, .unset, .unset, .unset, .unset, .unset, .unset, .unset, .unset] [(.int (1 : Int32))])) _
  refine XS.goto X0.here hx rfl (pc0 := 107) (pc' := 111) rfl (hb hby at_107) (by decide) (by decide) ?_
  show Steps p.tables e below (T0.setTop (mkF m 111 #[.val (.int i0), .val (.int (0 : Int32)), .val (.int (0 : Int32)), .val (.int (0 : Int32)), .val (.int (1 : Int32)), .val (.int ((1 : Int32) + (1 : Int32))), .val (.int (((1 : Int32) + (1 : Int32)) + (1 : Int32))), .val (.int (1 : Int32)), .val (.int (1 : Int32)), .unset, .unset, .unset, .unset, .unset, .unset, .unset, .unset, .unset, .unset, .unset, .unset] [(.int (1 : Int32))])) _
  refine XS.istore X0.here hx rfl (hb hby at_111) rfl (l' := #[.val (.int i0), .val (.int (0 : Int32)), .val (.int (0 : Int32)), .val (.int (0 : Int32)), .val (.int (1 : Int32)), .val (.int ((1 : Int32) + (1 : Int32))), .val (.int (((1 : Int32) + (1 : Int32)) + (1 : Int32))), .val (.int (1 : Int32)), .val (.int (1 : Int32)), .val (.int (1 : Int32)), .unset, .unset, .unset, .unset, .unset, .unset, .unset, .unset, .unset, .unset, .unset]) rfl ?_
  exact kt
set_option maxRecDepth 65536 in
set_option maxHeartbeats 40000000 in
theorem tnA1 {p : Program} {l : Launch} {e : Env} {R : Room} {s : State} {m : MethodId} {args : Array Value} {below : List Frame} {meth : Method} {c : Code} {T0 : State} {locs : List Loc} {cells slots : Nat} (i0 : Int32) (X0 : Stand p l e R s m args below meth c T0 locs cells slots) (hx : p.tables.exec = Jvm.exec) (hby : c.code = code) (h1 : ¬ (i0 &&& (1 : Int32)) = (0 : Int32)) (h2 : (i0 &&& (2 : Int32)) = (0 : Int32)) (h4 : (i0 &&& (4 : Int32)) = (0 : Int32)) (target : State)
    (kt : Steps p.tables e below (T0.setTop (mkF m 113 #[.val (.int i0), .val (.int (1 : Int32)), .val (.int (0 : Int32)), .val (.int (0 : Int32)), .val (.int (0 : Int32)), .val (.int ((0 : Int32) + (1 : Int32))), .val (.int (((0 : Int32) + (1 : Int32)) + (1 : Int32))), .val (.int (0 : Int32)), .val (.int (1 : Int32)), .val (.int (0 : Int32)), .unset, .unset, .unset, .unset, .unset, .unset, .unset, .unset, .unset, .unset, .unset] [])) target) : Steps p.tables e below (T0.setTop (mkF m 0 #[.val (.int i0), .unset, .unset, .unset, .unset, .unset, .unset, .unset, .unset, .unset, .unset, .unset, .unset, .unset, .unset, .unset, .unset, .unset, .unset, .unset, .unset] [])) target := by
  show Steps p.tables e below (T0.setTop (mkF m 0 #[.val (.int i0), .unset, .unset, .unset, .unset, .unset, .unset, .unset, .unset, .unset, .unset, .unset, .unset, .unset, .unset, .unset, .unset, .unset, .unset, .unset, .unset] [])) _
  refine XS.iloadN X0.here hx rfl (hb hby at_0) rfl ?_
  show Steps p.tables e below (T0.setTop (mkF m 1 #[.val (.int i0), .unset, .unset, .unset, .unset, .unset, .unset, .unset, .unset, .unset, .unset, .unset, .unset, .unset, .unset, .unset, .unset, .unset, .unset, .unset, .unset] [(.int i0)])) _
  refine XS.iconst X0.here hx rfl (hb hby at_1) ?_
  show Steps p.tables e below (T0.setTop (mkF m 2 #[.val (.int i0), .unset, .unset, .unset, .unset, .unset, .unset, .unset, .unset, .unset, .unset, .unset, .unset, .unset, .unset, .unset, .unset, .unset, .unset, .unset, .unset] [(.int (1 : Int32)), (.int i0)])) _
  refine XS.iand X0.here hx rfl (hb hby at_2) rfl ?_
  show Steps p.tables e below (T0.setTop (mkF m 3 #[.val (.int i0), .unset, .unset, .unset, .unset, .unset, .unset, .unset, .unset, .unset, .unset, .unset, .unset, .unset, .unset, .unset, .unset, .unset, .unset, .unset, .unset] [(.int (i0 &&& (1 : Int32)))])) _
  refine XS.ifNo X0.here hx rfl (hb hby at_3) rfl ((if0 _ _).trans (feq h1).1) ?_
  show Steps p.tables e below (T0.setTop (mkF m 6 #[.val (.int i0), .unset, .unset, .unset, .unset, .unset, .unset, .unset, .unset, .unset, .unset, .unset, .unset, .unset, .unset, .unset, .unset, .unset, .unset, .unset, .unset] [])) _
  refine XS.iconst X0.here hx rfl (hb hby at_6) ?_
  show Steps p.tables e below (T0.setTop (mkF m 7 #[.val (.int i0), .unset, .unset, .unset, .unset, .unset, .unset, .unset, .unset, .unset, .unset, .unset, .unset, .unset, .unset, .unset, .unset, .unset, .unset, .unset, .unset] [(.int (1 : Int32))])) _
  refine XS.goto X0.here hx rfl (pc0 := 7) (pc' := 11) rfl (hb hby at_7) (by decide) (by decide) ?_
  show Steps p.tables e below (T0.setTop (mkF m 11 #[.val (.int i0), .unset, .unset, .unset, .unset, .unset, .unset, .unset, .unset, .unset, .unset, .unset, .unset, .unset, .unset, .unset, .unset, .unset, .unset, .unset, .unset] [(.int (1 : Int32))])) _
  refine XS.istoreN X0.here hx rfl (hb hby at_11) rfl (l' := #[.val (.int i0), .val (.int (1 : Int32)), .unset, .unset, .unset, .unset, .unset, .unset, .unset, .unset, .unset, .unset, .unset, .unset, .unset, .unset, .unset, .unset, .unset, .unset, .unset]) rfl ?_
  show Steps p.tables e below (T0.setTop (mkF m 12 #[.val (.int i0), .val (.int (1 : Int32)), .unset, .unset, .unset, .unset, .unset, .unset, .unset, .unset, .unset, .unset, .unset, .unset, .unset, .unset, .unset, .unset, .unset, .unset, .unset] [])) _
  refine XS.iloadN X0.here hx rfl (hb hby at_12) rfl ?_
  show Steps p.tables e below (T0.setTop (mkF m 13 #[.val (.int i0), .val (.int (1 : Int32)), .unset, .unset, .unset, .unset, .unset, .unset, .unset, .unset, .unset, .unset, .unset, .unset, .unset, .unset, .unset, .unset, .unset, .unset, .unset] [(.int i0)])) _
  refine XS.iconst X0.here hx rfl (hb hby at_13) ?_
  show Steps p.tables e below (T0.setTop (mkF m 14 #[.val (.int i0), .val (.int (1 : Int32)), .unset, .unset, .unset, .unset, .unset, .unset, .unset, .unset, .unset, .unset, .unset, .unset, .unset, .unset, .unset, .unset, .unset, .unset, .unset] [(.int (2 : Int32)), (.int i0)])) _
  refine XS.iand X0.here hx rfl (hb hby at_14) rfl ?_
  show Steps p.tables e below (T0.setTop (mkF m 15 #[.val (.int i0), .val (.int (1 : Int32)), .unset, .unset, .unset, .unset, .unset, .unset, .unset, .unset, .unset, .unset, .unset, .unset, .unset, .unset, .unset, .unset, .unset, .unset, .unset] [(.int (i0 &&& (2 : Int32)))])) _
  refine XS.ifYes X0.here hx rfl (pc0 := 15) (pc' := 22) rfl (hb hby at_15) rfl ((if0 _ _).trans (teq h2).1) (by decide) (by decide) ?_
  show Steps p.tables e below (T0.setTop (mkF m 22 #[.val (.int i0), .val (.int (1 : Int32)), .unset, .unset, .unset, .unset, .unset, .unset, .unset, .unset, .unset, .unset, .unset, .unset, .unset, .unset, .unset, .unset, .unset, .unset, .unset] [])) _
  refine XS.iconst X0.here hx rfl (hb hby at_22) ?_
  show Steps p.tables e below (T0.setTop (mkF m 23 #[.val (.int i0), .val (.int (1 : Int32)), .unset, .unset, .unset, .unset, .unset, .unset, .unset, .unset, .unset, .unset, .unset, .unset, .unset, .unset, .unset, .unset, .unset, .unset, .unset] [(.int (0 : Int32))])) _
  refine XS.istoreN X0.here hx rfl (hb hby at_23) rfl (l' := #[.val (.int i0), .val (.int (1 : Int32)), .val (.int (0 : Int32)), .unset, .unset, .unset, .unset, .unset, .unset, .unset, .unset, .unset, .unset, .unset, .unset, .unset, .unset, .unset, .unset, .unset, .unset]) rfl ?_
  show Steps p.tables e below (T0.setTop (mkF m 24 #[.val (.int i0), .val (.int (1 : Int32)), .val (.int (0 : Int32)), .unset, .unset, .unset, .unset, .unset, .unset, .unset, .unset, .unset, .unset, .unset, .unset, .unset, .unset, .unset, .unset, .unset, .unset] [])) _
  refine XS.iloadN X0.here hx rfl (hb hby at_24) rfl ?_
  show Steps p.tables e below (T0.setTop (mkF m 25 #[.val (.int i0), .val (.int (1 : Int32)), .val (.int (0 : Int32)), .unset, .unset, .unset, .unset, .unset, .unset, .unset, .unset, .unset, .unset, .unset, .unset, .unset, .unset, .unset, .unset, .unset, .unset] [(.int i0)])) _
  refine XS.iconst X0.here hx rfl (hb hby at_25) ?_
  show Steps p.tables e below (T0.setTop (mkF m 26 #[.val (.int i0), .val (.int (1 : Int32)), .val (.int (0 : Int32)), .unset, .unset, .unset, .unset, .unset, .unset, .unset, .unset, .unset, .unset, .unset, .unset, .unset, .unset, .unset, .unset, .unset, .unset] [(.int (4 : Int32)), (.int i0)])) _
  refine XS.iand X0.here hx rfl (hb hby at_26) rfl ?_
  show Steps p.tables e below (T0.setTop (mkF m 27 #[.val (.int i0), .val (.int (1 : Int32)), .val (.int (0 : Int32)), .unset, .unset, .unset, .unset, .unset, .unset, .unset, .unset, .unset, .unset, .unset, .unset, .unset, .unset, .unset, .unset, .unset, .unset] [(.int (i0 &&& (4 : Int32)))])) _
  refine XS.ifYes X0.here hx rfl (pc0 := 27) (pc' := 34) rfl (hb hby at_27) rfl ((if0 _ _).trans (teq h4).1) (by decide) (by decide) ?_
  show Steps p.tables e below (T0.setTop (mkF m 34 #[.val (.int i0), .val (.int (1 : Int32)), .val (.int (0 : Int32)), .unset, .unset, .unset, .unset, .unset, .unset, .unset, .unset, .unset, .unset, .unset, .unset, .unset, .unset, .unset, .unset, .unset, .unset] [])) _
  refine XS.iconst X0.here hx rfl (hb hby at_34) ?_
  show Steps p.tables e below (T0.setTop (mkF m 35 #[.val (.int i0), .val (.int (1 : Int32)), .val (.int (0 : Int32)), .unset, .unset, .unset, .unset, .unset, .unset, .unset, .unset, .unset, .unset, .unset, .unset, .unset, .unset, .unset, .unset, .unset, .unset] [(.int (0 : Int32))])) _
  refine XS.istoreN X0.here hx rfl (hb hby at_35) rfl (l' := #[.val (.int i0), .val (.int (1 : Int32)), .val (.int (0 : Int32)), .val (.int (0 : Int32)), .unset, .unset, .unset, .unset, .unset, .unset, .unset, .unset, .unset, .unset, .unset, .unset, .unset, .unset, .unset, .unset, .unset]) rfl ?_
  show Steps p.tables e below (T0.setTop (mkF m 36 #[.val (.int i0), .val (.int (1 : Int32)), .val (.int (0 : Int32)), .val (.int (0 : Int32)), .unset, .unset, .unset, .unset, .unset, .unset, .unset, .unset, .unset, .unset, .unset, .unset, .unset, .unset, .unset, .unset, .unset] [])) _
  refine XS.iloadN X0.here hx rfl (hb hby at_36) rfl ?_
  show Steps p.tables e below (T0.setTop (mkF m 37 #[.val (.int i0), .val (.int (1 : Int32)), .val (.int (0 : Int32)), .val (.int (0 : Int32)), .unset, .unset, .unset, .unset, .unset, .unset, .unset, .unset, .unset, .unset, .unset, .unset, .unset, .unset, .unset, .unset, .unset] [(.int (1 : Int32))])) _
  refine XS.ifNo X0.here hx rfl (hb hby at_37) rfl ((if0 _ _).trans (feq (by decide)).1) ?_
  show Steps p.tables e below (T0.setTop (mkF m 40 #[.val (.int i0), .val (.int (1 : Int32)), .val (.int (0 : Int32)), .val (.int (0 : Int32)), .unset, .unset, .unset, .unset, .unset, .unset, .unset, .unset, .unset, .unset, .unset, .unset, .unset, .unset, .unset, .unset, .unset] [])) _
  refine XS.iconst X0.here hx rfl (hb hby at_40) ?_
  show Steps p.tables e below (T0.setTop (mkF m 41 #[.val (.int i0), .val (.int (1 : Int32)), .val (.int (0 : Int32)), .val (.int (0 : Int32)), .unset, .unset, .unset, .unset, .unset, .unset, .unset, .unset, .unset, .unset, .unset, .unset, .unset, .unset, .unset, .unset, .unset] [(.int (0 : Int32))])) _
  refine XS.goto X0.here hx rfl (pc0 := 41) (pc' := 45) rfl (hb hby at_41) (by decide) (by decide) ?_
  show Steps p.tables e below (T0.setTop (mkF m 45 #[.val (.int i0), .val (.int (1 : Int32)), .val (.int (0 : Int32)), .val (.int (0 : Int32)), .unset, .unset, .unset, .unset, .unset, .unset, .unset, .unset, .unset, .unset, .unset, .unset, .unset, .unset, .unset, .unset, .unset] [(.int (0 : Int32))])) _
  refine XS.istore X0.here hx rfl (hb hby at_45) rfl (l' := #[.val (.int i0), .val (.int (1 : Int32)), .val (.int (0 : Int32)), .val (.int (0 : Int32)), .val (.int (0 : Int32)), .unset, .unset, .unset, .unset, .unset, .unset, .unset, .unset, .unset, .unset, .unset, .unset, .unset, .unset, .unset, .unset]) rfl ?_
  show Steps p.tables e below (T0.setTop (mkF m 47 #[.val (.int i0), .val (.int (1 : Int32)), .val (.int (0 : Int32)), .val (.int (0 : Int32)), .val (.int (0 : Int32)), .unset, .unset, .unset, .unset, .unset, .unset, .unset, .unset, .unset, .unset, .unset, .unset, .unset, .unset, .unset, .unset] [])) _
  refine XS.iloadN X0.here hx rfl (hb hby at_47) rfl ?_
  show Steps p.tables e below (T0.setTop (mkF m 48 #[.val (.int i0), .val (.int (1 : Int32)), .val (.int (0 : Int32)), .val (.int (0 : Int32)), .val (.int (0 : Int32)), .unset, .unset, .unset, .unset, .unset, .unset, .unset, .unset, .unset, .unset, .unset, .unset, .unset, .unset, .unset, .unset] [(.int (0 : Int32))])) _
  refine XS.ifYes X0.here hx rfl (pc0 := 48) (pc' := 55) rfl (hb hby at_48) rfl ((if0 _ _).trans (teq (by decide)).1) (by decide) (by decide) ?_
  show Steps p.tables e below (T0.setTop (mkF m 55 #[.val (.int i0), .val (.int (1 : Int32)), .val (.int (0 : Int32)), .val (.int (0 : Int32)), .val (.int (0 : Int32)), .unset, .unset, .unset, .unset, .unset, .unset, .unset, .unset, .unset, .unset, .unset, .unset, .unset, .unset, .unset, .unset] [])) _
  refine XS.iload X0.here hx rfl (hb hby at_55) rfl ?_
  show Steps p.tables e below (T0.setTop (mkF m 57 #[.val (.int i0), .val (.int (1 : Int32)), .val (.int (0 : Int32)), .val (.int (0 : Int32)), .val (.int (0 : Int32)), .unset, .unset, .unset, .unset, .unset, .unset, .unset, .unset, .unset, .unset, .unset, .unset, .unset, .unset, .unset, .unset] [(.int (0 : Int32))])) _
  refine XS.iconst X0.here hx rfl (hb hby at_57) ?_
  show Steps p.tables e below (T0.setTop (mkF m 58 #[.val (.int i0), .val (.int (1 : Int32)), .val (.int (0 : Int32)), .val (.int (0 : Int32)), .val (.int (0 : Int32)), .unset, .unset, .unset, .unset, .unset, .unset, .unset, .unset, .unset, .unset, .unset, .unset, .unset, .unset, .unset, .unset] [(.int (1 : Int32)), (.int (0 : Int32))])) _
  refine XS.iadd X0.here hx rfl (hb hby at_58) rfl ?_
  show Steps p.tables e below (T0.setTop (mkF m 59 #[.val (.int i0), .val (.int (1 : Int32)), .val (.int (0 : Int32)), .val (.int (0 : Int32)), .val (.int (0 : Int32)), .unset, .unset, .unset, .unset, .unset, .unset, .unset, .unset, .unset, .unset, .unset, .unset, .unset, .unset, .unset, .unset] [(.int ((0 : Int32) + (1 : Int32)))])) _
  refine XS.istore X0.here hx rfl (hb hby at_59) rfl (l' := #[.val (.int i0), .val (.int (1 : Int32)), .val (.int (0 : Int32)), .val (.int (0 : Int32)), .val (.int (0 : Int32)), .val (.int ((0 : Int32) + (1 : Int32))), .unset, .unset, .unset, .unset, .unset, .unset, .unset, .unset, .unset, .unset, .unset, .unset, .unset, .unset, .unset]) rfl ?_
  show Steps p.tables e below (T0.setTop (mkF m 61 #[.val (.int i0), .val (.int (1 : Int32)), .val (.int (0 : Int32)), .val (.int (0 : Int32)), .val (.int (0 : Int32)), .val (.int ((0 : Int32) + (1 : Int32))), .unset, .unset, .unset, .unset, .unset, .unset, .unset, .unset, .unset, .unset, .unset, .unset, .unset, .unset, .unset] [])) _
  refine XS.iloadN X0.here hx rfl (hb hby at_61) rfl ?_
  show Steps p.tables e below (T0.setTop (mkF m 62 #[.val (.int i0), .val (.int (1 : Int32)), .val (.int (0 : Int32)), .val (.int (0 : Int32)), .val (.int (0 : Int32)), .val (.int ((0 : Int32) + (1 : Int32))), .unset, .unset, .unset, .unset, .unset, .unset, .unset, .unset, .unset, .unset, .unset, .unset, .unset, .unset, .unset] [(.int (0 : Int32))])) _
  refine XS.ifYes X0.here hx rfl (pc0 := 62) (pc' := 69) rfl (hb hby at_62) rfl ((if0 _ _).trans (teq (by decide)).1) (by decide) (by decide) ?_
  show Steps p.tables e below (T0.setTop (mkF m 69 #[.val (.int i0), .val (.int (1 : Int32)), .val (.int (0 : Int32)), .val (.int (0 : Int32)), .val (.int (0 : Int32)), .val (.int ((0 : Int32) + (1 : Int32))), .unset, .unset, .unset, .unset, .unset, .unset, .unset, .unset, .unset, .unset, .unset, .unset, .unset, .unset, .unset] [])) _
  refine XS.iload X0.here hx rfl (hb hby at_69) rfl ?_
  show Steps p.tables e below (T0.setTop (mkF m 71 #[.val (.int i0), .val (.int (1 : Int32)), .val (.int (0 : Int32)), .val (.int (0 : Int32)), .val (.int (0 : Int32)), .val (.int ((0 : Int32) + (1 : Int32))), .unset, .unset, .unset, .unset, .unset, .unset, .unset, .unset, .unset, .unset, .unset, .unset, .unset, .unset, .unset] [(.int ((0 : Int32) + (1 : Int32)))])) _
  refine XS.iconst X0.here hx rfl (hb hby at_71) ?_
  show Steps p.tables e below (T0.setTop (mkF m 72 #[.val (.int i0), .val (.int (1 : Int32)), .val (.int (0 : Int32)), .val (.int (0 : Int32)), .val (.int (0 : Int32)), .val (.int ((0 : Int32) + (1 : Int32))), .unset, .unset, .unset, .unset, .unset, .unset, .unset, .unset, .unset, .unset, .unset, .unset, .unset, .unset, .unset] [(.int (1 : Int32)), (.int ((0 : Int32) + (1 : Int32)))])) _
  refine XS.iadd X0.here hx rfl (hb hby at_72) rfl ?_
  show Steps p.tables e below (T0.setTop (mkF m 73 #[.val (.int i0), .val (.int (1 : Int32)), .val (.int (0 : Int32)), .val (.int (0 : Int32)), .val (.int (0 : Int32)), .val (.int ((0 : Int32) + (1 : Int32))), .unset, .unset, .unset, .unset, .unset, .unset, .unset, .unset, .unset, .unset, .unset, .unset, .unset, .unset, .unset] [(.int (((0 : Int32) + (1 : Int32)) + (1 : Int32)))])) _
  refine XS.istore X0.here hx rfl (hb hby at_73) rfl (l' := #[.val (.int i0), .val (.int (1 : Int32)), .val (.int (0 : Int32)), .val (.int (0 : Int32)), .val (.int (0 : Int32)), .val (.int ((0 : Int32) + (1 : Int32))), .val (.int (((0 : Int32) + (1 : Int32)) + (1 : Int32))), .unset, .unset, .unset, .unset, .unset, .unset, .unset, .unset, .unset, .unset, .unset, .unset, .unset, .unset]) rfl ?_
  show Steps p.tables e below (T0.setTop (mkF m 75 #[.val (.int i0), .val (.int (1 : Int32)), .val (.int (0 : Int32)), .val (.int (0 : Int32)), .val (.int (0 : Int32)), .val (.int ((0 : Int32) + (1 : Int32))), .val (.int (((0 : Int32) + (1 : Int32)) + (1 : Int32))), .unset, .unset, .unset, .unset, .unset, .unset, .unset, .unset, .unset, .unset, .unset, .unset, .unset, .unset] [])) _
  refine XS.iload X0.here hx rfl (hb hby at_75) rfl ?_
  show Steps p.tables e below (T0.setTop (mkF m 77 #[.val (.int i0), .val (.int (1 : Int32)), .val (.int (0 : Int32)), .val (.int (0 : Int32)), .val (.int (0 : Int32)), .val (.int ((0 : Int32) + (1 : Int32))), .val (.int (((0 : Int32) + (1 : Int32)) + (1 : Int32))), .unset, .unset, .unset, .unset, .unset, .unset, .unset, .unset, .unset, .unset, .unset, .unset, .unset, .unset] [(.int ((0 : Int32) + (1 : Int32)))])) _
  refine XS.iconst X0.here hx rfl (hb hby at_77) ?_
  show Steps p.tables e below (T0.setTop (mkF m 78 #[.val (.int i0), .val (.int (1 : Int32)), .val (.int (0 : Int32)), .val (.int (0 : Int32)), .val (.int (0 : Int32)), .val (.int ((0 : Int32) + (1 : Int32))), .val (.int (((0 : Int32) + (1 : Int32)) + (1 : Int32))), .unset, .unset, .unset, .unset, .unset, .unset, .unset, .unset, .unset, .unset, .unset, .unset, .unset, .unset] [(.int (2 : Int32)), (.int ((0 : Int32) + (1 : Int32)))])) _
  refine XS.icmpYes X0.here hx rfl (pc0 := 78) (pc' := 85) rfl (hb hby at_78) rfl (tlt (by decide)).1 (by decide) (by decide) ?_
  show Steps p.tables e below (T0.setTop (mkF m 85 #[.val (.int i0), .val (.int (1 : Int32)), .val (.int (0 : Int32)), .val (.int (0 : Int32)), .val (.int (0 : Int32)), .val (.int ((0 : Int32) + (1 : Int32))), .val (.int (((0 : Int32) + (1 : Int32)) + (1 : Int32))), .unset, .unset, .unset, .unset, .unset, .unset, .unset, .unset, .unset, .unset, .unset, .unset, .unset, .unset] [])) _
  refine XS.iconst X0.here hx rfl (hb hby at_85) ?_
  show Steps p.tables e below (T0.setTop (mkF m 86 #[.val (.int i0), .val (.int (1 : Int32)), .val (.int (0 : Int32)), .val (.int (0 : Int32)), .val (.int (0 : Int32)), .val (.int ((0 : Int32) + (1 : Int32))), .val (.int (((0 : Int32) + (1 : Int32)) + (1 : Int32))), .unset, .unset, .unset, .unset, .unset, .unset, .unset, .unset, .unset, .unset, .unset, .unset, .unset, .unset] [(.int (0 : Int32))])) _
  refine XS.istore X0.here hx rfl (hb hby at_86) rfl (l' := #[.val (.int i0), .val (.int (1 : Int32)), .val (.int (0 : Int32)), .val (.int (0 : Int32)), .val (.int (0 : Int32)), .val (.int ((0 : Int32) + (1 : Int32))), .val (.int (((0 : Int32) + (1 : Int32)) + (1 : Int32))), .val (.int (0 : Int32)), .unset, .unset, .unset, .unset, .unset, .unset, .unset, .unset, .unset, .unset, .unset, .unset, .unset]) rfl ?_
  show Steps p.tables e below (T0.setTop (mkF m 88 #[.val (.int i0), .val (.int (1 : Int32)), .val (.int (0 : Int32)), .val (.int (0 : Int32)), .val (.int (0 : Int32)), .val (.int ((0 : Int32) + (1 : Int32))), .val (.int (((0 : Int32) + (1 : Int32)) + (1 : Int32))), .val (.int (0 : Int32)), .unset, .unset, .unset, .unset, .unset, .unset, .unset, .unset, .unset, .unset, .unset, .unset, .unset] [])) _
  refine XS.iload X0.here hx rfl (hb hby at_88) rfl ?_
  show Steps p.tables e below (T0.setTop (mkF m 90 #[.val (.int i0), .val (.int (1 : Int32)), .val (.int (0 : Int32)), .val (.int (0 : Int32)), .val (.int (0 : Int32)), .val (.int ((0 : Int32) + (1 : Int32))), .val (.int (((0 : Int32) + (1 : Int32)) + (1 : Int32))), .val (.int (0 : Int32)), .unset, .unset, .unset, .unset, .unset, .unset, .unset, .unset, .unset, .unset, .unset, .unset, .unset] [(.int (((0 : Int32) + (1 : Int32)) + (1 : Int32)))])) _
  refine XS.iconst X0.here hx rfl (hb hby at_90) ?_
  show Steps p.tables e below (T0.setTop (mkF m 91 #[.val (.int i0), .val (.int (1 : Int32)), .val (.int (0 : Int32)), .val (.int (0 : Int32)), .val (.int (0 : Int32)), .val (.int ((0 : Int32) + (1 : Int32))), .val (.int (((0 : Int32) + (1 : Int32)) + (1 : Int32))), .val (.int (0 : Int32)), .unset, .unset, .unset, .unset, .unset, .unset, .unset, .unset, .unset, .unset, .unset, .unset, .unset] [(.int (2 : Int32)), (.int (((0 : Int32) + (1 : Int32)) + (1 : Int32)))])) _
  refine XS.icmpNo X0.here hx rfl (hb hby at_91) rfl (flt (by decide)).1 ?_
  show Steps p.tables e below (T0.setTop (mkF m 94 #[.val (.int i0), .val (.int (1 : Int32)), .val (.int (0 : Int32)), .val (.int (0 : Int32)), .val (.int (0 : Int32)), .val (.int ((0 : Int32) + (1 : Int32))), .val (.int (((0 : Int32) + (1 : Int32)) + (1 : Int32))), .val (.int (0 : Int32)), .unset, .unset, .unset, .unset, .unset, .unset, .unset, .unset, .unset, .unset, .unset, .unset, .unset] [])) _
  refine XS.iconst X0.here hx rfl (hb hby at_94) ?_
  show Steps p.tables e below (T0.setTop (mkF m 95 #[.val (.int i0), .val (.int (1 : Int32)), .val (.int (0 : Int32)), .val (.int (0 : Int32)), .val (.int (0 : Int32)), .val (.int ((0 : Int32) + (1 : Int32))), .val (.int (((0 : Int32) + (1 : Int32)) + (1 : Int32))), .val (.int (0 : Int32)), .unset, .unset, .unset, .unset, .unset, .unset, .unset, .unset, .unset, .unset, .unset, .unset, .unset] [(.int (1 : Int32))])) _
  refine XS.goto X0.here hx rfl (pc0 := 95) (pc' := 99) rfl (hb hby at_95) (by decide) (by decide) ?_
  show Steps p.tables e below (T0.setTop (mkF m 99 #[.val (.int i0), .val (.int (1 : Int32)), .val (.int (0 : Int32)), .val (.int (0 : Int32)), .val (.int (0 : Int32)), .val (.int ((0 : Int32) + (1 : Int32))), .val (.int (((0 : Int32) + (1 : Int32)) + (1 : Int32))), .val (.int (0 : Int32)), .unset, .unset, .unset, .unset, .unset, .unset, .unset, .unset, .unset, .unset, .unset, .unset, .unset] [(.int (1 : Int32))])) _
  refine XS.istore X0.here hx rfl (hb hby at_99) rfl (l' := #[.val (.int i0), .val (.int (1 : Int32)), .val (.int (0 : Int32)), .val (.int (0 : Int32)), .val (.int (0 : Int32)), .val (.int ((0 : Int32) + (1 : Int32))), .val (.int (((0 : Int32) + (1 : Int32)) + (1 : Int32))), .val (.int (0 : Int32)), .val (.int (1 : Int32)), .unset, .unset, .unset, .unset, .unset, .unset, .unset, .unset, .unset, .unset, .unset, .unset]) rfl ?_
  show Steps p.tables e below (T0.setTop (mkF m 101 #[.val (.int i0), .val (.int (1 : Int32)), .val (.int (0 : Int32)), .val (.int (0 : Int32)), .val (.int (0 : Int32)), .val (.int ((0 : Int32) + (1 : Int32))), .val (.int (((0 : Int32) + (1 : Int32)) + (1 : Int32))), .val (.int (0 : Int32)), .val (.int (1 : Int32)), .unset, .unset, .unset, .unset, .unset, .unset, .unset, .unset, .unset, .unset, .unset, .unset] [])) _
  refine XS.iload X0.here hx rfl (hb hby at_101) rfl ?_
  show Steps p.tables e below (T0.setTop (mkF m 103 #[.val (.int i0), .val (.int (1 : Int32)), .val (.int (0 : Int32)), .val (.int (0 : Int32)), .val (.int (0 : Int32)), .val (.int ((0 : Int32) + (1 : Int32))), .val (.int (((0 : Int32) + (1 : Int32)) + (1 : Int32))), .val (.int (0 : Int32)), .val (.int (1 : Int32)), .unset, .unset, .unset, .unset, .unset, .unset, .unset, .unset, .unset, .unset, .unset, .unset] [(.int (0 : Int32))])) _
  refine XS.ifYes X0.here hx rfl (pc0 := 103) (pc' := 110) rfl (hb hby at_103) rfl ((if0 _ _).trans (teq (by decide)).1) (by decide) (by decide) ?_
  show Steps p.tables e below (T0.setTop (mkF m 110 #[.val (.int i0), .val (.int (1 : Int32)), .val (.int (0 : Int32)), .val (.int (0 : Int32)), .val (.int (0 : Int32)), .val (.int ((0 : Int32) + (1 : Int32))), .val (.int (((0 : Int32) + (1 : Int32)) + (1 : Int32))), .val (.int (0 : Int32)), .val (.int (1 : Int32)), .unset, .unset, .unset, .unset, .unset, .unset, .unset, .unset, .unset, .unset, .unset, .unset] [])) _
  refine XS.iconst X0.here hx rfl (hb hby at_110) ?_
  show Steps p.tables e below (T0.setTop (mkF m 111 #[.val (.int i0), .val (.int (1 : Int32)), .val (.int (0 : Int32)), .val (.int (0 : Int32)), .val (.int (0 : Int32)), .val (.int ((0 : Int32) + (1 : Int32))), .val (.int (((0 : Int32) + (1 : Int32)) + (1 : Int32))), .val (.int (0 : Int32)), .val (.int (1 : Int32)), .unset, .unset, .unset, .unset, .unset, .unset, .unset, .unset, .unset, .unset, .unset, .unset] [(.int (0 : Int32))])) _
  refine XS.istore X0.here hx rfl (hb hby at_111) rfl (l' := #[.val (.int i0), .val (.int (1 : Int32)), .val (.int (0 : Int32)), .val (.int (0 : Int32)), .val (.int (0 : Int32)), .val (.int ((0 : Int32) + (1 : Int32))), .val (.int (((0 : Int32) + (1 : Int32)) + (1 : Int32))), .val (.int (0 : Int32)), .val (.int (1 : Int32)), .val (.int (0 : Int32)), .unset, .unset, .unset, .unset, .unset, .unset, .unset, .unset, .unset, .unset, .unset]) rfl ?_
  exact kt
set_option maxRecDepth 65536 in
set_option maxHeartbeats 40000000 in
theorem tnA2 {p : Program} {l : Launch} {e : Env} {R : Room} {s : State} {m : MethodId} {args : Array Value} {below : List Frame} {meth : Method} {c : Code} {T0 : State} {locs : List Loc} {cells slots : Nat} (i0 : Int32) (X0 : Stand p l e R s m args below meth c T0 locs cells slots) (hx : p.tables.exec = Jvm.exec) (hby : c.code = code) (h1 : (i0 &&& (1 : Int32)) = (0 : Int32)) (h2 : ¬ (i0 &&& (2 : Int32)) = (0 : Int32)) (h4 : (i0 &&& (4 : Int32)) = (0 : Int32)) (target : State)
    (kt : Steps p.tables e below (T0.setTop (mkF m 113 #[.val (.int i0), .val (.int (0 : Int32)), .val (.int (1 : Int32)), .val (.int (0 : Int32)), .val (.int (1 : Int32)), .val (.int (0 : Int32)), .val (.int ((0 : Int32) + (1 : Int32))), .val (.int (0 : Int32)), .val (.int (0 : Int32)), .val (.int (0 : Int32)), .unset, .unset, .unset, .unset, .unset, .unset, .unset, .unset, .unset, .unset, .unset] [])) target) : Steps p.tables e below (T0.setTop (mkF m 0 #[.val (.int i0), .unset, .unset, .unset, .unset, .unset, .unset, .unset, .unset, .unset, .unset, .unset, .unset, .unset, .unset, .unset, .unset, .unset, .unset, .unset, .unset] [])) target := by
  show Steps p.tables e below (T0.setTop (mkF m 0 #[.val (.int i0), .unset, .unset, .unset, .unset, .unset, .unset, .unset, .unset, .unset, .unset, .unset, .unset, .unset, .unset, .unset, .unset, .unset, .unset, .unset, .unset] [])) _
  refine XS.iloadN X0.here hx rfl (hb hby at_0) rfl ?_
  show Steps p.tables e below (T0.setTop (mkF m 1 #[.val (.int i0), .unset, .unset, .unset, .unset, .unset, .unset, .unset, .unset, .unset, .unset, .unset, .unset, .unset, .unset, .unset, .unset, .unset, .unset, .unset, .unset] [(.int i0)])) _
  refine XS.iconst X0.here hx rfl (hb hby at_1) ?_
  show Steps p.tables e below (T0.setTop (mkF m 2 #[.val (.int i0), .unset, .unset, .unset, .unset, .unset, .unset, .unset, .unset, .unset, .unset, .unset, .unset, .unset, .unset, .unset, .unset, .unset, .unset, .unset, .unset] [(.int (1 : Int32)), (.int i0)])) _
  refine XS.iand X0.here hx rfl (hb hby at_2) rfl ?_
  show Steps p.tables e below (T0.setTop (mkF m 3 #[.val (.int i0), .unset, .unset, .unset, .unset, .unset, .unset, .unset, .unset, .unset, .unset, .unset, .unset, .unset, .unset, .unset, .unset, .unset, .unset, .unset, .unset] [(.int (i0 &&& (1 : Int32)))])) _
  refine XS.ifYes X0.here hx rfl (pc0 := 3) (pc' := 10) rfl (hb hby at_3) rfl ((if0 _ _).trans (teq h1).1) (by decide) (by decide) ?_
  show Steps p.tables e below (T0.setTop (mkF m 10 #[.val (.int i0), .unset, .unset, .unset, .unset, .unset, .unset, .unset, .unset, .unset, .unset, .unset, .unset, .unset, .unset, .unset, .unset, .unset, .unset, .unset, .unset] [])) _
  refine XS.iconst X0.here hx rfl (hb hby at_10) ?_
  show Steps p.tables e below (T0.setTop (mkF m 11 #[.val (.int i0), .unset, .unset, .unset, .unset, .unset, .unset, .unset, .unset, .unset, .unset, .unset, .unset, .unset, .unset, .unset, .unset, .unset, .unset, .unset, .unset] [(.int (0 : Int32))])) _
  refine XS.istoreN X0.here hx rfl (hb hby at_11) rfl (l' := #[.val (.int i0), .val (.int (0 : Int32)), .unset, .unset, .unset, .unset, .unset, .unset, .unset, .unset, .unset, .unset, .unset, .unset, .unset, .unset, .unset, .unset, .unset, .unset, .unset]) rfl ?_
  show Steps p.tables e below (T0.setTop (mkF m 12 #[.val (.int i0), .val (.int (0 : Int32)), .unset, .unset, .unset, .unset, .unset, .unset, .unset, .unset, .unset, .unset, .unset, .unset, .unset, .unset, .unset, .unset, .unset, .unset, .unset] [])) _
  refine XS.iloadN X0.here hx rfl (hb hby at_12) rfl ?_
  show Steps p.tables e below (T0.setTop (mkF m 13 #[.val (.int i0), .val (.int (0 : Int32)), .unset, .unset, .unset, .unset, .unset, .unset, .unset, .unset, .unset, .unset, .unset, .unset, .unset, .unset, .unset, .unset, .unset, .unset, .unset] [(.int i0)])) _
  refine XS.iconst X0.here hx rfl (hb hby at_13) ?_
  show Steps p.tables e below (T0.setTop (mkF m 14 #[.val (.int i0), .val (.int (0 : Int32)), .unset, .unset, .unset, .unset, .unset, .unset, .unset, .unset, .unset, .unset, .unset, .unset, .unset, .unset, .unset, .unset, .unset, .unset, .unset] [(.int (2 : Int32)), (.int i0)])) _
  refine XS.iand X0.here hx rfl (hb hby at_14) rfl ?_
  show Steps p.tables e below (T0.setTop (mkF m 15 #[.val (.int i0), .val (.int (0 : Int32)), .unset, .unset, .unset, .unset, .unset, .unset, .unset, .unset, .unset, .unset, .unset, .unset, .unset, .unset, .unset, .unset, .unset, .unset, .unset] [(.int (i0 &&& (2 : Int32)))])) _
  refine XS.ifNo X0.here hx rfl (hb hby at_15) rfl ((if0 _ _).trans (feq h2).1) ?_
  show Steps p.tables e below (T0.setTop (mkF m 18 #[.val (.int i0), .val (.int (0 : Int32)), .unset, .unset, .unset, .unset, .unset, .unset, .unset, .unset, .unset, .unset, .unset, .unset, .unset, .unset, .unset, .unset, .unset, .unset, .unset] [])) _
  refine XS.iconst X0.here hx rfl (hb hby at_18) ?_
  show Steps p.tables e below (T0.setTop (mkF m 19 #[.val (.int i0), .val (.int (0 : Int32)), .unset, .unset, .unset, .unset, .unset, .unset, .unset, .unset, .unset, .unset, .unset, .unset, .unset, .unset, .unset, .unset, .unset, .unset, .unset] [(.int (1 : Int32))])) _
  refine XS.goto X0.here hx rfl (pc0 := 19) (pc' := 23) rfl (hb hby at_19) (by decide) (by decide) ?_
  show Steps p.tables e below (T0.setTop (mkF m 23 #[.val (.int i0), .val (.int (0 : Int32)), .unset, .unset, .unset, .unset, .unset, .unset, .unset, .unset, .unset, .unset, .unset, .unset, .unset, .unset, .unset, .unset, .unset, .unset, .unset] [(.int (1 : Int32))])) _
  refine XS.istoreN X0.here hx rfl (hb hby at_23) rfl (l' := #[.val (.int i0), .val (.int (0 : Int32)), .val (.int (1 : Int32)), .unset, .unset, .unset, .unset, .unset, .unset, .unset, .unset, .unset, .unset, .unset, .unset, .unset, .unset, .unset, .unset, .unset, .unset]) rfl ?_
  show Steps p.tables e below (T0.setTop (mkF m 24 #[.val (.int i0), .val (.int (0 : Int32)), .val (.int (1 : Int32)), .unset, .unset, .unset, .unset, .unset, .unset, .unset, .unset, .unset, .unset, .unset, .unset, .unset, .unset, .unset, .unset, .unset, .unset] [])) _
  refine XS.iloadN X0.here hx rfl (hb hby at_24) rfl ?_
  show Steps p.tables e below (T0.setTop (mkF m 25 #[.val (.int i0), .val (.int (0 : Int32)), .val (.int (1 : Int32)), .unset, .unset, .unset, .unset, .unset, .unset, .unset, .unset, .unset, .unset, .unset, .unset, .unset, .unset, .unset, .unset, .unset, .unset] [(.int i0)])) _
  refine XS.iconst X0.here hx rfl (hb hby at_25) ?_
  show Steps p.tables e below (T0.setTop (mkF m 26 #[.val (.int i0), .val (.int (0 : Int32)), .val (.int (1 : Int32)), .unset, .unset, .unset, .unset, .unset, .unset, .unset, .unset, .unset, .unset, .unset, .unset, .unset, .unset, .unset, .unset, .unset, .unset] [(.int (4 : Int32)), (.int i0)])) _
  refine XS.iand X0.here hx rfl (hb hby at_26) rfl ?_
  show Steps p.tables e below (T0.setTop (mkF m 27 #[.val (.int i0), .val (.int (0 : Int32)), .val (.int (1 : Int32)), .unset, .unset, .unset, .unset, .unset, .unset, .unset, .unset, .unset, .unset, .unset, .unset, .unset, .unset, .unset, .unset, .unset, .unset] [(.int (i0 &&& (4 : Int32)))])) _
  refine XS.ifYes X0.here hx rfl (pc0 := 27) (pc' := 34) rfl (hb hby at_27) rfl ((if0 _ _).trans (teq h4).1) (by decide) (by decide) ?_
  show Steps p.tables e below (T0.setTop (mkF m 34 #[.val (.int i0), .val (.int (0 : Int32)), .val (.int (1 : Int32)), .unset, .unset, .unset, .unset, .unset, .unset, .unset, .unset, .unset, .unset, .unset, .unset, .unset, .unset, .unset, .unset, .unset, .unset] [])) _
  refine XS.iconst X0.here hx rfl (hb hby at_34) ?_
  show Steps p.tables e below (T0.setTop (mkF m 35 #[.val (.int i0), .val (.int (0 : Int32)), .val (.int (1 : Int32)), .unset, .unset, .unset, .unset, .unset, .unset, .unset, .unset, .unset, .unset, .unset, .unset, .unset, .unset, .unset, .unset, .unset, .unset] [(.int (0 : Int32))])) _
  refine XS.istoreN X0.here hx rfl (hb hby at_35) rfl (l' := #[.val (.int i0), .val (.int (0 : Int32)), .val (.int (1 : Int32)), .val (.int (0 : Int32)), .unset, .unset, .unset, .unset, .unset, .unset, .unset, .unset, .unset, .unset, .unset, .unset, .unset, .unset, .unset, .unset, .unset]) rfl ?_
  show Steps p.tables e below (T0.setTop (mkF m 36 #[.val (.int i0), .val (.int (0 : Int32)), .val (.int (1 : Int32)), .val (.int (0 : Int32)), .unset, .unset, .unset, .unset, .unset, .unset, .unset, .unset, .unset, .unset, .unset, .unset, .unset, .unset, .unset, .unset, .unset] [])) _
  refine XS.iloadN X0.here hx rfl (hb hby at_36) rfl ?_
  show Steps p.tables e below (T0.setTop (mkF m 37 #[.val (.int i0), .val (.int (0 : Int32)), .val (.int (1 : Int32)), .val (.int (0 : Int32)), .unset, .unset, .unset, .unset, .unset, .unset, .unset, .unset, .unset, .unset, .unset, .unset, .unset, .unset, .unset, .unset, .unset] [(.int (0 : Int32))])) _
  refine XS.ifYes X0.here hx rfl (pc0 := 37) (pc' := 44) rfl (hb hby at_37) rfl ((if0 _ _).trans (teq (by decide)).1) (by decide) (by decide) ?_
  show Steps p.tables e below (T0.setTop (mkF m 44 #[.val (.int i0), .val (.int (0 : Int32)), .val (.int (1 : Int32)), .val (.int (0 : Int32)), .unset, .unset, .unset, .unset, .unset, .unset, .unset, .unset, .unset, .unset, .unset, .unset, .unset, .unset, .unset, .unset, .unset] [])) _
  refine XS.iconst X0.here hx rfl (hb hby at_44) ?_
  show Steps p.tables e below (T0.setTop (mkF m 45 #[.val (.int i0), .val (.int (0 : Int32)), .val (.int (1 : Int32)), .val (.int (0 : Int32)), .unset, .unset, .unset, .unset, .unset, .unset, .unset, .unset, .unset, .unset, .unset, .unset, .unset, .unset, .unset, .unset, .unset] [(.int (1 : Int32))])) _
  refine XS.istore X0.here hx rfl (hb hby at_45) rfl (l' := #[.val (.int i0), .val (.int (0 : Int32)), .val (.int (1 : Int32)), .val (.int (0 : Int32)), .val (.int (1 : Int32)), .unset, .unset, .unset, .unset, .unset, .unset, .unset, .unset, .unset, .unset, .unset, .unset, .unset, .unset, .unset, .unset]) rfl ?_
  show Steps p.tables e below (T0.setTop (mkF m 47 #[.val (.int i0), .val (.int (0 : Int32)), .val (.int (1 : Int32)), .val (.int (0 : Int32)), .val (.int (1 : Int32)), .unset, .unset, .unset, .unset, .unset, .unset, .unset, .unset, .unset, .unset, .unset, .unset, .unset, .unset, .unset, .unset] [])) _
  refine XS.iloadN X0.here hx rfl (hb hby at_47) rfl ?_
  show Steps p.tables e below (T0.setTop (mkF m 48 #[.val (.int i0), .val (.int (0 : Int32)), .val (.int (1 : Int32)), .val (.int (0 : Int32)), .val (.int (1 : Int32)), .unset, .unset, .unset, .unset, .unset, .unset, .unset, .unset, .unset, .unset, .unset, .unset, .unset, .unset, .unset, .unset] [(.int (1 : Int32))])) _
  refine XS.ifNo X0.here hx rfl (hb hby at_48) rfl ((if0 _ _).trans (feq (by decide)).1) ?_
  show Steps p.tables e below (T0.setTop (mkF m 51 #[.val (.int i0), .val (.int (0 : Int32)), .val (.int (1 : Int32)), .val (.int (0 : Int32)), .val (.int (1 : Int32)), .unset, .unset, .unset, .unset, .unset, .unset, .unset, .unset, .unset, .unset, .unset, .unset, .unset, .unset, .unset, .unset] [])) _
  refine XS.iconst X0.here hx rfl (hb hby at_51) ?_
  show Steps p.tables e below (T0.setTop (mkF m 52 #[.val (.int i0), .val (.int (0 : Int32)), .val (.int (1 : Int32)), .val (.int (0 : Int32)), .val (.int (1 : Int32)), .unset, .unset, .unset, .unset, .unset, .unset, .unset, .unset, .unset, .unset, .unset, .unset, .unset, .unset, .unset, .unset] [(.int (0 : Int32))])) _
  refine XS.goto X0.here hx rfl (pc0 := 52) (pc' := 59) rfl (hb hby at_52) (by decide) (by decide) ?_
  show Steps p.tables e below (T0.setTop (mkF m 59 #[.val (.int i0), .val (.int (0 : Int32)), .val (.int (1 : Int32)), .val (.int (0 : Int32)), .val (.int (1 : Int32)), .unset, .unset, .unset, .unset, .unset, .unset, .unset, .unset, .unset, .unset, .unset, .unset, .unset, .unset, .unset, .unset] [(.int (0 : Int32))])) _
  refine XS.istore X0.here hx rfl (hb hby at_59) rfl (l' := #[.val (.int i0), .val (.int (0 : Int32)), .val (.int (1 : Int32)), .val (.int (0 : Int32)), .val (.int (1 : Int32)), .val (.int (0 : Int32)), .unset, .unset, .unset, .unset, .unset, .unset, .unset, .unset, .unset, .unset, .unset, .unset, .unset, .unset, .unset]) rfl ?_
  show Steps p.tables e below (T0.setTop (mkF m 61 #[.val (.int i0), .val (.int (0 : Int32)), .val (.int (1 : Int32)), .val (.int (0 : Int32)), .val (.int (1 : Int32)), .val (.int (0 : Int32)), .unset, .unset, .unset, .unset, .unset, .unset, .unset, .unset, .unset, .unset, .unset, .unset, .unset, .unset, .unset] [])) _
  refine XS.iloadN X0.here hx rfl (hb hby at_61) rfl ?_
  show Steps p.tables e below (T0.setTop (mkF m 62 #[.val (.int i0), .val (.int (0 : Int32)), .val (.int (1 : Int32)), .val (.int (0 : Int32)), .val (.int (1 : Int32)), .val (.int (0 : Int32)), .unset, .unset, .unset, .unset, .unset, .unset, .unset, .unset, .unset, .unset, .unset, .unset, .unset, .unset, .unset] [(.int (0 : Int32))])) _
  refine XS.ifYes X0.here hx rfl (pc0 := 62) (pc' := 69) rfl (hb hby at_62) rfl ((if0 _ _).trans (teq (by decide)).1) (by decide) (by decide) ?_
  show Steps p.tables e below (T0.setTop (mkF m 69 #[.val (.int i0), .val (.int (0 : Int32)), .val (.int (1 : Int32)), .val (.int (0 : Int32)), .val (.int (1 : Int32)), .val (.int (0 : Int32)), .unset, .unset, .unset, .unset, .unset, .unset, .unset, .unset, .unset, .unset, .unset, .unset, .unset, .unset, .unset] [])) _
  refine XS.iload X0.here hx rfl (hb hby at_69) rfl ?_
  show Steps p.tables e below (T0.setTop (mkF m 71 #[.val (.int i0), .val (.int (0 : Int32)), .val (.int (1 : Int32)), .val (.int (0 : Int32)), .val (.int (1 : Int32)), .val (.int (0 : Int32)), .unset, .unset, .unset, .unset, .unset, .unset, .unset, .unset, .unset, .unset, .unset, .unset, .unset, .unset, .unset] [(.int (0 : Int32))])) _
  refine XS.iconst X0.here hx rfl (hb hby at_71) ?_
  show Steps p.tables e below (T0.setTop (mkF m 72 #[.val (.int i0), .val (.int (0 : Int32)), .val (.int (1 : Int32)), .val (.int (0 : Int32)), .val (.int (1 : Int32)), .val (.int (0 : Int32)), .unset, .unset, .unset, .unset, .unset, .unset, .unset, .unset, .unset, .unset, .unset, .unset, .unset, .unset, .unset] [(.int (1 : Int32)), (.int (0 : Int32))])) _
  refine XS.iadd X0.here hx rfl (hb hby at_72) rfl ?_
  show Steps p.tables e below (T0.setTop (mkF m 73 #[.val (.int i0), .val (.int (0 : Int32)), .val (.int (1 : Int32)), .val (.int (0 : Int32)), .val (.int (1 : Int32)), .val (.int (0 : Int32)), .unset, .unset, .unset, .unset, .unset, .unset, .unset, .unset, .unset, .unset, .unset, .unset, .unset, .unset, .unset] [(.int ((0 : Int32) + (1 : Int32)))])) _
  refine XS.istore X0.here hx rfl (hb hby at_73) rfl (l' := #[.val (.int i0), .val (.int (0 : Int32)), .val (.int (1 : Int32)), .val (.int (0 : Int32)), .val (.int (1 : Int32)), .val (.int (0 : Int32)), .val (.int ((0 : Int32) + (1 : Int32))), .unset, .unset, .unset, .unset, .unset, .unset, .unset, .unset, .unset, .unset, .unset, .unset, .unset, .unset]) rfl ?_
  show Steps p.tables e below (T0.setTop (mkF m 75 #[.val (.int i0), .val (.int (0 : Int32)), .val (.int (1 : Int32)), .val (.int (0 : Int32)), .val (.int (1 : Int32)), .val (.int (0 : Int32)), .val (.int ((0 : Int32) + (1 : Int32))), .unset, .unset, .unset, .unset, .unset, .unset, .unset, .unset, .unset, .unset, .unset, .unset, .unset, .unset] [])) _
  refine XS.iload X0.here hx rfl (hb hby at_75) rfl ?_
  show Steps p.tables e below (T0.setTop (mkF m 77 #[.val (.int i0), .val (.int (0 : Int32)), .val (.int (1 : Int32)), .val (.int (0 : Int32)), .val (.int (1 : Int32)), .val (.int (0 : Int32)), .val (.int ((0 : Int32) + (1 : Int32))), .unset, .unset, .unset, .unset, .unset, .unset, .unset, .unset, .unset, .unset, .unset, .unset, .unset, .unset] [(.int (0 : Int32))])) _
  refine XS.iconst X0.here hx rfl (hb hby at_77) ?_
  show Steps p.tables e below (T0.setTop (mkF m 78 #[.val (.int i0), .val (.int (0 : Int32)), .val (.int (1 : Int32)), .val (.int (0 : Int32)), .val (.int (1 : Int32)), .val (.int (0 : Int32)), .val (.int ((0 : Int32) + (1 : Int32))), .unset, .unset, .unset, .unset, .unset, .unset, .unset, .unset, .unset, .unset, .unset, .unset, .unset, .unset] [(.int (2 : Int32)), (.int (0 : Int32))])) _
  refine XS.icmpYes X0.here hx rfl (pc0 := 78) (pc' := 85) rfl (hb hby at_78) rfl (tlt (by decide)).1 (by decide) (by decide) ?_
  show Steps p.tables e below (T0.setTop (mkF m 85 #[.val (.int i0), .val (.int (0 : Int32)), .val (.int (1 : Int32)), .val (.int (0 : Int32)), .val (.int (1 : Int32)), .val (.int (0 : Int32)), .val (.int ((0 : Int32) + (1 : Int32))), .unset, .unset, .unset, .unset, .unset, .unset, .unset, .unset, .unset, .unset, .unset, .unset, .unset, .unset] [])) _
  refine XS.iconst X0.here hx rfl (hb hby at_85) ?_
  show Steps p.tables e below (T0.setTop (mkF m 86 #[.val (.int i0), .val (.int (0 : Int32)), .val (.int (1 : Int32)), .val (.int (0 : Int32)), .val (.int (1 : Int32)), .val (.int (0 : Int32)), .val (.int ((0 : Int32) + (1 : Int32))), .unset, .unset, .unset, .unset, .unset, .unset, .unset, .unset, .unset, .unset, .unset, .unset, .unset, .unset] [(.int (0 : Int32))])) _
  refine XS.istore X0.here hx rfl (hb hby at_86) rfl (l' := #[.val (.int i0), .val (.int (0 : Int32)), .val (.int (1 : Int32)), .val (.int (0 : Int32)), .val (.int (1 : Int32)), .val (.int (0 : Int32)), .val (.int ((0 : Int32) + (1 : Int32))), .val (.int (0 : Int32)), .unset, .unset, .unset, .unset, .unset, .unset, .unset, .unset, .unset, .unset, .unset, .unset, .unset]) rfl ?_
  show Steps p.tables e below (T0.setTop (mkF m 88 #[.val (.int i0), .val (.int (0 : Int32)), .val (.int (1 : Int32)), .val (.int (0 : Int32)), .val (.int (1 : Int32)), .val (.int (0 : Int32)), .val (.int ((0 : Int32) + (1 : Int32))), .val (.int (0 : Int32)), .unset, .unset, .unset, .unset, .unset, .unset, .unset, .unset, .unset, .unset, .unset, .unset, .unset] [])) _
  refine XS.iload X0.here hx rfl (hb hby at_88) rfl ?_
  show Steps p.tables e below (T0.setTop (mkF m 90 #[.val (.int i0), .val (.int (0 : Int32)), .val (.int (1 : Int32)), .val (.int (0 : Int32)), .val (.int (1 : Int32)), .val (.int (0 : Int32)), .val (.int ((0 : Int32) + (1 : Int32))), .val (.int (0 : Int32)), .unset, .unset, .unset, .unset, .unset, .unset, .unset, .unset, .unset, .unset, .unset, .unset, .unset] [(.int ((0 : Int32) + (1 : Int32)))])) _
  refine XS.iconst X0.here hx rfl (hb hby at_90) ?_
  show Steps p.tables e below (T0.setTop (mkF m 91 #[.val (.int i0), .val (.int (0 : Int32)), .val (.int (1 : Int32)), .val (.int (0 : Int32)), .val (.int (1 : Int32)), .val (.int (0 : Int32)), .val (.int ((0 : Int32) + (1 : Int32))), .val (.int (0 : Int32)), .unset, .unset, .unset, .unset, .unset, .unset, .unset, .unset, .unset, .unset, .unset, .unset, .unset] [(.int (2 : Int32)), (.int ((0 : Int32) + (1 : Int32)))])) _
  refine XS.icmpYes X0.here hx rfl (pc0 := 91) (pc' := 98) rfl (hb hby at_91) rfl (tlt (by decide)).1 (by decide) (by decide) ?_
  show Steps p.tables e below (T0.setTop (mkF m 98 #[.val (.int i0), .val (.int (0 : Int32)), .val (.int (1 : Int32)), .val (.int (0 : Int32)), .val (.int (1 : Int32)), .val (.int (0 : Int32)), .val (.int ((0 : Int32) + (1 : Int32))), .val (.int (0 : Int32)), .unset, .unset, .unset, .unset, .unset, .unset, .unset, .unset, .unset, .unset, .unset, .unset, .unset] [])) _
  refine XS.iconst X0.here hx rfl (hb hby at_98) ?_
  show Steps p.tables e below (T0.setTop (mkF m 99 #[.val (.int i0), .val (.int (0 : Int32)), .val (.int (1 : Int32)), .val (.int (0 : Int32)), .val (.int (1 : Int32)), .val (.int (0 : Int32)), .val (.int ((0 : Int32) + (1 : Int32))), .val (.int (0 : Int32)), .unset, .unset, .unset, .unset, .unset, .unset, .unset, .unset, .unset, .unset, .unset, .unset, .unset] [(.int (0 : Int32))])) _
  refine XS.istore X0.here hx rfl (hb hby at_99) rfl (l' := #[.val (.int i0), .val (.int (0 : Int32)), .val (.int (1 : Int32)), .val (.int (0 : Int32)), .val (.int (1 : Int32)), .val (.int (0 : Int32)), .val (.int ((0 : Int32) + (1 : Int32))), .val (.int (0 : Int32)), .val (.int (0 : Int32)), .unset, .unset, .unset, .unset, .unset, .unset, .unset, .unset, .unset, .unset, .unset, .unset]) rfl ?_
  show Steps p.tables e below (T0.setTop (mkF m 101 #[.val (.int i0), .val (.int (0 : Int32)), .val (.int (1 : Int32)), .val (.int (0 : Int32)), .val (.int (1 : Int32)), .val (.int (0 : Int32)), .val (.int ((0 : Int32) + (1 : Int32))), .val (.int (0 : Int32)), .val (.int (0 : Int32)), .unset, .unset, .unset, .unset, .unset, .unset, .unset, .unset, .unset, .unset, .unset, .unset] [])) _
  refine XS.iload X0.here hx rfl (hb hby at_101) rfl ?_
  show Steps p.tables e below (T0.setTop (mkF m 103 #[.val (.int i0), .val (.int (0 : Int32)), .val (.int (1 : Int32)), .val (.int (0 : Int32)), .val (.int (1 : Int32)), .val (.int (0 : Int32)), .val (.int ((0 : Int32) + (1 : Int32))), .val (.int (0 : Int32)), .val (.int (0 : Int32)), .unset, .unset, .unset, .unset, .unset, .unset, .unset, .unset, .unset, .unset, .unset, .unset] [(.int (0 : Int32))])) _
  refine XS.ifYes X0.here hx rfl (pc0 := 103) (pc' := 110) rfl (hb hby at_103) rfl ((if0 _ _).trans (teq (by decide)).1) (by decide) (by decide) ?_
  show Steps p.tables e below (T0.setTop (mkF m 110 #[.val (.int i0), .val (.int (0 : Int32)), .val (.int (1 : Int32)), .val (.int (0 : Int32)), .val (.int (1 : Int32)), .val (.int (0 : Int32)), .val (.int ((0 : Int32) + (1 : Int32))), .val (.int (0 : Int32)), .val (.int (0 : Int32)), .unset, .unset, .unset, .unset, .unset, .unset, .unset, .unset, .unset, .unset, .unset, .unset] [])) _
  refine XS.iconst X0.here hx rfl (hb hby at_110) ?_
  show Steps p.tables e below (T0.setTop (mkF m 111 #[.val (.int i0), .val (.int (0 : Int32)), .val (.int (1 : Int32)), .val (.int (0 : Int32)), .val (.int (1 : Int32)), .val (.int (0 : Int32)), .val (.int ((0 : Int32) + (1 : Int32))), .val (.int (0 : Int32)), .val (.int (0 : Int32)), .unset, .unset, .unset, .unset, .unset, .unset, .unset, .unset, .unset, .unset, .unset, .unset] [(.int (0 : Int32))])) _
  refine XS.istore X0.here hx rfl (hb hby at_111) rfl (l' := #[.val (.int i0), .val (.int (0 : Int32)), .val (.int (1 : Int32)), .val (.int (0 : Int32)), .val (.int (1 : Int32)), .val (.int (0 : Int32)), .val (.int ((0 : Int32) + (1 : Int32))), .val (.int (0 : Int32)), .val (.int (0 : Int32)), .val (.int (0 : Int32)), .unset, .unset, .unset, .unset, .unset, .unset, .unset, .unset, .unset, .unset, .unset]) rfl ?_
  exact kt
set_option maxRecDepth 65536 in
set_option maxHeartbeats 40000000 in
theorem tnA3 {p : Program} {l : Launch} {e : Env} {R : Room} {s : State} {m : MethodId} {args : Array Value} {below : List Frame} {meth : Method} {c : Code} {T0 : State} {locs : List Loc} {cells slots : Nat} (i0 : Int32) (X0 : Stand p l e R s m args below meth c T0 locs cells slots) (hx : p.tables.exec = Jvm.exec) (hby : c.code = code) (h1 : ¬ (i0 &&& (1 : Int32)) = (0 : Int32)) (h2 : ¬ (i0 &&& (2 : Int32)) = (0 : Int32)) (h4 : (i0 &&& (4 : Int32)) = (0 : Int32)) (target : State)
    (kt : Steps p.tables e below (T0.setTop (mkF m 113 #[.val (.int i0), .val (.int (1 : Int32)), .val (.int (1 : Int32)), .val (.int (0 : Int32)), .val (.int (0 : Int32)), .val (.int (0 : Int32)), .val (.int ((0 : Int32) + (1 : Int32))), .val (.int (0 : Int32)), .val (.int (0 : Int32)), .val (.int (0 : Int32)), .unset, .unset, .unset, .unset, .unset, .unset, .unset, .unset, .unset, .unset, .unset] [])) target) : Steps p.tables e below (T0.setTop (mkF m 0 #[.val (.int i0), .unset, .unset, .unset, .unset, .unset, .unset, .unset, .unset, .unset, .unset, .unset, .unset, .unset, .unset, .unset, .unset, .unset, .unset, .unset, .unset] [])) target := by
  show Steps p.tables e below (T0.setTop (mkF m 0 #[.val (.int i0), .unset, .unset, .unset, .unset, .unset, .unset, .unset, .unset, .unset, .unset, .unset, .unset, .unset, .unset, .unset, .unset, .unset, .unset, .unset, .unset] [])) _
  refine XS.iloadN X0.here hx rfl (hb hby at_0) rfl ?_
  show Steps p.tables e below (T0.setTop (mkF m 1 #[.val (.int i0), .unset, .unset, .unset, .unset, .unset, .unset, .unset, .unset, .unset, .unset, .unset, .unset, .unset, .unset, .unset, .unset, .unset, .unset, .unset, .unset] [(.int i0)])) _
  refine XS.iconst X0.here hx rfl (hb hby at_1) ?_
  show Steps p.tables e below (T0.setTop (mkF m 2 #[.val (.int i0), .unset, .unset, .unset, .unset, .unset, .unset, .unset, .unset, .unset, .unset, .unset, .unset, .unset, .unset, .unset, .unset, .unset, .unset, .unset, .unset] [(.int (1 : Int32)), (.int i0)])) _
  refine XS.iand X0.here hx rfl (hb hby at_2) rfl ?_
  show Steps p.tables e below (T0.setTop (mkF m 3 #[.val (.int i0), .unset, .unset, .unset, .unset, .unset, .unset, .unset, .unset, .unset, .unset, .unset, .unset, .unset, .unset, .unset, .unset, .unset, .unset, .unset, .unset] [(.int (i0 &&& (1 : Int32)))])) _
  refine XS.ifNo X0.here hx rfl (hb hby at_3) rfl ((if0 _ _).trans (feq h1).1) ?_
  show Steps p.tables e below (T0.setTop (mkF m 6 #[.val (.int i0), .unset, .unset, .unset, .unset, .unset, .unset, .unset, .unset, .unset, .unset, .unset, .unset, .unset, .unset, .unset, .unset, .unset, .unset, .unset, .unset] [])) _
  refine XS.iconst X0.here hx rfl (hb hby at_6) ?_
  show Steps p.tables e below (T0.setTop (mkF m 7 #[.val (.int i0), .unset, .unset, .unset, .unset, .unset, .unset, .unset, .unset, .unset, .unset, .unset, .unset, .unset, .unset, .unset, .unset, .unset, .unset, .unset, .unset] [(.int (1 : Int32))])) _
  refine XS.goto X0.here hx rfl (pc0 := 7) (pc' := 11) rfl (hb hby at_7) (by decide) (by decide) ?_
  show Steps p.tables e below (T0.setTop (mkF m 11 #[.val (.int i0), .unset, .unset, .unset, .unset, .unset, .unset, .unset, .unset, .unset, .unset, .unset, .unset, .unset, .unset, .unset, .unset, .unset, .unset, .unset, .unset] [(.int (1 : Int32))])) _
  refine XS.istoreN X0.here hx rfl (hb hby at_11) rfl (l' := #[.val (.int i0), .val (.int (1 : Int32)), .unset, .unset, .unset, .unset, .unset, .unset, .unset, .unset, .unset, .unset, .unset, .unset, .unset, .unset, .unset, .unset, .unset, .unset, .unset]) rfl ?_
  show Steps p.tables e below (T0.setTop (mkF m 12 #[.val (.int i0), .val (.int (1 : Int32)), .unset, .unset, .unset, .unset, .unset, .unset, .unset, .unset, .unset, .unset, .unset, .unset, .unset, .unset, .unset, .unset, .unset, .unset, .unset] [])) _
  refine XS.iloadN X0.here hx rfl (hb hby at_12) rfl ?_
  show Steps p.tables e below (T0.setTop (mkF m 13 #[.val (.int i0), .val (.int (1 : Int32)), .unset, .unset, .unset, .unset, .unset, .unset, .unset, .unset, .unset, .unset, .unset, .unset, .unset, .unset, .unset, .unset, .unset, .unset, .unset] [(.int i0)])) _
  refine XS.iconst X0.here hx rfl (hb hby at_13) ?_
  show Steps p.tables e below (T0.setTop (mkF m 14 #[.val (.int i0), .val (.int (1 : Int32)), .unset, .unset, .unset, .unset, .unset, .unset, .unset, .unset, .unset, .unset, .unset, .unset, .unset, .unset, .unset, .unset, .unset, .unset, .unset] [(.int (2 : Int32)), (.int i0)])) _
  refine XS.iand X0.here hx rfl (hb hby at_14) rfl ?_
  show Steps p.tables e below (T0.setTop (mkF m 15 #[.val (.int i0), .val (.int (1 : Int32)), .unset, .unset, .unset, .unset, .unset, .unset, .unset, .unset, .unset, .unset, .unset, .unset, .unset, .unset, .unset, .unset, .unset, .unset, .unset] [(.int (i0 &&& (2 : Int32)))])) _
  refine XS.ifNo X0.here hx rfl (hb hby at_15) rfl ((if0 _ _).trans (feq h2).1) ?_
  show Steps p.tables e below (T0.setTop (mkF m 18 #[.val (.int i0), .val (.int (1 : Int32)), .unset, .unset, .unset, .unset, .unset, .unset, .unset, .unset, .unset, .unset, .unset, .unset, .unset, .unset, .unset, .unset, .unset, .unset, .unset] [])) _
  refine XS.iconst X0.here hx rfl (hb hby at_18) ?_
  show Steps p.tables e below (T0.setTop (mkF m 19 #[.val (.int i0), .val (.int (1 : Int32)), .unset, .unset, .unset, .unset, .unset, .unset, .unset, .unset, .unset, .unset, .unset, .unset, .unset, .unset, .unset, .unset, .unset, .unset, .unset] [(.int (1 : Int32))])) _
  refine XS.goto X0.here hx rfl (pc0 := 19) (pc' := 23) rfl (hb hby at_19) (by decide) (by decide) ?_
  show Steps p.tables e below (T0.setTop (mkF m 23 #[.val (.int i0), .val (.int (1 : Int32)), .unset, .unset, .unset, .unset, .unset, .unset, .unset, .unset, .unset, .unset, .unset, .unset, .unset, .unset, .unset, .unset, .unset, .unset, .unset] [(.int (1 : Int32))])) _
  refine XS.istoreN X0.here hx rfl (hb hby at_23) rfl (l' := #[.val (.int i0), .val (.int (1 : Int32)), .val (.int (1 : Int32)), .unset, .unset, .unset, .unset, .unset, .unset, .unset, .unset, .unset, .unset, .unset, .unset, .unset, .unset, .unset, .unset, .unset, .unset]) rfl ?_
  show Steps p.tables e below (T0.setTop (mkF m 24 #[.val (.int i0), .val (.int (1 : Int32)), .val (.int (1 : Int32)), .unset, .unset, .unset, .unset, .unset, .unset, .unset, .unset, .unset, .unset, .unset, .unset, .unset, .unset, .unset, .unset, .unset, .unset] [])) _
  refine XS.iloadN X0.here hx rfl (hb hby at_24) rfl ?_
  show Steps p.tables e below (T0.setTop (mkF m 25 #[.val (.int i0), .val (.int (1 : Int32)), .val (.int (1 : Int32)), .unset, .unset, .unset, .unset, .unset, .unset, .unset, .unset, .unset, .unset, .unset, .unset, .unset, .unset, .unset, .unset, .unset, .unset] [(.int i0)])) _
  refine XS.iconst X0.here hx rfl (hb hby at_25) ?_
  show Steps p.tables e below (T0.setTop (mkF m 26 #[.val (.int i0), .val (.int (1 : Int32)), .val (.int (1 : Int32)), .unset, .unset, .unset, .unset, .unset, .unset, .unset, .unset, .unset, .unset, .unset, .unset, .unset, .unset, .unset, .unset, .unset, .unset] [(.int (4 : Int32)), (.int i0)])) _
  refine XS.iand X0.here hx rfl (hb hby at_26) rfl ?_
  show Steps p.tables e below (T0.setTop (mkF m 27 #[.val (.int i0), .val (.int (1 : Int32)), .val (.int (1 : Int32)), .unset, .unset, .unset, .unset, .unset, .unset, .unset, .unset, .unset, .unset, .unset, .unset, .unset, .unset, .unset, .unset, .unset, .unset] [(.int (i0 &&& (4 : Int32)))])) _
  refine XS.ifYes X0.here hx rfl (pc0 := 27) (pc' := 34) rfl (hb hby at_27) rfl ((if0 _ _).trans (teq h4).1) (by decide) (by decide) ?_
  show Steps p.tables e below (T0.setTop (mkF m 34 #[.val (.int i0), .val (.int (1 : Int32)), .val (.int (1 : Int32)), .unset, .unset, .unset, .unset, .unset, .unset, .unset, .unset, .unset, .unset, .unset, .unset, .unset, .unset, .unset, .unset, .unset, .unset] [])) _
  refine XS.iconst X0.here hx rfl (hb hby at_34) ?_
  show Steps p.tables e below (T0.setTop (mkF m 35 #[.val (.int i0), .val (.int (1 : Int32)), .val (.int (1 : Int32)), .unset, .unset, .unset, .unset, .unset, .unset, .unset, .unset, .unset, .unset, .unset, .unset, .unset, .unset, .unset, .unset, .unset, .unset] [(.int (0 : Int32))])) _
  refine XS.istoreN X0.here hx rfl (hb hby at_35) rfl (l' := #[.val (.int i0), .val (.int (1 : Int32)), .val (.int (1 : Int32)), .val (.int (0 : Int32)), .unset, .unset, .unset, .unset, .unset, .unset, .unset, .unset, .unset, .unset, .unset, .unset, .unset, .unset, .unset, .unset, .unset]) rfl ?_
  show Steps p.tables e below (T0.setTop (mkF m 36 #[.val (.int i0), .val (.int (1 : Int32)), .val (.int (1 : Int32)), .val (.int (0 : Int32)), .unset, .unset, .unset, .unset, .unset, .unset, .unset, .unset, .unset, .unset, .unset, .unset, .unset, .unset, .unset, .unset, .unset] [])) _
  refine XS.iloadN X0.here hx rfl (hb hby at_36) rfl ?_
  show Steps p.tables e below (T0.setTop (mkF m 37 #[.val (.int i0), .val (.int (1 : Int32)), .val (.int (1 : Int32)), .val (.int (0 : Int32)), .unset, .unset, .unset, .unset, .unset, .unset, .unset, .unset, .unset, .unset, .unset, .unset, .unset, .unset, .unset, .unset, .unset] [(.int (1 : Int32))])) _
  refine XS.ifNo X0.here hx rfl (hb hby at_37) rfl ((if0 _ _).trans (feq (by decide)).1) ?_
  show Steps p.tables e below (T0.setTop (mkF m 40 #[.val (.int i0), .val (.int (1 : Int32)), .val (.int (1 : Int32)), .val (.int (0 : Int32)), .unset, .unset, .unset, .unset, .unset, .unset, .unset, .unset, .unset, .unset, .unset, .unset, .unset, .unset, .unset, .unset, .unset] [])) _
  refine XS.iconst X0.here hx rfl (hb hby at_40) ?_
  show Steps p.tables e below (T0.setTop (mkF m 41 #[.val (.int i0), .val (.int (1 : Int32)), .val (.int (1 : Int32)), .val (.int (0 : Int32)), .unset, .unset, .unset, .unset, .unset, .unset, .unset, .unset, .unset, .unset, .unset, .unset, .unset, .unset, .unset, .unset, .unset] [(.int (0 : Int32))])) _
  refine XS.goto X0.here hx rfl (pc0 := 41) (pc' := 45) rfl (hb hby at_41) (by decide) (by decide) ?_
  show Steps p.tables e below (T0.setTop (mkF m 45 #[.val (.int i0), .val (.int (1 : Int32)), .val (.int (1 : Int32)), .val (.int (0 : Int32)), .unset, .unset, .unset, .unset, .unset, .unset, .unset, .unset, .unset, .unset, .unset, .unset, .unset, .unset, .unset, .unset, .unset] [(.int (0 : Int32))])) _
  refine XS.istore X0.here hx rfl (hb hby at_45) rfl (l' := #[.val (.int i0), .val (.int (1 : Int32)), .val (.int (1 : Int32)), .val (.int (0 : Int32)), .val (.int (0 : Int32)), .unset, .unset, .unset, .unset, .unset, .unset, .unset, .unset, .unset, .unset, .unset, .unset, .unset, .unset, .unset, .unset]) rfl ?_
  show Steps p.tables e below (T0.setTop (mkF m 47 #[.val (.int i0), .val (.int (1 : Int32)), .val (.int (1 : Int32)), .val (.int (0 : Int32)), .val (.int (0 : Int32)), .unset, .unset, .unset, .unset, .unset, .unset, .unset, .unset, .unset, .unset, .unset, .unset, .unset, .unset, .unset, .unset] [])) _
  refine XS.iloadN X0.here hx rfl (hb hby at_47) rfl ?_
  show Steps p.tables e below (T0.setTop (mkF m 48 #[.val (.int i0), .val (.int (1 : Int32)), .val (.int (1 : Int32)), .val (.int (0 : Int32)), .val (.int (0 : Int32)), .unset, .unset, .unset, .unset, .unset, .unset, .unset, .unset, .unset, .unset, .unset, .unset, .unset, .unset, .unset, .unset] [(.int (1 : Int32))])) _
  refine XS.ifNo X0.here hx rfl (hb hby at_48) rfl ((if0 _ _).trans (feq (by decide)).1) ?_
  show Steps p.tables e below (T0.setTop (mkF m 51 #[.val (.int i0), .val (.int (1 : Int32)), .val (.int (1 : Int32)), .val (.int (0 : Int32)), .val (.int (0 : Int32)), .unset, .unset, .unset, .unset, .unset, .unset, .unset, .unset, .unset, .unset, .unset, .unset, .unset, .unset, .unset, .unset] [])) _
  refine XS.iconst X0.here hx rfl (hb hby at_51) ?_
  show Steps p.tables e below (T0.setTop (mkF m 52 #[.val (.int i0), .val (.int (1 : Int32)), .val (.int (1 : Int32)), .val (.int (0 : Int32)), .val (.int (0 : Int32)), .unset, .unset, .unset, .unset, .unset, .unset, .unset, .unset, .unset, .unset, .unset, .unset, .unset, .unset, .unset, .unset] [(.int (0 : Int32))])) _
  refine XS.goto X0.here hx rfl (pc0 := 52) (pc' := 59) rfl (hb hby at_52) (by decide) (by decide) ?_
  show Steps p.tables e below (T0.setTop (mkF m 59 #[.val (.int i0), .val (.int (1 : Int32)), .val (.int (1 : Int32)), .val (.int (0 : Int32)), .val (.int (0 : Int32)), .unset, .unset, .unset, .unset, .unset, .unset, .unset, .unset, .unset, .unset, .unset, .unset, .unset, .unset, .unset, .unset] [(.int (0 : Int32))])) _
  refine XS.istore X0.here hx rfl (hb hby at_59) rfl (l' := #[.val (.int i0), .val (.int (1 : Int32)), .val (.int (1 : Int32)), .val (.int (0 : Int32)), .val (.int (0 : Int32)), .val (.int (0 : Int32)), .unset, .unset, .unset, .unset, .unset, .unset, .unset, .unset, .unset, .unset, .unset, .unset, .unset, .unset, .unset]) rfl ?_
  show Steps p.tables e below (T0.setTop (mkF m 61 #[.val (.int i0), .val (.int (1 : Int32)), .val (.int (1 : Int32)), .val (.int (0 : Int32)), .val (.int (0 : Int32)), .val (.int (0 : Int32)), .unset, .unset, .unset, .unset, .unset, .unset, .unset, .unset, .unset, .unset, .unset, .unset, .unset, .unset, .unset] [])) _
  refine XS.iloadN X0.here hx rfl (hb hby at_61) rfl ?_
  show Steps p.tables e below (T0.setTop (mkF m 62 #[.val (.int i0), .val (.int (1 : Int32)), .val (.int (1 : Int32)), .val (.int (0 : Int32)), .val (.int (0 : Int32)), .val (.int (0 : Int32)), .unset, .unset, .unset, .unset, .unset, .unset, .unset, .unset, .unset, .unset, .unset, .unset, .unset, .unset, .unset] [(.int (0 : Int32))])) _
  refine XS.ifYes X0.here hx rfl (pc0 := 62) (pc' := 69) rfl (hb hby at_62) rfl ((if0 _ _).trans (teq (by decide)).1) (by decide) (by decide) ?_
  show Steps p.tables e below (T0.setTop (mkF m 69 #[.val (.int i0), .val (.int (1 : Int32)), .val (.int (1 : Int32)), .val (.int (0 : Int32)), .val (.int (0 : Int32)), .val (.int (0 : Int32)), .unset, .unset, .unset, .unset, .unset, .unset, .unset, .unset, .unset, .unset, .unset, .unset, .unset, .unset, .unset] [])) _
  refine XS.iload X0.here hx rfl (hb hby at_69) rfl ?_
  show Steps p.tables e below (T0.setTop (mkF m 71 #[.val (.int i0), .val (.int (1 : Int32)), .val (.int (1 : Int32)), .val (.int (0 : Int32)), .val (.int (0 : Int32)), .val (.int (0 : Int32)), .unset, .unset, .unset, .unset, .unset, .unset, .unset, .unset, .unset, .unset, .unset, .unset, .unset, .unset, .unset] [(.int (0 : Int32))])) _
  refine XS.iconst X0.here hx rfl (hb hby at_71) ?_
  show Steps p.tables e below (T0.setTop (mkF m 72 #[.val (.int i0), .val (.int (1 : Int32)), .val (.int (1 : Int32)), .val (.int (0 : Int32)), .val (.int (0 : Int32)), .val (.int (0 : Int32)), .unset, .unset, .unset, .unset, .unset, .unset, .unset, .unset, .unset, .unset, .unset, .unset, .unset, .unset, .unset] [(.int (1 : Int32)), (.int (0 : Int32))])) _
  refine XS.iadd X0.here hx rfl (hb hby at_72) rfl ?_
  show Steps p.tables e below (T0.setTop (mkF m 73 #[.val (.int i0), .val (.int (1 : Int32)), .val (.int (1 : Int32)), .val (.int (0 : Int32)), .val (.int (0 : Int32)), .val (.int (0 : Int32)), .unset, .unset, .unset, .unset, .unset, .unset, .unset, .unset, .unset, .unset, .unset, .unset, .unset, .unset, .unset] [(.int ((0 : Int32) + (1 : Int32)))])) _
  refine XS.istore X0.here hx rfl (hb hby at_73) rfl (l' := #[.val (.int i0), .val (.int (1 : Int32)), .val (.int (1 : Int32)), .val (.int (0 : Int32)), .val (.int (0 : Int32)), .val (.int (0 : Int32)), .val (.int ((0 : Int32) + (1 : Int32))), .unset, .unset, .unset, .unset, .unset, .unset, .unset, .unset, .unset, .unset, .unset, .unset, .unset, .unset]) rfl ?_
  show Steps p.tables e below (T0.setTop (mkF m 75 #[.val (.int i0), .val (.int (1 : Int32)), .val (.int (1 : Int32)), .val (.int (0 : Int32)), .val (.int (0 : Int32)), .val (.int (0 : Int32)), .val (.int ((0 : Int32) + (1 : Int32))), .unset, .unset, .unset, .unset, .unset, .unset, .unset, .unset, .unset, .unset, .unset, .unset, .unset, .unset] [])) _
  refine XS.iload X0.here hx rfl (hb hby at_75) rfl ?_
  show Steps p.tables e below (T0.setTop (mkF m 77 #[.val (.int i0), .val (.int (1 : Int32)), .val (.int (1 : Int32)), .val (.int (0 : Int32)), .val (.int (0 : Int32)), .val (.int (0 : Int32)), .val (.int ((0 : Int32) + (1 : Int32))), .unset, .unset, .unset, .unset, .unset, .unset, .unset, .unset, .unset, .unset, .unset, .unset, .unset, .unset] [(.int (0 : Int32))])) _
  refine XS.iconst X0.here hx rfl (hb hby at_77) ?_
  show Steps p.tables e below (T0.setTop (mkF m 78 #[.val (.int i0), .val (.int (1 : Int32)), .val (.int (1 : Int32)), .val (.int (0 : Int32)), .val (.int (0 : Int32)), .val (.int (0 : Int32)), .val (.int ((0 : Int32) + (1 : Int32))), .unset, .unset, .unset, .unset, .unset, .unset, .unset, .unset, .unset, .unset, .unset, .unset, .unset, .unset] [(.int (2 : Int32)), (.int (0 : Int32))])) _
  refine XS.icmpYes X0.here hx rfl (pc0 := 78) (pc' := 85) rfl (hb hby at_78) rfl (tlt (by decide)).1 (by decide) (by decide) ?_
  show Steps p.tables e below (T0.setTop (mkF m 85 #[.val (.int i0), .val (.int (1 : Int32)), .val (.int (1 : Int32)), .val (.int (0 : Int32)), .val (.int (0 : Int32)), .val (.int (0 : Int32)), .val (.int ((0 : Int32) + (1 : Int32))), .unset, .unset, .unset, .unset, .unset, .unset, .unset, .unset, .unset, .unset, .unset, .unset, .unset, .unset] [])) _
  refine XS.iconst X0.here hx rfl (hb hby at_85) ?_
  show Steps p.tables e below (T0.setTop (mkF m 86 #[.val (.int i0), .val (.int (1 : Int32)), .val (.int (1 : Int32)), .val (.int (0 : Int32)), .val (.int (0 : Int32)), .val (.int (0 : Int32)), .val (.int ((0 : Int32) + (1 : Int32))), .unset, .unset, .unset, .unset, .unset, .unset, .unset, .unset, .unset, .unset, .unset, .unset, .unset, .unset] [(.int (0 : Int32))])) _
  refine XS.istore X0.here hx rfl (hb hby at_86) rfl (l' := #[.val (.int i0), .val (.int (1 : Int32)), .val (.int (1 : Int32)), .val (.int (0 : Int32)), .val (.int (0 : Int32)), .val (.int (0 : Int32)), .val (.int ((0 : Int32) + (1 : Int32))), .val (.int (0 : Int32)), .unset, .unset, .unset, .unset, .unset, .unset, .unset, .unset, .unset, .unset, .unset, .unset, .unset]) rfl ?_
  show Steps p.tables e below (T0.setTop (mkF m 88 #[.val (.int i0), .val (.int (1 : Int32)), .val (.int (1 : Int32)), .val (.int (0 : Int32)), .val (.int (0 : Int32)), .val (.int (0 : Int32)), .val (.int ((0 : Int32) + (1 : Int32))), .val (.int (0 : Int32)), .unset, .unset, .unset, .unset, .unset, .unset, .unset, .unset, .unset, .unset, .unset, .unset, .unset] [])) _
  refine XS.iload X0.here hx rfl (hb hby at_88) rfl ?_
  show Steps p.tables e below (T0.setTop (mkF m 90 #[.val (.int i0), .val (.int (1 : Int32)), .val (.int (1 : Int32)), .val (.int (0 : Int32)), .val (.int (0 : Int32)), .val (.int (0 : Int32)), .val (.int ((0 : Int32) + (1 : Int32))), .val (.int (0 : Int32)), .unset, .unset, .unset, .unset, .unset, .unset, .unset, .unset, .unset, .unset, .unset, .unset, .unset] [(.int ((0 : Int32) + (1 : Int32)))])) _
  refine XS.iconst X0.here hx rfl (hb hby at_90) ?_
  show Steps p.tables e below (T0.setTop (mkF m 91 #[.val (.int i0), .val (.int (1 : Int32)), .val (.int (1 : Int32)), .val (.int (0 : Int32)), .val (.int (0 : Int32)), .val (.int (0 : Int32)), .val (.int ((0 : Int32) + (1 : Int32))), .val (.int (0 : Int32)), .unset, .unset, .unset, .unset, .unset, .unset, .unset, .unset, .unset, .unset, .unset, .unset, .unset] [(.int (2 : Int32)), (.int ((0 : Int32) + (1 : Int32)))])) _
  refine XS.icmpYes X0.here hx rfl (pc0 := 91) (pc' := 98) rfl (hb hby at_91) rfl (tlt (by decide)).1 (by decide) (by decide) ?_
  show Steps p.tables e below (T0.setTop (mkF m 98 #[.val (.int i0), .val (.int (1 : Int32)), .val (.int (1 : Int32)), .val (.int (0 : Int32)), .val (.int (0 : Int32)), .val (.int (0 : Int32)), .val (.int ((0 : Int32) + (1 : Int32))), .val (.int (0 : Int32)), .unset, .unset, .unset, .unset, .unset, .unset, .unset, .unset, .unset, .unset, .unset, .unset, .unset] [])) _
  refine XS.iconst X0.here hx rfl (hb hby at_98) ?_
  show Steps p.tables e below (T0.setTop (mkF m 99 #[.val (.int i0), .val (.int (1 : Int32)), .val (.int (1 : Int32)), .val (.int (0 : Int32)), .val (.int (0 : Int32)), .val (.int (0 : Int32)), .val (.int ((0 : Int32) + (1 : Int32))), .val (.int (0 : Int32)), .unset, .unset, .unset, .unset, .unset, .unset, .unset, .unset, .unset, .unset, .unset, .unset, .unset] [(.int (0 : Int32))])) _
  refine XS.istore X0.here hx rfl (hb hby at_99) rfl (l' := #[.val (.int i0), .val (.int (1 : Int32)), .val (.int (1 : Int32)), .val (.int (0 : Int32)), .val (.int (0 : Int32)), .val (.int (0 : Int32)), .val (.int ((0 : Int32) + (1 : Int32))), .val (.int (0 : Int32)), .val (.int (0 : Int32)), .unset, .unset, .unset, .unset, .unset, .unset, .unset, .unset, .unset, .unset, .unset, .unset]) rfl ?_
  show Steps p.tables e below (T0.setTop (mkF m 101 #[.val (.int i0), .val (.int (1 : Int32)), .val (.int (1 : Int32)), .val (.int (0 : Int32)), .val (.int (0 : Int32)), .val (.int (0 : Int32)), .val (.int ((0 : Int32) + (1 : Int32))), .val (.int (0 : Int32)), .val (.int (0 : Int32)), .unset, .unset, .unset, .unset, .unset, .unset, .unset, .unset, .unset, .unset, .unset, .unset] [])) _
  refine XS.iload X0.here hx rfl (hb hby at_101) rfl ?_
  show Steps p.tables e below (T0.setTop (mkF m 103 #[.val (.int i0), .val (.int (1 : Int32)), .val (.int (1 : Int32)), .val (.int (0 : Int32)), .val (.int (0 : Int32)), .val (.int (0 : Int32)), .val (.int ((0 : Int32) + (1 : Int32))), .val (.int (0 : Int32)), .val (.int (0 : Int32)), .unset, .unset, .unset, .unset, .unset, .unset, .unset, .unset, .unset, .unset, .unset, .unset] [(.int (0 : Int32))])) _
  refine XS.ifYes X0.here hx rfl (pc0 := 103) (pc' := 110) rfl (hb hby at_103) rfl ((if0 _ _).trans (teq (by decide)).1) (by decide) (by decide) ?_
  show Steps p.tables e below (T0.setTop (mkF m 110 #[.val (.int i0), .val (.int (1 : Int32)), .val (.int (1 : Int32)), .val (.int (0 : Int32)), .val (.int (0 : Int32)), .val (.int (0 : Int32)), .val (.int ((0 : Int32) + (1 : Int32))), .val (.int (0 : Int32)), .val (.int (0 : Int32)), .unset, .unset, .unset, .unset, .unset, .unset, .unset, .unset, .unset, .unset, .unset, .unset] [])) _
  refine XS.iconst X0.here hx rfl (hb hby at_110) ?_
  show Steps p.tables e below (T0.setTop (mkF m 111 #[.val (.int i0), .val (.int (1 : Int32)), .val (.int (1 : Int32)), .val (.int (0 : Int32)), .val (.int (0 : Int32)), .val (.int (0 : Int32)), .val (.int ((0 : Int32) + (1 : Int32))), .val (.int (0 : Int32)), .val (.int (0 : Int32)), .unset, .unset, .unset, .unset, .unset, .unset, .unset, .unset, .unset, .unset, .unset, .unset] [(.int (0 : Int32))])) _
  refine XS.istore X0.here hx rfl (hb hby at_111) rfl (l' := #[.val (.int i0), .val (.int (1 : Int32)), .val (.int (1 : Int32)), .val (.int (0 : Int32)), .val (.int (0 : Int32)), .val (.int (0 : Int32)), .val (.int ((0 : Int32) + (1 : Int32))), .val (.int (0 : Int32)), .val (.int (0 : Int32)), .val (.int (0 : Int32)), .unset, .unset, .unset, .unset, .unset, .unset, .unset, .unset, .unset, .unset, .unset]) rfl ?_
  exact kt
set_option maxRecDepth 65536 in
set_option maxHeartbeats 40000000 in
theorem tnA4 {p : Program} {l : Launch} {e : Env} {R : Room} {s : State} {m : MethodId} {args : Array Value} {below : List Frame} {meth : Method} {c : Code} {T0 : State} {locs : List Loc} {cells slots : Nat} (i0 : Int32) (X0 : Stand p l e R s m args below meth c T0 locs cells slots) (hx : p.tables.exec = Jvm.exec) (hby : c.code = code) (h1 : (i0 &&& (1 : Int32)) = (0 : Int32)) (h2 : (i0 &&& (2 : Int32)) = (0 : Int32)) (h4 : ¬ (i0 &&& (4 : Int32)) = (0 : Int32)) (target : State)
    (kt : Steps p.tables e below (T0.setTop (mkF m 113 #[.val (.int i0), .val (.int (0 : Int32)), .val (.int (0 : Int32)), .val (.int (1 : Int32)), .val (.int (1 : Int32)), .val (.int ((1 : Int32) + (1 : Int32))), .val (.int (0 : Int32)), .val (.int (1 : Int32)), .val (.int (0 : Int32)), .val (.int (1 : Int32)), .unset, .unset, .unset, .unset, .unset, .unset, .unset, .unset, .unset, .unset, .unset] [])) target) : Steps p.tables e below (T0.setTop (mkF m 0 #[.val (.int i0), .unset, .unset, .unset, .unset, .unset, .unset, .unset, .unset, .unset, .unset, .unset, .unset, .unset, .unset, .unset, .unset, .unset, .unset, .unset, .unset] [])) target := by
  show Steps p.tables e below (T0.setTop (mkF m 0 #[.val (.int i0), .unset, .unset, .unset, .unset, .unset, .unset, .unset, .unset, .unset, .unset, .unset, .unset, .unset, .unset, .unset, .unset, .unset, .unset, .unset, .unset] [])) _
  refine XS.iloadN X0.here hx rfl (hb hby at_0) rfl ?_
  show Steps p.tables e below (T0.setTop (mkF m 1 #[.val (.int i0), .unset, .unset, .unset, .unset, .unset, .unset, .unset, .unset, .unset, .unset, .unset, .unset, .unset, .unset, .unset, .unset, .unset, .unset, .unset, .unset] [(.int i0)])) _
  refine XS.iconst X0.here hx rfl (hb hby at_1) ?_
  show Steps p.tables e below (T0.setTop (mkF m 2 #[.val (.int i0), .unset, .unset, .unset, .unset, .unset, .unset, .unset, .unset, .unset, .unset, .unset, .unset, .unset, .unset, .unset, .unset, .unset, .unset, .unset, .unset] [(.int (1 : Int32)), (.int i0)])) _
  refine XS.iand X0.here hx rfl (hb hby at_2) rfl ?_
  show Steps p.tables e below (T0.setTop (mkF m 3 #[.val (.int i0), .unset, .unset, .unset, .unset, .unset, .unset, .unset, .unset, .unset, .unset, .unset, .unset, .unset, .unset, .unset, .unset, .unset, .unset, .unset, .unset] [(.int (i0 &&& (1 : Int32)))])) _
  refine XS.ifYes X0.here hx rfl (pc0 := 3) (pc' := 10) rfl (hb hby at_3) rfl ((if0 _ _).trans (teq h1).1) (by decide) (by decide) ?_
  show Steps p.tables e below (T0.setTop (mkF m 10 #[.val (.int i0), .unset, .unset, .unset, .unset, .unset, .unset, .unset, .unset, .unset, .unset, .unset, .unset, .unset, .unset, .unset, .unset, .unset, .unset, .unset, .unset] [])) _
  refine XS.iconst X0.here hx rfl (hb hby at_10) ?_
  show Steps p.tables e below (T0.setTop (mkF m 11 #[.val (.int i0), .unset, .unset, .unset, .unset, .unset, .unset, .unset, .unset, .unset, .unset, .unset, .unset, .unset, .unset, .unset, .unset, .unset, .unset, .unset, .unset] [(.int (0 : Int32))])) _
  refine XS.istoreN X0.here hx rfl (hb hby at_11) rfl (l' := #[.val (.int i0), .val (.int (0 : Int32)), .unset, .unset, .unset, .unset, .unset, .unset, .unset, .unset, .unset, .unset, .unset, .unset, .unset, .unset, .unset, .unset, .unset, .unset, .unset]) rfl ?_
  show Steps p.tables e below (T0.setTop (mkF m 12 #[.val (.int i0), .val (.int (0 : Int32)), .unset, .unset, .unset, .unset, .unset, .unset, .unset, .unset, .unset, .unset, .unset, .unset, .unset, .unset, .unset, .unset, .unset, .unset, .unset] [])) _
  refine XS.iloadN X0.here hx rfl (hb hby at_12) rfl ?_
  show Steps p.tables e below (T0.setTop (mkF m 13 #[.val (.int i0), .val (.int (0 : Int32)), .unset, .unset, .unset, .unset, .unset, .unset, .unset, .unset, .unset, .unset, .unset, .unset, .unset, .unset, .unset, .unset, .unset, .unset, .unset] [(.int i0)])) _
  refine XS.iconst X0.here hx rfl (hb hby at_13) ?_
  show Steps p.tables e below (T0.setTop (mkF m 14 #[.val (.int i0), .val (.int (0 : Int32)), .unset, .unset, .unset, .unset, .unset, .unset, .unset, .unset, .unset, .unset, .unset, .unset, .unset, .unset, .unset, .unset, .unset, .unset, .unset] [(.int (2 : Int32)), (.int i0)])) _
  refine XS.iand X0.here hx rfl (hb hby at_14) rfl ?_
  show Steps p.tables e below (T0.setTop (mkF m 15 #[.val (.int i0), .val (.int (0 : Int32)), .unset, .unset, .unset, .unset, .unset, .unset, .unset, .unset, .unset, .unset, .unset, .unset, .unset, .unset, .unset, .unset, .unset, .unset, .unset] [(.int (i0 &&& (2 : Int32)))])) _
  refine XS.ifYes X0.here hx rfl (pc0 := 15) (pc' := 22) rfl (hb hby at_15) rfl ((if0 _ _).trans (teq h2).1) (by decide) (by decide) ?_
  show Steps p.tables e below (T0.setTop (mkF m 22 #[.val (.int i0), .val (.int (0 : Int32)), .unset, .unset, .unset, .unset, .unset, .unset, .unset, .unset, .unset, .unset, .unset, .unset, .unset, .unset, .unset, .unset, .unset, .unset, .unset] [])) _
  refine XS.iconst X0.here hx rfl (hb hby at_22) ?_
  show Steps p.tables e below (T0.setTop (mkF m 23 #[.val (.int i0), .val (.int (0 : Int32)), .unset, .unset, .unset, .unset, .unset, .unset, .unset, .unset, .unset, .unset, .unset, .unset, .unset, .unset, .unset, .unset, .unset, .unset, .unset] [(.int (0 : Int32))])) _
  refine XS.istoreN X0.here hx rfl (hb hby at_23) rfl (l' := #[.val (.int i0), .val (.int (0 : Int32)), .val (.int (0 : Int32)), .unset, .unset, .unset, .unset, .unset, .unset, .unset, .unset, .unset, .unset, .unset, .unset, .unset, .unset, .unset, .unset, .unset, .unset]) rfl ?_
  show Steps p.tables e below (T0.setTop (mkF m 24 #[.val (.int i0), .val (.int (0 : Int32)), .val (.int (0 : Int32)), .unset, .unset, .unset, .unset, .unset, .unset, .unset, .unset, .unset, .unset, .unset, .unset, .unset, .unset, .unset, .unset, .unset, .unset] [])) _
  refine XS.iloadN X0.here hx rfl (hb hby at_24) rfl ?_
  show Steps p.tables e below (T0.setTop (mkF m 25 #[.val (.int i0), .val (.int (0 : Int32)), .val (.int (0 : Int32)), .unset, .unset, .unset, .unset, .unset, .unset, .unset, .unset, .unset, .unset, .unset, .unset, .unset, .unset, .unset, .unset, .unset, .unset] [(.int i0)])) _
  refine XS.iconst X0.here hx rfl (hb hby at_25) ?_
  show Steps p.tables e below (T0.setTop (mkF m 26 #[.val (.int i0), .val (.int (0 : Int32)), .val (.int (0 : Int32)), .unset, .unset, .unset, .unset, .unset, .unset, .unset, .unset, .unset, .unset, .unset, .unset, .unset, .unset, .unset, .unset, .unset, .unset] [(.int (4 : Int32)), (.int i0)])) _
  refine XS.iand X0.here hx rfl (hb hby at_26) rfl ?_
  show Steps p.tables e below (T0.setTop (mkF m 27 #[.val (.int i0), .val (.int (0 : Int32)), .val (.int (0 : Int32)), .unset, .unset, .unset, .unset, .unset, .unset, .unset, .unset, .unset, .unset, .unset, .unset, .unset, .unset, .unset, .unset, .unset, .unset] [(.int (i0 &&& (4 : Int32)))])) _
  refine XS.ifNo X0.here hx rfl (hb hby at_27) rfl ((if0 _ _).trans (feq h4).1) ?_
  show Steps p.tables e below (T0.setTop (mkF m 30 #[.val (.int i0), .val (.int (0 : Int32)), .val (.int (0 : Int32)), .unset, .unset, .unset, .unset, .unset, .unset, .unset, .unset, .unset, .unset, .unset, .unset, .unset, .unset, .unset, .unset, .unset, .unset] [])) _
  refine XS.iconst X0.here hx rfl (hb hby at_30) ?_
  show Steps p.tables e below (T0.setTop (mkF m 31 #[.val (.int i0), .val (.int (0 : Int32)), .val (.int (0 : Int32)), .unset, .unset, .unset, .unset, .unset, .unset, .unset, .unset, .unset, .unset, .unset, .unset, .unset, .unset, .unset, .unset, .unset, .unset] [(.int (1 : Int32))])) _
  refine XS.goto X0.here hx rfl (pc0 := 31) (pc' := 35) rfl (hb hby at_31) (by decide) (by decide) ?_
  show Steps p.tables e below (T0.setTop (mkF m 35 #[.val (.int i0), .val (.int (0 : Int32)), .val (.int (0 : Int32)), .unset, .unset, .unset, .unset, .unset, .unset, .unset, .unset, .unset, .unset, .unset, .unset, .unset, .unset, .unset, .unset, .unset, .unset] [(.int (1 : Int32))])) _
  refine XS.istoreN X0.here hx rfl (hb hby at_35) rfl (l' := #[.val (.int i0), .val (.int (0 : Int32)), .val (.int (0 : Int32)), .val (.int (1 : Int32)), .unset, .unset, .unset, .unset, .unset, .unset, .unset, .unset, .unset, .unset, .unset, .unset, .unset, .unset, .unset, .unset, .unset]) rfl ?_
  show Steps p.tables e below (T0.setTop (mkF m 36 #[.val (.int i0), .val (.int (0 : Int32)), .val (.int (0 : Int32)), .val (.int (1 : Int32)), .unset, .unset, .unset, .unset, .unset, .unset, .unset, .unset, .unset, .unset, .unset, .unset, .unset, .unset, .unset, .unset, .unset] [])) _
  refine XS.iloadN X0.here hx rfl (hb hby at_36) rfl ?_
  show Steps p.tables e below (T0.setTop (mkF m 37 #[.val (.int i0), .val (.int (0 : Int32)), .val (.int (0 : Int32)), .val (.int (1 : Int32)), .unset, .unset, .unset, .unset, .unset, .unset, .unset, .unset, .unset, .unset, .unset, .unset, .unset, .unset, .unset, .unset, .unset] [(.int (0 : Int32))])) _
  refine XS.ifYes X0.here hx rfl (pc0 := 37) (pc' := 44) rfl (hb hby at_37) rfl ((if0 _ _).trans (teq (by decide)).1) (by decide) (by decide) ?_
  show Steps p.tables e below (T0.setTop (mkF m 44 #[.val (.int i0), .val (.int (0 : Int32)), .val (.int (0 : Int32)), .val (.int (1 : Int32)), .unset, .unset, .unset, .unset, .unset, .unset, .unset, .unset, .unset, .unset, .unset, .unset, .unset, .unset, .unset, .unset, .unset] [])) _
  refine XS.iconst X0.here hx rfl (hb hby at_44) ?_
  show Steps p.tables e below (T0.setTop (mkF m 45 #[.val (.int i0), .val (.int (0 : Int32)), .val (.int (0 : Int32)), .val (.int (1 : Int32)), .unset, .unset, .unset, .unset, .unset, .unset, .unset, .unset, .unset, .unset, .unset, .unset, .unset, .unset, .unset, .unset, .unset] [(.int (1 : Int32))])) _
  refine XS.istore X0.here hx rfl (hb hby at_45) rfl (l' := #[.val (.int i0), .val (.int (0 : Int32)), .val (.int (0 : Int32)), .val (.int (1 : Int32)), .val (.int (1 : Int32)), .unset, .unset, .unset, .unset, .unset, .unset, .unset, .unset, .unset, .unset, .unset, .unset, .unset, .unset, .unset, .unset]) rfl ?_
  show Steps p.tables e below (T0.setTop (mkF m 47 #[.val (.int i0), .val (.int (0 : Int32)), .val (.int (0 : Int32)), .val (.int (1 : Int32)), .val (.int (1 : Int32)), .unset, .unset, .unset, .unset, .unset, .unset, .unset, .unset, .unset, .unset, .unset, .unset, .unset, .unset, .unset, .unset] [])) _
  refine XS.iloadN X0.here hx rfl (hb hby at_47) rfl ?_
  show Steps p.tables e below (T0.setTop (mkF m 48 #[.val (.int i0), .val (.int (0 : Int32)), .val (.int (0 : Int32)), .val (.int (1 : Int32)), .val (.int (1 : Int32)), .unset, .unset, .unset, .unset, .unset, .unset, .unset, .unset, .unset, .unset, .unset, .unset, .unset, .unset, .unset, .unset] [(.int (0 : Int32))])) _
  refine XS.ifYes X0.here hx rfl (pc0 := 48) (pc' := 55) rfl (hb hby at_48) rfl ((if0 _ _).trans (teq (by decide)).1) (by decide) (by decide) ?_
  show Steps p.tables e below (T0.setTop (mkF m 55 #[.val (.int i0), .val (.int (0 : Int32)), .val (.int (0 : Int32)), .val (.int (1 : Int32)), .val (.int (1 : Int32)), .unset, .unset, .unset, .unset, .unset, .unset, .unset, .unset, .unset, .unset, .unset, .unset, .unset, .unset, .unset, .unset] [])) _
  refine XS.iload X0.here hx rfl (hb hby at_55) rfl ?_
  show Steps p.tables e below (T0.setTop (mkF m 57 #[.val (.int i0), .val (.int (0 : Int32)), .val (.int (0 : Int32)), .val (.int (1 : Int32)), .val (.int (1 : Int32)), .unset, .unset, .unset, .unset, .unset, .unset, .unset, .unset, .unset, .unset, .unset, .unset, .unset, .unset, .unset, .unset] [(.int (1 : Int32))])) _
  refine XS.iconst X0.here hx rfl (hb hby at_57) ?_
  show Steps p.tables e below (T0.setTop (mkF m 58 #[.val (.int i0), .val (.int (0 : Int32)), .val (.int (0 : Int32)), .val (.int (1 : Int32)), .val (.int (1 : Int32)), .unset, .unset, .unset, .unset, .unset, .unset, .unset, .unset, .unset, .unset, .unset, .unset, .unset, .unset, .unset, .unset] [(.int (1 : Int32)), (.int (1 : Int32))])) _
  refine XS.iadd X0.here hx rfl (hb hby at_58) rfl ?_
  show Steps p.tables e below (T0.setTop (mkF m 59 #[.val (.int i0), .val (.int (0 : Int32)), .val (.int (0 : Int32)), .val (.int (1 : Int32)), .val (.int (1 : Int32)), .unset, .unset, .unset, .unset, .unset, .unset, .unset, .unset, .unset, .unset, .unset, .unset, .unset, .unset, .unset, .unset] [(.int ((1 : Int32) + (1 : Int32)))])) _
  refine XS.istore X0.here hx rfl (hb hby at_59) rfl (l' := #[.val (.int i0), .val (.int (0 : Int32)), .val (.int (0 : Int32)), .val (.int (1 : Int32)), .val (.int (1 : Int32)), .val (.int ((1 : Int32) + (1 : Int32))), .unset, .unset, .unset, .unset, .unset, .unset, .unset, .unset, .unset, .unset, .unset, .unset, .unset, .unset, .unset]) rfl ?_
  show Steps p.tables e below (T0.setTop (mkF m 61 #[.val (.int i0), .val (.int (0 : Int32)), .val (.int (0 : Int32)), .val (.int (1 : Int32)), .val (.int (1 : Int32)), .val (.int ((1 : Int32) + (1 : Int32))), .unset, .unset, .unset, .unset, .unset, .unset, .unset, .unset, .unset, .unset, .unset, .unset, .unset, .unset, .unset] [])) _
  refine XS.iloadN X0.here hx rfl (hb hby at_61) rfl ?_
  show Steps p.tables e below (T0.setTop (mkF m 62 #[.val (.int i0), .val (.int (0 : Int32)), .val (.int (0 : Int32)), .val (.int (1 : Int32)), .val (.int (1 : Int32)), .val (.int ((1 : Int32) + (1 : Int32))), .unset, .unset, .unset, .unset, .unset, .unset, .unset, .unset, .unset, .unset, .unset, .unset, .unset, .unset, .unset] [(.int (1 : Int32))])) _
  refine XS.ifNo X0.here hx rfl (hb hby at_62) rfl ((if0 _ _).trans (feq (by decide)).1) ?_
  show Steps p.tables e below (T0.setTop (mkF m 65 #[.val (.int i0), .val (.int (0 : Int32)), .val (.int (0 : Int32)), .val (.int (1 : Int32)), .val (.int (1 : Int32)), .val (.int ((1 : Int32) + (1 : Int32))), .unset, .unset, .unset, .unset, .unset, .unset, .unset, .unset, .unset, .unset, .unset, .unset, .unset, .unset, .unset] [])) _
  refine XS.iconst X0.here hx rfl (hb hby at_65) ?_
  show Steps p.tables e below (T0.setTop (mkF m 66 #[.val (.int i0), .val (.int (0 : Int32)), .val (.int (0 : Int32)), .val (.int (1 : Int32)), .val (.int (1 : Int32)), .val (.int ((1 : Int32) + (1 : Int32))), .unset, .unset, .unset, .unset, .unset, .unset, .unset, .unset, .unset, .unset, .unset, .unset, .unset, .unset, .unset] [(.int (0 : Int32))])) _
  refine XS.goto X0.here hx rfl (pc0 := 66) (pc' := 73) rfl (hb hby at_66) (by decide) (by decide) ?_
  show Steps p.tables e below (T0.setTop (mkF m 73 #[.val (.int i0), .val (.int (0 : Int32)), .val (.int (0 : Int32)), .val (.int (1 : Int32)), .val (.int (1 : Int32)), .val (.int ((1 : Int32) + (1 : Int32))), .unset, .unset, .unset, .unset, .unset, .unset, .unset, .unset, .unset, .unset, .unset, .unset, .unset, .unset, .unset] [(.int (0 : Int32))])) _
  refine XS.istore X0.here hx rfl (hb hby at_73) rfl (l' := #[.val (.int i0), .val (.int (0 : Int32)), .val (.int (0 : Int32)), .val (.int (1 : Int32)), .val (.int (1 : Int32)), .val (.int ((1 : Int32) + (1 : Int32))), .val (.int (0 : Int32)), .unset, .unset, .unset, .unset, .unset, .unset, .unset, .unset, .unset, .unset, .unset, .unset, .unset, .unset]) rfl ?_
  show Steps p.tables e below (T0.setTop (mkF m 75 #[.val (.int i0), .val (.int (0 : Int32)), .val (.int (0 : Int32)), .val (.int (1 : Int32)), .val (.int (1 : Int32)), .val (.int ((1 : Int32) + (1 : Int32))), .val (.int (0 : Int32)), .unset, .unset, .unset, .unset, .unset, .unset, .unset, .unset, .unset, .unset, .unset, .unset, .unset, .unset] [])) _
  refine XS.iload X0.here hx rfl (hb hby at_75) rfl ?_
  show Steps p.tables e below (T0.setTop (mkF m 77 #[.val (.int i0), .val (.int (0 : Int32)), .val (.int (0 : Int32)), .val (.int (1 : Int32)), .val (.int (1 : Int32)), .val (.int ((1 : Int32) + (1 : Int32))), .val (.int (0 : Int32)), .unset, .unset, .unset, .unset, .unset, .unset, .unset, .unset, .unset, .unset, .unset, .unset, .unset, .unset] [(.int ((1 : Int32) + (1 : Int32)))])) _
  refine XS.iconst X0.here hx rfl (hb hby at_77) ?_
  show Steps p.tables e below (T0.setTop (mkF m 78 #[.val (.int i0), .val (.int (0 : Int32)), .val (.int (0 : Int32)), .val (.int (1 : Int32)), .val (.int (1 : Int32)), .val (.int ((1 : Int32) + (1 : Int32))), .val (.int (0 : Int32)), .unset, .unset, .unset, .unset, .unset, .unset, .unset, .unset, .unset, .unset, .unset, .unset, .unset, .unset] [(.int (2 : Int32)), (.int ((1 : Int32) + (1 : Int32)))])) _
  refine XS.icmpNo X0.here hx rfl (hb hby at_78) rfl (flt (by decide)).1 ?_
  show Steps p.tables e below (T0.setTop (mkF m 81 #[.val (.int i0), .val (.int (0 : Int32)), .val (.int (0 : Int32)), .val (.int (1 : Int32)), .val (.int (1 : Int32)), .val (.int ((1 : Int32) + (1 : Int32))), .val (.int (0 : Int32)), .unset, .unset, .unset, .unset, .unset, .unset, .unset, .unset, .unset, .unset, .unset, .unset, .unset, .unset] [])) _
  refine XS.iconst X0.here hx rfl (hb hby at_81) ?_
  show Steps p.tables e below (T0.setTop (mkF m 82 #[.val (.int i0), .val (.int (0 : Int32)), .val (.int (0 : Int32)), .val (.int (1 : Int32)), .val (.int (1 : Int32)), .val (.int ((1 : Int32) + (1 : Int32))), .val (.int (0 : Int32)), .unset, .unset, .unset, .unset, .unset, .unset, .unset, .unset, .unset, .unset, .unset, .unset, .unset, .unset] [(.int (1 : Int32))])) _
  refine XS.goto X0.here hx rfl (pc0 := 82) (pc' := 86) rfl (hb hby at_82) (by decide) (by decide) ?_
  show Steps p.tables e below (T0.setTop (mkF m 86 #[.val (.int i0), .val (.int (0 : Int32)), .val (.int (0 : Int32)), .val (.int (1 : Int32)), .val (.int (1 : Int32)), .val (.int ((1 : Int32) + (1 : Int32))), .val (.int (0 : Int32)), .unset, .unset, .unset, .unset, .unset, .unset, .unset, .unset, .unset, .unset, .unset, .unset, .unset, .unset] [(.int (1 : Int32))])) _
  refine XS.istore X0.here hx rfl (hb hby at_86) rfl (l' := #[.val (.int i0), .val (.int (0 : Int32)), .val (.int (0 : Int32)), .val (.int (1 : Int32)), .val (.int (1 : Int32)), .val (.int ((1 : Int32) + (1 : Int32))), .val (.int (0 : Int32)), .val (.int (1 : Int32)), .unset, .unset, .unset, .unset, .unset, .unset, .unset, .unset, .unset, .unset, .unset, .unset, .unset]) rfl ?_
  show Steps p.tables e below (T0.setTop (mkF m 88 #[.val (.int i0), .val (.int (0 : Int32)), .val (.int (0 : Int32)), .val (.int (1 : Int32)), .val (.int (1 : Int32)), .val (.int ((1 : Int32) + (1 : Int32))), .val (.int (0 : Int32)), .val (.int (1 : Int32)), .unset, .unset, .unset, .unset, .unset, .unset, .unset, .unset, .unset, .unset, .unset, .unset, .unset] [])) _
  refine XS.iload X0.here hx rfl (hb hby at_88) rfl ?_
  show Steps p.tables e below (T0.setTop (mkF m 90 #[.val (.int i0), .val (.int (0 : Int32)), .val (.int (0 : Int32)), .val (.int (1 : Int32)), .val (.int (1 : Int32)), .val (.int ((1 : Int32) + (1 : Int32))), .val (.int (0 : Int32)), .val (.int (1 : Int32)), .unset, .unset, .unset, .unset, .unset, .unset, .unset, .unset, .unset, .unset, .unset, .unset, .unset] [(.int (0 : Int32))])) _
  refine XS.iconst X0.here hx rfl (hb hby at_90) ?_
  show Steps p.tables e below (T0.setTop (mkF m 91 #[.val (.int i0), .val (.int (0 : Int32)), .val (.int (0 : Int32)), .val (.int (1 : Int32)), .val (.int (1 : Int32)), .val (.int ((1 : Int32) + (1 : Int32))), .val (.int (0 : Int32)), .val (.int (1 : Int32)), .unset, .unset, .unset, .unset, .unset, .unset, .unset, .unset, .unset, .unset, .unset, .unset, .unset] [(.int (2 : Int32)), (.int (0 : Int32))])) _
  refine XS.icmpYes X0.here hx rfl (pc0 := 91) (pc' := 98) rfl (hb hby at_91) rfl (tlt (by decide)).1 (by decide) (by decide) ?_
  show Steps p.tables e below (T0.setTop (mkF m 98 #[.val (.int i0), .val (.int (0 : Int32)), .val (.int (0 : Int32)), .val (.int (1 : Int32)), .val (.int (1 : Int32)), .val (.int ((1 : Int32) + (1 : Int32))), .val (.int (0 : Int32)), .val (.int (1 : Int32)), .unset, .unset, .unset, .unset, .unset, .unset, .unset, .unset, .unset, .unset, .unset, .unset, .unset] [])) _
  refine XS.iconst X0.here hx rfl (hb hby at_98) ?_
  show Steps p.tables e below (T0.setTop (mkF m 99 #[.val (.int i0), .val (.int (0 : Int32)), .val (.int (0 : Int32)), .val (.int (1 : Int32)), .val (.int (1 : Int32)), .val (.int ((1 : Int32) + (1 : Int32))), .val (.int (0 : Int32)), .val (.int (1 : Int32)), .unset, .unset, .unset, .unset, .unset, .unset, .unset, .unset, .unset, .unset, .unset, .unset, .unset] [(.int (0 : Int32))])) _
  refine XS.istore X0.here hx rfl (hb hby at_99) rfl (l' := #[.val (.int i0), .val (.int (0 : Int32)), .val (.int (0 : Int32)), .val (.int (1 : Int32)), .val (.int (1 : Int32)), .val (.int ((1 : Int32) + (1 : Int32))), .val (.int (0 : Int32)), .val (.int (1 : Int32)), .val (.int (0 : Int32)), .unset, .unset, .unset, .unset, .unset, .unset, .unset, .unset, .unset, .unset, .unset, .unset]) rfl ?_
  show Steps p.tables e below (T0.setTop (mkF m 101 #[.val (.int i0), .val (.int (0 : Int32)), .val (.int (0 : Int32)), .val (.int (1 : Int32)), .val (.int (1 : Int32)), .val (.int ((1 : Int32) + (1 : Int32))), .val (.int (0 : Int32)), .val (.int (1 : Int32)), .val (.int (0 : Int32)), .unset, .unset, .unset, .unset, .unset, .unset, .unset, .unset, .unset, .unset, .unset, .unset] [])) _
  refine XS.iload X0.here hx rfl (hb hby at_101) rfl ?_
  show Steps p.tables e below (T0.setTop (mkF m 103 #[.val (.int i0), .val (.int (0 : Int32)), .val (.int (0 : Int32)), .val (.int (1 : Int32)), .val (.int (1 : Int32)), .val (.int ((1 : Int32) + (1 : Int32))), .val (.int (0 : Int32)), .val (.int (1 : Int32)), .val (.int (0 : Int32)), .unset, .unset, .unset, .unset, .unset, .unset, .unset, .unset, .unset, .unset, .unset, .unset] [(.int (1 : Int32))])) _
  refine XS.ifNo X0.here hx rfl (hb hby at_103) rfl ((if0 _ _).trans (feq (by decide)).1) ?_
  show Steps p.tables e below (T0.setTop (mkF m 106 #[.val (.int i0), .val (.int (0 : Int32)), .val (.int (0 : Int32)), .val (.int (1 : Int32)), .val (.int (1 : Int32)), .val (.int ((1 : Int32) + (1 : Int32))), .val (.int (0 : Int32)), .val (.int (1 : Int32)), .val (.int (0 : Int32)), .unset, .unset, .unset, .unset, .unset, .unset, .unset, .unset, .unset, .unset, .unset, .unset] [])) _
  refine XS.iconst X0.here hx rfl (hb hby at_106) ?_
  show Steps p.tables e below (T0.setTop (mkF m 107 #[.val (.int i0), .val (.int (0 : Int32)), .val (.int (0 : Int32)), .val (.int (1 : Int32)), .val (.int (1 : Int32)), .val (.int ((1 : Int32) + (1 : Int32))), .val (.int (0 : Int32)), .val (.int (1 : Int32)), .val (.int (0 : Int32)), .unset, .unset, .unset, .unset, .unset, .unset, .unset, .unset, .unset, .unset, .unset, .unset] [(.int (1 : Int32))])) _
  refine XS.goto X0.here hx rfl (pc0 := 107) (pc' := 111) rfl (hb hby at_107) (by decide) (by decide) ?_
  show Steps p.tables e below (T0.setTop (mkF m 111 #[.val (.int i0), .val (.int (0 : Int32)), .val (.int (0 : Int32)), .val (.int (1 : Int32)), .val (.int (1 : Int32)), .val (.int ((1 : Int32) + (1 : Int32))), .val (.int (0 : Int32)), .val (.int (1 : Int32)), .val (.int (0 : Int32)), .unset, .unset, .unset, .unset, .unset, .unset, .unset, .unset, .unset, .unset, .unset, .unset] [(.int (1 : Int32))])) _
  refine XS.istore X0.here hx rfl (hb hby at_111) rfl (l' := #[.val (.int i0), .val (.int (0 : Int32)), .val (.int (0 : Int32)), .val (.int (1 : Int32)), .val (.int (1 : Int32)), .val (.int ((1 : Int32) + (1 : Int32))), .val (.int (0 : Int32)), .val (.int (1 : Int32)), .val (.int (0 : Int32)), .val (.int (1 : Int32)), .unset, .unset, .unset, .unset, .unset, .unset, .unset, .unset, .unset, .unset, .unset]) rfl ?_
  exact kt
set_option maxRecDepth 65536 in
set_option maxHeartbeats 40000000 in
theorem tnA5 {p : Program} {l : Launch} {e : Env} {R : Room} {s : State} {m : MethodId} {args : Array Value} {below : List Frame} {meth : Method} {c : Code} {T0 : State} {locs : List Loc} {cells slots : Nat} (i0 : Int32) (X0 : Stand p l e R s m args below meth c T0 locs cells slots) (hx : p.tables.exec = Jvm.exec) (hby : c.code = code) (h1 : ¬ (i0 &&& (1 : Int32)) = (0 : Int32)) (h2 : (i0 &&& (2 : Int32)) = (0 : Int32)) (h4 : ¬ (i0 &&& (4 : Int32)) = (0 : Int32)) (target : State)
    (kt : Steps p.tables e below (T0.setTop (mkF m 113 #[.val (.int i0), .val (.int (1 : Int32)), .val (.int (0 : Int32)), .val (.int (1 : Int32)), .val (.int (0 : Int32)), .val (.int ((0 : Int32) + (1 : Int32))), .val (.int (0 : Int32)), .val (.int (0 : Int32)), .val (.int (0 : Int32)), .val (.int (0 : Int32)), .unset, .unset, .unset, .unset, .unset, .unset, .unset, .unset, .unset, .unset, .unset] [])) target) : Steps p.tables e below (T0.setTop (mkF m 0 #[.val (.int i0), .unset, .unset, .unset, .unset, .unset, .unset, .unset, .unset, .unset, .unset, .unset, .unset, .unset, .unset, .unset, .unset, .unset, .unset, .unset, .unset] [])) target := by
  show Steps p.tables e below (T0.setTop (mkF m 0 #[.val (.int i0), .unset, .unset, .unset, .unset, .unset, .unset, .unset, .unset, .unset, .unset, .unset, .unset, .unset, .unset, .unset, .unset, .unset, .unset, .unset, .unset] [])) _
  refine XS.iloadN X0.here hx rfl (hb hby at_0) rfl ?_
  show Steps p.tables e below (T0.setTop (mkF m 1 #[.val (.int i0), .unset, .unset, .unset, .unset, .unset, .unset, .unset, .unset, .unset, .unset, .unset, .unset, .unset, .unset, .unset, .unset, .unset, .unset, .unset, .unset] [(.int i0)])) _
  refine XS.iconst X0.here hx rfl (hb hby at_1) ?_
  show Steps p.tables e below (T0.setTop (mkF m 2 #[.val (.int i0), .unset, .unset, .unset, .unset, .unset, .unset, .unset, .unset, .unset, .unset, .unset, .unset, .unset, .unset, .unset, .unset, .unset, .unset, .unset, .unset] [(.int (1 : Int32)), (.int i0)])) _
  refine XS.iand X0.here hx rfl (hb hby at_2) rfl ?_
  show Steps p.tables e below (T0.setTop (mkF m 3 #[.val (.int i0), .unset, .unset, .unset, .unset, .unset, .unset, .unset, .unset, .unset, .unset, .unset, .unset, .unset, .unset, .unset, .unset, .unset, .unset, .unset, .unset] [(.int (i0 &&& (1 : Int32)))])) _
  refine XS.ifNo X0.here hx rfl (hb hby at_3) rfl ((if0 _ _).trans (feq h1).1) ?_
  show Steps p.tables e below (T0.setTop (mkF m 6 #[.val (.int i0), .unset, .unset, .unset, .unset, .unset, .unset, .unset, .unset, .unset, .unset, .unset, .unset, .unset, .unset, .unset, .unset, .unset, .unset, .unset, .unset] [])) _
  refine XS.iconst X0.here hx rfl (hb hby at_6) ?_
  show Steps p.tables e below (T0.setTop (mkF m 7 #[.val (.int i0), .unset, .unset, .unset, .unset, .unset, .unset, .unset, .unset, .unset, .unset, .unset, .unset, .unset, .unset, .unset, .unset, .unset, .unset, .unset, .unset] [(.int (1 : Int32))])) _
  refine XS.goto X0.here hx rfl (pc0 := 7) (pc' := 11) rfl (hb hby at_7) (by decide) (by decide) ?_
  show Steps p.tables e below (T0.setTop (mkF m 11 #[.val (.int i0), .unset, .unset, .unset, .unset, .unset, .unset, .unset, .unset, .unset, .unset, .unset, .unset, .unset, .unset, .unset, .unset, .unset, .unset, .unset, .unset] [(.int (1 : Int32))])) _
  refine XS.istoreN X0.here hx rfl (hb hby at_11) rfl (l' := #[.val (.int i0), .val (.int (1 : Int32)), .unset, .unset, .unset, .unset, .unset, .unset, .unset, .unset, .unset, .unset, .unset, .unset, .unset, .unset, .unset, .unset, .unset, .unset, .unset]) rfl ?_
  show Steps p.tables e below (T0.setTop (mkF m 12 #[.val (.int i0), .val (.int (1 : Int32)), .unset, .unset, .unset, .unset, .unset, .unset, .unset, .unset, .unset, .unset, .unset, .unset, .unset, .unset, .unset, .unset, .unset, .unset, .unset] [])) _
  refine XS.iloadN X0.here hx rfl (hb hby at_12) rfl ?_
  show Steps p.tables e below (T0.setTop (mkF m 13 #[.val (.int i0), .val (.int (1 : Int32)), .unset, .unset, .unset, .unset, .unset, .unset, .unset, .unset, .unset, .unset, .unset, .unset, .unset, .unset, .unset, .unset, .unset, .unset, .unset] [(.int i0)])) _
  refine XS.iconst X0.here hx rfl (hb hby at_13) ?_
  show Steps p.tables e below (T0.setTop (mkF m 14 #[.val (.int i0), .val (.int (1 : Int32)), .unset, .unset, .unset, .unset, .unset, .unset, .unset, .unset, .unset, .unset, .unset, .unset, .unset, .unset, .unset, .unset, .unset, .unset, .unset] [(.int (2 : Int32)), (.int i0)])) _
  refine XS.iand X0.here hx rfl (hb hby at_14) rfl ?_
  show Steps p.tables e below (T0.setTop (mkF m 15 #[.val (.int i0), .val (.int (1 : Int32)), .unset, .unset, .unset, .unset, .unset, .unset, .unset, .unset, .unset, .unset, .unset, .unset, .unset, .unset, .unset, .unset, .unset, .unset, .unset] [(.int (i0 &&& (2 : Int32)))])) _
  refine XS.ifYes X0.here hx rfl (pc0 := 15) (pc' := 22) rfl (hb hby at_15) rfl ((if0 _ _).trans (teq h2).1) (by decide) (by decide) ?_
  show Steps p.tables e below (T0.setTop (mkF m 22 #[.val (.int i0), .val (.int (1 : Int32)), .unset, .unset, .unset, .unset, .unset, .unset, .unset, .unset, .unset, .unset, .unset, .unset, .unset, .unset, .unset, .unset, .unset, .unset, .unset] [])) _
  refine XS.iconst X0.here hx rfl (hb hby at_22) ?_
  show Steps p.tables e below (T0.setTop (mkF m 23 #[.val (.int i0), .val (.int (1 : Int32)), .unset, .unset, .unset, .unset, .unset, .unset, .unset, .unset, .unset, .unset, .unset, .unset, .unset, .unset, .unset, .unset, .unset, .unset, .unset] [(.int (0 : Int32))])) _
  refine XS.istoreN X0.here hx rfl (hb hby at_23) rfl (l' := #[.val (.int i0), .val (.int (1 : Int32)), .val (.int (0 : Int32)), .unset, .unset, .unset, .unset, .unset, .unset, .unset, .unset, .unset, .unset, .unset, .unset, .unset, .unset, .unset, .unset, .unset, .unset]) rfl ?_
  show Steps p.tables e below (T0.setTop (mkF m 24 #[.val (.int i0), .val (.int (1 : Int32)), .val (.int (0 : Int32)), .unset, .unset, .unset, .unset, .unset, .unset, .unset, .unset, .unset, .unset, .unset, .unset, .unset, .unset, .unset, .unset, .unset, .unset] [])) _
  refine XS.iloadN X0.here hx rfl (hb hby at_24) rfl ?_
  show Steps p.tables e below (T0.setTop (mkF m 25 #[.val (.int i0), .val (.int (1 : Int32)), .val (.int (0 : Int32)), .unset, .unset, .unset, .unset, .unset, .unset, .unset, .unset, .unset, .unset, .unset, .unset, .unset, .unset, .unset, .unset, .unset, .unset] [(.int i0)])) _
  refine XS.iconst X0.here hx rfl (hb hby at_25) ?_
  show Steps p.tables e below (T0.setTop (mkF m 26 #[.val (.int i0), .val (.int (1 : Int32)), .val (.int (0 : Int32)), .unset, .unset, .unset, .unset, .unset, .unset, .unset, .unset, .unset, .unset, .unset, .unset, .unset, .unset, .unset, .unset, .unset, .unset] [(.int (4 : Int32)), (.int i0)])) _
  refine XS.iand X0.here hx rfl (hb hby at_26) rfl ?_
  show Steps p.tables e below (T0.setTop (mkF m 27 #[.val (.int i0), .val (.int (1 : Int32)), .val (.int (0 : Int32)), .unset, .unset, .unset, .unset, .unset, .unset, .unset, .unset, .unset, .unset, .unset, .unset, .unset, .unset, .unset, .unset, .unset, .unset] [(.int (i0 &&& (4 : Int32)))])) _
  refine XS.ifNo X0.here hx rfl (hb hby at_27) rfl ((if0 _ _).trans (feq h4).1) ?_
  show Steps p.tables e below (T0.setTop (mkF m 30 #[.val (.int i0), .val (.int (1 : Int32)), .val (.int (0 : Int32)), .unset, .unset, .unset, .unset, .unset, .unset, .unset, .unset, .unset, .unset, .unset, .unset, .unset, .unset, .unset, .unset, .unset, .unset] [])) _
  refine XS.iconst X0.here hx rfl (hb hby at_30) ?_
  show Steps p.tables e below (T0.setTop (mkF m 31 #[.val (.int i0), .val (.int (1 : Int32)), .val (.int (0 : Int32)), .unset, .unset, .unset, .unset, .unset, .unset, .unset, .unset, .unset, .unset, .unset, .unset, .unset, .unset, .unset, .unset, .unset, .unset] [(.int (1 : Int32))])) _
  refine XS.goto X0.here hx rfl (pc0 := 31) (pc' := 35) rfl (hb hby at_31) (by decide) (by decide) ?_
  show Steps p.tables e below (T0.setTop (mkF m 35 #[.val (.int i0), .val (.int (1 : Int32)), .val (.int (0 : Int32)), .unset, .unset, .unset, .unset, .unset, .unset, .unset, .unset, .unset, .unset, .unset, .unset, .unset, .unset, .unset, .unset, .unset, .unset] [(.int (1 : Int32))])) _
  refine XS.istoreN X0.here hx rfl (hb hby at_35) rfl (l' := #[.val (.int i0), .val (.int (1 : Int32)), .val (.int (0 : Int32)), .val (.int (1 : Int32)), .unset, .unset, .unset, .unset, .unset, .unset, .unset, .unset, .unset, .unset, .unset, .unset, .unset, .unset, .unset, .unset, .unset]) rfl ?_
  show Steps p.tables e below (T0.setTop (mkF m 36 #[.val (.int i0), .val (.int (1 : Int32)), .val (.int (0 : Int32)), .val (.int (1 : Int32)), .unset, .unset, .unset, .unset, .unset, .unset, .unset, .unset, .unset, .unset, .unset, .unset, .unset, .unset, .unset, .unset, .unset] [])) _
  refine XS.iloadN X0.here hx rfl (hb hby at_36) rfl ?_
  show Steps p.tables e below (T0.setTop (mkF m 37 #[.val (.int i0), .val (.int (1 : Int32)), .val (.int (0 : Int32)), .val (.int (1 : Int32)), .unset, .unset, .unset, .unset, .unset, .unset, .unset, .unset, .unset, .unset, .unset, .unset, .unset, .unset, .unset, .unset, .unset] [(.int (1 : Int32))])) _
  refine XS.ifNo X0.here hx rfl (hb hby at_37) rfl ((if0 _ _).trans (feq (by decide)).1) ?_
  show Steps p.tables e below (T0.setTop (mkF m 40 #[.val (.int i0), .val (.int (1 : Int32)), .val (.int (0 : Int32)), .val (.int (1 : Int32)), .unset, .unset, .unset, .unset, .unset, .unset, .unset, .unset, .unset, .unset, .unset, .unset, .unset, .unset, .unset, .unset, .unset] [])) _
  refine XS.iconst X0.here hx rfl (hb hby at_40) ?_
  show Steps p.tables e below (T0.setTop (mkF m 41 #[.val (.int i0), .val (.int (1 : Int32)), .val (.int (0 : Int32)), .val (.int (1 : Int32)), .unset, .unset, .unset, .unset, .unset, .unset, .unset, .unset, .unset, .unset, .unset, .unset, .unset, .unset, .unset, .unset, .unset] [(.int (0 : Int32))])) _
  refine XS.goto X0.here hx rfl (pc0 := 41) (pc' := 45) rfl (hb hby at_41) (by decide) (by decide) ?_
  show Steps p.tables e below (T0.setTop (mkF m 45 #[.val (.int i0), .val (.int (1 : Int32)), .val (.int (0 : Int32)), .val (.int (1 : Int32)), .unset, .unset, .unset, .unset, .unset, .unset, .unset, .unset, .unset, .unset, .unset, .unset, .unset, .unset, .unset, .unset, .unset] [(.int (0 : Int32))])) _
  refine XS.istore X0.here hx rfl (hb hby at_45) rfl (l' := #[.val (.int i0), .val (.int (1 : Int32)), .val (.int (0 : Int32)), .val (.int (1 : Int32)), .val (.int (0 : Int32)), .unset, .unset, .unset, .unset, .unset, .unset, .unset, .unset, .unset, .unset, .unset, .unset, .unset, .unset, .unset, .unset]) rfl ?_
  show Steps p.tables e below (T0.setTop (mkF m 47 #[.val (.int i0), .val (.int (1 : Int32)), .val (.int (0 : Int32)), .val (.int (1 : Int32)), .val (.int (0 : Int32)), .unset, .unset, .unset, .unset, .unset, .unset, .unset, .unset, .unset, .unset, .unset, .unset, .unset, .unset, .unset, .unset] [])) _
  refine XS.iloadN X0.here hx rfl (hb hby at_47) rfl ?_
  show Steps p.tables e below (T0.setTop (mkF m 48 #[.val (.int i0), .val (.int (1 : Int32)), .val (.int (0 : Int32)), .val (.int (1 : Int32)), .val (.int (0 : Int32)), .unset, .unset, .unset, .unset, .unset, .unset, .unset, .unset, .unset, .unset, .unset, .unset, .unset, .unset, .unset, .unset] [(.int (0 : Int32))])) _
  refine XS.ifYes X0.here hx rfl (pc0 := 48) (pc' := 55) rfl (hb hby at_48) rfl ((if0 _ _).trans (teq (by decide)).1) (by decide) (by decide) ?_
  show Steps p.tables e below (T0.setTop (mkF m 55 #[.val (.int i0), .val (.int (1 : Int32)), .val (.int (0 : Int32)), .val (.int (1 : Int32)), .val (.int (0 : Int32)), .unset, .unset, .unset, .unset, .unset, .unset, .unset, .unset, .unset, .unset, .unset, .unset, .unset, .unset, .unset, .unset] [])) _
  refine XS.iload X0.here hx rfl (hb hby at_55) rfl ?_
  show Steps p.tables e below (T0.setTop (mkF m 57 #[.val (.int i0), .val (.int (1 : Int32)), .val (.int (0 : Int32)), .val (.int (1 : Int32)), .val (.int (0 : Int32)), .unset, .unset, .unset, .unset, .unset, .unset, .unset, .unset, .unset, .unset, .unset, .unset, .unset, .unset, .unset, .unset] [(.int (0 : Int32))])) _
  refine XS.iconst X0.here hx rfl (hb hby at_57) ?_
  show Steps p.tables e below (T0.setTop (mkF m 58 #[.val (.int i0), .val (.int (1 : Int32)), .val (.int (0 : Int32)), .val (.int (1 : Int32)), .val (.int (0 : Int32)), .unset, .unset, .unset, .unset, .unset, .unset, .unset, .unset, .unset, .unset, .unset, .unset, .unset, .unset, .unset, .unset] [(.int (1 : Int32)), (.int (0 : Int32))])) _
  refine XS.iadd X0.here hx rfl (hb hby at_58) rfl ?_
  show Steps p.tables e below (T0.setTop (mkF m 59 #[.val (.int i0), .val (.int (1 : Int32)), .val (.int (0 : Int32)), .val (.int (1 : Int32)), .val (.int (0 : Int32)), .unset, .unset, .unset, .unset, .unset, .unset, .unset, .unset, .unset, .unset, .unset, .unset, .unset, .unset, .unset, .unset] [(.int ((0 : Int32) + (1 : Int32)))])) _
  refine XS.istore X0.here hx rfl (hb hby at_59) rfl (l' := #[.val (.int i0), .val (.int (1 : Int32)), .val (.int (0 : Int32)), .val (.int (1 : Int32)), .val (.int (0 : Int32)), .val (.int ((0 : Int32) + (1 : Int32))), .unset, .unset, .unset, .unset, .unset, .unset, .unset, .unset, .unset, .unset, .unset, .unset, .unset, .unset, .unset]) rfl ?_
  show Steps p.tables e below (T0.setTop (mkF m 61 #[.val (.int i0), .val (.int (1 : Int32)), .val (.int (0 : Int32)), .val (.int (1 : Int32)), .val (.int (0 : Int32)), .val (.int ((0 : Int32) + (1 : Int32))), .unset, .unset, .unset, .unset, .unset, .unset, .unset, .unset, .unset, .unset, .unset, .unset, .unset, .unset, .unset] [])) _
  refine XS.iloadN X0.here hx rfl (hb hby at_61) rfl ?_
  show Steps p.tables e below (T0.setTop (mkF m 62 #[.val (.int i0), .val (.int (1 : Int32)), .val (.int (0 : Int32)), .val (.int (1 : Int32)), .val (.int (0 : Int32)), .val (.int ((0 : Int32) + (1 : Int32))), .unset, .unset, .unset, .unset, .unset, .unset, .unset, .unset, .unset, .unset, .unset, .unset, .unset, .unset, .unset] [(.int (1 : Int32))])) _
  refine XS.ifNo X0.here hx rfl (hb hby at_62) rfl ((if0 _ _).trans (feq (by decide)).1) ?_
  show Steps p.tables e below (T0.setTop (mkF m 65 #[.val (.int i0), .val (.int (1 : Int32)), .val (.int (0 : Int32)), .val (.int (1 : Int32)), .val (.int (0 : Int32)), .val (.int ((0 : Int32) + (1 : Int32))), .unset, .unset, .unset, .unset, .unset, .unset, .unset, .unset, .unset, .unset, .unset, .unset, .unset, .unset, .unset] [])) _
  refine XS.iconst X0.here hx rfl (hb hby at_65) ?_
  show Steps p.tables e below (T0.setTop (mkF m 66 #[.val (.int i0), .val (.int (1 : Int32)), .val (.int (0 : Int32)), .val (.int (1 : Int32)), .val (.int (0 : Int32)), .val (.int ((0 : Int32) + (1 : Int32))), .unset, .unset, .unset, .unset, .unset, .unset, .unset, .unset, .unset, .unset, .unset, .unset, .unset, .unset, .unset] [(.int (0 : Int32))])) _
  refine XS.goto X0.here hx rfl (pc0 := 66) (pc' := 73) rfl (hb hby at_66) (by decide) (by decide) ?_
  show Steps p.tables e below (T0.setTop (mkF m 73 #[.val (.int i0), .val (.int (1 : Int32)), .val (.int (0 : Int32)), .val (.int (1 : Int32)), .val (.int (0 : Int32)), .val (.int ((0 : Int32) + (1 : Int32))), .unset, .unset, .unset, .unset, .unset, .unset, .unset, .unset, .unset, .unset, .unset, .unset, .unset, .unset, .unset] [(.int (0 : Int32))])) _
  refine XS.istore X0.here hx rfl (hb hby at_73) rfl (l' := #[.val (.int i0), .val (.int (1 : Int32)), .val (.int (0 : Int32)), .val (.int (1 : Int32)), .val (.int (0 : Int32)), .val (.int ((0 : Int32) + (1 : Int32))), .val (.int (0 : Int32)), .unset, .unset, .unset, .unset, .unset, .unset, .unset, .unset, .unset, .unset, .unset, .unset, .unset, .unset]) rfl ?_
  show Steps p.tables e below (T0.setTop (mkF m 75 #[.val (.int i0), .val (.int (1 : Int32)), .val (.int (0 : Int32)), .val (.int (1 : Int32)), .val (.int (0 : Int32)), .val (.int ((0 : Int32) + (1 : Int32))), .val (.int (0 : Int32)), .unset, .unset, .unset, .unset, .unset, .unset, .unset, .unset, .unset, .unset, .unset, .unset, .unset, .unset] [])) _
  refine XS.iload X0.here hx rfl (hb hby at_75) rfl ?_
  show Steps p.tables e below (T0.setTop (mkF m 77 #[.val (.int i0), .val (.int (1 : Int32)), .val (.int (0 : Int32)), .val (.int (1 : Int32)), .val (.int (0 : Int32)), .val (.int ((0 : Int32) + (1 : Int32))), .val (.int (0 : Int32)), .unset, .unset, .unset, .unset, .unset, .unset, .unset, .unset, .unset, .unset, .unset, .unset, .unset, .unset] [(.int ((0 : Int32) + (1 : Int32)))])) _
  refine XS.iconst X0.here hx rfl (hb hby at_77) ?_
  show Steps p.tables e below (T0.setTop (mkF m 78 #[.val (.int i0), .val (.int (1 : Int32)), .val (.int (0 : Int32)), .val (.int (1 : Int32)), .val (.int (0 : Int32)), .val (.int ((0 : Int32) + (1 : Int32))), .val (.int (0 : Int32)), .unset, .unset, .unset, .unset, .unset, .unset, .unset, .unset, .unset, .unset, .unset, .unset, .unset, .unset] [(.int (2 : Int32)), (.int ((0 : Int32) + (1 : Int32)))])) _
  refine XS.icmpYes X0.here hx rfl (pc0 := 78) (pc' := 85) rfl (hb hby at_78) rfl (tlt (by decide)).1 (by decide) (by decide) ?_
  show Steps p.tables e below (T0.setTop (mkF m 85 #[.val (.int i0), .val (.int (1 : Int32)), .val (.int (0 : Int32)), .val (.int (1 : Int32)), .val (.int (0 : Int32)), .val (.int ((0 : Int32) + (1 : Int32))), .val (.int (0 : Int32)), .unset, .unset, .unset, .unset, .unset, .unset, .unset, .unset, .unset, .unset, .unset, .unset, .unset, .unset] [])) _
  refine XS.iconst X0.here hx rfl (hb hby at_85) ?_
  show Steps p.tables e below (T0.setTop (mkF m 86 #[.val (.int i0), .val (.int (1 : Int32)), .val (.int (0 : Int32)), .val (.int (1 : Int32)), .val (.int (0 : Int32)), .val (.int ((0 : Int32) + (1 : Int32))), .val (.int (0 : Int32)), .unset, .unset, .unset, .unset, .unset, .unset, .unset, .unset, .unset, .unset, .unset, .unset, .unset, .unset] [(.int (0 : Int32))])) _
  refine XS.istore X0.here hx rfl (hb hby at_86) rfl (l' := #[.val (.int i0), .val (.int (1 : Int32)), .val (.int (0 : Int32)), .val (.int (1 : Int32)), .val (.int (0 : Int32)), .val (.int ((0 : Int32) + (1 : Int32))), .val (.int (0 : Int32)), .val (.int (0 : Int32)), .unset, .unset, .unset, .unset, .unset, .unset, .unset, .unset, .unset, .unset, .unset, .unset, .unset]) rfl ?_
  show Steps p.tables e below (T0.setTop (mkF m 88 #[.val (.int i0), .val (.int (1 : Int32)), .val (.int (0 : Int32)), .val (.int (1 : Int32)), .val (.int (0 : Int32)), .val (.int ((0 : Int32) + (1 : Int32))), .val (.int (0 : Int32)), .val (.int (0 : Int32)), .unset, .unset, .unset, .unset, .unset, .unset, .unset, .unset, .unset, .unset, .unset, .unset, .unset] [])) _
  refine XS.iload X0.here hx rfl (hb hby at_88) rfl ?_
  show Steps p.tables e below (T0.setTop (mkF m 90 #[.val (.int i0), .val (.int (1 : Int32)), .val (.int (0 : Int32)), .val (.int (1 : Int32)), .val (.int (0 : Int32)), .val (.int ((0 : Int32) + (1 : Int32))), .val (.int (0 : Int32)), .val (.int (0 : Int32)), .unset, .unset, .unset, .unset, .unset, .unset, .unset, .unset, .unset, .unset, .unset, .unset, .unset] [(.int (0 : Int32))])) _
  refine XS.iconst X0.here hx rfl (hb hby at_90) ?_
  show Steps p.tables e below (T0.setTop (mkF m 91 #[.val (.int i0), .val (.int (1 : Int32)), .val (.int (0 : Int32)), .val (.int (1 : Int32)), .val (.int (0 : Int32)), .val (.int ((0 : Int32) + (1 : Int32))), .val (.int (0 : Int32)), .val (.int (0 : Int32)), .unset, .unset, .unset, .unset, .unset, .unset, .unset, .unset, .unset, .unset, .unset, .unset, .unset] [(.int (2 : Int32)), (.int (0 : Int32))])) _
  refine XS.icmpYes X0.here hx rfl (pc0 := 91) (pc' := 98) rfl (hb hby at_91) rfl (tlt (by decide)).1 (by decide) (by decide) ?_
  show Steps p.tables e below (T0.setTop (mkF m 98 #[.val (.int i0), .val (.int (1 : Int32)), .val (.int (0 : Int32)), .val (.int (1 : Int32)), .val (.int (0 : Int32)), .val (.int ((0 : Int32) + (1 : Int32))), .val (.int (0 : Int32)), .val (.int (0 : Int32)), .unset, .unset, .unset, .unset, .unset, .unset, .unset, .unset, .unset, .unset, .unset, .unset, .unset] [])) _
  refine XS.iconst X0.here hx rfl (hb hby at_98) ?_
  show Steps p.tables e below (T0.setTop (mkF m 99 #[.val (.int i0), .val (.int (1 : Int32)), .val (.int (0 : Int32)), .val (.int (1 : Int32)), .val (.int (0 : Int32)), .val (.int ((0 : Int32) + (1 : Int32))), .val (.int (0 : Int32)), .val (.int (0 : Int32)), .unset, .unset, .unset, .unset, .unset, .unset, .unset, .unset, .unset, .unset, .unset, .unset, .unset] [(.int (0 : Int32))])) _
  refine XS.istore X0.here hx rfl (hb hby at_99) rfl (l' := #[.val (.int i0), .val (.int (1 : Int32)), .val (.int (0 : Int32)), .val (.int (1 : Int32)), .val (.int (0 : Int32)), .val (.int ((0 : Int32) + (1 : Int32))), .val (.int (0 : Int32)), .val (.int (0 : Int32)), .val (.int (0 : Int32)), .unset, .unset, .unset, .unset, .unset, .unset, .unset, .unset, .unset, .unset, .unset, .unset]) rfl ?_
  show Steps p.tables e below (T0.setTop (mkF m 101 #[.val (.int i0), .val (.int (1 : Int32)), .val (.int (0 : Int32)), .val (.int (1 : Int32)), .val (.int (0 : Int32)), .val (.int ((0 : Int32) + (1 : Int32))), .val (.int (0 : Int32)), .val (.int (0 : Int32)), .val (.int (0 : Int32)), .unset, .unset, .unset, .unset, .unset, .unset, .unset, .unset, .unset, .unset, .unset, .unset] [])) _
  refine XS.iload X0.here hx rfl (hb hby at_101) rfl ?_
  show Steps p.tables e below (T0.setTop (mkF m 103 #[.val (.int i0), .val (.int (1 : Int32)), .val (.int (0 : Int32)), .val (.int (1 : Int32)), .val (.int (0 : Int32)), .val (.int ((0 : Int32) + (1 : Int32))), .val (.int (0 : Int32)), .val (.int (0 : Int32)), .val (.int (0 : Int32)), .unset, .unset, .unset, .unset, .unset, .unset, .unset, .unset, .unset, .unset, .unset, .unset] [(.int (0 : Int32))])) _
  refine XS.ifYes X0.here hx rfl (pc0 := 103) (pc' := 110) rfl (hb hby at_103) rfl ((if0 _ _).trans (teq (by decide)).1) (by decide) (by decide) ?_
  show Steps p.tables e below (T0.setTop (mkF m 110 #[.val (.int i0), .val (.int (1 : Int32)), .val (.int (0 : Int32)), .val (.int (1 : Int32)), .val (.int (0 : Int32)), .val (.int ((0 : Int32) + (1 : Int32))), .val (.int (0 : Int32)), .val (.int (0 : Int32)), .val (.int (0 : Int32)), .unset, .unset, .unset, .unset, .unset, .unset, .unset, .unset, .unset, .unset, .unset, .unset] [])) _
  refine XS.iconst X0.here hx rfl (hb hby at_110) ?_
  show Steps p.tables e below (T0.setTop (mkF m 111 #[.val (.int i0), .val (.int (1 : Int32)), .val (.int (0 : Int32)), .val (.int (1 : Int32)), .val (.int (0 : Int32)), .val (.int ((0 : Int32) + (1 : Int32))), .val (.int (0 : Int32)), .val (.int (0 : Int32)), .val (.int (0 : Int32)), .unset, .unset, .unset, .unset, .unset, .unset, .unset, .unset, .unset, .unset, .unset, .unset] [(.int (0 : Int32))])) _
  refine XS.istore X0.here hx rfl (hb hby at_111) rfl (l' := #[.val (.int i0), .val (.int (1 : Int32)), .val (.int (0 : Int32)), .val (.int (1 : Int32)), .val (.int (0 : Int32)), .val (.int ((0 : Int32) + (1 : Int32))), .val (.int (0 : Int32)), .val (.int (0 : Int32)), .val (.int (0 : Int32)), .val (.int (0 : Int32)), .unset, .unset, .unset, .unset, .unset, .unset, .unset, .unset, .unset, .unset, .unset]) rfl ?_
  exact kt
set_option maxRecDepth 65536 in
set_option maxHeartbeats 40000000 in
theorem tnA6 {p : Program} {l : Launch} {e : Env} {R : Room} {s : State} {m : MethodId} {args : Array Value} {below : List Frame} {meth : Method} {c : Code} {T0 : State} {locs : List Loc} {cells slots : Nat} (i0 : Int32) (X0 : Stand p l e R s m args below meth c T0 locs cells slots) (hx : p.tables.exec = Jvm.exec) (hby : c.code = code) (h1 : (i0 &&& (1 : Int32)) = (0 : Int32)) (h2 : ¬ (i0 &&& (2 : Int32)) = (0 : Int32)) (h4 : ¬ (i0 &&& (4 : Int32)) = (0 : Int32)) (target : State)
    (kt : Steps p.tables e below (T0.setTop (mkF m 113 #[.val (.int i0), .val (.int (0 : Int32)), .val (.int (1 : Int32)), .val (.int (1 : Int32)), .val (.int (1 : Int32)), .val (.int (0 : Int32)), .val (.int (0 : Int32)), .val (.int (0 : Int32)), .val (.int (0 : Int32)), .val (.int (0 : Int32)), .unset, .unset, .unset, .unset, .unset, .unset, .unset, .unset, .unset, .unset, .unset] [])) target) : Steps p.tables e below (T0.setTop (mkF m 0 #[.val (.int i0), .unset, .unset, .unset, .unset, .unset, .unset, .unset, .unset, .unset, .unset, .unset, .unset, .unset, .unset, .unset, .unset, .unset, .unset, .unset, .unset] [])) target := by
  show Steps p.tables e below (T0.setTop (mkF m 0 #[.val (.int i0), .unset, .unset, .unset, .unset, .unset, .unset, .unset, .unset, .unset, .unset, .unset, .unset, .unset, .unset, .unset, .unset, .unset, .unset, .unset, .unset] [])) _
  refine XS.iloadN X0.here hx rfl (hb hby at_0) rfl ?_
  show Steps p.tables e below (T0.setTop (mkF m 1 #[.val (.int i0), .unset, .unset, .unset, .unset, .unset, .unset, .unset, .unset, .unset, .unset, .unset, .unset, .unset, .unset, .unset, .unset, .unset, .unset, .unset, .unset] [(.int i0)])) _
  refine XS.iconst X0.here hx rfl (hb hby at_1) ?_
  show Steps p.tables e below (T0.setTop (mkF m 2 #[.val (.int i0), .unset, .unset, .unset, .unset, .unset, .unset, .unset, .unset, .unset, .unset, .unset, .unset, .unset, .unset, .unset, .unset, .unset, .unset, .unset, .unset] [(.int (1 : Int32)), (.int i0)])) _
  refine XS.iand X0.here hx rfl (hb hby at_2) rfl ?_
  show Steps p.tables e below (T0.setTop (mkF m 3 #[.val (.int i0), .unset, .unset, .unset, .unset, .unset, .unset, .unset, .unset, .unset, .unset, .unset, .unset, .unset, .unset, .unset, .unset, .unset, .unset, .unset, .unset] [(.int (i0 &&& (1 : Int32)))])) _
  refine XS.ifYes X0.here hx rfl (pc0 := 3) (pc' := 10) rfl (hb hby at_3) rfl ((if0 _ _).trans (teq h1).1) (by decide) (by decide) ?_
  show Steps p.tables e below (T0.setTop (mkF m 10 #[.val (.int i0), .unset, .unset, .unset, .unset, .unset, .unset, .unset, .unset, .unset, .unset, .unset, .unset, .unset, .unset, .unset, .unset, .unset, .unset, .unset, .unset] [])) _
  refine XS.iconst X0.here hx rfl (hb hby at_10) ?_
  show Steps p.tables e below (T0.setTop (mkF m 11 #[.val (.int i0), .unset, .unset, .unset, .unset, .unset, .unset, .unset, .unset, .unset, .unset, .unset, .unset, .unset, .unset, .unset, .unset, .unset, .unset, .unset, .unset] [(.int (0 : Int32))])) _
  refine XS.istoreN X0.here hx rfl (hb hby at_11) rfl (l' := #[.val (.int i0), .val (.int (0 : Int32)), .unset, .unset, .unset, .unset, .unset, .unset, .unset, .unset, .unset, .unset, .unset, .unset, .unset, .unset, .unset, .unset, .unset, .unset, .unset]) rfl ?_
  show Steps p.tables e below (T0.setTop (mkF m 12 #[.val (.int i0), .val (.int (0 : Int32)), .unset, .unset, .unset, .unset, .unset, .unset, .unset, .unset, .unset, .unset, .unset, .unset, .unset, .unset, .unset, .unset, .unset, .unset, .unset] [])) _
  refine XS.iloadN X0.here hx rfl (hb hby at_12) rfl ?_
  show Steps p.tables e below (T0.setTop (mkF m 13 #[.val (.int i0), .val (.int (0 : Int32)), .unset, .unset, .unset, .unset, .unset, .unset, .unset, .unset, .unset, .unset, .unset, .unset, .unset, .unset, .unset, .unset, .unset, .unset, .unset] [(.int i0)])) _
  refine XS.iconst X0.here hx rfl (hb hby at_13) ?_
  show Steps p.tables e below (T0.setTop (mkF m 14 #[.val (.int i0), .val (.int (0 : Int32)), .unset, .unset, .unset, .unset, .unset, .unset, .unset, .unset, .unset, .unset, .unset, .unset, .unset, .unset, .unset, .unset, .unset, .unset, .unset] [(.int (2 : Int32)), (.int i0)])) _
  refine XS.iand X0.here hx rfl (hb hby at_14) rfl ?_
  show Steps p.tables e below (T0.setTop (mkF m 15 #[.val (.int i0), .val (.int (0 : Int32)), .unset, .unset, .unset, .unset, .unset, .unset, .unset, .unset, .unset, .unset, .unset, .unset, .unset, .unset, .unset, .unset, .unset, .unset, .unset] [(.int (i0 &&& (2 : Int32)))])) _
  refine XS.ifNo X0.here hx rfl (hb hby at_15) rfl ((if0 _ _).trans (feq h2).1) ?_
  show Steps p.tables e below (T0.setTop (mkF m 18 #[.val (.int i0), .val (.int (0 : Int32)), .unset, .unset, .unset, .unset, .unset, .unset, .unset, .unset, .unset, .unset, .unset, .unset, .unset, .unset, .unset, .unset, .unset, .unset, .unset] [])) _
  refine XS.iconst X0.here hx rfl (hb hby at_18) ?_
  show Steps p.tables e below (T0.setTop (mkF m 19 #[.val (.int i0), .val (.int (0 : Int32)), .unset, .unset, .unset, .unset, .unset, .unset, .unset, .unset, .unset, .unset, .unset, .unset, .unset, .unset, .unset, .unset, .unset, .unset, .unset] [(.int (1 : Int32))])) _
  refine XS.goto X0.here hx rfl (pc0 := 19) (pc' := 23) rfl (hb hby at_19) (by decide) (by decide) ?_
  show Steps p.tables e below (T0.setTop (mkF m 23 #[.val (.int i0), .val (.int (0 : Int32)), .unset, .unset, .unset, .unset, .unset, .unset, .unset, .unset, .unset, .unset, .unset, .unset, .unset, .unset, .unset, .unset, .unset, .unset, .unset] [(.int (1 : Int32))])) _
  refine XS.istoreN X0.here hx rfl (hb hby at_23) rfl (l' := #[.val (.int i0), .val (.int (0 : Int32)), .val (.int (1 : Int32)), .unset, .unset, .unset, .unset, .unset, .unset, .unset, .unset, .unset, .unset, .unset, .unset, .unset, .unset, .unset, .unset, .unset, .unset]) rfl ?_
  show Steps p.tables e below (T0.setTop (mkF m 24 #[.val (.int i0), .val (.int (0 : Int32)), .val (.int (1 : Int32)), .unset, .unset, .unset, .unset, .unset, .unset, .unset, .unset, .unset, .unset, .unset, .unset, .unset, .unset, .unset, .unset, .unset, .unset] [])) _
  refine XS.iloadN X0.here hx rfl (hb hby at_24) rfl ?_
  show Steps p.tables e below (T0.setTop (mkF m 25 #[.val (.int i0), .val (.int (0 : Int32)), .val (.int (1 : Int32)), .unset, .unset, .unset, .unset, .unset, .unset, .unset, .unset, .unset, .unset, .unset, .unset, .unset, .unset, .unset, .unset, .unset, .unset] [(.int i0)])) _
  refine XS.iconst X0.here hx rfl (hb hby at_25) ?_
  show Steps p.tables e below (T0.setTop (mkF m 26 #[.val (.int i0), .val (.int (0 : Int32)), .val (.int (1 : Int32)), .unset, .unset, .unset, .unset, .unset, .unset, .unset, .unset, .unset, .unset, .unset, .unset, .unset, .unset, .unset, .unset, .unset, .unset] [(.int (4 : Int32)), (.int i0)])) _
  refine XS.iand X0.here hx rfl (hb hby at_26) rfl ?_
  show Steps p.tables e below (T0.setTop (mkF m 27 #[.val (.int i0), .val (.int (0 : Int32)), .val (.int (1 : Int32)), .unset, .unset, .unset, .unset, .unset, .unset, .unset, .unset, .unset, .unset, .unset, .unset, .unset, .unset, .unset, .unset, .unset, .unset] [(.int (i0 &&& (4 : Int32)))])) _
  refine XS.ifNo X0.here hx rfl (hb hby at_27) rfl ((if0 _ _).trans (feq h4).1) ?_
  show Steps p.tables e below (T0.setTop (mkF m 30 #[.val (.int i0), .val (.int (0 : Int32)), .val (.int (1 : Int32)), .unset, .unset, .unset, .unset, .unset, .unset, .unset, .unset, .unset, .unset, .unset, .unset, .unset, .unset, .unset, .unset, .unset, .unset] [])) _
  refine XS.iconst X0.here hx rfl (hb hby at_30) ?_
  show Steps p.tables e below (T0.setTop (mkF m 31 #[.val (.int i0), .val (.int (0 : Int32)), .val (.int (1 : Int32)), .unset, .unset, .unset, .unset, .unset, .unset, .unset, .unset, .unset, .unset, .unset, .unset, .unset, .unset, .unset, .unset, .unset, .unset] [(.int (1 : Int32))])) _
  refine XS.goto X0.here hx rfl (pc0 := 31) (pc' := 35) rfl (hb hby at_31) (by decide) (by decide) ?_
  show Steps p.tables e below (T0.setTop (mkF m 35 #[.val (.int i0), .val (.int (0 : Int32)), .val (.int (1 : Int32)), .unset, .unset, .unset, .unset, .unset, .unset, .unset, .unset, .unset, .unset, .unset, .unset, .unset, .unset, .unset, .unset, .unset, .unset] [(.int (1 : Int32))])) _
  refine XS.istoreN X0.here hx rfl (hb hby at_35) rfl (l' := #[.val (.int i0), .val (.int (0 : Int32)), .val (.int (1 : Int32)), .val (.int (1 : Int32)), .unset, .unset, .unset, .unset, .unset, .unset, .unset, .unset, .unset, .unset, .unset, .unset, .unset, .unset, .unset, .unset, .unset]) rfl ?_
  show Steps p.tables e below (T0.setTop (mkF m 36 #[.val (.int i0), .val (.int (0 : Int32)), .val (.int (1 : Int32)), .val (.int (1 : Int32)), .unset, .unset, .unset, .unset, .unset, .unset, .unset, .unset, .unset, .unset, .unset, .unset, .unset, .unset, .unset, .unset, .unset] [])) _
  refine XS.iloadN X0.here hx rfl (hb hby at_36) rfl ?_
  show Steps p.tables e below (T0.setTop (mkF m 37 #[.val (.int i0), .val (.int (0 : Int32)), .val (.int (1 : Int32)), .val (.int (1 : Int32)), .unset, .unset, .unset, .unset, .unset, .unset, .unset, .unset, .unset, .unset, .unset, .unset, .unset, .unset, .unset, .unset, .unset] [(.int (0 : Int32))])) _
  refine XS.ifYes X0.here hx rfl (pc0 := 37) (pc' := 44) rfl (hb hby at_37) rfl ((if0 _ _).trans (teq (by decide)).1) (by decide) (by decide) ?_
  show Steps p.tables e below (T0.setTop (mkF m 44 #[.val (.int i0), .val (.int (0 : Int32)), .val (.int (1 : Int32)), .val (.int (1 : Int32)), .unset, .unset, .unset, .unset, .unset, .unset, .unset, .unset, .unset, .unset, .unset, .unset, .unset, .unset, .unset, .unset, .unset] [])) _
  refine XS.iconst X0.here hx rfl (hb hby at_44) ?_
  show Steps p.tables e below (T0.setTop (mkF m 45 #[.val (.int i0), .val (.int (0 : Int32)), .val (.int (1 : Int32)), .val (.int (1 : Int32)), .unset, .unset, .unset, .unset, .unset, .unset, .unset, .unset, .unset, .unset, .unset, .unset, .unset, .unset, .unset, .unset, .unset] [(.int (1 : Int32))])) _
  refine XS.istore X0.here hx rfl (hb hby at_45) rfl (l' := #[.val (.int i0), .val (.int (0 : Int32)), .val (.int (1 : Int32)), .val (.int (1 : Int32)), .val (.int (1 : Int32)), .unset, .unset, .unset, .unset, .unset, .unset, .unset, .unset, .unset, .unset, .unset, .unset, .unset, .unset, .unset, .unset]) rfl ?_
  show Steps p.tables e below (T0.setTop (mkF m 47 #[.val (.int i0), .val (.int (0 : Int32)), .val (.int (1 : Int32)), .val (.int (1 : Int32)), .val (.int (1 : Int32)), .unset, .unset, .unset, .unset, .unset, .unset, .unset, .unset, .unset, .unset, .unset, .unset, .unset, .unset, .unset, .unset] [])) _
  refine XS.iloadN X0.here hx rfl (hb hby at_47) rfl ?_
  show Steps p.tables e below (T0.setTop (mkF m 48 #[.val (.int i0), .val (.int (0 : Int32)), .val (.int (1 : Int32)), .val (.int (1 : Int32)), .val (.int (1 : Int32)), .unset, .unset, .unset, .unset, .unset, .unset, .unset, .unset, .unset, .unset, .unset, .unset, .unset, .unset, .unset, .unset] [(.int (1 : Int32))])) _
  refine XS.ifNo X0.here hx rfl (hb hby at_48) rfl ((if0 _ _).trans (feq (by decide)).1) ?_
  show Steps p.tables e below (T0.setTop (mkF m 51 #[.val (.int i0), .val (.int (0 : Int32)), .val (.int (1 : Int32)), .val (.int (1 : Int32)), .val (.int (1 : Int32)), .unset, .unset, .unset, .unset, .unset, .unset, .unset, .unset, .unset, .unset, .unset, .unset, .unset, .unset, .unset, .unset] [])) _
  refine XS.iconst X0.here hx rfl (hb hby at_51) ?_
  show Steps p.tables e below (T0.setTop (mkF m 52 #[.val (.int i0), .val (.int (0 : Int32)), .val (.int (1 : Int32)), .val (.int (1 : Int32)), .val (.int (1 : Int32)), .unset, .unset, .unset, .unset, .unset, .unset, .unset, .unset, .unset, .unset, .unset, .unset, .unset, .unset, .unset, .unset] [(.int (0 : Int32))])) _
  refine XS.goto X0.here hx rfl (pc0 := 52) (pc' := 59) rfl (hb hby at_52) (by decide) (by decide) ?_
  show Steps p.tables e below (T0.setTop (mkF m 59 #[.val (.int i0), .val (.int (0 : Int32)), .val (.int (1 : Int32)), .val (.int (1 : Int32)), .val (.int (1 : Int32)), .unset, .unset, .unset, .unset, .unset, .unset, .unset, .unset, .unset, .unset, .unset, .unset, .unset, .unset, .unset, .unset] [(.int (0 : Int32))])) _
  refine XS.istore X0.here hx rfl (hb hby at_59) rfl (l' := #[.val (.int i0), .val (.int (0 : Int32)), .val (.int (1 : Int32)), .val (.int (1 : Int32)), .val (.int (1 : Int32)), .val (.int (0 : Int32)), .unset, .unset, .unset, .unset, .unset, .unset, .unset, .unset, .unset, .unset, .unset, .unset, .unset, .unset, .unset]) rfl ?_
  show Steps p.tables e below (T0.setTop (mkF m 61 #[.val (.int i0), .val (.int (0 : Int32)), .val (.int (1 : Int32)), .val (.int (1 : Int32)), .val (.int (1 : Int32)), .val (.int (0 : Int32)), .unset, .unset, .unset, .unset, .unset, .unset, .unset, .unset, .unset, .unset, .unset, .unset, .unset, .unset, .unset] [])) _
  refine XS.iloadN X0.here hx rfl (hb hby at_61) rfl ?_
  show Steps p.tables e below (T0.setTop (mkF m 62 #[.val (.int i0), .val (.int (0 : Int32)), .val (.int (1 : Int32)), .val (.int (1 : Int32)), .val (.int (1 : Int32)), .val (.int (0 : Int32)), .unset, .unset, .unset, .unset, .unset, .unset, .unset, .unset, .unset, .unset, .unset, .unset, .unset, .unset, .unset] [(.int (1 : Int32))])) _
  refine XS.ifNo X0.here hx rfl (hb hby at_62) rfl ((if0 _ _).trans (feq (by decide)).1) ?_
  show Steps p.tables e below (T0.setTop (mkF m 65 #[.val (.int i0), .val (.int (0 : Int32)), .val (.int (1 : Int32)), .val (.int (1 : Int32)), .val (.int (1 : Int32)), .val (.int (0 : Int32)), .unset, .unset, .unset, .unset, .unset, .unset, .unset, .unset, .unset, .unset, .unset, .unset, .unset, .unset, .unset] [])) _
  refine XS.iconst X0.here hx rfl (hb hby at_65) ?_
  show Steps p.tables e below (T0.setTop (mkF m 66 #[.val (.int i0), .val (.int (0 : Int32)), .val (.int (1 : Int32)), .val (.int (1 : Int32)), .val (.int (1 : Int32)), .val (.int (0 : Int32)), .unset, .unset, .unset, .unset, .unset, .unset, .unset, .unset, .unset, .unset, .unset, .unset, .unset, .unset, .unset] [(.int (0 : Int32))])) _
  refine XS.goto X0.here hx rfl (pc0 := 66) (pc' := 73) rfl (hb hby at_66) (by decide) (by decide) ?_
  show Steps p.tables e below (T0.setTop (mkF m 73 #[.val (.int i0), .val (.int (0 : Int32)), .val (.int (1 : Int32)), .val (.int (1 : Int32)), .val (.int (1 : Int32)), .val (.int (0 : Int32)), .unset, .unset, .unset, .unset, .unset, .unset, .unset, .unset, .unset, .unset, .unset, .unset, .unset, .unset, .unset] [(.int (0 : Int32))])) _
  refine XS.istore X0.here hx rfl (hb hby at_73) rfl (l' := #[.val (.int i0), .val (.int (0 : Int32)), .val (.int (1 : Int32)), .val (.int (1 : Int32)), .val (.int (1 : Int32)), .val (.int (0 : Int32)), .val (.int (0 : Int32)), .unset, .unset, .unset, .unset, .unset, .unset, .unset, .unset, .unset, .unset, .unset, .unset, .unset, .unset]) rfl ?_
  show Steps p.tables e below (T0.setTop (mkF m 75 #[.val (.int i0), .val (.int (0 : Int32)), .val (.int (1 : Int32)), .val (.int (1 : Int32)), .val (.int (1 : Int32)), .val (.int (0 : Int32)), .val (.int (0 : Int32)), .unset, .unset, .unset, .unset, .unset, .unset, .unset, .unset, .unset, .unset, .unset, .unset, .unset, .unset] [])) _
  refine XS.iload X0.here hx rfl (hb hby at_75) rfl ?_
  show Steps p.tables e below (T0.setTop (mkF m 77 #[.val (.int i0), .val (.int (0 : Int32)), .val (.int (1 : Int32)), .val (.int (1 : Int32)), .val (.int (1 : Int32)), .val (.int (0 : Int32)), .val (.int (0 : Int32)), .unset, .unset, .unset, .unset, .unset, .unset, .unset, .unset, .unset, .unset, .unset, .unset, .unset, .unset] [(.int (0 : Int32))])) _
  refine XS.iconst X0.here hx rfl (hb hby at_77) ?_
  show Steps p.tables e below (T0.setTop (mkF m 78 #[.val (.int i0), .val (.int (0 : Int32)), .val (.int (1 : Int32)), .val (.int (1 : Int32)), .val (.int (1 : Int32)), .val (.int (0 : Int32)), .val (.int (0 : Int32)), .unset, .unset, .unset, .unset, .unset, .unset, .unset, .unset, .unset, .unset, .unset, .unset, .unset, .unset] [(.int (2 : Int32)), (.int (0 : Int32))])) _
  refine XS.icmpYes X0.here hx rfl (pc0 := 78) (pc' := 85) rfl (hb hby at_78) rfl (tlt (by decide)).1 (by decide) (by decide) ?_
  show Steps p.tables e below (T0.setTop (mkF m 85 #[.val (.int i0), .val (.int (0 : Int32)), .val (.int (1 : Int32)), .val (.int (1 : Int32)), .val (.int (1 : Int32)), .val (.int (0 : Int32)), .val (.int (0 : Int32)), .unset, .unset, .unset, .unset, .unset, .unset, .unset, .unset, .unset, .unset, .unset, .unset, .unset, .unset] [])) _
  refine XS.iconst X0.here hx rfl (hb hby at_85) ?_
  show Steps p.tables e below (T0.setTop (mkF m 86 #[.val (.int i0), .val (.int (0 : Int32)), .val (.int (1 : Int32)), .val (.int (1 : Int32)), .val (.int (1 : Int32)), .val (.int (0 : Int32)), .val (.int (0 : Int32)), .unset, .unset, .unset, .unset, .unset, .unset, .unset, .unset, .unset, .unset, .unset, .unset, .unset, .unset] [(.int (0 : Int32))])) _
  refine XS.istore X0.here hx rfl (hb hby at_86) rfl (l' := #[.val (.int i0), .val (.int (0 : Int32)), .val (.int (1 : Int32)), .val (.int (1 : Int32)), .val (.int (1 : Int32)), .val (.int (0 : Int32)), .val (.int (0 : Int32)), .val (.int (0 : Int32)), .unset, .unset, .unset, .unset, .unset, .unset, .unset, .unset, .unset, .unset, .unset, .unset, .unset]) rfl ?_
  show Steps p.tables e below (T0.setTop (mkF m 88 #[.val (.int i0), .val (.int (0 : Int32)), .val (.int (1 : Int32)), .val (.int (1 : Int32)), .val (.int (1 : Int32)), .val (.int (0 : Int32)), .val (.int (0 : Int32)), .val (.int (0 : Int32)), .unset, .unset, .unset, .unset, .unset, .unset, .unset, .unset, .unset, .unset, .unset, .unset, .unset] [])) _
  refine XS.iload X0.here hx rfl (hb hby at_88) rfl ?_
  show Steps p.tables e below (T0.setTop (mkF m 90 #[.val (.int i0), .val (.int (0 : Int32)), .val (.int (1 : Int32)), .val (.int (1 : Int32)), .val (.int (1 : Int32)), .val (.int (0 : Int32)), .val (.int (0 : Int32)), .val (.int (0 : Int32)), .unset, .unset, .unset, .unset, .unset, .unset, .unset, .unset, .unset, .unset, .unset, .unset, .unset] [(.int (0 : Int32))])) _
  refine XS.iconst X0.here hx rfl (hb hby at_90) ?_
  show Steps p.tables e below (T0.setTop (mkF m 91 #[.val (.int i0), .val (.int (0 : Int32)), .val (.int (1 : Int32)), .val (.int (1 : Int32)), .val (.int (1 : Int32)), .val (.int (0 : Int32)), .val (.int (0 : Int32)), .val (.int (0 : Int32)), .unset, .unset, .unset, .unset, .unset, .unset, .unset, .unset, .unset, .unset, .unset, .unset, .unset] [(.int (2 : Int32)), (.int (0 : Int32))])) _
  refine XS.icmpYes X0.here hx rfl (pc0 := 91) (pc' := 98) rfl (hb hby at_91) rfl (tlt (by decide)).1 (by decide) (by decide) ?_
  show Steps p.tables e below (T0.setTop (mkF m 98 #[.val (.int i0), .val (.int (0 : Int32)), .val (.int (1 : Int32)), .val (.int (1 : Int32)), .val (.int (1 : Int32)), .val (.int (0 : Int32)), .val (.int (0 : Int32)), .val (.int (0 : Int32)), .unset, .unset, .unset, .unset, .unset, .unset, .unset, .unset, .unset, .unset, .unset, .unset, .unset] [])) _
  refine XS.iconst X0.here hx rfl (hb hby at_98) ?_
  show Steps p.tables e below (T0.setTop (mkF m 99 #[.val (.int i0), .val (.int (0 : Int32)), .val (.int (1 : Int32)), .val (.int (1 : Int32)), .val (.int (1 : Int32)), .val (.int (0 : Int32)), .val (.int (0 : Int32)), .val (.int (0 : Int32)), .unset, .unset, .unset, .unset, .unset, .unset, .unset, .unset, .unset, .unset, .unset, .unset, .unset] [(.int (0 : Int32))])) _
  refine XS.istore X0.here hx rfl (hb hby at_99) rfl (l' := #[.val (.int i0), .val (.int (0 : Int32)), .val (.int (1 : Int32)), .val (.int (1 : Int32)), .val (.int (1 : Int32)), .val (.int (0 : Int32)), .val (.int (0 : Int32)), .val (.int (0 : Int32)), .val (.int (0 : Int32)), .unset, .unset, .unset, .unset, .unset, .unset, .unset, .unset, .unset, .unset, .unset, .unset]) rfl ?_
  show Steps p.tables e below (T0.setTop (mkF m 101 #[.val (.int i0), .val (.int (0 : Int32)), .val (.int (1 : Int32)), .val (.int (1 : Int32)), .val (.int (1 : Int32)), .val (.int (0 : Int32)), .val (.int (0 : Int32)), .val (.int (0 : Int32)), .val (.int (0 : Int32)), .unset, .unset, .unset, .unset, .unset, .unset, .unset, .unset, .unset, .unset, .unset, .unset] [])) _
  refine XS.iload X0.here hx rfl (hb hby at_101) rfl ?_
  show Steps p.tables e below (T0.setTop (mkF m 103 #[.val (.int i0), .val (.int (0 : Int32)), .val (.int (1 : Int32)), .val (.int (1 : Int32)), .val (.int (1 : Int32)), .val (.int (0 : Int32)), .val (.int (0 : Int32)), .val (.int (0 : Int32)), .val (.int (0 : Int32)), .unset, .unset, .unset, .unset, .unset, .unset, .unset, .unset, .unset, .unset, .unset, .unset] [(.int (0 : Int32))])) _
  refine XS.ifYes X0.here hx rfl (pc0 := 103) (pc' := 110) rfl (hb hby at_103) rfl ((if0 _ _).trans (teq (by decide)).1) (by decide) (by decide) ?_
  show Steps p.tables e below (T0.setTop (mkF m 110 #[.val (.int i0), .val (.int (0 : Int32)), .val (.int (1 : Int32)), .val (.int (1 : Int32)), .val (.int (1 : Int32)), .val (.int (0 : Int32)), .val (.int (0 : Int32)), .val (.int (0 : Int32)), .val (.int (0 : Int32)), .unset, .unset, .unset, .unset, .unset, .unset, .unset, .unset, .unset, .unset, .unset, .unset] [])) _
  refine XS.iconst X0.here hx rfl (hb hby at_110) ?_
  show Steps p.tables e below (T0.setTop (mkF m 111 #[.val (.int i0), .val (.int (0 : Int32)), .val (.int (1 : Int32)), .val (.int (1 : Int32)), .val (.int (1 : Int32)), .val (.int (0 : Int32)), .val (.int (0 : Int32)), .val (.int (0 : Int32)), .val (.int (0 : Int32)), .unset, .unset, .unset, .unset, .unset, .unset, .unset, .unset, .unset, .unset, .unset, .unset] [(.int (0 : Int32))])) _
  refine XS.istore X0.here hx rfl (hb hby at_111) rfl (l' := #[.val (.int i0), .val (.int (0 : Int32)), .val (.int (1 : Int32)), .val (.int (1 : Int32)), .val (.int (1 : Int32)), .val (.int (0 : Int32)), .val (.int (0 : Int32)), .val (.int (0 : Int32)), .val (.int (0 : Int32)), .val (.int (0 : Int32)), .unset, .unset, .unset, .unset, .unset, .unset, .unset, .unset, .unset, .unset, .unset]) rfl ?_
  exact kt
set_option maxRecDepth 65536 in
set_option maxHeartbeats 40000000 in
theorem tnA7 {p : Program} {l : Launch} {e : Env} {R : Room} {s : State} {m : MethodId} {args : Array Value} {below : List Frame} {meth : Method} {c : Code} {T0 : State} {locs : List Loc} {cells slots : Nat} (i0 : Int32) (X0 : Stand p l e R s m args below meth c T0 locs cells slots) (hx : p.tables.exec = Jvm.exec) (hby : c.code = code) (h1 : ¬ (i0 &&& (1 : Int32)) = (0 : Int32)) (h2 : ¬ (i0 &&& (2 : Int32)) = (0 : Int32)) (h4 : ¬ (i0 &&& (4 : Int32)) = (0 : Int32)) (target : State)
    (kt : Steps p.tables e below (T0.setTop (mkF m 113 #[.val (.int i0), .val (.int (1 : Int32)), .val (.int (1 : Int32)), .val (.int (1 : Int32)), .val (.int (0 : Int32)), .val (.int (0 : Int32)), .val (.int (0 : Int32)), .val (.int (0 : Int32)), .val (.int (0 : Int32)), .val (.int (0 : Int32)), .unset, .unset, .unset, .unset, .unset, .unset, .unset, .unset, .unset, .unset, .unset] [])) target) : Steps p.tables e below (T0.setTop (mkF m 0 #[.val (.int i0), .unset, .unset, .unset, .unset, .unset, .unset, .unset, .unset, .unset, .unset, .unset, .unset, .unset, .unset, .unset, .unset, .unset, .unset, .unset, .unset] [])) target := by
  show Steps p.tables e below (T0.setTop (mkF m 0 #[.val (.int i0), .unset, .unset, .unset, .unset, .unset, .unset, .unset, .unset, .unset, .unset, .unset, .unset, .unset, .unset, .unset, .unset, .unset, .unset, .unset, .unset] [])) _
  refine XS.iloadN X0.here hx rfl (hb hby at_0) rfl ?_
  show Steps p.tables e below (T0.setTop (mkF m 1 #[.val (.int i0), .unset, .unset, .unset, .unset, .unset, .unset, .unset, .unset, .unset, .unset, .unset, .unset, .unset, .unset, .unset, .unset, .unset, .unset, .unset, .unset] [(.int i0)])) _
  refine XS.iconst X0.here hx rfl (hb hby at_1) ?_
  show Steps p.tables e below (T0.setTop (mkF m 2 #[.val (.int i0), .unset, .unset, .unset, .unset, .unset, .unset, .unset, .unset, .unset, .unset, .unset, .unset, .unset, .unset, .unset, .unset, .unset, .unset, .unset, .unset] [(.int (1 : Int32)), (.int i0)])) _
  refine XS.iand X0.here hx rfl (hb hby at_2) rfl ?_
  show Steps p.tables e below (T0.setTop (mkF m 3 #[.val (.int i0), .unset, .unset, .unset, .unset, .unset, .unset, .unset, .unset, .unset, .unset, .unset, .unset, .unset, .unset, .unset, .unset, .unset, .unset, .unset, .unset] [(.int (i0 &&& (1 : Int32)))])) _
  refine XS.ifNo X0.here hx rfl (hb hby at_3) rfl ((if0 _ _).trans (feq h1).1) ?_
  show Steps p.tables e below (T0.setTop (mkF m 6 #[.val (.int i0), .unset, .unset, .unset, .unset, .unset, .unset, .unset, .unset, .unset, .unset, .unset, .unset, .unset, .unset, .unset, .unset, .unset, .unset, .unset, .unset] [])) _
  refine XS.iconst X0.here hx rfl (hb hby at_6) ?_
  show Steps p.tables e below (T0.setTop (mkF m 7 #[.val (.int i0), .unset, .unset, .unset, .unset, .unset, .unset, .unset, .unset, .unset, .unset, .unset, .unset, .unset, .unset, .unset, .unset, .unset, .unset, .unset, .unset] [(.int (1 : Int32))])) _
  refine XS.goto X0.here hx rfl (pc0 := 7) (pc' := 11) rfl (hb hby at_7) (by decide) (by decide) ?_
  show Steps p.tables e below (T0.setTop (mkF m 11 #[.val (.int i0), .unset, .unset, .unset, .unset, .unset, .unset, .unset, .unset, .unset, .unset, .unset, .unset, .unset, .unset, .unset, .unset, .unset, .unset, .unset, .unset] [(.int (1 : Int32))])) _
  refine XS.istoreN X0.here hx rfl (hb hby at_11) rfl (l' := #[.val (.int i0), .val (.int (1 : Int32)), .unset, .unset, .unset, .unset, .unset, .unset, .unset, .unset, .unset, .unset, .unset, .unset, .unset, .unset, .unset, .unset, .unset, .unset, .unset]) rfl ?_
  show Steps p.tables e below (T0.setTop (mkF m 12 #[.val (.int i0), .val (.int (1 : Int32)), .unset, .unset, .unset, .unset, .unset, .unset, .unset, .unset, .unset, .unset, .unset, .unset, .unset, .unset, .unset, .unset, .unset, .unset, .unset] [])) _
  refine XS.iloadN X0.here hx rfl (hb hby at_12) rfl ?_
  show Steps p.tables e below (T0.setTop (mkF m 13 #[.val (.int i0), .val (.int (1 : Int32)), .unset, .unset, .unset, .unset, .unset, .unset, .unset, .unset, .unset, .unset, .unset, .unset, .unset, .unset, .unset, .unset, .unset, .unset, .unset] [(.int i0)])) _
  refine XS.iconst X0.here hx rfl (hb hby at_13) ?_
  show Steps p.tables e below (T0.setTop (mkF m 14 #[.val (.int i0), .val (.int (1 : Int32)), .unset, .unset, .unset, .unset, .unset, .unset, .unset, .unset, .unset, .unset, .unset, .unset, .unset, .unset, .unset, .unset, .unset, .unset, .unset] [(.int (2 : Int32)), (.int i0)])) _
  refine XS.iand X0.here hx rfl (hb hby at_14) rfl ?_
  show Steps p.tables e below (T0.setTop (mkF m 15 #[.val (.int i0), .val (.int (1 : Int32)), .unset, .unset, .unset, .unset, .unset, .unset, .unset, .unset, .unset, .unset, .unset, .unset, .unset, .unset, .unset, .unset, .unset, .unset, .unset] [(.int (i0 &&& (2 : Int32)))])) _
  refine XS.ifNo X0.here hx rfl (hb hby at_15) rfl ((if0 _ _).trans (feq h2).1) ?_
  show Steps p.tables e below (T0.setTop (mkF m 18 #[.val (.int i0), .val (.int (1 : Int32)), .unset, .unset, .unset, .unset, .unset, .unset, .unset, .unset, .unset, .unset, .unset, .unset, .unset, .unset, .unset, .unset, .unset, .unset, .unset] [])) _
  refine XS.iconst X0.here hx rfl (hb hby at_18) ?_
  show Steps p.tables e below (T0.setTop (mkF m 19 #[.val (.int i0), .val (.int (1 : Int32)), .unset, .unset, .unset, .unset, .unset, .unset, .unset, .unset, .unset, .unset, .unset, .unset, .unset, .unset, .unset, .unset, .unset, .unset, .unset] [(.int (1 : Int32))])) _
  refine XS.goto X0.here hx rfl (pc0 := 19) (pc' := 23) rfl (hb hby at_19) (by decide) (by decide) ?_
  show Steps p.tables e below (T0.setTop (mkF m 23 #[.val (.int i0), .val (.int (1 : Int32)), .unset, .unset, .unset, .unset, .unset, .unset, .unset, .unset, .unset, .unset, .unset, .unset, .unset, .unset, .unset, .unset, .unset, .unset, .unset] [(.int (1 : Int32))])) _
  refine XS.istoreN X0.here hx rfl (hb hby at_23) rfl (l' := #[.val (.int i0), .val (.int (1 : Int32)), .val (.int (1 : Int32)), .unset, .unset, .unset, .unset, .unset, .unset, .unset, .unset, .unset, .unset, .unset, .unset, .unset, .unset, .unset, .unset, .unset, .unset]) rfl ?_
  show Steps p.tables e below (T0.setTop (mkF m 24 #[.val (.int i0), .val (.int (1 : Int32)), .val (.int (1 : Int32)), .unset, .unset, .unset, .unset, .unset, .unset, .unset, .unset, .unset, .unset, .unset, .unset, .unset, .unset, .unset, .unset, .unset, .unset] [])) _
  refine XS.iloadN X0.here hx rfl (hb hby at_24) rfl ?_
  show Steps p.tables e below (T0.setTop (mkF m 25 #[.val (.int i0), .val (.int (1 : Int32)), .val (.int (1 : Int32)), .unset, .unset, .unset, .unset, .unset, .unset, .unset, .unset, .unset, .unset, .unset, .unset, .unset, .unset, .unset, .unset, .unset, .unset] [(.int i0)])) _
  refine XS.iconst X0.here hx rfl (hb hby at_25) ?_
  show Steps p.tables e below (T0.setTop (mkF m 26 #[.val (.int i0), .val (.int (1 : Int32)), .val (.int (1 : Int32)), .unset, .unset, .unset, .unset, .unset, .unset, .unset, .unset, .unset, .unset, .unset, .unset, .unset, .unset, .unset, .unset, .unset, .unset] [(.int (4 : Int32)), (.int i0)])) _
  refine XS.iand X0.here hx rfl (hb hby at_26) rfl ?_
  show Steps p.tables e below (T0.setTop (mkF m 27 #[.val (.int i0), .val (.int (1 : Int32)), .val (.int (1 : Int32)), .unset, .unset, .unset, .unset, .unset, .unset, .unset, .unset, .unset, .unset, .unset, .unset, .unset, .unset, .unset, .unset, .unset, .unset] [(.int (i0 &&& (4 : Int32)))])) _
  refine XS.ifNo X0.here hx rfl (hb hby at_27) rfl ((if0 _ _).trans (feq h4).1) ?_
  show Steps p.tables e below (T0.setTop (mkF m 30 #[.val (.int i0), .val (.int (1 : Int32)), .val (.int (1 : Int32)), .unset, .unset, .unset, .unset, .unset, .unset, .unset, .unset, .unset, .unset, .unset, .unset, .unset, .unset, .unset, .unset, .unset, .unset] [])) _
  refine XS.iconst X0.here hx rfl (hb hby at_30) ?_
  show Steps p.tables e below (T0.setTop (mkF m 31 #[.val (.int i0), .val (.int (1 : Int32)), .val (.int (1 : Int32)), .unset, .unset, .unset, .unset, .unset, .unset, .unset, .unset, .unset, .unset, .unset, .unset, .unset, .unset, .unset, .unset, .unset, .unset] [(.int (1 : Int32))])) _
  refine XS.goto X0.here hx rfl (pc0 := 31) (pc' := 35) rfl (hb hby at_31) (by decide) (by decide) ?_
  show Steps p.tables e below (T0.setTop (mkF m 35 #[.val (.int i0), .val (.int (1 : Int32)), .val (.int (1 : Int32)), .unset, .unset, .unset, .unset, .unset, .unset, .unset, .unset, .unset, .unset, .unset, .unset, .unset, .unset, .unset, .unset, .unset, .unset] [(.int (1 : Int32))])) _
  refine XS.istoreN X0.here hx rfl (hb hby at_35) rfl (l' := #[.val (.int i0), .val (.int (1 : Int32)), .val (.int (1 : Int32)), .val (.int (1 : Int32)), .unset, .unset, .unset, .unset, .unset, .unset, .unset, .unset, .unset, .unset, .unset, .unset, .unset, .unset, .unset, .unset, .unset]) rfl ?_
  show Steps p.tables e below (T0.setTop (mkF m 36 #[.val (.int i0), .val (.int (1 : Int32)), .val (.int (1 : Int32)), .val (.int (1 : Int32)), .unset, .unset, .unset, .unset, .unset, .unset, .unset, .unset, .unset, .unset, .unset, .unset, .unset, .unset, .unset, .unset, .unset] [])) _
  refine XS.iloadN X0.here hx rfl (hb hby at_36) rfl ?_
  show Steps p.tables e below (T0.setTop (mkF m 37 #[.val (.int i0), .val (.int (1 : Int32)), .val (.int (1 : Int32)), .val (.int (1 : Int32)), .unset, .unset, .unset, .unset, .unset, .unset, .unset, .unset, .unset, .unset, .unset, .unset, .unset, .unset, .unset, .unset, .unset] [(.int (1 : Int32))])) _
  refine XS.ifNo X0.here hx rfl (hb hby at_37) rfl ((if0 _ _).trans (feq (by decide)).1) ?_
  show Steps p.tables e below (T0.setTop (mkF m 40 #[.val (.int i0), .val (.int (1 : Int32)), .val (.int (1 : Int32)), .val (.int (1 : Int32)), .unset, .unset, .unset, .unset, .unset, .unset, .unset, .unset, .unset, .unset, .unset, .unset, .unset, .unset, .unset, .unset, .unset] [])) _
  refine XS.iconst X0.here hx rfl (hb hby at_40) ?_
  show Steps p.tables e below (T0.setTop (mkF m 41 #[.val (.int i0), .val (.int (1 : Int32)), .val (.int (1 : Int32)), .val (.int (1 : Int32)), .unset, .unset, .unset, .unset, .unset, .unset, .unset, .unset, .unset, .unset, .unset, .unset, .unset, .unset, .unset, .unset, .unset] [(.int (0 : Int32))])) _
  refine XS.goto X0.here hx rfl (pc0 := 41) (pc' := 45) rfl (hb hby at_41) (by decide) (by decide) ?_
  show Steps p.tables e below (T0.setTop (mkF m 45 #[.val (.int i0), .val (.int (1 : Int32)), .val (.int (1 : Int32)), .val (.int (1 : Int32)), .unset, .unset, .unset, .unset, .unset, .unset, .unset, .unset, .unset, .unset, .unset, .unset, .unset, .unset, .unset, .unset, .unset] [(.int (0 : Int32))])) _
  refine XS.istore X0.here hx rfl (hb hby at_45) rfl (l' := #[.val (.int i0), .val (.int (1 : Int32)), .val (.int (1 : Int32)), .val (.int (1 : Int32)), .val (.int (0 : Int32)), .unset, .unset, .unset, .unset, .unset, .unset, .unset, .unset, .unset, .unset, .unset, .unset, .unset, .unset, .unset, .unset]) rfl ?_
  show Steps p.tables e below (T0.setTop (mkF m 47 #[.val (.int i0), .val (.int (1 : Int32)), .val (.int (1 : Int32)), .val (.int (1 : Int32)), .val (.int (0 : Int32)), .unset, .unset, .unset, .unset, .unset, .unset, .unset, .unset, .unset, .unset, .unset, .unset, .unset, .unset, .unset, .unset] [])) _
  refine XS.iloadN X0.here hx rfl (hb hby at_47) rfl ?_
  show Steps p.tables e below (T0.setTop (mkF m 48 #[.val (.int i0), .val (.int (1 : Int32)), .val (.int (1 : Int32)), .val (.int (1 : Int32)), .val (.int (0 : Int32)), .unset, .unset, .unset, .unset, .unset, .unset, .unset, .unset, .unset, .unset, .unset, .unset, .unset, .unset, .unset, .unset] [(.int (1 : Int32))])) _
  refine XS.ifNo X0.here hx rfl (hb hby at_48) rfl ((if0 _ _).trans (feq (by decide)).1) ?_
  show Steps p.tables e below (T0.setTop (mkF m 51 #[.val (.int i0), .val (.int (1 : Int32)), .val (.int (1 : Int32)), .val (.int (1 : Int32)), .val (.int (0 : Int32)), .unset, .unset, .unset, .unset, .unset, .unset, .unset, .unset, .unset, .unset, .unset, .unset, .unset, .unset, .unset, .unset] [])) _
  refine XS.iconst X0.here hx rfl (hb hby at_51) ?_
  show Steps p.tables e below (T0.setTop (mkF m 52 #[.val (.int i0), .val (.int (1 : Int32)), .val (.int (1 : Int32)), .val (.int (1 : Int32)), .val (.int (0 : Int32)), .unset, .unset, .unset, .unset, .unset, .unset, .unset, .unset, .unset, .unset, .unset, .unset, .unset, .unset, .unset, .unset] [(.int (0 : Int32))])) _
  refine XS.goto X0.here hx rfl (pc0 := 52) (pc' := 59) rfl (hb hby at_52) (by decide) (by decide) ?_
  show Steps p.tables e below (T0.setTop (mkF m 59 #[.val (.int i0), .val (.int (1 : Int32)), .val (.int (1 : Int32)), .val (.int (1 : Int32)), .val (.int (0 : Int32)), .unset, .unset, .unset, .unset, .unset, .unset, .unset, .unset, .unset, .unset, .unset, .unset, .unset, .unset, .unset, .unset] [(.int (0 : Int32))])) _
  refine XS.istore X0.here hx rfl (hb hby at_59) rfl (l' := #[.val (.int i0), .val (.int (1 : Int32)), .val (.int (1 : Int32)), .val (.int (1 : Int32)), .val (.int (0 : Int32)), .val (.int (0 : Int32)), .unset, .unset, .unset, .unset, .unset, .unset, .unset, .unset, .unset, .unset, .unset, .unset, .unset, .unset, .unset]) rfl ?_
  show Steps p.tables e below (T0.setTop (mkF m 61 #[.val (.int i0), .val (.int (1 : Int32)), .val (.int (1 : Int32)), .val (.int (1 : Int32)), .val (.int (0 : Int32)), .val (.int (0 : Int32)), .unset, .unset, .unset, .unset, .unset, .unset, .unset, .unset, .unset, .unset, .unset, .unset, .unset, .unset, .unset] [])) _
  refine XS.iloadN X0.here hx rfl (hb hby at_61) rfl ?_
  show Steps p.tables e below (T0.setTop (mkF m 62 #[.val (.int i0), .val (.int (1 : Int32)), .val (.int (1 : Int32)), .val (.int (1 : Int32)), .val (.int (0 : Int32)), .val (.int (0 : Int32)), .unset, .unset, .unset, .unset, .unset, .unset, .unset, .unset, .unset, .unset, .unset, .unset, .unset, .unset, .unset] [(.int (1 : Int32))])) _
  refine XS.ifNo X0.here hx rfl (hb hby at_62) rfl ((if0 _ _).trans (feq (by decide)).1) ?_
  show Steps p.tables e below (T0.setTop (mkF m 65 #[.val (.int i0), .val (.int (1 : Int32)), .val (.int (1 : Int32)), .val (.int (1 : Int32)), .val (.int (0 : Int32)), .val (.int (0 : Int32)), .unset, .unset, .unset, .unset, .unset, .unset, .unset, .unset, .unset, .unset, .unset, .unset, .unset, .unset, .unset] [])) _
  refine XS.iconst X0.here hx rfl (hb hby at_65) ?_
  show Steps p.tables e below (T0.setTop (mkF m 66 #[.val (.int i0), .val (.int (1 : Int32)), .val (.int (1 : Int32)), .val (.int (1 : Int32)), .val (.int (0 : Int32)), .val (.int (0 : Int32)), .unset, .unset, .unset, .unset, .unset, .unset, .unset, .unset, .unset, .unset, .unset, .unset, .unset, .unset, .unset] [(.int (0 : Int32))])) _
  refine XS.goto X0.here hx rfl (pc0 := 66) (pc' := 73) rfl (hb hby at_66) (by decide) (by decide) ?_
  show Steps p.tables e below (T0.setTop (mkF m 73 #[.val (.int i0), .val (.int (1 : Int32)), .val (.int (1 : Int32)), .val (.int (1 : Int32)), .val (.int (0 : Int32)), .val (.int (0 : Int32)), .unset, .unset, .unset, .unset, .unset, .unset, .unset, .unset, .unset, .unset, .unset, .unset, .unset, .unset, .unset] [(.int (0 : Int32))])) _
  refine XS.istore X0.here hx rfl (hb hby at_73) rfl (l' := #[.val (.int i0), .val (.int (1 : Int32)), .val (.int (1 : Int32)), .val (.int (1 : Int32)), .val (.int (0 : Int32)), .val (.int (0 : Int32)), .val (.int (0 : Int32)), .unset, .unset, .unset, .unset, .unset, .unset, .unset, .unset, .unset, .unset, .unset, .unset, .unset, .unset]) rfl ?_
  show Steps p.tables e below (T0.setTop (mkF m 75 #[.val (.int i0), .val (.int (1 : Int32)), .val (.int (1 : Int32)), .val (.int (1 : Int32)), .val (.int (0 : Int32)), .val (.int (0 : Int32)), .val (.int (0 : Int32)), .unset, .unset, .unset, .unset, .unset, .unset, .unset, .unset, .unset, .unset, .unset, .unset, .unset, .unset] [])) _
  refine XS.iload X0.here hx rfl (hb hby at_75) rfl ?_
  show Steps p.tables e below (T0.setTop (mkF m 77 #[.val (.int i0), .val (.int (1 : Int32)), .val (.int (1 : Int32)), .val (.int (1 : Int32)), .val (.int (0 : Int32)), .val (.int (0 : Int32)), .val (.int (0 : Int32)), .unset, .unset, .unset, .unset, .unset, .unset, .unset, .unset, .unset, .unset, .unset, .unset, .unset, .unset] [(.int (0 : Int32))])) _
  refine XS.iconst X0.here hx rfl (hb hby at_77) ?_
  show Steps p.tables e below (T0.setTop (mkF m 78 #[.val (.int i0), .val (.int (1 : Int32)), .val (.int (1 : Int32)), .val (.int (1 : Int32)), .val (.int (0 : Int32)), .val (.int (0 : Int32)), .val (.int (0 : Int32)), .unset, .unset, .unset, .unset, .unset, .unset, .unset, .unset, .unset, .unset, .unset, .unset, .unset, .unset] [(.int (2 : Int32)), (.int (0 : Int32))])) _
  refine XS.icmpYes X0.here hx rfl (pc0 := 78) (pc' := 85) rfl (hb hby at_78) rfl (tlt (by decide)).1 (by decide) (by decide) ?_
  show Steps p.tables e below (T0.setTop (mkF m 85 #[.val (.int i0), .val (.int (1 : Int32)), .val (.int (1 : Int32)), .val (.int (1 : Int32)), .val (.int (0 : Int32)), .val (.int (0 : Int32)), .val (.int (0 : Int32)), .unset, .unset, .unset, .unset, .unset, .unset, .unset, .unset, .unset, .unset, .unset, .unset, .unset, .unset] [])) _
  refine XS.iconst X0.here hx rfl (hb hby at_85) ?_
  show Steps p.tables e below (T0.setTop (mkF m 86 #[.val (.int i0), .val (.int (1 : Int32)), .val (.int (1 : Int32)), .val (.int (1 : Int32)), .val (.int (0 : Int32)), .val (.int (0 : Int32)), .val (.int (0 : Int32)), .unset, .unset, .unset, .unset, .unset, .unset, .unset, .unset, .unset, .unset, .unset, .unset, .unset, .unset] [(.int (0 : Int32))])) _
  refine XS.istore X0.here hx rfl (hb hby at_86) rfl (l' := #[.val (.int i0), .val (.int (1 : Int32)), .val (.int (1 : Int32)), .val (.int (1 : Int32)), .val (.int (0 : Int32)), .val (.int (0 : Int32)), .val (.int (0 : Int32)), .val (.int (0 : Int32)), .unset, .unset, .unset, .unset, .unset, .unset, .unset, .unset, .unset, .unset, .unset, .unset, .unset]) rfl ?_
  show Steps p.tables e below (T0.setTop (mkF m 88 #[.val (.int i0), .val (.int (1 : Int32)), .val (.int (1 : Int32)), .val (.int (1 : Int32)), .val (.int (0 : Int32)), .val (.int (0 : Int32)), .val (.int (0 : Int32)), .val (.int (0 : Int32)), .unset, .unset, .unset, .unset, .unset, .unset, .unset, .unset, .unset, .unset, .unset, .unset, .unset] [])) _
  refine XS.iload X0.here hx rfl (hb hby at_88) rfl ?_
  show Steps p.tables e below (T0.setTop (mkF m 90 #[.val (.int i0), .val (.int (1 : Int32)), .val (.int (1 : Int32)), .val (.int (1 : Int32)), .val (.int (0 : Int32)), .val (.int (0 : Int32)), .val (.int (0 : Int32)), .val (.int (0 : Int32)), .unset, .unset, .unset, .unset, .unset, .unset, .unset, .unset, .unset, .unset, .unset, .unset, .unset] [(.int (0 : Int32))])) _
  refine XS.iconst X0.here hx rfl (hb hby at_90) ?_
  show Steps p.tables e below (T0.setTop (mkF m 91 #[.val (.int i0), .val (.int (1 : Int32)), .val (.int (1 : Int32)), .val (.int (1 : Int32)), .val (.int (0 : Int32)), .val (.int (0 : Int32)), .val (.int (0 : Int32)), .val (.int (0 : Int32)), .unset, .unset, .unset, .unset, .unset, .unset, .unset, .unset, .unset, .unset, .unset, .unset, .unset] [(.int (2 : Int32)), (.int (0 : Int32))])) _
  refine XS.icmpYes X0.here hx rfl (pc0 := 91) (pc' := 98) rfl (hb hby at_91) rfl (tlt (by decide)).1 (by decide) (by decide) ?_
  show Steps p.tables e below (T0.setTop (mkF m 98 #[.val (.int i0), .val (.int (1 : Int32)), .val (.int (1 : Int32)), .val (.int (1 : Int32)), .val (.int (0 : Int32)), .val (.int (0 : Int32)), .val (.int (0 : Int32)), .val (.int (0 : Int32)), .unset, .unset, .unset, .unset, .unset, .unset, .unset, .unset, .unset, .unset, .unset, .unset, .unset] [])) _
  refine XS.iconst X0.here hx rfl (hb hby at_98) ?_
  show Steps p.tables e below (T0.setTop (mkF m 99 #[.val (.int i0), .val (.int (1 : Int32)), .val (.int (1 : Int32)), .val (.int (1 : Int32)), .val (.int (0 : Int32)), .val (.int (0 : Int32)), .val (.int (0 : Int32)), .val (.int (0 : Int32)), .unset, .unset, .unset, .unset, .unset, .unset, .unset, .unset, .unset, .unset, .unset, .unset, .unset] [(.int (0 : Int32))])) _
  refine XS.istore X0.here hx rfl (hb hby at_99) rfl (l' := #[.val (.int i0), .val (.int (1 : Int32)), .val (.int (1 : Int32)), .val (.int (1 : Int32)), .val (.int (0 : Int32)), .val (.int (0 : Int32)), .val (.int (0 : Int32)), .val (.int (0 : Int32)), .val (.int (0 : Int32)), .unset, .unset, .unset, .unset, .unset, .unset, .unset, .unset, .unset, .unset, .unset, .unset]) rfl ?_
  show Steps p.tables e below (T0.setTop (mkF m 101 #[.val (.int i0), .val (.int (1 : Int32)), .val (.int (1 : Int32)), .val (.int (1 : Int32)), .val (.int (0 : Int32)), .val (.int (0 : Int32)), .val (.int (0 : Int32)), .val (.int (0 : Int32)), .val (.int (0 : Int32)), .unset, .unset, .unset, .unset, .unset, .unset, .unset, .unset, .unset, .unset, .unset, .unset] [])) _
  refine XS.iload X0.here hx rfl (hb hby at_101) rfl ?_
  show Steps p.tables e below (T0.setTop (mkF m 103 #[.val (.int i0), .val (.int (1 : Int32)), .val (.int (1 : Int32)), .val (.int (1 : Int32)), .val (.int (0 : Int32)), .val (.int (0 : Int32)), .val (.int (0 : Int32)), .val (.int (0 : Int32)), .val (.int (0 : Int32)), .unset, .unset, .unset, .unset, .unset, .unset, .unset, .unset, .unset, .unset, .unset, .unset] [(.int (0 : Int32))])) _
  refine XS.ifYes X0.here hx rfl (pc0 := 103) (pc' := 110) rfl (hb hby at_103) rfl ((if0 _ _).trans (teq (by decide)).1) (by decide) (by decide) ?_
  show Steps p.tables e below (T0.setTop (mkF m 110 #[.val (.int i0), .val (.int (1 : Int32)), .val (.int (1 : Int32)), .val (.int (1 : Int32)), .val (.int (0 : Int32)), .val (.int (0 : Int32)), .val (.int (0 : Int32)), .val (.int (0 : Int32)), .val (.int (0 : Int32)), .unset, .unset, .unset, .unset, .unset, .unset, .unset, .unset, .unset, .unset, .unset, .unset] [])) _
  refine XS.iconst X0.here hx rfl (hb hby at_110) ?_
  show Steps p.tables e below (T0.setTop (mkF m 111 #[.val (.int i0), .val (.int (1 : Int32)), .val (.int (1 : Int32)), .val (.int (1 : Int32)), .val (.int (0 : Int32)), .val (.int (0 : Int32)), .val (.int (0 : Int32)), .val (.int (0 : Int32)), .val (.int (0 : Int32)), .unset, .unset, .unset, .unset, .unset, .unset, .unset, .unset, .unset, .unset, .unset, .unset] [(.int (0 : Int32))])) _
  refine XS.istore X0.here hx rfl (hb hby at_111) rfl (l' := #[.val (.int i0), .val (.int (1 : Int32)), .val (.int (1 : Int32)), .val (.int (1 : Int32)), .val (.int (0 : Int32)), .val (.int (0 : Int32)), .val (.int (0 : Int32)), .val (.int (0 : Int32)), .val (.int (0 : Int32)), .val (.int (0 : Int32)), .unset, .unset, .unset, .unset, .unset, .unset, .unset, .unset, .unset, .unset, .unset]) rfl ?_
  exact kt
set_option maxRecDepth 65536 in
set_option maxHeartbeats 40000000 in
theorem tnB {p : Program} {l : Launch} {e : Env} {s : State} {m : MethodId} {args : Array Value} {below : List Frame} {meth : Method} {c : Code} {T0 : State} {Z : State} {a0 : Array Value} {n0 : Nat} (i0 c1 c2 c3 z4 z5 z6 o1 o2 k0 m1 m2 m3 r1 u1 r2 u2 r3 u3 r4 u4 r5 u5 r6 u6 r7 u7 r8 u8 r9 u9 : Int32) (X0 : Stand p l e room_1 s m args below meth c T0 [] 0 0) (hx : p.tables.exec = Jvm.exec) (hZ : Z.Warmed39 s.vm) (hw : ∀ d ∈ tables_1, d.before a0 Z = true) (hby : c.code = code) (hml : c.maxLocals = 21) (hown : s.vm.findClass "com/example/latchpost/latchpost/IdleWatchPlanPinLaw" = some m.cls) (Z0 : n0 ≤ T0.heap.size) (hm1 : own_w c1 (0 : Int32) = m1) (hm2 : own_w c2 m1 = m2) (hr1 : own_r m2 (0 : Int32) = r1) (hu1 : own_u m2 (0 : Int32) = u1) (hm3 : own_w c3 m2 = m3) (hr2 : own_r m3 u1 = r2) (hu2 : own_u m3 u1 = u2) (hr3 : own_r m3 u2 = r3) (hu3 : own_u m3 u2 = u3) (hr4 : own_r m3 u3 = r4) (hu4 : own_u m3 u3 = u4) (hr5 : own_r m3 u4 = r5) (hu5 : own_u m3 u4 = u5) (hr6 : own_r m3 u5 = r6) (hu6 : own_u m3 u5 = u6) (hr7 : own_r m3 u6 = r7) (hu7 : own_u m3 u6 = u7) (hr8 : own_r m3 u7 = r8) (hu8 : own_u m3 u7 = u8) (hr9 : own_r m3 u8 = r9) (hu9 : own_u m3 u8 = u9) (he1 : own_e o1 (1 : Int32) = r1) (he2 : own_e o2 (k0 + (1 : Int32)) = r2) (he3 : own_e o2 (k0 + (2 : Int32)) = r3) (he4 : own_e o2 (k0 + (3 : Int32)) = r4) (he5 : own_e o2 (k0 + (4 : Int32)) = r5) (he6 : own_e o2 (k0 + (5 : Int32)) = r6) (he7 : own_e o2 (k0 + (6 : Int32)) = r7) (he8 : own_e o2 (k0 + (7 : Int32)) = r8) (he9 : own_e o2 (k0 + (8 : Int32)) = r9) :
    ∃ (T' : State) (locs' : List Loc) (b : Addr), Stand p l e room_1 s m args below meth c T' locs' 1 2 ∧ Fr n0 locs' ∧ ∀ target, Steps p.tables e below (T'.setTop (mkF m 432 #[.val (.int i0), .val (.int c1), .val (.int c2), .val (.int c3), .val (.int z4), .val (.int z5), .val (.int z6), .val (.int o1), .val (.int o2), .val (.int k0), .val (.ref b), .val (.int r1), .val (.int r2), .val (.int r3), .val (.int r4), .val (.int r5), .val (.int r6), .val (.int r7), .val (.int r8), .val (.int r9), .val (.int (1 : Int32))] [])) target → Steps p.tables e below (T0.setTop (mkF m 113 #[.val (.int i0), .val (.int c1), .val (.int c2), .val (.int c3), .val (.int z4), .val (.int z5), .val (.int z6), .val (.int o1), .val (.int o2), .val (.int k0), .unset, .unset, .unset, .unset, .unset, .unset, .unset, .unset, .unset, .unset, .unset] [])) target := by
  obtain ⟨T2, h2, X2, e2, E2, A2, D2, -, st2⟩ := newO X0 hx hZ hown (hw _ (List.mem_of_getElem? (i := 0) rfl)) (hw _ (List.mem_of_getElem? (i := 1) rfl)) (hw _ (List.mem_of_getElem? (i := 2) rfl)) rfl (g := (mkF m 113 #[.val (.int i0), .val (.int c1), .val (.int c2), .val (.int c3), .val (.int z4), .val (.int z5), .val (.int z6), .val (.int o1), .val (.int o2), .val (.int k0), .unset, .unset, .unset, .unset, .unset, .unset, .unset, .unset, .unset, .unset, .unset] [])) rfl (hb hby at_113) (by decide) (by decide)
  obtain ⟨b2, g2⟩ : ∃ z, z = T0.heap.size := ⟨_, rfl⟩
  rw [← g2] at A2 D2 st2
  have F_m : Fld Z h2 b2 "com/example/latchpost/latchpost/IdleWatch" "misses" "I" (.int (0 : Int32)) := D2 (Or.inl (hw _ (List.mem_of_getElem? (i := 15) rfl))) (ty := .int) (by decide)
  have F_u : Fld Z h2 b2 "com/example/latchpost/latchpost/IdleWatch" "untimed" "I" (.int (0 : Int32)) := D2 (Or.inl (hw _ (List.mem_of_getElem? (i := 22) rfl))) (ty := .int) (by decide)
  have g_b : n0 ≤ b2 := Nat.le_trans Z0 (Nat.le_of_eq g2.symm)
  obtain ⟨_, _, ⟨T3, L3, k3, n3⟩, -, X3, ⟨Lc3, hQ3, l3, y3, z3⟩, st3⟩ := X2.specialBack hx (y := (⟨"com/example/latchpost/latchpost/IdleWatch", "<init>", "()V"⟩ : MethodName)) rfl hown (mvT hZ (hw _ (List.mem_of_getElem? (i := 3) rfl))) (mvT hZ (hw _ (List.mem_of_getElem? (i := 4) rfl))) (mvT hZ (hw _ (List.mem_of_getElem? (i := 5) rfl))) (by decide) (backOf (W := 1) (rm1 l Z a0 hw [] b2 h2 n0) hZ (hw _ (List.mem_of_getElem? (i := 5) rfl)) (hw _ (List.mem_of_getElem? (i := 2) rfl)) (by decide) (by decide)) (g := (mkF m 117 #[.val (.int i0), .val (.int c1), .val (.int c2), .val (.int c3), .val (.int z4), .val (.int z5), .val (.int z6), .val (.int o1), .val (.int o2), .val (.int k0), .unset, .unset, .unset, .unset, .unset, .unset, .unset, .unset, .unset, .unset, .unset] [(.ref b2), (.ref b2)])) rfl (by rw [hml]; rfl) (Steps.refl _) (a := b2) (argsL := []) (rest := [(.ref b2)]) (lenOf pd_v rfl) rfl (by show 2 * 0 + _ ≤ _; exact Nat.le_of_eq rfl) (hb hby at_117) (fun _ _ => ⟨rfl, e2, (by decide : 1 + 0 ≤ _), (by decide : 2 + 0 ≤ _)⟩)
  dsimp only [Pt.U, Pt.locs, Pt.cells, Pt.slots] at X3 l3 y3 z3 st3 hQ3
  subst l3 y3 z3
  obtain ⟨rfl, N3q, e3⟩ := hQ3
  have N3 := Fr.app (Fr.nil n0) N3q
  have O3 : Ob Z T3.heap b2 (0 : Int32) (0 : Int32) := by rw [e3]; exact ⟨A2, F_m, F_u⟩
  obtain ⟨T4, L4, X4, N4, O4, st4⟩ := callW X3 hx hZ hw hby hml hown N3 (by decide) (by decide) g_b O3 (Ls := #[.val (.int i0), .val (.int c1), .val (.int c2), .val (.int c3), .val (.int z4), .val (.int z5), .val (.int z6), .val (.int o1), .val (.int o2), .val (.int k0), .val (.ref b2), .unset, .unset, .unset, .unset, .unset, .unset, .unset, .unset, .unset, .unset]) rfl c1 m1 hm1 at_125
  obtain ⟨T5, L5, X5, N5, O5, st5⟩ := callW X4 hx hZ hw hby hml hown N4 (by decide) (by decide) g_b O4 (Ls := #[.val (.int i0), .val (.int c1), .val (.int c2), .val (.int c3), .val (.int z4), .val (.int z5), .val (.int z6), .val (.int o1), .val (.int o2), .val (.int k0), .val (.ref b2), .unset, .unset, .unset, .unset, .unset, .unset, .unset, .unset, .unset, .unset]) rfl c2 m2 hm2 at_131
  obtain ⟨T6, L6, X6, N6, O6, st6⟩ := callP X5 hx hZ hw hby hml hown N5 (by decide) (by decide) g_b O5 (Ls := #[.val (.int i0), .val (.int c1), .val (.int c2), .val (.int c3), .val (.int z4), .val (.int z5), .val (.int z6), .val (.int o1), .val (.int o2), .val (.int k0), .val (.ref b2), .unset, .unset, .unset, .unset, .unset, .unset, .unset, .unset, .unset, .unset]) rfl r1 u1 hr1 hu1 at_136
  obtain ⟨T7, L7, X7, N7, O7, st7⟩ := callW X6 hx hZ hw hby hml hown N6 (by decide) (by decide) g_b O6 (Ls := #[.val (.int i0), .val (.int c1), .val (.int c2), .val (.int c3), .val (.int z4), .val (.int z5), .val (.int z6), .val (.int o1), .val (.int o2), .val (.int k0), .val (.ref b2), .val (.int r1), .unset, .unset, .unset, .unset, .unset, .unset, .unset, .unset, .unset]) rfl c3 m3 hm3 at_144
  obtain ⟨T8, L8, X8, N8, O8, st8⟩ := callP X7 hx hZ hw hby hml hown N7 (by decide) (by decide) g_b O7 (Ls := #[.val (.int i0), .val (.int c1), .val (.int c2), .val (.int c3), .val (.int z4), .val (.int z5), .val (.int z6), .val (.int o1), .val (.int o2), .val (.int k0), .val (.ref b2), .val (.int r1), .unset, .unset, .unset, .unset, .unset, .unset, .unset, .unset, .unset]) rfl r2 u2 hr2 hu2 at_149
  obtain ⟨T9, L9, X9, N9, O9, st9⟩ := callP X8 hx hZ hw hby hml hown N8 (by decide) (by decide) g_b O8 (Ls := #[.val (.int i0), .val (.int c1), .val (.int c2), .val (.int c3), .val (.int z4), .val (.int z5), .val (.int z6), .val (.int o1), .val (.int o2), .val (.int k0), .val (.ref b2), .val (.int r1), .val (.int r2), .unset, .unset, .unset, .unset, .unset, .unset, .unset, .unset]) rfl r3 u3 hr3 hu3 at_156
  obtain ⟨T10, L10, X10, N10, O10, st10⟩ := callP X9 hx hZ hw hby hml hown N9 (by decide) (by decide) g_b O9 (Ls := #[.val (.int i0), .val (.int c1), .val (.int c2), .val (.int c3), .val (.int z4), .val (.int z5), .val (.int z6), .val (.int o1), .val (.int o2), .val (.int k0), .val (.ref b2), .val (.int r1), .val (.int r2), .val (.int r3), .unset, .unset, .unset, .unset, .unset, .unset, .unset]) rfl r4 u4 hr4 hu4 at_163
  obtain ⟨T11, L11, X11, N11, O11, st11⟩ := callP X10 hx hZ hw hby hml hown N10 (by decide) (by decide) g_b O10 (Ls := #[.val (.int i0), .val (.int c1), .val (.int c2), .val (.int c3), .val (.int z4), .val (.int z5), .val (.int z6), .val (.int o1), .val (.int o2), .val (.int k0), .val (.ref b2), .val (.int r1), .val (.int r2), .val (.int r3), .val (.int r4), .unset, .unset, .unset, .unset, .unset, .unset]) rfl r5 u5 hr5 hu5 at_170
  obtain ⟨T12, L12, X12, N12, O12, st12⟩ := callP X11 hx hZ hw hby hml hown N11 (by decide) (by decide) g_b O11 (Ls := #[.val (.int i0), .val (.int c1), .val (.int c2), .val (.int c3), .val (.int z4), .val (.int z5), .val (.int z6), .val (.int o1), .val (.int o2), .val (.int k0), .val (.ref b2), .val (.int r1), .val (.int r2), .val (.int r3), .val (.int r4), .val (.int r5), .unset, .unset, .unset, .unset, .unset]) rfl r6 u6 hr6 hu6 at_177
  obtain ⟨T13, L13, X13, N13, O13, st13⟩ := callP X12 hx hZ hw hby hml hown N12 (by decide) (by decide) g_b O12 (Ls := #[.val (.int i0), .val (.int c1), .val (.int c2), .val (.int c3), .val (.int z4), .val (.int z5), .val (.int z6), .val (.int o1), .val (.int o2), .val (.int k0), .val (.ref b2), .val (.int r1), .val (.int r2), .val (.int r3), .val (.int r4), .val (.int r5), .val (.int r6), .unset, .unset, .unset, .unset]) rfl r7 u7 hr7 hu7 at_184
  obtain ⟨T14, L14, X14, N14, O14, st14⟩ := callP X13 hx hZ hw hby hml hown N13 (by decide) (by decide) g_b O13 (Ls := #[.val (.int i0), .val (.int c1), .val (.int c2), .val (.int c3), .val (.int z4), .val (.int z5), .val (.int z6), .val (.int o1), .val (.int o2), .val (.int k0), .val (.ref b2), .val (.int r1), .val (.int r2), .val (.int r3), .val (.int r4), .val (.int r5), .val (.int r6), .val (.int r7), .unset, .unset, .unset]) rfl r8 u8 hr8 hu8 at_191
  obtain ⟨T15, L15, X15, N15, O15, st15⟩ := callP X14 hx hZ hw hby hml hown N14 (by decide) (by decide) g_b O14 (Ls := #[.val (.int i0), .val (.int c1), .val (.int c2), .val (.int c3), .val (.int z4), .val (.int z5), .val (.int z6), .val (.int o1), .val (.int o2), .val (.int k0), .val (.ref b2), .val (.int r1), .val (.int r2), .val (.int r3), .val (.int r4), .val (.int r5), .val (.int r6), .val (.int r7), .val (.int r8), .unset, .unset]) rfl r9 u9 hr9 hu9 at_198
  obtain ⟨T16, L16, X16, N16, st16⟩ := callE X15 hx hZ hw hby hml hown N15 (by decide) (by decide) (Ls := #[.val (.int i0), .val (.int c1), .val (.int c2), .val (.int c3), .val (.int z4), .val (.int z5), .val (.int z6), .val (.int o1), .val (.int o2), .val (.int k0), .val (.ref b2), .val (.int r1), .val (.int r2), .val (.int r3), .val (.int r4), .val (.int r5), .val (.int r6), .val (.int r7), .val (.int r8), .val (.int r9), .unset]) rfl r1 o1 (1 : Int32) r1 he1 at_208
  obtain ⟨T17, L17, X17, N17, st17⟩ := callE X16 hx hZ hw hby hml hown N16 (by decide) (by decide) (Ls := #[.val (.int i0), .val (.int c1), .val (.int c2), .val (.int c3), .val (.int z4), .val (.int z5), .val (.int z6), .val (.int o1), .val (.int o2), .val (.int k0), .val (.ref b2), .val (.int r1), .val (.int r2), .val (.int r3), .val (.int r4), .val (.int r5), .val (.int r6), .val (.int r7), .val (.int r8), .val (.int r9), .val (.int (1 : Int32))]) rfl r2 o2 (k0 + (1 : Int32)) r2 he2 at_234
  obtain ⟨T18, L18, X18, N18, st18⟩ := callE X17 hx hZ hw hby hml hown N17 (by decide) (by decide) (Ls := #[.val (.int i0), .val (.int c1), .val (.int c2), .val (.int c3), .val (.int z4), .val (.int z5), .val (.int z6), .val (.int o1), .val (.int o2), .val (.int k0), .val (.ref b2), .val (.int r1), .val (.int r2), .val (.int r3), .val (.int r4), .val (.int r5), .val (.int r6), .val (.int r7), .val (.int r8), .val (.int r9), .val (.int (1 : Int32))]) rfl r3 o2 (k0 + (2 : Int32)) r3 he3 at_260
  obtain ⟨T19, L19, X19, N19, st19⟩ := callE X18 hx hZ hw hby hml hown N18 (by decide) (by decide) (Ls := #[.val (.int i0), .val (.int c1), .val (.int c2), .val (.int c3), .val (.int z4), .val (.int z5), .val (.int z6), .val (.int o1), .val (.int o2), .val (.int k0), .val (.ref b2), .val (.int r1), .val (.int r2), .val (.int r3), .val (.int r4), .val (.int r5), .val (.int r6), .val (.int r7), .val (.int r8), .val (.int r9), .val (.int (1 : Int32))]) rfl r4 o2 (k0 + (3 : Int32)) r4 he4 at_286
  obtain ⟨T20, L20, X20, N20, st20⟩ := callE X19 hx hZ hw hby hml hown N19 (by decide) (by decide) (Ls := #[.val (.int i0), .val (.int c1), .val (.int c2), .val (.int c3), .val (.int z4), .val (.int z5), .val (.int z6), .val (.int o1), .val (.int o2), .val (.int k0), .val (.ref b2), .val (.int r1), .val (.int r2), .val (.int r3), .val (.int r4), .val (.int r5), .val (.int r6), .val (.int r7), .val (.int r8), .val (.int r9), .val (.int (1 : Int32))]) rfl r5 o2 (k0 + (4 : Int32)) r5 he5 at_312
  obtain ⟨T21, L21, X21, N21, st21⟩ := callE X20 hx hZ hw hby hml hown N20 (by decide) (by decide) (Ls := #[.val (.int i0), .val (.int c1), .val (.int c2), .val (.int c3), .val (.int z4), .val (.int z5), .val (.int z6), .val (.int o1), .val (.int o2), .val (.int k0), .val (.ref b2), .val (.int r1), .val (.int r2), .val (.int r3), .val (.int r4), .val (.int r5), .val (.int r6), .val (.int r7), .val (.int r8), .val (.int r9), .val (.int (1 : Int32))]) rfl r6 o2 (k0 + (5 : Int32)) r6 he6 at_338
  obtain ⟨T22, L22, X22, N22, st22⟩ := callE X21 hx hZ hw hby hml hown N21 (by decide) (by decide) (Ls := #[.val (.int i0), .val (.int c1), .val (.int c2), .val (.int c3), .val (.int z4), .val (.int z5), .val (.int z6), .val (.int o1), .val (.int o2), .val (.int k0), .val (.ref b2), .val (.int r1), .val (.int r2), .val (.int r3), .val (.int r4), .val (.int r5), .val (.int r6), .val (.int r7), .val (.int r8), .val (.int r9), .val (.int (1 : Int32))]) rfl r7 o2 (k0 + (6 : Int32)) r7 he7 at_365
  obtain ⟨T23, L23, X23, N23, st23⟩ := callE X22 hx hZ hw hby hml hown N22 (by decide) (by decide) (Ls := #[.val (.int i0), .val (.int c1), .val (.int c2), .val (.int c3), .val (.int z4), .val (.int z5), .val (.int z6), .val (.int o1), .val (.int o2), .val (.int k0), .val (.ref b2), .val (.int r1), .val (.int r2), .val (.int r3), .val (.int r4), .val (.int r5), .val (.int r6), .val (.int r7), .val (.int r8), .val (.int r9), .val (.int (1 : Int32))]) rfl r8 o2 (k0 + (7 : Int32)) r8 he8 at_392
  obtain ⟨T24, L24, X24, N24, st24⟩ := callE X23 hx hZ hw hby hml hown N23 (by decide) (by decide) (Ls := #[.val (.int i0), .val (.int c1), .val (.int c2), .val (.int c3), .val (.int z4), .val (.int z5), .val (.int z6), .val (.int o1), .val (.int o2), .val (.int k0), .val (.ref b2), .val (.int r1), .val (.int r2), .val (.int r3), .val (.int r4), .val (.int r5), .val (.int r6), .val (.int r7), .val (.int r8), .val (.int r9), .val (.int (1 : Int32))]) rfl r9 o2 (k0 + (8 : Int32)) r9 he9 at_419
  refine ⟨T24, L24, b2, X24, N24, fun target kt => ?_⟩
  show Steps p.tables e below (T0.setTop (mkF m 113 #[.val (.int i0), .val (.int c1), .val (.int c2), .val (.int c3), .val (.int z4), .val (.int z5), .val (.int z6), .val (.int o1), .val (.int o2), .val (.int k0), .unset, .unset, .unset, .unset, .unset, .unset, .unset, .unset, .unset, .unset, .unset] [])) _
  refine st2 _ ?_
  show Steps p.tables e below (T2.setTop (mkF m 116 #[.val (.int i0), .val (.int c1), .val (.int c2), .val (.int c3), .val (.int z4), .val (.int z5), .val (.int z6), .val (.int o1), .val (.int o2), .val (.int k0), .unset, .unset, .unset, .unset, .unset, .unset, .unset, .unset, .unset, .unset, .unset] [(.ref b2)])) _
  refine XS.dup X2.here hx rfl (hb hby at_116) rfl rfl ?_
  show Steps p.tables e below (T2.setTop (mkF m 117 #[.val (.int i0), .val (.int c1), .val (.int c2), .val (.int c3), .val (.int z4), .val (.int z5), .val (.int z6), .val (.int o1), .val (.int o2), .val (.int k0), .unset, .unset, .unset, .unset, .unset, .unset, .unset, .unset, .unset, .unset, .unset] [(.ref b2), (.ref b2)])) _
  refine st3.trans ?_
  show Steps p.tables e below (T3.setTop (mkF m 120 #[.val (.int i0), .val (.int c1), .val (.int c2), .val (.int c3), .val (.int z4), .val (.int z5), .val (.int z6), .val (.int o1), .val (.int o2), .val (.int k0), .unset, .unset, .unset, .unset, .unset, .unset, .unset, .unset, .unset, .unset, .unset] [(.ref b2)])) _
  refine XS.astore X3.here hx rfl (hb hby at_120) rfl rfl (l' := #[.val (.int i0), .val (.int c1), .val (.int c2), .val (.int c3), .val (.int z4), .val (.int z5), .val (.int z6), .val (.int o1), .val (.int o2), .val (.int k0), .val (.ref b2), .unset, .unset, .unset, .unset, .unset, .unset, .unset, .unset, .unset, .unset]) rfl ?_
  show Steps p.tables e below (T3.setTop (mkF m 122 #[.val (.int i0), .val (.int c1), .val (.int c2), .val (.int c3), .val (.int z4), .val (.int z5), .val (.int z6), .val (.int o1), .val (.int o2), .val (.int k0), .val (.ref b2), .unset, .unset, .unset, .unset, .unset, .unset, .unset, .unset, .unset, .unset] [])) _
  refine XS.aload X3.here hx rfl (hb hby at_122) rfl rfl ?_
  show Steps p.tables e below (T3.setTop (mkF m 124 #[.val (.int i0), .val (.int c1), .val (.int c2), .val (.int c3), .val (.int z4), .val (.int z5), .val (.int z6), .val (.int o1), .val (.int o2), .val (.int k0), .val (.ref b2), .unset, .unset, .unset, .unset, .unset, .unset, .unset, .unset, .unset, .unset] [(.ref b2)])) _
  refine XS.iloadN X3.here hx rfl (hb hby at_124) rfl ?_
  show Steps p.tables e below (T3.setTop (mkF m 125 #[.val (.int i0), .val (.int c1), .val (.int c2), .val (.int c3), .val (.int z4), .val (.int z5), .val (.int z6), .val (.int o1), .val (.int o2), .val (.int k0), .val (.ref b2), .unset, .unset, .unset, .unset, .unset, .unset, .unset, .unset, .unset, .unset] [(.int c1), (.ref b2)])) _
  refine st4 _ ?_
  show Steps p.tables e below (T4.setTop (mkF m 128 #[.val (.int i0), .val (.int c1), .val (.int c2), .val (.int c3), .val (.int z4), .val (.int z5), .val (.int z6), .val (.int o1), .val (.int o2), .val (.int k0), .val (.ref b2), .unset, .unset, .unset, .unset, .unset, .unset, .unset, .unset, .unset, .unset] [])) _
  refine XS.aload X4.here hx rfl (hb hby at_128) rfl rfl ?_
  show Steps p.tables e below (T4.setTop (mkF m 130 #[.val (.int i0), .val (.int c1), .val (.int c2), .val (.int c3), .val (.int z4), .val (.int z5), .val (.int z6), .val (.int o1), .val (.int o2), .val (.int k0), .val (.ref b2), .unset, .unset, .unset, .unset, .unset, .unset, .unset, .unset, .unset, .unset] [(.ref b2)])) _
  refine XS.iloadN X4.here hx rfl (hb hby at_130) rfl ?_
  show Steps p.tables e below (T4.setTop (mkF m 131 #[.val (.int i0), .val (.int c1), .val (.int c2), .val (.int c3), .val (.int z4), .val (.int z5), .val (.int z6), .val (.int o1), .val (.int o2), .val (.int k0), .val (.ref b2), .unset, .unset, .unset, .unset, .unset, .unset, .unset, .unset, .unset, .unset] [(.int c2), (.ref b2)])) _
  refine st5 _ ?_
  show Steps p.tables e below (T5.setTop (mkF m 134 #[.val (.int i0), .val (.int c1), .val (.int c2), .val (.int c3), .val (.int z4), .val (.int z5), .val (.int z6), .val (.int o1), .val (.int o2), .val (.int k0), .val (.ref b2), .unset, .unset, .unset, .unset, .unset, .unset, .unset, .unset, .unset, .unset] [])) _
  refine XS.aload X5.here hx rfl (hb hby at_134) rfl rfl ?_
  show Steps p.tables e below (T5.setTop (mkF m 136 #[.val (.int i0), .val (.int c1), .val (.int c2), .val (.int c3), .val (.int z4), .val (.int z5), .val (.int z6), .val (.int o1), .val (.int o2), .val (.int k0), .val (.ref b2), .unset, .unset, .unset, .unset, .unset, .unset, .unset, .unset, .unset, .unset] [(.ref b2)])) _
  refine st6 _ ?_
  show Steps p.tables e below (T6.setTop (mkF m 139 #[.val (.int i0), .val (.int c1), .val (.int c2), .val (.int c3), .val (.int z4), .val (.int z5), .val (.int z6), .val (.int o1), .val (.int o2), .val (.int k0), .val (.ref b2), .unset, .unset, .unset, .unset, .unset, .unset, .unset, .unset, .unset, .unset] [(.int r1)])) _
  refine XS.istore X6.here hx rfl (hb hby at_139) rfl (l' := #[.val (.int i0), .val (.int c1), .val (.int c2), .val (.int c3), .val (.int z4), .val (.int z5), .val (.int z6), .val (.int o1), .val (.int o2), .val (.int k0), .val (.ref b2), .val (.int r1), .unset, .unset, .unset, .unset, .unset, .unset, .unset, .unset, .unset]) rfl ?_
  show Steps p.tables e below (T6.setTop (mkF m 141 #[.val (.int i0), .val (.int c1), .val (.int c2), .val (.int c3), .val (.int z4), .val (.int z5), .val (.int z6), .val (.int o1), .val (.int o2), .val (.int k0), .val (.ref b2), .val (.int r1), .unset, .unset, .unset, .unset, .unset, .unset, .unset, .unset, .unset] [])) _
  refine XS.aload X6.here hx rfl (hb hby at_141) rfl rfl ?_
  show Steps p.tables e below (T6.setTop (mkF m 143 #[.val (.int i0), .val (.int c1), .val (.int c2), .val (.int c3), .val (.int z4), .val (.int z5), .val (.int z6), .val (.int o1), .val (.int o2), .val (.int k0), .val (.ref b2), .val (.int r1), .unset, .unset, .unset, .unset, .unset, .unset, .unset, .unset, .unset] [(.ref b2)])) _
  refine XS.iloadN X6.here hx rfl (hb hby at_143) rfl ?_
  show Steps p.tables e below (T6.setTop (mkF m 144 #[.val (.int i0), .val (.int c1), .val (.int c2), .val (.int c3), .val (.int z4), .val (.int z5), .val (.int z6), .val (.int o1), .val (.int o2), .val (.int k0), .val (.ref b2), .val (.int r1), .unset, .unset, .unset, .unset, .unset, .unset, .unset, .unset, .unset] [(.int c3), (.ref b2)])) _
  refine st7 _ ?_
  show Steps p.tables e below (T7.setTop (mkF m 147 #[.val (.int i0), .val (.int c1), .val (.int c2), .val (.int c3), .val (.int z4), .val (.int z5), .val (.int z6), .val (.int o1), .val (.int o2), .val (.int k0), .val (.ref b2), .val (.int r1), .unset, .unset, .unset, .unset, .unset, .unset, .unset, .unset, .unset] [])) _
  refine XS.aload X7.here hx rfl (hb hby at_147) rfl rfl ?_
  show Steps p.tables e below (T7.setTop (mkF m 149 #[.val (.int i0), .val (.int c1), .val (.int c2), .val (.int c3), .val (.int z4), .val (.int z5), .val (.int z6), .val (.int o1), .val (.int o2), .val (.int k0), .val (.ref b2), .val (.int r1), .unset, .unset, .unset, .unset, .unset, .unset, .unset, .unset, .unset] [(.ref b2)])) _
  refine st8 _ ?_
  show Steps p.tables e below (T8.setTop (mkF m 152 #[.val (.int i0), .val (.int c1), .val (.int c2), .val (.int c3), .val (.int z4), .val (.int z5), .val (.int z6), .val (.int o1), .val (.int o2), .val (.int k0), .val (.ref b2), .val (.int r1), .unset, .unset, .unset, .unset, .unset, .unset, .unset, .unset, .unset] [(.int r2)])) _
  refine XS.istore X8.here hx rfl (hb hby at_152) rfl (l' := #[.val (.int i0), .val (.int c1), .val (.int c2), .val (.int c3), .val (.int z4), .val (.int z5), .val (.int z6), .val (.int o1), .val (.int o2), .val (.int k0), .val (.ref b2), .val (.int r1), .val (.int r2), .unset, .unset, .unset, .unset, .unset, .unset, .unset, .unset]) rfl ?_
  show Steps p.tables e below (T8.setTop (mkF m 154 #[.val (.int i0), .val (.int c1), .val (.int c2), .val (.int c3), .val (.int z4), .val (.int z5), .val (.int z6), .val (.int o1), .val (.int o2), .val (.int k0), .val (.ref b2), .val (.int r1), .val (.int r2), .unset, .unset, .unset, .unset, .unset, .unset, .unset, .unset] [])) _
  refine XS.aload X8.here hx rfl (hb hby at_154) rfl rfl ?_
  show Steps p.tables e below (T8.setTop (mkF m 156 #[.val (.int i0), .val (.int c1), .val (.int c2), .val (.int c3), .val (.int z4), .val (.int z5), .val (.int z6), .val (.int o1), .val (.int o2), .val (.int k0), .val (.ref b2), .val (.int r1), .val (.int r2), .unset, .unset, .unset, .unset, .unset, .unset, .unset, .unset] [(.ref b2)])) _
  refine st9 _ ?_
  show Steps p.tables e below (T9.setTop (mkF m 159 #[.val (.int i0), .val (.int c1), .val (.int c2), .val (.int c3), .val (.int z4), .val (.int z5), .val (.int z6), .val (.int o1), .val (.int o2), .val (.int k0), .val (.ref b2), .val (.int r1), .val (.int r2), .unset, .unset, .unset, .unset, .unset, .unset, .unset, .unset] [(.int r3)])) _
  refine XS.istore X9.here hx rfl (hb hby at_159) rfl (l' := #[.val (.int i0), .val (.int c1), .val (.int c2), .val (.int c3), .val (.int z4), .val (.int z5), .val (.int z6), .val (.int o1), .val (.int o2), .val (.int k0), .val (.ref b2), .val (.int r1), .val (.int r2), .val (.int r3), .unset, .unset, .unset, .unset, .unset, .unset, .unset]) rfl ?_
  show Steps p.tables e below (T9.setTop (mkF m 161 #[.val (.int i0), .val (.int c1), .val (.int c2), .val (.int c3), .val (.int z4), .val (.int z5), .val (.int z6), .val (.int o1), .val (.int o2), .val (.int k0), .val (.ref b2), .val (.int r1), .val (.int r2), .val (.int r3), .unset, .unset, .unset, .unset, .unset, .unset, .unset] [])) _
  refine XS.aload X9.here hx rfl (hb hby at_161) rfl rfl ?_
  show Steps p.tables e below (T9.setTop (mkF m 163 #[.val (.int i0), .val (.int c1), .val (.int c2), .val (.int c3), .val (.int z4), .val (.int z5), .val (.int z6), .val (.int o1), .val (.int o2), .val (.int k0), .val (.ref b2), .val (.int r1), .val (.int r2), .val (.int r3), .unset, .unset, .unset, .unset, .unset, .unset, .unset] [(.ref b2)])) _
  refine st10 _ ?_
  show Steps p.tables e below (T10.setTop (mkF m 166 #[.val (.int i0), .val (.int c1), .val (.int c2), .val (.int c3), .val (.int z4), .val (.int z5), .val (.int z6), .val (.int o1), .val (.int o2), .val (.int k0), .val (.ref b2), .val (.int r1), .val (.int r2), .val (.int r3), .unset, .unset, .unset, .unset, .unset, .unset, .unset] [(.int r4)])) _
  refine XS.istore X10.here hx rfl (hb hby at_166) rfl (l' := #[.val (.int i0), .val (.int c1), .val (.int c2), .val (.int c3), .val (.int z4), .val (.int z5), .val (.int z6), .val (.int o1), .val (.int o2), .val (.int k0), .val (.ref b2), .val (.int r1), .val (.int r2), .val (.int r3), .val (.int r4), .unset, .unset, .unset, .unset, .unset, .unset]) rfl ?_
  show Steps p.tables e below (T10.setTop (mkF m 168 #[.val (.int i0), .val (.int c1), .val (.int c2), .val (.int c3), .val (.int z4), .val (.int z5), .val (.int z6), .val (.int o1), .val (.int o2), .val (.int k0), .val (.ref b2), .val (.int r1), .val (.int r2), .val (.int r3), .val (.int r4), .unset, .unset, .unset, .unset, .unset, .unset] [])) _
  refine XS.aload X10.here hx rfl (hb hby at_168) rfl rfl ?_
  show Steps p.tables e below (T10.setTop (mkF m 170 #[.val (.int i0), .val (.int c1), .val (.int c2), .val (.int c3), .val (.int z4), .val (.int z5), .val (.int z6), .val (.int o1), .val (.int o2), .val (.int k0), .val (.ref b2), .val (.int r1), .val (.int r2), .val (.int r3), .val (.int r4), .unset, .unset, .unset, .unset, .unset, .unset] [(.ref b2)])) _
  refine st11 _ ?_
  show Steps p.tables e below (T11.setTop (mkF m 173 #[.val (.int i0), .val (.int c1), .val (.int c2), .val (.int c3), .val (.int z4), .val (.int z5), .val (.int z6), .val (.int o1), .val (.int o2), .val (.int k0), .val (.ref b2), .val (.int r1), .val (.int r2), .val (.int r3), .val (.int r4), .unset, .unset, .unset, .unset, .unset, .unset] [(.int r5)])) _
  refine XS.istore X11.here hx rfl (hb hby at_173) rfl (l' := #[.val (.int i0), .val (.int c1), .val (.int c2), .val (.int c3), .val (.int z4), .val (.int z5), .val (.int z6), .val (.int o1), .val (.int o2), .val (.int k0), .val (.ref b2), .val (.int r1), .val (.int r2), .val (.int r3), .val (.int r4), .val (.int r5), .unset, .unset, .unset, .unset, .unset]) rfl ?_
  show Steps p.tables e below (T11.setTop (mkF m 175 #[.val (.int i0), .val (.int c1), .val (.int c2), .val (.int c3), .val (.int z4), .val (.int z5), .val (.int z6), .val (.int o1), .val (.int o2), .val (.int k0), .val (.ref b2), .val (.int r1), .val (.int r2), .val (.int r3), .val (.int r4), .val (.int r5), .unset, .unset, .unset, .unset, .unset] [])) _
  refine XS.aload X11.here hx rfl (hb hby at_175) rfl rfl ?_
  show Steps p.tables e below (T11.setTop (mkF m 177 #[.val (.int i0), .val (.int c1), .val (.int c2), .val (.int c3), .val (.int z4), .val (.int z5), .val (.int z6), .val (.int o1), .val (.int o2), .val (.int k0), .val (.ref b2), .val (.int r1), .val (.int r2), .val (.int r3), .val (.int r4), .val (.int r5), .unset, .unset, .unset, .unset, .unset] [(.ref b2)])) _
  refine st12 _ ?_
  show Steps p.tables e below (T12.setTop (mkF m 180 #[.val (.int i0), .val (.int c1), .val (.int c2), .val (.int c3), .val (.int z4), .val (.int z5), .val (.int z6), .val (.int o1), .val (.int o2), .val (.int k0), .val (.ref b2), .val (.int r1), .val (.int r2), .val (.int r3), .val (.int r4), .val (.int r5), .unset, .unset, .unset, .unset, .unset] [(.int r6)])) _
  refine XS.istore X12.here hx rfl (hb hby at_180) rfl (l' := #[.val (.int i0), .val (.int c1), .val (.int c2), .val (.int c3), .val (.int z4), .val (.int z5), .val (.int z6), .val (.int o1), .val (.int o2), .val (.int k0), .val (.ref b2), .val (.int r1), .val (.int r2), .val (.int r3), .val (.int r4), .val (.int r5), .val (.int r6), .unset, .unset, .unset, .unset]) rfl ?_
  show Steps p.tables e below (T12.setTop (mkF m 182 #[.val (.int i0), .val (.int c1), .val (.int c2), .val (.int c3), .val (.int z4), .val (.int z5), .val (.int z6), .val (.int o1), .val (.int o2), .val (.int k0), .val (.ref b2), .val (.int r1), .val (.int r2), .val (.int r3), .val (.int r4), .val (.int r5), .val (.int r6), .unset, .unset, .unset, .unset] [])) _
  refine XS.aload X12.here hx rfl (hb hby at_182) rfl rfl ?_
  show Steps p.tables e below (T12.setTop (mkF m 184 #[.val (.int i0), .val (.int c1), .val (.int c2), .val (.int c3), .val (.int z4), .val (.int z5), .val (.int z6), .val (.int o1), .val (.int o2), .val (.int k0), .val (.ref b2), .val (.int r1), .val (.int r2), .val (.int r3), .val (.int r4), .val (.int r5), .val (.int r6), .unset, .unset, .unset, .unset] [(.ref b2)])) _
  refine st13 _ ?_
  show Steps p.tables e below (T13.setTop (mkF m 187 #[.val (.int i0), .val (.int c1), .val (.int c2), .val (.int c3), .val (.int z4), .val (.int z5), .val (.int z6), .val (.int o1), .val (.int o2), .val (.int k0), .val (.ref b2), .val (.int r1), .val (.int r2), .val (.int r3), .val (.int r4), .val (.int r5), .val (.int r6), .unset, .unset, .unset, .unset] [(.int r7)])) _
  refine XS.istore X13.here hx rfl (hb hby at_187) rfl (l' := #[.val (.int i0), .val (.int c1), .val (.int c2), .val (.int c3), .val (.int z4), .val (.int z5), .val (.int z6), .val (.int o1), .val (.int o2), .val (.int k0), .val (.ref b2), .val (.int r1), .val (.int r2), .val (.int r3), .val (.int r4), .val (.int r5), .val (.int r6), .val (.int r7), .unset, .unset, .unset]) rfl ?_
  show Steps p.tables e below (T13.setTop (mkF m 189 #[.val (.int i0), .val (.int c1), .val (.int c2), .val (.int c3), .val (.int z4), .val (.int z5), .val (.int z6), .val (.int o1), .val (.int o2), .val (.int k0), .val (.ref b2), .val (.int r1), .val (.int r2), .val (.int r3), .val (.int r4), .val (.int r5), .val (.int r6), .val (.int r7), .unset, .unset, .unset] [])) _
  refine XS.aload X13.here hx rfl (hb hby at_189) rfl rfl ?_
  show Steps p.tables e below (T13.setTop (mkF m 191 #[.val (.int i0), .val (.int c1), .val (.int c2), .val (.int c3), .val (.int z4), .val (.int z5), .val (.int z6), .val (.int o1), .val (.int o2), .val (.int k0), .val (.ref b2), .val (.int r1), .val (.int r2), .val (.int r3), .val (.int r4), .val (.int r5), .val (.int r6), .val (.int r7), .unset, .unset, .unset] [(.ref b2)])) _
  refine st14 _ ?_
  show Steps p.tables e below (T14.setTop (mkF m 194 #[.val (.int i0), .val (.int c1), .val (.int c2), .val (.int c3), .val (.int z4), .val (.int z5), .val (.int z6), .val (.int o1), .val (.int o2), .val (.int k0), .val (.ref b2), .val (.int r1), .val (.int r2), .val (.int r3), .val (.int r4), .val (.int r5), .val (.int r6), .val (.int r7), .unset, .unset, .unset] [(.int r8)])) _
  refine XS.istore X14.here hx rfl (hb hby at_194) rfl (l' := #[.val (.int i0), .val (.int c1), .val (.int c2), .val (.int c3), .val (.int z4), .val (.int z5), .val (.int z6), .val (.int o1), .val (.int o2), .val (.int k0), .val (.ref b2), .val (.int r1), .val (.int r2), .val (.int r3), .val (.int r4), .val (.int r5), .val (.int r6), .val (.int r7), .val (.int r8), .unset, .unset]) rfl ?_
  show Steps p.tables e below (T14.setTop (mkF m 196 #[.val (.int i0), .val (.int c1), .val (.int c2), .val (.int c3), .val (.int z4), .val (.int z5), .val (.int z6), .val (.int o1), .val (.int o2), .val (.int k0), .val (.ref b2), .val (.int r1), .val (.int r2), .val (.int r3), .val (.int r4), .val (.int r5), .val (.int r6), .val (.int r7), .val (.int r8), .unset, .unset] [])) _
  refine XS.aload X14.here hx rfl (hb hby at_196) rfl rfl ?_
  show Steps p.tables e below (T14.setTop (mkF m 198 #[.val (.int i0), .val (.int c1), .val (.int c2), .val (.int c3), .val (.int z4), .val (.int z5), .val (.int z6), .val (.int o1), .val (.int o2), .val (.int k0), .val (.ref b2), .val (.int r1), .val (.int r2), .val (.int r3), .val (.int r4), .val (.int r5), .val (.int r6), .val (.int r7), .val (.int r8), .unset, .unset] [(.ref b2)])) _
  refine st15 _ ?_
  show Steps p.tables e below (T15.setTop (mkF m 201 #[.val (.int i0), .val (.int c1), .val (.int c2), .val (.int c3), .val (.int z4), .val (.int z5), .val (.int z6), .val (.int o1), .val (.int o2), .val (.int k0), .val (.ref b2), .val (.int r1), .val (.int r2), .val (.int r3), .val (.int r4), .val (.int r5), .val (.int r6), .val (.int r7), .val (.int r8), .unset, .unset] [(.int r9)])) _
  refine XS.istore X15.here hx rfl (hb hby at_201) rfl (l' := #[.val (.int i0), .val (.int c1), .val (.int c2), .val (.int c3), .val (.int z4), .val (.int z5), .val (.int z6), .val (.int o1), .val (.int o2), .val (.int k0), .val (.ref b2), .val (.int r1), .val (.int r2), .val (.int r3), .val (.int r4), .val (.int r5), .val (.int r6), .val (.int r7), .val (.int r8), .val (.int r9), .unset]) rfl ?_
  show Steps p.tables e below (T15.setTop (mkF m 203 #[.val (.int i0), .val (.int c1), .val (.int c2), .val (.int c3), .val (.int z4), .val (.int z5), .val (.int z6), .val (.int o1), .val (.int o2), .val (.int k0), .val (.ref b2), .val (.int r1), .val (.int r2), .val (.int r3), .val (.int r4), .val (.int r5), .val (.int r6), .val (.int r7), .val (.int r8), .val (.int r9), .unset] [])) _
  refine XS.iload X15.here hx rfl (hb hby at_203) rfl ?_
  show Steps p.tables e below (T15.setTop (mkF m 205 #[.val (.int i0), .val (.int c1), .val (.int c2), .val (.int c3), .val (.int z4), .val (.int z5), .val (.int z6), .val (.int o1), .val (.int o2), .val (.int k0), .val (.ref b2), .val (.int r1), .val (.int r2), .val (.int r3), .val (.int r4), .val (.int r5), .val (.int r6), .val (.int r7), .val (.int r8), .val (.int r9), .unset] [(.int r1)])) _
  refine XS.iload X15.here hx rfl (hb hby at_205) rfl ?_
  show Steps p.tables e below (T15.setTop (mkF m 207 #[.val (.int i0), .val (.int c1), .val (.int c2), .val (.int c3), .val (.int z4), .val (.int z5), .val (.int z6), .val (.int o1), .val (.int o2), .val (.int k0), .val (.ref b2), .val (.int r1), .val (.int r2), .val (.int r3), .val (.int r4), .val (.int r5), .val (.int r6), .val (.int r7), .val (.int r8), .val (.int r9), .unset] [(.int o1), (.int r1)])) _
  refine XS.iconst X15.here hx rfl (hb hby at_207) ?_
  show Steps p.tables e below (T15.setTop (mkF m 208 #[.val (.int i0), .val (.int c1), .val (.int c2), .val (.int c3), .val (.int z4), .val (.int z5), .val (.int z6), .val (.int o1), .val (.int o2), .val (.int k0), .val (.ref b2), .val (.int r1), .val (.int r2), .val (.int r3), .val (.int r4), .val (.int r5), .val (.int r6), .val (.int r7), .val (.int r8), .val (.int r9), .unset] [(.int (1 : Int32)), (.int o1), (.int r1)])) _
  refine st16 _ ?_
  show Steps p.tables e below (T16.setTop (mkF m 211 #[.val (.int i0), .val (.int c1), .val (.int c2), .val (.int c3), .val (.int z4), .val (.int z5), .val (.int z6), .val (.int o1), .val (.int o2), .val (.int k0), .val (.ref b2), .val (.int r1), .val (.int r2), .val (.int r3), .val (.int r4), .val (.int r5), .val (.int r6), .val (.int r7), .val (.int r8), .val (.int r9), .unset] [(.int r1), (.int r1)])) _
  refine XS.icmpNo X16.here hx rfl (hb hby at_211) rfl (teq rfl).2 ?_
  show Steps p.tables e below (T16.setTop (mkF m 214 #[.val (.int i0), .val (.int c1), .val (.int c2), .val (.int c3), .val (.int z4), .val (.int z5), .val (.int z6), .val (.int o1), .val (.int o2), .val (.int k0), .val (.ref b2), .val (.int r1), .val (.int r2), .val (.int r3), .val (.int r4), .val (.int r5), .val (.int r6), .val (.int r7), .val (.int r8), .val (.int r9), .unset] [])) _
  refine XS.iconst X16.here hx rfl (hb hby at_214) ?_
  show Steps p.tables e below (T16.setTop (mkF m 215 #[.val (.int i0), .val (.int c1), .val (.int c2), .val (.int c3), .val (.int z4), .val (.int z5), .val (.int z6), .val (.int o1), .val (.int o2), .val (.int k0), .val (.ref b2), .val (.int r1), .val (.int r2), .val (.int r3), .val (.int r4), .val (.int r5), .val (.int r6), .val (.int r7), .val (.int r8), .val (.int r9), .unset] [(.int (1 : Int32))])) _
  refine XS.goto X16.here hx rfl (pc0 := 215) (pc' := 219) rfl (hb hby at_215) (by decide) (by decide) ?_
  show Steps p.tables e below (T16.setTop (mkF m 219 #[.val (.int i0), .val (.int c1), .val (.int c2), .val (.int c3), .val (.int z4), .val (.int z5), .val (.int z6), .val (.int o1), .val (.int o2), .val (.int k0), .val (.ref b2), .val (.int r1), .val (.int r2), .val (.int r3), .val (.int r4), .val (.int r5), .val (.int r6), .val (.int r7), .val (.int r8), .val (.int r9), .unset] [(.int (1 : Int32))])) _
  refine XS.istore X16.here hx rfl (hb hby at_219) rfl (l' := #[.val (.int i0), .val (.int c1), .val (.int c2), .val (.int c3), .val (.int z4), .val (.int z5), .val (.int z6), .val (.int o1), .val (.int o2), .val (.int k0), .val (.ref b2), .val (.int r1), .val (.int r2), .val (.int r3), .val (.int r4), .val (.int r5), .val (.int r6), .val (.int r7), .val (.int r8), .val (.int r9), .val (.int (1 : Int32))]) rfl ?_
  show Steps p.tables e below (T16.setTop (mkF m 221 #[.val (.int i0), .val (.int c1), .val (.int c2), .val (.int c3), .val (.int z4), .val (.int z5), .val (.int z6), .val (.int o1), .val (.int o2), .val (.int k0), .val (.ref b2), .val (.int r1), .val (.int r2), .val (.int r3), .val (.int r4), .val (.int r5), .val (.int r6), .val (.int r7), .val (.int r8), .val (.int r9), .val (.int (1 : Int32))] [])) _
  refine XS.iload X16.here hx rfl (hb hby at_221) rfl ?_
  show Steps p.tables e below (T16.setTop (mkF m 223 #[.val (.int i0), .val (.int c1), .val (.int c2), .val (.int c3), .val (.int z4), .val (.int z5), .val (.int z6), .val (.int o1), .val (.int o2), .val (.int k0), .val (.ref b2), .val (.int r1), .val (.int r2), .val (.int r3), .val (.int r4), .val (.int r5), .val (.int r6), .val (.int r7), .val (.int r8), .val (.int r9), .val (.int (1 : Int32))] [(.int (1 : Int32))])) _
  refine XS.ifNo X16.here hx rfl (hb hby at_223) rfl ((if0 _ _).trans (feq (by decide)).1) ?_
  show Steps p.tables e below (T16.setTop (mkF m 226 #[.val (.int i0), .val (.int c1), .val (.int c2), .val (.int c3), .val (.int z4), .val (.int z5), .val (.int z6), .val (.int o1), .val (.int o2), .val (.int k0), .val (.ref b2), .val (.int r1), .val (.int r2), .val (.int r3), .val (.int r4), .val (.int r5), .val (.int r6), .val (.int r7), .val (.int r8), .val (.int r9), .val (.int (1 : Int32))] [])) _
  refine XS.iload X16.here hx rfl (hb hby at_226) rfl ?_
  show Steps p.tables e below (T16.setTop (mkF m 228 #[.val (.int i0), .val (.int c1), .val (.int c2), .val (.int c3), .val (.int z4), .val (.int z5), .val (.int z6), .val (.int o1), .val (.int o2), .val (.int k0), .val (.ref b2), .val (.int r1), .val (.int r2), .val (.int r3), .val (.int r4), .val (.int r5), .val (.int r6), .val (.int r7), .val (.int r8), .val (.int r9), .val (.int (1 : Int32))] [(.int r2)])) _
  refine XS.iload X16.here hx rfl (hb hby at_228) rfl ?_
  show Steps p.tables e below (T16.setTop (mkF m 230 #[.val (.int i0), .val (.int c1), .val (.int c2), .val (.int c3), .val (.int z4), .val (.int z5), .val (.int z6), .val (.int o1), .val (.int o2), .val (.int k0), .val (.ref b2), .val (.int r1), .val (.int r2), .val (.int r3), .val (.int r4), .val (.int r5), .val (.int r6), .val (.int r7), .val (.int r8), .val (.int r9), .val (.int (1 : Int32))] [(.int o2), (.int r2)])) _
  refine XS.iload X16.here hx rfl (hb hby at_230) rfl ?_
  show Steps p.tables e below (T16.setTop (mkF m 232 #[.val (.int i0), .val (.int c1), .val (.int c2), .val (.int c3), .val (.int z4), .val (.int z5), .val (.int z6), .val (.int o1), .val (.int o2), .val (.int k0), .val (.ref b2), .val (.int r1), .val (.int r2), .val (.int r3), .val (.int r4), .val (.int r5), .val (.int r6), .val (.int r7), .val (.int r8), .val (.int r9), .val (.int (1 : Int32))] [(.int k0), (.int o2), (.int r2)])) _
  refine XS.iconst X16.here hx rfl (hb hby at_232) ?_
  show Steps p.tables e below (T16.setTop (mkF m 233 #[.val (.int i0), .val (.int c1), .val (.int c2), .val (.int c3), .val (.int z4), .val (.int z5), .val (.int z6), .val (.int o1), .val (.int o2), .val (.int k0), .val (.ref b2), .val (.int r1), .val (.int r2), .val (.int r3), .val (.int r4), .val (.int r5), .val (.int r6), .val (.int r7), .val (.int r8), .val (.int r9), .val (.int (1 : Int32))] [(.int (1 : Int32)), (.int k0), (.int o2), (.int r2)])) _
  refine XS.iadd X16.here hx rfl (hb hby at_233) rfl ?_
  show Steps p.tables e below (T16.setTop (mkF m 234 #[.val (.int i0), .val (.int c1), .val (.int c2), .val (.int c3), .val (.int z4), .val (.int z5), .val (.int z6), .val (.int o1), .val (.int o2), .val (.int k0), .val (.ref b2), .val (.int r1), .val (.int r2), .val (.int r3), .val (.int r4), .val (.int r5), .val (.int r6), .val (.int r7), .val (.int r8), .val (.int r9), .val (.int (1 : Int32))] [(.int (k0 + (1 : Int32))), (.int o2), (.int r2)])) _
  refine st17 _ ?_
  show Steps p.tables e below (T17.setTop (mkF m 237 #[.val (.int i0), .val (.int c1), .val (.int c2), .val (.int c3), .val (.int z4), .val (.int z5), .val (.int z6), .val (.int o1), .val (.int o2), .val (.int k0), .val (.ref b2), .val (.int r1), .val (.int r2), .val (.int r3), .val (.int r4), .val (.int r5), .val (.int r6), .val (.int r7), .val (.int r8), .val (.int r9), .val (.int (1 : Int32))] [(.int r2), (.int r2)])) _
  refine XS.icmpNo X17.here hx rfl (hb hby at_237) rfl (teq rfl).2 ?_
  show Steps p.tables e below (T17.setTop (mkF m 240 #[.val (.int i0), .val (.int c1), .val (.int c2), .val (.int c3), .val (.int z4), .val (.int z5), .val (.int z6), .val (.int o1), .val (.int o2), .val (.int k0), .val (.ref b2), .val (.int r1), .val (.int r2), .val (.int r3), .val (.int r4), .val (.int r5), .val (.int r6), .val (.int r7), .val (.int r8), .val (.int r9), .val (.int (1 : Int32))] [])) _
  refine XS.iconst X17.here hx rfl (hb hby at_240) ?_
  show Steps p.tables e below (T17.setTop (mkF m 241 #[.val (.int i0), .val (.int c1), .val (.int c2), .val (.int c3), .val (.int z4), .val (.int z5), .val (.int z6), .val (.int o1), .val (.int o2), .val (.int k0), .val (.ref b2), .val (.int r1), .val (.int r2), .val (.int r3), .val (.int r4), .val (.int r5), .val (.int r6), .val (.int r7), .val (.int r8), .val (.int r9), .val (.int (1 : Int32))] [(.int (1 : Int32))])) _
  refine XS.goto X17.here hx rfl (pc0 := 241) (pc' := 245) rfl (hb hby at_241) (by decide) (by decide) ?_
  show Steps p.tables e below (T17.setTop (mkF m 245 #[.val (.int i0), .val (.int c1), .val (.int c2), .val (.int c3), .val (.int z4), .val (.int z5), .val (.int z6), .val (.int o1), .val (.int o2), .val (.int k0), .val (.ref b2), .val (.int r1), .val (.int r2), .val (.int r3), .val (.int r4), .val (.int r5), .val (.int r6), .val (.int r7), .val (.int r8), .val (.int r9), .val (.int (1 : Int32))] [(.int (1 : Int32))])) _
  refine XS.istore X17.here hx rfl (hb hby at_245) rfl (l' := #[.val (.int i0), .val (.int c1), .val (.int c2), .val (.int c3), .val (.int z4), .val (.int z5), .val (.int z6), .val (.int o1), .val (.int o2), .val (.int k0), .val (.ref b2), .val (.int r1), .val (.int r2), .val (.int r3), .val (.int r4), .val (.int r5), .val (.int r6), .val (.int r7), .val (.int r8), .val (.int r9), .val (.int (1 : Int32))]) rfl ?_
  show Steps p.tables e below (T17.setTop (mkF m 247 #[.val (.int i0), .val (.int c1), .val (.int c2), .val (.int c3), .val (.int z4), .val (.int z5), .val (.int z6), .val (.int o1), .val (.int o2), .val (.int k0), .val (.ref b2), .val (.int r1), .val (.int r2), .val (.int r3), .val (.int r4), .val (.int r5), .val (.int r6), .val (.int r7), .val (.int r8), .val (.int r9), .val (.int (1 : Int32))] [])) _
  refine XS.iload X17.here hx rfl (hb hby at_247) rfl ?_
  show Steps p.tables e below (T17.setTop (mkF m 249 #[.val (.int i0), .val (.int c1), .val (.int c2), .val (.int c3), .val (.int z4), .val (.int z5), .val (.int z6), .val (.int o1), .val (.int o2), .val (.int k0), .val (.ref b2), .val (.int r1), .val (.int r2), .val (.int r3), .val (.int r4), .val (.int r5), .val (.int r6), .val (.int r7), .val (.int r8), .val (.int r9), .val (.int (1 : Int32))] [(.int (1 : Int32))])) _
  refine XS.ifNo X17.here hx rfl (hb hby at_249) rfl ((if0 _ _).trans (feq (by decide)).1) ?_
  show Steps p.tables e below (T17.setTop (mkF m 252 #[.val (.int i0), .val (.int c1), .val (.int c2), .val (.int c3), .val (.int z4), .val (.int z5), .val (.int z6), .val (.int o1), .val (.int o2), .val (.int k0), .val (.ref b2), .val (.int r1), .val (.int r2), .val (.int r3), .val (.int r4), .val (.int r5), .val (.int r6), .val (.int r7), .val (.int r8), .val (.int r9), .val (.int (1 : Int32))] [])) _
  refine XS.iload X17.here hx rfl (hb hby at_252) rfl ?_
  show Steps p.tables e below (T17.setTop (mkF m 254 #[.val (.int i0), .val (.int c1), .val (.int c2), .val (.int c3), .val (.int z4), .val (.int z5), .val (.int z6), .val (.int o1), .val (.int o2), .val (.int k0), .val (.ref b2), .val (.int r1), .val (.int r2), .val (.int r3), .val (.int r4), .val (.int r5), .val (.int r6), .val (.int r7), .val (.int r8), .val (.int r9), .val (.int (1 : Int32))] [(.int r3)])) _
  refine XS.iload X17.here hx rfl (hb hby at_254) rfl ?_
  show Steps p.tables e below (T17.setTop (mkF m 256 #[.val (.int i0), .val (.int c1), .val (.int c2), .val (.int c3), .val (.int z4), .val (.int z5), .val (.int z6), .val (.int o1), .val (.int o2), .val (.int k0), .val (.ref b2), .val (.int r1), .val (.int r2), .val (.int r3), .val (.int r4), .val (.int r5), .val (.int r6), .val (.int r7), .val (.int r8), .val (.int r9), .val (.int (1 : Int32))] [(.int o2), (.int r3)])) _
  refine XS.iload X17.here hx rfl (hb hby at_256) rfl ?_
  show Steps p.tables e below (T17.setTop (mkF m 258 #[.val (.int i0), .val (.int c1), .val (.int c2), .val (.int c3), .val (.int z4), .val (.int z5), .val (.int z6), .val (.int o1), .val (.int o2), .val (.int k0), .val (.ref b2), .val (.int r1), .val (.int r2), .val (.int r3), .val (.int r4), .val (.int r5), .val (.int r6), .val (.int r7), .val (.int r8), .val (.int r9), .val (.int (1 : Int32))] [(.int k0), (.int o2), (.int r3)])) _
  refine XS.iconst X17.here hx rfl (hb hby at_258) ?_
  show Steps p.tables e below (T17.setTop (mkF m 259 #[.val (.int i0), .val (.int c1), .val (.int c2), .val (.int c3), .val (.int z4), .val (.int z5), .val (.int z6), .val (.int o1), .val (.int o2), .val (.int k0), .val (.ref b2), .val (.int r1), .val (.int r2), .val (.int r3), .val (.int r4), .val (.int r5), .val (.int r6), .val (.int r7), .val (.int r8), .val (.int r9), .val (.int (1 : Int32))] [(.int (2 : Int32)), (.int k0), (.int o2), (.int r3)])) _
  refine XS.iadd X17.here hx rfl (hb hby at_259) rfl ?_
  show Steps p.tables e below (T17.setTop (mkF m 260 #[.val (.int i0), .val (.int c1), .val (.int c2), .val (.int c3), .val (.int z4), .val (.int z5), .val (.int z6), .val (.int o1), .val (.int o2), .val (.int k0), .val (.ref b2), .val (.int r1), .val (.int r2), .val (.int r3), .val (.int r4), .val (.int r5), .val (.int r6), .val (.int r7), .val (.int r8), .val (.int r9), .val (.int (1 : Int32))] [(.int (k0 + (2 : Int32))), (.int o2), (.int r3)])) _
  refine st18 _ ?_
  show Steps p.tables e below (T18.setTop (mkF m 263 #[.val (.int i0), .val (.int c1), .val (.int c2), .val (.int c3), .val (.int z4), .val (.int z5), .val (.int z6), .val (.int o1), .val (.int o2), .val (.int k0), .val (.ref b2), .val (.int r1), .val (.int r2), .val (.int r3), .val (.int r4), .val (.int r5), .val (.int r6), .val (.int r7), .val (.int r8), .val (.int r9), .val (.int (1 : Int32))] [(.int r3), (.int r3)])) _
  refine XS.icmpNo X18.here hx rfl (hb hby at_263) rfl (teq rfl).2 ?_
  show Steps p.tables e below (T18.setTop (mkF m 266 #[.val (.int i0), .val (.int c1), .val (.int c2), .val (.int c3), .val (.int z4), .val (.int z5), .val (.int z6), .val (.int o1), .val (.int o2), .val (.int k0), .val (.ref b2), .val (.int r1), .val (.int r2), .val (.int r3), .val (.int r4), .val (.int r5), .val (.int r6), .val (.int r7), .val (.int r8), .val (.int r9), .val (.int (1 : Int32))] [])) _
  refine XS.iconst X18.here hx rfl (hb hby at_266) ?_
  show Steps p.tables e below (T18.setTop (mkF m 267 #[.val (.int i0), .val (.int c1), .val (.int c2), .val (.int c3), .val (.int z4), .val (.int z5), .val (.int z6), .val (.int o1), .val (.int o2), .val (.int k0), .val (.ref b2), .val (.int r1), .val (.int r2), .val (.int r3), .val (.int r4), .val (.int r5), .val (.int r6), .val (.int r7), .val (.int r8), .val (.int r9), .val (.int (1 : Int32))] [(.int (1 : Int32))])) _
  refine XS.goto X18.here hx rfl (pc0 := 267) (pc' := 271) rfl (hb hby at_267) (by decide) (by decide) ?_
  show Steps p.tables e below (T18.setTop (mkF m 271 #[.val (.int i0), .val (.int c1), .val (.int c2), .val (.int c3), .val (.int z4), .val (.int z5), .val (.int z6), .val (.int o1), .val (.int o2), .val (.int k0), .val (.ref b2), .val (.int r1), .val (.int r2), .val (.int r3), .val (.int r4), .val (.int r5), .val (.int r6), .val (.int r7), .val (.int r8), .val (.int r9), .val (.int (1 : Int32))] [(.int (1 : Int32))])) _
  refine XS.istore X18.here hx rfl (hb hby at_271) rfl (l' := #[.val (.int i0), .val (.int c1), .val (.int c2), .val (.int c3), .val (.int z4), .val (.int z5), .val (.int z6), .val (.int o1), .val (.int o2), .val (.int k0), .val (.ref b2), .val (.int r1), .val (.int r2), .val (.int r3), .val (.int r4), .val (.int r5), .val (.int r6), .val (.int r7), .val (.int r8), .val (.int r9), .val (.int (1 : Int32))]) rfl ?_
  show Steps p.tables e below (T18.setTop (mkF m 273 #[.val (.int i0), .val (.int c1), .val (.int c2), .val (.int c3), .val (.int z4), .val (.int z5), .val (.int z6), .val (.int o1), .val (.int o2), .val (.int k0), .val (.ref b2), .val (.int r1), .val (.int r2), .val (.int r3), .val (.int r4), .val (.int r5), .val (.int r6), .val (.int r7), .val (.int r8), .val (.int r9), .val (.int (1 : Int32))] [])) _
  refine XS.iload X18.here hx rfl (hb hby at_273) rfl ?_
  show Steps p.tables e below (T18.setTop (mkF m 275 #[.val (.int i0), .val (.int c1), .val (.int c2), .val (.int c3), .val (.int z4), .val (.int z5), .val (.int z6), .val (.int o1), .val (.int o2), .val (.int k0), .val (.ref b2), .val (.int r1), .val (.int r2), .val (.int r3), .val (.int r4), .val (.int r5), .val (.int r6), .val (.int r7), .val (.int r8), .val (.int r9), .val (.int (1 : Int32))] [(.int (1 : Int32))])) _
  refine XS.ifNo X18.here hx rfl (hb hby at_275) rfl ((if0 _ _).trans (feq (by decide)).1) ?_
  show Steps p.tables e below (T18.setTop (mkF m 278 #[.val (.int i0), .val (.int c1), .val (.int c2), .val (.int c3), .val (.int z4), .val (.int z5), .val (.int z6), .val (.int o1), .val (.int o2), .val (.int k0), .val (.ref b2), .val (.int r1), .val (.int r2), .val (.int r3), .val (.int r4), .val (.int r5), .val (.int r6), .val (.int r7), .val (.int r8), .val (.int r9), .val (.int (1 : Int32))] [])) _
  refine XS.iload X18.here hx rfl (hb hby at_278) rfl ?_
  show Steps p.tables e below (T18.setTop (mkF m 280 #[.val (.int i0), .val (.int c1), .val (.int c2), .val (.int c3), .val (.int z4), .val (.int z5), .val (.int z6), .val (.int o1), .val (.int o2), .val (.int k0), .val (.ref b2), .val (.int r1), .val (.int r2), .val (.int r3), .val (.int r4), .val (.int r5), .val (.int r6), .val (.int r7), .val (.int r8), .val (.int r9), .val (.int (1 : Int32))] [(.int r4)])) _
  refine XS.iload X18.here hx rfl (hb hby at_280) rfl ?_
  show Steps p.tables e below (T18.setTop (mkF m 282 #[.val (.int i0), .val (.int c1), .val (.int c2), .val (.int c3), .val (.int z4), .val (.int z5), .val (.int z6), .val (.int o1), .val (.int o2), .val (.int k0), .val (.ref b2), .val (.int r1), .val (.int r2), .val (.int r3), .val (.int r4), .val (.int r5), .val (.int r6), .val (.int r7), .val (.int r8), .val (.int r9), .val (.int (1 : Int32))] [(.int o2), (.int r4)])) _
  refine XS.iload X18.here hx rfl (hb hby at_282) rfl ?_
  show Steps p.tables e below (T18.setTop (mkF m 284 #[.val (.int i0), .val (.int c1), .val (.int c2), .val (.int c3), .val (.int z4), .val (.int z5), .val (.int z6), .val (.int o1), .val (.int o2), .val (.int k0), .val (.ref b2), .val (.int r1), .val (.int r2), .val (.int r3), .val (.int r4), .val (.int r5), .val (.int r6), .val (.int r7), .val (.int r8), .val (.int r9), .val (.int (1 : Int32))] [(.int k0), (.int o2), (.int r4)])) _
  refine XS.iconst X18.here hx rfl (hb hby at_284) ?_
  show Steps p.tables e below (T18.setTop (mkF m 285 #[.val (.int i0), .val (.int c1), .val (.int c2), .val (.int c3), .val (.int z4), .val (.int z5), .val (.int z6), .val (.int o1), .val (.int o2), .val (.int k0), .val (.ref b2), .val (.int r1), .val (.int r2), .val (.int r3), .val (.int r4), .val (.int r5), .val (.int r6), .val (.int r7), .val (.int r8), .val (.int r9), .val (.int (1 : Int32))] [(.int (3 : Int32)), (.int k0), (.int o2), (.int r4)])) _
  refine XS.iadd X18.here hx rfl (hb hby at_285) rfl ?_
  show Steps p.tables e below (T18.setTop (mkF m 286 #[.val (.int i0), .val (.int c1), .val (.int c2), .val (.int c3), .val (.int z4), .val (.int z5), .val (.int z6), .val (.int o1), .val (.int o2), .val (.int k0), .val (.ref b2), .val (.int r1), .val (.int r2), .val (.int r3), .val (.int r4), .val (.int r5), .val (.int r6), .val (.int r7), .val (.int r8), .val (.int r9), .val (.int (1 : Int32))] [(.int (k0 + (3 : Int32))), (.int o2), (.int r4)])) _
  refine st19 _ ?_
  show Steps p.tables e below (T19.setTop (mkF m 289 #[.val (.int i0), .val (.int c1), .val (.int c2), .val (.int c3), .val (.int z4), .val (.int z5), .val (.int z6), .val (.int o1), .val (.int o2), .val (.int k0), .val (.ref b2), .val (.int r1), .val (.int r2), .val (.int r3), .val (.int r4), .val (.int r5), .val (.int r6), .val (.int r7), .val (.int r8), .val (.int r9), .val (.int (1 : Int32))] [(.int r4), (.int r4)])) _
  refine XS.icmpNo X19.here hx rfl (hb hby at_289) rfl (teq rfl).2 ?_
  show Steps p.tables e below (T19.setTop (mkF m 292 #[.val (.int i0), .val (.int c1), .val (.int c2), .val (.int c3), .val (.int z4), .val (.int z5), .val (.int z6), .val (.int o1), .val (.int o2), .val (.int k0), .val (.ref b2), .val (.int r1), .val (.int r2), .val (.int r3), .val (.int r4), .val (.int r5), .val (.int r6), .val (.int r7), .val (.int r8), .val (.int r9), .val (.int (1 : Int32))] [])) _
  refine XS.iconst X19.here hx rfl (hb hby at_292) ?_
  show Steps p.tables e below (T19.setTop (mkF m 293 #[.val (.int i0), .val (.int c1), .val (.int c2), .val (.int c3), .val (.int z4), .val (.int z5), .val (.int z6), .val (.int o1), .val (.int o2), .val (.int k0), .val (.ref b2), .val (.int r1), .val (.int r2), .val (.int r3), .val (.int r4), .val (.int r5), .val (.int r6), .val (.int r7), .val (.int r8), .val (.int r9), .val (.int (1 : Int32))] [(.int (1 : Int32))])) _
  refine XS.goto X19.here hx rfl (pc0 := 293) (pc' := 297) rfl (hb hby at_293) (by decide) (by decide) ?_
  show Steps p.tables e below (T19.setTop (mkF m 297 #[.val (.int i0), .val (.int c1), .val (.int c2), .val (.int c3), .val (.int z4), .val (.int z5), .val (.int z6), .val (.int o1), .val (.int o2), .val (.int k0), .val (.ref b2), .val (.int r1), .val (.int r2), .val (.int r3), .val (.int r4), .val (.int r5), .val (.int r6), .val (.int r7), .val (.int r8), .val (.int r9), .val (.int (1 : Int32))] [(.int (1 : Int32))])) _
  refine XS.istore X19.here hx rfl (hb hby at_297) rfl (l' := #[.val (.int i0), .val (.int c1), .val (.int c2), .val (.int c3), .val (.int z4), .val (.int z5), .val (.int z6), .val (.int o1), .val (.int o2), .val (.int k0), .val (.ref b2), .val (.int r1), .val (.int r2), .val (.int r3), .val (.int r4), .val (.int r5), .val (.int r6), .val (.int r7), .val (.int r8), .val (.int r9), .val (.int (1 : Int32))]) rfl ?_
  show Steps p.tables e below (T19.setTop (mkF m 299 #[.val (.int i0), .val (.int c1), .val (.int c2), .val (.int c3), .val (.int z4), .val (.int z5), .val (.int z6), .val (.int o1), .val (.int o2), .val (.int k0), .val (.ref b2), .val (.int r1), .val (.int r2), .val (.int r3), .val (.int r4), .val (.int r5), .val (.int r6), .val (.int r7), .val (.int r8), .val (.int r9), .val (.int (1 : Int32))] [])) _
  refine XS.iload X19.here hx rfl (hb hby at_299) rfl ?_
  show Steps p.tables e below (T19.setTop (mkF m 301 #[.val (.int i0), .val (.int c1), .val (.int c2), .val (.int c3), .val (.int z4), .val (.int z5), .val (.int z6), .val (.int o1), .val (.int o2), .val (.int k0), .val (.ref b2), .val (.int r1), .val (.int r2), .val (.int r3), .val (.int r4), .val (.int r5), .val (.int r6), .val (.int r7), .val (.int r8), .val (.int r9), .val (.int (1 : Int32))] [(.int (1 : Int32))])) _
  refine XS.ifNo X19.here hx rfl (hb hby at_301) rfl ((if0 _ _).trans (feq (by decide)).1) ?_
  show Steps p.tables e below (T19.setTop (mkF m 304 #[.val (.int i0), .val (.int c1), .val (.int c2), .val (.int c3), .val (.int z4), .val (.int z5), .val (.int z6), .val (.int o1), .val (.int o2), .val (.int k0), .val (.ref b2), .val (.int r1), .val (.int r2), .val (.int r3), .val (.int r4), .val (.int r5), .val (.int r6), .val (.int r7), .val (.int r8), .val (.int r9), .val (.int (1 : Int32))] [])) _
  refine XS.iload X19.here hx rfl (hb hby at_304) rfl ?_
  show Steps p.tables e below (T19.setTop (mkF m 306 #[.val (.int i0), .val (.int c1), .val (.int c2), .val (.int c3), .val (.int z4), .val (.int z5), .val (.int z6), .val (.int o1), .val (.int o2), .val (.int k0), .val (.ref b2), .val (.int r1), .val (.int r2), .val (.int r3), .val (.int r4), .val (.int r5), .val (.int r6), .val (.int r7), .val (.int r8), .val (.int r9), .val (.int (1 : Int32))] [(.int r5)])) _
  refine XS.iload X19.here hx rfl (hb hby at_306) rfl ?_
  show Steps p.tables e below (T19.setTop (mkF m 308 #[.val (.int i0), .val (.int c1), .val (.int c2), .val (.int c3), .val (.int z4), .val (.int z5), .val (.int z6), .val (.int o1), .val (.int o2), .val (.int k0), .val (.ref b2), .val (.int r1), .val (.int r2), .val (.int r3), .val (.int r4), .val (.int r5), .val (.int r6), .val (.int r7), .val (.int r8), .val (.int r9), .val (.int (1 : Int32))] [(.int o2), (.int r5)])) _
  refine XS.iload X19.here hx rfl (hb hby at_308) rfl ?_
  show Steps p.tables e below (T19.setTop (mkF m 310 #[.val (.int i0), .val (.int c1), .val (.int c2), .val (.int c3), .val (.int z4), .val (.int z5), .val (.int z6), .val (.int o1), .val (.int o2), .val (.int k0), .val (.ref b2), .val (.int r1), .val (.int r2), .val (.int r3), .val (.int r4), .val (.int r5), .val (.int r6), .val (.int r7), .val (.int r8), .val (.int r9), .val (.int (1 : Int32))] [(.int k0), (.int o2), (.int r5)])) _
  refine XS.iconst X19.here hx rfl (hb hby at_310) ?_
  show Steps p.tables e below (T19.setTop (mkF m 311 #[.val (.int i0), .val (.int c1), .val (.int c2), .val (.int c3), .val (.int z4), .val (.int z5), .val (.int z6), .val (.int o1), .val (.int o2), .val (.int k0), .val (.ref b2), .val (.int r1), .val (.int r2), .val (.int r3), .val (.int r4), .val (.int r5), .val (.int r6), .val (.int r7), .val (.int r8), .val (.int r9), .val (.int (1 : Int32))] [(.int (4 : Int32)), (.int k0), (.int o2), (.int r5)])) _
  refine XS.iadd X19.here hx rfl (hb hby at_311) rfl ?_
  show Steps p.tables e below (T19.setTop (mkF m 312 #[.val (.int i0), .val (.int c1), .val (.int c2), .val (.int c3), .val (.int z4), .val (.int z5), .val (.int z6), .val (.int o1), .val (.int o2), .val (.int k0), .val (.ref b2), .val (.int r1), .val (.int r2), .val (.int r3), .val (.int r4), .val (.int r5), .val (.int r6), .val (.int r7), .val (.int r8), .val (.int r9), .val (.int (1 : Int32))] [(.int (k0 + (4 : Int32))), (.int o2), (.int r5)])) _
  refine st20 _ ?_
  show Steps p.tables e below (T20.setTop (mkF m 315 #[.val (.int i0), .val (.int c1), .val (.int c2), .val (.int c3), .val (.int z4), .val (.int z5), .val (.int z6), .val (.int o1), .val (.int o2), .val (.int k0), .val (.ref b2), .val (.int r1), .val (.int r2), .val (.int r3), .val (.int r4), .val (.int r5), .val (.int r6), .val (.int r7), .val (.int r8), .val (.int r9), .val (.int (1 : Int32))] [(.int r5), (.int r5)])) _
  refine XS.icmpNo X20.here hx rfl (hb hby at_315) rfl (teq rfl).2 ?_
  show Steps p.tables e below (T20.setTop (mkF m 318 #[.val (.int i0), .val (.int c1), .val (.int c2), .val (.int c3), .val (.int z4), .val (.int z5), .val (.int z6), .val (.int o1), .val (.int o2), .val (.int k0), .val (.ref b2), .val (.int r1), .val (.int r2), .val (.int r3), .val (.int r4), .val (.int r5), .val (.int r6), .val (.int r7), .val (.int r8), .val (.int r9), .val (.int (1 : Int32))] [])) _
  refine XS.iconst X20.here hx rfl (hb hby at_318) ?_
  show Steps p.tables e below (T20.setTop (mkF m 319 #[.val (.int i0), .val (.int c1), .val (.int c2), .val (.int c3), .val (.int z4), .val (.int z5), .val (.int z6), .val (.int o1), .val (.int o2), .val (.int k0), .val (.ref b2), .val (.int r1), .val (.int r2), .val (.int r3), .val (.int r4), .val (.int r5), .val (.int r6), .val (.int r7), .val (.int r8), .val (.int r9), .val (.int (1 : Int32))] [(.int (1 : Int32))])) _
  refine XS.goto X20.here hx rfl (pc0 := 319) (pc' := 323) rfl (hb hby at_319) (by decide) (by decide) ?_
  show Steps p.tables e below (T20.setTop (mkF m 323 #[.val (.int i0), .val (.int c1), .val (.int c2), .val (.int c3), .val (.int z4), .val (.int z5), .val (.int z6), .val (.int o1), .val (.int o2), .val (.int k0), .val (.ref b2), .val (.int r1), .val (.int r2), .val (.int r3), .val (.int r4), .val (.int r5), .val (.int r6), .val (.int r7), .val (.int r8), .val (.int r9), .val (.int (1 : Int32))] [(.int (1 : Int32))])) _
  refine XS.istore X20.here hx rfl (hb hby at_323) rfl (l' := #[.val (.int i0), .val (.int c1), .val (.int c2), .val (.int c3), .val (.int z4), .val (.int z5), .val (.int z6), .val (.int o1), .val (.int o2), .val (.int k0), .val (.ref b2), .val (.int r1), .val (.int r2), .val (.int r3), .val (.int r4), .val (.int r5), .val (.int r6), .val (.int r7), .val (.int r8), .val (.int r9), .val (.int (1 : Int32))]) rfl ?_
  show Steps p.tables e below (T20.setTop (mkF m 325 #[.val (.int i0), .val (.int c1), .val (.int c2), .val (.int c3), .val (.int z4), .val (.int z5), .val (.int z6), .val (.int o1), .val (.int o2), .val (.int k0), .val (.ref b2), .val (.int r1), .val (.int r2), .val (.int r3), .val (.int r4), .val (.int r5), .val (.int r6), .val (.int r7), .val (.int r8), .val (.int r9), .val (.int (1 : Int32))] [])) _
  refine XS.iload X20.here hx rfl (hb hby at_325) rfl ?_
  show Steps p.tables e below (T20.setTop (mkF m 327 #[.val (.int i0), .val (.int c1), .val (.int c2), .val (.int c3), .val (.int z4), .val (.int z5), .val (.int z6), .val (.int o1), .val (.int o2), .val (.int k0), .val (.ref b2), .val (.int r1), .val (.int r2), .val (.int r3), .val (.int r4), .val (.int r5), .val (.int r6), .val (.int r7), .val (.int r8), .val (.int r9), .val (.int (1 : Int32))] [(.int (1 : Int32))])) _
  refine XS.ifNo X20.here hx rfl (hb hby at_327) rfl ((if0 _ _).trans (feq (by decide)).1) ?_
  show Steps p.tables e below (T20.setTop (mkF m 330 #[.val (.int i0), .val (.int c1), .val (.int c2), .val (.int c3), .val (.int z4), .val (.int z5), .val (.int z6), .val (.int o1), .val (.int o2), .val (.int k0), .val (.ref b2), .val (.int r1), .val (.int r2), .val (.int r3), .val (.int r4), .val (.int r5), .val (.int r6), .val (.int r7), .val (.int r8), .val (.int r9), .val (.int (1 : Int32))] [])) _
  refine XS.iload X20.here hx rfl (hb hby at_330) rfl ?_
  show Steps p.tables e below (T20.setTop (mkF m 332 #[.val (.int i0), .val (.int c1), .val (.int c2), .val (.int c3), .val (.int z4), .val (.int z5), .val (.int z6), .val (.int o1), .val (.int o2), .val (.int k0), .val (.ref b2), .val (.int r1), .val (.int r2), .val (.int r3), .val (.int r4), .val (.int r5), .val (.int r6), .val (.int r7), .val (.int r8), .val (.int r9), .val (.int (1 : Int32))] [(.int r6)])) _
  refine XS.iload X20.here hx rfl (hb hby at_332) rfl ?_
  show Steps p.tables e below (T20.setTop (mkF m 334 #[.val (.int i0), .val (.int c1), .val (.int c2), .val (.int c3), .val (.int z4), .val (.int z5), .val (.int z6), .val (.int o1), .val (.int o2), .val (.int k0), .val (.ref b2), .val (.int r1), .val (.int r2), .val (.int r3), .val (.int r4), .val (.int r5), .val (.int r6), .val (.int r7), .val (.int r8), .val (.int r9), .val (.int (1 : Int32))] [(.int o2), (.int r6)])) _
  refine XS.iload X20.here hx rfl (hb hby at_334) rfl ?_
  show Steps p.tables e below (T20.setTop (mkF m 336 #[.val (.int i0), .val (.int c1), .val (.int c2), .val (.int c3), .val (.int z4), .val (.int z5), .val (.int z6), .val (.int o1), .val (.int o2), .val (.int k0), .val (.ref b2), .val (.int r1), .val (.int r2), .val (.int r3), .val (.int r4), .val (.int r5), .val (.int r6), .val (.int r7), .val (.int r8), .val (.int r9), .val (.int (1 : Int32))] [(.int k0), (.int o2), (.int r6)])) _
  refine XS.iconst X20.here hx rfl (hb hby at_336) ?_
  show Steps p.tables e below (T20.setTop (mkF m 337 #[.val (.int i0), .val (.int c1), .val (.int c2), .val (.int c3), .val (.int z4), .val (.int z5), .val (.int z6), .val (.int o1), .val (.int o2), .val (.int k0), .val (.ref b2), .val (.int r1), .val (.int r2), .val (.int r3), .val (.int r4), .val (.int r5), .val (.int r6), .val (.int r7), .val (.int r8), .val (.int r9), .val (.int (1 : Int32))] [(.int (5 : Int32)), (.int k0), (.int o2), (.int r6)])) _
  refine XS.iadd X20.here hx rfl (hb hby at_337) rfl ?_
  show Steps p.tables e below (T20.setTop (mkF m 338 #[.val (.int i0), .val (.int c1), .val (.int c2), .val (.int c3), .val (.int z4), .val (.int z5), .val (.int z6), .val (.int o1), .val (.int o2), .val (.int k0), .val (.ref b2), .val (.int r1), .val (.int r2), .val (.int r3), .val (.int r4), .val (.int r5), .val (.int r6), .val (.int r7), .val (.int r8), .val (.int r9), .val (.int (1 : Int32))] [(.int (k0 + (5 : Int32))), (.int o2), (.int r6)])) _
  refine st21 _ ?_
  show Steps p.tables e below (T21.setTop (mkF m 341 #[.val (.int i0), .val (.int c1), .val (.int c2), .val (.int c3), .val (.int z4), .val (.int z5), .val (.int z6), .val (.int o1), .val (.int o2), .val (.int k0), .val (.ref b2), .val (.int r1), .val (.int r2), .val (.int r3), .val (.int r4), .val (.int r5), .val (.int r6), .val (.int r7), .val (.int r8), .val (.int r9), .val (.int (1 : Int32))] [(.int r6), (.int r6)])) _
  refine XS.icmpNo X21.here hx rfl (hb hby at_341) rfl (teq rfl).2 ?_
  show Steps p.tables e below (T21.setTop (mkF m 344 #[.val (.int i0), .val (.int c1), .val (.int c2), .val (.int c3), .val (.int z4), .val (.int z5), .val (.int z6), .val (.int o1), .val (.int o2), .val (.int k0), .val (.ref b2), .val (.int r1), .val (.int r2), .val (.int r3), .val (.int r4), .val (.int r5), .val (.int r6), .val (.int r7), .val (.int r8), .val (.int r9), .val (.int (1 : Int32))] [])) _
  refine XS.iconst X21.here hx rfl (hb hby at_344) ?_
  show Steps p.tables e below (T21.setTop (mkF m 345 #[.val (.int i0), .val (.int c1), .val (.int c2), .val (.int c3), .val (.int z4), .val (.int z5), .val (.int z6), .val (.int o1), .val (.int o2), .val (.int k0), .val (.ref b2), .val (.int r1), .val (.int r2), .val (.int r3), .val (.int r4), .val (.int r5), .val (.int r6), .val (.int r7), .val (.int r8), .val (.int r9), .val (.int (1 : Int32))] [(.int (1 : Int32))])) _
  refine XS.goto X21.here hx rfl (pc0 := 345) (pc' := 349) rfl (hb hby at_345) (by decide) (by decide) ?_
  show Steps p.tables e below (T21.setTop (mkF m 349 #[.val (.int i0), .val (.int c1), .val (.int c2), .val (.int c3), .val (.int z4), .val (.int z5), .val (.int z6), .val (.int o1), .val (.int o2), .val (.int k0), .val (.ref b2), .val (.int r1), .val (.int r2), .val (.int r3), .val (.int r4), .val (.int r5), .val (.int r6), .val (.int r7), .val (.int r8), .val (.int r9), .val (.int (1 : Int32))] [(.int (1 : Int32))])) _
  refine XS.istore X21.here hx rfl (hb hby at_349) rfl (l' := #[.val (.int i0), .val (.int c1), .val (.int c2), .val (.int c3), .val (.int z4), .val (.int z5), .val (.int z6), .val (.int o1), .val (.int o2), .val (.int k0), .val (.ref b2), .val (.int r1), .val (.int r2), .val (.int r3), .val (.int r4), .val (.int r5), .val (.int r6), .val (.int r7), .val (.int r8), .val (.int r9), .val (.int (1 : Int32))]) rfl ?_
  show Steps p.tables e below (T21.setTop (mkF m 351 #[.val (.int i0), .val (.int c1), .val (.int c2), .val (.int c3), .val (.int z4), .val (.int z5), .val (.int z6), .val (.int o1), .val (.int o2), .val (.int k0), .val (.ref b2), .val (.int r1), .val (.int r2), .val (.int r3), .val (.int r4), .val (.int r5), .val (.int r6), .val (.int r7), .val (.int r8), .val (.int r9), .val (.int (1 : Int32))] [])) _
  refine XS.iload X21.here hx rfl (hb hby at_351) rfl ?_
  show Steps p.tables e below (T21.setTop (mkF m 353 #[.val (.int i0), .val (.int c1), .val (.int c2), .val (.int c3), .val (.int z4), .val (.int z5), .val (.int z6), .val (.int o1), .val (.int o2), .val (.int k0), .val (.ref b2), .val (.int r1), .val (.int r2), .val (.int r3), .val (.int r4), .val (.int r5), .val (.int r6), .val (.int r7), .val (.int r8), .val (.int r9), .val (.int (1 : Int32))] [(.int (1 : Int32))])) _
  refine XS.ifNo X21.here hx rfl (hb hby at_353) rfl ((if0 _ _).trans (feq (by decide)).1) ?_
  show Steps p.tables e below (T21.setTop (mkF m 356 #[.val (.int i0), .val (.int c1), .val (.int c2), .val (.int c3), .val (.int z4), .val (.int z5), .val (.int z6), .val (.int o1), .val (.int o2), .val (.int k0), .val (.ref b2), .val (.int r1), .val (.int r2), .val (.int r3), .val (.int r4), .val (.int r5), .val (.int r6), .val (.int r7), .val (.int r8), .val (.int r9), .val (.int (1 : Int32))] [])) _
  refine XS.iload X21.here hx rfl (hb hby at_356) rfl ?_
  show Steps p.tables e below (T21.setTop (mkF m 358 #[.val (.int i0), .val (.int c1), .val (.int c2), .val (.int c3), .val (.int z4), .val (.int z5), .val (.int z6), .val (.int o1), .val (.int o2), .val (.int k0), .val (.ref b2), .val (.int r1), .val (.int r2), .val (.int r3), .val (.int r4), .val (.int r5), .val (.int r6), .val (.int r7), .val (.int r8), .val (.int r9), .val (.int (1 : Int32))] [(.int r7)])) _
  refine XS.iload X21.here hx rfl (hb hby at_358) rfl ?_
  show Steps p.tables e below (T21.setTop (mkF m 360 #[.val (.int i0), .val (.int c1), .val (.int c2), .val (.int c3), .val (.int z4), .val (.int z5), .val (.int z6), .val (.int o1), .val (.int o2), .val (.int k0), .val (.ref b2), .val (.int r1), .val (.int r2), .val (.int r3), .val (.int r4), .val (.int r5), .val (.int r6), .val (.int r7), .val (.int r8), .val (.int r9), .val (.int (1 : Int32))] [(.int o2), (.int r7)])) _
  refine XS.iload X21.here hx rfl (hb hby at_360) rfl ?_
  show Steps p.tables e below (T21.setTop (mkF m 362 #[.val (.int i0), .val (.int c1), .val (.int c2), .val (.int c3), .val (.int z4), .val (.int z5), .val (.int z6), .val (.int o1), .val (.int o2), .val (.int k0), .val (.ref b2), .val (.int r1), .val (.int r2), .val (.int r3), .val (.int r4), .val (.int r5), .val (.int r6), .val (.int r7), .val (.int r8), .val (.int r9), .val (.int (1 : Int32))] [(.int k0), (.int o2), (.int r7)])) _
  refine XS.bipush X21.here hx rfl (hb hby at_362) ?_
  show Steps p.tables e below (T21.setTop (mkF m 364 #[.val (.int i0), .val (.int c1), .val (.int c2), .val (.int c3), .val (.int z4), .val (.int z5), .val (.int z6), .val (.int o1), .val (.int o2), .val (.int k0), .val (.ref b2), .val (.int r1), .val (.int r2), .val (.int r3), .val (.int r4), .val (.int r5), .val (.int r6), .val (.int r7), .val (.int r8), .val (.int r9), .val (.int (1 : Int32))] [(.int (6 : Int32)), (.int k0), (.int o2), (.int r7)])) _
  refine XS.iadd X21.here hx rfl (hb hby at_364) rfl ?_
  show Steps p.tables e below (T21.setTop (mkF m 365 #[.val (.int i0), .val (.int c1), .val (.int c2), .val (.int c3), .val (.int z4), .val (.int z5), .val (.int z6), .val (.int o1), .val (.int o2), .val (.int k0), .val (.ref b2), .val (.int r1), .val (.int r2), .val (.int r3), .val (.int r4), .val (.int r5), .val (.int r6), .val (.int r7), .val (.int r8), .val (.int r9), .val (.int (1 : Int32))] [(.int (k0 + (6 : Int32))), (.int o2), (.int r7)])) _
  refine st22 _ ?_
  show Steps p.tables e below (T22.setTop (mkF m 368 #[.val (.int i0), .val (.int c1), .val (.int c2), .val (.int c3), .val (.int z4), .val (.int z5), .val (.int z6), .val (.int o1), .val (.int o2), .val (.int k0), .val (.ref b2), .val (.int r1), .val (.int r2), .val (.int r3), .val (.int r4), .val (.int r5), .val (.int r6), .val (.int r7), .val (.int r8), .val (.int r9), .val (.int (1 : Int32))] [(.int r7), (.int r7)])) _
  refine XS.icmpNo X22.here hx rfl (hb hby at_368) rfl (teq rfl).2 ?_
  show Steps p.tables e below (T22.setTop (mkF m 371 #[.val (.int i0), .val (.int c1), .val (.int c2), .val (.int c3), .val (.int z4), .val (.int z5), .val (.int z6), .val (.int o1), .val (.int o2), .val (.int k0), .val (.ref b2), .val (.int r1), .val (.int r2), .val (.int r3), .val (.int r4), .val (.int r5), .val (.int r6), .val (.int r7), .val (.int r8), .val (.int r9), .val (.int (1 : Int32))] [])) _
  refine XS.iconst X22.here hx rfl (hb hby at_371) ?_
  show Steps p.tables e below (T22.setTop (mkF m 372 #[.val (.int i0), .val (.int c1), .val (.int c2), .val (.int c3), .val (.int z4), .val (.int z5), .val (.int z6), .val (.int o1), .val (.int o2), .val (.int k0), .val (.ref b2), .val (.int r1), .val (.int r2), .val (.int r3), .val (.int r4), .val (.int r5), .val (.int r6), .val (.int r7), .val (.int r8), .val (.int r9), .val (.int (1 : Int32))] [(.int (1 : Int32))])) _
  refine XS.goto X22.here hx rfl (pc0 := 372) (pc' := 376) rfl (hb hby at_372) (by decide) (by decide) ?_
  show Steps p.tables e below (T22.setTop (mkF m 376 #[.val (.int i0), .val (.int c1), .val (.int c2), .val (.int c3), .val (.int z4), .val (.int z5), .val (.int z6), .val (.int o1), .val (.int o2), .val (.int k0), .val (.ref b2), .val (.int r1), .val (.int r2), .val (.int r3), .val (.int r4), .val (.int r5), .val (.int r6), .val (.int r7), .val (.int r8), .val (.int r9), .val (.int (1 : Int32))] [(.int (1 : Int32))])) _
  refine XS.istore X22.here hx rfl (hb hby at_376) rfl (l' := #[.val (.int i0), .val (.int c1), .val (.int c2), .val (.int c3), .val (.int z4), .val (.int z5), .val (.int z6), .val (.int o1), .val (.int o2), .val (.int k0), .val (.ref b2), .val (.int r1), .val (.int r2), .val (.int r3), .val (.int r4), .val (.int r5), .val (.int r6), .val (.int r7), .val (.int r8), .val (.int r9), .val (.int (1 : Int32))]) rfl ?_
  show Steps p.tables e below (T22.setTop (mkF m 378 #[.val (.int i0), .val (.int c1), .val (.int c2), .val (.int c3), .val (.int z4), .val (.int z5), .val (.int z6), .val (.int o1), .val (.int o2), .val (.int k0), .val (.ref b2), .val (.int r1), .val (.int r2), .val (.int r3), .val (.int r4), .val (.int r5), .val (.int r6), .val (.int r7), .val (.int r8), .val (.int r9), .val (.int (1 : Int32))] [])) _
  refine XS.iload X22.here hx rfl (hb hby at_378) rfl ?_
  show Steps p.tables e below (T22.setTop (mkF m 380 #[.val (.int i0), .val (.int c1), .val (.int c2), .val (.int c3), .val (.int z4), .val (.int z5), .val (.int z6), .val (.int o1), .val (.int o2), .val (.int k0), .val (.ref b2), .val (.int r1), .val (.int r2), .val (.int r3), .val (.int r4), .val (.int r5), .val (.int r6), .val (.int r7), .val (.int r8), .val (.int r9), .val (.int (1 : Int32))] [(.int (1 : Int32))])) _
  refine XS.ifNo X22.here hx rfl (hb hby at_380) rfl ((if0 _ _).trans (feq (by decide)).1) ?_
  show Steps p.tables e below (T22.setTop (mkF m 383 #[.val (.int i0), .val (.int c1), .val (.int c2), .val (.int c3), .val (.int z4), .val (.int z5), .val (.int z6), .val (.int o1), .val (.int o2), .val (.int k0), .val (.ref b2), .val (.int r1), .val (.int r2), .val (.int r3), .val (.int r4), .val (.int r5), .val (.int r6), .val (.int r7), .val (.int r8), .val (.int r9), .val (.int (1 : Int32))] [])) _
  refine XS.iload X22.here hx rfl (hb hby at_383) rfl ?_
  show Steps p.tables e below (T22.setTop (mkF m 385 #[.val (.int i0), .val (.int c1), .val (.int c2), .val (.int c3), .val (.int z4), .val (.int z5), .val (.int z6), .val (.int o1), .val (.int o2), .val (.int k0), .val (.ref b2), .val (.int r1), .val (.int r2), .val (.int r3), .val (.int r4), .val (.int r5), .val (.int r6), .val (.int r7), .val (.int r8), .val (.int r9), .val (.int (1 : Int32))] [(.int r8)])) _
  refine XS.iload X22.here hx rfl (hb hby at_385) rfl ?_
  show Steps p.tables e below (T22.setTop (mkF m 387 #[.val (.int i0), .val (.int c1), .val (.int c2), .val (.int c3), .val (.int z4), .val (.int z5), .val (.int z6), .val (.int o1), .val (.int o2), .val (.int k0), .val (.ref b2), .val (.int r1), .val (.int r2), .val (.int r3), .val (.int r4), .val (.int r5), .val (.int r6), .val (.int r7), .val (.int r8), .val (.int r9), .val (.int (1 : Int32))] [(.int o2), (.int r8)])) _
  refine XS.iload X22.here hx rfl (hb hby at_387) rfl ?_
  show Steps p.tables e below (T22.setTop (mkF m 389 #[.val (.int i0), .val (.int c1), .val (.int c2), .val (.int c3), .val (.int z4), .val (.int z5), .val (.int z6), .val (.int o1), .val (.int o2), .val (.int k0), .val (.ref b2), .val (.int r1), .val (.int r2), .val (.int r3), .val (.int r4), .val (.int r5), .val (.int r6), .val (.int r7), .val (.int r8), .val (.int r9), .val (.int (1 : Int32))] [(.int k0), (.int o2), (.int r8)])) _
  refine XS.bipush X22.here hx rfl (hb hby at_389) ?_
  show Steps p.tables e below (T22.setTop (mkF m 391 #[.val (.int i0), .val (.int c1), .val (.int c2), .val (.int c3), .val (.int z4), .val (.int z5), .val (.int z6), .val (.int o1), .val (.int o2), .val (.int k0), .val (.ref b2), .val (.int r1), .val (.int r2), .val (.int r3), .val (.int r4), .val (.int r5), .val (.int r6), .val (.int r7), .val (.int r8), .val (.int r9), .val (.int (1 : Int32))] [(.int (7 : Int32)), (.int k0), (.int o2), (.int r8)])) _
  refine XS.iadd X22.here hx rfl (hb hby at_391) rfl ?_
  show Steps p.tables e below (T22.setTop (mkF m 392 #[.val (.int i0), .val (.int c1), .val (.int c2), .val (.int c3), .val (.int z4), .val (.int z5), .val (.int z6), .val (.int o1), .val (.int o2), .val (.int k0), .val (.ref b2), .val (.int r1), .val (.int r2), .val (.int r3), .val (.int r4), .val (.int r5), .val (.int r6), .val (.int r7), .val (.int r8), .val (.int r9), .val (.int (1 : Int32))] [(.int (k0 + (7 : Int32))), (.int o2), (.int r8)])) _
  refine st23 _ ?_
  show Steps p.tables e below (T23.setTop (mkF m 395 #[.val (.int i0), .val (.int c1), .val (.int c2), .val (.int c3), .val (.int z4), .val (.int z5), .val (.int z6), .val (.int o1), .val (.int o2), .val (.int k0), .val (.ref b2), .val (.int r1), .val (.int r2), .val (.int r3), .val (.int r4), .val (.int r5), .val (.int r6), .val (.int r7), .val (.int r8), .val (.int r9), .val (.int (1 : Int32))] [(.int r8), (.int r8)])) _
  refine XS.icmpNo X23.here hx rfl (hb hby at_395) rfl (teq rfl).2 ?_
  show Steps p.tables e below (T23.setTop (mkF m 398 #[.val (.int i0), .val (.int c1), .val (.int c2), .val (.int c3), .val (.int z4), .val (.int z5), .val (.int z6), .val (.int o1), .val (.int o2), .val (.int k0), .val (.ref b2), .val (.int r1), .val (.int r2), .val (.int r3), .val (.int r4), .val (.int r5), .val (.int r6), .val (.int r7), .val (.int r8), .val (.int r9), .val (.int (1 : Int32))] [])) _
  refine XS.iconst X23.here hx rfl (hb hby at_398) ?_
  show Steps p.tables e below (T23.setTop (mkF m 399 #[.val (.int i0), .val (.int c1), .val (.int c2), .val (.int c3), .val (.int z4), .val (.int z5), .val (.int z6), .val (.int o1), .val (.int o2), .val (.int k0), .val (.ref b2), .val (.int r1), .val (.int r2), .val (.int r3), .val (.int r4), .val (.int r5), .val (.int r6), .val (.int r7), .val (.int r8), .val (.int r9), .val (.int (1 : Int32))] [(.int (1 : Int32))])) _
  refine XS.goto X23.here hx rfl (pc0 := 399) (pc' := 403) rfl (hb hby at_399) (by decide) (by decide) ?_
  show Steps p.tables e below (T23.setTop (mkF m 403 #[.val (.int i0), .val (.int c1), .val (.int c2), .val (.int c3), .val (.int z4), .val (.int z5), .val (.int z6), .val (.int o1), .val (.int o2), .val (.int k0), .val (.ref b2), .val (.int r1), .val (.int r2), .val (.int r3), .val (.int r4), .val (.int r5), .val (.int r6), .val (.int r7), .val (.int r8), .val (.int r9), .val (.int (1 : Int32))] [(.int (1 : Int32))])) _
  refine XS.istore X23.here hx rfl (hb hby at_403) rfl (l' := #[.val (.int i0), .val (.int c1), .val (.int c2), .val (.int c3), .val (.int z4), .val (.int z5), .val (.int z6), .val (.int o1), .val (.int o2), .val (.int k0), .val (.ref b2), .val (.int r1), .val (.int r2), .val (.int r3), .val (.int r4), .val (.int r5), .val (.int r6), .val (.int r7), .val (.int r8), .val (.int r9), .val (.int (1 : Int32))]) rfl ?_
  show Steps p.tables e below (T23.setTop (mkF m 405 #[.val (.int i0), .val (.int c1), .val (.int c2), .val (.int c3), .val (.int z4), .val (.int z5), .val (.int z6), .val (.int o1), .val (.int o2), .val (.int k0), .val (.ref b2), .val (.int r1), .val (.int r2), .val (.int r3), .val (.int r4), .val (.int r5), .val (.int r6), .val (.int r7), .val (.int r8), .val (.int r9), .val (.int (1 : Int32))] [])) _
  refine XS.iload X23.here hx rfl (hb hby at_405) rfl ?_
  show Steps p.tables e below (T23.setTop (mkF m 407 #[.val (.int i0), .val (.int c1), .val (.int c2), .val (.int c3), .val (.int z4), .val (.int z5), .val (.int z6), .val (.int o1), .val (.int o2), .val (.int k0), .val (.ref b2), .val (.int r1), .val (.int r2), .val (.int r3), .val (.int r4), .val (.int r5), .val (.int r6), .val (.int r7), .val (.int r8), .val (.int r9), .val (.int (1 : Int32))] [(.int (1 : Int32))])) _
  refine XS.ifNo X23.here hx rfl (hb hby at_407) rfl ((if0 _ _).trans (feq (by decide)).1) ?_
  show Steps p.tables e below (T23.setTop (mkF m 410 #[.val (.int i0), .val (.int c1), .val (.int c2), .val (.int c3), .val (.int z4), .val (.int z5), .val (.int z6), .val (.int o1), .val (.int o2), .val (.int k0), .val (.ref b2), .val (.int r1), .val (.int r2), .val (.int r3), .val (.int r4), .val (.int r5), .val (.int r6), .val (.int r7), .val (.int r8), .val (.int r9), .val (.int (1 : Int32))] [])) _
  refine XS.iload X23.here hx rfl (hb hby at_410) rfl ?_
  show Steps p.tables e below (T23.setTop (mkF m 412 #[.val (.int i0), .val (.int c1), .val (.int c2), .val (.int c3), .val (.int z4), .val (.int z5), .val (.int z6), .val (.int o1), .val (.int o2), .val (.int k0), .val (.ref b2), .val (.int r1), .val (.int r2), .val (.int r3), .val (.int r4), .val (.int r5), .val (.int r6), .val (.int r7), .val (.int r8), .val (.int r9), .val (.int (1 : Int32))] [(.int r9)])) _
  refine XS.iload X23.here hx rfl (hb hby at_412) rfl ?_
  show Steps p.tables e below (T23.setTop (mkF m 414 #[.val (.int i0), .val (.int c1), .val (.int c2), .val (.int c3), .val (.int z4), .val (.int z5), .val (.int z6), .val (.int o1), .val (.int o2), .val (.int k0), .val (.ref b2), .val (.int r1), .val (.int r2), .val (.int r3), .val (.int r4), .val (.int r5), .val (.int r6), .val (.int r7), .val (.int r8), .val (.int r9), .val (.int (1 : Int32))] [(.int o2), (.int r9)])) _
  refine XS.iload X23.here hx rfl (hb hby at_414) rfl ?_
  show Steps p.tables e below (T23.setTop (mkF m 416 #[.val (.int i0), .val (.int c1), .val (.int c2), .val (.int c3), .val (.int z4), .val (.int z5), .val (.int z6), .val (.int o1), .val (.int o2), .val (.int k0), .val (.ref b2), .val (.int r1), .val (.int r2), .val (.int r3), .val (.int r4), .val (.int r5), .val (.int r6), .val (.int r7), .val (.int r8), .val (.int r9), .val (.int (1 : Int32))] [(.int k0), (.int o2), (.int r9)])) _
  refine XS.bipush X23.here hx rfl (hb hby at_416) ?_
  show Steps p.tables e below (T23.setTop (mkF m 418 #[.val (.int i0), .val (.int c1), .val (.int c2), .val (.int c3), .val (.int z4), .val (.int z5), .val (.int z6), .val (.int o1), .val (.int o2), .val (.int k0), .val (.ref b2), .val (.int r1), .val (.int r2), .val (.int r3), .val (.int r4), .val (.int r5), .val (.int r6), .val (.int r7), .val (.int r8), .val (.int r9), .val (.int (1 : Int32))] [(.int (8 : Int32)), (.int k0), (.int o2), (.int r9)])) _
  refine XS.iadd X23.here hx rfl (hb hby at_418) rfl ?_
  show Steps p.tables e below (T23.setTop (mkF m 419 #[.val (.int i0), .val (.int c1), .val (.int c2), .val (.int c3), .val (.int z4), .val (.int z5), .val (.int z6), .val (.int o1), .val (.int o2), .val (.int k0), .val (.ref b2), .val (.int r1), .val (.int r2), .val (.int r3), .val (.int r4), .val (.int r5), .val (.int r6), .val (.int r7), .val (.int r8), .val (.int r9), .val (.int (1 : Int32))] [(.int (k0 + (8 : Int32))), (.int o2), (.int r9)])) _
  refine st24 _ ?_
  show Steps p.tables e below (T24.setTop (mkF m 422 #[.val (.int i0), .val (.int c1), .val (.int c2), .val (.int c3), .val (.int z4), .val (.int z5), .val (.int z6), .val (.int o1), .val (.int o2), .val (.int k0), .val (.ref b2), .val (.int r1), .val (.int r2), .val (.int r3), .val (.int r4), .val (.int r5), .val (.int r6), .val (.int r7), .val (.int r8), .val (.int r9), .val (.int (1 : Int32))] [(.int r9), (.int r9)])) _
  refine XS.icmpNo X24.here hx rfl (hb hby at_422) rfl (teq rfl).2 ?_
  show Steps p.tables e below (T24.setTop (mkF m 425 #[.val (.int i0), .val (.int c1), .val (.int c2), .val (.int c3), .val (.int z4), .val (.int z5), .val (.int z6), .val (.int o1), .val (.int o2), .val (.int k0), .val (.ref b2), .val (.int r1), .val (.int r2), .val (.int r3), .val (.int r4), .val (.int r5), .val (.int r6), .val (.int r7), .val (.int r8), .val (.int r9), .val (.int (1 : Int32))] [])) _
  refine XS.iconst X24.here hx rfl (hb hby at_425) ?_
  show Steps p.tables e below (T24.setTop (mkF m 426 #[.val (.int i0), .val (.int c1), .val (.int c2), .val (.int c3), .val (.int z4), .val (.int z5), .val (.int z6), .val (.int o1), .val (.int o2), .val (.int k0), .val (.ref b2), .val (.int r1), .val (.int r2), .val (.int r3), .val (.int r4), .val (.int r5), .val (.int r6), .val (.int r7), .val (.int r8), .val (.int r9), .val (.int (1 : Int32))] [(.int (1 : Int32))])) _
  refine XS.goto X24.here hx rfl (pc0 := 426) (pc' := 430) rfl (hb hby at_426) (by decide) (by decide) ?_
  show Steps p.tables e below (T24.setTop (mkF m 430 #[.val (.int i0), .val (.int c1), .val (.int c2), .val (.int c3), .val (.int z4), .val (.int z5), .val (.int z6), .val (.int o1), .val (.int o2), .val (.int k0), .val (.ref b2), .val (.int r1), .val (.int r2), .val (.int r3), .val (.int r4), .val (.int r5), .val (.int r6), .val (.int r7), .val (.int r8), .val (.int r9), .val (.int (1 : Int32))] [(.int (1 : Int32))])) _
  refine XS.istore X24.here hx rfl (hb hby at_430) rfl (l' := #[.val (.int i0), .val (.int c1), .val (.int c2), .val (.int c3), .val (.int z4), .val (.int z5), .val (.int z6), .val (.int o1), .val (.int o2), .val (.int k0), .val (.ref b2), .val (.int r1), .val (.int r2), .val (.int r3), .val (.int r4), .val (.int r5), .val (.int r6), .val (.int r7), .val (.int r8), .val (.int r9), .val (.int (1 : Int32))]) rfl ?_
  exact kt
def Q0 (n0 : Nat) (v : Option Value) (h : Heap) (L : List Loc) : Prop := v = some (.int 1) ∧ Fr n0 L
set_option maxRecDepth 65536 in
set_option maxHeartbeats 40000000 in
theorem rm0 (l : Launch) (Z : State) (a0 : Array Value) (hw : ∀ d ∈ tables_1, d.before a0 Z = true) (ws : List Jvm.Cond) (p1 : Int32) (h0 : Heap) (n0 : Nat) (Z0 : n0 ≤ h0.size) :
    MetFree l x (head1 (Jvm.Cond.code x code maxLocals ret :: ws) room_1) (fun a U => a = #[(.int p1)] ∧ Z.Warmed39 U.vm ∧ U.heap = h0) (fun _ _ _ _ _ => True) (fun _ U o U' => ∃ v L, o = .returned v ∧ Q0 n0 v U'.heap L ∧ FrameEnd U o U' L 1 2) := by
  refine MetFree.of_bodySF (plainFor_of_name pn_0) hisR ?_
  intro p e s m args below meth c s₁ Bd hml0 hP hK
  obtain ⟨rfl, hZ, hh⟩ := hP
  have hx := Bd.exec
  have hby := Bd.bytes
  have hml : c.maxLocals = 21 := hml0
  have hown : s.vm.findClass "com/example/latchpost/latchpost/IdleWatchPlanPinLaw" = some m.cls := findClass_of_methodNamed Bd.named
  have X0 : Stand p l e room_1 s m #[(.int p1)] below meth c s₁ [] 0 0 := Stand.of_body Bd
  have e0 : s₁.heap = h0 := by rw [← hh, Bd.state]; rfl
  have Z1 : n0 ≤ s₁.heap.size := by rw [e0]; exact Z0
  have pre0 : ∀ t, Steps p.tables e below (s₁.setTop (mkF m 0 #[.val (.int p1), .unset, .unset, .unset, .unset, .unset, .unset, .unset, .unset, .unset, .unset, .unset, .unset, .unset, .unset, .unset, .unset, .unset, .unset, .unset, .unset] [])) t → Steps p.tables e below (s₁.setTop (entryFrame m #[(.int p1)] maxLocals)) t := fun t k => castTop (ef_0 m p1) k
  by_cases h1 : (p1 &&& (1 : Int32)) = (0 : Int32)
  · by_cases h2 : (p1 &&& (2 : Int32)) = (0 : Int32)
    · by_cases h4 : (p1 &&& (4 : Int32)) = (0 : Int32)
      · obtain ⟨T1, L1, b, X1, N1, st1⟩ := tnB (n0 := n0) p1 (0 : Int32) (0 : Int32) (0 : Int32) (1 : Int32) ((1 : Int32) + (1 : Int32)) (((1 : Int32) + (1 : Int32)) + (1 : Int32)) (1 : Int32) (1 : Int32) (1 : Int32) (1 : Int32) (2 : Int32) (3 : Int32) (2 : Int32) (1 : Int32) (2 : Int32) (2 : Int32) (2 : Int32) (3 : Int32) (2 : Int32) (4 : Int32) (2 : Int32) (5 : Int32) (2 : Int32) (6 : Int32) (2 : Int32) (7 : Int32) (1 : Int32) (0 : Int32) (2 : Int32) (1 : Int32) X0 hx hZ hw hby hml hown Z1 (by decide) (by decide) (by decide) (by decide) (by decide) (by decide) (by decide) (by decide) (by decide) (by decide) (by decide) (by decide) (by decide) (by decide) (by decide) (by decide) (by decide) (by decide) (by decide) (by decide) (by decide) (by decide) (by decide) (by decide) (by decide) (by decide) (by decide) (by decide) (by decide) (by decide)
        obtain ⟨fs, hr, hrun, hended, hW, hsame⟩ := X1.leave (v := some (.int (1 : Int32))) (fun h => by rw [Bd.returns] at h; cases h)
        refine ⟨_, _, pre0 _ ?_, hrun, hended, _, _, rfl, ⟨rfl, N1⟩, ⟨_, rfl⟩, hW, hsame.mono (by decide) (by decide)⟩
        refine tnA0 p1 X0 hx hby h1 h2 h4 _ ?_
        refine st1 _ ?_
        refine XS.iload X1.here hx rfl (hb hby at_432) rfl ?_
        exact retN X1 hx (t := .boolean) Bd.returns (by simp) (hb hby at_434) hr
      · obtain ⟨T1, L1, b, X1, N1, st1⟩ := tnB (n0 := n0) p1 (0 : Int32) (0 : Int32) (1 : Int32) (1 : Int32) ((1 : Int32) + (1 : Int32)) (0 : Int32) (1 : Int32) (0 : Int32) (1 : Int32) (1 : Int32) (2 : Int32) (0 : Int32) (2 : Int32) (1 : Int32) (0 : Int32) (1 : Int32) (0 : Int32) (1 : Int32) (0 : Int32) (1 : Int32) (0 : Int32) (1 : Int32) (0 : Int32) (1 : Int32) (0 : Int32) (1 : Int32) (0 : Int32) (1 : Int32) (0 : Int32) (1 : Int32) X0 hx hZ hw hby hml hown Z1 (by decide) (by decide) (by decide) (by decide) (by decide) (by decide) (by decide) (by decide) (by decide) (by decide) (by decide) (by decide) (by decide) (by decide) (by decide) (by decide) (by decide) (by decide) (by decide) (by decide) (by decide) (by decide) (by decide) (by decide) (by decide) (by decide) (by decide) (by decide) (by decide) (by decide)
        obtain ⟨fs, hr, hrun, hended, hW, hsame⟩ := X1.leave (v := some (.int (1 : Int32))) (fun h => by rw [Bd.returns] at h; cases h)
        refine ⟨_, _, pre0 _ ?_, hrun, hended, _, _, rfl, ⟨rfl, N1⟩, ⟨_, rfl⟩, hW, hsame.mono (by decide) (by decide)⟩
        refine tnA4 p1 X0 hx hby h1 h2 h4 _ ?_
        refine st1 _ ?_
        refine XS.iload X1.here hx rfl (hb hby at_432) rfl ?_
        exact retN X1 hx (t := .boolean) Bd.returns (by simp) (hb hby at_434) hr
    · by_cases h4 : (p1 &&& (4 : Int32)) = (0 : Int32)
      · obtain ⟨T1, L1, b, X1, N1, st1⟩ := tnB (n0 := n0) p1 (0 : Int32) (1 : Int32) (0 : Int32) (1 : Int32) (0 : Int32) ((0 : Int32) + (1 : Int32)) (0 : Int32) (0 : Int32) (0 : Int32) (1 : Int32) (0 : Int32) (1 : Int32) (0 : Int32) (0 : Int32) (0 : Int32) (0 : Int32) (0 : Int32) (0 : Int32) (0 : Int32) (0 : Int32) (0 : Int32) (0 : Int32) (0 : Int32) (0 : Int32) (0 : Int32) (0 : Int32) (0 : Int32) (0 : Int32) (0 : Int32) (0 : Int32) X0 hx hZ hw hby hml hown Z1 (by decide) (by decide) (by decide) (by decide) (by decide) (by decide) (by decide) (by decide) (by decide) (by decide) (by decide) (by decide) (by decide) (by decide) (by decide) (by decide) (by decide) (by decide) (by decide) (by decide) (by decide) (by decide) (by decide) (by decide) (by decide) (by decide) (by decide) (by decide) (by decide) (by decide)
        obtain ⟨fs, hr, hrun, hended, hW, hsame⟩ := X1.leave (v := some (.int (1 : Int32))) (fun h => by rw [Bd.returns] at h; cases h)
        refine ⟨_, _, pre0 _ ?_, hrun, hended, _, _, rfl, ⟨rfl, N1⟩, ⟨_, rfl⟩, hW, hsame.mono (by decide) (by decide)⟩
        refine tnA2 p1 X0 hx hby h1 h2 h4 _ ?_
        refine st1 _ ?_
        refine XS.iload X1.here hx rfl (hb hby at_432) rfl ?_
        exact retN X1 hx (t := .boolean) Bd.returns (by simp) (hb hby at_434) hr
      · obtain ⟨T1, L1, b, X1, N1, st1⟩ := tnB (n0 := n0) p1 (0 : Int32) (1 : Int32) (1 : Int32) (1 : Int32) (0 : Int32) (0 : Int32) (0 : Int32) (0 : Int32) (0 : Int32) (1 : Int32) (0 : Int32) (0 : Int32) (0 : Int32) (0 : Int32) (0 : Int32) (0 : Int32) (0 : Int32) (0 : Int32) (0 : Int32) (0 : Int32) (0 : Int32) (0 : Int32) (0 : Int32) (0 : Int32) (0 : Int32) (0 : Int32) (0 : Int32) (0 : Int32) (0 : Int32) (0 : Int32) X0 hx hZ hw hby hml hown Z1 (by decide) (by decide) (by decide) (by decide) (by decide) (by decide) (by decide) (by decide) (by decide) (by decide) (by decide) (by decide) (by decide) (by decide) (by decide) (by decide) (by decide) (by decide) (by decide) (by decide) (by decide) (by decide) (by decide) (by decide) (by decide) (by decide) (by decide) (by decide) (by decide) (by decide)
        obtain ⟨fs, hr, hrun, hended, hW, hsame⟩ := X1.leave (v := some (.int (1 : Int32))) (fun h => by rw [Bd.returns] at h; cases h)
        refine ⟨_, _, pre0 _ ?_, hrun, hended, _, _, rfl, ⟨rfl, N1⟩, ⟨_, rfl⟩, hW, hsame.mono (by decide) (by decide)⟩
        refine tnA6 p1 X0 hx hby h1 h2 h4 _ ?_
        refine st1 _ ?_
        refine XS.iload X1.here hx rfl (hb hby at_432) rfl ?_
        exact retN X1 hx (t := .boolean) Bd.returns (by simp) (hb hby at_434) hr
  · by_cases h2 : (p1 &&& (2 : Int32)) = (0 : Int32)
    · by_cases h4 : (p1 &&& (4 : Int32)) = (0 : Int32)
      · obtain ⟨T1, L1, b, X1, N1, st1⟩ := tnB (n0 := n0) p1 (1 : Int32) (0 : Int32) (0 : Int32) (0 : Int32) ((0 : Int32) + (1 : Int32)) (((0 : Int32) + (1 : Int32)) + (1 : Int32)) (0 : Int32) (1 : Int32) (0 : Int32) (0 : Int32) (1 : Int32) (2 : Int32) (0 : Int32) (0 : Int32) (2 : Int32) (1 : Int32) (2 : Int32) (2 : Int32) (2 : Int32) (3 : Int32) (2 : Int32) (4 : Int32) (2 : Int32) (5 : Int32) (2 : Int32) (6 : Int32) (2 : Int32) (7 : Int32) (1 : Int32) (0 : Int32) X0 hx hZ hw hby hml hown Z1 (by decide) (by decide) (by decide) (by decide) (by decide) (by decide) (by decide) (by decide) (by decide) (by decide) (by decide) (by decide) (by decide) (by decide) (by decide) (by decide) (by decide) (by decide) (by decide) (by decide) (by decide) (by decide) (by decide) (by decide) (by decide) (by decide) (by decide) (by decide) (by decide) (by decide)
        obtain ⟨fs, hr, hrun, hended, hW, hsame⟩ := X1.leave (v := some (.int (1 : Int32))) (fun h => by rw [Bd.returns] at h; cases h)
        refine ⟨_, _, pre0 _ ?_, hrun, hended, _, _, rfl, ⟨rfl, N1⟩, ⟨_, rfl⟩, hW, hsame.mono (by decide) (by decide)⟩
        refine tnA1 p1 X0 hx hby h1 h2 h4 _ ?_
        refine st1 _ ?_
        refine XS.iload X1.here hx rfl (hb hby at_432) rfl ?_
        exact retN X1 hx (t := .boolean) Bd.returns (by simp) (hb hby at_434) hr
      · obtain ⟨T1, L1, b, X1, N1, st1⟩ := tnB (n0 := n0) p1 (1 : Int32) (0 : Int32) (1 : Int32) (0 : Int32) ((0 : Int32) + (1 : Int32)) (0 : Int32) (0 : Int32) (0 : Int32) (0 : Int32) (0 : Int32) (1 : Int32) (0 : Int32) (0 : Int32) (0 : Int32) (0 : Int32) (0 : Int32) (0 : Int32) (0 : Int32) (0 : Int32) (0 : Int32) (0 : Int32) (0 : Int32) (0 : Int32) (0 : Int32) (0 : Int32) (0 : Int32) (0 : Int32) (0 : Int32) (0 : Int32) (0 : Int32) X0 hx hZ hw hby hml hown Z1 (by decide) (by decide) (by decide) (by decide) (by decide) (by decide) (by decide) (by decide) (by decide) (by decide) (by decide) (by decide) (by decide) (by decide) (by decide) (by decide) (by decide) (by decide) (by decide) (by decide) (by decide) (by decide) (by decide) (by decide) (by decide) (by decide) (by decide) (by decide) (by decide) (by decide)
        obtain ⟨fs, hr, hrun, hended, hW, hsame⟩ := X1.leave (v := some (.int (1 : Int32))) (fun h => by rw [Bd.returns] at h; cases h)
        refine ⟨_, _, pre0 _ ?_, hrun, hended, _, _, rfl, ⟨rfl, N1⟩, ⟨_, rfl⟩, hW, hsame.mono (by decide) (by decide)⟩
        refine tnA5 p1 X0 hx hby h1 h2 h4 _ ?_
        refine st1 _ ?_
        refine XS.iload X1.here hx rfl (hb hby at_432) rfl ?_
        exact retN X1 hx (t := .boolean) Bd.returns (by simp) (hb hby at_434) hr
    · by_cases h4 : (p1 &&& (4 : Int32)) = (0 : Int32)
      · obtain ⟨T1, L1, b, X1, N1, st1⟩ := tnB (n0 := n0) p1 (1 : Int32) (1 : Int32) (0 : Int32) (0 : Int32) (0 : Int32) ((0 : Int32) + (1 : Int32)) (0 : Int32) (0 : Int32) (0 : Int32) (0 : Int32) (0 : Int32) (1 : Int32) (0 : Int32) (0 : Int32) (0 : Int32) (0 : Int32) (0 : Int32) (0 : Int32) (0 : Int32) (0 : Int32) (0 : Int32) (0 : Int32) (0 : Int32) (0 : Int32) (0 : Int32) (0 : Int32) (0 : Int32) (0 : Int32) (0 : Int32) (0 : Int32) X0 hx hZ hw hby hml hown Z1 (by decide) (by decide) (by decide) (by decide) (by decide) (by decide) (by decide) (by decide) (by decide) (by decide) (by decide) (by decide) (by decide) (by decide) (by decide) (by decide) (by decide) (by decide) (by decide) (by decide) (by decide) (by decide) (by decide) (by decide) (by decide) (by decide) (by decide) (by decide) (by decide) (by decide)
        obtain ⟨fs, hr, hrun, hended, hW, hsame⟩ := X1.leave (v := some (.int (1 : Int32))) (fun h => by rw [Bd.returns] at h; cases h)
        refine ⟨_, _, pre0 _ ?_, hrun, hended, _, _, rfl, ⟨rfl, N1⟩, ⟨_, rfl⟩, hW, hsame.mono (by decide) (by decide)⟩
        refine tnA3 p1 X0 hx hby h1 h2 h4 _ ?_
        refine st1 _ ?_
        refine XS.iload X1.here hx rfl (hb hby at_432) rfl ?_
        exact retN X1 hx (t := .boolean) Bd.returns (by simp) (hb hby at_434) hr
      · obtain ⟨T1, L1, b, X1, N1, st1⟩ := tnB (n0 := n0) p1 (1 : Int32) (1 : Int32) (1 : Int32) (0 : Int32) (0 : Int32) (0 : Int32) (0 : Int32) (0 : Int32) (0 : Int32) (0 : Int32) (0 : Int32) (0 : Int32) (0 : Int32) (0 : Int32) (0 : Int32) (0 : Int32) (0 : Int32) (0 : Int32) (0 : Int32) (0 : Int32) (0 : Int32) (0 : Int32) (0 : Int32) (0 : Int32) (0 : Int32) (0 : Int32) (0 : Int32) (0 : Int32) (0 : Int32) (0 : Int32) X0 hx hZ hw hby hml hown Z1 (by decide) (by decide) (by decide) (by decide) (by decide) (by decide) (by decide) (by decide) (by decide) (by decide) (by decide) (by decide) (by decide) (by decide) (by decide) (by decide) (by decide) (by decide) (by decide) (by decide) (by decide) (by decide) (by decide) (by decide) (by decide) (by decide) (by decide) (by decide) (by decide) (by decide)
        obtain ⟨fs, hr, hrun, hended, hW, hsame⟩ := X1.leave (v := some (.int (1 : Int32))) (fun h => by rw [Bd.returns] at h; cases h)
        refine ⟨_, _, pre0 _ ?_, hrun, hended, _, _, rfl, ⟨rfl, N1⟩, ⟨_, rfl⟩, hW, hsame.mono (by decide) (by decide)⟩
        refine tnA7 p1 X0 hx hby h1 h2 h4 _ ?_
        refine st1 _ ?_
        refine XS.iload X1.here hx rfl (hb hby at_432) rfl ?_
        exact retN X1 hx (t := .boolean) Bd.returns (by simp) (hb hby at_434) hr
set_option maxRecDepth 65536 in
set_option maxHeartbeats 40000000 in
theorem comes_1 {Post : Tables → Env → Array Value → State → Outcome → State → Prop} (hpost : ∀ tb e args s v u, (limb_1_1.after args s (.returned v) u = true ∧ limb_1_2.after args s (.returned v) u = true ∧ True) → FrameEnd s (.returned v) u (Jvm.fieldLocs frame_1_writes args s ++ Jvm.arrayLocs frame_1_arrays args s ++ Jvm.staticLocs frame_1_statics s) 16 128 → Post tb e args s (.returned v) u) :
    ArmFor flags0 classFile x code maxLocals ret World_1 tables_1 room_1 Calls_1 rest_1 Pre_1 Post := by
  intro l hfl _ _ p e ha hc hk s m args below hf hA hF happ hP
  obtain ⟨hcalls, hrest, hpre⟩ := hP
  obtain ⟨-, -, -, hnamed, -, -, -, hat⟩ := (Spec.applies_iff hf).mp happ
  obtain ⟨hg, hn⟩ := and_e (Cond.before_iff.mp (show (Jvm.Cond.and given_1 narrow_1).before args s = true from hpre))
  obtain ⟨g0, r0⟩ := and_e hg
  obtain ⟨w0, rfl⟩ : ∃ w0 : Value, args = #[w0] := by
    have hs : args.size = 1 := by simpa [Cond.value, given_1] using g0
    obtain ⟨L⟩ := args
    match L, hs with
    | [w0], _ => exact ⟨w0, rfl⟩
  have hw := fun d (hd : d ∈ tables_1) => atoms_spec (ws := Jvm.Cond.code x code maxLocals ret :: tables_1) hat d (List.mem_cons_of_mem _ hd)
  obtain ⟨i0, ei0⟩ := is_v r0
  obtain rfl : w0 = (.int i0) := Option.some.inj ei0
  obtain ⟨n, o, h1, h2, h3, _, L, rfl, ⟨rfl, N⟩, hq⟩ := rm0 l s _ hw tables_1 i0 s.heap s.heap.size (Nat.le_refl _) p e ha hc hk s m _ below hf ((Spec.applies_iff_loose hf).mp happ).1 ⟨rfl, State.Warmed39.refl s, rfl⟩ trivial
  refine ⟨n, _, h1, h2, h3, hpost _ _ _ _ _ _ ⟨Cond.after_iff.mpr rfl, Cond.after_iff.mpr (eq_i res_at (Term.int_eval (1)) rfl), trivial⟩ ⟨hq.1, hq.2.1, (hq.2.2.sift fun y hy => Or.inr (N y hy)).mono (by decide) (by decide)⟩⟩
theorem main_1_1 : Claimed_1_1 := comes_1 fun _ _ _ _ _ _ h hF => ⟨h.1, hF⟩
theorem main_1_2 : Claimed_1_2 := comes_1 fun _ _ _ _ _ _ h hF => ⟨h.2.1, hF⟩
end Jvm.Pilot.@@N@@
namespace Jvm.Pilot.@@N@@
open Jvm Jvm.ClassFile Sem Op Lib Jvm.Free Jvm.Stand Jvm.Pilot.@@N@@.Jvm.D
/-! MADE BY PROGRAM (witnessworld.py) out of the Statement's table words and the real class files: 9 classes; the members and pool entries that the words name. The judged class is class 1, her method 2. -/
namespace start1
open Jvm.ClassFile
def u (s : String) : CpInfo := .utf8 (stringToUtf16 s)
/-- a pool by its gaps: so many unusable entries, then the entry; so many at the end -/
def gap : Nat → List CpInfo → List CpInfo
  | 0, r => r
  | n + 1, r => .unusable :: gap n r
def poolList (es : List (Nat × CpInfo)) (last : Nat) : List CpInfo := es.foldr (fun e r => gap e.1 (e.2 :: r)) (gap last [])
def pool (es : List (Nat × CpInfo)) (last : Nat) : Array CpInfo := ⟨poolList es last⟩
def fileOf (pool : Array CpInfo) (this : Nat) (attrs : Array Attribute := #[]) (ms : Array MethodInfo := #[]) (fl : Nat := 33) (sup : Nat := 0) (ifs : Array Nat := #[]) (fds : Array FieldInfo := #[]) : ClassFile where
  minorVersion := 0
  majorVersion := 65
  constantPool := pool
  accessFlags := fl
  thisClass := this
  superClass := sup
  interfaces := ifs
  fields := fds
  methods := ms
  attributes := attrs
def plain (name : String) (sup : Option ClassId) : Class where
  name := name
  kind := .ordinary
  loader := none
  accessFlags := 33
  super := sup
  interfaces := #[]
  cf := none
  fields := #[]
  methods := #[]
  instanceTypes := #[]
  staticTypes := #[]
  resolved := #[]
  callSites := []
  init := .initialized
  statics := none
  mirror := none

def pool0 : Array CpInfo := pool [(5, u "<init>"), (0, u "()V"), (1, .class_ 10), (1, u "java/lang/Object")] 113

def k0c0 : Code := { maxStack := 0, maxLocals := 1, code := object_method_1_code, exceptionTable := #[], attributes := #[] }
def k0m0 : Method := { name := "<init>", desc := "()V", sig := { parameters := [], returnType := none }, accessFlags := 1, code := some k0c0 }
/-- java/lang/Object -/
def k0 : Class := { plain "java/lang/Object" none with
  accessFlags := 33
  interfaces := #[]
  cf := some (fileOf pool0 8 #[] #[{ accessFlags := 1, nameIndex := 5, descriptorIndex := 6, attributes := #[] }] 33 0 #[] #[])
  fields := #[]
  methods := #[k0m0]
  instanceTypes := #[]
  staticTypes := #[]
  resolved := Array.replicate 124 none
  statics := none }

def pool1 : Array CpInfo := pool [(2, .class_ 4), (0, .nameAndType 5 6), (0, u "java/lang/Object"), (0, u "<init>"), (0, u "()V"), (0, .class_ 8), (0, u "com/example/latchpost/latchpost/IdleWatch"), (0, .methodref 7 3), (0, .methodref 7 11), (0, .nameAndType 12 13), (0, u "watched"), (0, u "(Z)V"), (0, .methodref 7 15), (0, .nameAndType 16 17), (0, u "plan"), (0, u "()I"), (0, .methodref 19 20), (0, .class_ 21), (0, .nameAndType 22 23), (0, u "com/example/latchpost/latchpost/IdleWatchPlanPinLaw"), (0, u "exp"), (0, u "(ZI)I"), (3, u "law"), (0, u "(I)Z")] 2

def k1m0 : Method := { name := "<init>", desc := "()V", sig := { parameters := [], returnType := none }, accessFlags := 1, code := none }
def k1c1 : Code := { maxStack := 2, maxLocals := 2, code := method_2_code, exceptionTable := #[], attributes := #[] }
def k1m1 : Method := { name := "exp", desc := "(ZI)I", sig := { parameters := [.boolean, .int], returnType := some .int }, accessFlags := 10, code := some k1c1 }
def k1c2 : Code := { maxStack := 4, maxLocals := 21, code := code, exceptionTable := #[], attributes := #[] }
def k1m2 : Method := { name := "law", desc := "(I)Z", sig := { parameters := [.int], returnType := some .boolean }, accessFlags := 9, code := some k1c2 }
/-- com/example/latchpost/latchpost/IdleWatchPlanPinLaw -/
def k1 : Class := { plain "com/example/latchpost/latchpost/IdleWatchPlanPinLaw" (some 0) with
  accessFlags := 49
  interfaces := #[]
  cf := some (fileOf pool1 19 #[] #[{ accessFlags := 1, nameIndex := 5, descriptorIndex := 6, attributes := #[] }, { accessFlags := 10, nameIndex := 22, descriptorIndex := 23, attributes := #[] }, { accessFlags := 9, nameIndex := 27, descriptorIndex := 28, attributes := #[] }] 49 2 #[] #[])
  fields := #[]
  methods := #[k1m0, k1m1, k1m2]
  instanceTypes := #[]
  staticTypes := #[]
  resolved := Array.replicate 31 none
  statics := none }

def pool2 : Array CpInfo := pool [(1, .methodref 2 3), (0, .class_ 4), (0, .nameAndType 5 6), (0, u "java/lang/Object"), (0, u "<init>"), (0, u "()V"), (0, .fieldref 8 9), (0, .class_ 10), (0, .nameAndType 11 12), (0, u "com/example/latchpost/latchpost/IdleWatch"), (0, u "misses"), (0, u "I"), (0, .fieldref 8 14), (0, .nameAndType 15 12), (0, u "untimed"), (2, u "SOON_NANOS"), (0, u "J"), (14, u "WATCH_NANOS"), (2, u "WATCH"), (2, u "TIME"), (1, u "SLEEP"), (1, u "MISSES"), (0, u "TIMED_EVERY"), (3, u "plan"), (0, u "()I"), (1, u "watched"), (0, u "(Z)V")] 5

def k2c0 : Code := { maxStack := 1, maxLocals := 1, code := prog_10_method_1_code, exceptionTable := #[], attributes := #[] }
def k2m0 : Method := { name := "<init>", desc := "()V", sig := { parameters := [], returnType := none }, accessFlags := 0, code := some k2c0 }
def k2c1 : Code := { maxStack := 3, maxLocals := 1, code := prog_10_method_2_code, exceptionTable := #[], attributes := #[] }
def k2m1 : Method := { name := "plan", desc := "()I", sig := { parameters := [], returnType := some .int }, accessFlags := 0, code := some k2c1 }
def k2c2 : Code := { maxStack := 3, maxLocals := 2, code := prog_10_method_3_code, exceptionTable := #[], attributes := #[] }
def k2m2 : Method := { name := "watched", desc := "(Z)V", sig := { parameters := [.boolean], returnType := none }, accessFlags := 0, code := some k2c2 }
/-- com/example/latchpost/latchpost/IdleWatch -/
def k2 : Class := { plain "com/example/latchpost/latchpost/IdleWatch" (some 0) with
  accessFlags := 48
  interfaces := #[]
  cf := some (fileOf pool2 8 #[] #[{ accessFlags := 0, nameIndex := 5, descriptorIndex := 6, attributes := #[] }, { accessFlags := 0, nameIndex := 49, descriptorIndex := 50, attributes := #[] }, { accessFlags := 0, nameIndex := 52, descriptorIndex := 53, attributes := #[] }] 48 2 #[] #[{ accessFlags := 24, nameIndex := 34, descriptorIndex := 19, attributes := #[] }, { accessFlags := 24, nameIndex := 37, descriptorIndex := 12, attributes := #[] }, { accessFlags := 24, nameIndex := 40, descriptorIndex := 12, attributes := #[] }, { accessFlags := 24, nameIndex := 42, descriptorIndex := 12, attributes := #[] }, { accessFlags := 26, nameIndex := 44, descriptorIndex := 12, attributes := #[] }, { accessFlags := 26, nameIndex := 18, descriptorIndex := 19, attributes := #[] }, { accessFlags := 24, nameIndex := 45, descriptorIndex := 12, attributes := #[] }, { accessFlags := 2, nameIndex := 11, descriptorIndex := 12, attributes := #[] }, { accessFlags := 2, nameIndex := 15, descriptorIndex := 12, attributes := #[] }])
  fields := #[{ name := "WATCH_NANOS", type := .long, accessFlags := 24, slot := 0, constantValue := 0 }, { name := "WATCH", type := .int, accessFlags := 24, slot := 1, constantValue := 0 }, { name := "TIME", type := .int, accessFlags := 24, slot := 2, constantValue := 0 }, { name := "SLEEP", type := .int, accessFlags := 24, slot := 3, constantValue := 0 }, { name := "MISSES", type := .int, accessFlags := 26, slot := 4, constantValue := 0 }, { name := "SOON_NANOS", type := .long, accessFlags := 26, slot := 5, constantValue := 0 }, { name := "TIMED_EVERY", type := .int, accessFlags := 24, slot := 6, constantValue := 0 }, { name := "misses", type := .int, accessFlags := 2, slot := 0, constantValue := 0 }, { name := "untimed", type := .int, accessFlags := 2, slot := 1, constantValue := 0 }]
  methods := #[k2m0, k2m1, k2m2]
  instanceTypes := #[.int, .int]
  staticTypes := #[.long, .int, .int, .int, .int, .long, .int]
  resolved := Array.replicate 59 none
  statics := none }

def pool3 : Array CpInfo := pool [(1, u "java/lang/Cloneable"), (0, .class_ 1), (0, u "java/lang/Object"), (0, .class_ 3)] 3

/-- java/lang/Cloneable -/
def k3 : Class := { plain "java/lang/Cloneable" (some 0) with
  accessFlags := 1537
  interfaces := #[]
  cf := some (fileOf pool3 2 #[] #[] 1537 4 #[] #[])
  fields := #[]
  methods := #[]
  instanceTypes := #[]
  staticTypes := #[]
  resolved := Array.replicate 8 none
  statics := none }

def pool4 : Array CpInfo := pool [(1, u "java/io/Serializable"), (0, .class_ 1), (0, u "java/lang/Object"), (0, .class_ 3)] 3

/-- java/io/Serializable -/
def k4 : Class := { plain "java/io/Serializable" (some 0) with
  accessFlags := 1537
  interfaces := #[]
  cf := some (fileOf pool4 2 #[] #[] 1537 4 #[] #[])
  fields := #[]
  methods := #[]
  instanceTypes := #[]
  staticTypes := #[]
  resolved := Array.replicate 8 none
  statics := none }

/-- the primitive byte -/
def k5 : Class := { plain "byte" none with kind := .primitive 'B', accessFlags := 0x411 }
/-- [B -/
def k6 : Class := { plain "[B" (some 0) with kind := .array 5 .byte, interfaces := #[3, 4], accessFlags := 1041 }

/-- the primitive int -/
def k7 : Class := { plain "int" none with kind := .primitive 'I', accessFlags := 0x411 }
/-- [I -/
def k8 : Class := { plain "[I" (some 0) with kind := .array 7 .int, interfaces := #[3, 4], accessFlags := 1041 }

def heap : Heap := #[]
def classes : Array Class := #[k0, k1, k2, k3, k4, k5, k6, k7, k8]
def interned : List (Array UInt16 × Addr) := []
def slotsUsed : Nat := 0
def theMethod : MethodId := ⟨1, 2⟩
def args0 : Array Value := #[.int 6]
def aboutOver (below : List Frame) : State where
  vm := { classes := classes, interned := interned.toArray }
  heap := heap
  slotsUsed := slotsUsed
  threads := #[{ frames := .invoking theMethod args0 :: below }]
def below0 : List Frame := [.native { method := ⟨0, 0⟩, args := #[] }]
def about1 : State := aboutOver below0
def p0 : Program := .bare "" "" ""
def e0 : Env := launch0.env 0 0 0
theorem w_frames : about1.frames = Frame.invoking theMethod args0 :: below0 := rfl
set_option maxRecDepth 65536 in
theorem w_args : argsFit about1.vm theMethod args0 = true := by decide +kernel
set_option maxRecDepth 65536 in
theorem w_heap : heapFits about1 = true := by decide +kernel
set_option maxRecDepth 65536 in
theorem w_runnable : about1.curStatus? = some .runnable := by decide +kernel
set_option maxRecDepth 65536 in
theorem w_alone : about1.alone = true := by decide +kernel
set_option maxRecDepth 65536 in
theorem w_named : about1.methodNamed? x = some theMethod := by decide +kernel
set_option maxRecDepth 65536 in
theorem w_hears : about1.hears theMethod below0 = true := by decide +kernel
set_option maxRecDepth 65536 in
theorem w_ripe : about1.ripe theMethod args0 below0 = true := by decide +kernel
theorem w_running : about1.status = .running := rfl
set_option maxRecDepth 65536 in
theorem w_room : about1.hasRoom e0.platform room_1 = true :=
  launch0.hasRoom_least _ room_1 (by decide +kernel) (by decide +kernel) (by decide +kernel) (by decide +kernel) (by decide +kernel) (by decide +kernel)
theorem allAtoms_all (ts : List Jvm.Cond) (a : Array Jvm.Value) (st : Jvm.State) : (allAtoms ts).before a st = ts.all (fun c => c.before a st) := by
  induction ts with
  | nil => rfl
  | cons c t ih =>
    show (Jvm.Cond.and c (allAtoms t)).before a st = _
    rw [Jvm.Cond.before_and, ih, List.all_cons]
def words1 : List Jvm.Cond := Jvm.Cond.code x code maxLocals ret :: tables_1
/-- a 'code' word, met by the world's own term for the bytes: nothing is compared byte by byte -/
theorem code_word {y : MethodName} {bytes : ByteArray} {mx : Nat} {rt : Option FieldType} {a : Array Value} {s : State} {m : MethodId} {meth : Method} {c : Code} (h1 : s.methodNamed? y = some m) (h2 : s.vm.method? m = some meth) (h3 : meth.code = some c) (h4 : c.code = bytes)
    (h5 : (c.maxLocals == mx && c.exceptionTable.isEmpty && decide (c.maxStack ≤ mostOperands) && decide (meth.sig.returnType = rt) && !meth.locks && decide (parseMethodDescriptor y.desc = some meth.sig)) = true) : (Jvm.Cond.code y bytes mx rt).before a s = true := by
  simp only [Bool.and_eq_true, beq_iff_eq, Bool.not_eq_true', decide_eq_true_eq] at h5
  obtain ⟨⟨⟨⟨⟨g1, g2⟩, g3⟩, g4⟩, g5⟩, g6⟩ := h5
  simp [Cond.before, Cond.holds, Cond.value, h1, h2, h3, h4, g1, g2, g3, g4, g5, g6]
def isCode : Jvm.Cond → Bool
  | .code _ _ _ _ => true
  | _ => false
theorem all_split {L : List Jvm.Cond} {P : Jvm.Cond → Bool} (h1 : L.all (fun c => isCode c || P c) = true) (h2 : ∀ c ∈ L.filter isCode, P c = true) : L.all P = true := by
  refine List.all_eq_true.mpr fun c hc => ?_
  have h := List.all_eq_true.mp h1 c hc
  rcases Bool.eq_false_or_eq_true (isCode c) with hi | hi
  · exact h2 c (List.mem_filter.mpr ⟨hc, hi⟩)
  · simpa [hi] using h
set_option maxRecDepth 65536 in
theorem w_c0 : (Jvm.Cond.code x code maxLocals ret).before args0 about1 = true := code_word (m := ⟨1, 2⟩) (meth := k1m2) (c := k1c2) (by decide +kernel) rfl rfl rfl (by decide +kernel)
set_option maxRecDepth 65536 in
theorem w_c1 : (Jvm.Cond.code ({ cls := "com/example/latchpost/latchpost/IdleWatch", name := "<init>", desc := "()V" } : Jvm.MethodName) prog_10_method_1_code (1 : Nat) (Option.none : Option Jvm.ClassFile.FieldType)).before args0 about1 = true := code_word (m := ⟨2, 0⟩) (meth := k2m0) (c := k2c0) (by decide +kernel) rfl rfl rfl (by decide +kernel)
set_option maxRecDepth 65536 in
theorem w_c2 : (Jvm.Cond.code ({ cls := "java/lang/Object", name := "<init>", desc := "()V" } : Jvm.MethodName) object_method_1_code (1 : Nat) (Option.none : Option Jvm.ClassFile.FieldType)).before args0 about1 = true := code_word (m := ⟨0, 0⟩) (meth := k0m0) (c := k0c0) (by decide +kernel) rfl rfl rfl (by decide +kernel)
set_option maxRecDepth 65536 in
theorem w_c3 : (Jvm.Cond.code ({ cls := "com/example/latchpost/latchpost/IdleWatch", name := "watched", desc := "(Z)V" } : Jvm.MethodName) prog_10_method_3_code (2 : Nat) (Option.none : Option Jvm.ClassFile.FieldType)).before args0 about1 = true := code_word (m := ⟨2, 2⟩) (meth := k2m2) (c := k2c2) (by decide +kernel) rfl rfl rfl (by decide +kernel)
set_option maxRecDepth 65536 in
theorem w_c4 : (Jvm.Cond.code ({ cls := "com/example/latchpost/latchpost/IdleWatch", name := "plan", desc := "()I" } : Jvm.MethodName) prog_10_method_2_code (1 : Nat) (Option.some Jvm.ClassFile.FieldType.int)).before args0 about1 = true := code_word (m := ⟨2, 1⟩) (meth := k2m1) (c := k2c1) (by decide +kernel) rfl rfl rfl (by decide +kernel)
set_option maxRecDepth 65536 in
theorem w_c5 : (Jvm.Cond.code ({ cls := "com/example/latchpost/latchpost/IdleWatchPlanPinLaw", name := "exp", desc := "(ZI)I" } : Jvm.MethodName) method_2_code (2 : Nat) (Option.some Jvm.ClassFile.FieldType.int)).before args0 about1 = true := code_word (m := ⟨1, 1⟩) (meth := k1m1) (c := k1c1) (by decide +kernel) rfl rfl rfl (by decide +kernel)
def codes1 : List Jvm.Cond := [Jvm.Cond.code x code maxLocals ret, Jvm.Cond.code ({ cls := "com/example/latchpost/latchpost/IdleWatch", name := "<init>", desc := "()V" } : Jvm.MethodName) prog_10_method_1_code (1 : Nat) (Option.none : Option Jvm.ClassFile.FieldType), Jvm.Cond.code ({ cls := "java/lang/Object", name := "<init>", desc := "()V" } : Jvm.MethodName) object_method_1_code (1 : Nat) (Option.none : Option Jvm.ClassFile.FieldType), Jvm.Cond.code ({ cls := "com/example/latchpost/latchpost/IdleWatch", name := "watched", desc := "(Z)V" } : Jvm.MethodName) prog_10_method_3_code (2 : Nat) (Option.none : Option Jvm.ClassFile.FieldType), Jvm.Cond.code ({ cls := "com/example/latchpost/latchpost/IdleWatch", name := "plan", desc := "()I" } : Jvm.MethodName) prog_10_method_2_code (1 : Nat) (Option.some Jvm.ClassFile.FieldType.int), Jvm.Cond.code ({ cls := "com/example/latchpost/latchpost/IdleWatchPlanPinLaw", name := "exp", desc := "(ZI)I" } : Jvm.MethodName) method_2_code (2 : Nat) (Option.some Jvm.ClassFile.FieldType.int)]
set_option maxRecDepth 65536 in
theorem codes_eq : words1.filter isCode = codes1 := rfl
theorem w_codes : ∀ c ∈ words1.filter isCode, c.before args0 about1 = true := by
  rw [codes_eq]
  intro c hc
  simp only [codes1, List.mem_cons, List.not_mem_nil, or_false] at hc
  rcases hc with rfl | rfl | rfl | rfl | rfl | rfl
  · exact w_c0
  · exact w_c1
  · exact w_c2
  · exact w_c3
  · exact w_c4
  · exact w_c5
set_option maxRecDepth 65536 in
theorem w_t1 : (words1.take 24).all (fun c => isCode c || c.before args0 about1) = true := by decide +kernel
set_option maxRecDepth 65536 in
theorem w_t2 : (words1.drop 24).all (fun c => isCode c || c.before args0 about1) = true := by decide +kernel
theorem w_tables : (allAtoms (Jvm.Cond.code x code maxLocals ret :: tables_1)).before args0 about1 = true := by
  rw [allAtoms_all]
  show words1.all (fun c => c.before args0 about1) = true
  refine all_split ?_ w_codes
  rw [← List.take_append_drop 24 words1, List.all_append, w_t1, w_t2]
  rfl
set_option maxRecDepth 65536 in
theorem w_case : (Jvm.Cond.and given_1 narrow_1).before args0 about1 = true := by decide +kernel
theorem w_applies : (headSpec (Jvm.Cond.code x code maxLocals ret :: tables_1) room_1).applies x e0.platform about1 = true :=
  (Spec.applies_iff w_frames).mpr ⟨w_running, w_runnable, w_alone, w_named, w_hears, w_ripe, w_room, w_tables⟩
theorem atStart : AtStart classFile x code maxLocals ret World_1 tables_1 room_1 Calls_1 rest_1 Pre_1 launch0 p0 e0 about1 theMethod args0 below0 :=
  ⟨lists_1, trivial, launch0.admits_env _ _ _, launch0.least_env, fairChoices_fair.cas, fairChoices_fair.clock, w_frames, w_args, w_heap, w_applies, trivial, trivial, w_case⟩
end start1
theorem witness_1 : WitnessClaimed_1 := ⟨start1.p0, start1.e0, start1.about1, start1.theMethod, start1.args0, start1.below0, start1.atStart⟩
end Jvm.Pilot.@@N@@

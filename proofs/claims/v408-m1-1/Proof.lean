import JvmDerived
import JvmDerived.Pilot.@@N@@Statement
import JvmDerived.Pilot.@@N@@Code
set_option linter.unusedVariables false
set_option linter.unusedSimpArgs false
namespace Jvm.RoadKit
open Sem ClassFile Op Lib Jvm.Stand Jvm.Free Jvm.LawKit
section New
variable {p : Program} {l : Launch} {e : Env} {R : Room} {s : State} {m : MethodId} {args : Array Value} {below : List Frame} {meth : Method} {c : Code} {T : State} {locs : List Loc} {cells slots : Nat}
theorem retI (X : Stand p l e R s m args below meth c T locs cells slots) (hx : p.tables.exec = Jvm.exec) {pc : Nat} {Ls : Array Slot} {z : Int32} {rest : List Value} (hret : meth.sig.returnType = some .int) (hd : decode c.code pc = .ok (.ireturn, 1)) {fs : List Frame}
    (hl : ∀ (f : JFrame) (acts : List Action), f.method = m → f.locked = none → f.entered = [] → (doReturn e (T.setTop f) acts (some (.int z))).1 = T.setFrames fs) : Steps p.tables e below (T.setTop (mkF m pc Ls (.int z :: rest))) (T.setFrames fs) := by
  have hm' : T.vm.method? m = some meth := X.method'
  have hn : narrow .int (.int z) = .int z := rfl
  show Steps p.tables e below (T.setTop { method := m, pc := pc, locals := Ls, stack := _ :: rest, locked := none }) _
  jvm_step X.here [X.here.top, hx, hd, hm', hret, hn]
  first | (intro acts; rw [hl _ acts rfl rfl rfl]) | rw [hl _ _ rfl rfl rfl]
  exact Steps.refl _
end New
end Jvm.RoadKit
namespace Jvm.Pilot.@@N@@
open Jvm Jvm.ClassFile Sem Op Lib Jvm.Free Jvm.Stand Jvm.LawKit Jvm.RoadKit Bundle Jvm.Pilot.@@N@@.Jvm.D
theorem d1_0 : decode prog_35_method_28_code 0 = .ok (.iload_n 0, 1) := by decide +kernel
theorem d1_1 : decode prog_35_method_28_code 1 = .ok (.bipush 32, 2) := by decide +kernel
theorem d1_3 : decode prog_35_method_28_code 3 = .ok (.if_icmp .ge 9, 3) := by decide +kernel
theorem d1_6 : decode prog_35_method_28_code 6 = .ok (.iload_n 0, 1) := by decide +kernel
theorem d1_7 : decode prog_35_method_28_code 7 = .ok (.bipush 9, 2) := by decide +kernel
theorem d1_9 : decode prog_35_method_28_code 9 = .ok (.if_icmp .ne 20, 3) := by decide +kernel
theorem d1_12 : decode prog_35_method_28_code 12 = .ok (.iload_n 0, 1) := by decide +kernel
theorem d1_13 : decode prog_35_method_28_code 13 = .ok (.bipush 127, 2) := by decide +kernel
theorem d1_15 : decode prog_35_method_28_code 15 = .ok (.if_icmp .eq 14, 3) := by decide +kernel
theorem d1_18 : decode prog_35_method_28_code 18 = .ok (.iload_n 0, 1) := by decide +kernel
theorem d1_19 : decode prog_35_method_28_code 19 = .ok (.sipush 255, 3) := by decide +kernel
theorem d1_22 : decode prog_35_method_28_code 22 = .ok (.if_icmp .gt 7, 3) := by decide +kernel
theorem d1_25 : decode prog_35_method_28_code 25 = .ok (.iconst 1, 1) := by decide +kernel
theorem d1_26 : decode prog_35_method_28_code 26 = .ok (.goto 4, 3) := by decide +kernel
theorem d1_29 : decode prog_35_method_28_code 29 = .ok (.iconst 0, 1) := by decide +kernel
theorem d1_30 : decode prog_35_method_28_code 30 = .ok (.ireturn, 1) := by decide +kernel
theorem pn_1 : plainName "com/example/lugh/lugh/web/MediaType" = true := by first | (simp [plainName, overriddenIn]; done) | decide +kernel
theorem pn_0 : plainName "com/example/lugh/lugh/web/MediaTypeIsQuotablePinLaw" = true := by first | (simp [plainName, overriddenIn]; done) | decide +kernel
theorem pd_q : parseMethodDescriptor "(C)Z" = some ⟨[.char], some .boolean⟩ := by decide +kernel
theorem ef_1 (m : MethodId) (x0 : Int32) : entryFrame m #[(.int x0)] 1 = mkF m 0 #[.val (.int x0)] [] := by first | (simp [entryFrame, mkF, argsToLocals, Value.category]; done) | rfl
theorem ef_0 (m : MethodId) (x0 : Int32) : entryFrame m #[(.int x0)] 6 = mkF m 0 #[.val (.int x0), .unset, .unset, .unset, .unset, .unset] [] := by first | (simp [entryFrame, mkF, argsToLocals, Value.category]; done) | rfl
def own_b (b : Bool) : Int32 := if b = true then 1 else 0
theorem own_bn (b : Bool) : nar .boolean (own_b b) = own_b b := by cases b <;> rfl
def own_q (q : Int32) : Bool := (!decide (q < 32) || decide (q = 9)) && (!decide (q = 127) && !decide (255 < q))
def own_t (q : Int32) : Bool := decide (q = 9)
def own_v (q : Int32) : Bool := !decide (q < 32) && !decide (126 < q)
def own_o (q : Int32) : Bool := !decide (q < 128) && !decide (255 < q)
theorem own_eq (q : Int32) : own_q q = (own_t q || (own_v q || own_o q)) := by
  have h1 : (32 : Int32).toInt = 32 := by decide
  have h2 : (9 : Int32).toInt = 9 := by decide
  have h3 : (127 : Int32).toInt = 127 := by decide
  have h4 : (255 : Int32).toInt = 255 := by decide
  have h5 : (126 : Int32).toInt = 126 := by decide
  have h6 : (128 : Int32).toInt = 128 := by decide
  rw [Bool.eq_iff_iff]
  simp only [own_q, own_t, own_v, own_o, Bool.and_eq_true, Bool.or_eq_true, Bool.not_eq_true', decide_eq_true_eq, decide_eq_false_iff_not, Int32.lt_iff_toInt_lt, ← Int32.toInt_inj, h1, h2, h3, h4, h5, h6]
  omega
theorem stepsQ {p : Program} {l : Launch} {e : Env} {R : Room} {s : State} {m : MethodId} {args : Array Value} {below : List Frame} {meth : Method} {c : Code} {T : State} {locs : List Loc} {cells slots : Nat} (q : Int32) (X : Stand p l e R s m args below meth c T locs cells slots) (hx : p.tables.exec = Jvm.exec) (hby : c.code = prog_35_method_28_code)  {target : State} (kt : Steps p.tables e below (T.setTop (mkF m 30 #[.val (.int q)] [(.int (own_b (own_q q)))])) target) : Steps p.tables e below (T.setTop (mkF m 0 #[.val (.int q)] [])) target := by
  by_cases h1 : q < (32 : Int32)
  · by_cases h2 : q = (9 : Int32)
    · by_cases h3 : q = (127 : Int32)
      · have hk : own_q q = false := by simp [own_q, h3]
        rw [hk] at kt
        show Steps p.tables e below (T.setTop (mkF m 0 #[.val (.int q)] [])) _
        refine XS.iloadN X.here hx rfl (hb hby d1_0) rfl ?_
        show Steps p.tables e below (T.setTop (mkF m 1 #[.val (.int q)] [(.int q)])) _
        refine XS.bipush X.here hx rfl (hb hby d1_1) ?_
        show Steps p.tables e below (T.setTop (mkF m 3 #[.val (.int q)] [(.int (32 : Int32)), (.int q)])) _
        refine XS.icmpNo X.here hx rfl (hb hby d1_3) rfl (tlt h1).2.1 ?_
        show Steps p.tables e below (T.setTop (mkF m 6 #[.val (.int q)] [])) _
        refine XS.iloadN X.here hx rfl (hb hby d1_6) rfl ?_
        show Steps p.tables e below (T.setTop (mkF m 7 #[.val (.int q)] [(.int q)])) _
        refine XS.bipush X.here hx rfl (hb hby d1_7) ?_
        show Steps p.tables e below (T.setTop (mkF m 9 #[.val (.int q)] [(.int (9 : Int32)), (.int q)])) _
        refine XS.icmpNo X.here hx rfl (hb hby d1_9) rfl (teq h2).2 ?_
        show Steps p.tables e below (T.setTop (mkF m 12 #[.val (.int q)] [])) _
        refine XS.iloadN X.here hx rfl (hb hby d1_12) rfl ?_
        show Steps p.tables e below (T.setTop (mkF m 13 #[.val (.int q)] [(.int q)])) _
        refine XS.bipush X.here hx rfl (hb hby d1_13) ?_
        show Steps p.tables e below (T.setTop (mkF m 15 #[.val (.int q)] [(.int (127 : Int32)), (.int q)])) _
        refine XS.icmpYes X.here hx rfl (pc0 := 15) (pc' := 29) rfl (hb hby d1_15) rfl (teq h3).1 (by decide) (by decide) ?_
        show Steps p.tables e below (T.setTop (mkF m 29 #[.val (.int q)] [])) _
        refine XS.iconst X.here hx rfl (hb hby d1_29) ?_
        exact kt
      · by_cases h4 : (255 : Int32) < q
        · have hk : own_q q = false := by simp [own_q, h4]
          rw [hk] at kt
          show Steps p.tables e below (T.setTop (mkF m 0 #[.val (.int q)] [])) _
          refine XS.iloadN X.here hx rfl (hb hby d1_0) rfl ?_
          show Steps p.tables e below (T.setTop (mkF m 1 #[.val (.int q)] [(.int q)])) _
          refine XS.bipush X.here hx rfl (hb hby d1_1) ?_
          show Steps p.tables e below (T.setTop (mkF m 3 #[.val (.int q)] [(.int (32 : Int32)), (.int q)])) _
          refine XS.icmpNo X.here hx rfl (hb hby d1_3) rfl (tlt h1).2.1 ?_
          show Steps p.tables e below (T.setTop (mkF m 6 #[.val (.int q)] [])) _
          refine XS.iloadN X.here hx rfl (hb hby d1_6) rfl ?_
          show Steps p.tables e below (T.setTop (mkF m 7 #[.val (.int q)] [(.int q)])) _
          refine XS.bipush X.here hx rfl (hb hby d1_7) ?_
          show Steps p.tables e below (T.setTop (mkF m 9 #[.val (.int q)] [(.int (9 : Int32)), (.int q)])) _
          refine XS.icmpNo X.here hx rfl (hb hby d1_9) rfl (teq h2).2 ?_
          show Steps p.tables e below (T.setTop (mkF m 12 #[.val (.int q)] [])) _
          refine XS.iloadN X.here hx rfl (hb hby d1_12) rfl ?_
          show Steps p.tables e below (T.setTop (mkF m 13 #[.val (.int q)] [(.int q)])) _
          refine XS.bipush X.here hx rfl (hb hby d1_13) ?_
          show Steps p.tables e below (T.setTop (mkF m 15 #[.val (.int q)] [(.int (127 : Int32)), (.int q)])) _
          refine XS.icmpNo X.here hx rfl (hb hby d1_15) rfl (feq h3).1 ?_
          show Steps p.tables e below (T.setTop (mkF m 18 #[.val (.int q)] [])) _
          refine XS.iloadN X.here hx rfl (hb hby d1_18) rfl ?_
          show Steps p.tables e below (T.setTop (mkF m 19 #[.val (.int q)] [(.int q)])) _
          refine XS.sipush X.here hx rfl (hb hby d1_19) ?_
          show Steps p.tables e below (T.setTop (mkF m 22 #[.val (.int q)] [(.int (255 : Int32)), (.int q)])) _
          refine XS.icmpYes X.here hx rfl (pc0 := 22) (pc' := 29) rfl (hb hby d1_22) rfl (tlt h4).2.2.1 (by decide) (by decide) ?_
          show Steps p.tables e below (T.setTop (mkF m 29 #[.val (.int q)] [])) _
          refine XS.iconst X.here hx rfl (hb hby d1_29) ?_
          exact kt
        · have hk : own_q q = true := by simp [own_q, h1, h2, h3, h4]
          rw [hk] at kt
          show Steps p.tables e below (T.setTop (mkF m 0 #[.val (.int q)] [])) _
          refine XS.iloadN X.here hx rfl (hb hby d1_0) rfl ?_
          show Steps p.tables e below (T.setTop (mkF m 1 #[.val (.int q)] [(.int q)])) _
          refine XS.bipush X.here hx rfl (hb hby d1_1) ?_
          show Steps p.tables e below (T.setTop (mkF m 3 #[.val (.int q)] [(.int (32 : Int32)), (.int q)])) _
          refine XS.icmpNo X.here hx rfl (hb hby d1_3) rfl (tlt h1).2.1 ?_
          show Steps p.tables e below (T.setTop (mkF m 6 #[.val (.int q)] [])) _
          refine XS.iloadN X.here hx rfl (hb hby d1_6) rfl ?_
          show Steps p.tables e below (T.setTop (mkF m 7 #[.val (.int q)] [(.int q)])) _
          refine XS.bipush X.here hx rfl (hb hby d1_7) ?_
          show Steps p.tables e below (T.setTop (mkF m 9 #[.val (.int q)] [(.int (9 : Int32)), (.int q)])) _
          refine XS.icmpNo X.here hx rfl (hb hby d1_9) rfl (teq h2).2 ?_
          show Steps p.tables e below (T.setTop (mkF m 12 #[.val (.int q)] [])) _
          refine XS.iloadN X.here hx rfl (hb hby d1_12) rfl ?_
          show Steps p.tables e below (T.setTop (mkF m 13 #[.val (.int q)] [(.int q)])) _
          refine XS.bipush X.here hx rfl (hb hby d1_13) ?_
          show Steps p.tables e below (T.setTop (mkF m 15 #[.val (.int q)] [(.int (127 : Int32)), (.int q)])) _
          refine XS.icmpNo X.here hx rfl (hb hby d1_15) rfl (feq h3).1 ?_
          show Steps p.tables e below (T.setTop (mkF m 18 #[.val (.int q)] [])) _
          refine XS.iloadN X.here hx rfl (hb hby d1_18) rfl ?_
          show Steps p.tables e below (T.setTop (mkF m 19 #[.val (.int q)] [(.int q)])) _
          refine XS.sipush X.here hx rfl (hb hby d1_19) ?_
          show Steps p.tables e below (T.setTop (mkF m 22 #[.val (.int q)] [(.int (255 : Int32)), (.int q)])) _
          refine XS.icmpNo X.here hx rfl (hb hby d1_22) rfl (flt h4).2.2.1 ?_
          show Steps p.tables e below (T.setTop (mkF m 25 #[.val (.int q)] [])) _
          refine XS.iconst X.here hx rfl (hb hby d1_25) ?_
          show Steps p.tables e below (T.setTop (mkF m 26 #[.val (.int q)] [(.int (1 : Int32))])) _
          refine XS.goto X.here hx rfl (pc0 := 26) (pc' := 30) rfl (hb hby d1_26) (by decide) (by decide) ?_
          exact kt
    · have hk : own_q q = false := by simp [own_q, h1, h2]
      rw [hk] at kt
      show Steps p.tables e below (T.setTop (mkF m 0 #[.val (.int q)] [])) _
      refine XS.iloadN X.here hx rfl (hb hby d1_0) rfl ?_
      show Steps p.tables e below (T.setTop (mkF m 1 #[.val (.int q)] [(.int q)])) _
      refine XS.bipush X.here hx rfl (hb hby d1_1) ?_
      show Steps p.tables e below (T.setTop (mkF m 3 #[.val (.int q)] [(.int (32 : Int32)), (.int q)])) _
      refine XS.icmpNo X.here hx rfl (hb hby d1_3) rfl (tlt h1).2.1 ?_
      show Steps p.tables e below (T.setTop (mkF m 6 #[.val (.int q)] [])) _
      refine XS.iloadN X.here hx rfl (hb hby d1_6) rfl ?_
      show Steps p.tables e below (T.setTop (mkF m 7 #[.val (.int q)] [(.int q)])) _
      refine XS.bipush X.here hx rfl (hb hby d1_7) ?_
      show Steps p.tables e below (T.setTop (mkF m 9 #[.val (.int q)] [(.int (9 : Int32)), (.int q)])) _
      refine XS.icmpYes X.here hx rfl (pc0 := 9) (pc' := 29) rfl (hb hby d1_9) rfl (feq h2).2 (by decide) (by decide) ?_
      show Steps p.tables e below (T.setTop (mkF m 29 #[.val (.int q)] [])) _
      refine XS.iconst X.here hx rfl (hb hby d1_29) ?_
      exact kt
  · by_cases h3 : q = (127 : Int32)
    · have hk : own_q q = false := by simp [own_q, h3]
      rw [hk] at kt
      show Steps p.tables e below (T.setTop (mkF m 0 #[.val (.int q)] [])) _
      refine XS.iloadN X.here hx rfl (hb hby d1_0) rfl ?_
      show Steps p.tables e below (T.setTop (mkF m 1 #[.val (.int q)] [(.int q)])) _
      refine XS.bipush X.here hx rfl (hb hby d1_1) ?_
      show Steps p.tables e below (T.setTop (mkF m 3 #[.val (.int q)] [(.int (32 : Int32)), (.int q)])) _
      refine XS.icmpYes X.here hx rfl (pc0 := 3) (pc' := 12) rfl (hb hby d1_3) rfl (flt h1).2.1 (by decide) (by decide) ?_
      show Steps p.tables e below (T.setTop (mkF m 12 #[.val (.int q)] [])) _
      refine XS.iloadN X.here hx rfl (hb hby d1_12) rfl ?_
      show Steps p.tables e below (T.setTop (mkF m 13 #[.val (.int q)] [(.int q)])) _
      refine XS.bipush X.here hx rfl (hb hby d1_13) ?_
      show Steps p.tables e below (T.setTop (mkF m 15 #[.val (.int q)] [(.int (127 : Int32)), (.int q)])) _
      refine XS.icmpYes X.here hx rfl (pc0 := 15) (pc' := 29) rfl (hb hby d1_15) rfl (teq h3).1 (by decide) (by decide) ?_
      show Steps p.tables e below (T.setTop (mkF m 29 #[.val (.int q)] [])) _
      refine XS.iconst X.here hx rfl (hb hby d1_29) ?_
      exact kt
    · by_cases h4 : (255 : Int32) < q
      · have hk : own_q q = false := by simp [own_q, h4]
        rw [hk] at kt
        show Steps p.tables e below (T.setTop (mkF m 0 #[.val (.int q)] [])) _
        refine XS.iloadN X.here hx rfl (hb hby d1_0) rfl ?_
        show Steps p.tables e below (T.setTop (mkF m 1 #[.val (.int q)] [(.int q)])) _
        refine XS.bipush X.here hx rfl (hb hby d1_1) ?_
        show Steps p.tables e below (T.setTop (mkF m 3 #[.val (.int q)] [(.int (32 : Int32)), (.int q)])) _
        refine XS.icmpYes X.here hx rfl (pc0 := 3) (pc' := 12) rfl (hb hby d1_3) rfl (flt h1).2.1 (by decide) (by decide) ?_
        show Steps p.tables e below (T.setTop (mkF m 12 #[.val (.int q)] [])) _
        refine XS.iloadN X.here hx rfl (hb hby d1_12) rfl ?_
        show Steps p.tables e below (T.setTop (mkF m 13 #[.val (.int q)] [(.int q)])) _
        refine XS.bipush X.here hx rfl (hb hby d1_13) ?_
        show Steps p.tables e below (T.setTop (mkF m 15 #[.val (.int q)] [(.int (127 : Int32)), (.int q)])) _
        refine XS.icmpNo X.here hx rfl (hb hby d1_15) rfl (feq h3).1 ?_
        show Steps p.tables e below (T.setTop (mkF m 18 #[.val (.int q)] [])) _
        refine XS.iloadN X.here hx rfl (hb hby d1_18) rfl ?_
        show Steps p.tables e below (T.setTop (mkF m 19 #[.val (.int q)] [(.int q)])) _
        refine XS.sipush X.here hx rfl (hb hby d1_19) ?_
        show Steps p.tables e below (T.setTop (mkF m 22 #[.val (.int q)] [(.int (255 : Int32)), (.int q)])) _
        refine XS.icmpYes X.here hx rfl (pc0 := 22) (pc' := 29) rfl (hb hby d1_22) rfl (tlt h4).2.2.1 (by decide) (by decide) ?_
        show Steps p.tables e below (T.setTop (mkF m 29 #[.val (.int q)] [])) _
        refine XS.iconst X.here hx rfl (hb hby d1_29) ?_
        exact kt
      · have hk : own_q q = true := by simp [own_q, h1, h3, h4]
        rw [hk] at kt
        show Steps p.tables e below (T.setTop (mkF m 0 #[.val (.int q)] [])) _
        refine XS.iloadN X.here hx rfl (hb hby d1_0) rfl ?_
        show Steps p.tables e below (T.setTop (mkF m 1 #[.val (.int q)] [(.int q)])) _
        refine XS.bipush X.here hx rfl (hb hby d1_1) ?_
        show Steps p.tables e below (T.setTop (mkF m 3 #[.val (.int q)] [(.int (32 : Int32)), (.int q)])) _
        refine XS.icmpYes X.here hx rfl (pc0 := 3) (pc' := 12) rfl (hb hby d1_3) rfl (flt h1).2.1 (by decide) (by decide) ?_
        show Steps p.tables e below (T.setTop (mkF m 12 #[.val (.int q)] [])) _
        refine XS.iloadN X.here hx rfl (hb hby d1_12) rfl ?_
        show Steps p.tables e below (T.setTop (mkF m 13 #[.val (.int q)] [(.int q)])) _
        refine XS.bipush X.here hx rfl (hb hby d1_13) ?_
        show Steps p.tables e below (T.setTop (mkF m 15 #[.val (.int q)] [(.int (127 : Int32)), (.int q)])) _
        refine XS.icmpNo X.here hx rfl (hb hby d1_15) rfl (feq h3).1 ?_
        show Steps p.tables e below (T.setTop (mkF m 18 #[.val (.int q)] [])) _
        refine XS.iloadN X.here hx rfl (hb hby d1_18) rfl ?_
        show Steps p.tables e below (T.setTop (mkF m 19 #[.val (.int q)] [(.int q)])) _
        refine XS.sipush X.here hx rfl (hb hby d1_19) ?_
        show Steps p.tables e below (T.setTop (mkF m 22 #[.val (.int q)] [(.int (255 : Int32)), (.int q)])) _
        refine XS.icmpNo X.here hx rfl (hb hby d1_22) rfl (flt h4).2.2.1 ?_
        show Steps p.tables e below (T.setTop (mkF m 25 #[.val (.int q)] [])) _
        refine XS.iconst X.here hx rfl (hb hby d1_25) ?_
        show Steps p.tables e below (T.setTop (mkF m 26 #[.val (.int q)] [(.int (1 : Int32))])) _
        refine XS.goto X.here hx rfl (pc0 := 26) (pc' := 30) rfl (hb hby d1_26) (by decide) (by decide) ?_
        exact kt
def QV (z : Int32) (h0 : Heap) (n0 : Nat) (v : Option Value) (h : Heap) (L : List Loc) : Prop := v = some (.int z) ∧ Fr n0 L ∧ h = h0
set_option maxRecDepth 65536 in
set_option maxHeartbeats 40000000 in
theorem rm1 (l : Launch) (Z : State) (a0 : Array Value) (hw : ∀ d ∈ tables_1, d.before a0 Z = true) (ws : List Jvm.Cond) (q : Int32) (h0 : Heap) (n0 : Nat) :
    MetFree l (⟨"com/example/lugh/lugh/web/MediaType", "isQuotable", "(C)Z"⟩ : MethodName) (head1 (Jvm.Cond.code (⟨"com/example/lugh/lugh/web/MediaType", "isQuotable", "(C)Z"⟩ : MethodName) prog_35_method_28_code 1 (some .boolean) :: ws) ({ frames := 0, cells := 0, slots := 0, locals := 0 } : Room)) (fun a U => a = #[(.int q)] ∧ Z.Warmed39 U.vm ∧ U.heap = h0) (fun _ _ _ _ _ => True) (fun _ U o U' => ∃ v L, o = .returned v ∧ QV (own_b (own_q q)) h0 n0 v U'.heap L ∧ FrameEnd U o U' L ({ frames := 0, cells := 0, slots := 0, locals := 0 } : Room).cells ({ frames := 0, cells := 0, slots := 0, locals := 0 } : Room).slots) := by
  refine MetFree.of_bodySF (plainFor_of_name pn_1) hisR ?_
  intro p e s m args below meth c s₁ Bd hml0 hP hK
  obtain ⟨rfl, hZ, hh⟩ := hP
  have hx := Bd.exec
  have hby := Bd.bytes
  have hml : c.maxLocals = 1 := hml0
  have hown : s.vm.findClass "com/example/lugh/lugh/web/MediaType" = some m.cls := findClass_of_methodNamed Bd.named
  have hnm := (name_of_methodNamed Bd.named Bd.method).1
  have X0 : Stand p l e ({ frames := 0, cells := 0, slots := 0, locals := 0 } : Room) s m #[(.int q)] below meth c s₁ [] 0 0 := Stand.of_body Bd
  have e0 : s₁.heap = h0 := by rw [← hh, Bd.state]; rfl
  have N0 := Fr.nil n0
  have pre0 : ∀ t, Steps p.tables e below (s₁.setTop (mkF m 0 #[.val (.int q)] [])) t → Steps p.tables e below (s₁.setTop (entryFrame m #[(.int q)] 1)) t := fun t k => castTop (ef_1 m q) k
  obtain ⟨fs, hr, hrun, hended, hW, hsame⟩ := X0.leave (v := some (.int (own_b (own_q q)))) (fun h => by rw [Bd.returns] at h; cases h)
  refine ⟨_, _, pre0 _ ?_, hrun, hended, _, _, rfl, ?_, ⟨_, rfl⟩, hW, hsame.mono (by decide) (by decide)⟩
  · refine stepsQ q X0 hx hby ?_
    exact retN X0 hx (t := .boolean) Bd.returns (by simp) (hb hby d1_30) (by rw [own_bn]; exact hr)
  · exact ⟨rfl, N0, e0⟩
theorem seg1 {p : Program} {l : Launch} {e : Env} {R : Room} {s : State} {m : MethodId} {args : Array Value} {below : List Frame} {meth : Method} {c : Code} {T : State} {locs : List Loc} {cells slots : Nat} (i0 q : Int32) (X : Stand p l e R s m args below meth c T locs cells slots) (hx : p.tables.exec = Jvm.exec) (hby : c.code = code)  {target : State} (kt : Steps p.tables e below (T.setTop (mkF m 18 #[.val (.int i0), .val (.int q), .val (.int (own_b (own_t q))), .unset, .unset, .unset] [])) target) : Steps p.tables e below (T.setTop (mkF m 6 #[.val (.int i0), .val (.int q), .unset, .unset, .unset, .unset] [])) target := by
  by_cases h1 : q = (9 : Int32)
  · have hk : own_t q = true := by simp [own_t, h1]
    rw [hk] at kt
    show Steps p.tables e below (T.setTop (mkF m 6 #[.val (.int i0), .val (.int q), .unset, .unset, .unset, .unset] [])) _
    refine XS.iloadN X.here hx rfl (hb hby at_6) rfl ?_
    show Steps p.tables e below (T.setTop (mkF m 7 #[.val (.int i0), .val (.int q), .unset, .unset, .unset, .unset] [(.int q)])) _
    refine XS.bipush X.here hx rfl (hb hby at_7) ?_
    show Steps p.tables e below (T.setTop (mkF m 9 #[.val (.int i0), .val (.int q), .unset, .unset, .unset, .unset] [(.int (9 : Int32)), (.int q)])) _
    refine XS.icmpNo X.here hx rfl (hb hby at_9) rfl (teq h1).2 ?_
    show Steps p.tables e below (T.setTop (mkF m 12 #[.val (.int i0), .val (.int q), .unset, .unset, .unset, .unset] [])) _
    refine XS.iconst X.here hx rfl (hb hby at_12) ?_
    show Steps p.tables e below (T.setTop (mkF m 13 #[.val (.int i0), .val (.int q), .unset, .unset, .unset, .unset] [(.int (1 : Int32))])) _
    refine XS.goto X.here hx rfl (pc0 := 13) (pc' := 17) rfl (hb hby at_13) (by decide) (by decide) ?_
    show Steps p.tables e below (T.setTop (mkF m 17 #[.val (.int i0), .val (.int q), .unset, .unset, .unset, .unset] [(.int (1 : Int32))])) _
    refine XS.istoreN X.here hx rfl (hb hby at_17) rfl (l' := #[.val (.int i0), .val (.int q), .val (.int (1 : Int32)), .unset, .unset, .unset]) rfl ?_
    exact kt
  · have hk : own_t q = false := by simp [own_t, h1]
    rw [hk] at kt
    show Steps p.tables e below (T.setTop (mkF m 6 #[.val (.int i0), .val (.int q), .unset, .unset, .unset, .unset] [])) _
    refine XS.iloadN X.here hx rfl (hb hby at_6) rfl ?_
    show Steps p.tables e below (T.setTop (mkF m 7 #[.val (.int i0), .val (.int q), .unset, .unset, .unset, .unset] [(.int q)])) _
    refine XS.bipush X.here hx rfl (hb hby at_7) ?_
    show Steps p.tables e below (T.setTop (mkF m 9 #[.val (.int i0), .val (.int q), .unset, .unset, .unset, .unset] [(.int (9 : Int32)), (.int q)])) _
    refine XS.icmpYes X.here hx rfl (pc0 := 9) (pc' := 16) rfl (hb hby at_9) rfl (feq h1).2 (by decide) (by decide) ?_
    show Steps p.tables e below (T.setTop (mkF m 16 #[.val (.int i0), .val (.int q), .unset, .unset, .unset, .unset] [])) _
    refine XS.iconst X.here hx rfl (hb hby at_16) ?_
    show Steps p.tables e below (T.setTop (mkF m 17 #[.val (.int i0), .val (.int q), .unset, .unset, .unset, .unset] [(.int (0 : Int32))])) _
    refine XS.istoreN X.here hx rfl (hb hby at_17) rfl (l' := #[.val (.int i0), .val (.int q), .val (.int (0 : Int32)), .unset, .unset, .unset]) rfl ?_
    exact kt
theorem seg2 {p : Program} {l : Launch} {e : Env} {R : Room} {s : State} {m : MethodId} {args : Array Value} {below : List Frame} {meth : Method} {c : Code} {T : State} {locs : List Loc} {cells slots : Nat} (i0 q t : Int32) (X : Stand p l e R s m args below meth c T locs cells slots) (hx : p.tables.exec = Jvm.exec) (hby : c.code = code)  {target : State} (kt : Steps p.tables e below (T.setTop (mkF m 36 #[.val (.int i0), .val (.int q), .val (.int t), .val (.int (own_b (own_v q))), .unset, .unset] [])) target) : Steps p.tables e below (T.setTop (mkF m 18 #[.val (.int i0), .val (.int q), .val (.int t), .unset, .unset, .unset] [])) target := by
  by_cases h1 : q < (32 : Int32)
  · have hk : own_v q = false := by simp [own_v, h1]
    rw [hk] at kt
    show Steps p.tables e below (T.setTop (mkF m 18 #[.val (.int i0), .val (.int q), .val (.int t), .unset, .unset, .unset] [])) _
    refine XS.iloadN X.here hx rfl (hb hby at_18) rfl ?_
    show Steps p.tables e below (T.setTop (mkF m 19 #[.val (.int i0), .val (.int q), .val (.int t), .unset, .unset, .unset] [(.int q)])) _
    refine XS.bipush X.here hx rfl (hb hby at_19) ?_
    show Steps p.tables e below (T.setTop (mkF m 21 #[.val (.int i0), .val (.int q), .val (.int t), .unset, .unset, .unset] [(.int (32 : Int32)), (.int q)])) _
    refine XS.icmpYes X.here hx rfl (pc0 := 21) (pc' := 34) rfl (hb hby at_21) rfl (tlt h1).1 (by decide) (by decide) ?_
    show Steps p.tables e below (T.setTop (mkF m 34 #[.val (.int i0), .val (.int q), .val (.int t), .unset, .unset, .unset] [])) _
    refine XS.iconst X.here hx rfl (hb hby at_34) ?_
    show Steps p.tables e below (T.setTop (mkF m 35 #[.val (.int i0), .val (.int q), .val (.int t), .unset, .unset, .unset] [(.int (0 : Int32))])) _
    refine XS.istoreN X.here hx rfl (hb hby at_35) rfl (l' := #[.val (.int i0), .val (.int q), .val (.int t), .val (.int (0 : Int32)), .unset, .unset]) rfl ?_
    exact kt
  · by_cases h2 : (126 : Int32) < q
    · have hk : own_v q = false := by simp [own_v, h1, h2]
      rw [hk] at kt
      show Steps p.tables e below (T.setTop (mkF m 18 #[.val (.int i0), .val (.int q), .val (.int t), .unset, .unset, .unset] [])) _
      refine XS.iloadN X.here hx rfl (hb hby at_18) rfl ?_
      show Steps p.tables e below (T.setTop (mkF m 19 #[.val (.int i0), .val (.int q), .val (.int t), .unset, .unset, .unset] [(.int q)])) _
      refine XS.bipush X.here hx rfl (hb hby at_19) ?_
      show Steps p.tables e below (T.setTop (mkF m 21 #[.val (.int i0), .val (.int q), .val (.int t), .unset, .unset, .unset] [(.int (32 : Int32)), (.int q)])) _
      refine XS.icmpNo X.here hx rfl (hb hby at_21) rfl (flt h1).1 ?_
      show Steps p.tables e below (T.setTop (mkF m 24 #[.val (.int i0), .val (.int q), .val (.int t), .unset, .unset, .unset] [])) _
      refine XS.iloadN X.here hx rfl (hb hby at_24) rfl ?_
      show Steps p.tables e below (T.setTop (mkF m 25 #[.val (.int i0), .val (.int q), .val (.int t), .unset, .unset, .unset] [(.int q)])) _
      refine XS.bipush X.here hx rfl (hb hby at_25) ?_
      show Steps p.tables e below (T.setTop (mkF m 27 #[.val (.int i0), .val (.int q), .val (.int t), .unset, .unset, .unset] [(.int (126 : Int32)), (.int q)])) _
      refine XS.icmpYes X.here hx rfl (pc0 := 27) (pc' := 34) rfl (hb hby at_27) rfl (tlt h2).2.2.1 (by decide) (by decide) ?_
      show Steps p.tables e below (T.setTop (mkF m 34 #[.val (.int i0), .val (.int q), .val (.int t), .unset, .unset, .unset] [])) _
      refine XS.iconst X.here hx rfl (hb hby at_34) ?_
      show Steps p.tables e below (T.setTop (mkF m 35 #[.val (.int i0), .val (.int q), .val (.int t), .unset, .unset, .unset] [(.int (0 : Int32))])) _
      refine XS.istoreN X.here hx rfl (hb hby at_35) rfl (l' := #[.val (.int i0), .val (.int q), .val (.int t), .val (.int (0 : Int32)), .unset, .unset]) rfl ?_
      exact kt
    · have hk : own_v q = true := by simp [own_v, h1, h2]
      rw [hk] at kt
      show Steps p.tables e below (T.setTop (mkF m 18 #[.val (.int i0), .val (.int q), .val (.int t), .unset, .unset, .unset] [])) _
      refine XS.iloadN X.here hx rfl (hb hby at_18) rfl ?_
      show Steps p.tables e below (T.setTop (mkF m 19 #[.val (.int i0), .val (.int q), .val (.int t), .unset, .unset, .unset] [(.int q)])) _
      refine XS.bipush X.here hx rfl (hb hby at_19) ?_
      show Steps p.tables e below (T.setTop (mkF m 21 #[.val (.int i0), .val (.int q), .val (.int t), .unset, .unset, .unset] [(.int (32 : Int32)), (.int q)])) _
      refine XS.icmpNo X.here hx rfl (hb hby at_21) rfl (flt h1).1 ?_
      show Steps p.tables e below (T.setTop (mkF m 24 #[.val (.int i0), .val (.int q), .val (.int t), .unset, .unset, .unset] [])) _
      refine XS.iloadN X.here hx rfl (hb hby at_24) rfl ?_
      show Steps p.tables e below (T.setTop (mkF m 25 #[.val (.int i0), .val (.int q), .val (.int t), .unset, .unset, .unset] [(.int q)])) _
      refine XS.bipush X.here hx rfl (hb hby at_25) ?_
      show Steps p.tables e below (T.setTop (mkF m 27 #[.val (.int i0), .val (.int q), .val (.int t), .unset, .unset, .unset] [(.int (126 : Int32)), (.int q)])) _
      refine XS.icmpNo X.here hx rfl (hb hby at_27) rfl (flt h2).2.2.1 ?_
      show Steps p.tables e below (T.setTop (mkF m 30 #[.val (.int i0), .val (.int q), .val (.int t), .unset, .unset, .unset] [])) _
      refine XS.iconst X.here hx rfl (hb hby at_30) ?_
      show Steps p.tables e below (T.setTop (mkF m 31 #[.val (.int i0), .val (.int q), .val (.int t), .unset, .unset, .unset] [(.int (1 : Int32))])) _
      refine XS.goto X.here hx rfl (pc0 := 31) (pc' := 35) rfl (hb hby at_31) (by decide) (by decide) ?_
      show Steps p.tables e below (T.setTop (mkF m 35 #[.val (.int i0), .val (.int q), .val (.int t), .unset, .unset, .unset] [(.int (1 : Int32))])) _
      refine XS.istoreN X.here hx rfl (hb hby at_35) rfl (l' := #[.val (.int i0), .val (.int q), .val (.int t), .val (.int (1 : Int32)), .unset, .unset]) rfl ?_
      exact kt
theorem seg3 {p : Program} {l : Launch} {e : Env} {R : Room} {s : State} {m : MethodId} {args : Array Value} {below : List Frame} {meth : Method} {c : Code} {T : State} {locs : List Loc} {cells slots : Nat} (i0 q t v : Int32) (X : Stand p l e R s m args below meth c T locs cells slots) (hx : p.tables.exec = Jvm.exec) (hby : c.code = code)  {target : State} (kt : Steps p.tables e below (T.setTop (mkF m 57 #[.val (.int i0), .val (.int q), .val (.int t), .val (.int v), .val (.int (own_b (own_o q))), .unset] [])) target) : Steps p.tables e below (T.setTop (mkF m 36 #[.val (.int i0), .val (.int q), .val (.int t), .val (.int v), .unset, .unset] [])) target := by
  by_cases h1 : q < (128 : Int32)
  · have hk : own_o q = false := by simp [own_o, h1]
    rw [hk] at kt
    show Steps p.tables e below (T.setTop (mkF m 36 #[.val (.int i0), .val (.int q), .val (.int t), .val (.int v), .unset, .unset] [])) _
    refine XS.iloadN X.here hx rfl (hb hby at_36) rfl ?_
    show Steps p.tables e below (T.setTop (mkF m 37 #[.val (.int i0), .val (.int q), .val (.int t), .val (.int v), .unset, .unset] [(.int q)])) _
    refine XS.sipush X.here hx rfl (hb hby at_37) ?_
    show Steps p.tables e below (T.setTop (mkF m 40 #[.val (.int i0), .val (.int q), .val (.int t), .val (.int v), .unset, .unset] [(.int (128 : Int32)), (.int q)])) _
    refine XS.icmpYes X.here hx rfl (pc0 := 40) (pc' := 54) rfl (hb hby at_40) rfl (tlt h1).1 (by decide) (by decide) ?_
    show Steps p.tables e below (T.setTop (mkF m 54 #[.val (.int i0), .val (.int q), .val (.int t), .val (.int v), .unset, .unset] [])) _
    refine XS.iconst X.here hx rfl (hb hby at_54) ?_
    show Steps p.tables e below (T.setTop (mkF m 55 #[.val (.int i0), .val (.int q), .val (.int t), .val (.int v), .unset, .unset] [(.int (0 : Int32))])) _
    refine XS.istore X.here hx rfl (hb hby at_55) rfl (l' := #[.val (.int i0), .val (.int q), .val (.int t), .val (.int v), .val (.int (0 : Int32)), .unset]) rfl ?_
    exact kt
  · by_cases h2 : (255 : Int32) < q
    · have hk : own_o q = false := by simp [own_o, h1, h2]
      rw [hk] at kt
      show Steps p.tables e below (T.setTop (mkF m 36 #[.val (.int i0), .val (.int q), .val (.int t), .val (.int v), .unset, .unset] [])) _
      refine XS.iloadN X.here hx rfl (hb hby at_36) rfl ?_
      show Steps p.tables e below (T.setTop (mkF m 37 #[.val (.int i0), .val (.int q), .val (.int t), .val (.int v), .unset, .unset] [(.int q)])) _
      refine XS.sipush X.here hx rfl (hb hby at_37) ?_
      show Steps p.tables e below (T.setTop (mkF m 40 #[.val (.int i0), .val (.int q), .val (.int t), .val (.int v), .unset, .unset] [(.int (128 : Int32)), (.int q)])) _
      refine XS.icmpNo X.here hx rfl (hb hby at_40) rfl (flt h1).1 ?_
      show Steps p.tables e below (T.setTop (mkF m 43 #[.val (.int i0), .val (.int q), .val (.int t), .val (.int v), .unset, .unset] [])) _
      refine XS.iloadN X.here hx rfl (hb hby at_43) rfl ?_
      show Steps p.tables e below (T.setTop (mkF m 44 #[.val (.int i0), .val (.int q), .val (.int t), .val (.int v), .unset, .unset] [(.int q)])) _
      refine XS.sipush X.here hx rfl (hb hby at_44) ?_
      show Steps p.tables e below (T.setTop (mkF m 47 #[.val (.int i0), .val (.int q), .val (.int t), .val (.int v), .unset, .unset] [(.int (255 : Int32)), (.int q)])) _
      refine XS.icmpYes X.here hx rfl (pc0 := 47) (pc' := 54) rfl (hb hby at_47) rfl (tlt h2).2.2.1 (by decide) (by decide) ?_
      show Steps p.tables e below (T.setTop (mkF m 54 #[.val (.int i0), .val (.int q), .val (.int t), .val (.int v), .unset, .unset] [])) _
      refine XS.iconst X.here hx rfl (hb hby at_54) ?_
      show Steps p.tables e below (T.setTop (mkF m 55 #[.val (.int i0), .val (.int q), .val (.int t), .val (.int v), .unset, .unset] [(.int (0 : Int32))])) _
      refine XS.istore X.here hx rfl (hb hby at_55) rfl (l' := #[.val (.int i0), .val (.int q), .val (.int t), .val (.int v), .val (.int (0 : Int32)), .unset]) rfl ?_
      exact kt
    · have hk : own_o q = true := by simp [own_o, h1, h2]
      rw [hk] at kt
      show Steps p.tables e below (T.setTop (mkF m 36 #[.val (.int i0), .val (.int q), .val (.int t), .val (.int v), .unset, .unset] [])) _
      refine XS.iloadN X.here hx rfl (hb hby at_36) rfl ?_
      show Steps p.tables e below (T.setTop (mkF m 37 #[.val (.int i0), .val (.int q), .val (.int t), .val (.int v), .unset, .unset] [(.int q)])) _
      refine XS.sipush X.here hx rfl (hb hby at_37) ?_
      show Steps p.tables e below (T.setTop (mkF m 40 #[.val (.int i0), .val (.int q), .val (.int t), .val (.int v), .unset, .unset] [(.int (128 : Int32)), (.int q)])) _
      refine XS.icmpNo X.here hx rfl (hb hby at_40) rfl (flt h1).1 ?_
      show Steps p.tables e below (T.setTop (mkF m 43 #[.val (.int i0), .val (.int q), .val (.int t), .val (.int v), .unset, .unset] [])) _
      refine XS.iloadN X.here hx rfl (hb hby at_43) rfl ?_
      show Steps p.tables e below (T.setTop (mkF m 44 #[.val (.int i0), .val (.int q), .val (.int t), .val (.int v), .unset, .unset] [(.int q)])) _
      refine XS.sipush X.here hx rfl (hb hby at_44) ?_
      show Steps p.tables e below (T.setTop (mkF m 47 #[.val (.int i0), .val (.int q), .val (.int t), .val (.int v), .unset, .unset] [(.int (255 : Int32)), (.int q)])) _
      refine XS.icmpNo X.here hx rfl (hb hby at_47) rfl (flt h2).2.2.1 ?_
      show Steps p.tables e below (T.setTop (mkF m 50 #[.val (.int i0), .val (.int q), .val (.int t), .val (.int v), .unset, .unset] [])) _
      refine XS.iconst X.here hx rfl (hb hby at_50) ?_
      show Steps p.tables e below (T.setTop (mkF m 51 #[.val (.int i0), .val (.int q), .val (.int t), .val (.int v), .unset, .unset] [(.int (1 : Int32))])) _
      refine XS.goto X.here hx rfl (pc0 := 51) (pc' := 55) rfl (hb hby at_51) (by decide) (by decide) ?_
      show Steps p.tables e below (T.setTop (mkF m 55 #[.val (.int i0), .val (.int q), .val (.int t), .val (.int v), .unset, .unset] [(.int (1 : Int32))])) _
      refine XS.istore X.here hx rfl (hb hby at_55) rfl (l' := #[.val (.int i0), .val (.int q), .val (.int t), .val (.int v), .val (.int (1 : Int32)), .unset]) rfl ?_
      exact kt
theorem seg4 {p : Program} {l : Launch} {e : Env} {R : Room} {s : State} {m : MethodId} {args : Array Value} {below : List Frame} {meth : Method} {c : Code} {T : State} {locs : List Loc} {cells slots : Nat} (i0 q : Int32) (t v w : Bool) (X : Stand p l e R s m args below meth c T locs cells slots) (hx : p.tables.exec = Jvm.exec) (hby : c.code = code) {target : State} (kt : Steps p.tables e below (T.setTop (mkF m 77 #[.val (.int i0), .val (.int q), .val (.int (own_b t)), .val (.int (own_b v)), .val (.int (own_b w)), .val (.int (own_b (t || (v || w))))] [])) target) : Steps p.tables e below (T.setTop (mkF m 57 #[.val (.int i0), .val (.int q), .val (.int (own_b t)), .val (.int (own_b v)), .val (.int (own_b w)), .unset] [])) target := by
  cases t with
  | true =>
    show Steps p.tables e below (T.setTop (mkF m 57 #[.val (.int i0), .val (.int q), .val (.int (1 : Int32)), .val (.int (own_b v)), .val (.int (own_b w)), .unset] [])) _
    refine XS.iloadN X.here hx rfl (hb hby at_57) rfl ?_
    show Steps p.tables e below (T.setTop (mkF m 58 #[.val (.int i0), .val (.int q), .val (.int (1 : Int32)), .val (.int (own_b v)), .val (.int (own_b w)), .unset] [(.int (1 : Int32))])) _
    refine XS.ifYes X.here hx rfl (pc0 := 58) (pc' := 70) rfl (hb hby at_58) rfl ((if0 _ _).trans (feq (by decide)).2) (by decide) (by decide) ?_
    show Steps p.tables e below (T.setTop (mkF m 70 #[.val (.int i0), .val (.int q), .val (.int (1 : Int32)), .val (.int (own_b v)), .val (.int (own_b w)), .unset] [])) _
    refine XS.iconst X.here hx rfl (hb hby at_70) ?_
    show Steps p.tables e below (T.setTop (mkF m 71 #[.val (.int i0), .val (.int q), .val (.int (1 : Int32)), .val (.int (own_b v)), .val (.int (own_b w)), .unset] [(.int (1 : Int32))])) _
    refine XS.goto X.here hx rfl (pc0 := 71) (pc' := 75) rfl (hb hby at_71) (by decide) (by decide) ?_
    show Steps p.tables e below (T.setTop (mkF m 75 #[.val (.int i0), .val (.int q), .val (.int (1 : Int32)), .val (.int (own_b v)), .val (.int (own_b w)), .unset] [(.int (1 : Int32))])) _
    refine XS.istore X.here hx rfl (hb hby at_75) rfl (l' := #[.val (.int i0), .val (.int q), .val (.int (1 : Int32)), .val (.int (own_b v)), .val (.int (own_b w)), .val (.int (1 : Int32))]) rfl ?_
    exact kt
  | false =>
    cases v with
    | true =>
      show Steps p.tables e below (T.setTop (mkF m 57 #[.val (.int i0), .val (.int q), .val (.int (0 : Int32)), .val (.int (1 : Int32)), .val (.int (own_b w)), .unset] [])) _
      refine XS.iloadN X.here hx rfl (hb hby at_57) rfl ?_
      show Steps p.tables e below (T.setTop (mkF m 58 #[.val (.int i0), .val (.int q), .val (.int (0 : Int32)), .val (.int (1 : Int32)), .val (.int (own_b w)), .unset] [(.int (0 : Int32))])) _
      refine XS.ifNo X.here hx rfl (hb hby at_58) rfl ((if0 _ _).trans (teq rfl).2) ?_
      show Steps p.tables e below (T.setTop (mkF m 61 #[.val (.int i0), .val (.int q), .val (.int (0 : Int32)), .val (.int (1 : Int32)), .val (.int (own_b w)), .unset] [])) _
      refine XS.iloadN X.here hx rfl (hb hby at_61) rfl ?_
      show Steps p.tables e below (T.setTop (mkF m 62 #[.val (.int i0), .val (.int q), .val (.int (0 : Int32)), .val (.int (1 : Int32)), .val (.int (own_b w)), .unset] [(.int (1 : Int32))])) _
      refine XS.ifYes X.here hx rfl (pc0 := 62) (pc' := 70) rfl (hb hby at_62) rfl ((if0 _ _).trans (feq (by decide)).2) (by decide) (by decide) ?_
      show Steps p.tables e below (T.setTop (mkF m 70 #[.val (.int i0), .val (.int q), .val (.int (0 : Int32)), .val (.int (1 : Int32)), .val (.int (own_b w)), .unset] [])) _
      refine XS.iconst X.here hx rfl (hb hby at_70) ?_
      show Steps p.tables e below (T.setTop (mkF m 71 #[.val (.int i0), .val (.int q), .val (.int (0 : Int32)), .val (.int (1 : Int32)), .val (.int (own_b w)), .unset] [(.int (1 : Int32))])) _
      refine XS.goto X.here hx rfl (pc0 := 71) (pc' := 75) rfl (hb hby at_71) (by decide) (by decide) ?_
      show Steps p.tables e below (T.setTop (mkF m 75 #[.val (.int i0), .val (.int q), .val (.int (0 : Int32)), .val (.int (1 : Int32)), .val (.int (own_b w)), .unset] [(.int (1 : Int32))])) _
      refine XS.istore X.here hx rfl (hb hby at_75) rfl (l' := #[.val (.int i0), .val (.int q), .val (.int (0 : Int32)), .val (.int (1 : Int32)), .val (.int (own_b w)), .val (.int (1 : Int32))]) rfl ?_
      exact kt
    | false =>
      cases w with
      | true =>
        show Steps p.tables e below (T.setTop (mkF m 57 #[.val (.int i0), .val (.int q), .val (.int (0 : Int32)), .val (.int (0 : Int32)), .val (.int (1 : Int32)), .unset] [])) _
        refine XS.iloadN X.here hx rfl (hb hby at_57) rfl ?_
        show Steps p.tables e below (T.setTop (mkF m 58 #[.val (.int i0), .val (.int q), .val (.int (0 : Int32)), .val (.int (0 : Int32)), .val (.int (1 : Int32)), .unset] [(.int (0 : Int32))])) _
        refine XS.ifNo X.here hx rfl (hb hby at_58) rfl ((if0 _ _).trans (teq rfl).2) ?_
        show Steps p.tables e below (T.setTop (mkF m 61 #[.val (.int i0), .val (.int q), .val (.int (0 : Int32)), .val (.int (0 : Int32)), .val (.int (1 : Int32)), .unset] [])) _
        refine XS.iloadN X.here hx rfl (hb hby at_61) rfl ?_
        show Steps p.tables e below (T.setTop (mkF m 62 #[.val (.int i0), .val (.int q), .val (.int (0 : Int32)), .val (.int (0 : Int32)), .val (.int (1 : Int32)), .unset] [(.int (0 : Int32))])) _
        refine XS.ifNo X.here hx rfl (hb hby at_62) rfl ((if0 _ _).trans (teq rfl).2) ?_
        show Steps p.tables e below (T.setTop (mkF m 65 #[.val (.int i0), .val (.int q), .val (.int (0 : Int32)), .val (.int (0 : Int32)), .val (.int (1 : Int32)), .unset] [])) _
        refine XS.iload X.here hx rfl (hb hby at_65) rfl ?_
        show Steps p.tables e below (T.setTop (mkF m 67 #[.val (.int i0), .val (.int q), .val (.int (0 : Int32)), .val (.int (0 : Int32)), .val (.int (1 : Int32)), .unset] [(.int (1 : Int32))])) _
        refine XS.ifNo X.here hx rfl (hb hby at_67) rfl ((if0 _ _).trans (feq (by decide)).1) ?_
        show Steps p.tables e below (T.setTop (mkF m 70 #[.val (.int i0), .val (.int q), .val (.int (0 : Int32)), .val (.int (0 : Int32)), .val (.int (1 : Int32)), .unset] [])) _
        refine XS.iconst X.here hx rfl (hb hby at_70) ?_
        show Steps p.tables e below (T.setTop (mkF m 71 #[.val (.int i0), .val (.int q), .val (.int (0 : Int32)), .val (.int (0 : Int32)), .val (.int (1 : Int32)), .unset] [(.int (1 : Int32))])) _
        refine XS.goto X.here hx rfl (pc0 := 71) (pc' := 75) rfl (hb hby at_71) (by decide) (by decide) ?_
        show Steps p.tables e below (T.setTop (mkF m 75 #[.val (.int i0), .val (.int q), .val (.int (0 : Int32)), .val (.int (0 : Int32)), .val (.int (1 : Int32)), .unset] [(.int (1 : Int32))])) _
        refine XS.istore X.here hx rfl (hb hby at_75) rfl (l' := #[.val (.int i0), .val (.int q), .val (.int (0 : Int32)), .val (.int (0 : Int32)), .val (.int (1 : Int32)), .val (.int (1 : Int32))]) rfl ?_
        exact kt
      | false =>
        show Steps p.tables e below (T.setTop (mkF m 57 #[.val (.int i0), .val (.int q), .val (.int (0 : Int32)), .val (.int (0 : Int32)), .val (.int (0 : Int32)), .unset] [])) _
        refine XS.iloadN X.here hx rfl (hb hby at_57) rfl ?_
        show Steps p.tables e below (T.setTop (mkF m 58 #[.val (.int i0), .val (.int q), .val (.int (0 : Int32)), .val (.int (0 : Int32)), .val (.int (0 : Int32)), .unset] [(.int (0 : Int32))])) _
        refine XS.ifNo X.here hx rfl (hb hby at_58) rfl ((if0 _ _).trans (teq rfl).2) ?_
        show Steps p.tables e below (T.setTop (mkF m 61 #[.val (.int i0), .val (.int q), .val (.int (0 : Int32)), .val (.int (0 : Int32)), .val (.int (0 : Int32)), .unset] [])) _
        refine XS.iloadN X.here hx rfl (hb hby at_61) rfl ?_
        show Steps p.tables e below (T.setTop (mkF m 62 #[.val (.int i0), .val (.int q), .val (.int (0 : Int32)), .val (.int (0 : Int32)), .val (.int (0 : Int32)), .unset] [(.int (0 : Int32))])) _
        refine XS.ifNo X.here hx rfl (hb hby at_62) rfl ((if0 _ _).trans (teq rfl).2) ?_
        show Steps p.tables e below (T.setTop (mkF m 65 #[.val (.int i0), .val (.int q), .val (.int (0 : Int32)), .val (.int (0 : Int32)), .val (.int (0 : Int32)), .unset] [])) _
        refine XS.iload X.here hx rfl (hb hby at_65) rfl ?_
        show Steps p.tables e below (T.setTop (mkF m 67 #[.val (.int i0), .val (.int q), .val (.int (0 : Int32)), .val (.int (0 : Int32)), .val (.int (0 : Int32)), .unset] [(.int (0 : Int32))])) _
        refine XS.ifYes X.here hx rfl (pc0 := 67) (pc' := 74) rfl (hb hby at_67) rfl ((if0 _ _).trans (teq rfl).1) (by decide) (by decide) ?_
        show Steps p.tables e below (T.setTop (mkF m 74 #[.val (.int i0), .val (.int q), .val (.int (0 : Int32)), .val (.int (0 : Int32)), .val (.int (0 : Int32)), .unset] [])) _
        refine XS.iconst X.here hx rfl (hb hby at_74) ?_
        show Steps p.tables e below (T.setTop (mkF m 75 #[.val (.int i0), .val (.int q), .val (.int (0 : Int32)), .val (.int (0 : Int32)), .val (.int (0 : Int32)), .unset] [(.int (0 : Int32))])) _
        refine XS.istore X.here hx rfl (hb hby at_75) rfl (l' := #[.val (.int i0), .val (.int q), .val (.int (0 : Int32)), .val (.int (0 : Int32)), .val (.int (0 : Int32)), .val (.int (0 : Int32))]) rfl ?_
        exact kt
def Q0 (n0 : Nat) (v : Option Value) (h : Heap) (L : List Loc) : Prop := v = some (.int 1) ∧ Fr n0 L
set_option maxRecDepth 65536 in
set_option maxHeartbeats 40000000 in
theorem rm0 (l : Launch) (Z : State) (a0 : Array Value) (hw : ∀ d ∈ tables_1, d.before a0 Z = true) (ws : List Jvm.Cond) (i0 : Int32) (h0 : Heap) (n0 : Nat) (Z0 : n0 ≤ h0.size) :
    MetFree l x (head1 (Jvm.Cond.code x code maxLocals ret :: ws) room_1) (fun a U => a = #[(.int i0)] ∧ Z.Warmed39 U.vm ∧ U.heap = h0) (fun _ _ _ _ _ => True) (fun _ U o U' => ∃ v L, o = .returned v ∧ Q0 n0 v U'.heap L ∧ FrameEnd U o U' L 0 0) := by
  refine MetFree.of_bodySF (plainFor_of_name pn_0) hisR ?_
  intro p e s m args below meth c s₁ Bd hml0 hP hK
  obtain ⟨rfl, hZ, hh⟩ := hP
  have hx := Bd.exec
  have hby := Bd.bytes
  have hml : c.maxLocals = 6 := hml0
  have hown : s.vm.findClass "com/example/lugh/lugh/web/MediaTypeIsQuotablePinLaw" = some m.cls := findClass_of_methodNamed Bd.named
  have X0 : Stand p l e room_1 s m #[(.int i0)] below meth c s₁ [] 0 0 := Stand.of_body Bd
  have pre0 : ∀ t, Steps p.tables e below (s₁.setTop (mkF m 0 #[.val (.int i0), .unset, .unset, .unset, .unset, .unset] [])) t → Steps p.tables e below (s₁.setTop (entryFrame m #[(.int i0)] maxLocals)) t := fun t k => castTop (ef_0 m i0) k
  obtain ⟨q, hq⟩ : ∃ q, ((i0 &&& (65535 : Int32)).toUInt32.toUInt16.toUInt32.toInt32) = q := ⟨_, rfl⟩
  obtain ⟨_, _, ⟨T2, L2, k2, n2⟩, -, X2, ⟨Lc2, hQ2, l2, y2, z2⟩, st2⟩ := Jvm.LawKit.callS X0 hx (y := (⟨"com/example/lugh/lugh/web/MediaType", "isQuotable", "(C)Z"⟩ : MethodName)) hown (mvT hZ (hw _ (List.mem_of_getElem? (i := 1) rfl))) (mvT hZ (hw _ (List.mem_of_getElem? (i := 2) rfl))) (mvT hZ (hw _ (List.mem_of_getElem? (i := 3) rfl))) (mvT hZ (hw _ (List.mem_of_getElem? (i := 4) rfl))) (by decide) (backOf (W := 0) (rm1 l Z a0 hw [] q s₁.heap n0) hZ (hw _ (List.mem_of_getElem? (i := 4) rfl)) (hw _ (List.mem_of_getElem? (i := 3) rfl)) (by decide) (by decide)) (g := (mkF m 78 #[.val (.int i0), .val (.int q), .val (.int (own_b (own_t q))), .val (.int (own_b (own_v q))), .val (.int (own_b (own_o q))), .val (.int (own_b (own_q q)))] [(.int q)])) rfl (by rw [hml]; rfl) (argsL := [(.int q)]) (rest := []) (lenOf pd_q rfl) rfl (by show 2 * 0 + _ ≤ _; exact Nat.le_of_eq rfl) (hb hby at_78) (fun _ _ => ⟨rfl, rfl, (by decide : 0 + 0 ≤ _), (by decide : 0 + 0 ≤ _)⟩)
  dsimp only [Pt.U, Pt.locs, Pt.cells, Pt.slots] at X2 l2 y2 z2 st2 hQ2
  subst l2 y2 z2
  obtain ⟨rfl, N2q, e2⟩ := hQ2
  have N2 := Fr.app (Fr.nil n0) N2q
  obtain ⟨fs, hr, hrun, hended, hW, hsame⟩ := X2.leave (v := some (.int (1 : Int32))) (fun h => by rw [Bd.returns] at h; cases h)
  refine ⟨_, _, pre0 _ ?_, hrun, hended, _, _, rfl, ⟨rfl, N2⟩, ⟨_, rfl⟩, hW, hsame.mono (by decide) (by decide)⟩
  · show Steps p.tables e below (s₁.setTop (mkF m 0 #[.val (.int i0), .unset, .unset, .unset, .unset, .unset] [])) _
    refine XS.iloadN X0.here hx rfl (hb hby at_0) rfl ?_
    show Steps p.tables e below (s₁.setTop (mkF m 1 #[.val (.int i0), .unset, .unset, .unset, .unset, .unset] [(.int i0)])) _
    refine X0.ldcInt hx hown (mvT hZ (hw _ (List.mem_of_getElem? (i := 0) rfl))) (g := (mkF m 1 #[.val (.int i0), .unset, .unset, .unset, .unset, .unset] [(.int i0)])) rfl (hb hby at_1) _ ?_
    show Steps p.tables e below (s₁.setTop (mkF m 3 #[.val (.int i0), .unset, .unset, .unset, .unset, .unset] [(.int (65535 : Int32)), (.int i0)])) _
    refine XS.iand X0.here hx rfl (hb hby at_3) rfl ?_
    show Steps p.tables e below (s₁.setTop (mkF m 4 #[.val (.int i0), .unset, .unset, .unset, .unset, .unset] [(.int (i0 &&& (65535 : Int32)))])) _
    refine XS.i2c X0.here hx rfl (hb hby at_4) rfl ?_
    show Steps p.tables e below (s₁.setTop (mkF m 5 #[.val (.int i0), .unset, .unset, .unset, .unset, .unset] [(.int ((i0 &&& (65535 : Int32)).toUInt32.toUInt16.toUInt32.toInt32))])) _
    refine XS.istoreN X0.here hx rfl (hb hby at_5) rfl (l' := #[.val (.int i0), .val (.int ((i0 &&& (65535 : Int32)).toUInt32.toUInt16.toUInt32.toInt32)), .unset, .unset, .unset, .unset]) rfl ?_
    rw [hq]
    refine seg1 i0 q X0 hx hby ?_
    refine seg2 i0 q (own_b (own_t q)) X0 hx hby ?_
    refine seg3 i0 q (own_b (own_t q)) (own_b (own_v q)) X0 hx hby ?_
    refine seg4 i0 q (own_t q) (own_v q) (own_o q) X0 hx hby ?_
    rw [← own_eq]
    show Steps p.tables e below (s₁.setTop (mkF m 77 #[.val (.int i0), .val (.int q), .val (.int (own_b (own_t q))), .val (.int (own_b (own_v q))), .val (.int (own_b (own_o q))), .val (.int (own_b (own_q q)))] [])) _
    refine XS.iloadN X0.here hx rfl (hb hby at_77) rfl ?_
    show Steps p.tables e below (s₁.setTop (mkF m 78 #[.val (.int i0), .val (.int q), .val (.int (own_b (own_t q))), .val (.int (own_b (own_v q))), .val (.int (own_b (own_o q))), .val (.int (own_b (own_q q)))] [(.int q)])) _
    refine st2 _ ?_
    show Steps p.tables e below (T2.setTop (mkF m 81 #[.val (.int i0), .val (.int q), .val (.int (own_b (own_t q))), .val (.int (own_b (own_v q))), .val (.int (own_b (own_o q))), .val (.int (own_b (own_q q)))] [(.int (own_b (own_q q)))])) _
    refine XS.iload X2.here hx rfl (hb hby at_81) rfl ?_
    show Steps p.tables e below (T2.setTop (mkF m 83 #[.val (.int i0), .val (.int q), .val (.int (own_b (own_t q))), .val (.int (own_b (own_v q))), .val (.int (own_b (own_o q))), .val (.int (own_b (own_q q)))] [(.int (own_b (own_q q))), (.int (own_b (own_q q)))])) _
    refine XS.icmpNo X2.here hx rfl (hb hby at_83) rfl (teq rfl).2 ?_
    show Steps p.tables e below (T2.setTop (mkF m 86 #[.val (.int i0), .val (.int q), .val (.int (own_b (own_t q))), .val (.int (own_b (own_v q))), .val (.int (own_b (own_o q))), .val (.int (own_b (own_q q)))] [])) _
    refine XS.iconst X2.here hx rfl (hb hby at_86) ?_
    show Steps p.tables e below (T2.setTop (mkF m 87 #[.val (.int i0), .val (.int q), .val (.int (own_b (own_t q))), .val (.int (own_b (own_v q))), .val (.int (own_b (own_o q))), .val (.int (own_b (own_q q)))] [(.int (1 : Int32))])) _
    refine XS.goto X2.here hx rfl (pc0 := 87) (pc' := 91) rfl (hb hby at_87) (by decide) (by decide) ?_
    show Steps p.tables e below (T2.setTop (mkF m 91 #[.val (.int i0), .val (.int q), .val (.int (own_b (own_t q))), .val (.int (own_b (own_v q))), .val (.int (own_b (own_o q))), .val (.int (own_b (own_q q)))] [(.int (1 : Int32))])) _
    exact retN X2 hx (t := .boolean) Bd.returns (by simp) (hb hby at_91) hr
set_option maxRecDepth 65536 in
set_option maxHeartbeats 40000000 in
theorem comes_1 {Post : Tables → Env → Array Value → State → Outcome → State → Prop} (hpost : ∀ tb e args s v u, (limb_1_1.after args s (.returned v) u = true ∧ limb_1_2.after args s (.returned v) u = true ∧ True) → FrameEnd s (.returned v) u (Jvm.fieldLocs frame_1_writes args s ++ Jvm.arrayLocs frame_1_arrays args s ++ Jvm.staticLocs frame_1_statics s) 0 0 → Post tb e args s (.returned v) u) :
    ArmFor flags0 classFile x code maxLocals ret World_1 tables_1 room_1 Calls_1 rest_1 Pre_1 Post := by
  intro l hfl _ _ p e ha hc hk s m args below hf hA hF happ hP
  obtain ⟨hcalls, hrest, hpre⟩ := hP
  obtain ⟨-, -, -, hnamed, -, -, -, hat⟩ := (Spec.applies_iff hf).mp happ
  obtain ⟨hg, hn⟩ := and_e (Cond.before_iff.mp (show (Jvm.Cond.and given_1 narrow_1).before args s = true from hpre))
  obtain ⟨g0, r0⟩ := and_e hg
  obtain ⟨w0, rfl⟩ : ∃ w0 : Value, args = #[w0] := by
    have hs : args.size = 1 := by simpa [Cond.value, given_1] using g0
    obtain ⟨L⟩ := args
    match L, hs with
    | [w0], _ => exact ⟨w0, rfl⟩
  have hw := fun d (hd : d ∈ tables_1) => atoms_spec (ws := Jvm.Cond.code x code maxLocals ret :: tables_1) hat d (List.mem_cons_of_mem _ hd)
  obtain ⟨i0, ei0⟩ := is_v r0
  obtain rfl : w0 = (.int i0) := Option.some.inj ei0
  obtain ⟨n, o, h1, h2, h3, _, L, rfl, ⟨rfl, N⟩, hq⟩ := rm0 l s _ hw tables_1 i0 s.heap s.heap.size (Nat.le_refl _) p e ha hc hk s m _ below hf ((Spec.applies_iff_loose hf).mp happ).1 ⟨rfl, State.Warmed39.refl s, rfl⟩ trivial
  refine ⟨n, _, h1, h2, h3, hpost _ _ _ _ _ _ ⟨Cond.after_iff.mpr rfl, Cond.after_iff.mpr (eq_i res_at (Term.int_eval (1)) rfl), trivial⟩ ⟨hq.1, hq.2.1, (hq.2.2.sift fun y hy => Or.inr (N y hy)).mono (by decide) (by decide)⟩⟩
theorem main_1_1 : Claimed_1_1 := comes_1 fun _ _ _ _ _ _ h hF => ⟨h.1, hF⟩
theorem main_1_2 : Claimed_1_2 := comes_1 fun _ _ _ _ _ _ h hF => ⟨h.2.1, hF⟩
end Jvm.Pilot.@@N@@
namespace Jvm.Pilot.@@N@@
open Jvm Jvm.ClassFile Sem Op Lib Jvm.Free Jvm.Stand Jvm.Pilot.@@N@@.Jvm.D
/-! MADE BY PROGRAM (witnessworld.py) out of the Statement's table words and the real class files: 9 classes; the members and pool entries that the words name. The judged class is class 1, her method 1. -/
namespace start1
open Jvm.ClassFile
def u (s : String) : CpInfo := .utf8 (stringToUtf16 s)
/-- a pool by its gaps: so many unusable entries, then the entry; so many at the end -/
def gap : Nat → List CpInfo → List CpInfo
  | 0, r => r
  | n + 1, r => .unusable :: gap n r
def poolList (es : List (Nat × CpInfo)) (last : Nat) : List CpInfo := es.foldr (fun e r => gap e.1 (e.2 :: r)) (gap last [])
def pool (es : List (Nat × CpInfo)) (last : Nat) : Array CpInfo := ⟨poolList es last⟩
def fileOf (pool : Array CpInfo) (this : Nat) (attrs : Array Attribute := #[]) (ms : Array MethodInfo := #[]) (fl : Nat := 33) (sup : Nat := 0) (ifs : Array Nat := #[]) (fds : Array FieldInfo := #[]) : ClassFile where
  minorVersion := 0
  majorVersion := 65
  constantPool := pool
  accessFlags := fl
  thisClass := this
  superClass := sup
  interfaces := ifs
  fields := fds
  methods := ms
  attributes := attrs
def plain (name : String) (sup : Option ClassId) : Class where
  name := name
  kind := .ordinary
  loader := none
  accessFlags := 33
  super := sup
  interfaces := #[]
  cf := none
  fields := #[]
  methods := #[]
  instanceTypes := #[]
  staticTypes := #[]
  resolved := #[]
  callSites := []
  init := .initialized
  statics := none
  mirror := none

def pool0 : Array CpInfo := pool [(5, u "<init>"), (0, u "()V"), (1, .class_ 10), (1, u "java/lang/Object")] 113

def k0m0 : Method := { name := "<init>", desc := "()V", sig := { parameters := [], returnType := none }, accessFlags := 1, code := none }
/-- java/lang/Object -/
def k0 : Class := { plain "java/lang/Object" none with
  accessFlags := 33
  interfaces := #[]
  cf := some (fileOf pool0 8 #[] #[{ accessFlags := 1, nameIndex := 5, descriptorIndex := 6, attributes := #[] }] 33 0 #[] #[])
  fields := #[]
  methods := #[k0m0]
  instanceTypes := #[]
  staticTypes := #[]
  resolved := Array.replicate 124 none
  statics := none }

def pool1 : Array CpInfo := pool [(2, .class_ 4), (1, u "java/lang/Object"), (0, u "<init>"), (0, u "()V"), (0, .integer 65535), (0, .methodref 9 10), (0, .class_ 11), (0, .nameAndType 12 13), (0, u "com/example/lugh/lugh/web/MediaType"), (0, u "isQuotable"), (0, u "(C)Z"), (0, .class_ 15), (0, u "com/example/lugh/lugh/web/MediaTypeIsQuotablePinLaw"), (2, u "law"), (0, u "(I)Z")] 3

def k1m0 : Method := { name := "<init>", desc := "()V", sig := { parameters := [], returnType := none }, accessFlags := 2, code := none }
def k1c1 : Code := { maxStack := 2, maxLocals := 6, code := code, exceptionTable := #[], attributes := #[] }
def k1m1 : Method := { name := "law", desc := "(I)Z", sig := { parameters := [.int], returnType := some .boolean }, accessFlags := 9, code := some k1c1 }
/-- com/example/lugh/lugh/web/MediaTypeIsQuotablePinLaw -/
def k1 : Class := { plain "com/example/lugh/lugh/web/MediaTypeIsQuotablePinLaw" (some 0) with
  accessFlags := 49
  interfaces := #[]
  cf := some (fileOf pool1 14 #[] #[{ accessFlags := 2, nameIndex := 5, descriptorIndex := 6, attributes := #[] }, { accessFlags := 9, nameIndex := 18, descriptorIndex := 19, attributes := #[] }] 49 2 #[] #[])
  fields := #[]
  methods := #[k1m0, k1m1]
  instanceTypes := #[]
  staticTypes := #[]
  resolved := Array.replicate 23 none
  statics := none }

def pool2 : Array CpInfo := pool [(8, .class_ 10), (1, u "com/example/lugh/lugh/web/MediaType"), (14, .class_ 27), (1, u "java/lang/Object"), (2, u "type"), (5, u "subtype"), (70, u "Ljava/lang/String;"), (10, u "parameters"), (0, u "Ljava/util/Map;"), (0, .class_ 121), (0, u "com/example/lugh/lugh/web/MediaType$Scanner"), (15, u "APPLICATION_OCTET_STREAM"), (0, u "Lcom/example/lugh/lugh/web/MediaType;"), (64, u "UTF_8_CHARSET"), (31, u "text"), (44, u "(C)Z"), (2, u "TOKEN_CHARS"), (0, u "[Z"), (11, u "isQuotable"), (9, u "ALL"), (4, u "APPLICATION_FORM_URLENCODED"), (4, u "APPLICATION_JSON"), (6, u "APPLICATION_XML"), (4, u "MULTIPART_FORM_DATA"), (4, u "TEXT_HTML"), (4, u "TEXT_PLAIN"), (4, u "TEXT_XML"), (5, u "TEXT_PLAIN_UTF_8"), (0, u "WILDCARD"), (1, u "CHARSET"), (0, u "UTF_8"), (2, u "TOKEN_SYMBOLS"), (0, u "ALL_VALUE"), (0, u "APPLICATION_FORM_URLENCODED_VALUE"), (0, u "APPLICATION_JSON_VALUE"), (0, u "APPLICATION_OCTET_STREAM_VALUE"), (0, u "APPLICATION_XML_VALUE"), (0, u "MULTIPART_FORM_DATA_VALUE"), (0, u "TEXT_HTML_VALUE"), (0, u "TEXT_PLAIN_VALUE"), (0, u "TEXT_XML_VALUE")] 52

def k2c0 : Code := { maxStack := 2, maxLocals := 1, code := prog_35_method_28_code, exceptionTable := #[], attributes := #[] }
def k2m0 : Method := { name := "isQuotable", desc := "(C)Z", sig := { parameters := [.char], returnType := some .boolean }, accessFlags := 8, code := some k2c0 }
/-- com/example/lugh/lugh/web/MediaType -/
def k2 : Class := { plain "com/example/lugh/lugh/web/MediaType" (some 0) with
  accessFlags := 33
  interfaces := #[]
  cf := some (fileOf pool2 8 #[.nestMembers #[120]] #[{ accessFlags := 8, nameIndex := 296, descriptorIndex := 280, attributes := #[] }] 33 25 #[] #[{ accessFlags := 26, nameIndex := 350, descriptorIndex := 107, attributes := #[] }, { accessFlags := 26, nameIndex := 352, descriptorIndex := 107, attributes := #[] }, { accessFlags := 26, nameIndex := 353, descriptorIndex := 107, attributes := #[] }, { accessFlags := 26, nameIndex := 203, descriptorIndex := 119, attributes := #[] }, { accessFlags := 26, nameIndex := 356, descriptorIndex := 107, attributes := #[] }, { accessFlags := 26, nameIndex := 283, descriptorIndex := 284, attributes := #[] }, { accessFlags := 25, nameIndex := 357, descriptorIndex := 107, attributes := #[] }, { accessFlags := 25, nameIndex := 306, descriptorIndex := 138, attributes := #[] }, { accessFlags := 25, nameIndex := 358, descriptorIndex := 107, attributes := #[] }, { accessFlags := 25, nameIndex := 311, descriptorIndex := 138, attributes := #[] }, { accessFlags := 25, nameIndex := 359, descriptorIndex := 107, attributes := #[] }, { accessFlags := 25, nameIndex := 316, descriptorIndex := 138, attributes := #[] }, { accessFlags := 25, nameIndex := 360, descriptorIndex := 107, attributes := #[] }, { accessFlags := 25, nameIndex := 137, descriptorIndex := 138, attributes := #[] }, { accessFlags := 25, nameIndex := 361, descriptorIndex := 107, attributes := #[] }, { accessFlags := 25, nameIndex := 323, descriptorIndex := 138, attributes := #[] }, { accessFlags := 25, nameIndex := 362, descriptorIndex := 107, attributes := #[] }, { accessFlags := 25, nameIndex := 328, descriptorIndex := 138, attributes := #[] }, { accessFlags := 25, nameIndex := 363, descriptorIndex := 107, attributes := #[] }, { accessFlags := 25, nameIndex := 333, descriptorIndex := 138, attributes := #[] }, { accessFlags := 25, nameIndex := 364, descriptorIndex := 107, attributes := #[] }, { accessFlags := 25, nameIndex := 338, descriptorIndex := 138, attributes := #[] }, { accessFlags := 25, nameIndex := 365, descriptorIndex := 107, attributes := #[] }, { accessFlags := 25, nameIndex := 343, descriptorIndex := 138, attributes := #[] }, { accessFlags := 24, nameIndex := 349, descriptorIndex := 138, attributes := #[] }, { accessFlags := 18, nameIndex := 30, descriptorIndex := 107, attributes := #[] }, { accessFlags := 18, nameIndex := 36, descriptorIndex := 107, attributes := #[] }, { accessFlags := 18, nameIndex := 118, descriptorIndex := 119, attributes := #[] }, { accessFlags := 2, nameIndex := 235, descriptorIndex := 107, attributes := #[] }])
  fields := #[{ name := "WILDCARD", type := (.object "java/lang/String"), accessFlags := 26, slot := 0, constantValue := 0 }, { name := "CHARSET", type := (.object "java/lang/String"), accessFlags := 26, slot := 1, constantValue := 0 }, { name := "UTF_8", type := (.object "java/lang/String"), accessFlags := 26, slot := 2, constantValue := 0 }, { name := "UTF_8_CHARSET", type := (.object "java/util/Map"), accessFlags := 26, slot := 3, constantValue := 0 }, { name := "TOKEN_SYMBOLS", type := (.object "java/lang/String"), accessFlags := 26, slot := 4, constantValue := 0 }, { name := "TOKEN_CHARS", type := (.array .boolean), accessFlags := 26, slot := 5, constantValue := 0 }, { name := "ALL_VALUE", type := (.object "java/lang/String"), accessFlags := 25, slot := 6, constantValue := 0 }, { name := "ALL", type := (.object "com/example/lugh/lugh/web/MediaType"), accessFlags := 25, slot := 7, constantValue := 0 }, { name := "APPLICATION_FORM_URLENCODED_VALUE", type := (.object "java/lang/String"), accessFlags := 25, slot := 8, constantValue := 0 }, { name := "APPLICATION_FORM_URLENCODED", type := (.object "com/example/lugh/lugh/web/MediaType"), accessFlags := 25, slot := 9, constantValue := 0 }, { name := "APPLICATION_JSON_VALUE", type := (.object "java/lang/String"), accessFlags := 25, slot := 10, constantValue := 0 }, { name := "APPLICATION_JSON", type := (.object "com/example/lugh/lugh/web/MediaType"), accessFlags := 25, slot := 11, constantValue := 0 }, { name := "APPLICATION_OCTET_STREAM_VALUE", type := (.object "java/lang/String"), accessFlags := 25, slot := 12, constantValue := 0 }, { name := "APPLICATION_OCTET_STREAM", type := (.object "com/example/lugh/lugh/web/MediaType"), accessFlags := 25, slot := 13, constantValue := 0 }, { name := "APPLICATION_XML_VALUE", type := (.object "java/lang/String"), accessFlags := 25, slot := 14, constantValue := 0 }, { name := "APPLICATION_XML", type := (.object "com/example/lugh/lugh/web/MediaType"), accessFlags := 25, slot := 15, constantValue := 0 }, { name := "MULTIPART_FORM_DATA_VALUE", type := (.object "java/lang/String"), accessFlags := 25, slot := 16, constantValue := 0 }, { name := "MULTIPART_FORM_DATA", type := (.object "com/example/lugh/lugh/web/MediaType"), accessFlags := 25, slot := 17, constantValue := 0 }, { name := "TEXT_HTML_VALUE", type := (.object "java/lang/String"), accessFlags := 25, slot := 18, constantValue := 0 }, { name := "TEXT_HTML", type := (.object "com/example/lugh/lugh/web/MediaType"), accessFlags := 25, slot := 19, constantValue := 0 }, { name := "TEXT_PLAIN_VALUE", type := (.object "java/lang/String"), accessFlags := 25, slot := 20, constantValue := 0 }, { name := "TEXT_PLAIN", type := (.object "com/example/lugh/lugh/web/MediaType"), accessFlags := 25, slot := 21, constantValue := 0 }, { name := "TEXT_XML_VALUE", type := (.object "java/lang/String"), accessFlags := 25, slot := 22, constantValue := 0 }, { name := "TEXT_XML", type := (.object "com/example/lugh/lugh/web/MediaType"), accessFlags := 25, slot := 23, constantValue := 0 }, { name := "TEXT_PLAIN_UTF_8", type := (.object "com/example/lugh/lugh/web/MediaType"), accessFlags := 24, slot := 24, constantValue := 0 }, { name := "type", type := (.object "java/lang/String"), accessFlags := 18, slot := 0, constantValue := 0 }, { name := "subtype", type := (.object "java/lang/String"), accessFlags := 18, slot := 1, constantValue := 0 }, { name := "parameters", type := (.object "java/util/Map"), accessFlags := 18, slot := 2, constantValue := 0 }, { name := "text", type := (.object "java/lang/String"), accessFlags := 2, slot := 3, constantValue := 0 }]
  methods := #[k2m0]
  instanceTypes := #[(.object "java/lang/String"), (.object "java/lang/String"), (.object "java/util/Map"), (.object "java/lang/String")]
  staticTypes := #[(.object "java/lang/String"), (.object "java/lang/String"), (.object "java/lang/String"), (.object "java/util/Map"), (.object "java/lang/String"), (.array .boolean), (.object "java/lang/String"), (.object "com/example/lugh/lugh/web/MediaType"), (.object "java/lang/String"), (.object "com/example/lugh/lugh/web/MediaType"), (.object "java/lang/String"), (.object "com/example/lugh/lugh/web/MediaType"), (.object "java/lang/String"), (.object "com/example/lugh/lugh/web/MediaType"), (.object "java/lang/String"), (.object "com/example/lugh/lugh/web/MediaType"), (.object "java/lang/String"), (.object "com/example/lugh/lugh/web/MediaType"), (.object "java/lang/String"), (.object "com/example/lugh/lugh/web/MediaType"), (.object "java/lang/String"), (.object "com/example/lugh/lugh/web/MediaType"), (.object "java/lang/String"), (.object "com/example/lugh/lugh/web/MediaType"), (.object "com/example/lugh/lugh/web/MediaType")]
  resolved := Array.replicate 418 none
  statics := none }

def pool3 : Array CpInfo := pool [(1, u "java/lang/Cloneable"), (0, .class_ 1), (0, u "java/lang/Object"), (0, .class_ 3)] 3

/-- java/lang/Cloneable -/
def k3 : Class := { plain "java/lang/Cloneable" (some 0) with
  accessFlags := 1537
  interfaces := #[]
  cf := some (fileOf pool3 2 #[] #[] 1537 4 #[] #[])
  fields := #[]
  methods := #[]
  instanceTypes := #[]
  staticTypes := #[]
  resolved := Array.replicate 8 none
  statics := none }

def pool4 : Array CpInfo := pool [(1, u "java/io/Serializable"), (0, .class_ 1), (0, u "java/lang/Object"), (0, .class_ 3)] 3

/-- java/io/Serializable -/
def k4 : Class := { plain "java/io/Serializable" (some 0) with
  accessFlags := 1537
  interfaces := #[]
  cf := some (fileOf pool4 2 #[] #[] 1537 4 #[] #[])
  fields := #[]
  methods := #[]
  instanceTypes := #[]
  staticTypes := #[]
  resolved := Array.replicate 8 none
  statics := none }

/-- the primitive byte -/
def k5 : Class := { plain "byte" none with kind := .primitive 'B', accessFlags := 0x411 }
/-- [B -/
def k6 : Class := { plain "[B" (some 0) with kind := .array 5 .byte, interfaces := #[3, 4], accessFlags := 1041 }

/-- the primitive int -/
def k7 : Class := { plain "int" none with kind := .primitive 'I', accessFlags := 0x411 }
/-- [I -/
def k8 : Class := { plain "[I" (some 0) with kind := .array 7 .int, interfaces := #[3, 4], accessFlags := 1041 }

def heap : Heap := #[]
def classes : Array Class := #[k0, k1, k2, k3, k4, k5, k6, k7, k8]
def interned : List (Array UInt16 × Addr) := []
def slotsUsed : Nat := 0
def theMethod : MethodId := ⟨1, 1⟩
def args0 : Array Value := #[.int 97]
def aboutOver (below : List Frame) : State where
  vm := { classes := classes, interned := interned.toArray }
  heap := heap
  slotsUsed := slotsUsed
  threads := #[{ frames := .invoking theMethod args0 :: below }]
def below0 : List Frame := [.native { method := ⟨0, 0⟩, args := #[] }]
def about1 : State := aboutOver below0
def p0 : Program := .bare "" "" ""
def e0 : Env := launch0.env 0 0 0
theorem w_frames : about1.frames = Frame.invoking theMethod args0 :: below0 := rfl
set_option maxRecDepth 65536 in
theorem w_args : argsFit about1.vm theMethod args0 = true := by decide +kernel
set_option maxRecDepth 65536 in
theorem w_heap : heapFits about1 = true := by decide +kernel
set_option maxRecDepth 65536 in
theorem w_runnable : about1.curStatus? = some .runnable := by decide +kernel
set_option maxRecDepth 65536 in
theorem w_alone : about1.alone = true := by decide +kernel
set_option maxRecDepth 65536 in
theorem w_named : about1.methodNamed? x = some theMethod := by decide +kernel
set_option maxRecDepth 65536 in
theorem w_hears : about1.hears theMethod below0 = true := by decide +kernel
set_option maxRecDepth 65536 in
theorem w_ripe : about1.ripe theMethod args0 below0 = true := by decide +kernel
theorem w_running : about1.status = .running := rfl
set_option maxRecDepth 65536 in
theorem w_room : about1.hasRoom e0.platform room_1 = true :=
  launch0.hasRoom_least _ room_1 (by decide +kernel) (by decide +kernel) (by decide +kernel) (by decide +kernel) (by decide +kernel) (by decide +kernel)
theorem allAtoms_all (ts : List Jvm.Cond) (a : Array Jvm.Value) (st : Jvm.State) : (allAtoms ts).before a st = ts.all (fun c => c.before a st) := by
  induction ts with
  | nil => rfl
  | cons c t ih =>
    show (Jvm.Cond.and c (allAtoms t)).before a st = _
    rw [Jvm.Cond.before_and, ih, List.all_cons]
def words1 : List Jvm.Cond := Jvm.Cond.code x code maxLocals ret :: tables_1
/-- a 'code' word, met by the world's own term for the bytes: nothing is compared byte by byte -/
theorem code_word {y : MethodName} {bytes : ByteArray} {mx : Nat} {rt : Option FieldType} {a : Array Value} {s : State} {m : MethodId} {meth : Method} {c : Code} (h1 : s.methodNamed? y = some m) (h2 : s.vm.method? m = some meth) (h3 : meth.code = some c) (h4 : c.code = bytes)
    (h5 : (c.maxLocals == mx && c.exceptionTable.isEmpty && decide (c.maxStack ≤ mostOperands) && decide (meth.sig.returnType = rt) && !meth.locks && decide (parseMethodDescriptor y.desc = some meth.sig)) = true) : (Jvm.Cond.code y bytes mx rt).before a s = true := by
  simp only [Bool.and_eq_true, beq_iff_eq, Bool.not_eq_true', decide_eq_true_eq] at h5
  obtain ⟨⟨⟨⟨⟨g1, g2⟩, g3⟩, g4⟩, g5⟩, g6⟩ := h5
  simp [Cond.before, Cond.holds, Cond.value, h1, h2, h3, h4, g1, g2, g3, g4, g5, g6]
def isCode : Jvm.Cond → Bool
  | .code _ _ _ _ => true
  | _ => false
theorem all_split {L : List Jvm.Cond} {P : Jvm.Cond → Bool} (h1 : L.all (fun c => isCode c || P c) = true) (h2 : ∀ c ∈ L.filter isCode, P c = true) : L.all P = true := by
  refine List.all_eq_true.mpr fun c hc => ?_
  have h := List.all_eq_true.mp h1 c hc
  rcases Bool.eq_false_or_eq_true (isCode c) with hi | hi
  · exact h2 c (List.mem_filter.mpr ⟨hc, hi⟩)
  · simpa [hi] using h
set_option maxRecDepth 65536 in
theorem w_c0 : (Jvm.Cond.code x code maxLocals ret).before args0 about1 = true := code_word (m := ⟨1, 1⟩) (meth := k1m1) (c := k1c1) (by decide +kernel) rfl rfl rfl (by decide +kernel)
set_option maxRecDepth 65536 in
theorem w_c1 : (Jvm.Cond.code ({ cls := "com/example/lugh/lugh/web/MediaType", name := "isQuotable", desc := "(C)Z" } : Jvm.MethodName) prog_35_method_28_code (1 : Nat) (Option.some Jvm.ClassFile.FieldType.boolean)).before args0 about1 = true := code_word (m := ⟨2, 0⟩) (meth := k2m0) (c := k2c0) (by decide +kernel) rfl rfl rfl (by decide +kernel)
def codes1 : List Jvm.Cond := [Jvm.Cond.code x code maxLocals ret, Jvm.Cond.code ({ cls := "com/example/lugh/lugh/web/MediaType", name := "isQuotable", desc := "(C)Z" } : Jvm.MethodName) prog_35_method_28_code (1 : Nat) (Option.some Jvm.ClassFile.FieldType.boolean)]
set_option maxRecDepth 65536 in
theorem codes_eq : words1.filter isCode = codes1 := rfl
theorem w_codes : ∀ c ∈ words1.filter isCode, c.before args0 about1 = true := by
  rw [codes_eq]
  intro c hc
  simp only [codes1, List.mem_cons, List.not_mem_nil, or_false] at hc
  rcases hc with rfl | rfl
  · exact w_c0
  · exact w_c1
set_option maxRecDepth 65536 in
theorem w_t1 : words1.all (fun c => isCode c || c.before args0 about1) = true := by decide +kernel
theorem w_tables : (allAtoms (Jvm.Cond.code x code maxLocals ret :: tables_1)).before args0 about1 = true := by
  rw [allAtoms_all]
  show words1.all (fun c => c.before args0 about1) = true
  refine all_split ?_ w_codes
  rw [w_t1]
set_option maxRecDepth 65536 in
theorem w_case : (Jvm.Cond.and given_1 narrow_1).before args0 about1 = true := by decide +kernel
theorem w_applies : (headSpec (Jvm.Cond.code x code maxLocals ret :: tables_1) room_1).applies x e0.platform about1 = true :=
  (Spec.applies_iff w_frames).mpr ⟨w_running, w_runnable, w_alone, w_named, w_hears, w_ripe, w_room, w_tables⟩
theorem atStart : AtStart classFile x code maxLocals ret World_1 tables_1 room_1 Calls_1 rest_1 Pre_1 launch0 p0 e0 about1 theMethod args0 below0 :=
  ⟨lists_1, trivial, launch0.admits_env _ _ _, launch0.least_env, fairChoices_fair.cas, fairChoices_fair.clock, w_frames, w_args, w_heap, w_applies, trivial, trivial, w_case⟩
end start1
theorem witness_1 : WitnessClaimed_1 := ⟨start1.p0, start1.e0, start1.about1, start1.theMethod, start1.args0, start1.below0, start1.atStart⟩
end Jvm.Pilot.@@N@@

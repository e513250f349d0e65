import JvmDerived
import JvmDerived.Pilot.@@N@@Statement
import JvmDerived.Pilot.@@N@@Code
set_option linter.unusedVariables false
set_option linter.unusedSimpArgs false
@@BLOCK:HandJ.lean.txt@@
@@BLOCK:HandW.lean.txt@@
@@BLOCK:HandBits.lean.txt@@
@@BLOCK:SymRun.lean.txt@@
@@BLOCK:RowBasics.lean.txt@@
@@BLOCK:Bridge.lean.txt@@
@@BLOCK:SymKit.lean.txt@@
@@BLOCK:NumsL.lean.txt@@
@@BLOCK:Masks.lean.txt@@
namespace Jvm.Pilot.@@N@@
open Jvm Jvm.ClassFile Sem Op Jvm.Sym Jvm.Pilot.@@N@@.Jvm.D

/-! needs, paid where every guard of their road is worth something -/
def own_dv (D : List Cond) : Cond → Bool
  | .tt => true
  | .not c => own_dv D c
  | .and a b => own_dv D a && own_dv D b
  | .or a b => own_dv D a && own_dv D b
  | q => D.contains q
def own_tr (D T : List Cond) : Cond → Bool
  | .tt => true
  | .and a b => own_tr D T a && own_tr D T b
  | .or a b => own_tr D T a || (own_dv D a && own_tr D T b)
  | q => T.contains q
theorem own_dv_sound {D : List Cond} {A : Array Value} {s : State} (hD : ∀ c ∈ D, ∃ b, c.value A s none s [] = some b) (q : Cond) : own_dv D q = true → ∃ b, q.value A s none s [] = some b := by
  induction q with
  | tt => intro _; exact ⟨true, rfl⟩
  | not c ih => intro h; obtain ⟨b, hb⟩ := ih h; exact ⟨!b, by simp [Cond.value, hb]⟩
  | and a c iha ihc =>
    intro h
    simp only [own_dv, Bool.and_eq_true] at h
    obtain ⟨b, hb⟩ := iha h.1
    obtain ⟨d, hd⟩ := ihc h.2
    cases b <;> simp [Cond.value, hb, hd]
  | or a c iha ihc =>
    intro h
    simp only [own_dv, Bool.and_eq_true] at h
    obtain ⟨b, hb⟩ := iha h.1
    obtain ⟨d, hd⟩ := ihc h.2
    cases b <;> simp [Cond.value, hb, hd]
  | _ => intro h; exact hD _ (List.contains_iff_mem.mp h)
theorem own_tr_sound {D T : List Cond} {A : Array Value} {s : State} (hD : ∀ c ∈ D, ∃ b, c.value A s none s [] = some b) (hT : ∀ c ∈ T, c.value A s none s [] = some true) (q : Cond) : own_tr D T q = true → q.value A s none s [] = some true := by
  induction q with
  | tt => intro _; rfl
  | and a c iha ihc =>
    intro h
    simp only [own_tr, Bool.and_eq_true] at h
    simp [Cond.value, iha h.1, ihc h.2]
  | or a c iha ihc =>
    intro h
    simp only [own_tr, Bool.or_eq_true, Bool.and_eq_true] at h
    rcases h with h | ⟨h1, h2⟩
    · simp [Cond.value, iha h]
    · obtain ⟨b, hb⟩ := own_dv_sound hD a h1
      cases b <;> simp [Cond.value, hb, ihc h2]
  | _ => intro h; exact hT _ (List.contains_iff_mem.mp h)
theorem own_needs {L D T : List Cond} {A : Array Value} {s : State} (hD : ∀ c ∈ D, ∃ b, c.value A s none s [] = some b) (hT : ∀ c ∈ T, c.value A s none s [] = some true) (h : (L.all fun q => own_tr D T q) = true) : ∀ q ∈ L, q.before A s = true :=
  fun q hq => before_of_value (own_tr_sound hD hT q (List.all_eq_true.mp h q hq))
theorem own_fork {A : Array Value} {s : State} {G : Cond} {a b : STree} {P : Prop} [Decidable P] (h : G.value A s none s [] = some (decide P)) : Kit.valueOf A s (.fork G a b) = if P then Kit.valueOf A s a else Kit.valueOf A s b := by
  by_cases p : P <;> simp [Kit.valueOf, h, p]

/-! the callee fmix64 -/
def y1 : MethodName := ⟨"com/example/bitveil/bitveil/KeyHash", "fmix64", "(J)J"⟩
def y1code : ByteArray := prog_10_method_11_code
def y1I : Info := { own := "com/example/bitveil/bitveil/KeyHash", ret := some .long, ints := [], longs := [(103, (-49064778989728563 : Int64)), (105, (-4265267296055464877 : Int64))] }
def y1out : Option (Cond × List Cond × List Cond) := walk y1I y1code 200 (entry [.long] 2)
theorem y1walks : y1out.isSome = true := by decide +kernel
def y1got : Cond × List Cond × List Cond := y1out.get y1walks
def y1spec : Spec := specOf y1 y1code 2 (some .long) [.long] y1got.1 y1got.2.1 y1got.2.2
theorem y1meets (l : Launch) : MeetsLoose l y1 y1spec :=
  walk_meets (n := 200) (I := y1I) (by decide) rfl rfl (show walk y1I y1code 200 (entry [.long] 2) = some (y1got.1, y1got.2.1, y1got.2.2) from (Option.some_get y1walks).symm)
theorem y1cold : y1spec.Cold := Spec.cold_of_keeps (by decide +kernel)
def y1callee : Callee := { y := y1, S := y1spec, bytes := y1code, maxL := 2, ret := some .long, static := true, params := 1, res := some .long }

/-! the callee unmix -/
def y2 : MethodName := ⟨x.cls, "unmix", "(J)J"⟩
def y2code : ByteArray := method_2_code
def y2I : Info := { own := x.cls, ret := some .long, ints := [], longs := [(9, (-7154897129451604005 : Int64)), (11, (5725274745694666757 : Int64))] }
def y2out : Option (Cond × List Cond × List Cond) := walk y2I y2code 200 (entry [.long] 4)
theorem y2walks : y2out.isSome = true := by decide +kernel
def y2got : Cond × List Cond × List Cond := y2out.get y2walks
def y2spec : Spec := specOf y2 y2code 4 (some .long) [.long] y2got.1 y2got.2.1 y2got.2.2
theorem y2meets (l : Launch) : MeetsLoose l y2 y2spec :=
  walk_meets (n := 200) (I := y2I) (by decide) rfl rfl (show walk y2I y2code 200 (entry [.long] 4) = some (y2got.1, y2got.2.1, y2got.2.2) from (Option.some_get y2walks).symm)
theorem y2cold : y2spec.Cold := Spec.cold_of_keeps (by decide +kernel)
def y2callee : Callee := { y := y2, S := y2spec, bytes := y2code, maxL := 4, ret := some .long, static := true, params := 1, res := some .long }

/-! the law's own walk -/
def I : Info := { own := x.cls, ret := ret, ints := [], longs := [], calls := [(13, y1callee), (19, y2callee)], maxLocals := maxLocals, room := room_1 }
theorem callsOk (l : Launch) : CallsOk l I maxLocals room_1 := fun q hq => by
  have h2 : q = (13, y1callee) ∨ q = (19, y2callee) := by simpa [I] using hq
  rcases h2 with rfl | rfl
  · exact ⟨rfl, rfl, y1meets l, y1cold⟩
  · exact ⟨rfl, rfl, y2meets l, y2cold⟩
def w := walkTo I code [] 400 true (entry [.long] maxLocals)
theorem w_some : w.isSome = true := by decide +kernel
def tx (t : Term) : Term := .op2 .lxor t (.op2 .lushr t (.int 33))
def tm (t : Term) (k : Int64) : Term := .op2 .lmul t (.long k)
def tF : Term := tx (tm (tx (tm (tx (.arg 0)) (-49064778989728563))) (-4265267296055464877))
def tU : Term := tx (tm (tx (tm (tx tF) (-7154897129451604005))) 5725274745694666757)
def G1 : Cond := .not (.eq (.old (.op2 .lcmp tU (.arg 0))) (.int 0))
def R1 : STree := .ret (some { t := .op2 .iand (.int 0) (.int 1), k := .int }) []
def R2 : STree := .ret (some { t := .op2 .iand (.int 1) (.int 1), k := .int }) []
def t0 : STree := (.fork G1 R1 R2)
theorem tree : (w.get w_some).1 = t0 := by decide +kernel
def Gs : List Cond := [G1]
def Gt : List Cond := [.isLong (.arg 0), .isLong tF, .isLong tU]
theorem entry_walk : walkTo I code [] 400 true (entry [.long] maxLocals) = some (t0, (w.get w_some).2.1, (w.get w_some).2.2) := by
  rw [← tree]; exact (Option.some_get w_some).symm
theorem own_not {A : Array Value} {s : State} {c : Cond} {P : Prop} [Decidable P] (h : c.value A s none s [] = some (decide P)) : (Cond.not c).value A s none s [] = some (decide (¬ P)) := by
  rw [not_value h]; simp
def own_lc (x y : Int64) : Int32 := if x > y then 1 else if x == y then 0 else -1
theorem own_lc_eq {x y : Int64} (h : x = y) : ¬ ¬ own_lc x y = 0 := by
  subst h; simp [own_lc, Int64.lt_irrefl]
def own_x (x : Int64) : Int64 := x ^^^ (x.toUInt64 >>> ((33 : Int32) &&& 0x3f).toInt64.toUInt64).toInt64
theorem own_xx (x : Int64) : own_x (own_x x) = x := by
  have e : ((33 : Int32) &&& 0x3f).toInt64.toUInt64 = 33 := by decide
  have h : ∀ y : Int64, (own_x y).toBitVec = y.toBitVec ^^^ (y.toBitVec >>> 33) := by
    intro y
    rw [own_x, e, Int64.toBitVec_xor]
    rfl
  apply Int64.toBitVec_inj.mp
  rw [h, h]
  generalize x.toBitVec = b
  apply BitVec.eq_of_getLsbD_eq
  intro i hi
  simp only [BitVec.getLsbD_xor, BitVec.getLsbD_ushiftRight]
  rw [BitVec.getLsbD_of_ge b (33 + (33 + i)) (by omega)]
  simp
theorem own_m {x p q : Int64} (h : p * q = 1) : x * p * q = x := by rw [Int64.mul_assoc, h, Int64.mul_one]
theorem ev_x {A : Array Value} {s : State} {t : Term} {v : Int64} (h : t.eval A s none [] s = some (.long v)) : (tx t).eval A s none [] s = some (.long (own_x v)) := by
  simp only [tx, Term.eval, h]; rfl
theorem ev_m {A : Array Value} {s : State} {t : Term} {v : Int64} (k : Int64) (h : t.eval A s none [] s = some (.long v)) : (tm t k).eval A s none [] s = some (.long (v * k)) := by
  simp only [tm, Term.eval, h]; rfl
def own_fx (k : Int64) : Int64 := own_x (own_x (own_x k * (-49064778989728563)) * (-4265267296055464877))
def own_un (h : Int64) : Int64 := own_x (own_x (own_x h * (-7154897129451604005)) * 5725274745694666757)
theorem own_inv (k : Int64) : own_un (own_fx k) = k := by
  rw [own_un, own_fx, own_xx, own_m (by decide), own_xx, own_m (by decide), own_xx]
theorem ev_F (a0 : Int64) (s : State) : tF.eval #[.long a0] s none [] s = some (.long (own_fx a0)) := ev_x (ev_m _ (ev_x (ev_m _ (ev_x (v := a0) rfl))))
theorem ev_U (a0 : Int64) (s : State) : tU.eval #[.long a0] s none [] s = some (.long a0) := by
  have h : tU.eval #[.long a0] s none [] s = some (.long (own_un (own_fx a0))) := ev_x (ev_m _ (ev_x (ev_m _ (ev_x (ev_F a0 s)))))
  rw [own_inv] at h
  exact h
theorem g1 (a0 : Int64) (s : State) : G1.value #[.long a0] s none s [] = some (decide (¬ own_lc a0 a0 = 0)) := by
  refine own_not (Cond.eq_ints ?_ rfl)
  show (Term.op2 .lcmp tU (.arg 0)).eval #[.long a0] s none [] s = _
  simp only [Term.eval, ev_U]; rfl
theorem defined (a0 : Int64) (s : State) : ∀ G ∈ Gs, ∃ z, G.value #[.long a0] s none s [] = some z := by
  intro G hG
  simp only [Gs, List.mem_cons, List.not_mem_nil, or_false] at hG
  subst hG
  exact ⟨_, g1 a0 s⟩
theorem true_ok (a0 : Int64) (s : State) : ∀ c ∈ Gt, c.value #[.long a0] s none s [] = some true := by
  intro q hq
  simp only [Gt, List.mem_cons, List.not_mem_nil, or_false] at hq
  rcases hq with rfl | rfl | rfl
  · rfl
  · simp only [Cond.value, ev_F]; rfl
  · simp only [Cond.value, ev_U]; rfl
theorem value_eq (a0 : Int64) (s : State) : Kit.valueOf #[.long a0] s t0 = some (.int 1) := by
  rw [t0, own_fork (g1 a0 s), if_neg (own_lc_eq rfl)]
  rfl

theorem sorts_ok {a0 : Int64} {s : State} : ∀ q ∈ Sym.sorts 0 [.long], q.before #[.long a0] s = true := by
  intro q hq
  simp only [Sym.sorts, List.mem_cons, List.not_mem_nil, or_false] at hq
  rcases hq with rfl <;> simp [isK, Cond.before, Cond.holds, Cond.value, Term.eval]
theorem own_args {args : Array Value} {s : State} (hc : (Cond.count 1).before args s = true) (h0 : (Cond.isLong (.arg 0)).before args s = true) : ∃ (a0 : Int64), args = #[.long a0] := by
  obtain ⟨w0, rfl⟩ : ∃ L : List Value, args = ⟨L⟩ := ⟨args.toList, rfl⟩
  have hs : w0.length = 1 := by simpa [Cond.before, Cond.holds, Cond.value] using hc
  match w0, hs with
  | [u0], _ =>
    obtain ⟨a0, rfl⟩ : ∃ a : Int64, u0 = .long a := by
      cases u0 <;> first | exact ⟨_, rfl⟩ | (exfalso; simp [Cond.before, Cond.holds, Cond.value, Term.eval] at h0)
    exact ⟨a0, rfl⟩

/-! the contract, the limbs -/
def post_1 : Cond := .and limb_1_1 limb_1_2
theorem met_1 (l : Launch) : MeetsLoose l x (armSpec x code maxLocals ret tables_1 room_1 .tt (.and given_1 narrow_1) post_1 frame_1_writes frame_1_arrays frame_1_statics) := by
  refine loops_meets (I := I) (ks0 := [.long]) (cuts := []) (by decide) rfl rfl rfl rfl rfl (fun args s h => ?_) entry_walk (fun _ => none) (fun _ _ _ _ _ => False) (fun _ _ _ => 0) (fun args s h => ?_) (fun args s _ h ks hks => by cases hks) (callsOk l)
  · simp only [armSpec, allAtoms, List.foldr_cons, Cond.before_and, Bool.and_eq_true] at h; exact h.1.1
  · have hts : (allAtoms (Cond.code x code maxLocals ret :: tables_1)).before args s = true := by simp only [armSpec, Cond.before_and, Bool.and_eq_true] at h; exact h.1
    have hK : (Cond.and .tt (.and given_1 narrow_1)).before args s = true := by simp only [armSpec, Cond.before_and, Bool.and_eq_true] at h ⊢; exact h.2
    simp only [armSpec, given_1, Cond.before_and, Bool.and_eq_true] at h
    obtain ⟨-, -, ⟨hc, h0⟩, hn⟩ := h
    obtain ⟨a0, rfl⟩ := own_args hc h0
    have hT := known3 (Gt := Gt) hts hK (true_ok a0 s)
    refine ⟨rfl, sorts_ok, tabs_of_sub hts (by decide +kernel), own_needs (D := Gs) (defined a0 s) hT (by decide +kernel), Kit.vc_of_value (w₀ := .int 1) (fun E => ?_) t0 (by decide +kernel) (value_eq a0 s)⟩
    simp [armSpec, post_1, limb_1_1, limb_1_2, Cond.after, Cond.holds, Cond.value, Term.eval]
theorem main_1_1 : Claimed_1_1 := armFor_of_meets0 (fun l => (met_1 l).meets) fun _ _ _ _ h => by simp only [post_1, Cond.after_and, Bool.and_eq_true] at h; exact h.1
theorem main_1_2 : Claimed_1_2 := armFor_of_meets0 (fun l => (met_1 l).meets) fun _ _ _ _ h => by simp only [post_1, Cond.after_and, Bool.and_eq_true] at h; exact h.2
end Jvm.Pilot.@@N@@
namespace Jvm.Pilot.@@N@@
open Jvm Jvm.ClassFile Sem Op Lib Jvm.Free Jvm.Stand Jvm.Pilot.@@N@@.Jvm.D
/-! MADE BY PROGRAM (witnessworld.py) out of the Statement's table words and the real class files: 10 classes; the members and pool entries that the words name. The judged class is class 1, her method 2. -/
namespace start1
open Jvm.ClassFile
def u (s : String) : CpInfo := .utf8 (stringToUtf16 s)
/-- a pool by its gaps: so many unusable entries, then the entry; so many at the end -/
def gap : Nat → List CpInfo → List CpInfo
  | 0, r => r
  | n + 1, r => .unusable :: gap n r
def poolList (es : List (Nat × CpInfo)) (last : Nat) : List CpInfo := es.foldr (fun e r => gap e.1 (e.2 :: r)) (gap last [])
def pool (es : List (Nat × CpInfo)) (last : Nat) : Array CpInfo := ⟨poolList es last⟩
def fileOf (pool : Array CpInfo) (this : Nat) (attrs : Array Attribute := #[]) (ms : Array MethodInfo := #[]) (fl : Nat := 33) (sup : Nat := 0) (ifs : Array Nat := #[]) (fds : Array FieldInfo := #[]) : ClassFile where
  minorVersion := 0
  majorVersion := 65
  constantPool := pool
  accessFlags := fl
  thisClass := this
  superClass := sup
  interfaces := ifs
  fields := fds
  methods := ms
  attributes := attrs
def plain (name : String) (sup : Option ClassId) : Class where
  name := name
  kind := .ordinary
  loader := none
  accessFlags := 33
  super := sup
  interfaces := #[]
  cf := none
  fields := #[]
  methods := #[]
  instanceTypes := #[]
  staticTypes := #[]
  resolved := #[]
  callSites := []
  init := .initialized
  statics := none
  mirror := none

def pool0 : Array CpInfo := pool [(5, u "<init>"), (0, u "()V"), (1, .class_ 10), (1, u "java/lang/Object")] 113

def k0m0 : Method := { name := "<init>", desc := "()V", sig := { parameters := [], returnType := none }, accessFlags := 1, code := none }
/-- java/lang/Object -/
def k0 : Class := { plain "java/lang/Object" none with
  accessFlags := 33
  interfaces := #[]
  cf := some (fileOf pool0 8 #[] #[{ accessFlags := 1, nameIndex := 5, descriptorIndex := 6, attributes := #[] }] 33 0 #[] #[])
  fields := #[]
  methods := #[k0m0]
  instanceTypes := #[]
  staticTypes := #[]
  resolved := Array.replicate 124 none
  statics := none }

def pool1 : Array CpInfo := pool [(2, .class_ 4), (1, u "java/lang/Object"), (0, u "<init>"), (0, u "()V"), (0, .class_ 8), (0, u "com/example/bitveil/bitveil/KeyHashFmix64PinLaw"), (0, .long 11291846944257947611), (1, .long 5725274745694666757), (1, .methodref 14 15), (0, .class_ 16), (0, .nameAndType 17 18), (0, u "com/example/bitveil/bitveil/KeyHash"), (0, u "fmix64"), (0, u "(J)J"), (0, .methodref 7 20), (0, .nameAndType 21 18), (0, u "unmix"), (0, u "C1_INV"), (0, u "J"), (1, u "C2_INV"), (2, u "law"), (0, u "(J)Z")] 3

def k1m0 : Method := { name := "<init>", desc := "()V", sig := { parameters := [], returnType := none }, accessFlags := 1, code := none }
def k1c1 : Code := { maxStack := 5, maxLocals := 4, code := method_2_code, exceptionTable := #[], attributes := #[] }
def k1m1 : Method := { name := "unmix", desc := "(J)J", sig := { parameters := [.long], returnType := some .long }, accessFlags := 10, code := some k1c1 }
def k1c2 : Code := { maxStack := 4, maxLocals := 4, code := code, exceptionTable := #[], attributes := #[] }
def k1m2 : Method := { name := "law", desc := "(J)Z", sig := { parameters := [.long], returnType := some .boolean }, accessFlags := 9, code := some k1c2 }
/-- com/example/bitveil/bitveil/KeyHashFmix64PinLaw -/
def k1 : Class := { plain "com/example/bitveil/bitveil/KeyHashFmix64PinLaw" (some 0) with
  accessFlags := 49
  interfaces := #[]
  cf := some (fileOf pool1 7 #[] #[{ accessFlags := 1, nameIndex := 5, descriptorIndex := 6, attributes := #[] }, { accessFlags := 10, nameIndex := 21, descriptorIndex := 18, attributes := #[] }, { accessFlags := 9, nameIndex := 28, descriptorIndex := 29, attributes := #[] }] 49 2 #[] #[{ accessFlags := 26, nameIndex := 22, descriptorIndex := 23, attributes := #[] }, { accessFlags := 26, nameIndex := 25, descriptorIndex := 23, attributes := #[] }])
  fields := #[{ name := "C1_INV", type := .long, accessFlags := 26, slot := 0, constantValue := 0 }, { name := "C2_INV", type := .long, accessFlags := 26, slot := 1, constantValue := 0 }]
  methods := #[k1m0, k1m1, k1m2]
  instanceTypes := #[]
  staticTypes := #[.long, .long]
  resolved := Array.replicate 33 none
  statics := none }

def pool2 : Array CpInfo := pool [(2, .class_ 4), (1, u "java/lang/Object"), (0, u "<init>"), (0, u "()V"), (0, .class_ 8), (0, u "java/lang/Record")] 13

def k2m0 : Method := { name := "<init>", desc := "()V", sig := { parameters := [], returnType := none }, accessFlags := 4, code := none }
/-- java/lang/Record -/
def k2 : Class := { plain "java/lang/Record" (some 0) with
  accessFlags := 1057
  interfaces := #[]
  cf := some (fileOf pool2 7 #[] #[{ accessFlags := 4, nameIndex := 5, descriptorIndex := 6, attributes := #[] }] 1057 2 #[] #[])
  fields := #[]
  methods := #[k2m0]
  instanceTypes := #[]
  staticTypes := #[]
  resolved := Array.replicate 22 none
  statics := none }

def pool3 : Array CpInfo := pool [(2, .class_ 4), (1, u "java/lang/Record"), (3, .class_ 10), (1, u "com/example/bitveil/bitveil/KeyHash"), (0, u "h1"), (0, u "J"), (2, u "h2"), (9, u "(J)J"), (39, u "LITTLE_ENDIAN_LONG"), (0, u "Ljava/lang/invoke/VarHandle;"), (24, u "fmix64"), (11, .long 18397679294719823053), (1, .long 14181476777654086739), (27, u "C1"), (1, u "C2")] 34

def k3c0 : Code := { maxStack := 5, maxLocals := 2, code := prog_10_method_11_code, exceptionTable := #[], attributes := #[] }
def k3m0 : Method := { name := "fmix64", desc := "(J)J", sig := { parameters := [.long], returnType := some .long }, accessFlags := 8, code := some k3c0 }
/-- com/example/bitveil/bitveil/KeyHash -/
def k3 : Class := { plain "com/example/bitveil/bitveil/KeyHash" (some 2) with
  accessFlags := 48
  interfaces := #[]
  cf := some (fileOf pool3 8 #[] #[{ accessFlags := 8, nameIndex := 91, descriptorIndex := 25, attributes := #[] }] 48 2 #[] #[{ accessFlags := 18, nameIndex := 11, descriptorIndex := 12, attributes := #[] }, { accessFlags := 18, nameIndex := 15, descriptorIndex := 12, attributes := #[] }, { accessFlags := 26, nameIndex := 133, descriptorIndex := 12, attributes := #[] }, { accessFlags := 26, nameIndex := 135, descriptorIndex := 12, attributes := #[] }, { accessFlags := 26, nameIndex := 65, descriptorIndex := 66, attributes := #[] }])
  fields := #[{ name := "h1", type := .long, accessFlags := 18, slot := 0, constantValue := 0 }, { name := "h2", type := .long, accessFlags := 18, slot := 1, constantValue := 0 }, { name := "C1", type := .long, accessFlags := 26, slot := 0, constantValue := 0 }, { name := "C2", type := .long, accessFlags := 26, slot := 1, constantValue := 0 }, { name := "LITTLE_ENDIAN_LONG", type := (.object "java/lang/invoke/VarHandle"), accessFlags := 26, slot := 2, constantValue := 0 }]
  methods := #[k3m0]
  instanceTypes := #[.long, .long]
  staticTypes := #[.long, .long, (.object "java/lang/invoke/VarHandle")]
  resolved := Array.replicate 170 none
  statics := none }

def pool4 : Array CpInfo := pool [(1, u "java/lang/Cloneable"), (0, .class_ 1), (0, u "java/lang/Object"), (0, .class_ 3)] 3

/-- java/lang/Cloneable -/
def k4 : Class := { plain "java/lang/Cloneable" (some 0) with
  accessFlags := 1537
  interfaces := #[]
  cf := some (fileOf pool4 2 #[] #[] 1537 4 #[] #[])
  fields := #[]
  methods := #[]
  instanceTypes := #[]
  staticTypes := #[]
  resolved := Array.replicate 8 none
  statics := none }

def pool5 : Array CpInfo := pool [(1, u "java/io/Serializable"), (0, .class_ 1), (0, u "java/lang/Object"), (0, .class_ 3)] 3

/-- java/io/Serializable -/
def k5 : Class := { plain "java/io/Serializable" (some 0) with
  accessFlags := 1537
  interfaces := #[]
  cf := some (fileOf pool5 2 #[] #[] 1537 4 #[] #[])
  fields := #[]
  methods := #[]
  instanceTypes := #[]
  staticTypes := #[]
  resolved := Array.replicate 8 none
  statics := none }

/-- the primitive byte -/
def k6 : Class := { plain "byte" none with kind := .primitive 'B', accessFlags := 0x411 }
/-- [B -/
def k7 : Class := { plain "[B" (some 0) with kind := .array 6 .byte, interfaces := #[4, 5], accessFlags := 1041 }

/-- the primitive int -/
def k8 : Class := { plain "int" none with kind := .primitive 'I', accessFlags := 0x411 }
/-- [I -/
def k9 : Class := { plain "[I" (some 0) with kind := .array 8 .int, interfaces := #[4, 5], accessFlags := 1041 }

def heap : Heap := #[]
def classes : Array Class := #[k0, k1, k2, k3, k4, k5, k6, k7, k8, k9]
def interned : List (Array UInt16 × Addr) := []
def slotsUsed : Nat := 0
def theMethod : MethodId := ⟨1, 2⟩
def args0 : Array Value := #[.long 3]
def aboutOver (below : List Frame) : State where
  vm := { classes := classes, interned := interned.toArray }
  heap := heap
  slotsUsed := slotsUsed
  threads := #[{ frames := .invoking theMethod args0 :: below }]
def below0 : List Frame := [.native { method := ⟨0, 0⟩, args := #[] }]
def about1 : State := aboutOver below0
def p0 : Program := .bare "" "" ""
def e0 : Env := launch0.env 0 0 0
theorem w_frames : about1.frames = Frame.invoking theMethod args0 :: below0 := rfl
set_option maxRecDepth 65536 in
theorem w_args : argsFit about1.vm theMethod args0 = true := by decide +kernel
set_option maxRecDepth 65536 in
theorem w_heap : heapFits about1 = true := by decide +kernel
set_option maxRecDepth 65536 in
theorem w_runnable : about1.curStatus? = some .runnable := by decide +kernel
set_option maxRecDepth 65536 in
theorem w_alone : about1.alone = true := by decide +kernel
set_option maxRecDepth 65536 in
theorem w_named : about1.methodNamed? x = some theMethod := by decide +kernel
set_option maxRecDepth 65536 in
theorem w_hears : about1.hears theMethod below0 = true := by decide +kernel
set_option maxRecDepth 65536 in
theorem w_ripe : about1.ripe theMethod args0 below0 = true := by decide +kernel
theorem w_running : about1.status = .running := rfl
set_option maxRecDepth 65536 in
theorem w_room : about1.hasRoom e0.platform room_1 = true :=
  launch0.hasRoom_least _ room_1 (by decide +kernel) (by decide +kernel) (by decide +kernel) (by decide +kernel) (by decide +kernel) (by decide +kernel)
theorem allAtoms_all (ts : List Jvm.Cond) (a : Array Jvm.Value) (st : Jvm.State) : (allAtoms ts).before a st = ts.all (fun c => c.before a st) := by
  induction ts with
  | nil => rfl
  | cons c t ih =>
    show (Jvm.Cond.and c (allAtoms t)).before a st = _
    rw [Jvm.Cond.before_and, ih, List.all_cons]
def words1 : List Jvm.Cond := Jvm.Cond.code x code maxLocals ret :: tables_1
/-- a 'code' word, met by the world's own term for the bytes: nothing is compared byte by byte -/
theorem code_word {y : MethodName} {bytes : ByteArray} {mx : Nat} {rt : Option FieldType} {a : Array Value} {s : State} {m : MethodId} {meth : Method} {c : Code} (h1 : s.methodNamed? y = some m) (h2 : s.vm.method? m = some meth) (h3 : meth.code = some c) (h4 : c.code = bytes)
    (h5 : (c.maxLocals == mx && c.exceptionTable.isEmpty && decide (c.maxStack ≤ mostOperands) && decide (meth.sig.returnType = rt) && !meth.locks && decide (parseMethodDescriptor y.desc = some meth.sig)) = true) : (Jvm.Cond.code y bytes mx rt).before a s = true := by
  simp only [Bool.and_eq_true, beq_iff_eq, Bool.not_eq_true', decide_eq_true_eq] at h5
  obtain ⟨⟨⟨⟨⟨g1, g2⟩, g3⟩, g4⟩, g5⟩, g6⟩ := h5
  simp [Cond.before, Cond.holds, Cond.value, h1, h2, h3, h4, g1, g2, g3, g4, g5, g6]
def isCode : Jvm.Cond → Bool
  | .code _ _ _ _ => true
  | _ => false
theorem all_split {L : List Jvm.Cond} {P : Jvm.Cond → Bool} (h1 : L.all (fun c => isCode c || P c) = true) (h2 : ∀ c ∈ L.filter isCode, P c = true) : L.all P = true := by
  refine List.all_eq_true.mpr fun c hc => ?_
  have h := List.all_eq_true.mp h1 c hc
  rcases Bool.eq_false_or_eq_true (isCode c) with hi | hi
  · exact h2 c (List.mem_filter.mpr ⟨hc, hi⟩)
  · simpa [hi] using h
set_option maxRecDepth 65536 in
theorem w_c0 : (Jvm.Cond.code x code maxLocals ret).before args0 about1 = true := code_word (m := ⟨1, 2⟩) (meth := k1m2) (c := k1c2) (by decide +kernel) rfl rfl rfl (by decide +kernel)
set_option maxRecDepth 65536 in
theorem w_c1 : (Jvm.Cond.code ({ cls := "com/example/bitveil/bitveil/KeyHash", name := "fmix64", desc := "(J)J" } : Jvm.MethodName) prog_10_method_11_code (2 : Nat) (Option.some Jvm.ClassFile.FieldType.long)).before args0 about1 = true := code_word (m := ⟨3, 0⟩) (meth := k3m0) (c := k3c0) (by decide +kernel) rfl rfl rfl (by decide +kernel)
set_option maxRecDepth 65536 in
theorem w_c2 : (Jvm.Cond.code ({ cls := "com/example/bitveil/bitveil/KeyHashFmix64PinLaw", name := "unmix", desc := "(J)J" } : Jvm.MethodName) method_2_code (4 : Nat) (Option.some Jvm.ClassFile.FieldType.long)).before args0 about1 = true := code_word (m := ⟨1, 1⟩) (meth := k1m1) (c := k1c1) (by decide +kernel) rfl rfl rfl (by decide +kernel)
def codes1 : List Jvm.Cond := [Jvm.Cond.code x code maxLocals ret, Jvm.Cond.code ({ cls := "com/example/bitveil/bitveil/KeyHash", name := "fmix64", desc := "(J)J" } : Jvm.MethodName) prog_10_method_11_code (2 : Nat) (Option.some Jvm.ClassFile.FieldType.long), Jvm.Cond.code ({ cls := "com/example/bitveil/bitveil/KeyHashFmix64PinLaw", name := "unmix", desc := "(J)J" } : Jvm.MethodName) method_2_code (4 : Nat) (Option.some Jvm.ClassFile.FieldType.long)]
set_option maxRecDepth 65536 in
theorem codes_eq : words1.filter isCode = codes1 := rfl
theorem w_codes : ∀ c ∈ words1.filter isCode, c.before args0 about1 = true := by
  rw [codes_eq]
  intro c hc
  simp only [codes1, List.mem_cons, List.not_mem_nil, or_false] at hc
  rcases hc with rfl | rfl | rfl
  · exact w_c0
  · exact w_c1
  · exact w_c2
set_option maxRecDepth 65536 in
theorem w_t1 : words1.all (fun c => isCode c || c.before args0 about1) = true := by decide +kernel
theorem w_tables : (allAtoms (Jvm.Cond.code x code maxLocals ret :: tables_1)).before args0 about1 = true := by
  rw [allAtoms_all]
  show words1.all (fun c => c.before args0 about1) = true
  refine all_split ?_ w_codes
  rw [w_t1]
set_option maxRecDepth 65536 in
theorem w_case : (Jvm.Cond.and given_1 narrow_1).before args0 about1 = true := by decide +kernel
theorem w_applies : (headSpec (Jvm.Cond.code x code maxLocals ret :: tables_1) room_1).applies x e0.platform about1 = true :=
  (Spec.applies_iff w_frames).mpr ⟨w_running, w_runnable, w_alone, w_named, w_hears, w_ripe, w_room, w_tables⟩
theorem atStart : AtStart classFile x code maxLocals ret World_1 tables_1 room_1 Calls_1 rest_1 Pre_1 launch0 p0 e0 about1 theMethod args0 below0 :=
  ⟨lists_1, trivial, launch0.admits_env _ _ _, launch0.least_env, fairChoices_fair.cas, fairChoices_fair.clock, w_frames, w_args, w_heap, w_applies, trivial, trivial, w_case⟩
end start1
theorem witness_1 : WitnessClaimed_1 := ⟨start1.p0, start1.e0, start1.about1, start1.theMethod, start1.args0, start1.below0, start1.atStart⟩
end Jvm.Pilot.@@N@@

import JvmDerived
import JvmDerived.Pilot.@@N@@Statement
import JvmDerived.Pilot.@@N@@Code
set_option linter.unusedVariables false
set_option linter.unusedSimpArgs false
@@BLOCK:HandJ.lean.txt@@
@@BLOCK:HandW.lean.txt@@
@@BLOCK:HandBits.lean.txt@@
@@BLOCK:SymRun.lean.txt@@
@@BLOCK:RowBasics.lean.txt@@
@@BLOCK:Bridge.lean.txt@@
@@BLOCK:SymKit.lean.txt@@
@@BLOCK:SymWays.lean.txt@@
@@BLOCK:NumsL.lean.txt@@
namespace Jvm.Pilot.@@N@@
open Jvm Jvm.ClassFile Sem Op Jvm.Sym Jvm.Pilot.@@N@@.Jvm.D

/-! 1. the callees: one of another class, and the law's own helper: ONE contract for both -/
def y : MethodName := ⟨"com/example/scriptsieve/scriptsieve/cli/Output", "isEscaped", "(C)Z"⟩
def ycode : ByteArray := @@{@code:com/example/scriptsieve/scriptsieve/cli/Output.isEscaped:(C)Z}@@
def z : MethodName := ⟨"com/example/scriptsieve/scriptsieve/cli/OutputIsEscapedPinLaw", "documented", "(C)Z"⟩
def zcode : ByteArray := @@{@code:com/example/scriptsieve/scriptsieve/cli/OutputIsEscapedPinLaw.documented:(C)Z}@@
def yI : Info := { own := "com/example/scriptsieve/scriptsieve/cli/Output", ret := some .boolean }
def zI : Info := { own := "com/example/scriptsieve/scriptsieve/cli/OutputIsEscapedPinLaw", ret := some .boolean }
def U (t : Term) : Cond := .or (.lt (.old t) (.int 32)) (.or (.eq (.old t) (.int 127)) (.eq (.old t) (.int 92)))
def isR (a : Int32) : Bool := decide (a < 32) || (decide (a = 127) || decide (a = 92))
def Qy : Cond := .or (.and (U (.arg 0)) (.and .returned (.eq .result (.old (.int 1))))) (.and (.not (U (.arg 0))) (.and .returned (.eq .result (.old (.int 0)))))
def cspec (x : MethodName) (code : ByteArray) : Spec := specOf x code 1 (some .boolean) [.int] Qy [] []
def tX (k : Int32) : Term := .op2 .iand (.int k) (.int 1)
def R (k : Int32) : STree := .ret (some ⟨tX k, .int⟩) []
def ty : STree := .fork (.lt (.old (.arg 0)) (.old (.int 32))) (R 1) (.fork (.eq (.old (.arg 0)) (.old (.int 127))) (R 1) (.fork (.not (.eq (.old (.arg 0)) (.old (.int 92)))) (R 0) (R 1)))
def tzE : STree := .fork (.lt (.old (.int 31)) (.old (.arg 0))) (.fork (.not (.eq (.old (.arg 0)) (.old (.int 127)))) (R 0) (R 1)) (R 1)
def tz : STree := .fork (.not (.eq (.old (.arg 0)) (.old (.int 92)))) (.fork (.eq (.old (.arg 0)) (.old (.int 9))) (R 1) (.fork (.eq (.old (.arg 0)) (.old (.int 10))) (R 1) (.fork (.not (.eq (.old (.arg 0)) (.old (.int 13)))) tzE (R 1)))) (R 1)

theorem n9 : (9 : Int32).toInt = 9 := rfl
theorem n10 : (10 : Int32).toInt = 10 := rfl
theorem n13 : (13 : Int32).toInt = 13 := rfl
theorem n31 : (31 : Int32).toInt = 31 := rfl
theorem n32 : (32 : Int32).toInt = 32 := rfl
theorem n92 : (92 : Int32).toInt = 92 := rfl
theorem n127 : (127 : Int32).toInt = 127 := rfl
theorem ywalk : walkTo yI ycode [] 400 true (entry [.int] 1) = some (ty, [], []) := by decide +kernel
theorem zwalk : walkTo zI zcode [] 400 true (entry [.int] 1) = some (tz, [], []) := by decide +kernel
theorem sorts_ok {a : Int32} {s : State} : ∀ q ∈ Sym.sorts 0 [.int], q.before #[.int a] s = true := by
  intro q hq
  simp only [Sym.sorts, List.mem_cons, List.not_mem_nil, or_false] at hq
  rcases hq with rfl <;> simp [isK, Cond.before, Cond.holds, Cond.value, Term.eval]
theorem uval {A : Array Value} {s E : State} {o : Option Outcome} {t : Term} {a : Int32} (h : (Term.old t).eval A s o [] E = some (.int a)) : (U t).value A s o E [] = some (isR a) := by
  simp only [U, Cond.value, h, isR]
  have e : ∀ k : Int32, (Term.int k).eval A s o [] E = some (.int k) := fun _ => rfl
  simp only [e]
  by_cases q1 : a < 32 <;> by_cases q2 : a = 127 <;> by_cases q3 : a = 92 <;> simp [q1, q2, q3]
theorem fork_val {A : Array Value} {s : State} {G : Cond} {a b : STree} {P : Prop} [Decidable P] (h : G.value A s none s [] = some (decide P)) : Kit.valueOf A s (.fork G a b) = if P then Kit.valueOf A s a else Kit.valueOf A s b := by
  simp only [Kit.valueOf, h]
  by_cases hp : P <;> simp [hp]
theorem yvalue (a : Int32) (s : State) : Kit.valueOf #[.int a] s ty = some (.int (if isR a then 1 else 0)) := by
  have g0 : (Cond.lt (.old (.arg 0)) (.old (.int 32))).value #[.int a] s none s [] = some (decide (a < 32)) := Cond.lt_ints rfl rfl
  have g1 : (Cond.eq (.old (.arg 0)) (.old (.int 127))).value #[.int a] s none s [] = some (decide (a = 127)) := Cond.eq_ints rfl rfl
  have g2 : (Cond.not (.eq (.old (.arg 0)) (.old (.int 92)))).value #[.int a] s none s [] = some (decide (¬ a = 92)) := by rw [show (Cond.not (.eq (.old (.arg 0)) (.old (.int 92)))) = Cond.not (.eq (.old (.arg 0)) (.old (.int 92))) from rfl]; simp [Cond.value, Term.eval]
  have r1 : Kit.valueOf #[.int a] s (R 1) = some (.int 1) := rfl
  have r0 : Kit.valueOf #[.int a] s (R 0) = some (.int 0) := rfl
  simp only [ty, fork_val g0, fork_val g1, fork_val g2, r1, r0]
  simp only [isR, Bool.or_eq_true, Bool.and_eq_true, decide_eq_true_eq, ← Int32.toInt_inj, Int32.lt_iff_toInt_lt, Int32.le_iff_toInt_le, n9, n10, n13, n31, n32, n92, n127]
  generalize a.toInt = v
  repeat' split
  all_goals first | rfl | (exfalso; omega)
theorem zvalue (a : Int32) (s : State) : Kit.valueOf #[.int a] s tz = some (.int (if isR a then 1 else 0)) := by
  have g0 : (Cond.not (.eq (.old (.arg 0)) (.old (.int 92)))).value #[.int a] s none s [] = some (decide (¬ a = 92)) := by rw [show (Cond.not (.eq (.old (.arg 0)) (.old (.int 92)))) = Cond.not (.eq (.old (.arg 0)) (.old (.int 92))) from rfl]; simp [Cond.value, Term.eval]
  have g1 : (Cond.eq (.old (.arg 0)) (.old (.int 9))).value #[.int a] s none s [] = some (decide (a = 9)) := Cond.eq_ints rfl rfl
  have g2 : (Cond.eq (.old (.arg 0)) (.old (.int 10))).value #[.int a] s none s [] = some (decide (a = 10)) := Cond.eq_ints rfl rfl
  have g3 : (Cond.not (.eq (.old (.arg 0)) (.old (.int 13)))).value #[.int a] s none s [] = some (decide (¬ a = 13)) := by rw [show (Cond.not (.eq (.old (.arg 0)) (.old (.int 13)))) = Cond.not (.eq (.old (.arg 0)) (.old (.int 13))) from rfl]; simp [Cond.value, Term.eval]
  have g4 : (Cond.lt (.old (.int 31)) (.old (.arg 0))).value #[.int a] s none s [] = some (decide (31 < a)) := Cond.lt_ints rfl rfl
  have g5 : (Cond.not (.eq (.old (.arg 0)) (.old (.int 127)))).value #[.int a] s none s [] = some (decide (¬ a = 127)) := by rw [show (Cond.not (.eq (.old (.arg 0)) (.old (.int 127)))) = Cond.not (.eq (.old (.arg 0)) (.old (.int 127))) from rfl]; simp [Cond.value, Term.eval]
  have r1 : Kit.valueOf #[.int a] s (R 1) = some (.int 1) := rfl
  have r0 : Kit.valueOf #[.int a] s (R 0) = some (.int 0) := rfl
  simp only [tz, tzE, fork_val g0, fork_val g1, fork_val g2, fork_val g3, fork_val g4, fork_val g5, r1, r0]
  simp only [isR, Bool.or_eq_true, Bool.and_eq_true, decide_eq_true_eq, ← Int32.toInt_inj, Int32.lt_iff_toInt_lt, Int32.le_iff_toInt_le, n9, n10, n13, n31, n32, n92, n127]
  generalize a.toInt = v
  repeat' split
  all_goals first | rfl | (exfalso; omega)
theorem ymeets (l : Launch) : MeetsLoose l y (cspec y ycode) := by
  refine loops_meets (I := yI) (code := ycode) (maxLocals := 1) (ret := some .boolean) (ks0 := [.int]) (cuts := []) (by decide) rfl rfl rfl rfl rfl (fun args s h => conj_before h _ List.mem_cons_self) ywalk (fun _ => none) (fun _ _ _ _ _ => False) (fun _ _ _ => 0) (fun args s h => ?_) (fun args s _ h ks hks => by cases hks)
  have hpre := conj_before h
  have hc : (Cond.count 1).before args s = true := hpre (.count 1) (List.mem_cons_of_mem _ List.mem_cons_self)
  have hi : (Cond.isInt (.arg 0)).before args s = true := hpre (.isInt (.arg 0)) (List.mem_cons_of_mem _ (List.mem_cons_of_mem _ List.mem_cons_self))
  obtain ⟨a, rfl⟩ := Cond.one_int hc hi
  refine ⟨rfl, sorts_ok, fun q hq => (by cases hq), fun q hq => (by cases hq), Kit.vc_of_value (w₀ := .int (if isR a then 1 else 0)) (fun E => ?_) ty (by decide +kernel) (yvalue a s)⟩
  have hu : (U (.arg 0)).value #[.int a] s (some (.returned (some (.int (if isR a then 1 else 0))))) E [] = some (isR a) := uval rfl
  show Qy.after _ _ _ _ = true
  simp only [Qy, Cond.after, Cond.holds, Cond.value, hu, Term.eval]
  cases isR a <;> simp
theorem zmeets (l : Launch) : MeetsLoose l z (cspec z zcode) := by
  refine loops_meets (I := zI) (code := zcode) (maxLocals := 1) (ret := some .boolean) (ks0 := [.int]) (cuts := []) (by decide) rfl rfl rfl rfl rfl (fun args s h => conj_before h _ List.mem_cons_self) zwalk (fun _ => none) (fun _ _ _ _ _ => False) (fun _ _ _ => 0) (fun args s h => ?_) (fun args s _ h ks hks => by cases hks)
  have hpre := conj_before h
  have hc : (Cond.count 1).before args s = true := hpre (.count 1) (List.mem_cons_of_mem _ List.mem_cons_self)
  have hi : (Cond.isInt (.arg 0)).before args s = true := hpre (.isInt (.arg 0)) (List.mem_cons_of_mem _ (List.mem_cons_of_mem _ List.mem_cons_self))
  obtain ⟨a, rfl⟩ := Cond.one_int hc hi
  refine ⟨rfl, sorts_ok, fun q hq => (by cases hq), fun q hq => (by cases hq), Kit.vc_of_value (w₀ := .int (if isR a then 1 else 0)) (fun E => ?_) tz (by decide +kernel) (zvalue a s)⟩
  have hu : (U (.arg 0)).value #[.int a] s (some (.returned (some (.int (if isR a then 1 else 0))))) E [] = some (isR a) := uval rfl
  show Qy.after _ _ _ _ = true
  simp only [Qy, Cond.after, Cond.holds, Cond.value, hu, Term.eval]
  cases isR a <;> simp
theorem ycold : (cspec y ycode).Cold := Spec.cold_of_keeps (by decide +kernel)
theorem zcold : (cspec z zcode).Cold := Spec.cold_of_keeps (by decide +kernel)

/-! 2. the law's own walk -/
def ycal : Callee := { y := y, S := cspec y ycode, bytes := ycode, maxL := 1, ret := some .boolean, static := true, params := 1, res := some .int }
def zcal : Callee := { y := z, S := cspec z zcode, bytes := zcode, maxL := 1, ret := some .boolean, static := true, params := 1, res := some .int }
def I : Info := { own := x.cls, ret := ret, ints := [(@@{@iidx:65535}@@, 65535)], calls := [(@@{@midx:com/example/scriptsieve/scriptsieve/cli/Output.isEscaped:(C)Z}@@, ycal), (@@{@midx:com/example/scriptsieve/scriptsieve/cli/OutputIsEscapedPinLaw.documented:(C)Z}@@, zcal)], maxLocals := maxLocals, room := room_1 }
theorem callsOk (l : Launch) : CallsOk l I maxLocals room_1 := fun q hq => by
  simp only [I, List.mem_cons, List.not_mem_nil, or_false] at hq
  rcases hq with rfl | rfl
  · exact ⟨rfl, rfl, ymeets l, ycold⟩
  · exact ⟨rfl, rfl, zmeets l, zcold⟩
def w := walkTo I code [] 400 true (entry [.int] maxLocals)
theorem w_some : w.isSome = true := by decide +kernel
def tC : Term := .op1 .i2c (.op2 .iand (.arg 0) (.int 65535))
def tQ (i j : Int32) : STree := .fork (.not (.eq (.old (.int i)) (.old (.int j)))) (R 0) (R 1)
def tN (i j : Int32) : STree := .fork (.eq (.old (.int i)) (.int 0)) (tQ i j) (.fork (.lt (.old tC) (.old (.int 128))) (tQ i j) (R 0))
def t0 : STree := .fork (U tC) (.fork (U tC) (tN 1 1) (tN 1 0)) (.fork (U tC) (tN 0 1) (tN 0 0))
theorem tree : (w.get w_some).1 = t0 := by decide +kernel
theorem entry_walk : walkTo I code [] 400 true (entry [.int] maxLocals) = some (t0, (w.get w_some).2.1, (w.get w_some).2.2) := by
  rw [← tree]; exact (Option.some_get w_some).symm

/-! 3. what the tree returns -/
def cOf (a : Int32) : Int32 := (a &&& 65535).toUInt32.toUInt16.toUInt32.toInt32
theorem below (c : Int32) (h : isR c = true) : c < 128 := by
  simp only [isR, Bool.or_eq_true, decide_eq_true_eq, ← Int32.toInt_inj, Int32.lt_iff_toInt_lt, n32, n92, n127] at h
  rw [Int32.lt_iff_toInt_lt, show (128 : Int32).toInt = 128 from rfl]
  omega
theorem value_eq (a : Int32) (s : State) : Kit.valueOf #[.int a] s t0 = some (.int 1) := by
  have hu : (U tC).value #[.int a] s none s [] = some (isR (cOf a)) := uval rfl
  have g1 : (Cond.lt (.old tC) (.old (.int 128))).value #[.int a] s none s [] = some (decide (cOf a < 128)) := Cond.lt_ints rfl rfl
  have q1 : Kit.valueOf #[.int a] s (tQ 1 1) = some (.int 1) := rfl
  have q0 : Kit.valueOf #[.int a] s (tN 0 0) = some (.int 1) := rfl
  have c1 : (Cond.eq (.old (.int 1)) (.int 0)).value #[.int a] s none s [] = some false := rfl
  have hb := below (cOf a)
  simp only [t0, Kit.valueOf, hu]
  cases h : isR (cOf a)
  · exact q0
  · have hlt := hb h
    simp only [tN, Kit.valueOf, c1, g1, hlt, decide_true]
    exact q1
def Gs : List Cond := [U tC, .lt (.old tC) (.old (.int 128))]
theorem defined (a : Int32) (s : State) : ∀ G ∈ Gs, ∃ z, G.value #[.int a] s none s [] = some z := by
  intro G hG
  simp only [Gs, List.mem_cons, List.not_mem_nil, or_false] at hG
  rcases hG with rfl | rfl
  · exact ⟨_, uval rfl⟩
  · exact ⟨_, Cond.lt_ints rfl rfl⟩
def Gt : List Cond := [.isInt tC, .isInt (.int 0), .isInt (.int 1), .eq (.old (.int 1)) (.old (.int 1)), .eq (.old (.int 0)) (.old (.int 0)), .eq (.old (.int 0)) (.int 0)]
def Ff : List Cond := [.eq (.old (.int 1)) (.old (.int 0)), .eq (.old (.int 0)) (.old (.int 1)), .eq (.old (.int 1)) (.int 0)]

/-! 4. the contract, the limbs -/
def post_1 : Cond := .and limb_1_1 limb_1_2
theorem met_1 (l : Launch) : MeetsLoose l x (armSpec x code maxLocals ret tables_1 room_1 .tt (.and given_1 narrow_1) post_1 frame_1_writes frame_1_arrays frame_1_statics) := by
  refine loops_meets (I := I) (ks0 := [.int]) (cuts := []) (by decide) rfl rfl rfl rfl rfl (fun args s h => ?_) entry_walk (fun _ => none) (fun _ _ _ _ _ => False) (fun _ _ _ => 0) (fun args s h => ?_) (fun args s _ h ks hks => by cases hks) (callsOk l)
  · simp only [armSpec, allAtoms, List.foldr_cons, Cond.before_and, Bool.and_eq_true] at h; exact h.1.1
  · have hts : (allAtoms (Cond.code x code maxLocals ret :: tables_1)).before args s = true := by simp only [armSpec, Cond.before_and, Bool.and_eq_true] at h; exact h.1
    have hK : (Cond.and .tt (.and given_1 narrow_1)).before args s = true := by simp only [armSpec, Cond.before_and, Bool.and_eq_true] at h ⊢; exact h.2
    simp only [armSpec, given_1, Cond.before_and, Bool.and_eq_true] at h
    obtain ⟨-, -, ⟨hc, h0⟩, hn⟩ := h
    obtain ⟨a, rfl⟩ := Cond.one_int hc h0
    have hT := known3 (Gt := Gt) hts hK (by
      intro q hq
      simp only [Gt, List.mem_cons, List.not_mem_nil, or_false] at hq
      rcases hq with rfl | rfl | rfl | rfl | rfl | rfl <;> rfl)
    have hF : ∀ q ∈ Ff, q.value #[.int a] s none s [] = some false := fun q hq => by
      simp only [Ff, List.mem_cons, List.not_mem_nil, or_false] at hq
      rcases hq with rfl | rfl | rfl <;> rfl
    refine ⟨rfl, sorts_ok, tabs_of_sub hts (by decide +kernel), needs_of_ways (Gs := Gs) hT hF (defined a s) (by decide +kernel), Kit.vc_of_value (w₀ := .int 1) (fun E => ?_) t0 (by decide +kernel) (value_eq a s)⟩
    simp [armSpec, post_1, limb_1_1, limb_1_2, Cond.after, Cond.holds, Cond.value, Term.eval]
theorem wide {limb : Cond} (h0 : ∀ args s o t, post_1.after args s o t = true → limb.after args s o t = true) :
    ArmFor flags0 classFile x code maxLocals ret World_1 tables_1 room_1 Calls_1 rest_1 Pre_1 (fun tb e a s o t => postC limb tb e a s o t ∧ Framed s o t (fieldLocs frame_1_writes a s ++ arrayLocs frame_1_arrays a s ++ staticLocs frame_1_statics s) 0 0) := by
  intro l hfl hL hW p e ha hc hk s m args below hf hA hF happ hP
  obtain ⟨n, o, h1, h2, h3, hq⟩ := armFor_of_meets0 (fun l => (met_1 l).meets) h0 l hfl hL hW p e ha hc hk s m args below hf hA hF happ hP
  exact ⟨n, o, h1, h2, h3, hq.1, hq.2.1, hq.2.2.1, hq.2.2.2.mono (by decide) (by decide)⟩
theorem main_1_1 : Claimed_1_1 := wide fun _ _ _ _ h => by simp only [post_1, Cond.after_and, Bool.and_eq_true] at h; exact h.1
theorem main_1_2 : Claimed_1_2 := wide fun _ _ _ _ h => by simp only [post_1, Cond.after_and, Bool.and_eq_true] at h; exact h.2
end Jvm.Pilot.@@N@@
namespace Jvm.Pilot.@@N@@
open Jvm Jvm.ClassFile Sem Op Lib Jvm.Free Jvm.Stand Jvm.Pilot.@@N@@.Jvm.D
/-! MADE BY PROGRAM (witnessworld.py) out of the Statement's table words and the real class files: 9 classes; the members and pool entries that the words name. The judged class is class 1, her method 2. -/
namespace start1
open Jvm.ClassFile
def u (s : String) : CpInfo := .utf8 (stringToUtf16 s)
/-- a pool by its gaps: so many unusable entries, then the entry; so many at the end -/
def gap : Nat → List CpInfo → List CpInfo
  | 0, r => r
  | n + 1, r => .unusable :: gap n r
def poolList (es : List (Nat × CpInfo)) (last : Nat) : List CpInfo := es.foldr (fun e r => gap e.1 (e.2 :: r)) (gap last [])
def pool (es : List (Nat × CpInfo)) (last : Nat) : Array CpInfo := ⟨poolList es last⟩
def fileOf (pool : Array CpInfo) (this : Nat) (attrs : Array Attribute := #[]) (ms : Array MethodInfo := #[]) (fl : Nat := 33) (sup : Nat := 0) (ifs : Array Nat := #[]) (fds : Array FieldInfo := #[]) : ClassFile where
  minorVersion := 0
  majorVersion := 65
  constantPool := pool
  accessFlags := fl
  thisClass := this
  superClass := sup
  interfaces := ifs
  fields := fds
  methods := ms
  attributes := attrs
def plain (name : String) (sup : Option ClassId) : Class where
  name := name
  kind := .ordinary
  loader := none
  accessFlags := 33
  super := sup
  interfaces := #[]
  cf := none
  fields := #[]
  methods := #[]
  instanceTypes := #[]
  staticTypes := #[]
  resolved := #[]
  callSites := []
  init := .initialized
  statics := none
  mirror := none

def pool0 : Array CpInfo := pool [(5, u "<init>"), (0, u "()V"), (1, .class_ 10), (1, u "java/lang/Object")] 113

def k0m0 : Method := { name := "<init>", desc := "()V", sig := { parameters := [], returnType := none }, accessFlags := 1, code := none }
/-- java/lang/Object -/
def k0 : Class := { plain "java/lang/Object" none with
  accessFlags := 33
  interfaces := #[]
  cf := some (fileOf pool0 8 #[] #[{ accessFlags := 1, nameIndex := 5, descriptorIndex := 6, attributes := #[] }] 33 0 #[] #[])
  fields := #[]
  methods := #[k0m0]
  instanceTypes := #[]
  staticTypes := #[]
  resolved := Array.replicate 124 none
  statics := none }

def pool1 : Array CpInfo := pool [(2, .class_ 4), (1, u "java/lang/Object"), (0, u "<init>"), (0, u "()V"), (0, .integer 65535), (0, .methodref 9 10), (0, .class_ 11), (0, .nameAndType 12 13), (0, u "com/example/scriptsieve/scriptsieve/cli/Output"), (0, u "isEscaped"), (0, u "(C)Z"), (0, .methodref 15 16), (0, .class_ 17), (0, .nameAndType 18 13), (0, u "com/example/scriptsieve/scriptsieve/cli/OutputIsEscapedPinLaw"), (0, u "documented"), (3, u "law"), (0, u "(I)Z")] 2

def k1m0 : Method := { name := "<init>", desc := "()V", sig := { parameters := [], returnType := none }, accessFlags := 2, code := none }
def k1c1 : Code := { maxStack := 2, maxLocals := 1, code := method_2_code, exceptionTable := #[], attributes := #[] }
def k1m1 : Method := { name := "documented", desc := "(C)Z", sig := { parameters := [.char], returnType := some .boolean }, accessFlags := 10, code := some k1c1 }
def k1c2 : Code := { maxStack := 2, maxLocals := 4, code := code, exceptionTable := #[], attributes := #[] }
def k1m2 : Method := { name := "law", desc := "(I)Z", sig := { parameters := [.int], returnType := some .boolean }, accessFlags := 9, code := some k1c2 }
/-- com/example/scriptsieve/scriptsieve/cli/OutputIsEscapedPinLaw -/
def k1 : Class := { plain "com/example/scriptsieve/scriptsieve/cli/OutputIsEscapedPinLaw" (some 0) with
  accessFlags := 49
  interfaces := #[]
  cf := some (fileOf pool1 15 #[] #[{ accessFlags := 2, nameIndex := 5, descriptorIndex := 6, attributes := #[] }, { accessFlags := 10, nameIndex := 18, descriptorIndex := 13, attributes := #[] }, { accessFlags := 9, nameIndex := 22, descriptorIndex := 23, attributes := #[] }] 49 2 #[] #[])
  fields := #[]
  methods := #[k1m0, k1m1, k1m2]
  instanceTypes := #[]
  staticTypes := #[]
  resolved := Array.replicate 26 none
  statics := none }

def pool2 : Array CpInfo := pool [(2, .class_ 4), (1, u "java/lang/Object"), (0, u "<init>"), (0, u "()V"), (23, .class_ 32), (1, u "com/example/scriptsieve/scriptsieve/cli/Output"), (9, .class_ 43), (0, u "com/example/scriptsieve/scriptsieve/cli/Output$Prepared"), (5, u "LOG"), (0, u "Lcom/example/scriptsieve/scriptsieve/cli/LazyLogger;"), (84, u "isEscaped"), (0, u "(C)Z"), (100, u "HEX"), (0, u "Ljava/util/HexFormat;"), (19, u "EXIT_OK"), (0, u "I"), (2, u "EXIT_NOT_FOUND"), (1, u "EXIT_ERROR")] 51

def k2m0 : Method := { name := "<init>", desc := "()V", sig := { parameters := [], returnType := none }, accessFlags := 2, code := none }
def k2c1 : Code := { maxStack := 2, maxLocals := 1, code := prog_14_method_13_code, exceptionTable := #[], attributes := #[] }
def k2m1 : Method := { name := "isEscaped", desc := "(C)Z", sig := { parameters := [.char], returnType := some .boolean }, accessFlags := 8, code := some k2c1 }
/-- com/example/scriptsieve/scriptsieve/cli/Output -/
def k2 : Class := { plain "com/example/scriptsieve/scriptsieve/cli/Output" (some 0) with
  accessFlags := 48
  interfaces := #[]
  cf := some (fileOf pool2 30 #[.nestMembers #[42]] #[{ accessFlags := 2, nameIndex := 5, descriptorIndex := 6, attributes := #[] }, { accessFlags := 8, nameIndex := 135, descriptorIndex := 136, attributes := #[] }] 48 2 #[] #[{ accessFlags := 24, nameIndex := 258, descriptorIndex := 259, attributes := #[] }, { accessFlags := 24, nameIndex := 262, descriptorIndex := 259, attributes := #[] }, { accessFlags := 24, nameIndex := 264, descriptorIndex := 259, attributes := #[] }, { accessFlags := 26, nameIndex := 237, descriptorIndex := 238, attributes := #[] }, { accessFlags := 26, nameIndex := 49, descriptorIndex := 50, attributes := #[] }])
  fields := #[{ name := "EXIT_OK", type := .int, accessFlags := 24, slot := 0, constantValue := 0 }, { name := "EXIT_NOT_FOUND", type := .int, accessFlags := 24, slot := 1, constantValue := 0 }, { name := "EXIT_ERROR", type := .int, accessFlags := 24, slot := 2, constantValue := 0 }, { name := "HEX", type := (.object "java/util/HexFormat"), accessFlags := 26, slot := 3, constantValue := 0 }, { name := "LOG", type := (.object "com/example/scriptsieve/scriptsieve/cli/LazyLogger"), accessFlags := 26, slot := 4, constantValue := 0 }]
  methods := #[k2m0, k2m1]
  instanceTypes := #[]
  staticTypes := #[.int, .int, .int, (.object "java/util/HexFormat"), (.object "com/example/scriptsieve/scriptsieve/cli/LazyLogger")]
  resolved := Array.replicate 316 none
  statics := none }

def pool3 : Array CpInfo := pool [(1, u "java/lang/Cloneable"), (0, .class_ 1), (0, u "java/lang/Object"), (0, .class_ 3)] 3

/-- java/lang/Cloneable -/
def k3 : Class := { plain "java/lang/Cloneable" (some 0) with
  accessFlags := 1537
  interfaces := #[]
  cf := some (fileOf pool3 2 #[] #[] 1537 4 #[] #[])
  fields := #[]
  methods := #[]
  instanceTypes := #[]
  staticTypes := #[]
  resolved := Array.replicate 8 none
  statics := none }

def pool4 : Array CpInfo := pool [(1, u "java/io/Serializable"), (0, .class_ 1), (0, u "java/lang/Object"), (0, .class_ 3)] 3

/-- java/io/Serializable -/
def k4 : Class := { plain "java/io/Serializable" (some 0) with
  accessFlags := 1537
  interfaces := #[]
  cf := some (fileOf pool4 2 #[] #[] 1537 4 #[] #[])
  fields := #[]
  methods := #[]
  instanceTypes := #[]
  staticTypes := #[]
  resolved := Array.replicate 8 none
  statics := none }

/-- the primitive byte -/
def k5 : Class := { plain "byte" none with kind := .primitive 'B', accessFlags := 0x411 }
/-- [B -/
def k6 : Class := { plain "[B" (some 0) with kind := .array 5 .byte, interfaces := #[3, 4], accessFlags := 1041 }

/-- the primitive int -/
def k7 : Class := { plain "int" none with kind := .primitive 'I', accessFlags := 0x411 }
/-- [I -/
def k8 : Class := { plain "[I" (some 0) with kind := .array 7 .int, interfaces := #[3, 4], accessFlags := 1041 }

def heap : Heap := #[]
def classes : Array Class := #[k0, k1, k2, k3, k4, k5, k6, k7, k8]
def interned : List (Array UInt16 × Addr) := []
def slotsUsed : Nat := 0
def theMethod : MethodId := ⟨1, 2⟩
def args0 : Array Value := #[.int 65]
def aboutOver (below : List Frame) : State where
  vm := { classes := classes, interned := interned.toArray }
  heap := heap
  slotsUsed := slotsUsed
  threads := #[{ frames := .invoking theMethod args0 :: below }]
def below0 : List Frame := [.native { method := ⟨0, 0⟩, args := #[] }]
def about1 : State := aboutOver below0
def p0 : Program := .bare "" "" ""
def e0 : Env := launch0.env 0 0 0
theorem w_frames : about1.frames = Frame.invoking theMethod args0 :: below0 := rfl
set_option maxRecDepth 65536 in
theorem w_args : argsFit about1.vm theMethod args0 = true := by decide +kernel
set_option maxRecDepth 65536 in
theorem w_heap : heapFits about1 = true := by decide +kernel
set_option maxRecDepth 65536 in
theorem w_runnable : about1.curStatus? = some .runnable := by decide +kernel
set_option maxRecDepth 65536 in
theorem w_alone : about1.alone = true := by decide +kernel
set_option maxRecDepth 65536 in
theorem w_named : about1.methodNamed? x = some theMethod := by decide +kernel
set_option maxRecDepth 65536 in
theorem w_hears : about1.hears theMethod below0 = true := by decide +kernel
set_option maxRecDepth 65536 in
theorem w_ripe : about1.ripe theMethod args0 below0 = true := by decide +kernel
theorem w_running : about1.status = .running := rfl
set_option maxRecDepth 65536 in
theorem w_room : about1.hasRoom e0.platform room_1 = true :=
  launch0.hasRoom_least _ room_1 (by decide +kernel) (by decide +kernel) (by decide +kernel) (by decide +kernel) (by decide +kernel) (by decide +kernel)
theorem allAtoms_all (ts : List Jvm.Cond) (a : Array Jvm.Value) (st : Jvm.State) : (allAtoms ts).before a st = ts.all (fun c => c.before a st) := by
  induction ts with
  | nil => rfl
  | cons c t ih =>
    show (Jvm.Cond.and c (allAtoms t)).before a st = _
    rw [Jvm.Cond.before_and, ih, List.all_cons]
def words1 : List Jvm.Cond := Jvm.Cond.code x code maxLocals ret :: tables_1
/-- a 'code' word, met by the world's own term for the bytes: nothing is compared byte by byte -/
theorem code_word {y : MethodName} {bytes : ByteArray} {mx : Nat} {rt : Option FieldType} {a : Array Value} {s : State} {m : MethodId} {meth : Method} {c : Code} (h1 : s.methodNamed? y = some m) (h2 : s.vm.method? m = some meth) (h3 : meth.code = some c) (h4 : c.code = bytes)
    (h5 : (c.maxLocals == mx && c.exceptionTable.isEmpty && decide (c.maxStack ≤ mostOperands) && decide (meth.sig.returnType = rt) && !meth.locks && decide (parseMethodDescriptor y.desc = some meth.sig)) = true) : (Jvm.Cond.code y bytes mx rt).before a s = true := by
  simp only [Bool.and_eq_true, beq_iff_eq, Bool.not_eq_true', decide_eq_true_eq] at h5
  obtain ⟨⟨⟨⟨⟨g1, g2⟩, g3⟩, g4⟩, g5⟩, g6⟩ := h5
  simp [Cond.before, Cond.holds, Cond.value, h1, h2, h3, h4, g1, g2, g3, g4, g5, g6]
def isCode : Jvm.Cond → Bool
  | .code _ _ _ _ => true
  | _ => false
theorem all_split {L : List Jvm.Cond} {P : Jvm.Cond → Bool} (h1 : L.all (fun c => isCode c || P c) = true) (h2 : ∀ c ∈ L.filter isCode, P c = true) : L.all P = true := by
  refine List.all_eq_true.mpr fun c hc => ?_
  have h := List.all_eq_true.mp h1 c hc
  rcases Bool.eq_false_or_eq_true (isCode c) with hi | hi
  · exact h2 c (List.mem_filter.mpr ⟨hc, hi⟩)
  · simpa [hi] using h
set_option maxRecDepth 65536 in
theorem w_c0 : (Jvm.Cond.code x code maxLocals ret).before args0 about1 = true := code_word (m := ⟨1, 2⟩) (meth := k1m2) (c := k1c2) (by decide +kernel) rfl rfl rfl (by decide +kernel)
set_option maxRecDepth 65536 in
theorem w_c1 : (Jvm.Cond.code ({ cls := "com/example/scriptsieve/scriptsieve/cli/Output", name := "isEscaped", desc := "(C)Z" } : Jvm.MethodName) prog_14_method_13_code (1 : Nat) (Option.some Jvm.ClassFile.FieldType.boolean)).before args0 about1 = true := code_word (m := ⟨2, 1⟩) (meth := k2m1) (c := k2c1) (by decide +kernel) rfl rfl rfl (by decide +kernel)
set_option maxRecDepth 65536 in
theorem w_c2 : (Jvm.Cond.code ({ cls := "com/example/scriptsieve/scriptsieve/cli/OutputIsEscapedPinLaw", name := "documented", desc := "(C)Z" } : Jvm.MethodName) method_2_code (1 : Nat) (Option.some Jvm.ClassFile.FieldType.boolean)).before args0 about1 = true := code_word (m := ⟨1, 1⟩) (meth := k1m1) (c := k1c1) (by decide +kernel) rfl rfl rfl (by decide +kernel)
def codes1 : List Jvm.Cond := [Jvm.Cond.code x code maxLocals ret, Jvm.Cond.code ({ cls := "com/example/scriptsieve/scriptsieve/cli/Output", name := "isEscaped", desc := "(C)Z" } : Jvm.MethodName) prog_14_method_13_code (1 : Nat) (Option.some Jvm.ClassFile.FieldType.boolean), Jvm.Cond.code ({ cls := "com/example/scriptsieve/scriptsieve/cli/OutputIsEscapedPinLaw", name := "documented", desc := "(C)Z" } : Jvm.MethodName) method_2_code (1 : Nat) (Option.some Jvm.ClassFile.FieldType.boolean)]
set_option maxRecDepth 65536 in
theorem codes_eq : words1.filter isCode = codes1 := rfl
theorem w_codes : ∀ c ∈ words1.filter isCode, c.before args0 about1 = true := by
  rw [codes_eq]
  intro c hc
  simp only [codes1, List.mem_cons, List.not_mem_nil, or_false] at hc
  rcases hc with rfl | rfl | rfl
  · exact w_c0
  · exact w_c1
  · exact w_c2
set_option maxRecDepth 65536 in
theorem w_t1 : words1.all (fun c => isCode c || c.before args0 about1) = true := by decide +kernel
theorem w_tables : (allAtoms (Jvm.Cond.code x code maxLocals ret :: tables_1)).before args0 about1 = true := by
  rw [allAtoms_all]
  show words1.all (fun c => c.before args0 about1) = true
  refine all_split ?_ w_codes
  rw [w_t1]
set_option maxRecDepth 65536 in
theorem w_case : (Jvm.Cond.and given_1 narrow_1).before args0 about1 = true := by decide +kernel
theorem w_applies : (headSpec (Jvm.Cond.code x code maxLocals ret :: tables_1) room_1).applies x e0.platform about1 = true :=
  (Spec.applies_iff w_frames).mpr ⟨w_running, w_runnable, w_alone, w_named, w_hears, w_ripe, w_room, w_tables⟩
theorem atStart : AtStart classFile x code maxLocals ret World_1 tables_1 room_1 Calls_1 rest_1 Pre_1 launch0 p0 e0 about1 theMethod args0 below0 :=
  ⟨lists_1, trivial, launch0.admits_env _ _ _, launch0.least_env, fairChoices_fair.cas, fairChoices_fair.clock, w_frames, w_args, w_heap, w_applies, trivial, trivial, w_case⟩
end start1
theorem witness_1 : WitnessClaimed_1 := ⟨start1.p0, start1.e0, start1.about1, start1.theMethod, start1.args0, start1.below0, start1.atStart⟩
end Jvm.Pilot.@@N@@

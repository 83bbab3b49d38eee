import JvmDerived
import JvmDerived.Pilot.@@N@@Statement
import JvmDerived.Pilot.@@N@@Code
set_option linter.unusedVariables false
set_option linter.unusedSimpArgs false
@@BLOCK:HandJ.lean.txt@@
@@BLOCK:HandW.lean.txt@@
@@BLOCK:HandBits.lean.txt@@
@@BLOCK:SymRun.lean.txt@@
@@BLOCK:RowBasics.lean.txt@@
@@BLOCK:Bridge.lean.txt@@
@@BLOCK:SymKit.lean.txt@@
@@BLOCK:SymWays.lean.txt@@
@@BLOCK:NumsL.lean.txt@@
namespace Jvm.Pilot.@@N@@
open Jvm Jvm.ClassFile Sem Op Jvm.Sym Jvm.Pilot.@@N@@.Jvm.D

/-! 1. the callees: JoinPlan.partitionBlocks, of another class, and the law's own helper -/
def y : MethodName := ⟨"com/example/berth/berth/join/JoinPlan", "partitionBlocks", "(JII)J"⟩
def ycode : ByteArray := @@{@code:com/example/berth/berth/join/JoinPlan.partitionBlocks:(JII)J}@@
def z : MethodName := ⟨"com/example/berth/berth/join/JoinPlanPartitionBlocksPinLaw", "expected", "(JJJ)J"⟩
def zcode : ByteArray := @@{@code:com/example/berth/berth/join/JoinPlanPartitionBlocksPinLaw.expected:(JJJ)J}@@
def yI : Info := { own := "com/example/berth/berth/join/JoinPlan", ret := some .long }
def zI : Info := { own := "com/example/berth/berth/join/JoinPlanPartitionBlocksPinLaw", ret := some .long }
def yout : Option (Cond × List Cond × List Cond) := walk yI ycode 200 (entry [.long, .int, .int] 4)
theorem ywalks : yout.isSome = true := by decide +kernel
def ygot : Cond × List Cond × List Cond := yout.get ywalks
def yspec : Spec := specOf y ycode 4 (some .long) [.long, .int, .int] ygot.1 ygot.2.1 ygot.2.2
theorem ymeets (l : Launch) : MeetsLoose l y yspec :=
  walk_meets (n := 200) (I := yI) (by decide) rfl rfl (show walk yI ycode 200 (entry [.long, .int, .int] 4) = some (ygot.1, ygot.2.1, ygot.2.2) from (Option.some_get ywalks).symm)
theorem ycold : yspec.Cold := Spec.cold_of_keeps (by decide +kernel)
def zout : Option (Cond × List Cond × List Cond) := walk zI zcode 200 (entry [.long, .long, .long] 10)
theorem zwalks : zout.isSome = true := by decide +kernel
def zgot : Cond × List Cond × List Cond := zout.get zwalks
def zspec : Spec := specOf z zcode 10 (some .long) [.long, .long, .long] zgot.1 zgot.2.1 zgot.2.2
theorem zmeets (l : Launch) : MeetsLoose l z zspec :=
  walk_meets (n := 200) (I := zI) (by decide) rfl rfl (show walk zI zcode 200 (entry [.long, .long, .long] 10) = some (zgot.1, zgot.2.1, zgot.2.2) from (Option.some_get zwalks).symm)
theorem zcold : zspec.Cold := Spec.cold_of_keeps (by decide +kernel)

/-! 2. the law's own walk -/
def ycal : Callee := { y := y, S := yspec, bytes := ycode, maxL := 4, ret := some .long, static := true, params := 3, res := some .long }
def zcal : Callee := { y := z, S := zspec, bytes := zcode, maxL := 10, ret := some .long, static := true, params := 3, res := some .long }
def I : Info := { own := x.cls, ret := ret, ints := [(@@{@iidx:2147483647}@@, 2147483647)], longs := [(@@{@lidx:9223372036854775807}@@, 9223372036854775807)], calls := [(@@{@midx:com/example/berth/berth/join/JoinPlan.partitionBlocks:(JII)J}@@, ycal), (@@{@midx:com/example/berth/berth/join/JoinPlanPartitionBlocksPinLaw.expected:(JJJ)J}@@, zcal)], maxLocals := maxLocals, room := room_1 }
theorem callsOk (l : Launch) : CallsOk l I maxLocals room_1 := fun q hq => by
  simp only [I, List.mem_cons, List.not_mem_nil, or_false] at hq
  rcases hq with rfl | rfl
  · exact ⟨rfl, rfl, ymeets l, ycold⟩
  · exact ⟨rfl, rfl, zmeets l, zcold⟩
def w := walkTo I code [] 400 true (entry [.long, .int, .int] maxLocals)
theorem w_some : w.isSome = true := by decide +kernel
def tX (k : Int32) : Term := .op2 .iand (.int k) (.int 1)
def R (k : Int32) : STree := .ret (some ⟨tX k, .int⟩) []
def tB : Term := .op2 .land (.arg 0) (.long 9223372036854775807)
def tP : Term := .op2 .iand (.arg 1) (.int 2147483647)
def tC : Term := .op2 .iand (.arg 2) (.int 2147483647)
def tI (p : Term) : Term := .rem tC p
def tPL (p : Term) : Term := .op1 .i2l p
def tIL (p : Term) : Term := .op1 .i2l (tI p)
def tQ (p : Term) : Term := .op2 .ldiv tB (tPL p)
def tR (p : Term) : Term := .op2 .lrem tB (tPL p)
def tXX (p : Term) : Term := .op2 .lsub tB (tIL p)
def tXQ (p : Term) : Term := .op2 .ldiv (tXX p) (tPL p)
def tXR (p : Term) : Term := .op2 .lrem (tXX p) (tPL p)
def gY (p : Term) : Cond := .le (.int 0) (.old (.op2 .lcmp (tIL p) (tR p)))
def gZ1 (p : Term) : Cond := .lt (.int 0) (.old (.op2 .lcmp (tXX p) (.long 0)))
def gZ2 (p : Term) : Cond := .eq (.old (.op2 .lcmp (tXR p) (.long 0))) (.int 0)
def gE (a b : Term) : Cond := .not (.eq (.old (.op2 .lcmp a b)) (.int 0))
def tE (a b : Term) : STree := .fork (gE a b) (R 0) (R 1)
def tZ (p a : Term) : STree := .fork (gZ1 p) (.fork (gZ2 p) (tE a (tXQ p)) (tE a (.op2 .ladd (tXQ p) (.long 1)))) (tE a (.long 0))
def tr (p : Term) : STree := .fork (gY p) (tZ p (.op2 .ladd (tQ p) (.op1 .i2l (.int 0)))) (tZ p (.op2 .ladd (tQ p) (.op1 .i2l (.int 1))))
def gP : Cond := .not (.eq (.old tP) (.int 0))
def t0 : STree := .fork gP (tr tP) (tr (.int 1))
theorem tree : (w.get w_some).1 = t0 := by decide +kernel
theorem entry_walk : walkTo I code [] 400 true (entry [.long, .int, .int] maxLocals) = some (t0, (w.get w_some).2.1, (w.get w_some).2.2) := by
  rw [← tree]; exact (Option.some_get w_some).symm
theorem sorts_ok {a : Int64} {b c : Int32} {s : State} : ∀ q ∈ Sym.sorts 0 [.long, .int, .int], q.before #[.long a, .int b, .int c] s = true := by
  intro q hq
  simp only [Sym.sorts, List.mem_cons, List.not_mem_nil, or_false] at hq
  rcases hq with rfl | rfl | rfl <;> simp [isK, Cond.before, Cond.holds, Cond.value, Term.eval]

/-! 3. numbers -/
theorem own_int (b p i : Int) (hb : 0 ≤ b) (hp : 0 < p) (hi : 0 ≤ i) (hip : i < p) :
    (i < b % p → 0 < b - i ∧ (b - i) % p ≠ 0 ∧ (b - i) / p = b / p) ∧
    (¬ i < b % p → (b - i ≤ 0 → b / p = 0) ∧ (0 < b - i → ((b - i) % p = 0 → (b - i) / p = b / p) ∧ ((b - i) % p ≠ 0 → (b - i) / p + 1 = b / p))) := by
  have h0 := Int.mul_ediv_add_emod b p
  have h1 := Int.emod_nonneg b (show p ≠ 0 by omega)
  have h2 := Int.emod_lt_of_pos b hp
  have h3 := Int.ediv_nonneg hb (show 0 ≤ p by omega)
  generalize b / p = q at *
  generalize b % p = r at *
  constructor
  · intro h
    have u := (Int.ediv_emod_unique (a := b - i) (r := r - i) (q := q) hp).mpr ⟨by omega, by omega, by omega⟩
    have hq : 0 ≤ p * q := Int.mul_nonneg (by omega) h3
    exact ⟨by omega, by rw [u.2]; omega, u.1⟩
  · intro h
    have key : p * (q - 1) = p * q - p := by rw [Int.mul_sub, Int.mul_one]
    refine ⟨fun hX => ?_, fun hX => ?_⟩
    · by_cases hq : q = 0
      · exact hq
      · have hm : p * 1 ≤ p * q := Int.mul_le_mul_of_nonneg_left (show 1 ≤ q by omega) (show 0 ≤ p by omega)
        rw [Int.mul_one] at hm
        omega
    · by_cases hr : i = r
      · have u := (Int.ediv_emod_unique (a := b - i) (r := 0) (q := q) hp).mpr ⟨by omega, by omega, by omega⟩
        exact ⟨fun _ => u.1, fun hne => absurd u.2 hne⟩
      · have u := (Int.ediv_emod_unique (a := b - i) (r := p - (i - r)) (q := q - 1) hp).mpr ⟨by rw [key]; omega, by omega, by omega⟩
        exact ⟨fun h0 => absurd (u.2.symm.trans h0) (by omega), fun _ => by rw [u.1]; omega⟩
theorem own_zero : (0 : Int64).toInt = 0 := rfl
theorem own_one : (1 : Int64).toInt = 1 := rfl
/-- what the two methods give, over longs -/
theorem own_64 (b p i : Int64) (hb : 0 ≤ b.toInt) (hp : 0 < p.toInt) (hi : 0 ≤ i.toInt) (hip : i.toInt < p.toInt) :
    (i < b - b / p * p → 0 < b - i ∧ ¬ ((b - i) - (b - i) / p * p = 0) ∧ b / p + 1 = (b - i) / p + 1) ∧
    (¬ i < b - b / p * p → (¬ 0 < b - i → b / p + 0 = 0) ∧ (0 < b - i → ((b - i) - (b - i) / p * p = 0 → b / p + 0 = (b - i) / p) ∧ (¬ ((b - i) - (b - i) / p * p = 0) → b / p + 0 = (b - i) / p + 1))) := by
  have hp1 : p ≠ -1 := fun h => by rw [h] at hp; exact absurd hp (by decide)
  have rb := RoadKit.rng64 b
  have rp := RoadKit.rng64 p
  have hs := RoadKit.c_lsub b i
  have rs := RoadKit.rng64 (b - i)
  have hx : (b - i).toInt = b.toInt - i.toInt := by omega
  have d1 := (RoadKit.c_ldiv b p p.toInt rfl hp1).1 hb
  have m1 := (RoadKit.c_lrem b p p.toInt rfl).1 hb
  obtain ⟨k1, k2⟩ := own_int b.toInt p.toInt i.toInt hb hp hi hip
  have a1 := RoadKit.c_ladd (b / p) 1
  have a0 := RoadKit.c_ladd (b / p) 0
  have a2 := RoadKit.c_ladd ((b - i) / p) 1
  have r1 := RoadKit.rng64 (b / p + 1)
  have r0 := RoadKit.rng64 (b / p + 0)
  have r2 := RoadKit.rng64 ((b - i) / p + 1)
  have rq := RoadKit.rng64 (b / p)
  have rx := RoadKit.rng64 ((b - i) / p)
  rw [own_one] at a1 a2
  rw [own_zero] at a0
  have hpos : 0 < (b - i).toInt → ((b - i) / p).toInt = (b.toInt - i.toInt) / p.toInt ∧ ((b - i) - (b - i) / p * p).toInt = (b.toInt - i.toInt) % p.toInt := fun h => by
    have d2 := (RoadKit.c_ldiv (b - i) p p.toInt rfl hp1).1 (by omega)
    have m2 := (RoadKit.c_lrem (b - i) p p.toInt rfl).1 (by omega)
    rw [d2, m2, hx]; exact ⟨rfl, rfl⟩
  simp only [Int64.lt_iff_toInt_lt, ← Int64.toInt_inj, own_zero]
  rw [m1]
  refine ⟨fun h => ?_, fun h => ⟨fun hn => ?_, fun hq => ?_⟩⟩
  · obtain ⟨j1, j2, j3⟩ := k1 h
    obtain ⟨e1, e2⟩ := hpos (by omega)
    exact ⟨by omega, by rw [e2]; exact j2, by omega⟩
  · have j := (k2 h).1 (by omega)
    omega
  · obtain ⟨j1, j2⟩ := (k2 h).2 (by omega)
    obtain ⟨e1, e2⟩ := hpos hq
    rw [e2]
    exact ⟨fun q => by have := j1 q; omega, fun q => by have := j2 q; omega⟩

/-! 4. what the tree returns -/
theorem fork_val {A : Array Value} {s : State} {G : Cond} {a b : STree} {P : Prop} [Decidable P] (h : G.value A s none s [] = some (decide P)) : Kit.valueOf A s (.fork G a b) = if P then Kit.valueOf A s a else Kit.valueOf A s b := by
  simp only [Kit.valueOf, h]
  by_cases hp : P <;> simp [hp]
theorem not_val {A : Array Value} {s : State} {G : Cond} {P : Prop} [Decidable P] (h : G.value A s none s [] = some (decide P)) : (Cond.not G).value A s none s [] = some (decide (¬ P)) := by
  show (G.value A s none s []).map (!·) = _
  rw [h]
  by_cases hp : P <;> simp [hp]
theorem lcmp_of {A : Array Value} {s : State} {a b : Term} {u v : Int64} (ha : a.eval A s none [] s = some (.long u)) (hb : b.eval A s none [] s = some (.long v)) : (Term.old (.op2 .lcmp a b)).eval A s none [] s = some (.int (RoadKit.lcmpV u v)) := RoadKit.op2_f (f := .lcmp) ha hb
theorem e_val {A : Array Value} {s : State} {a b : Term} {u v : Int64} (ha : a.eval A s none [] s = some (.long u)) (hb : b.eval A s none [] s = some (.long v)) (h : u = v) : Kit.valueOf A s (tE a b) = some (.int 1) := by
  have g0 : (Cond.eq (.old (.op2 .lcmp a b)) (.int 0)).value A s none s [] = some (decide (RoadKit.lcmpV u v = 0)) := Cond.eq_ints (lcmp_of ha hb) rfl
  have g : (gE a b).value A s none s [] = some (decide (¬ RoadKit.lcmpV u v = 0)) := not_val g0
  rw [tE, fork_val g, if_neg (not_not_intro ((RoadKit.lc_eq u v).mpr h))]
  rfl
theorem tr_val (a : Int64) (b c : Int32) (s : State) (p : Term) (pv : Int32) (hp : p.eval #[.long a, .int b, .int c] s none [] s = some (.int pv)) (h1 : 0 < pv.toInt) : Kit.valueOf #[.long a, .int b, .int c] s (tr p) = some (.int 1) := by
  have hne : pv ≠ 0 := fun h => by rw [h] at h1; exact absurd h1 (by decide)
  have eB : tB.eval #[.long a, .int b, .int c] s none [] s = some (.long (a &&& 9223372036854775807)) := rfl
  have eC : tC.eval #[.long a, .int b, .int c] s none [] s = some (.int (c &&& 2147483647)) := rfl
  have eI : (tI p).eval #[.long a, .int b, .int c] s none [] s = some (.int ((c &&& 2147483647) % pv)) := RoadKit.rem_f eC hp hne
  have ePL : (tPL p).eval #[.long a, .int b, .int c] s none [] s = some (.long pv.toInt64) := RoadKit.op1_f (f := .i2l) hp
  have eIL : (tIL p).eval #[.long a, .int b, .int c] s none [] s = some (.long ((c &&& 2147483647) % pv).toInt64) := RoadKit.op1_f (f := .i2l) eI
  have mB : (a &&& 9223372036854775807).toInt = a.toInt % 2 ^ 63 := Jvm.Kit.i64_mask a 9223372036854775807 (k := 63) (by decide) (by decide)
  have mC : (c &&& 2147483647).toInt = c.toInt % 2 ^ 31 := Jvm.Kit.i32_mask c 2147483647 (k := 31) (by decide) (by decide)
  have hB : 0 ≤ (a &&& 9223372036854775807).toInt := by rw [mB]; exact Int.emod_nonneg _ (by decide)
  have hC : 0 ≤ (c &&& 2147483647).toInt := by rw [mC]; exact Int.emod_nonneg _ (by decide)
  have vI := (RoadKit.c_iremV (c &&& 2147483647) pv).1 hC h1
  have tP64 : pv.toInt64.toInt = pv.toInt := RoadKit.c_i2l pv
  have tI64 : ((c &&& 2147483647) % pv).toInt64.toInt = ((c &&& 2147483647) % pv).toInt := RoadKit.c_i2l _
  generalize (a &&& 9223372036854775807) = B at *
  generalize ((c &&& 2147483647) % pv) = iv at *
  obtain ⟨k1, k2⟩ := own_64 B pv.toInt64 iv.toInt64 hB (by omega) (by omega) (by omega)
  generalize pv.toInt64 = P at *
  generalize iv.toInt64 = J at *
  have hP0 : ¬ P = 0 := fun h => by rw [h] at tP64; rw [own_zero] at tP64; omega
  have eQ : (tQ p).eval #[.long a, .int b, .int c] s none [] s = some (.long (B / P)) := (RoadKit.op2_f (f := .ldiv) eB ePL).trans (by simp [Binary.apply, hP0])
  have eR : (tR p).eval #[.long a, .int b, .int c] s none [] s = some (.long (B - B / P * P)) := (RoadKit.op2_f (f := .lrem) eB ePL).trans (by simp [Binary.apply, hP0])
  have eX : (tXX p).eval #[.long a, .int b, .int c] s none [] s = some (.long (B - J)) := RoadKit.op2_f (f := .lsub) eB eIL
  have eXQ : (tXQ p).eval #[.long a, .int b, .int c] s none [] s = some (.long ((B - J) / P)) := (RoadKit.op2_f (f := .ldiv) eX ePL).trans (by simp [Binary.apply, hP0])
  have eXR : (tXR p).eval #[.long a, .int b, .int c] s none [] s = some (.long ((B - J) - (B - J) / P * P)) := (RoadKit.op2_f (f := .lrem) eX ePL).trans (by simp [Binary.apply, hP0])
  have eX1 : (Term.op2 .ladd (tXQ p) (.long 1)).eval #[.long a, .int b, .int c] s none [] s = some (.long ((B - J) / P + 1)) := RoadKit.op2_f (f := .ladd) (b := .long 1) (y := .long 1) eXQ rfl
  have eG0 : (Term.op2 .ladd (tQ p) (.op1 .i2l (.int 0))).eval #[.long a, .int b, .int c] s none [] s = some (.long (B / P + 0)) := RoadKit.op2_f (f := .ladd) (b := .op1 .i2l (.int 0)) (y := .long 0) eQ rfl
  have eG1 : (Term.op2 .ladd (tQ p) (.op1 .i2l (.int 1))).eval #[.long a, .int b, .int c] s none [] s = some (.long (B / P + 1)) := RoadKit.op2_f (f := .ladd) (b := .op1 .i2l (.int 1)) (y := .long 1) eQ rfl
  have e0 : (Term.long 0).eval #[.long a, .int b, .int c] s none [] s = some (.long 0) := rfl
  have g1 : (gY p).value #[.long a, .int b, .int c] s none s [] = some (decide (0 ≤ RoadKit.lcmpV J (B - B / P * P))) := Cond.le_ints rfl (lcmp_of eIL eR)
  have g2 : (gZ1 p).value #[.long a, .int b, .int c] s none s [] = some (decide (0 < RoadKit.lcmpV (B - J) 0)) := Cond.lt_ints rfl (lcmp_of eX e0)
  have g3 : (gZ2 p).value #[.long a, .int b, .int c] s none s [] = some (decide (RoadKit.lcmpV ((B - J) - (B - J) / P * P) 0 = 0)) := Cond.eq_ints (lcmp_of eXR e0) rfl
  rw [tr, fork_val g1]
  by_cases q1 : J < B - B / P * P
  · obtain ⟨r1, r2, r3⟩ := k1 q1
    have n1 : ¬ (0 ≤ RoadKit.lcmpV J (B - B / P * P)) := fun h => by
      have := (RoadKit.lc_ge _ _).mp h
      exact absurd q1 (Int64.not_lt.mpr this)
    rw [if_neg n1, tZ, fork_val g2, if_pos ((RoadKit.lc_gt _ _).mpr r1), fork_val g3, if_neg (fun h => r2 ((RoadKit.lc_eq _ _).mp h))]
    exact e_val eG1 eX1 r3
  · obtain ⟨r1, r2⟩ := k2 q1
    have n1 : 0 ≤ RoadKit.lcmpV J (B - B / P * P) := (RoadKit.lc_ge _ _).mpr (Int64.not_lt.mp q1)
    rw [if_pos n1, tZ, fork_val g2]
    by_cases q2 : 0 < B - J
    · rw [if_pos ((RoadKit.lc_gt _ _).mpr q2), fork_val g3]
      by_cases q3 : (B - J) - (B - J) / P * P = 0
      · rw [if_pos ((RoadKit.lc_eq _ _).mpr q3)]
        exact e_val eG0 eXQ ((r2 q2).1 q3)
      · rw [if_neg (fun h => q3 ((RoadKit.lc_eq _ _).mp h))]
        exact e_val eG0 eX1 ((r2 q2).2 q3)
    · rw [if_neg (fun h => q2 ((RoadKit.lc_gt _ _).mp h))]
      exact e_val eG0 e0 (r1 q2)
theorem gp_val (a : Int64) (b c : Int32) (s : State) : gP.value #[.long a, .int b, .int c] s none s [] = some (decide (¬ (b &&& 2147483647) = 0)) := by
  have g0 : (Cond.eq (.old tP) (.int 0)).value #[.long a, .int b, .int c] s none s [] = some (decide ((b &&& 2147483647) = 0)) := Cond.eq_ints rfl rfl
  exact not_val g0
theorem value_eq (a : Int64) (b c : Int32) (s : State) : Kit.valueOf #[.long a, .int b, .int c] s t0 = some (.int 1) := by
  rw [t0, fork_val (gp_val a b c s)]
  by_cases hz : (b &&& 2147483647) = 0
  · rw [if_neg (not_not_intro hz)]
    exact tr_val a b c s (.int 1) 1 rfl (by decide)
  · rw [if_pos hz]
    refine tr_val a b c s tP (b &&& 2147483647) rfl ?_
    have m : (b &&& 2147483647).toInt = b.toInt % 2 ^ 31 := Jvm.Kit.i32_mask b 2147483647 (k := 31) (by decide) (by decide)
    have h0 : 0 ≤ (b &&& 2147483647).toInt := by rw [m]; exact Int.emod_nonneg _ (by decide)
    have hne : (b &&& 2147483647).toInt ≠ 0 := fun h => hz (Int32.toInt_inj.mp h)
    omega

/-! 5. the needs -/
theorem isL {A : Array Value} {s : State} {t : Term} {v : Int64} (h : t.eval A s none [] s = some (.long v)) : (Cond.isLong t).value A s none s [] = some true := by simp [Cond.value, h]
theorem isI {A : Array Value} {s : State} {t : Term} {v : Int32} (h : t.eval A s none [] s = some (.int v)) : (Cond.isInt t).value A s none s [] = some true := by simp [Cond.value, h]
def GtP (p : Term) : List Cond := [.isInt p, .isInt (tI p), .isLong (tPL p), .isLong (tIL p), .isLong (tQ p), .isLong (tR p), .isLong (tXX p), .isLong (tXQ p), .isLong (tXR p), .isLong (.op2 .ladd (tXQ p) (.long 1)), .isLong (.op2 .ladd (tQ p) (.op1 .i2l (.int 0))), .isLong (.op2 .ladd (tQ p) (.op1 .i2l (.int 1))), .isLong (.long 0), .isLong tB]
def GsP (p : Term) : List Cond := [gY p, gZ1 p, gZ2 p]
theorem pays (a : Int64) (b c : Int32) (s : State) (p : Term) (pv : Int32) (hp : p.eval #[.long a, .int b, .int c] s none [] s = some (.int pv)) (hne : pv ≠ 0) :
    (∀ q ∈ GtP p, q.value #[.long a, .int b, .int c] s none s [] = some true) ∧ (∀ G ∈ GsP p, ∃ z, G.value #[.long a, .int b, .int c] s none s [] = some z) := by
  have eB : tB.eval #[.long a, .int b, .int c] s none [] s = some (.long (a &&& 9223372036854775807)) := rfl
  have eC : tC.eval #[.long a, .int b, .int c] s none [] s = some (.int (c &&& 2147483647)) := rfl
  have eI : (tI p).eval #[.long a, .int b, .int c] s none [] s = some (.int ((c &&& 2147483647) % pv)) := RoadKit.rem_f eC hp hne
  have ePL : (tPL p).eval #[.long a, .int b, .int c] s none [] s = some (.long pv.toInt64) := RoadKit.op1_f (f := .i2l) hp
  have eIL : (tIL p).eval #[.long a, .int b, .int c] s none [] s = some (.long ((c &&& 2147483647) % pv).toInt64) := RoadKit.op1_f (f := .i2l) eI
  have hP0 : ¬ pv.toInt64 = 0 := fun h => hne (Int32.toInt_inj.mp (by rw [← RoadKit.c_i2l pv, h]; rfl))
  generalize (a &&& 9223372036854775807) = B at *
  generalize ((c &&& 2147483647) % pv) = iv at *
  generalize pv.toInt64 = P at *
  generalize iv.toInt64 = J at *
  have eQ : (tQ p).eval #[.long a, .int b, .int c] s none [] s = some (.long (B / P)) := (RoadKit.op2_f (f := .ldiv) eB ePL).trans (by simp [Binary.apply, hP0])
  have eR : (tR p).eval #[.long a, .int b, .int c] s none [] s = some (.long (B - B / P * P)) := (RoadKit.op2_f (f := .lrem) eB ePL).trans (by simp [Binary.apply, hP0])
  have eX : (tXX p).eval #[.long a, .int b, .int c] s none [] s = some (.long (B - J)) := RoadKit.op2_f (f := .lsub) eB eIL
  have eXQ : (tXQ p).eval #[.long a, .int b, .int c] s none [] s = some (.long ((B - J) / P)) := (RoadKit.op2_f (f := .ldiv) eX ePL).trans (by simp [Binary.apply, hP0])
  have eXR : (tXR p).eval #[.long a, .int b, .int c] s none [] s = some (.long ((B - J) - (B - J) / P * P)) := (RoadKit.op2_f (f := .lrem) eX ePL).trans (by simp [Binary.apply, hP0])
  have eX1 : (Term.op2 .ladd (tXQ p) (.long 1)).eval #[.long a, .int b, .int c] s none [] s = some (.long ((B - J) / P + 1)) := RoadKit.op2_f (f := .ladd) (b := .long 1) (y := .long 1) eXQ rfl
  have eG0 : (Term.op2 .ladd (tQ p) (.op1 .i2l (.int 0))).eval #[.long a, .int b, .int c] s none [] s = some (.long (B / P + 0)) := RoadKit.op2_f (f := .ladd) (b := .op1 .i2l (.int 0)) (y := .long 0) eQ rfl
  have eG1 : (Term.op2 .ladd (tQ p) (.op1 .i2l (.int 1))).eval #[.long a, .int b, .int c] s none [] s = some (.long (B / P + 1)) := RoadKit.op2_f (f := .ladd) (b := .op1 .i2l (.int 1)) (y := .long 1) eQ rfl
  have e0 : (Term.long 0).eval #[.long a, .int b, .int c] s none [] s = some (.long 0) := rfl
  constructor
  · intro q hq
    simp only [GtP, List.mem_cons, List.not_mem_nil, or_false] at hq
    rcases hq with rfl | rfl | rfl | rfl | rfl | rfl | rfl | rfl | rfl | rfl | rfl | rfl | rfl | rfl
    · exact isI hp
    · exact isI eI
    · exact isL ePL
    · exact isL eIL
    · exact isL eQ
    · exact isL eR
    · exact isL eX
    · exact isL eXQ
    · exact isL eXR
    · exact isL eX1
    · exact isL eG0
    · exact isL eG1
    · exact isL e0
    · exact isL eB
  · intro G hG
    simp only [GsP, List.mem_cons, List.not_mem_nil, or_false] at hG
    rcases hG with rfl | rfl | rfl
    · exact ⟨_, Cond.le_ints rfl (lcmp_of eIL eR)⟩
    · exact ⟨_, Cond.lt_ints rfl (lcmp_of eX e0)⟩
    · exact ⟨_, Cond.eq_ints (lcmp_of eXR e0) rfl⟩

/-! 6. the contract, the limbs -/
def post_1 : Cond := .and limb_1_1 limb_1_2
theorem met_1 (l : Launch) : MeetsLoose l x (armSpec x code maxLocals ret tables_1 room_1 .tt (.and given_1 narrow_1) post_1 frame_1_writes frame_1_arrays frame_1_statics) := by
  refine loops_meets (I := I) (ks0 := [.long, .int, .int]) (cuts := []) (by decide) rfl rfl rfl rfl rfl (fun args s h => ?_) entry_walk (fun _ => none) (fun _ _ _ _ _ => False) (fun _ _ _ => 0) (fun args s h => ?_) (fun args s _ h ks hks => by cases hks) (callsOk l)
  · simp only [armSpec, allAtoms, List.foldr_cons, Cond.before_and, Bool.and_eq_true] at h; exact h.1.1
  · have hts : (allAtoms (Cond.code x code maxLocals ret :: tables_1)).before args s = true := by simp only [armSpec, Cond.before_and, Bool.and_eq_true] at h; exact h.1
    have hK : (Cond.and .tt (.and given_1 narrow_1)).before args s = true := by simp only [armSpec, Cond.before_and, Bool.and_eq_true] at h ⊢; exact h.2
    simp only [armSpec, given_1, Cond.before_and, Bool.and_eq_true] at h
    obtain ⟨-, -, ⟨hc, h0, h1, h2⟩, hn⟩ := h
    obtain ⟨a, ea⟩ := Cond.isLong_spec h0
    obtain ⟨b, eb⟩ := Cond.isInt_spec h1
    obtain ⟨c, ec⟩ := Cond.isInt_spec h2
    obtain rfl : args = #[.long a, .int b, .int c] := by
      have hs : args.size = 3 := by simpa [Cond.before, Cond.holds, Cond.value] using hc
      obtain ⟨L⟩ := args
      match L, hs with
      | [u, v, w], _ =>
        cases (show some u = some (.long a) from ea)
        cases (show some v = some (.int b) from eb)
        cases (show some w = some (.int c) from ec)
        rfl
    have hneeds : ∀ q ∈ (w.get w_some).2.2, q.before #[.long a, .int b, .int c] s = true := by
      by_cases hz : (b &&& 2147483647) = 0
      · obtain ⟨k1, k2⟩ := pays a b c s (.int 1) 1 rfl (by decide)
        have hT := known3 (Gt := GtP (.int 1)) hts hK k1
        have hF : ∀ q ∈ [gP], q.value #[.long a, .int b, .int c] s none s [] = some false := fun q hq => by
          cases List.mem_singleton.mp hq
          rw [gp_val, hz]; rfl
        exact needs_of_ways (Gs := GsP (.int 1)) hT hF k2 (by decide +kernel)
      · obtain ⟨k1, k2⟩ := pays a b c s tP (b &&& 2147483647) rfl hz
        have hT := known3 (Gt := gP :: GtP tP) hts hK (fun q hq => by
          rcases List.mem_cons.mp hq with rfl | hq
          · rw [gp_val]; simp [hz]
          · exact k1 q hq)
        have hF : ∀ q ∈ ([] : List Cond), q.value #[.long a, .int b, .int c] s none s [] = some false := fun q hq => by cases hq
        exact needs_of_ways (Gs := GsP tP) hT hF k2 (by decide +kernel)
    refine ⟨rfl, sorts_ok, tabs_of_sub hts (by decide +kernel), hneeds, Kit.vc_of_value (w₀ := .int 1) (fun E => ?_) t0 (by decide +kernel) (value_eq a b c s)⟩
    simp [armSpec, post_1, limb_1_1, limb_1_2, Cond.after, Cond.holds, Cond.value, Term.eval]
theorem wide {limb : Cond} (h0 : ∀ args s o t, post_1.after args s o t = true → limb.after args s o t = true) :
    ArmFor flags0 classFile x code maxLocals ret World_1 tables_1 room_1 Calls_1 rest_1 Pre_1 (fun tb e a s o t => postC limb tb e a s o t ∧ Framed s o t (fieldLocs frame_1_writes a s ++ arrayLocs frame_1_arrays a s ++ staticLocs frame_1_statics s) 0 0) := by
  intro l hfl hL hW p e ha hc hk s m args below hf hA hF happ hP
  obtain ⟨n, o, h1, h2, h3, hq⟩ := armFor_of_meets0 (fun l => (met_1 l).meets) h0 l hfl hL hW p e ha hc hk s m args below hf hA hF happ hP
  exact ⟨n, o, h1, h2, h3, hq.1, hq.2.1, hq.2.2.1, hq.2.2.2.mono (by decide) (by decide)⟩
theorem main_1_1 : Claimed_1_1 := wide fun _ _ _ _ h => by simp only [post_1, Cond.after_and, Bool.and_eq_true] at h; exact h.1
theorem main_1_2 : Claimed_1_2 := wide fun _ _ _ _ h => by simp only [post_1, Cond.after_and, Bool.and_eq_true] at h; exact h.2
end Jvm.Pilot.@@N@@
namespace Jvm.Pilot.@@N@@
open Jvm Jvm.ClassFile Sem Op Lib Jvm.Free Jvm.Stand Jvm.Pilot.@@N@@.Jvm.D
/-! MADE BY PROGRAM (witnessworld.py) out of the Statement's table words and the real class files: 9 classes; the members and pool entries that the words name. The judged class is class 1, her method 2. -/
namespace start1
open Jvm.ClassFile
def u (s : String) : CpInfo := .utf8 (stringToUtf16 s)
/-- a pool by its gaps: so many unusable entries, then the entry; so many at the end -/
def gap : Nat → List CpInfo → List CpInfo
  | 0, r => r
  | n + 1, r => .unusable :: gap n r
def poolList (es : List (Nat × CpInfo)) (last : Nat) : List CpInfo := es.foldr (fun e r => gap e.1 (e.2 :: r)) (gap last [])
def pool (es : List (Nat × CpInfo)) (last : Nat) : Array CpInfo := ⟨poolList es last⟩
def fileOf (pool : Array CpInfo) (this : Nat) (attrs : Array Attribute := #[]) (ms : Array MethodInfo := #[]) (fl : Nat := 33) (sup : Nat := 0) (ifs : Array Nat := #[]) (fds : Array FieldInfo := #[]) : ClassFile where
  minorVersion := 0
  majorVersion := 65
  constantPool := pool
  accessFlags := fl
  thisClass := this
  superClass := sup
  interfaces := ifs
  fields := fds
  methods := ms
  attributes := attrs
def plain (name : String) (sup : Option ClassId) : Class where
  name := name
  kind := .ordinary
  loader := none
  accessFlags := 33
  super := sup
  interfaces := #[]
  cf := none
  fields := #[]
  methods := #[]
  instanceTypes := #[]
  staticTypes := #[]
  resolved := #[]
  callSites := []
  init := .initialized
  statics := none
  mirror := none

def pool0 : Array CpInfo := pool [(5, u "<init>"), (0, u "()V"), (1, .class_ 10), (1, u "java/lang/Object")] 113

def k0m0 : Method := { name := "<init>", desc := "()V", sig := { parameters := [], returnType := none }, accessFlags := 1, code := none }
/-- java/lang/Object -/
def k0 : Class := { plain "java/lang/Object" none with
  accessFlags := 33
  interfaces := #[]
  cf := some (fileOf pool0 8 #[] #[{ accessFlags := 1, nameIndex := 5, descriptorIndex := 6, attributes := #[] }] 33 0 #[] #[])
  fields := #[]
  methods := #[k0m0]
  instanceTypes := #[]
  staticTypes := #[]
  resolved := Array.replicate 124 none
  statics := none }

def pool1 : Array CpInfo := pool [(2, .class_ 4), (1, u "java/lang/Object"), (0, u "<init>"), (0, u "()V"), (2, .long 9223372036854775807), (1, .integer 2147483647), (0, .methodref 13 14), (0, .class_ 15), (0, .nameAndType 16 17), (0, u "com/example/berth/berth/join/JoinPlan"), (0, u "partitionBlocks"), (0, u "(JII)J"), (0, .methodref 19 20), (0, .class_ 21), (0, .nameAndType 22 23), (0, u "com/example/berth/berth/join/JoinPlanPartitionBlocksPinLaw"), (0, u "expected"), (0, u "(JJJ)J"), (3, u "law"), (0, u "(JII)Z")] 2

def k1m0 : Method := { name := "<init>", desc := "()V", sig := { parameters := [], returnType := none }, accessFlags := 2, code := none }
def k1c1 : Code := { maxStack := 4, maxLocals := 10, code := method_2_code, exceptionTable := #[], attributes := #[] }
def k1m1 : Method := { name := "expected", desc := "(JJJ)J", sig := { parameters := [.long, .long, .long], returnType := some .long }, accessFlags := 10, code := some k1c1 }
def k1c2 : Code := { maxStack := 8, maxLocals := 10, code := code, exceptionTable := #[], attributes := #[] }
def k1m2 : Method := { name := "law", desc := "(JII)Z", sig := { parameters := [.long, .int, .int], returnType := some .boolean }, accessFlags := 9, code := some k1c2 }
/-- com/example/berth/berth/join/JoinPlanPartitionBlocksPinLaw -/
def k1 : Class := { plain "com/example/berth/berth/join/JoinPlanPartitionBlocksPinLaw" (some 0) with
  accessFlags := 49
  interfaces := #[]
  cf := some (fileOf pool1 19 #[] #[{ accessFlags := 2, nameIndex := 5, descriptorIndex := 6, attributes := #[] }, { accessFlags := 10, nameIndex := 22, descriptorIndex := 23, attributes := #[] }, { accessFlags := 9, nameIndex := 27, descriptorIndex := 28, attributes := #[] }] 49 2 #[] #[])
  fields := #[]
  methods := #[k1m0, k1m1, k1m2]
  instanceTypes := #[]
  staticTypes := #[]
  resolved := Array.replicate 31 none
  statics := none }

def pool2 : Array CpInfo := pool [(2, .class_ 4), (1, u "java/lang/Object"), (0, u "<init>"), (0, u "()V"), (0, .class_ 8), (0, u "com/example/berth/berth/join/JoinPlan"), (33, .class_ 43), (0, u "com/example/berth/berth/join/JoinPlan$Partitioning"), (14, u "MIN_GRANT"), (0, u "J"), (1, u "STREAM_BLOCKS"), (5, u "partitionBlocks"), (0, u "(JII)J")] 21

def k2m0 : Method := { name := "<init>", desc := "()V", sig := { parameters := [], returnType := none }, accessFlags := 2, code := none }
def k2c1 : Code := { maxStack := 8, maxLocals := 4, code := prog_59_method_5_code, exceptionTable := #[], attributes := #[] }
def k2m1 : Method := { name := "partitionBlocks", desc := "(JII)J", sig := { parameters := [.long, .int, .int], returnType := some .long }, accessFlags := 9, code := some k2c1 }
/-- com/example/berth/berth/join/JoinPlan -/
def k2 : Class := { plain "com/example/berth/berth/join/JoinPlan" (some 0) with
  accessFlags := 49
  interfaces := #[]
  cf := some (fileOf pool2 7 #[.nestMembers #[42]] #[{ accessFlags := 2, nameIndex := 5, descriptorIndex := 6, attributes := #[] }, { accessFlags := 9, nameIndex := 67, descriptorIndex := 68, attributes := #[] }] 49 2 #[] #[{ accessFlags := 25, nameIndex := 58, descriptorIndex := 59, attributes := #[] }, { accessFlags := 25, nameIndex := 61, descriptorIndex := 59, attributes := #[] }])
  fields := #[{ name := "MIN_GRANT", type := .long, accessFlags := 25, slot := 0, constantValue := 0 }, { name := "STREAM_BLOCKS", type := .long, accessFlags := 25, slot := 1, constantValue := 0 }]
  methods := #[k2m0, k2m1]
  instanceTypes := #[]
  staticTypes := #[.long, .long]
  resolved := Array.replicate 90 none
  statics := none }

def pool3 : Array CpInfo := pool [(1, u "java/lang/Cloneable"), (0, .class_ 1), (0, u "java/lang/Object"), (0, .class_ 3)] 3

/-- java/lang/Cloneable -/
def k3 : Class := { plain "java/lang/Cloneable" (some 0) with
  accessFlags := 1537
  interfaces := #[]
  cf := some (fileOf pool3 2 #[] #[] 1537 4 #[] #[])
  fields := #[]
  methods := #[]
  instanceTypes := #[]
  staticTypes := #[]
  resolved := Array.replicate 8 none
  statics := none }

def pool4 : Array CpInfo := pool [(1, u "java/io/Serializable"), (0, .class_ 1), (0, u "java/lang/Object"), (0, .class_ 3)] 3

/-- java/io/Serializable -/
def k4 : Class := { plain "java/io/Serializable" (some 0) with
  accessFlags := 1537
  interfaces := #[]
  cf := some (fileOf pool4 2 #[] #[] 1537 4 #[] #[])
  fields := #[]
  methods := #[]
  instanceTypes := #[]
  staticTypes := #[]
  resolved := Array.replicate 8 none
  statics := none }

/-- the primitive byte -/
def k5 : Class := { plain "byte" none with kind := .primitive 'B', accessFlags := 0x411 }
/-- [B -/
def k6 : Class := { plain "[B" (some 0) with kind := .array 5 .byte, interfaces := #[3, 4], accessFlags := 1041 }

/-- the primitive int -/
def k7 : Class := { plain "int" none with kind := .primitive 'I', accessFlags := 0x411 }
/-- [I -/
def k8 : Class := { plain "[I" (some 0) with kind := .array 7 .int, interfaces := #[3, 4], accessFlags := 1041 }

def heap : Heap := #[]
def classes : Array Class := #[k0, k1, k2, k3, k4, k5, k6, k7, k8]
def interned : List (Array UInt16 × Addr) := []
def slotsUsed : Nat := 0
def theMethod : MethodId := ⟨1, 2⟩
def args0 : Array Value := #[.long 5, .int 3, .int 1]
def aboutOver (below : List Frame) : State where
  vm := { classes := classes, interned := interned.toArray }
  heap := heap
  slotsUsed := slotsUsed
  threads := #[{ frames := .invoking theMethod args0 :: below }]
def below0 : List Frame := [.native { method := ⟨0, 0⟩, args := #[] }]
def about1 : State := aboutOver below0
def p0 : Program := .bare "" "" ""
def e0 : Env := launch0.env 0 0 0
theorem w_frames : about1.frames = Frame.invoking theMethod args0 :: below0 := rfl
set_option maxRecDepth 65536 in
theorem w_args : argsFit about1.vm theMethod args0 = true := by decide +kernel
set_option maxRecDepth 65536 in
theorem w_heap : heapFits about1 = true := by decide +kernel
set_option maxRecDepth 65536 in
theorem w_runnable : about1.curStatus? = some .runnable := by decide +kernel
set_option maxRecDepth 65536 in
theorem w_alone : about1.alone = true := by decide +kernel
set_option maxRecDepth 65536 in
theorem w_named : about1.methodNamed? x = some theMethod := by decide +kernel
set_option maxRecDepth 65536 in
theorem w_hears : about1.hears theMethod below0 = true := by decide +kernel
set_option maxRecDepth 65536 in
theorem w_ripe : about1.ripe theMethod args0 below0 = true := by decide +kernel
theorem w_running : about1.status = .running := rfl
set_option maxRecDepth 65536 in
theorem w_room : about1.hasRoom e0.platform room_1 = true :=
  launch0.hasRoom_least _ room_1 (by decide +kernel) (by decide +kernel) (by decide +kernel) (by decide +kernel) (by decide +kernel) (by decide +kernel)
theorem allAtoms_all (ts : List Jvm.Cond) (a : Array Jvm.Value) (st : Jvm.State) : (allAtoms ts).before a st = ts.all (fun c => c.before a st) := by
  induction ts with
  | nil => rfl
  | cons c t ih =>
    show (Jvm.Cond.and c (allAtoms t)).before a st = _
    rw [Jvm.Cond.before_and, ih, List.all_cons]
def words1 : List Jvm.Cond := Jvm.Cond.code x code maxLocals ret :: tables_1
/-- a 'code' word, met by the world's own term for the bytes: nothing is compared byte by byte -/
theorem code_word {y : MethodName} {bytes : ByteArray} {mx : Nat} {rt : Option FieldType} {a : Array Value} {s : State} {m : MethodId} {meth : Method} {c : Code} (h1 : s.methodNamed? y = some m) (h2 : s.vm.method? m = some meth) (h3 : meth.code = some c) (h4 : c.code = bytes)
    (h5 : (c.maxLocals == mx && c.exceptionTable.isEmpty && decide (c.maxStack ≤ mostOperands) && decide (meth.sig.returnType = rt) && !meth.locks && decide (parseMethodDescriptor y.desc = some meth.sig)) = true) : (Jvm.Cond.code y bytes mx rt).before a s = true := by
  simp only [Bool.and_eq_true, beq_iff_eq, Bool.not_eq_true', decide_eq_true_eq] at h5
  obtain ⟨⟨⟨⟨⟨g1, g2⟩, g3⟩, g4⟩, g5⟩, g6⟩ := h5
  simp [Cond.before, Cond.holds, Cond.value, h1, h2, h3, h4, g1, g2, g3, g4, g5, g6]
def isCode : Jvm.Cond → Bool
  | .code _ _ _ _ => true
  | _ => false
theorem all_split {L : List Jvm.Cond} {P : Jvm.Cond → Bool} (h1 : L.all (fun c => isCode c || P c) = true) (h2 : ∀ c ∈ L.filter isCode, P c = true) : L.all P = true := by
  refine List.all_eq_true.mpr fun c hc => ?_
  have h := List.all_eq_true.mp h1 c hc
  rcases Bool.eq_false_or_eq_true (isCode c) with hi | hi
  · exact h2 c (List.mem_filter.mpr ⟨hc, hi⟩)
  · simpa [hi] using h
set_option maxRecDepth 65536 in
theorem w_c0 : (Jvm.Cond.code x code maxLocals ret).before args0 about1 = true := code_word (m := ⟨1, 2⟩) (meth := k1m2) (c := k1c2) (by decide +kernel) rfl rfl rfl (by decide +kernel)
set_option maxRecDepth 65536 in
theorem w_c1 : (Jvm.Cond.code ({ cls := "com/example/berth/berth/join/JoinPlan", name := "partitionBlocks", desc := "(JII)J" } : Jvm.MethodName) prog_59_method_5_code (4 : Nat) (Option.some Jvm.ClassFile.FieldType.long)).before args0 about1 = true := code_word (m := ⟨2, 1⟩) (meth := k2m1) (c := k2c1) (by decide +kernel) rfl rfl rfl (by decide +kernel)
set_option maxRecDepth 65536 in
theorem w_c2 : (Jvm.Cond.code ({ cls := "com/example/berth/berth/join/JoinPlanPartitionBlocksPinLaw", name := "expected", desc := "(JJJ)J" } : Jvm.MethodName) method_2_code (10 : Nat) (Option.some Jvm.ClassFile.FieldType.long)).before args0 about1 = true := code_word (m := ⟨1, 1⟩) (meth := k1m1) (c := k1c1) (by decide +kernel) rfl rfl rfl (by decide +kernel)
def codes1 : List Jvm.Cond := [Jvm.Cond.code x code maxLocals ret, Jvm.Cond.code ({ cls := "com/example/berth/berth/join/JoinPlan", name := "partitionBlocks", desc := "(JII)J" } : Jvm.MethodName) prog_59_method_5_code (4 : Nat) (Option.some Jvm.ClassFile.FieldType.long), Jvm.Cond.code ({ cls := "com/example/berth/berth/join/JoinPlanPartitionBlocksPinLaw", name := "expected", desc := "(JJJ)J" } : Jvm.MethodName) method_2_code (10 : Nat) (Option.some Jvm.ClassFile.FieldType.long)]
set_option maxRecDepth 65536 in
theorem codes_eq : words1.filter isCode = codes1 := rfl
theorem w_codes : ∀ c ∈ words1.filter isCode, c.before args0 about1 = true := by
  rw [codes_eq]
  intro c hc
  simp only [codes1, List.mem_cons, List.not_mem_nil, or_false] at hc
  rcases hc with rfl | rfl | rfl
  · exact w_c0
  · exact w_c1
  · exact w_c2
set_option maxRecDepth 65536 in
theorem w_t1 : words1.all (fun c => isCode c || c.before args0 about1) = true := by decide +kernel
theorem w_tables : (allAtoms (Jvm.Cond.code x code maxLocals ret :: tables_1)).before args0 about1 = true := by
  rw [allAtoms_all]
  show words1.all (fun c => c.before args0 about1) = true
  refine all_split ?_ w_codes
  rw [w_t1]
set_option maxRecDepth 65536 in
theorem w_case : (Jvm.Cond.and given_1 narrow_1).before args0 about1 = true := by decide +kernel
theorem w_applies : (headSpec (Jvm.Cond.code x code maxLocals ret :: tables_1) room_1).applies x e0.platform about1 = true :=
  (Spec.applies_iff w_frames).mpr ⟨w_running, w_runnable, w_alone, w_named, w_hears, w_ripe, w_room, w_tables⟩
theorem atStart : AtStart classFile x code maxLocals ret World_1 tables_1 room_1 Calls_1 rest_1 Pre_1 launch0 p0 e0 about1 theMethod args0 below0 :=
  ⟨lists_1, trivial, launch0.admits_env _ _ _, launch0.least_env, fairChoices_fair.cas, fairChoices_fair.clock, w_frames, w_args, w_heap, w_applies, trivial, trivial, w_case⟩
end start1
theorem witness_1 : WitnessClaimed_1 := ⟨start1.p0, start1.e0, start1.about1, start1.theMethod, start1.args0, start1.below0, start1.atStart⟩
end Jvm.Pilot.@@N@@

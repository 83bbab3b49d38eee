import JvmDerived
import JvmDerived.Pilot.@@N@@Statement
import JvmDerived.Pilot.@@N@@Code
set_option linter.unusedVariables false
set_option linter.unusedSimpArgs false
namespace Jvm.RoadKit
open Sem ClassFile Op Lib Jvm.Stand Jvm.Free Jvm.LawKit
section New
variable {p : Program} {l : Launch} {e : Env} {R : Room} {s : State} {m : MethodId} {args : Array Value} {below : List Frame} {meth : Method} {c : Code} {T : State} {locs : List Loc} {cells slots : Nat}
theorem retI (X : Stand p l e R s m args below meth c T locs cells slots) (hx : p.tables.exec = Jvm.exec) {pc : Nat} {Ls : Array Slot} {z : Int32} {rest : List Value} (hret : meth.sig.returnType = some .int) (hd : decode c.code pc = .ok (.ireturn, 1)) {fs : List Frame}
    (hl : ∀ (f : JFrame) (acts : List Action), f.method = m → f.locked = none → f.entered = [] → (doReturn e (T.setTop f) acts (some (.int z))).1 = T.setFrames fs) : Steps p.tables e below (T.setTop (mkF m pc Ls (.int z :: rest))) (T.setFrames fs) := by
  have hm' : T.vm.method? m = some meth := X.method'
  have hn : narrow .int (.int z) = .int z := rfl
  show Steps p.tables e below (T.setTop { method := m, pc := pc, locals := Ls, stack := _ :: rest, locked := none }) _
  jvm_step X.here [X.here.top, hx, hd, hm', hret, hn]
  first | (intro acts; rw [hl _ acts rfl rfl rfl]) | rw [hl _ _ rfl rfl rfl]
  exact Steps.refl _
end New
end Jvm.RoadKit
namespace Jvm.Pilot.@@N@@
open Jvm Jvm.ClassFile Sem Op Lib Jvm.Free Jvm.Stand Jvm.LawKit Jvm.RoadKit Bundle Jvm.Pilot.@@N@@.Jvm.D
def bA (q1 : Int64) (p2 : Int32) : Int32 := ((((q1.toUInt64 >>> (((8 : Int32) * p2) &&& 0x3f).toInt64.toUInt64).toInt64).toInt32).toInt8.toInt32)
def vs8 (q : Int64) : List Value := [.int (nar .byte (bA q 0)), .int (nar .byte (bA q 1)), .int (nar .byte (bA q 2)), .int (nar .byte (bA q 3)), .int (nar .byte (bA q 4)), .int (nar .byte (bA q 5)), .int (nar .byte (bA q 6)), .int (nar .byte (bA q 7))]
def cut (vs : List Value) (s e : Int32) : List Value := (List.range (e - s).toNatClampNeg).map fun i => vs.getD (s.toNatClampNeg + i) (.int (0 : Int32))
theorem own_nar (x : Int32) : nar .byte (x.toInt8.toInt32) = x.toInt8.toInt32 := by
  apply Int32.toInt_inj.mp
  show (x.toInt8.toInt32).toInt8.toInt32.toInt = _
  have h1 := c_i2b (x.toInt8.toInt32)
  have h2 := c_i2b x
  omega
theorem own_narA (q : Int64) (k : Int32) : nar .byte (bA q k) = bA q k := own_nar _
theorem own_vs (q : Int64) (k : Nat) (h : k < 8) : (vs8 q).getD k (.int (0 : Int32)) = .int (bA q (Int32.ofNat k)) := by
  simp only [vs8, own_narA]
  match k, h with
  | 0, _ => rfl
  | 1, _ => rfl
  | 2, _ => rfl
  | 3, _ => rfl
  | 4, _ => rfl
  | 5, _ => rfl
  | 6, _ => rfl
  | 7, _ => rfl
theorem own_zero : (0 : Int32).toInt = 0 := rfl
theorem own_eight : (8 : Int32).toInt = 8 := rfl
theorem own_nat {x : Int32} (h : 0 ≤ x.toInt) : x.toInt = (x.toNatClampNeg : Int) := by
  simp only [Int32.toNatClampNeg]; omega
theorem own_sub {s e : Int32} (h0 : 0 ≤ s.toInt) (h1 : s.toInt ≤ e.toInt) (h2 : e.toInt ≤ 8) : (e - s).toInt = e.toInt - s.toInt := by
  have q := c_isub e s
  have r := rng32 (e - s)
  omega
theorem own_ofNat {k : Nat} (h : k < 8) : (Int32.ofNat k).toInt = k := Int32.toInt_ofNat_small (by omega)
theorem own_src (q : Int64) (s : Int32) (h0 : 0 ≤ s.toInt) (h8 : s.toInt < 8) : (vs8 q).getD s.toNatClampNeg (.int (0 : Int32)) = .int (bA q s) := by
  have e := own_nat h0
  have k : s.toNatClampNeg < 8 := by omega
  rw [own_vs q _ k]
  have : Int32.ofNat s.toNatClampNeg = s := Int32.toInt_inj.mp (by rw [own_ofNat k]; omega)
  rw [this]
theorem own_cut (vs : List Value) (s e : Int32) (k : Nat) (h : k < (e - s).toNatClampNeg) : (cut vs s e).getD k (.int (0 : Int32)) = vs.getD (s.toNatClampNeg + k) (.int (0 : Int32)) := by
  simp [cut, List.getD_eq_getElem?_getD, h]
theorem own_at (q : Int64) (s e i : Int32) (h0 : 0 ≤ s.toInt) (h1 : s.toInt ≤ e.toInt) (h2 : e.toInt ≤ 8) (hi0 : ¬ i < 0) (hi : i < e - s) : (cut (vs8 q) s e).getD i.toNatClampNeg (.int (0 : Int32)) = .int (bA q (s + i)) := by
  have d := own_sub h0 h1 h2
  rw [Int32.lt_iff_toInt_lt] at hi hi0
  rw [own_zero] at hi0
  have a1 := own_nat h0
  have a2 : i.toInt = (i.toNatClampNeg : Int) := own_nat (by omega)
  have a3 : (e - s).toInt = ((e - s).toNatClampNeg : Int) := own_nat (by omega)
  have k : s.toNatClampNeg + i.toNatClampNeg < 8 := by omega
  rw [own_cut _ _ _ _ (by omega), own_vs q _ k]
  have q1 := c_iadd s i
  have q2 := rng32 (s + i)
  have : Int32.ofNat (s.toNatClampNeg + i.toNatClampNeg) = s + i := Int32.toInt_inj.mp (by rw [own_ofNat k]; omega)
  rw [this]
theorem own_at0 (q : Int64) (s e : Int32) (h0 : 0 ≤ s.toInt) (h1 : s.toInt ≤ e.toInt) (h2 : e.toInt ≤ 8) (hi : (0 : Int32) < e - s) : (cut (vs8 q) s e).getD ((0 : Int32)).toNatClampNeg (.int (0 : Int32)) = .int (bA q s) := by
  have h := own_at q s e 0 h0 h1 h2 (by decide) hi
  rw [Int32.add_zero] at h
  exact h
theorem own_start (x : Int32) : 0 ≤ ((x &&& (2147483647 : Int32)) % (9 : Int32)).toInt ∧ ((x &&& (2147483647 : Int32)) % (9 : Int32)).toInt ≤ 8 := by
  have h := c_mask x 2147483647 31 (by decide) (by decide)
  have h9 : (9 : Int32).toInt = 9 := rfl
  have r := (c_irem (x &&& (2147483647 : Int32)) 9 9 h9).1 (by rw [h]; exact Int.emod_nonneg _ (by decide))
  rw [r]
  omega
theorem own_end (x y : Int32) (h0 : 0 ≤ x.toInt) (h8 : x.toInt ≤ 8) : ¬ (((9 : Int32) - x) = (0 : Int32)) ∧ x.toInt ≤ (x + ((y &&& (2147483647 : Int32)) % ((9 : Int32) - x))).toInt ∧ (x + ((y &&& (2147483647 : Int32)) % ((9 : Int32) - x))).toInt ≤ 8 := by
  have h9 : (9 : Int32).toInt = 9 := rfl
  have q := c_isub 9 x
  have r := rng32 ((9 : Int32) - x)
  have d : ((9 : Int32) - x).toInt = 9 - x.toInt := by omega
  have h := c_mask y 2147483647 31 (by decide) (by decide)
  have hm : 0 ≤ (y &&& (2147483647 : Int32)).toInt := by rw [h]; exact Int.emod_nonneg _ (by decide)
  have v := (c_iremV (y &&& (2147483647 : Int32)) ((9 : Int32) - x)).1 hm (by omega)
  have q2 := c_iadd x ((y &&& (2147483647 : Int32)) % ((9 : Int32) - x))
  have r2 := rng32 (x + ((y &&& (2147483647 : Int32)) % ((9 : Int32) - x)))
  refine ⟨fun e => ?_, ?_, ?_⟩
  · have : ((9 : Int32) - x).toInt = (0 : Int32).toInt := by rw [e]
    rw [own_zero] at this; omega
  · omega
  · omega
theorem d1_0 : decode method_3_code 0 = .ok (.lload_n 0, 1) := by decide +kernel
theorem d1_1 : decode method_3_code 1 = .ok (.bipush 8, 2) := by decide +kernel
theorem d1_3 : decode method_3_code 3 = .ok (.iload_n 2, 1) := by decide +kernel
theorem d1_4 : decode method_3_code 4 = .ok (.imul, 1) := by decide +kernel
theorem d1_5 : decode method_3_code 5 = .ok (.lushr, 1) := by decide +kernel
theorem d1_6 : decode method_3_code 6 = .ok (.l2i, 1) := by decide +kernel
theorem d1_7 : decode method_3_code 7 = .ok (.i2b, 1) := by decide +kernel
theorem d1_8 : decode method_3_code 8 = .ok (.ireturn, 1) := by decide +kernel
theorem pn_1 : plainName "com/example/ticketbridge/ticketbridge/io/DerContentPinLaw" = true := by first | (simp [plainName, overriddenIn]; done) | decide +kernel
theorem ef_1 (m : MethodId) (x0 : Int64) (x1 : Int32) : entryFrame m #[(.long x0), (.int x1)] 3 = mkF m 0 #[.val (.long x0), .second, .val (.int x1)] [] := by first | (simp [entryFrame, mkF, argsToLocals, Value.category]; done) | rfl
def Q1 (Z : State) (q1 : Int64) (p2 : Int32) (h0 : Heap) (n0 : Nat) (v : Option Value) (h : Heap) (L : List Loc) : Prop := v = some (.int (bA q1 p2)) ∧ Fr n0 L ∧ h = h0
set_option maxRecDepth 65536 in
set_option maxHeartbeats 40000000 in
theorem rm1 (l : Launch) (Z : State) (a0 : Array Value) (hw : ∀ d ∈ tables_1, d.before a0 Z = true) (ws : List Jvm.Cond) (q1 : Int64) (p2 : Int32) (h0 : Heap) (n0 : Nat) (Z0 : n0 ≤ h0.size) :
    MetFree l (⟨"com/example/ticketbridge/ticketbridge/io/DerContentPinLaw", "byteAt", "(JI)B"⟩ : MethodName) (head1 (Jvm.Cond.code (⟨"com/example/ticketbridge/ticketbridge/io/DerContentPinLaw", "byteAt", "(JI)B"⟩ : MethodName) method_3_code 3 (some .byte) :: ws) ({ frames := 0, cells := 0, slots := 0, locals := 0 } : Room)) (fun a U => a = #[(.long q1), (.int p2)] ∧ Z.Warmed39 U.vm ∧ U.heap = h0) (fun _ _ _ _ _ => True) (fun _ U o U' => ∃ v L, o = .returned v ∧ Q1 Z q1 p2 h0 n0 v U'.heap L ∧ FrameEnd U o U' L ({ frames := 0, cells := 0, slots := 0, locals := 0 } : Room).cells ({ frames := 0, cells := 0, slots := 0, locals := 0 } : Room).slots) := by
  refine MetFree.of_bodySF (plainFor_of_name pn_1) hisR ?_
  intro p e s m args below meth c s₁ Bd hml0 hP hK
  obtain ⟨rfl, hZ, hh⟩ := hP
  have hx := Bd.exec
  have hby := Bd.bytes
  have hml : c.maxLocals = 3 := hml0
  have hown : s.vm.findClass "com/example/ticketbridge/ticketbridge/io/DerContentPinLaw" = some m.cls := findClass_of_methodNamed Bd.named
  have hnm := (name_of_methodNamed Bd.named Bd.method).1
  have X0 : Stand p l e ({ frames := 0, cells := 0, slots := 0, locals := 0 } : Room) s m #[(.long q1), (.int p2)] below meth c s₁ [] 0 0 := Stand.of_body Bd
  have e0 : s₁.heap = h0 := by rw [← hh, Bd.state]; rfl
  have N0 := Fr.nil n0
  have pre0 : ∀ t, Steps p.tables e below (s₁.setTop (mkF m 0 #[.val (.long q1), .second, .val (.int p2)] [])) t → Steps p.tables e below (s₁.setTop (entryFrame m #[(.long q1), (.int p2)] 3)) t := fun t k => castTop (ef_1 m q1 p2) k

  obtain ⟨fs, hr, hrun, hended, hW, hsame⟩ := X0.leave (v := some (.int (nar .byte ((((q1.toUInt64 >>> (((8 : Int32) * p2) &&& 0x3f).toInt64.toUInt64).toInt64).toInt32).toInt8.toInt32)))) (fun h => by rw [Bd.returns] at h; cases h)
  refine ⟨_, _, pre0 _ ?_, hrun, hended, _, _, rfl, ?_, ⟨_, rfl⟩, hW, hsame.mono (by decide) (by decide)⟩
  · show Steps p.tables e below (s₁.setTop (mkF m 0 #[.val (.long q1), .second, .val (.int p2)] [])) _
    refine XS.lloadN X0.here hx rfl (hb hby d1_0) rfl ?_
    show Steps p.tables e below (s₁.setTop (mkF m 1 #[.val (.long q1), .second, .val (.int p2)] [(.long q1)])) _
    refine XS.bipush X0.here hx rfl (hb hby d1_1) ?_
    show Steps p.tables e below (s₁.setTop (mkF m 3 #[.val (.long q1), .second, .val (.int p2)] [(.int (8 : Int32)), (.long q1)])) _
    refine XS.iloadN X0.here hx rfl (hb hby d1_3) rfl ?_
    show Steps p.tables e below (s₁.setTop (mkF m 4 #[.val (.long q1), .second, .val (.int p2)] [(.int p2), (.int (8 : Int32)), (.long q1)])) _
    refine XS.imul X0.here hx rfl (hb hby d1_4) rfl ?_
    show Steps p.tables e below (s₁.setTop (mkF m 5 #[.val (.long q1), .second, .val (.int p2)] [(.int ((8 : Int32) * p2)), (.long q1)])) _
    refine XS.lushr X0.here hx rfl (hb hby d1_5) rfl ?_
    show Steps p.tables e below (s₁.setTop (mkF m 6 #[.val (.long q1), .second, .val (.int p2)] [(.long ((q1.toUInt64 >>> (((8 : Int32) * p2) &&& 0x3f).toInt64.toUInt64).toInt64))])) _
    refine XS.l2i X0.here hx rfl (hb hby d1_6) rfl ?_
    show Steps p.tables e below (s₁.setTop (mkF m 7 #[.val (.long q1), .second, .val (.int p2)] [(.int (((q1.toUInt64 >>> (((8 : Int32) * p2) &&& 0x3f).toInt64.toUInt64).toInt64).toInt32))])) _
    refine XS.i2b X0.here hx rfl (hb hby d1_7) rfl ?_
    show Steps p.tables e below (s₁.setTop (mkF m 8 #[.val (.long q1), .second, .val (.int p2)] [(.int ((((q1.toUInt64 >>> (((8 : Int32) * p2) &&& 0x3f).toInt64.toUInt64).toInt64).toInt32).toInt8.toInt32))])) _
    exact retN X0 hx (t := .byte) Bd.returns (by simp) (hb hby d1_8) hr
  · show Q1 Z q1 p2 h0 n0 _ s₁.heap _
    rw [e0]
    exact ⟨congrArg (fun v => some (Value.int v)) (own_narA q1 p2), N0, rfl⟩
theorem d3_0 : decode jdk_30_method_1_code 0 = .ok (.aload_n 0, 1) := by decide +kernel
theorem d3_1 : decode jdk_30_method_1_code 1 = .ok (.invokespecial 1, 3) := by decide +kernel
theorem d3_4 : decode jdk_30_method_1_code 4 = .ok (.return_, 1) := by decide +kernel
theorem pn_3 : plainName "java/lang/Record" = true := by first | (simp [plainName, overriddenIn]; done) | decide +kernel
theorem ef_3 (m : MethodId) (x0 : Addr) : entryFrame m #[(.ref x0)] 1 = mkF m 0 #[.val (.ref x0)] [] := by first | (simp [entryFrame, mkF, argsToLocals, Value.category]; done) | rfl
def Q3 (Z : State) (a1 : Addr) (h0 : Heap) (n0 : Nat) (v : Option Value) (h : Heap) (L : List Loc) : Prop := v = none ∧ Fr n0 L ∧ h = h0
set_option maxRecDepth 65536 in
set_option maxHeartbeats 40000000 in
theorem rm3 (l : Launch) (Z : State) (a0 : Array Value) (hw : ∀ d ∈ tables_1, d.before a0 Z = true) (ws : List Jvm.Cond) (a1 : Addr) (h0 : Heap) (n0 : Nat) (Z0 : n0 ≤ h0.size) :
    MetFree l (⟨"java/lang/Record", "<init>", "()V"⟩ : MethodName) (head1 (Jvm.Cond.code (⟨"java/lang/Record", "<init>", "()V"⟩ : MethodName) jdk_30_method_1_code 1 none :: ws) ({ frames := 1, cells := 0, slots := 0, locals := 12 } : Room)) (fun a U => a = #[(.ref a1)] ∧ Z.Warmed39 U.vm ∧ U.heap = h0) (fun _ _ _ _ _ => True) (fun _ U o U' => ∃ v L, o = .returned v ∧ Q3 Z a1 h0 n0 v U'.heap L ∧ FrameEnd U o U' L ({ frames := 1, cells := 0, slots := 0, locals := 12 } : Room).cells ({ frames := 1, cells := 0, slots := 0, locals := 12 } : Room).slots) := by
  refine MetFree.of_bodySF (plainFor_of_name pn_3) hisR ?_
  intro p e s m args below meth c s₁ Bd hml0 hP hK
  obtain ⟨rfl, hZ, hh⟩ := hP
  have hx := Bd.exec
  have hby := Bd.bytes
  have hml : c.maxLocals = 1 := hml0
  have hown : s.vm.findClass "java/lang/Record" = some m.cls := findClass_of_methodNamed Bd.named
  have hnm := (name_of_methodNamed Bd.named Bd.method).1
  have X0 : Stand p l e ({ frames := 1, cells := 0, slots := 0, locals := 12 } : Room) s m #[(.ref a1)] below meth c s₁ [] 0 0 := Stand.of_body Bd
  have e0 : s₁.heap = h0 := by rw [← hh, Bd.state]; rfl
  have N0 := Fr.nil n0
  have pre0 : ∀ t, Steps p.tables e below (s₁.setTop (mkF m 0 #[.val (.ref a1)] [])) t → Steps p.tables e below (s₁.setTop (entryFrame m #[(.ref a1)] 1)) t := fun t k => castTop (ef_3 m a1) k
  obtain ⟨T2, X2, e2, st2⟩ := initO X0 hx hZ hown (hw _ (List.mem_of_getElem? (i := 17) rfl)) (hw _ (List.mem_of_getElem? (i := 18) rfl)) (hw _ (List.mem_of_getElem? (i := 19) rfl)) e0 (g := (mkF m 1 #[.val (.ref a1)] [(.ref a1)])) rfl (by rw [hml]; rfl) rfl (hb hby d3_1) (by decide) (W := 0) (by show 2 * 0 + _ ≤ _; exact Nat.le_of_eq rfl) (by decide)
  obtain ⟨fs, hr, hrun, hended, hW, hsame⟩ := X2.leave (v := none) (fun _ => rfl)
  refine ⟨_, _, pre0 _ ?_, hrun, hended, _, _, rfl, ?_, ⟨_, rfl⟩, hW, hsame.mono (by decide) (by decide)⟩
  · show Steps p.tables e below (s₁.setTop (mkF m 0 #[.val (.ref a1)] [])) _
    refine XS.aloadN X0.here hx rfl (hb hby d3_0) rfl rfl ?_
    show Steps p.tables e below (s₁.setTop (mkF m 1 #[.val (.ref a1)] [(.ref a1)])) _
    refine st2 _ ?_
    show Steps p.tables e below (T2.setTop (mkF m 4 #[.val (.ref a1)] [])) _
    exact X2.returnOut hx Bd.returns (hb hby d3_4) hr
  · show Q3 Z a1 h0 n0 _ T2.heap _
    rw [e2]
    exact ⟨rfl, N0, rfl⟩
theorem d2_0 : decode prog_3_method_1_code 0 = .ok (.aload_n 0, 1) := by decide +kernel
theorem d2_1 : decode prog_3_method_1_code 1 = .ok (.invokespecial 1, 3) := by decide +kernel
theorem d2_4 : decode prog_3_method_1_code 4 = .ok (.aload_n 0, 1) := by decide +kernel
theorem d2_5 : decode prog_3_method_1_code 5 = .ok (.aload_n 1, 1) := by decide +kernel
theorem d2_6 : decode prog_3_method_1_code 6 = .ok (.putfield 7, 3) := by decide +kernel
theorem d2_9 : decode prog_3_method_1_code 9 = .ok (.aload_n 0, 1) := by decide +kernel
theorem d2_10 : decode prog_3_method_1_code 10 = .ok (.iload_n 2, 1) := by decide +kernel
theorem d2_11 : decode prog_3_method_1_code 11 = .ok (.putfield 13, 3) := by decide +kernel
theorem d2_14 : decode prog_3_method_1_code 14 = .ok (.aload_n 0, 1) := by decide +kernel
theorem d2_15 : decode prog_3_method_1_code 15 = .ok (.iload_n 3, 1) := by decide +kernel
theorem d2_16 : decode prog_3_method_1_code 16 = .ok (.putfield 17, 3) := by decide +kernel
theorem d2_19 : decode prog_3_method_1_code 19 = .ok (.aload_n 0, 1) := by decide +kernel
theorem d2_20 : decode prog_3_method_1_code 20 = .ok (.iload 4, 2) := by decide +kernel
theorem d2_22 : decode prog_3_method_1_code 22 = .ok (.putfield 20, 3) := by decide +kernel
theorem d2_25 : decode prog_3_method_1_code 25 = .ok (.return_, 1) := by decide +kernel
theorem pn_2 : plainName "com/example/ticketbridge/ticketbridge/io/Der" = true := by first | (simp [plainName, overriddenIn]; done) | decide +kernel
theorem pd_2_2 : parseMethodDescriptor "()V" = some ⟨[], none⟩ := by decide +kernel
theorem ef_2 (m : MethodId) (x0 : Addr) (x1 : Addr) (x2 : Int32) (x3 : Int32) (x4 : Int32) : entryFrame m #[(.ref x0), (.ref x1), (.int x2), (.int x3), (.int x4)] 5 = mkF m 0 #[.val (.ref x0), .val (.ref x1), .val (.int x2), .val (.int x3), .val (.int x4)] [] := by first | (simp [entryFrame, mkF, argsToLocals, Value.category]; done) | rfl
def Q2 (Z : State) (a1 : Addr) (a2 : Addr) (p3 : Int32) (p4 : Int32) (p5 : Int32) (u_source_a1 : Value) (u_tag_a1 : Value) (u_start_a1 : Value) (u_end_a1 : Value) (h0 : Heap) (n0 : Nat) (v : Option Value) (h : Heap) (L : List Loc) : Prop := v = none ∧ Fr n0 L ∧ Keep h0 h [a1] ∧ Exa Z h a1 "com/example/ticketbridge/ticketbridge/io/Der" ∧ Fld Z h a1 "com/example/ticketbridge/ticketbridge/io/Der" "source" "[B" (.ref a2) ∧ Fld Z h a1 "com/example/ticketbridge/ticketbridge/io/Der" "tag" "I" (.int p3) ∧ Fld Z h a1 "com/example/ticketbridge/ticketbridge/io/Der" "start" "I" (.int p4) ∧ Fld Z h a1 "com/example/ticketbridge/ticketbridge/io/Der" "end" "I" (.int p5)
set_option maxRecDepth 65536 in
set_option maxHeartbeats 40000000 in
theorem rm2 (l : Launch) (Z : State) (a0 : Array Value) (hw : ∀ d ∈ tables_1, d.before a0 Z = true) (ws : List Jvm.Cond) (a1 : Addr) (a2 : Addr) (p3 : Int32) (p4 : Int32) (p5 : Int32) (u_source_a1 : Value) (u_tag_a1 : Value) (u_start_a1 : Value) (u_end_a1 : Value) (h0 : Heap) (n0 : Nat) (Z0 : n0 ≤ h0.size) (E_a1 : Exa Z h0 a1 "com/example/ticketbridge/ticketbridge/io/Der") (F_source_a1 : Fld Z h0 a1 "com/example/ticketbridge/ticketbridge/io/Der" "source" "[B" u_source_a1) (g_a1 : n0 ≤ a1) (F_tag_a1 : Fld Z h0 a1 "com/example/ticketbridge/ticketbridge/io/Der" "tag" "I" u_tag_a1) (F_start_a1 : Fld Z h0 a1 "com/example/ticketbridge/ticketbridge/io/Der" "start" "I" u_start_a1) (F_end_a1 : Fld Z h0 a1 "com/example/ticketbridge/ticketbridge/io/Der" "end" "I" u_end_a1) :
    MetFree l (⟨"com/example/ticketbridge/ticketbridge/io/Der", "<init>", "([BIII)V"⟩ : MethodName) (head1 (Jvm.Cond.code (⟨"com/example/ticketbridge/ticketbridge/io/Der", "<init>", "([BIII)V"⟩ : MethodName) prog_3_method_1_code 5 none :: ws) ({ frames := 2, cells := 0, slots := 0, locals := 24 } : Room)) (fun a U => a = #[(.ref a1), (.ref a2), (.int p3), (.int p4), (.int p5)] ∧ Z.Warmed39 U.vm ∧ U.heap = h0) (fun _ _ _ _ _ => True) (fun _ U o U' => ∃ v L, o = .returned v ∧ Q2 Z a1 a2 p3 p4 p5 u_source_a1 u_tag_a1 u_start_a1 u_end_a1 h0 n0 v U'.heap L ∧ FrameEnd U o U' L ({ frames := 2, cells := 0, slots := 0, locals := 24 } : Room).cells ({ frames := 2, cells := 0, slots := 0, locals := 24 } : Room).slots) := by
  refine MetFree.of_bodySF (plainFor_of_name pn_2) hisR ?_
  intro p e s m args below meth c s₁ Bd hml0 hP hK
  obtain ⟨rfl, hZ, hh⟩ := hP
  have hx := Bd.exec
  have hby := Bd.bytes
  have hml : c.maxLocals = 5 := hml0
  have hown : s.vm.findClass "com/example/ticketbridge/ticketbridge/io/Der" = some m.cls := findClass_of_methodNamed Bd.named
  have hnm := (name_of_methodNamed Bd.named Bd.method).1
  have X0 : Stand p l e ({ frames := 2, cells := 0, slots := 0, locals := 24 } : Room) s m #[(.ref a1), (.ref a2), (.int p3), (.int p4), (.int p5)] below meth c s₁ [] 0 0 := Stand.of_body Bd
  have e0 : s₁.heap = h0 := by rw [← hh, Bd.state]; rfl
  have N0 := Fr.nil n0
  have pre0 : ∀ t, Steps p.tables e below (s₁.setTop (mkF m 0 #[.val (.ref a1), .val (.ref a2), .val (.int p3), .val (.int p4), .val (.int p5)] [])) t → Steps p.tables e below (s₁.setTop (entryFrame m #[(.ref a1), (.ref a2), (.int p3), (.int p4), (.int p5)] 5)) t := fun t k => castTop (ef_2 m a1 a2 p3 p4 p5) k
  obtain ⟨_, _, ⟨T6, L6, k6, n6⟩, -, X6, ⟨Lc6, hQ6, l6, y6, z6⟩, st6⟩ := X0.specialBack hx (y := (⟨"java/lang/Record", "<init>", "()V"⟩ : MethodName)) rfl hown (mvT hZ (hw _ (List.mem_of_getElem? (i := 12) rfl))) (mvT hZ (hw _ (List.mem_of_getElem? (i := 13) rfl))) (mvT hZ (hw _ (List.mem_of_getElem? (i := 16) rfl))) (by decide) (backOf (W := 0) (rm3 l Z a0 hw [] a1 h0 n0 Z0) hZ (hw _ (List.mem_of_getElem? (i := 16) rfl)) (hw _ (List.mem_of_getElem? (i := 15) rfl)) (by decide) (by decide)) (g := (mkF m 1 #[.val (.ref a1), .val (.ref a2), .val (.int p3), .val (.int p4), .val (.int p5)] [(.ref a1)])) rfl (by rw [hml]; rfl) (Steps.refl _) (a := a1) (argsL := []) (rest := []) (lenOf pd_2_2 rfl) rfl (by show 2 * 0 + _ ≤ _; exact Nat.le_of_eq rfl) (hb hby d2_1) (fun _ _ => ⟨rfl, e0, (by decide : 0 + 0 ≤ _), (by decide : 0 + 0 ≤ _)⟩)
  dsimp only [Pt.U, Pt.locs, Pt.cells, Pt.slots] at X6 l6 y6 z6 st6 hQ6
  subst l6 y6 z6
  obtain ⟨rfl, N6q, ek6⟩ := hQ6
  have N6 := Fr.app N0 N6q
  have FK_source : Fld Z T6.heap a1 "com/example/ticketbridge/ticketbridge/io/Der" "source" "[B" u_source_a1 := by rw [ek6]; exact F_source_a1
  have FK_tag : Fld Z T6.heap a1 "com/example/ticketbridge/ticketbridge/io/Der" "tag" "I" u_tag_a1 := by rw [ek6]; exact F_tag_a1
  have FK_start : Fld Z T6.heap a1 "com/example/ticketbridge/ticketbridge/io/Der" "start" "I" u_start_a1 := by rw [ek6]; exact F_start_a1
  have FK_end : Fld Z T6.heap a1 "com/example/ticketbridge/ticketbridge/io/Der" "end" "I" u_end_a1 := by rw [ek6]; exact F_end_a1
  have EXK : Exa Z T6.heap a1 "com/example/ticketbridge/ticketbridge/io/Der" := by rw [ek6]; exact E_a1
  have KK : Keep h0 T6.heap [a1] := by rw [ek6]; exact Keep.refl _ _
  obtain ⟨T7, h7, X7, e7, W7, st7⟩ := putF X6 hx hZ hown (host := "") (Or.inl (hw _ (List.mem_of_getElem? (i := 20) rfl))) Via.refl rfl FK_source EXK (Or.inr ⟨(hw _ (List.mem_of_getElem? (i := 21) rfl)), rfl, hnm⟩) (hw _ (List.mem_of_getElem? (i := 7) rfl)) (ty := (.array .byte)) (by decide) rfl rfl (g := (mkF m 6 #[.val (.ref a1), .val (.ref a2), .val (.int p3), .val (.int p4), .val (.int p5)] [(.ref a2), (.ref a1)])) rfl rfl (hb hby d2_6)
  have Fw7 := FK_source.same W7
  have K7 : Keep h0 h7 [a1] := KK.wr W7 (Or.inl (List.mem_of_getElem? (i := 0) rfl))
  have N7 := Fr.snoc X7 N6 g_a1
  obtain ⟨T8, h8, X8, e8, W8, st8⟩ := putF X7 hx hZ hown (host := "") (Or.inl (hw _ (List.mem_of_getElem? (i := 22) rfl))) Via.refl e7 (FK_tag.other W7 (Or.inr (slot_ne (Or.inr (hw _ (List.mem_of_getElem? (i := 23) rfl))) (Or.inr (hw _ (List.mem_of_getElem? (i := 21) rfl))) (by decide) (t := .int) (t' := (.array .byte)) (by decide) (by decide)))) (EXK.wr W7) (Or.inr ⟨(hw _ (List.mem_of_getElem? (i := 23) rfl)), rfl, hnm⟩) (hw _ (List.mem_of_getElem? (i := 7) rfl)) (ty := .int) (by decide) rfl rfl (g := (mkF m 11 #[.val (.ref a1), .val (.ref a2), .val (.int p3), .val (.int p4), .val (.int p5)] [(.int p3), (.ref a1)])) rfl rfl (hb hby d2_11)
  have Fw8 := (FK_tag.other W7 (Or.inr (slot_ne (Or.inr (hw _ (List.mem_of_getElem? (i := 23) rfl))) (Or.inr (hw _ (List.mem_of_getElem? (i := 21) rfl))) (by decide) (t := .int) (t' := (.array .byte)) (by decide) (by decide)))).same W8
  have K8 : Keep h0 h8 [a1] := K7.wr W8 (Or.inl (List.mem_of_getElem? (i := 0) rfl))
  have N8 := Fr.snoc X8 N7 g_a1
  obtain ⟨T9, h9, X9, e9, W9, st9⟩ := putF X8 hx hZ hown (host := "") (Or.inl (hw _ (List.mem_of_getElem? (i := 24) rfl))) Via.refl e8 ((FK_start.other W7 (Or.inr (slot_ne (Or.inr (hw _ (List.mem_of_getElem? (i := 25) rfl))) (Or.inr (hw _ (List.mem_of_getElem? (i := 21) rfl))) (by decide) (t := .int) (t' := (.array .byte)) (by decide) (by decide)))).other W8 (Or.inr (slot_ne (Or.inr (hw _ (List.mem_of_getElem? (i := 25) rfl))) (Or.inr (hw _ (List.mem_of_getElem? (i := 23) rfl))) (by decide) (t := .int) (t' := .int) (by decide) (by decide)))) ((EXK.wr W7).wr W8) (Or.inr ⟨(hw _ (List.mem_of_getElem? (i := 25) rfl)), rfl, hnm⟩) (hw _ (List.mem_of_getElem? (i := 7) rfl)) (ty := .int) (by decide) rfl rfl (g := (mkF m 16 #[.val (.ref a1), .val (.ref a2), .val (.int p3), .val (.int p4), .val (.int p5)] [(.int p4), (.ref a1)])) rfl rfl (hb hby d2_16)
  have Fw9 := ((FK_start.other W7 (Or.inr (slot_ne (Or.inr (hw _ (List.mem_of_getElem? (i := 25) rfl))) (Or.inr (hw _ (List.mem_of_getElem? (i := 21) rfl))) (by decide) (t := .int) (t' := (.array .byte)) (by decide) (by decide)))).other W8 (Or.inr (slot_ne (Or.inr (hw _ (List.mem_of_getElem? (i := 25) rfl))) (Or.inr (hw _ (List.mem_of_getElem? (i := 23) rfl))) (by decide) (t := .int) (t' := .int) (by decide) (by decide)))).same W9
  have K9 : Keep h0 h9 [a1] := K8.wr W9 (Or.inl (List.mem_of_getElem? (i := 0) rfl))
  have N9 := Fr.snoc X9 N8 g_a1
  obtain ⟨T10, h10, X10, e10, W10, st10⟩ := putF X9 hx hZ hown (host := "") (Or.inl (hw _ (List.mem_of_getElem? (i := 26) rfl))) Via.refl e9 (((FK_end.other W7 (Or.inr (slot_ne (Or.inr (hw _ (List.mem_of_getElem? (i := 27) rfl))) (Or.inr (hw _ (List.mem_of_getElem? (i := 21) rfl))) (by decide) (t := .int) (t' := (.array .byte)) (by decide) (by decide)))).other W8 (Or.inr (slot_ne (Or.inr (hw _ (List.mem_of_getElem? (i := 27) rfl))) (Or.inr (hw _ (List.mem_of_getElem? (i := 23) rfl))) (by decide) (t := .int) (t' := .int) (by decide) (by decide)))).other W9 (Or.inr (slot_ne (Or.inr (hw _ (List.mem_of_getElem? (i := 27) rfl))) (Or.inr (hw _ (List.mem_of_getElem? (i := 25) rfl))) (by decide) (t := .int) (t' := .int) (by decide) (by decide)))) (((EXK.wr W7).wr W8).wr W9) (Or.inr ⟨(hw _ (List.mem_of_getElem? (i := 27) rfl)), rfl, hnm⟩) (hw _ (List.mem_of_getElem? (i := 7) rfl)) (ty := .int) (by decide) rfl rfl (g := (mkF m 22 #[.val (.ref a1), .val (.ref a2), .val (.int p3), .val (.int p4), .val (.int p5)] [(.int p5), (.ref a1)])) rfl rfl (hb hby d2_22)
  have Fw10 := (((FK_end.other W7 (Or.inr (slot_ne (Or.inr (hw _ (List.mem_of_getElem? (i := 27) rfl))) (Or.inr (hw _ (List.mem_of_getElem? (i := 21) rfl))) (by decide) (t := .int) (t' := (.array .byte)) (by decide) (by decide)))).other W8 (Or.inr (slot_ne (Or.inr (hw _ (List.mem_of_getElem? (i := 27) rfl))) (Or.inr (hw _ (List.mem_of_getElem? (i := 23) rfl))) (by decide) (t := .int) (t' := .int) (by decide) (by decide)))).other W9 (Or.inr (slot_ne (Or.inr (hw _ (List.mem_of_getElem? (i := 27) rfl))) (Or.inr (hw _ (List.mem_of_getElem? (i := 25) rfl))) (by decide) (t := .int) (t' := .int) (by decide) (by decide)))).same W10
  have K10 : Keep h0 h10 [a1] := K9.wr W10 (Or.inl (List.mem_of_getElem? (i := 0) rfl))
  have N10 := Fr.snoc X10 N9 g_a1
  obtain ⟨fs, hr, hrun, hended, hW, hsame⟩ := X10.leave (v := none) (fun _ => rfl)
  refine ⟨_, _, pre0 _ ?_, hrun, hended, _, _, rfl, ?_, ⟨_, rfl⟩, hW, hsame.mono (by decide) (by decide)⟩
  · show Steps p.tables e below (s₁.setTop (mkF m 0 #[.val (.ref a1), .val (.ref a2), .val (.int p3), .val (.int p4), .val (.int p5)] [])) _
    refine XS.aloadN X0.here hx rfl (hb hby d2_0) rfl rfl ?_
    show Steps p.tables e below (s₁.setTop (mkF m 1 #[.val (.ref a1), .val (.ref a2), .val (.int p3), .val (.int p4), .val (.int p5)] [(.ref a1)])) _
    refine st6.trans ?_
    show Steps p.tables e below (T6.setTop (mkF m 4 #[.val (.ref a1), .val (.ref a2), .val (.int p3), .val (.int p4), .val (.int p5)] [])) _
    refine XS.aloadN X6.here hx rfl (hb hby d2_4) rfl rfl ?_
    show Steps p.tables e below (T6.setTop (mkF m 5 #[.val (.ref a1), .val (.ref a2), .val (.int p3), .val (.int p4), .val (.int p5)] [(.ref a1)])) _
    refine XS.aloadN X6.here hx rfl (hb hby d2_5) rfl rfl ?_
    show Steps p.tables e below (T6.setTop (mkF m 6 #[.val (.ref a1), .val (.ref a2), .val (.int p3), .val (.int p4), .val (.int p5)] [(.ref a2), (.ref a1)])) _
    refine st7 _ ?_
    show Steps p.tables e below (T7.setTop (mkF m 9 #[.val (.ref a1), .val (.ref a2), .val (.int p3), .val (.int p4), .val (.int p5)] [])) _
    refine XS.aloadN X7.here hx rfl (hb hby d2_9) rfl rfl ?_
    show Steps p.tables e below (T7.setTop (mkF m 10 #[.val (.ref a1), .val (.ref a2), .val (.int p3), .val (.int p4), .val (.int p5)] [(.ref a1)])) _
    refine XS.iloadN X7.here hx rfl (hb hby d2_10) rfl ?_
    show Steps p.tables e below (T7.setTop (mkF m 11 #[.val (.ref a1), .val (.ref a2), .val (.int p3), .val (.int p4), .val (.int p5)] [(.int p3), (.ref a1)])) _
    refine st8 _ ?_
    show Steps p.tables e below (T8.setTop (mkF m 14 #[.val (.ref a1), .val (.ref a2), .val (.int p3), .val (.int p4), .val (.int p5)] [])) _
    refine XS.aloadN X8.here hx rfl (hb hby d2_14) rfl rfl ?_
    show Steps p.tables e below (T8.setTop (mkF m 15 #[.val (.ref a1), .val (.ref a2), .val (.int p3), .val (.int p4), .val (.int p5)] [(.ref a1)])) _
    refine XS.iloadN X8.here hx rfl (hb hby d2_15) rfl ?_
    show Steps p.tables e below (T8.setTop (mkF m 16 #[.val (.ref a1), .val (.ref a2), .val (.int p3), .val (.int p4), .val (.int p5)] [(.int p4), (.ref a1)])) _
    refine st9 _ ?_
    show Steps p.tables e below (T9.setTop (mkF m 19 #[.val (.ref a1), .val (.ref a2), .val (.int p3), .val (.int p4), .val (.int p5)] [])) _
    refine XS.aloadN X9.here hx rfl (hb hby d2_19) rfl rfl ?_
    show Steps p.tables e below (T9.setTop (mkF m 20 #[.val (.ref a1), .val (.ref a2), .val (.int p3), .val (.int p4), .val (.int p5)] [(.ref a1)])) _
    refine XS.iload X9.here hx rfl (hb hby d2_20) rfl ?_
    show Steps p.tables e below (T9.setTop (mkF m 22 #[.val (.ref a1), .val (.ref a2), .val (.int p3), .val (.int p4), .val (.int p5)] [(.int p5), (.ref a1)])) _
    refine st10 _ ?_
    show Steps p.tables e below (T10.setTop (mkF m 25 #[.val (.ref a1), .val (.ref a2), .val (.int p3), .val (.int p4), .val (.int p5)] [])) _
    exact X10.returnOut hx Bd.returns (hb hby d2_25) hr
  · show Q2 Z a1 a2 p3 p4 p5 u_source_a1 u_tag_a1 u_start_a1 u_end_a1 h0 n0 _ T10.heap _
    rw [e10]
    exact ⟨rfl, N10, K10, (((EXK.wr W7).wr W8).wr W9).wr W10, (((Fw7.other W8 (Or.inr (slot_ne (Or.inr (hw _ (List.mem_of_getElem? (i := 21) rfl))) (Or.inr (hw _ (List.mem_of_getElem? (i := 23) rfl))) (by decide) (t := (.array .byte)) (t' := .int) (by decide) (by decide)))).other W9 (Or.inr (slot_ne (Or.inr (hw _ (List.mem_of_getElem? (i := 21) rfl))) (Or.inr (hw _ (List.mem_of_getElem? (i := 25) rfl))) (by decide) (t := (.array .byte)) (t' := .int) (by decide) (by decide)))).other W10 (Or.inr (slot_ne (Or.inr (hw _ (List.mem_of_getElem? (i := 21) rfl))) (Or.inr (hw _ (List.mem_of_getElem? (i := 27) rfl))) (by decide) (t := (.array .byte)) (t' := .int) (by decide) (by decide)))), ((Fw8.other W9 (Or.inr (slot_ne (Or.inr (hw _ (List.mem_of_getElem? (i := 23) rfl))) (Or.inr (hw _ (List.mem_of_getElem? (i := 25) rfl))) (by decide) (t := .int) (t' := .int) (by decide) (by decide)))).other W10 (Or.inr (slot_ne (Or.inr (hw _ (List.mem_of_getElem? (i := 23) rfl))) (Or.inr (hw _ (List.mem_of_getElem? (i := 27) rfl))) (by decide) (t := .int) (t' := .int) (by decide) (by decide)))), (Fw9.other W10 (Or.inr (slot_ne (Or.inr (hw _ (List.mem_of_getElem? (i := 25) rfl))) (Or.inr (hw _ (List.mem_of_getElem? (i := 27) rfl))) (by decide) (t := .int) (t' := .int) (by decide) (by decide)))), Fw10⟩
theorem d8_0 : decode jdk_65_method_131_code 0 = .ok (.iload_n 1, 1) := by decide +kernel
theorem d8_1 : decode jdk_65_method_131_code 1 = .ok (.iload_n 0, 1) := by decide +kernel
theorem d8_2 : decode jdk_65_method_131_code 2 = .ok (.if_icmp .ge 35, 3) := by decide +kernel
theorem d8_37 : decode jdk_65_method_131_code 37 = .ok (.return_, 1) := by decide +kernel
theorem pn_8 : plainName "java/util/Arrays" = true := by first | (simp [plainName, overriddenIn]; done) | decide +kernel
theorem ef_8 (m : MethodId) (x0 : Int32) (x1 : Int32) : entryFrame m #[(.int x0), (.int x1)] 2 = mkF m 0 #[.val (.int x0), .val (.int x1)] [] := by first | (simp [entryFrame, mkF, argsToLocals, Value.category]; done) | rfl
def Q8 (Z : State) (p1 : Int32) (p2 : Int32) (h0 : Heap) (n0 : Nat) (v : Option Value) (h : Heap) (L : List Loc) : Prop := v = none ∧ Fr n0 L ∧ h = h0
set_option maxRecDepth 65536 in
set_option maxHeartbeats 40000000 in
theorem rm8 (l : Launch) (Z : State) (a0 : Array Value) (hw : ∀ d ∈ tables_1, d.before a0 Z = true) (ws : List Jvm.Cond) (p1 : Int32) (p2 : Int32) (h0 : Heap) (n0 : Nat) (Z0 : n0 ≤ h0.size) (hc2 : ¬ (p2 < p1)) :
    MetFree l (⟨"java/util/Arrays", "checkLength", "(II)V"⟩ : MethodName) (head1 (Jvm.Cond.code (⟨"java/util/Arrays", "checkLength", "(II)V"⟩ : MethodName) jdk_65_method_131_code 2 none :: ws) ({ frames := 0, cells := 0, slots := 0, locals := 0 } : Room)) (fun a U => a = #[(.int p1), (.int p2)] ∧ Z.Warmed39 U.vm ∧ U.heap = h0) (fun _ _ _ _ _ => True) (fun _ U o U' => ∃ v L, o = .returned v ∧ Q8 Z p1 p2 h0 n0 v U'.heap L ∧ FrameEnd U o U' L ({ frames := 0, cells := 0, slots := 0, locals := 0 } : Room).cells ({ frames := 0, cells := 0, slots := 0, locals := 0 } : Room).slots) := by
  refine MetFree.of_bodySF (plainFor_of_name pn_8) hisR ?_
  intro p e s m args below meth c s₁ Bd hml0 hP hK
  obtain ⟨rfl, hZ, hh⟩ := hP
  have hx := Bd.exec
  have hby := Bd.bytes
  have hml : c.maxLocals = 2 := hml0
  have hown : s.vm.findClass "java/util/Arrays" = some m.cls := findClass_of_methodNamed Bd.named
  have hnm := (name_of_methodNamed Bd.named Bd.method).1
  have X0 : Stand p l e ({ frames := 0, cells := 0, slots := 0, locals := 0 } : Room) s m #[(.int p1), (.int p2)] below meth c s₁ [] 0 0 := Stand.of_body Bd
  have e0 : s₁.heap = h0 := by rw [← hh, Bd.state]; rfl
  have N0 := Fr.nil n0
  have pre0 : ∀ t, Steps p.tables e below (s₁.setTop (mkF m 0 #[.val (.int p1), .val (.int p2)] [])) t → Steps p.tables e below (s₁.setTop (entryFrame m #[(.int p1), (.int p2)] 2)) t := fun t k => castTop (ef_8 m p1 p2) k

  obtain ⟨fs, hr, hrun, hended, hW, hsame⟩ := X0.leave (v := none) (fun _ => rfl)
  refine ⟨_, _, pre0 _ ?_, hrun, hended, _, _, rfl, ?_, ⟨_, rfl⟩, hW, hsame.mono (by decide) (by decide)⟩
  · show Steps p.tables e below (s₁.setTop (mkF m 0 #[.val (.int p1), .val (.int p2)] [])) _
    refine XS.iloadN X0.here hx rfl (hb hby d8_0) rfl ?_
    show Steps p.tables e below (s₁.setTop (mkF m 1 #[.val (.int p1), .val (.int p2)] [(.int p2)])) _
    refine XS.iloadN X0.here hx rfl (hb hby d8_1) rfl ?_
    show Steps p.tables e below (s₁.setTop (mkF m 2 #[.val (.int p1), .val (.int p2)] [(.int p1), (.int p2)])) _
    refine XS.icmpYes X0.here hx rfl (pc0 := 2) (pc' := 37) rfl (hb hby d8_2) rfl (flt hc2).2.1 (by decide) (by decide) ?_
    show Steps p.tables e below (s₁.setTop (mkF m 37 #[.val (.int p1), .val (.int p2)] [])) _
    exact X0.returnOut hx Bd.returns (hb hby d8_37) hr
  · show Q8 Z p1 p2 h0 n0 _ s₁.heap _
    rw [e0]
    exact ⟨rfl, N0, rfl⟩
theorem d9_0 : decode jdk_29_method_69_code 0 = .ok (.iload_n 0, 1) := by decide +kernel
theorem d9_1 : decode jdk_29_method_69_code 1 = .ok (.iload_n 1, 1) := by decide +kernel
theorem d9_2 : decode jdk_29_method_69_code 2 = .ok (.if_icmp .gt 7, 3) := by decide +kernel
theorem d9_9 : decode jdk_29_method_69_code 9 = .ok (.iload_n 1, 1) := by decide +kernel
theorem d9_10 : decode jdk_29_method_69_code 10 = .ok (.ireturn, 1) := by decide +kernel
theorem ef_9 (m : MethodId) (x0 : Int32) (x1 : Int32) : entryFrame m #[(.int x0), (.int x1)] 2 = mkF m 0 #[.val (.int x0), .val (.int x1)] [] := by first | (simp [entryFrame, mkF, argsToLocals, Value.category]; done) | rfl
def Q9 (Z : State) (p1 : Int32) (p2 : Int32) (h0 : Heap) (n0 : Nat) (v : Option Value) (h : Heap) (L : List Loc) : Prop := v = some (.int p2) ∧ Fr n0 L ∧ h = h0
set_option maxRecDepth 65536 in
set_option maxHeartbeats 40000000 in
theorem rm9_t (l : Launch) (Z : State) (a0 : Array Value) (hw : ∀ d ∈ tables_1, d.before a0 Z = true) (ws : List Jvm.Cond) (p1 : Int32) (p2 : Int32) (h0 : Heap) (n0 : Nat) (Z0 : n0 ≤ h0.size) (hc2 : p2 < p1) :
    MetFree l (⟨"java/lang/Math", "min", "(II)I"⟩ : MethodName) (head1 (Jvm.Cond.code (⟨"java/lang/Math", "min", "(II)I"⟩ : MethodName) jdk_29_method_69_code 2 (some .int) :: ws) ({ frames := 0, cells := 0, slots := 0, locals := 0 } : Room)) (fun a U => a = #[(.int p1), (.int p2)] ∧ Z.Warmed39 U.vm ∧ U.heap = h0) (fun _ _ _ _ _ => True) (fun _ U o U' => ∃ v L, o = .returned v ∧ Q9 Z p1 p2 h0 n0 v U'.heap L ∧ FrameEnd U o U' L ({ frames := 0, cells := 0, slots := 0, locals := 0 } : Room).cells ({ frames := 0, cells := 0, slots := 0, locals := 0 } : Room).slots) := by
  refine MetFree.of_bodySF (Jvm.Free.JP.mathPlain rfl (by decide +kernel)) hisR ?_
  intro p e s m args below meth c s₁ Bd hml0 hP hK
  obtain ⟨rfl, hZ, hh⟩ := hP
  have hx := Bd.exec
  have hby := Bd.bytes
  have hml : c.maxLocals = 2 := hml0
  have hown : s.vm.findClass "java/lang/Math" = some m.cls := findClass_of_methodNamed Bd.named
  have hnm := (name_of_methodNamed Bd.named Bd.method).1
  have X0 : Stand p l e ({ frames := 0, cells := 0, slots := 0, locals := 0 } : Room) s m #[(.int p1), (.int p2)] below meth c s₁ [] 0 0 := Stand.of_body Bd
  have e0 : s₁.heap = h0 := by rw [← hh, Bd.state]; rfl
  have N0 := Fr.nil n0
  have pre0 : ∀ t, Steps p.tables e below (s₁.setTop (mkF m 0 #[.val (.int p1), .val (.int p2)] [])) t → Steps p.tables e below (s₁.setTop (entryFrame m #[(.int p1), (.int p2)] 2)) t := fun t k => castTop (ef_9 m p1 p2) k

  obtain ⟨fs, hr, hrun, hended, hW, hsame⟩ := X0.leave (v := some (.int p2)) (fun h => by rw [Bd.returns] at h; cases h)
  refine ⟨_, _, pre0 _ ?_, hrun, hended, _, _, rfl, ?_, ⟨_, rfl⟩, hW, hsame.mono (by decide) (by decide)⟩
  · show Steps p.tables e below (s₁.setTop (mkF m 0 #[.val (.int p1), .val (.int p2)] [])) _
    refine XS.iloadN X0.here hx rfl (hb hby d9_0) rfl ?_
    show Steps p.tables e below (s₁.setTop (mkF m 1 #[.val (.int p1), .val (.int p2)] [(.int p1)])) _
    refine XS.iloadN X0.here hx rfl (hb hby d9_1) rfl ?_
    show Steps p.tables e below (s₁.setTop (mkF m 2 #[.val (.int p1), .val (.int p2)] [(.int p2), (.int p1)])) _
    refine XS.icmpYes X0.here hx rfl (pc0 := 2) (pc' := 9) rfl (hb hby d9_2) rfl (tlt hc2).2.2.1 (by decide) (by decide) ?_
    show Steps p.tables e below (s₁.setTop (mkF m 9 #[.val (.int p1), .val (.int p2)] [])) _
    refine XS.iloadN X0.here hx rfl (hb hby d9_9) rfl ?_
    show Steps p.tables e below (s₁.setTop (mkF m 10 #[.val (.int p1), .val (.int p2)] [(.int p2)])) _
    exact retI X0 hx Bd.returns (hb hby d9_10) hr
  · show Q9 Z p1 p2 h0 n0 _ s₁.heap _
    rw [e0]
    exact ⟨rfl, N0, rfl⟩
theorem d9_5 : decode jdk_29_method_69_code 5 = .ok (.iload_n 0, 1) := by decide +kernel
theorem d9_6 : decode jdk_29_method_69_code 6 = .ok (.goto 4, 3) := by decide +kernel
set_option maxRecDepth 65536 in
set_option maxHeartbeats 40000000 in
theorem rm9_f (l : Launch) (Z : State) (a0 : Array Value) (hw : ∀ d ∈ tables_1, d.before a0 Z = true) (ws : List Jvm.Cond) (p1 : Int32) (p2 : Int32) (h0 : Heap) (n0 : Nat) (Z0 : n0 ≤ h0.size) (hc2 : ¬ (p2 < p1)) (heq : p1 = p2) :
    MetFree l (⟨"java/lang/Math", "min", "(II)I"⟩ : MethodName) (head1 (Jvm.Cond.code (⟨"java/lang/Math", "min", "(II)I"⟩ : MethodName) jdk_29_method_69_code 2 (some .int) :: ws) ({ frames := 0, cells := 0, slots := 0, locals := 0 } : Room)) (fun a U => a = #[(.int p1), (.int p2)] ∧ Z.Warmed39 U.vm ∧ U.heap = h0) (fun _ _ _ _ _ => True) (fun _ U o U' => ∃ v L, o = .returned v ∧ Q9 Z p1 p2 h0 n0 v U'.heap L ∧ FrameEnd U o U' L ({ frames := 0, cells := 0, slots := 0, locals := 0 } : Room).cells ({ frames := 0, cells := 0, slots := 0, locals := 0 } : Room).slots) := by
  refine MetFree.of_bodySF (Jvm.Free.JP.mathPlain rfl (by decide +kernel)) hisR ?_
  intro p e s m args below meth c s₁ Bd hml0 hP hK
  obtain ⟨rfl, hZ, hh⟩ := hP
  have hx := Bd.exec
  have hby := Bd.bytes
  have hml : c.maxLocals = 2 := hml0
  have hown : s.vm.findClass "java/lang/Math" = some m.cls := findClass_of_methodNamed Bd.named
  have hnm := (name_of_methodNamed Bd.named Bd.method).1
  have X0 : Stand p l e ({ frames := 0, cells := 0, slots := 0, locals := 0 } : Room) s m #[(.int p1), (.int p2)] below meth c s₁ [] 0 0 := Stand.of_body Bd
  have e0 : s₁.heap = h0 := by rw [← hh, Bd.state]; rfl
  have N0 := Fr.nil n0
  have pre0 : ∀ t, Steps p.tables e below (s₁.setTop (mkF m 0 #[.val (.int p1), .val (.int p2)] [])) t → Steps p.tables e below (s₁.setTop (entryFrame m #[(.int p1), (.int p2)] 2)) t := fun t k => castTop (ef_9 m p1 p2) k

  obtain ⟨fs, hr, hrun, hended, hW, hsame⟩ := X0.leave (v := some (.int p1)) (fun h => by rw [Bd.returns] at h; cases h)
  refine ⟨_, _, pre0 _ ?_, hrun, hended, _, _, rfl, ?_, ⟨_, rfl⟩, hW, hsame.mono (by decide) (by decide)⟩
  · show Steps p.tables e below (s₁.setTop (mkF m 0 #[.val (.int p1), .val (.int p2)] [])) _
    refine XS.iloadN X0.here hx rfl (hb hby d9_0) rfl ?_
    show Steps p.tables e below (s₁.setTop (mkF m 1 #[.val (.int p1), .val (.int p2)] [(.int p1)])) _
    refine XS.iloadN X0.here hx rfl (hb hby d9_1) rfl ?_
    show Steps p.tables e below (s₁.setTop (mkF m 2 #[.val (.int p1), .val (.int p2)] [(.int p2), (.int p1)])) _
    refine XS.icmpNo X0.here hx rfl (hb hby d9_2) rfl (flt hc2).2.2.1 ?_
    show Steps p.tables e below (s₁.setTop (mkF m 5 #[.val (.int p1), .val (.int p2)] [])) _
    refine XS.iloadN X0.here hx rfl (hb hby d9_5) rfl ?_
    show Steps p.tables e below (s₁.setTop (mkF m 6 #[.val (.int p1), .val (.int p2)] [(.int p1)])) _
    refine XS.goto X0.here hx rfl (pc0 := 6) (pc' := 10) rfl (hb hby d9_6) (by decide) (by decide) ?_
    show Steps p.tables e below (s₁.setTop (mkF m 10 #[.val (.int p1), .val (.int p2)] [(.int p1)])) _
    exact retI X0 hx Bd.returns (hb hby d9_10) hr
  · show Q9 Z p1 p2 h0 n0 _ s₁.heap _
    rw [e0]
    exact ⟨by rw [heq], N0, rfl⟩
theorem rm9 (l : Launch) (Z : State) (a0 : Array Value) (hw : ∀ d ∈ tables_1, d.before a0 Z = true) (ws : List Jvm.Cond) (p1 : Int32) (p2 : Int32) (h0 : Heap) (n0 : Nat) (Z0 : n0 ≤ h0.size) (hle : p2.toInt ≤ p1.toInt) :
    MetFree l (⟨"java/lang/Math", "min", "(II)I"⟩ : MethodName) (head1 (Jvm.Cond.code (⟨"java/lang/Math", "min", "(II)I"⟩ : MethodName) jdk_29_method_69_code 2 (some .int) :: ws) ({ frames := 0, cells := 0, slots := 0, locals := 0 } : Room)) (fun a U => a = #[(.int p1), (.int p2)] ∧ Z.Warmed39 U.vm ∧ U.heap = h0) (fun _ _ _ _ _ => True) (fun _ U o U' => ∃ v L, o = .returned v ∧ Q9 Z p1 p2 h0 n0 v U'.heap L ∧ FrameEnd U o U' L ({ frames := 0, cells := 0, slots := 0, locals := 0 } : Room).cells ({ frames := 0, cells := 0, slots := 0, locals := 0 } : Room).slots) := by
  by_cases hc : p2 < p1
  · exact rm9_t l Z a0 hw ws p1 p2 h0 n0 Z0 hc
  · refine rm9_f l Z a0 hw ws p1 p2 h0 n0 Z0 hc (Int32.toInt_inj.mp ?_)
    rw [Int32.lt_iff_toInt_lt] at hc
    omega
theorem d7_0 : decode jdk_65_method_133_code 0 = .ok (.iload_n 1, 1) := by decide +kernel
theorem d7_1 : decode jdk_65_method_133_code 1 = .ok (.iload_n 2, 1) := by decide +kernel
theorem d7_2 : decode jdk_65_method_133_code 2 = .ok (.invokestatic 343, 3) := by decide +kernel
theorem d7_5 : decode jdk_65_method_133_code 5 = .ok (.iload_n 2, 1) := by decide +kernel
theorem d7_6 : decode jdk_65_method_133_code 6 = .ok (.iload_n 1, 1) := by decide +kernel
theorem d7_7 : decode jdk_65_method_133_code 7 = .ok (.isub, 1) := by decide +kernel
theorem d7_8 : decode jdk_65_method_133_code 8 = .ok (.istore_n 3, 1) := by decide +kernel
theorem d7_9 : decode jdk_65_method_133_code 9 = .ok (.iload_n 3, 1) := by decide +kernel
theorem d7_10 : decode jdk_65_method_133_code 10 = .ok (.newarray .byte, 2) := by decide +kernel
theorem d7_12 : decode jdk_65_method_133_code 12 = .ok (.astore 4, 2) := by decide +kernel
theorem d7_14 : decode jdk_65_method_133_code 14 = .ok (.aload_n 0, 1) := by decide +kernel
theorem d7_15 : decode jdk_65_method_133_code 15 = .ok (.iload_n 1, 1) := by decide +kernel
theorem d7_16 : decode jdk_65_method_133_code 16 = .ok (.aload 4, 2) := by decide +kernel
theorem d7_18 : decode jdk_65_method_133_code 18 = .ok (.iconst 0, 1) := by decide +kernel
theorem d7_19 : decode jdk_65_method_133_code 19 = .ok (.aload_n 0, 1) := by decide +kernel
theorem d7_20 : decode jdk_65_method_133_code 20 = .ok (.arraylength, 1) := by decide +kernel
theorem d7_21 : decode jdk_65_method_133_code 21 = .ok (.iload_n 1, 1) := by decide +kernel
theorem d7_22 : decode jdk_65_method_133_code 22 = .ok (.isub, 1) := by decide +kernel
theorem d7_23 : decode jdk_65_method_133_code 23 = .ok (.iload_n 3, 1) := by decide +kernel
theorem d7_24 : decode jdk_65_method_133_code 24 = .ok (.invokestatic 304, 3) := by decide +kernel
theorem d7_27 : decode jdk_65_method_133_code 27 = .ok (.invokestatic 150, 3) := by decide +kernel
theorem d7_30 : decode jdk_65_method_133_code 30 = .ok (.aload 4, 2) := by decide +kernel
theorem d7_32 : decode jdk_65_method_133_code 32 = .ok (.areturn, 1) := by decide +kernel
theorem pn_7 : plainName "java/util/Arrays" = true := by first | (simp [plainName, overriddenIn]; done) | decide +kernel
theorem pd_7_5 : parseMethodDescriptor "(II)V" = some ⟨[.int, .int], none⟩ := by decide +kernel
theorem pd_7_6 : parseMethodDescriptor "(II)I" = some ⟨[.int, .int], some .int⟩ := by decide +kernel
theorem pd_7_7 : parseMethodDescriptor "(Ljava/lang/Object;ILjava/lang/Object;II)V" = some ⟨[(.object "java/lang/Object"), .int, (.object "java/lang/Object"), .int, .int], none⟩ := by decide +kernel
theorem ef_7 (m : MethodId) (x0 : Addr) (x1 : Int32) (x2 : Int32) : entryFrame m #[(.ref x0), (.int x1), (.int x2)] 5 = mkF m 0 #[.val (.ref x0), .val (.int x1), .val (.int x2), .unset, .unset] [] := by first | (simp [entryFrame, mkF, argsToLocals, Value.category]; done) | rfl
def Q7 (Z : State) (a1 : Addr) (p2 : Int32) (p3 : Int32) (kB : ClassId) (vs : List Value) (h0 : Heap) (n0 : Nat) (v : Option Value) (h : Heap) (L : List Loc) : Prop := v = some (.ref h0.size) ∧ Fr n0 L ∧ Keep h0 h [] ∧ ∃ kR, Arv Z h h0.size kR .byte (p3 - p2) (cut vs p2 p3) (.int (0 : Int32))
set_option maxRecDepth 65536 in
set_option maxHeartbeats 40000000 in
theorem rm7 (l : Launch) (Z : State) (a0 : Array Value) (hw : ∀ d ∈ tables_1, d.before a0 Z = true) (ws : List Jvm.Cond) (a1 : Addr) (p2 : Int32) (p3 : Int32) (kB : ClassId) (vs : List Value) (h0 : Heap) (n0 : Nat) (Z0 : n0 ≤ h0.size) (V : Arv Z h0 a1 kB .byte (8 : Int32) vs (.int (0 : Int32))) (hp0 : 0 ≤ p2.toInt) (hp1 : p2.toInt ≤ p3.toInt) (hp2 : p3.toInt ≤ 8) :
    MetFree l (⟨"java/util/Arrays", "copyOfRangeByte", "([BII)[B"⟩ : MethodName) (head1 (Jvm.Cond.code (⟨"java/util/Arrays", "copyOfRangeByte", "([BII)[B"⟩ : MethodName) jdk_65_method_133_code 5 (some (.array .byte)) :: ws) ({ frames := 1, cells := 1, slots := 8, locals := 40 } : Room)) (fun a U => a = #[(.ref a1), (.int p2), (.int p3)] ∧ Z.Warmed39 U.vm ∧ U.heap = h0) (fun _ _ _ _ _ => True) (fun _ U o U' => ∃ v L, o = .returned v ∧ Q7 Z a1 p2 p3 kB vs h0 n0 v U'.heap L ∧ FrameEnd U o U' L ({ frames := 1, cells := 1, slots := 8, locals := 40 } : Room).cells ({ frames := 1, cells := 1, slots := 8, locals := 40 } : Room).slots) := by
  refine MetFree.of_bodySF (plainFor_of_name pn_7) hisR ?_
  intro p e s m args below meth c s₁ Bd hml0 hP hK
  obtain ⟨rfl, hZ, hh⟩ := hP
  have hx := Bd.exec
  have hby := Bd.bytes
  have hml : c.maxLocals = 5 := hml0
  have hown : s.vm.findClass "java/util/Arrays" = some m.cls := findClass_of_methodNamed Bd.named
  have hnm := (name_of_methodNamed Bd.named Bd.method).1
  have X0 : Stand p l e ({ frames := 1, cells := 1, slots := 8, locals := 40 } : Room) s m #[(.ref a1), (.int p2), (.int p3)] below meth c s₁ [] 0 0 := Stand.of_body Bd
  have e0 : s₁.heap = h0 := by rw [← hh, Bd.state]; rfl
  have N0 := Fr.nil n0
  have pre0 : ∀ t, Steps p.tables e below (s₁.setTop (mkF m 0 #[.val (.ref a1), .val (.int p2), .val (.int p3), .unset, .unset] [])) t → Steps p.tables e below (s₁.setTop (entryFrame m #[(.ref a1), (.int p2), (.int p3)] 5)) t := fun t k => castTop (ef_7 m a1 p2 p3) k
  have hsub : (p3 - p2).toInt = p3.toInt - p2.toInt := own_sub hp0 hp1 hp2
  have hnl : ¬ (p3 < p2) := by rw [Int32.lt_iff_toInt_lt]; omega
  have hn2 : ¬ (p2 < 0) := by rw [Int32.lt_iff_toInt_lt, own_zero]; omega
  have hnn : ¬ ((p3 - p2) < 0) := by rw [Int32.lt_iff_toInt_lt, own_zero]; omega
  have hc2 : p2.toInt = (p2.toNatClampNeg : Int) := own_nat hp0
  have hc3 : (p3 - p2).toInt = ((p3 - p2).toNatClampNeg : Int) := own_nat (by omega)
  have h8n : ((8 : Int32)).toNatClampNeg = 8 := rfl
  have h0n : ((0 : Int32)).toNatClampNeg = 0 := rfl
  obtain ⟨_, _, ⟨T4, L4, k4, n4⟩, -, X4, ⟨Lc4, hQ4, l4, y4, z4⟩, st4⟩ := Jvm.LawKit.callS X0 hx (y := (⟨"java/util/Arrays", "checkLength", "(II)V"⟩ : MethodName)) hown (mvT hZ (hw _ (List.mem_of_getElem? (i := 40) rfl))) (mvT hZ (hw _ (List.mem_of_getElem? (i := 41) rfl))) (mvT hZ (hw _ (List.mem_of_getElem? (i := 35) rfl))) (mvT hZ (hw _ (List.mem_of_getElem? (i := 42) rfl))) (by decide) (backOf (W := 0) (rm8 l Z a0 hw [] p2 p3 h0 n0 Z0 hnl) hZ (hw _ (List.mem_of_getElem? (i := 42) rfl)) (hw _ (List.mem_of_getElem? (i := 35) rfl)) (by decide) (by decide)) (g := (mkF m 2 #[.val (.ref a1), .val (.int p2), .val (.int p3), .unset, .unset] [(.int p3), (.int p2)])) rfl (by rw [hml]; rfl) (argsL := [(.int p2), (.int p3)]) (rest := []) (lenOf pd_7_5 rfl) rfl (by show 2 * 0 + _ ≤ _; exact Nat.le_of_eq rfl) (hb hby d7_2) (fun _ _ => ⟨rfl, e0, (by decide : 0 + 0 ≤ _), (by decide : 0 + 0 ≤ _)⟩)
  dsimp only [Pt.U, Pt.locs, Pt.cells, Pt.slots] at X4 l4 y4 z4 st4 hQ4
  subst l4 y4 z4
  obtain ⟨rfl, N4q, ek4⟩ := hQ4
  have N4 := Fr.app N0 N4q
  obtain ⟨T5, h5, k5, X5, e5, E5, A5, st5⟩ := newP X4 hx hZ (hw _ (List.mem_of_getElem? (i := 0) rfl)) rfl (g := (mkF m 10 #[.val (.ref a1), .val (.int p2), .val (.int p3), .val (.int (p3 - p2)), .unset] [(.int (p3 - p2))])) rfl (hb hby d7_10) rfl hnn (cap := 8) (by omega) (by decide) (by decide) (by decide)
  obtain ⟨b5, g5⟩ : ∃ z, z = T4.heap.size := ⟨_, rfl⟩
  rw [← g5] at A5 st5
  have V_b5 := Arv.new A5 hnn
  have gh : b5 = h0.size := by rw [g5, ek4]
  have g_b5 : n0 ≤ b5 := Nat.le_trans Z0 (Nat.le_of_eq gh.symm)
  have KK4 : Keep h0 T4.heap [] := by rw [ek4]; exact Keep.refl _ _
  have VP : Arv Z h5 b5 k5 .byte (p3 - p2) (List.replicate (p3 - p2).toNatClampNeg (.int (0 : Int32))) (.int (0 : Int32)) := V_b5.pad (pad_rep [] (.int (0 : Int32)) _)
  have VA5 : Arv Z h5 a1 kB .byte (8 : Int32) vs (.int (0 : Int32)) := Arv.ext (by rw [ek4]; exact V) E5
  obtain ⟨cl_a1, Ar_a1, q_a1, S_a1, N_a1, H_a1, G_a1⟩ := id VA5
  have sz_b5 : h0.size ≤ b5 := (Nat.le_trans KK4.1 (Nat.le_of_eq g5.symm))
  have K5 : Keep h0 h5 [] := KK4.ext E5
  have hmin : (p3 - p2).toInt ≤ ((8 : Int32) - p2).toInt := by
    have q := c_isub 8 p2
    have r := rng32 ((8 : Int32) - p2)
    rw [own_eight] at q
    omega
  obtain ⟨_, _, ⟨T6, L6, k6, n6⟩, -, X6, ⟨Lc6, hQ6, l6, y6, z6⟩, st6⟩ := Jvm.LawKit.callS X5 hx (y := (⟨"java/lang/Math", "min", "(II)I"⟩ : MethodName)) hown (mvT hZ (hw _ (List.mem_of_getElem? (i := 43) rfl))) (mvT hZ (hw _ (List.mem_of_getElem? (i := 44) rfl))) (mvT hZ (hw _ (List.mem_of_getElem? (i := 45) rfl))) (mvT hZ (hw _ (List.mem_of_getElem? (i := 46) rfl))) (by decide) (backOf (W := 4) (rm9 l Z a0 hw [] ((8 : Int32) - p2) (p3 - p2) h5 n0 (Nat.le_trans Z0 K5.1) hmin) hZ (hw _ (List.mem_of_getElem? (i := 46) rfl)) (hw _ (List.mem_of_getElem? (i := 45) rfl)) (by decide) (by decide)) (g := (mkF m 24 #[.val (.ref a1), .val (.int p2), .val (.int p3), .val (.int (p3 - p2)), .val (.ref b5)] [(.int (p3 - p2)), (.int ((8 : Int32) - p2)), (.int (0 : Int32)), (.ref b5), (.int p2), (.ref a1)])) rfl (by rw [hml]; rfl) (argsL := [(.int ((8 : Int32) - p2)), (.int (p3 - p2))]) (rest := [(.int (0 : Int32)), (.ref b5), (.int p2), (.ref a1)]) (lenOf pd_7_6 rfl) rfl (by show 2 * 0 + _ ≤ _; exact Nat.le_of_eq rfl) (hb hby d7_24) (fun _ _ => ⟨rfl, e5, (by decide : 1 + 0 ≤ _), (by decide : 8 + 0 ≤ _)⟩)
  dsimp only [Pt.U, Pt.locs, Pt.cells, Pt.slots] at X6 l6 y6 z6 st6 hQ6
  subst l6 y6 z6
  obtain ⟨rfl, N6q, ek6⟩ := hQ6
  have N6 := Fr.app N4 N6q
  have VA6 : Arv Z T6.heap a1 kB .byte (8 : Int32) vs (.int (0 : Int32)) := by rw [ek6]; exact VA5
  have VB6 : Arv Z T6.heap b5 k5 .byte (p3 - p2) (List.replicate (p3 - p2).toNatClampNeg (.int (0 : Int32))) (.int (0 : Int32)) := by rw [ek6]; exact VP
  obtain ⟨T7, h7, L7, X7, e7, N7, KC7, V7, st7⟩ := cpA X6 hx hZ hown (hw _ (List.mem_of_getElem? (i := 47) rfl)) (hw _ (List.mem_of_getElem? (i := 50) rfl)) (hw _ (List.mem_of_getElem? (i := 48) rfl)) (hw _ (List.mem_of_getElem? (i := 49) rfl)) rfl (sp := p2) (dp := (0 : Int32)) (nn := (p3 - p2)) (us := cut vs p2 p3) VA6 VB6 (Or.inl ⟨rfl, rfl⟩) hn2 (by decide) hnn (by rw [h8n]; omega) (by rw [h0n]; omega) rfl (by rw [h0n, List.length_replicate]; omega) N6 g_b5 (g := (mkF m 27 #[.val (.ref a1), .val (.int p2), .val (.int p3), .val (.int (p3 - p2)), .val (.ref b5)] [(.int (p3 - p2)), (.int (0 : Int32)), (.ref b5), (.int p2), (.ref a1)])) rfl (by rw [hml]; rfl) rfl (hb hby d7_27) (by decide) (W := 0) (by show 2 * 0 + _ ≤ _; exact Nat.le_of_eq rfl) (by decide)
  have KK6 : Keep h0 T6.heap [] := by rw [ek6]; exact K5
  have KK7 : Keep h0 h7 [] := KK6.trans KC7 (allS (Or.inr (Nat.le_of_eq gh.symm)) all0)
  have V7' : Arv Z h7 b5 k5 .byte (p3 - p2) (cut vs p2 p3) (.int (0 : Int32)) := V7.pad fun i => by
    rw [h0n, Nat.zero_add, List.take_zero, List.nil_append, List.drop_replicate, Nat.sub_self, List.replicate_zero, List.append_nil]
  obtain ⟨fs, hr, hrun, hended, hW, hsame⟩ := X7.leave (v := some (.ref b5)) (fun h => by rw [Bd.returns] at h; cases h)
  refine ⟨_, _, pre0 _ ?_, hrun, hended, _, _, rfl, ?_, ⟨_, rfl⟩, hW, hsame.mono (by decide) (by decide)⟩
  · show Steps p.tables e below (s₁.setTop (mkF m 0 #[.val (.ref a1), .val (.int p2), .val (.int p3), .unset, .unset] [])) _
    refine XS.iloadN X0.here hx rfl (hb hby d7_0) rfl ?_
    show Steps p.tables e below (s₁.setTop (mkF m 1 #[.val (.ref a1), .val (.int p2), .val (.int p3), .unset, .unset] [(.int p2)])) _
    refine XS.iloadN X0.here hx rfl (hb hby d7_1) rfl ?_
    show Steps p.tables e below (s₁.setTop (mkF m 2 #[.val (.ref a1), .val (.int p2), .val (.int p3), .unset, .unset] [(.int p3), (.int p2)])) _
    refine st4 _ ?_
    show Steps p.tables e below (T4.setTop (mkF m 5 #[.val (.ref a1), .val (.int p2), .val (.int p3), .unset, .unset] [])) _
    refine XS.iloadN X4.here hx rfl (hb hby d7_5) rfl ?_
    show Steps p.tables e below (T4.setTop (mkF m 6 #[.val (.ref a1), .val (.int p2), .val (.int p3), .unset, .unset] [(.int p3)])) _
    refine XS.iloadN X4.here hx rfl (hb hby d7_6) rfl ?_
    show Steps p.tables e below (T4.setTop (mkF m 7 #[.val (.ref a1), .val (.int p2), .val (.int p3), .unset, .unset] [(.int p2), (.int p3)])) _
    refine XS.isub X4.here hx rfl (hb hby d7_7) rfl ?_
    show Steps p.tables e below (T4.setTop (mkF m 8 #[.val (.ref a1), .val (.int p2), .val (.int p3), .unset, .unset] [(.int (p3 - p2))])) _
    refine XS.istoreN X4.here hx rfl (hb hby d7_8) rfl (l' := #[.val (.ref a1), .val (.int p2), .val (.int p3), .val (.int (p3 - p2)), .unset]) rfl ?_
    show Steps p.tables e below (T4.setTop (mkF m 9 #[.val (.ref a1), .val (.int p2), .val (.int p3), .val (.int (p3 - p2)), .unset] [])) _
    refine XS.iloadN X4.here hx rfl (hb hby d7_9) rfl ?_
    show Steps p.tables e below (T4.setTop (mkF m 10 #[.val (.ref a1), .val (.int p2), .val (.int p3), .val (.int (p3 - p2)), .unset] [(.int (p3 - p2))])) _
    refine st5 _ ?_
    show Steps p.tables e below (T5.setTop (mkF m 12 #[.val (.ref a1), .val (.int p2), .val (.int p3), .val (.int (p3 - p2)), .unset] [(.ref b5)])) _
    refine XS.astore X5.here hx rfl (hb hby d7_12) rfl rfl (l' := #[.val (.ref a1), .val (.int p2), .val (.int p3), .val (.int (p3 - p2)), .val (.ref b5)]) rfl ?_
    show Steps p.tables e below (T5.setTop (mkF m 14 #[.val (.ref a1), .val (.int p2), .val (.int p3), .val (.int (p3 - p2)), .val (.ref b5)] [])) _
    refine XS.aloadN X5.here hx rfl (hb hby d7_14) rfl rfl ?_
    show Steps p.tables e below (T5.setTop (mkF m 15 #[.val (.ref a1), .val (.int p2), .val (.int p3), .val (.int (p3 - p2)), .val (.ref b5)] [(.ref a1)])) _
    refine XS.iloadN X5.here hx rfl (hb hby d7_15) rfl ?_
    show Steps p.tables e below (T5.setTop (mkF m 16 #[.val (.ref a1), .val (.int p2), .val (.int p3), .val (.int (p3 - p2)), .val (.ref b5)] [(.int p2), (.ref a1)])) _
    refine XS.aload X5.here hx rfl (hb hby d7_16) rfl rfl ?_
    show Steps p.tables e below (T5.setTop (mkF m 18 #[.val (.ref a1), .val (.int p2), .val (.int p3), .val (.int (p3 - p2)), .val (.ref b5)] [(.ref b5), (.int p2), (.ref a1)])) _
    refine XS.iconst X5.here hx rfl (hb hby d7_18) ?_
    show Steps p.tables e below (T5.setTop (mkF m 19 #[.val (.ref a1), .val (.int p2), .val (.int p3), .val (.int (p3 - p2)), .val (.ref b5)] [(.int (0 : Int32)), (.ref b5), (.int p2), (.ref a1)])) _
    refine XS.aloadN X5.here hx rfl (hb hby d7_19) rfl rfl ?_
    show Steps p.tables e below (T5.setTop (mkF m 20 #[.val (.ref a1), .val (.int p2), .val (.int p3), .val (.int (p3 - p2)), .val (.ref b5)] [(.ref a1), (.int (0 : Int32)), (.ref b5), (.int p2), (.ref a1)])) _
    refine X5.arraylength hx (by rw [e5]; exact Ar_a1.1) (State.isArrayOf_alike hZ.alike Ar_a1.2.1) (g := (mkF m 20 #[.val (.ref a1), .val (.int p2), .val (.int p3), .val (.int (p3 - p2)), .val (.ref b5)] [(.ref a1), (.int (0 : Int32)), (.ref b5), (.int p2), (.ref a1)])) rfl rfl (hb hby d7_20) _ ?_
    rw [len_of S_a1 N_a1]
    show Steps p.tables e below (T5.setTop (mkF m 21 #[.val (.ref a1), .val (.int p2), .val (.int p3), .val (.int (p3 - p2)), .val (.ref b5)] [(.int (8 : Int32)), (.int (0 : Int32)), (.ref b5), (.int p2), (.ref a1)])) _
    refine XS.iloadN X5.here hx rfl (hb hby d7_21) rfl ?_
    show Steps p.tables e below (T5.setTop (mkF m 22 #[.val (.ref a1), .val (.int p2), .val (.int p3), .val (.int (p3 - p2)), .val (.ref b5)] [(.int p2), (.int (8 : Int32)), (.int (0 : Int32)), (.ref b5), (.int p2), (.ref a1)])) _
    refine XS.isub X5.here hx rfl (hb hby d7_22) rfl ?_
    show Steps p.tables e below (T5.setTop (mkF m 23 #[.val (.ref a1), .val (.int p2), .val (.int p3), .val (.int (p3 - p2)), .val (.ref b5)] [(.int ((8 : Int32) - p2)), (.int (0 : Int32)), (.ref b5), (.int p2), (.ref a1)])) _
    refine XS.iloadN X5.here hx rfl (hb hby d7_23) rfl ?_
    show Steps p.tables e below (T5.setTop (mkF m 24 #[.val (.ref a1), .val (.int p2), .val (.int p3), .val (.int (p3 - p2)), .val (.ref b5)] [(.int (p3 - p2)), (.int ((8 : Int32) - p2)), (.int (0 : Int32)), (.ref b5), (.int p2), (.ref a1)])) _
    refine st6 _ ?_
    show Steps p.tables e below (T6.setTop (mkF m 27 #[.val (.ref a1), .val (.int p2), .val (.int p3), .val (.int (p3 - p2)), .val (.ref b5)] [(.int (p3 - p2)), (.int (0 : Int32)), (.ref b5), (.int p2), (.ref a1)])) _
    refine st7 _ ?_
    show Steps p.tables e below (T7.setTop (mkF m 30 #[.val (.ref a1), .val (.int p2), .val (.int p3), .val (.int (p3 - p2)), .val (.ref b5)] [])) _
    refine XS.aload X7.here hx rfl (hb hby d7_30) rfl rfl ?_
    show Steps p.tables e below (T7.setTop (mkF m 32 #[.val (.ref a1), .val (.int p2), .val (.int p3), .val (.int (p3 - p2)), .val (.ref b5)] [(.ref b5)])) _
    jvm_step X7.here [X7.here.top, hx, (hb hby d7_32), X7.method', Bd.returns, Value.isRef, FieldType.isReference]
    first | (intro acts; rw [hr _ acts rfl rfl rfl]) | rw [hr _ _ rfl rfl rfl]
    exact Steps.refl _
  · show Q7 Z a1 p2 p3 kB vs h0 n0 _ T7.heap _
    rw [e7]
    exact ⟨by rw [gh], N7, KK7, k5, by rw [← gh]; exact V7'⟩
def Q6 (Z : State) (a1 : Addr) (p2 : Int32) (p3 : Int32) (kB : ClassId) (vs : List Value) (h0 : Heap) (n0 : Nat) (v : Option Value) (h : Heap) (L : List Loc) : Prop := v = some (.ref h0.size) ∧ Fr n0 L ∧ Keep h0 h [] ∧ ∃ kR, Arv Z h h0.size kR .byte (p3 - p2) (cut vs p2 p3) (.int (0 : Int32))
theorem d6_0 : decode jdk_65_method_132_code 0 = .ok (.iload_n 1, 1) := by decide +kernel
theorem d6_1 : decode jdk_65_method_132_code 1 = .ok (.ifCond .ne 9, 3) := by decide +kernel
theorem d6_10 : decode jdk_65_method_132_code 10 = .ok (.aload_n 0, 1) := by decide +kernel
theorem d6_11 : decode jdk_65_method_132_code 11 = .ok (.iload_n 1, 1) := by decide +kernel
theorem d6_12 : decode jdk_65_method_132_code 12 = .ok (.iload_n 2, 1) := by decide +kernel
theorem d6_13 : decode jdk_65_method_132_code 13 = .ok (.invokestatic 339, 3) := by decide +kernel
theorem d6_16 : decode jdk_65_method_132_code 16 = .ok (.areturn, 1) := by decide +kernel
theorem pn_6 : plainName "java/util/Arrays" = true := by first | (simp [plainName, overriddenIn]; done) | decide +kernel
theorem pd_6_4 : parseMethodDescriptor "([BII)[B" = some ⟨[(.array .byte), .int, .int], some (.array .byte)⟩ := by decide +kernel
theorem ef_6 (m : MethodId) (x0 : Addr) (x1 : Int32) (x2 : Int32) : entryFrame m #[(.ref x0), (.int x1), (.int x2)] 3 = mkF m 0 #[.val (.ref x0), .val (.int x1), .val (.int x2)] [] := by first | (simp [entryFrame, mkF, argsToLocals, Value.category]; done) | rfl
set_option maxRecDepth 65536 in
set_option maxHeartbeats 40000000 in
theorem rm6_t (l : Launch) (Z : State) (a0 : Array Value) (hw : ∀ d ∈ tables_1, d.before a0 Z = true) (ws : List Jvm.Cond) (a1 : Addr) (p2 : Int32) (p3 : Int32) (kB : ClassId) (vs : List Value) (h0 : Heap) (n0 : Nat) (Z0 : n0 ≤ h0.size) (E_a1 : Exa Z h0 a1 "[B") (hvs : vs.length = 8) (V : Arv Z h0 a1 kB .byte (8 : Int32) vs (.int (0 : Int32))) (hp0 : 0 ≤ p2.toInt) (hp1 : p2.toInt ≤ p3.toInt) (hp2 : p3.toInt ≤ 8) (hc1 : ¬ (p2 = (0 : Int32))) :
    MetFree l (⟨"java/util/Arrays", "copyOfRange", "([BII)[B"⟩ : MethodName) (head1 (Jvm.Cond.code (⟨"java/util/Arrays", "copyOfRange", "([BII)[B"⟩ : MethodName) jdk_65_method_132_code 3 (some (.array .byte)) :: ws) ({ frames := 2, cells := 1, slots := 8, locals := 56 } : Room)) (fun a U => a = #[(.ref a1), (.int p2), (.int p3)] ∧ Z.Warmed39 U.vm ∧ U.heap = h0) (fun _ _ _ _ _ => True) (fun _ U o U' => ∃ v L, o = .returned v ∧ Q6 Z a1 p2 p3 kB vs h0 n0 v U'.heap L ∧ FrameEnd U o U' L ({ frames := 2, cells := 1, slots := 8, locals := 56 } : Room).cells ({ frames := 2, cells := 1, slots := 8, locals := 56 } : Room).slots) := by
  refine MetFree.of_bodySF (plainFor_of_name pn_6) hisR ?_
  intro p e s m args below meth c s₁ Bd hml0 hP hK
  obtain ⟨rfl, hZ, hh⟩ := hP
  have hx := Bd.exec
  have hby := Bd.bytes
  have hml : c.maxLocals = 3 := hml0
  have hown : s.vm.findClass "java/util/Arrays" = some m.cls := findClass_of_methodNamed Bd.named
  have hnm := (name_of_methodNamed Bd.named Bd.method).1
  have X0 : Stand p l e ({ frames := 2, cells := 1, slots := 8, locals := 56 } : Room) s m #[(.ref a1), (.int p2), (.int p3)] below meth c s₁ [] 0 0 := Stand.of_body Bd
  have e0 : s₁.heap = h0 := by rw [← hh, Bd.state]; rfl
  have N0 := Fr.nil n0
  have pre0 : ∀ t, Steps p.tables e below (s₁.setTop (mkF m 0 #[.val (.ref a1), .val (.int p2), .val (.int p3)] [])) t → Steps p.tables e below (s₁.setTop (entryFrame m #[(.ref a1), (.int p2), (.int p3)] 3)) t := fun t k => castTop (ef_6 m a1 p2 p3) k
  obtain ⟨_, _, ⟨T4, L4, k4, n4⟩, -, X4, ⟨Lc4, hQ4, l4, y4, z4⟩, st4⟩ := Jvm.LawKit.callS X0 hx (y := (⟨"java/util/Arrays", "copyOfRangeByte", "([BII)[B"⟩ : MethodName)) hown (mvT hZ (hw _ (List.mem_of_getElem? (i := 37) rfl))) (mvT hZ (hw _ (List.mem_of_getElem? (i := 38) rfl))) (mvT hZ (hw _ (List.mem_of_getElem? (i := 35) rfl))) (mvT hZ (hw _ (List.mem_of_getElem? (i := 39) rfl))) (by decide) (backOf (W := 0) (rm7 l Z a0 hw [] a1 p2 p3 kB vs h0 n0 Z0 V hp0 hp1 hp2) hZ (hw _ (List.mem_of_getElem? (i := 39) rfl)) (hw _ (List.mem_of_getElem? (i := 35) rfl)) (by decide) (by decide)) (g := (mkF m 13 #[.val (.ref a1), .val (.int p2), .val (.int p3)] [(.int p3), (.int p2), (.ref a1)])) rfl (by rw [hml]; rfl) (argsL := [(.ref a1), (.int p2), (.int p3)]) (rest := []) (lenOf pd_6_4 rfl) rfl (by show 2 * 0 + _ ≤ _; exact Nat.le_of_eq rfl) (hb hby d6_13) (fun _ _ => ⟨rfl, e0, (by decide : 0 + 1 ≤ _), (by decide : 0 + 8 ≤ _)⟩)
  dsimp only [Pt.U, Pt.locs, Pt.cells, Pt.slots] at X4 l4 y4 z4 st4 hQ4
  subst l4 y4 z4
  obtain ⟨rfl, N4q, KC, kR, VR⟩ := hQ4
  have N4 := Fr.app N0 N4q
  obtain ⟨fs, hr, hrun, hended, hW, hsame⟩ := X4.leave (v := some (.ref h0.size)) (fun h => by rw [Bd.returns] at h; cases h)
  refine ⟨_, _, pre0 _ ?_, hrun, hended, _, _, rfl, ?_, ⟨_, rfl⟩, hW, hsame.mono (by decide) (by decide)⟩
  · show Steps p.tables e below (s₁.setTop (mkF m 0 #[.val (.ref a1), .val (.int p2), .val (.int p3)] [])) _
    refine XS.iloadN X0.here hx rfl (hb hby d6_0) rfl ?_
    show Steps p.tables e below (s₁.setTop (mkF m 1 #[.val (.ref a1), .val (.int p2), .val (.int p3)] [(.int p2)])) _
    refine XS.ifYes X0.here hx rfl (pc0 := 1) (pc' := 10) rfl (hb hby d6_1) rfl ((if0 _ _).trans (feq hc1).2) (by decide) (by decide) ?_
    show Steps p.tables e below (s₁.setTop (mkF m 10 #[.val (.ref a1), .val (.int p2), .val (.int p3)] [])) _
    refine XS.aloadN X0.here hx rfl (hb hby d6_10) rfl rfl ?_
    show Steps p.tables e below (s₁.setTop (mkF m 11 #[.val (.ref a1), .val (.int p2), .val (.int p3)] [(.ref a1)])) _
    refine XS.iloadN X0.here hx rfl (hb hby d6_11) rfl ?_
    show Steps p.tables e below (s₁.setTop (mkF m 12 #[.val (.ref a1), .val (.int p2), .val (.int p3)] [(.int p2), (.ref a1)])) _
    refine XS.iloadN X0.here hx rfl (hb hby d6_12) rfl ?_
    show Steps p.tables e below (s₁.setTop (mkF m 13 #[.val (.ref a1), .val (.int p2), .val (.int p3)] [(.int p3), (.int p2), (.ref a1)])) _
    refine st4 _ ?_
    show Steps p.tables e below (T4.setTop (mkF m 16 #[.val (.ref a1), .val (.int p2), .val (.int p3)] [(.ref h0.size)])) _
    jvm_step X4.here [X4.here.top, hx, (hb hby d6_16), X4.method', Bd.returns, Value.isRef, FieldType.isReference]
    first | (intro acts; rw [hr _ acts rfl rfl rfl]) | rw [hr _ _ rfl rfl rfl]
    exact Steps.refl _
  · show Q6 Z a1 p2 p3 kB vs h0 n0 _ T4.heap _
    exact ⟨rfl, N4, KC, kR, VR⟩
theorem d6_4 : decode jdk_65_method_132_code 4 = .ok (.iload_n 2, 1) := by decide +kernel
theorem d6_5 : decode jdk_65_method_132_code 5 = .ok (.aload_n 0, 1) := by decide +kernel
theorem d6_6 : decode jdk_65_method_132_code 6 = .ok (.arraylength, 1) := by decide +kernel
theorem d6_7 : decode jdk_65_method_132_code 7 = .ok (.if_icmp .eq 10, 3) := by decide +kernel
set_option maxRecDepth 65536 in
set_option maxHeartbeats 40000000 in
theorem rm6_ff (l : Launch) (Z : State) (a0 : Array Value) (hw : ∀ d ∈ tables_1, d.before a0 Z = true) (ws : List Jvm.Cond) (a1 : Addr) (p2 : Int32) (p3 : Int32) (kB : ClassId) (vs : List Value) (h0 : Heap) (n0 : Nat) (Z0 : n0 ≤ h0.size) (E_a1 : Exa Z h0 a1 "[B") (hvs : vs.length = 8) (V : Arv Z h0 a1 kB .byte (8 : Int32) vs (.int (0 : Int32))) (hp0 : 0 ≤ p2.toInt) (hp1 : p2.toInt ≤ p3.toInt) (hp2 : p3.toInt ≤ 8) (hc1 : p2 = (0 : Int32)) (hc7 : ¬ (p3 = (8 : Int32))) :
    MetFree l (⟨"java/util/Arrays", "copyOfRange", "([BII)[B"⟩ : MethodName) (head1 (Jvm.Cond.code (⟨"java/util/Arrays", "copyOfRange", "([BII)[B"⟩ : MethodName) jdk_65_method_132_code 3 (some (.array .byte)) :: ws) ({ frames := 2, cells := 1, slots := 8, locals := 56 } : Room)) (fun a U => a = #[(.ref a1), (.int p2), (.int p3)] ∧ Z.Warmed39 U.vm ∧ U.heap = h0) (fun _ _ _ _ _ => True) (fun _ U o U' => ∃ v L, o = .returned v ∧ Q6 Z a1 p2 p3 kB vs h0 n0 v U'.heap L ∧ FrameEnd U o U' L ({ frames := 2, cells := 1, slots := 8, locals := 56 } : Room).cells ({ frames := 2, cells := 1, slots := 8, locals := 56 } : Room).slots) := by
  refine MetFree.of_bodySF (plainFor_of_name pn_6) hisR ?_
  intro p e s m args below meth c s₁ Bd hml0 hP hK
  obtain ⟨rfl, hZ, hh⟩ := hP
  have hx := Bd.exec
  have hby := Bd.bytes
  have hml : c.maxLocals = 3 := hml0
  have hown : s.vm.findClass "java/util/Arrays" = some m.cls := findClass_of_methodNamed Bd.named
  have hnm := (name_of_methodNamed Bd.named Bd.method).1
  have X0 : Stand p l e ({ frames := 2, cells := 1, slots := 8, locals := 56 } : Room) s m #[(.ref a1), (.int p2), (.int p3)] below meth c s₁ [] 0 0 := Stand.of_body Bd
  have e0 : s₁.heap = h0 := by rw [← hh, Bd.state]; rfl
  have N0 := Fr.nil n0
  have pre0 : ∀ t, Steps p.tables e below (s₁.setTop (mkF m 0 #[.val (.ref a1), .val (.int p2), .val (.int p3)] [])) t → Steps p.tables e below (s₁.setTop (entryFrame m #[(.ref a1), (.int p2), (.int p3)] 3)) t := fun t k => castTop (ef_6 m a1 p2 p3) k
  obtain ⟨cl_a1, Ar_a1, q_a1, S_a1, N_a1, H_a1, G_a1⟩ := id V
  obtain ⟨_, _, ⟨T4, L4, k4, n4⟩, -, X4, ⟨Lc4, hQ4, l4, y4, z4⟩, st4⟩ := Jvm.LawKit.callS X0 hx (y := (⟨"java/util/Arrays", "copyOfRangeByte", "([BII)[B"⟩ : MethodName)) hown (mvT hZ (hw _ (List.mem_of_getElem? (i := 37) rfl))) (mvT hZ (hw _ (List.mem_of_getElem? (i := 38) rfl))) (mvT hZ (hw _ (List.mem_of_getElem? (i := 35) rfl))) (mvT hZ (hw _ (List.mem_of_getElem? (i := 39) rfl))) (by decide) (backOf (W := 0) (rm7 l Z a0 hw [] a1 p2 p3 kB vs h0 n0 Z0 V hp0 hp1 hp2) hZ (hw _ (List.mem_of_getElem? (i := 39) rfl)) (hw _ (List.mem_of_getElem? (i := 35) rfl)) (by decide) (by decide)) (g := (mkF m 13 #[.val (.ref a1), .val (.int p2), .val (.int p3)] [(.int p3), (.int p2), (.ref a1)])) rfl (by rw [hml]; rfl) (argsL := [(.ref a1), (.int p2), (.int p3)]) (rest := []) (lenOf pd_6_4 rfl) rfl (by show 2 * 0 + _ ≤ _; exact Nat.le_of_eq rfl) (hb hby d6_13) (fun _ _ => ⟨rfl, e0, (by decide : 0 + 1 ≤ _), (by decide : 0 + 8 ≤ _)⟩)
  dsimp only [Pt.U, Pt.locs, Pt.cells, Pt.slots] at X4 l4 y4 z4 st4 hQ4
  subst l4 y4 z4
  obtain ⟨rfl, N4q, KC, kR, VR⟩ := hQ4
  have N4 := Fr.app N0 N4q
  obtain ⟨fs, hr, hrun, hended, hW, hsame⟩ := X4.leave (v := some (.ref h0.size)) (fun h => by rw [Bd.returns] at h; cases h)
  refine ⟨_, _, pre0 _ ?_, hrun, hended, _, _, rfl, ?_, ⟨_, rfl⟩, hW, hsame.mono (by decide) (by decide)⟩
  · show Steps p.tables e below (s₁.setTop (mkF m 0 #[.val (.ref a1), .val (.int p2), .val (.int p3)] [])) _
    refine XS.iloadN X0.here hx rfl (hb hby d6_0) rfl ?_
    show Steps p.tables e below (s₁.setTop (mkF m 1 #[.val (.ref a1), .val (.int p2), .val (.int p3)] [(.int p2)])) _
    refine XS.ifNo X0.here hx rfl (hb hby d6_1) rfl ((if0 _ _).trans (teq hc1).2) ?_
    show Steps p.tables e below (s₁.setTop (mkF m 4 #[.val (.ref a1), .val (.int p2), .val (.int p3)] [])) _
    refine XS.iloadN X0.here hx rfl (hb hby d6_4) rfl ?_
    show Steps p.tables e below (s₁.setTop (mkF m 5 #[.val (.ref a1), .val (.int p2), .val (.int p3)] [(.int p3)])) _
    refine XS.aloadN X0.here hx rfl (hb hby d6_5) rfl rfl ?_
    show Steps p.tables e below (s₁.setTop (mkF m 6 #[.val (.ref a1), .val (.int p2), .val (.int p3)] [(.ref a1), (.int p3)])) _
    refine X0.arraylength hx (by rw [e0]; exact Ar_a1.1) (State.isArrayOf_alike hZ.alike Ar_a1.2.1) (g := (mkF m 6 #[.val (.ref a1), .val (.int p2), .val (.int p3)] [(.ref a1), (.int p3)])) rfl rfl (hb hby d6_6) _ ?_
    rw [len_of S_a1 N_a1]
    show Steps p.tables e below (s₁.setTop (mkF m 7 #[.val (.ref a1), .val (.int p2), .val (.int p3)] [(.int (8 : Int32)), (.int p3)])) _
    refine XS.icmpNo X0.here hx rfl (hb hby d6_7) rfl (feq hc7).1 ?_
    show Steps p.tables e below (s₁.setTop (mkF m 10 #[.val (.ref a1), .val (.int p2), .val (.int p3)] [])) _
    refine XS.aloadN X0.here hx rfl (hb hby d6_10) rfl rfl ?_
    show Steps p.tables e below (s₁.setTop (mkF m 11 #[.val (.ref a1), .val (.int p2), .val (.int p3)] [(.ref a1)])) _
    refine XS.iloadN X0.here hx rfl (hb hby d6_11) rfl ?_
    show Steps p.tables e below (s₁.setTop (mkF m 12 #[.val (.ref a1), .val (.int p2), .val (.int p3)] [(.int p2), (.ref a1)])) _
    refine XS.iloadN X0.here hx rfl (hb hby d6_12) rfl ?_
    show Steps p.tables e below (s₁.setTop (mkF m 13 #[.val (.ref a1), .val (.int p2), .val (.int p3)] [(.int p3), (.int p2), (.ref a1)])) _
    refine st4 _ ?_
    show Steps p.tables e below (T4.setTop (mkF m 16 #[.val (.ref a1), .val (.int p2), .val (.int p3)] [(.ref h0.size)])) _
    jvm_step X4.here [X4.here.top, hx, (hb hby d6_16), X4.method', Bd.returns, Value.isRef, FieldType.isReference]
    first | (intro acts; rw [hr _ acts rfl rfl rfl]) | rw [hr _ _ rfl rfl rfl]
    exact Steps.refl _
  · show Q6 Z a1 p2 p3 kB vs h0 n0 _ T4.heap _
    exact ⟨rfl, N4, KC, kR, VR⟩
theorem d6_17 : decode jdk_65_method_132_code 17 = .ok (.aload_n 0, 1) := by decide +kernel
theorem d6_18 : decode jdk_65_method_132_code 18 = .ok (.invokevirtual 310, 3) := by decide +kernel
theorem d6_21 : decode jdk_65_method_132_code 21 = .ok (.checkcast 311, 3) := by decide +kernel
theorem d6_24 : decode jdk_65_method_132_code 24 = .ok (.areturn, 1) := by decide +kernel
theorem pd_6_9 : parseMethodDescriptor "()Ljava/lang/Object;" = some ⟨[], some (.object "java/lang/Object")⟩ := by decide +kernel
set_option maxRecDepth 65536 in
set_option maxHeartbeats 40000000 in
theorem rm6_ft (l : Launch) (Z : State) (a0 : Array Value) (hw : ∀ d ∈ tables_1, d.before a0 Z = true) (ws : List Jvm.Cond) (a1 : Addr) (p2 : Int32) (p3 : Int32) (kB : ClassId) (vs : List Value) (h0 : Heap) (n0 : Nat) (Z0 : n0 ≤ h0.size) (E_a1 : Exa Z h0 a1 "[B") (hvs : vs.length = 8) (V : Arv Z h0 a1 kB .byte (8 : Int32) vs (.int (0 : Int32))) (hp0 : 0 ≤ p2.toInt) (hp1 : p2.toInt ≤ p3.toInt) (hp2 : p3.toInt ≤ 8) (hc1 : p2 = (0 : Int32)) (hc7 : p3 = (8 : Int32)) :
    MetFree l (⟨"java/util/Arrays", "copyOfRange", "([BII)[B"⟩ : MethodName) (head1 (Jvm.Cond.code (⟨"java/util/Arrays", "copyOfRange", "([BII)[B"⟩ : MethodName) jdk_65_method_132_code 3 (some (.array .byte)) :: ws) ({ frames := 2, cells := 1, slots := 8, locals := 56 } : Room)) (fun a U => a = #[(.ref a1), (.int p2), (.int p3)] ∧ Z.Warmed39 U.vm ∧ U.heap = h0) (fun _ _ _ _ _ => True) (fun _ U o U' => ∃ v L, o = .returned v ∧ Q6 Z a1 p2 p3 kB vs h0 n0 v U'.heap L ∧ FrameEnd U o U' L ({ frames := 2, cells := 1, slots := 8, locals := 56 } : Room).cells ({ frames := 2, cells := 1, slots := 8, locals := 56 } : Room).slots) := by
  refine MetFree.of_bodySF (plainFor_of_name pn_6) hisR ?_
  intro p e s m args below meth c s₁ Bd hml0 hP hK
  obtain ⟨rfl, hZ, hh⟩ := hP
  have hx := Bd.exec
  have hby := Bd.bytes
  have hml : c.maxLocals = 3 := hml0
  have hown : s.vm.findClass "java/util/Arrays" = some m.cls := findClass_of_methodNamed Bd.named
  have hnm := (name_of_methodNamed Bd.named Bd.method).1
  have X0 : Stand p l e ({ frames := 2, cells := 1, slots := 8, locals := 56 } : Room) s m #[(.ref a1), (.int p2), (.int p3)] below meth c s₁ [] 0 0 := Stand.of_body Bd
  have e0 : s₁.heap = h0 := by rw [← hh, Bd.state]; rfl
  have N0 := Fr.nil n0
  have pre0 : ∀ t, Steps p.tables e below (s₁.setTop (mkF m 0 #[.val (.ref a1), .val (.int p2), .val (.int p3)] [])) t → Steps p.tables e below (s₁.setTop (entryFrame m #[(.ref a1), (.int p2), (.int p3)] 3)) t := fun t k => castTop (ef_6 m a1 p2 p3) k
  obtain ⟨cl_a1, Ar_a1, q_a1, S_a1, N_a1, H_a1, G_a1⟩ := id V
  obtain ⟨T4, h4, X4, e4, E4, AH4, EX4, st4⟩ := cloneH X0 hx hZ hown (hw _ (List.mem_of_getElem? (i := 54) rfl)) (hw _ (List.mem_of_getElem? (i := 55) rfl)) (hw _ (List.mem_of_getElem? (i := 59) rfl)) (hw _ (List.mem_of_getElem? (i := 57) rfl)) (hw _ (List.mem_of_getElem? (i := 58) rfl)) (hw _ (List.mem_of_getElem? (i := 60) rfl)) e0 V.arh E_a1 (g := (mkF m 18 #[.val (.ref a1), .val (.int p2), .val (.int p3)] [(.ref a1)])) rfl (by rw [hml]; rfl) rfl (hb hby d6_18) (by decide) (W := 0) (cap := 8) (by show 2 * 0 + _ ≤ _; exact Nat.le_of_eq rfl) (by decide) (by decide) (by decide) (by decide)
  obtain ⟨b4, g4⟩ : ∃ z, z = h0.size := ⟨_, rfl⟩
  rw [← g4] at AH4 EX4 st4
  have V4 : Arv Z h4 b4 kB .byte (8 : Int32) vs (.int (0 : Int32)) := AH4
  have I4 : Ins Z h4 b4 "[B" true := Ins.self EX4
  obtain ⟨T5, X5, e5, st5⟩ := castY X4 hx hZ hown (hw _ (List.mem_of_getElem? (i := 61) rfl)) e4 I4 (g := (mkF m 21 #[.val (.ref a1), .val (.int p2), .val (.int p3)] [(.ref b4)])) rfl rfl (hb hby d6_21)
  have K5 : Keep h0 h4 [] := (Keep.refl h0 []).ext E4
  obtain ⟨fs, hr, hrun, hended, hW, hsame⟩ := X5.leave (v := some (.ref b4)) (fun h => by rw [Bd.returns] at h; cases h)
  refine ⟨_, _, pre0 _ ?_, hrun, hended, _, _, rfl, ?_, ⟨_, rfl⟩, hW, hsame.mono (by decide) (by decide)⟩
  · show Steps p.tables e below (s₁.setTop (mkF m 0 #[.val (.ref a1), .val (.int p2), .val (.int p3)] [])) _
    refine XS.iloadN X0.here hx rfl (hb hby d6_0) rfl ?_
    show Steps p.tables e below (s₁.setTop (mkF m 1 #[.val (.ref a1), .val (.int p2), .val (.int p3)] [(.int p2)])) _
    refine XS.ifNo X0.here hx rfl (hb hby d6_1) rfl ((if0 _ _).trans (teq hc1).2) ?_
    show Steps p.tables e below (s₁.setTop (mkF m 4 #[.val (.ref a1), .val (.int p2), .val (.int p3)] [])) _
    refine XS.iloadN X0.here hx rfl (hb hby d6_4) rfl ?_
    show Steps p.tables e below (s₁.setTop (mkF m 5 #[.val (.ref a1), .val (.int p2), .val (.int p3)] [(.int p3)])) _
    refine XS.aloadN X0.here hx rfl (hb hby d6_5) rfl rfl ?_
    show Steps p.tables e below (s₁.setTop (mkF m 6 #[.val (.ref a1), .val (.int p2), .val (.int p3)] [(.ref a1), (.int p3)])) _
    refine X0.arraylength hx (by rw [e0]; exact Ar_a1.1) (State.isArrayOf_alike hZ.alike Ar_a1.2.1) (g := (mkF m 6 #[.val (.ref a1), .val (.int p2), .val (.int p3)] [(.ref a1), (.int p3)])) rfl rfl (hb hby d6_6) _ ?_
    rw [len_of S_a1 N_a1]
    show Steps p.tables e below (s₁.setTop (mkF m 7 #[.val (.ref a1), .val (.int p2), .val (.int p3)] [(.int (8 : Int32)), (.int p3)])) _
    refine XS.icmpYes X0.here hx rfl (pc0 := 7) (pc' := 17) rfl (hb hby d6_7) rfl (teq hc7).1 (by decide) (by decide) ?_
    show Steps p.tables e below (s₁.setTop (mkF m 17 #[.val (.ref a1), .val (.int p2), .val (.int p3)] [])) _
    refine XS.aloadN X0.here hx rfl (hb hby d6_17) rfl rfl ?_
    show Steps p.tables e below (s₁.setTop (mkF m 18 #[.val (.ref a1), .val (.int p2), .val (.int p3)] [(.ref a1)])) _
    refine st4 _ ?_
    show Steps p.tables e below (T4.setTop (mkF m 21 #[.val (.ref a1), .val (.int p2), .val (.int p3)] [(.ref b4)])) _
    refine st5 _ ?_
    show Steps p.tables e below (T5.setTop (mkF m 24 #[.val (.ref a1), .val (.int p2), .val (.int p3)] [(.ref b4)])) _
    jvm_step X5.here [X5.here.top, hx, (hb hby d6_24), X5.method', Bd.returns, Value.isRef, FieldType.isReference]
    first | (intro acts; rw [hr _ acts rfl rfl rfl]) | rw [hr _ _ rfl rfl rfl]
    exact Steps.refl _
  · show Q6 Z a1 p2 p3 kB vs h0 n0 _ T5.heap _
    rw [e5]
    subst hc1 hc7 g4
    have e8 : ((8 : Int32) - (0 : Int32)) = (8 : Int32) := by decide
    refine ⟨rfl, N0, K5, kB, ?_⟩
    rw [e8]
    refine V4.pad fun i => ?_
    by_cases hi : i < 8
    · exact (own_cut vs 0 8 i (by rw [e8]; exact hi)).trans (by rw [show (0 : Int32).toNatClampNeg = 0 from rfl, Nat.zero_add])
    · simp only [List.getD_eq_getElem?_getD]
      rw [List.getElem?_eq_none (by rw [cut, List.length_map, List.length_range, e8, show (8 : Int32).toNatClampNeg = 8 from rfl]; omega), List.getElem?_eq_none (by omega)]
theorem rm6 (l : Launch) (Z : State) (a0 : Array Value) (hw : ∀ d ∈ tables_1, d.before a0 Z = true) (ws : List Jvm.Cond) (a1 : Addr) (p2 : Int32) (p3 : Int32) (kB : ClassId) (vs : List Value) (h0 : Heap) (n0 : Nat) (Z0 : n0 ≤ h0.size) (E_a1 : Exa Z h0 a1 "[B") (hvs : vs.length = 8) (V : Arv Z h0 a1 kB .byte (8 : Int32) vs (.int (0 : Int32))) (hp0 : 0 ≤ p2.toInt) (hp1 : p2.toInt ≤ p3.toInt) (hp2 : p3.toInt ≤ 8) :
    MetFree l (⟨"java/util/Arrays", "copyOfRange", "([BII)[B"⟩ : MethodName) (head1 (Jvm.Cond.code (⟨"java/util/Arrays", "copyOfRange", "([BII)[B"⟩ : MethodName) jdk_65_method_132_code 3 (some (.array .byte)) :: ws) ({ frames := 2, cells := 1, slots := 8, locals := 56 } : Room)) (fun a U => a = #[(.ref a1), (.int p2), (.int p3)] ∧ Z.Warmed39 U.vm ∧ U.heap = h0) (fun _ _ _ _ _ => True) (fun _ U o U' => ∃ v L, o = .returned v ∧ Q6 Z a1 p2 p3 kB vs h0 n0 v U'.heap L ∧ FrameEnd U o U' L ({ frames := 2, cells := 1, slots := 8, locals := 56 } : Room).cells ({ frames := 2, cells := 1, slots := 8, locals := 56 } : Room).slots) := by
  by_cases hc1 : p2 = (0 : Int32)
  · by_cases hc7 : p3 = (8 : Int32)
    · exact rm6_ft l Z a0 hw ws a1 p2 p3 kB vs h0 n0 Z0 E_a1 hvs V hp0 hp1 hp2 hc1 hc7
    · exact rm6_ff l Z a0 hw ws a1 p2 p3 kB vs h0 n0 Z0 E_a1 hvs V hp0 hp1 hp2 hc1 hc7
  · exact rm6_t l Z a0 hw ws a1 p2 p3 kB vs h0 n0 Z0 E_a1 hvs V hp0 hp1 hp2 hc1
theorem d5_0 : decode prog_3_method_9_code 0 = .ok (.aload_n 0, 1) := by decide +kernel
theorem d5_1 : decode prog_3_method_9_code 1 = .ok (.getfield 7, 3) := by decide +kernel
theorem d5_4 : decode prog_3_method_9_code 4 = .ok (.aload_n 0, 1) := by decide +kernel
theorem d5_5 : decode prog_3_method_9_code 5 = .ok (.getfield 17, 3) := by decide +kernel
theorem d5_8 : decode prog_3_method_9_code 8 = .ok (.aload_n 0, 1) := by decide +kernel
theorem d5_9 : decode prog_3_method_9_code 9 = .ok (.getfield 20, 3) := by decide +kernel
theorem d5_12 : decode prog_3_method_9_code 12 = .ok (.invokestatic 97, 3) := by decide +kernel
theorem d5_15 : decode prog_3_method_9_code 15 = .ok (.areturn, 1) := by decide +kernel
theorem pn_5 : plainName "com/example/ticketbridge/ticketbridge/io/Der" = true := by first | (simp [plainName, overriddenIn]; done) | decide +kernel
theorem pd_5_4 : parseMethodDescriptor "([BII)[B" = some ⟨[(.array .byte), .int, .int], some (.array .byte)⟩ := by decide +kernel
theorem ef_5 (m : MethodId) (x0 : Addr) : entryFrame m #[(.ref x0)] 1 = mkF m 0 #[.val (.ref x0)] [] := by first | (simp [entryFrame, mkF, argsToLocals, Value.category]; done) | rfl
def Q5 (Z : State) (a1 : Addr) (w2 : Addr) (w4 : Int32) (w6 : Int32) (kB : ClassId) (vs : List Value) (h0 : Heap) (n0 : Nat) (v : Option Value) (h : Heap) (L : List Loc) : Prop := v = some (.ref h0.size) ∧ Fr n0 L ∧ Keep h0 h [] ∧ ∃ kR, Arv Z h h0.size kR .byte (w6 - w4) (cut vs w4 w6) (.int (0 : Int32))
set_option maxRecDepth 65536 in
set_option maxHeartbeats 40000000 in
theorem rm5 (l : Launch) (Z : State) (a0 : Array Value) (hw : ∀ d ∈ tables_1, d.before a0 Z = true) (ws : List Jvm.Cond) (a1 : Addr) (w2 : Addr) (w4 : Int32) (w6 : Int32) (kB : ClassId) (vs : List Value) (h0 : Heap) (n0 : Nat) (Z0 : n0 ≤ h0.size) (F_source_a1 : Fld Z h0 a1 "com/example/ticketbridge/ticketbridge/io/Der" "source" "[B" (.ref w2)) (F_start_a1 : Fld Z h0 a1 "com/example/ticketbridge/ticketbridge/io/Der" "start" "I" (.int w4)) (F_end_a1 : Fld Z h0 a1 "com/example/ticketbridge/ticketbridge/io/Der" "end" "I" (.int w6)) (E_w2 : Exa Z h0 w2 "[B") (hvs : vs.length = 8) (V : Arv Z h0 w2 kB .byte (8 : Int32) vs (.int (0 : Int32))) (hp0 : 0 ≤ w4.toInt) (hp1 : w4.toInt ≤ w6.toInt) (hp2 : w6.toInt ≤ 8) :
    MetFree l (⟨"com/example/ticketbridge/ticketbridge/io/Der", "content", "()[B"⟩ : MethodName) (head1 (Jvm.Cond.code (⟨"com/example/ticketbridge/ticketbridge/io/Der", "content", "()[B"⟩ : MethodName) prog_3_method_9_code 1 (some (.array .byte)) :: ws) ({ frames := 3, cells := 1, slots := 8, locals := 70 } : Room)) (fun a U => a = #[(.ref a1)] ∧ Z.Warmed39 U.vm ∧ U.heap = h0) (fun _ _ _ _ _ => True) (fun _ U o U' => ∃ v L, o = .returned v ∧ Q5 Z a1 w2 w4 w6 kB vs h0 n0 v U'.heap L ∧ FrameEnd U o U' L ({ frames := 3, cells := 1, slots := 8, locals := 70 } : Room).cells ({ frames := 3, cells := 1, slots := 8, locals := 70 } : Room).slots) := by
  refine MetFree.of_bodySF (plainFor_of_name pn_5) hisR ?_
  intro p e s m args below meth c s₁ Bd hml0 hP hK
  obtain ⟨rfl, hZ, hh⟩ := hP
  have hx := Bd.exec
  have hby := Bd.bytes
  have hml : c.maxLocals = 1 := hml0
  have hown : s.vm.findClass "com/example/ticketbridge/ticketbridge/io/Der" = some m.cls := findClass_of_methodNamed Bd.named
  have hnm := (name_of_methodNamed Bd.named Bd.method).1
  have X0 : Stand p l e ({ frames := 3, cells := 1, slots := 8, locals := 70 } : Room) s m #[(.ref a1)] below meth c s₁ [] 0 0 := Stand.of_body Bd
  have e0 : s₁.heap = h0 := by rw [← hh, Bd.state]; rfl
  have N0 := Fr.nil n0
  have pre0 : ∀ t, Steps p.tables e below (s₁.setTop (mkF m 0 #[.val (.ref a1)] [])) t → Steps p.tables e below (s₁.setTop (entryFrame m #[(.ref a1)] 1)) t := fun t k => castTop (ef_5 m a1) k
  obtain ⟨T3, X3, e3, st3⟩ := getF X0 hx hZ hown (host := "") (Or.inl (hw _ (List.mem_of_getElem? (i := 20) rfl))) Via.refl e0 F_source_a1 (g := (mkF m 1 #[.val (.ref a1)] [(.ref a1)])) rfl rfl (hb hby d5_1)
  obtain ⟨T5, X5, e5, st5⟩ := getF X3 hx hZ hown (host := "") (Or.inl (hw _ (List.mem_of_getElem? (i := 24) rfl))) Via.refl e3 F_start_a1 (g := (mkF m 5 #[.val (.ref a1)] [(.ref a1), (.ref w2)])) rfl rfl (hb hby d5_5)
  obtain ⟨T7, X7, e7, st7⟩ := getF X5 hx hZ hown (host := "") (Or.inl (hw _ (List.mem_of_getElem? (i := 26) rfl))) Via.refl e5 F_end_a1 (g := (mkF m 9 #[.val (.ref a1)] [(.ref a1), (.int w4), (.ref w2)])) rfl rfl (hb hby d5_9)
  obtain ⟨_, _, ⟨T8, L8, k8, n8⟩, -, X8, ⟨Lc8, hQ8, l8, y8, z8⟩, st8⟩ := Jvm.LawKit.callS X7 hx (y := (⟨"java/util/Arrays", "copyOfRange", "([BII)[B"⟩ : MethodName)) hown (mvT hZ (hw _ (List.mem_of_getElem? (i := 33) rfl))) (mvT hZ (hw _ (List.mem_of_getElem? (i := 34) rfl))) (mvT hZ (hw _ (List.mem_of_getElem? (i := 35) rfl))) (mvT hZ (hw _ (List.mem_of_getElem? (i := 36) rfl))) (by decide) (backOf (W := 0) (rm6 l Z a0 hw [] w2 w4 w6 kB vs h0 n0 Z0 E_w2 hvs V hp0 hp1 hp2) hZ (hw _ (List.mem_of_getElem? (i := 36) rfl)) (hw _ (List.mem_of_getElem? (i := 35) rfl)) (by decide) (by decide)) (g := (mkF m 12 #[.val (.ref a1)] [(.int w6), (.int w4), (.ref w2)])) rfl (by rw [hml]; rfl) (argsL := [(.ref w2), (.int w4), (.int w6)]) (rest := []) (lenOf pd_5_4 rfl) rfl (by show 2 * 0 + _ ≤ _; exact Nat.le_of_eq rfl) (hb hby d5_12) (fun _ _ => ⟨rfl, e7, (by decide : 0 + 1 ≤ _), (by decide : 0 + 8 ≤ _)⟩)
  dsimp only [Pt.U, Pt.locs, Pt.cells, Pt.slots] at X8 l8 y8 z8 st8 hQ8
  subst l8 y8 z8
  obtain ⟨rfl, N8q, KC, kR, VR⟩ := hQ8
  have N8 := Fr.app N0 N8q
  obtain ⟨fs, hr, hrun, hended, hW, hsame⟩ := X8.leave (v := some (.ref h0.size)) (fun h => by rw [Bd.returns] at h; cases h)
  refine ⟨_, _, pre0 _ ?_, hrun, hended, _, _, rfl, ?_, ⟨_, rfl⟩, hW, hsame.mono (by decide) (by decide)⟩
  · show Steps p.tables e below (s₁.setTop (mkF m 0 #[.val (.ref a1)] [])) _
    refine XS.aloadN X0.here hx rfl (hb hby d5_0) rfl rfl ?_
    show Steps p.tables e below (s₁.setTop (mkF m 1 #[.val (.ref a1)] [(.ref a1)])) _
    refine st3 _ ?_
    show Steps p.tables e below (T3.setTop (mkF m 4 #[.val (.ref a1)] [(.ref w2)])) _
    refine XS.aloadN X3.here hx rfl (hb hby d5_4) rfl rfl ?_
    show Steps p.tables e below (T3.setTop (mkF m 5 #[.val (.ref a1)] [(.ref a1), (.ref w2)])) _
    refine st5 _ ?_
    show Steps p.tables e below (T5.setTop (mkF m 8 #[.val (.ref a1)] [(.int w4), (.ref w2)])) _
    refine XS.aloadN X5.here hx rfl (hb hby d5_8) rfl rfl ?_
    show Steps p.tables e below (T5.setTop (mkF m 9 #[.val (.ref a1)] [(.ref a1), (.int w4), (.ref w2)])) _
    refine st7 _ ?_
    show Steps p.tables e below (T7.setTop (mkF m 12 #[.val (.ref a1)] [(.int w6), (.int w4), (.ref w2)])) _
    refine st8 _ ?_
    show Steps p.tables e below (T8.setTop (mkF m 15 #[.val (.ref a1)] [(.ref h0.size)])) _
    jvm_step X8.here [X8.here.top, hx, (hb hby d5_15), X8.method', Bd.returns, Value.isRef, FieldType.isReference]
    first | (intro acts; rw [hr _ acts rfl rfl rfl]) | rw [hr _ _ rfl rfl rfl]
    exact Steps.refl _
  · show Q5 Z a1 w2 w4 w6 kB vs h0 n0 _ T8.heap _
    exact ⟨rfl, N8, KC, kR, VR⟩
def Q10 (Z : State) (a1 : Addr) (p2 : Int32) (q3 : Int64) (p4 : Int32) (kR : ClassId) (z : Int32) (us : List Value) (h0 : Heap) (n0 : Nat) (v : Option Value) (h : Heap) (L : List Loc) : Prop := v = some (.int (1 : Int32)) ∧ Fr n0 L ∧ h = h0
theorem d10_0 : decode method_4_code 0 = .ok (.iload_n 1, 1) := by decide +kernel
theorem d10_1 : decode method_4_code 1 = .ok (.aload_n 0, 1) := by decide +kernel
theorem d10_2 : decode method_4_code 2 = .ok (.arraylength, 1) := by decide +kernel
theorem d10_3 : decode method_4_code 3 = .ok (.if_icmp .ge 17, 3) := by decide +kernel
theorem d10_20 : decode method_4_code 20 = .ok (.iconst 1, 1) := by decide +kernel
theorem d10_21 : decode method_4_code 21 = .ok (.goto 4, 3) := by decide +kernel
theorem d10_25 : decode method_4_code 25 = .ok (.ireturn, 1) := by decide +kernel
theorem pn_10 : plainName "com/example/ticketbridge/ticketbridge/io/DerContentPinLaw" = true := by first | (simp [plainName, overriddenIn]; done) | decide +kernel
theorem ef_10 (m : MethodId) (x0 : Addr) (x1 : Int32) (x2 : Int64) (x3 : Int32) : entryFrame m #[(.ref x0), (.int x1), (.long x2), (.int x3)] 5 = mkF m 0 #[.val (.ref x0), .val (.int x1), .val (.long x2), .second, .val (.int x3)] [] := by first | (simp [entryFrame, mkF, argsToLocals, Value.category]; done) | rfl
set_option maxRecDepth 65536 in
set_option maxHeartbeats 40000000 in
theorem rm10_t (l : Launch) (Z : State) (a0 : Array Value) (hw : ∀ d ∈ tables_1, d.before a0 Z = true) (ws : List Jvm.Cond) (a1 : Addr) (p2 : Int32) (q3 : Int64) (p4 : Int32) (kR : ClassId) (z : Int32) (us : List Value) (h0 : Heap) (n0 : Nat) (Z0 : n0 ≤ h0.size) (V : Arv Z h0 a1 kR .byte z us (.int (0 : Int32))) (hi : ¬ p2 < 0) (hval : p2 < z → us.getD p2.toNatClampNeg (.int (0 : Int32)) = .int (bA q3 (p4 + p2))) (hc3 : ¬ (p2 < z)) :
    MetFree l (⟨"com/example/ticketbridge/ticketbridge/io/DerContentPinLaw", "at", "([BIJI)Z"⟩ : MethodName) (head1 (Jvm.Cond.code (⟨"com/example/ticketbridge/ticketbridge/io/DerContentPinLaw", "at", "([BIJI)Z"⟩ : MethodName) method_4_code 5 (some .boolean) :: ws) ({ frames := 1, cells := 0, slots := 0, locals := 15 } : Room)) (fun a U => a = #[(.ref a1), (.int p2), (.long q3), (.int p4)] ∧ Z.Warmed39 U.vm ∧ U.heap = h0) (fun _ _ _ _ _ => True) (fun _ U o U' => ∃ v L, o = .returned v ∧ Q10 Z a1 p2 q3 p4 kR z us h0 n0 v U'.heap L ∧ FrameEnd U o U' L ({ frames := 1, cells := 0, slots := 0, locals := 15 } : Room).cells ({ frames := 1, cells := 0, slots := 0, locals := 15 } : Room).slots) := by
  refine MetFree.of_bodySF (plainFor_of_name pn_10) hisR ?_
  intro p e s m args below meth c s₁ Bd hml0 hP hK
  obtain ⟨rfl, hZ, hh⟩ := hP
  have hx := Bd.exec
  have hby := Bd.bytes
  have hml : c.maxLocals = 5 := hml0
  have hown : s.vm.findClass "com/example/ticketbridge/ticketbridge/io/DerContentPinLaw" = some m.cls := findClass_of_methodNamed Bd.named
  have hnm := (name_of_methodNamed Bd.named Bd.method).1
  have X0 : Stand p l e ({ frames := 1, cells := 0, slots := 0, locals := 15 } : Room) s m #[(.ref a1), (.int p2), (.long q3), (.int p4)] below meth c s₁ [] 0 0 := Stand.of_body Bd
  have e0 : s₁.heap = h0 := by rw [← hh, Bd.state]; rfl
  have N0 := Fr.nil n0
  have pre0 : ∀ t, Steps p.tables e below (s₁.setTop (mkF m 0 #[.val (.ref a1), .val (.int p2), .val (.long q3), .second, .val (.int p4)] [])) t → Steps p.tables e below (s₁.setTop (entryFrame m #[(.ref a1), (.int p2), (.long q3), (.int p4)] 5)) t := fun t k => castTop (ef_10 m a1 p2 q3 p4) k
  obtain ⟨cl_a1, Ar_a1, q_a1, S_a1, N_a1, H_a1, G_a1⟩ := id V

  obtain ⟨fs, hr, hrun, hended, hW, hsame⟩ := X0.leave (v := some (.int (1 : Int32))) (fun h => by rw [Bd.returns] at h; cases h)
  refine ⟨_, _, pre0 _ ?_, hrun, hended, _, _, rfl, ?_, ⟨_, rfl⟩, hW, hsame.mono (by decide) (by decide)⟩
  · show Steps p.tables e below (s₁.setTop (mkF m 0 #[.val (.ref a1), .val (.int p2), .val (.long q3), .second, .val (.int p4)] [])) _
    refine XS.iloadN X0.here hx rfl (hb hby d10_0) rfl ?_
    show Steps p.tables e below (s₁.setTop (mkF m 1 #[.val (.ref a1), .val (.int p2), .val (.long q3), .second, .val (.int p4)] [(.int p2)])) _
    refine XS.aloadN X0.here hx rfl (hb hby d10_1) rfl rfl ?_
    show Steps p.tables e below (s₁.setTop (mkF m 2 #[.val (.ref a1), .val (.int p2), .val (.long q3), .second, .val (.int p4)] [(.ref a1), (.int p2)])) _
    refine X0.arraylength hx (by rw [e0]; exact Ar_a1.1) (State.isArrayOf_alike hZ.alike Ar_a1.2.1) (g := (mkF m 2 #[.val (.ref a1), .val (.int p2), .val (.long q3), .second, .val (.int p4)] [(.ref a1), (.int p2)])) rfl rfl (hb hby d10_2) _ ?_
    rw [len_of S_a1 N_a1]
    show Steps p.tables e below (s₁.setTop (mkF m 3 #[.val (.ref a1), .val (.int p2), .val (.long q3), .second, .val (.int p4)] [(.int z), (.int p2)])) _
    refine XS.icmpYes X0.here hx rfl (pc0 := 3) (pc' := 20) rfl (hb hby d10_3) rfl (flt hc3).2.1 (by decide) (by decide) ?_
    show Steps p.tables e below (s₁.setTop (mkF m 20 #[.val (.ref a1), .val (.int p2), .val (.long q3), .second, .val (.int p4)] [])) _
    refine XS.iconst X0.here hx rfl (hb hby d10_20) ?_
    show Steps p.tables e below (s₁.setTop (mkF m 21 #[.val (.ref a1), .val (.int p2), .val (.long q3), .second, .val (.int p4)] [(.int (1 : Int32))])) _
    refine XS.goto X0.here hx rfl (pc0 := 21) (pc' := 25) rfl (hb hby d10_21) (by decide) (by decide) ?_
    show Steps p.tables e below (s₁.setTop (mkF m 25 #[.val (.ref a1), .val (.int p2), .val (.long q3), .second, .val (.int p4)] [(.int (1 : Int32))])) _
    exact retN X0 hx (t := .boolean) Bd.returns (by simp) (hb hby d10_25) hr
  · show Q10 Z a1 p2 q3 p4 kR z us h0 n0 _ s₁.heap _
    rw [e0]
    exact ⟨rfl, N0, rfl⟩
theorem d10_6 : decode method_4_code 6 = .ok (.aload_n 0, 1) := by decide +kernel
theorem d10_7 : decode method_4_code 7 = .ok (.iload_n 1, 1) := by decide +kernel
theorem d10_8 : decode method_4_code 8 = .ok (.baload, 1) := by decide +kernel
theorem d10_9 : decode method_4_code 9 = .ok (.lload_n 2, 1) := by decide +kernel
theorem d10_10 : decode method_4_code 10 = .ok (.iload 4, 2) := by decide +kernel
theorem d10_12 : decode method_4_code 12 = .ok (.iload_n 1, 1) := by decide +kernel
theorem d10_13 : decode method_4_code 13 = .ok (.iadd, 1) := by decide +kernel
theorem d10_14 : decode method_4_code 14 = .ok (.invokestatic 7, 3) := by decide +kernel
theorem d10_17 : decode method_4_code 17 = .ok (.if_icmp .ne 7, 3) := by decide +kernel
theorem pd_10_0 : parseMethodDescriptor "(JI)B" = some ⟨[.long, .int], some .byte⟩ := by decide +kernel
set_option maxRecDepth 65536 in
set_option maxHeartbeats 40000000 in
theorem rm10_ff (l : Launch) (Z : State) (a0 : Array Value) (hw : ∀ d ∈ tables_1, d.before a0 Z = true) (ws : List Jvm.Cond) (a1 : Addr) (p2 : Int32) (q3 : Int64) (p4 : Int32) (kR : ClassId) (z : Int32) (us : List Value) (h0 : Heap) (n0 : Nat) (Z0 : n0 ≤ h0.size) (V : Arv Z h0 a1 kR .byte z us (.int (0 : Int32))) (hi : ¬ p2 < 0) (hval : p2 < z → us.getD p2.toNatClampNeg (.int (0 : Int32)) = .int (bA q3 (p4 + p2))) (hc3 : p2 < z) :
    MetFree l (⟨"com/example/ticketbridge/ticketbridge/io/DerContentPinLaw", "at", "([BIJI)Z"⟩ : MethodName) (head1 (Jvm.Cond.code (⟨"com/example/ticketbridge/ticketbridge/io/DerContentPinLaw", "at", "([BIJI)Z"⟩ : MethodName) method_4_code 5 (some .boolean) :: ws) ({ frames := 1, cells := 0, slots := 0, locals := 15 } : Room)) (fun a U => a = #[(.ref a1), (.int p2), (.long q3), (.int p4)] ∧ Z.Warmed39 U.vm ∧ U.heap = h0) (fun _ _ _ _ _ => True) (fun _ U o U' => ∃ v L, o = .returned v ∧ Q10 Z a1 p2 q3 p4 kR z us h0 n0 v U'.heap L ∧ FrameEnd U o U' L ({ frames := 1, cells := 0, slots := 0, locals := 15 } : Room).cells ({ frames := 1, cells := 0, slots := 0, locals := 15 } : Room).slots) := by
  refine MetFree.of_bodySF (plainFor_of_name pn_10) hisR ?_
  intro p e s m args below meth c s₁ Bd hml0 hP hK
  obtain ⟨rfl, hZ, hh⟩ := hP
  have hx := Bd.exec
  have hby := Bd.bytes
  have hml : c.maxLocals = 5 := hml0
  have hown : s.vm.findClass "com/example/ticketbridge/ticketbridge/io/DerContentPinLaw" = some m.cls := findClass_of_methodNamed Bd.named
  have hnm := (name_of_methodNamed Bd.named Bd.method).1
  have X0 : Stand p l e ({ frames := 1, cells := 0, slots := 0, locals := 15 } : Room) s m #[(.ref a1), (.int p2), (.long q3), (.int p4)] below meth c s₁ [] 0 0 := Stand.of_body Bd
  have e0 : s₁.heap = h0 := by rw [← hh, Bd.state]; rfl
  have N0 := Fr.nil n0
  have pre0 : ∀ t, Steps p.tables e below (s₁.setTop (mkF m 0 #[.val (.ref a1), .val (.int p2), .val (.long q3), .second, .val (.int p4)] [])) t → Steps p.tables e below (s₁.setTop (entryFrame m #[(.ref a1), (.int p2), (.long q3), (.int p4)] 5)) t := fun t k => castTop (ef_10 m a1 p2 q3 p4) k
  obtain ⟨cl_a1, Ar_a1, q_a1, S_a1, N_a1, H_a1, G_a1⟩ := id V
  have hin8 : ¬ (p2 < 0 ∨ cl_a1.slots.size ≤ (p2).toNatClampNeg) := inb_of S_a1 ⟨hi, hc3⟩
  have hat8 : cl_a1.slots[(p2).toNatClampNeg]? = some (.int (bA q3 (p4 + p2))) := H_a1.at hin8 (hval hc3)
  obtain ⟨_, _, ⟨T6, L6, k6, n6⟩, -, X6, ⟨Lc6, hQ6, l6, y6, z6⟩, st6⟩ := Jvm.LawKit.callS X0 hx (y := (⟨"com/example/ticketbridge/ticketbridge/io/DerContentPinLaw", "byteAt", "(JI)B"⟩ : MethodName)) hown (mvT hZ (hw _ (List.mem_of_getElem? (i := 1) rfl))) (mvT hZ (hw _ (List.mem_of_getElem? (i := 2) rfl))) (mvT hZ (hw _ (List.mem_of_getElem? (i := 3) rfl))) (mvT hZ (hw _ (List.mem_of_getElem? (i := 4) rfl))) (by decide) (backOf (W := 1) (rm1 l Z a0 hw [] q3 (p4 + p2) h0 n0 Z0) hZ (hw _ (List.mem_of_getElem? (i := 4) rfl)) (hw _ (List.mem_of_getElem? (i := 3) rfl)) (by decide) (by decide)) (g := (mkF m 14 #[.val (.ref a1), .val (.int p2), .val (.long q3), .second, .val (.int p4)] [(.int (p4 + p2)), (.long q3), (.int (bA q3 (p4 + p2)))])) rfl (by rw [hml]; rfl) (argsL := [(.long q3), (.int (p4 + p2))]) (rest := [(.int (bA q3 (p4 + p2)))]) (lenOf pd_10_0 rfl) rfl (by show 2 * 0 + _ ≤ _; exact Nat.le_of_eq rfl) (hb hby d10_14) (fun _ _ => ⟨rfl, e0, (by decide : 0 + 0 ≤ _), (by decide : 0 + 0 ≤ _)⟩)
  dsimp only [Pt.U, Pt.locs, Pt.cells, Pt.slots] at X6 l6 y6 z6 st6 hQ6
  subst l6 y6 z6
  obtain ⟨rfl, N6q, ek6⟩ := hQ6
  have N6 := Fr.app N0 N6q
  obtain ⟨fs, hr, hrun, hended, hW, hsame⟩ := X6.leave (v := some (.int (1 : Int32))) (fun h => by rw [Bd.returns] at h; cases h)
  refine ⟨_, _, pre0 _ ?_, hrun, hended, _, _, rfl, ?_, ⟨_, rfl⟩, hW, hsame.mono (by decide) (by decide)⟩
  · show Steps p.tables e below (s₁.setTop (mkF m 0 #[.val (.ref a1), .val (.int p2), .val (.long q3), .second, .val (.int p4)] [])) _
    refine XS.iloadN X0.here hx rfl (hb hby d10_0) rfl ?_
    show Steps p.tables e below (s₁.setTop (mkF m 1 #[.val (.ref a1), .val (.int p2), .val (.long q3), .second, .val (.int p4)] [(.int p2)])) _
    refine XS.aloadN X0.here hx rfl (hb hby d10_1) rfl rfl ?_
    show Steps p.tables e below (s₁.setTop (mkF m 2 #[.val (.ref a1), .val (.int p2), .val (.long q3), .second, .val (.int p4)] [(.ref a1), (.int p2)])) _
    refine X0.arraylength hx (by rw [e0]; exact Ar_a1.1) (State.isArrayOf_alike hZ.alike Ar_a1.2.1) (g := (mkF m 2 #[.val (.ref a1), .val (.int p2), .val (.long q3), .second, .val (.int p4)] [(.ref a1), (.int p2)])) rfl rfl (hb hby d10_2) _ ?_
    rw [len_of S_a1 N_a1]
    show Steps p.tables e below (s₁.setTop (mkF m 3 #[.val (.ref a1), .val (.int p2), .val (.long q3), .second, .val (.int p4)] [(.int z), (.int p2)])) _
    refine XS.icmpNo X0.here hx rfl (hb hby d10_3) rfl (tlt hc3).2.1 ?_
    show Steps p.tables e below (s₁.setTop (mkF m 6 #[.val (.ref a1), .val (.int p2), .val (.long q3), .second, .val (.int p4)] [])) _
    refine XS.aloadN X0.here hx rfl (hb hby d10_6) rfl rfl ?_
    show Steps p.tables e below (s₁.setTop (mkF m 7 #[.val (.ref a1), .val (.int p2), .val (.long q3), .second, .val (.int p4)] [(.ref a1)])) _
    refine XS.iloadN X0.here hx rfl (hb hby d10_7) rfl ?_
    show Steps p.tables e below (s₁.setTop (mkF m 8 #[.val (.ref a1), .val (.int p2), .val (.long q3), .second, .val (.int p4)] [(.int p2), (.ref a1)])) _
    refine X0.baloadBytes hx (j := p2) (v := (.int (bA q3 (p4 + p2)))) (by rw [e0]; exact Ar_a1.1) (State.isArrayOf_alike hZ.alike Ar_a1.2.1) Ar_a1.2.2 hin8 hat8 (g := (mkF m 8 #[.val (.ref a1), .val (.int p2), .val (.long q3), .second, .val (.int p4)] [(.int p2), (.ref a1)])) rfl rfl (hb hby d10_8) _ ?_
    show Steps p.tables e below (s₁.setTop (mkF m 9 #[.val (.ref a1), .val (.int p2), .val (.long q3), .second, .val (.int p4)] [(.int (bA q3 (p4 + p2)))])) _
    refine XS.lloadN X0.here hx rfl (hb hby d10_9) rfl ?_
    show Steps p.tables e below (s₁.setTop (mkF m 10 #[.val (.ref a1), .val (.int p2), .val (.long q3), .second, .val (.int p4)] [(.long q3), (.int (bA q3 (p4 + p2)))])) _
    refine XS.iload X0.here hx rfl (hb hby d10_10) rfl ?_
    show Steps p.tables e below (s₁.setTop (mkF m 12 #[.val (.ref a1), .val (.int p2), .val (.long q3), .second, .val (.int p4)] [(.int p4), (.long q3), (.int (bA q3 (p4 + p2)))])) _
    refine XS.iloadN X0.here hx rfl (hb hby d10_12) rfl ?_
    show Steps p.tables e below (s₁.setTop (mkF m 13 #[.val (.ref a1), .val (.int p2), .val (.long q3), .second, .val (.int p4)] [(.int p2), (.int p4), (.long q3), (.int (bA q3 (p4 + p2)))])) _
    refine XS.iadd X0.here hx rfl (hb hby d10_13) rfl ?_
    show Steps p.tables e below (s₁.setTop (mkF m 14 #[.val (.ref a1), .val (.int p2), .val (.long q3), .second, .val (.int p4)] [(.int (p4 + p2)), (.long q3), (.int (bA q3 (p4 + p2)))])) _
    refine st6 _ ?_
    show Steps p.tables e below (T6.setTop (mkF m 17 #[.val (.ref a1), .val (.int p2), .val (.long q3), .second, .val (.int p4)] [(.int (bA q3 (p4 + p2))), (.int (bA q3 (p4 + p2)))])) _
    refine XS.icmpNo X6.here hx rfl (hb hby d10_17) rfl (teq (rfl : (bA q3 (p4 + p2)) = (bA q3 (p4 + p2)))).2 ?_
    show Steps p.tables e below (T6.setTop (mkF m 20 #[.val (.ref a1), .val (.int p2), .val (.long q3), .second, .val (.int p4)] [])) _
    refine XS.iconst X6.here hx rfl (hb hby d10_20) ?_
    show Steps p.tables e below (T6.setTop (mkF m 21 #[.val (.ref a1), .val (.int p2), .val (.long q3), .second, .val (.int p4)] [(.int (1 : Int32))])) _
    refine XS.goto X6.here hx rfl (pc0 := 21) (pc' := 25) rfl (hb hby d10_21) (by decide) (by decide) ?_
    show Steps p.tables e below (T6.setTop (mkF m 25 #[.val (.ref a1), .val (.int p2), .val (.long q3), .second, .val (.int p4)] [(.int (1 : Int32))])) _
    exact retN X6 hx (t := .boolean) Bd.returns (by simp) (hb hby d10_25) hr
  · show Q10 Z a1 p2 q3 p4 kR z us h0 n0 _ T6.heap _
    exact ⟨rfl, N6, ek6⟩
theorem rm10 (l : Launch) (Z : State) (a0 : Array Value) (hw : ∀ d ∈ tables_1, d.before a0 Z = true) (ws : List Jvm.Cond) (a1 : Addr) (p2 : Int32) (q3 : Int64) (p4 : Int32) (kR : ClassId) (z : Int32) (us : List Value) (h0 : Heap) (n0 : Nat) (Z0 : n0 ≤ h0.size) (V : Arv Z h0 a1 kR .byte z us (.int (0 : Int32))) (hi : ¬ p2 < 0) (hval : p2 < z → us.getD p2.toNatClampNeg (.int (0 : Int32)) = .int (bA q3 (p4 + p2))) :
    MetFree l (⟨"com/example/ticketbridge/ticketbridge/io/DerContentPinLaw", "at", "([BIJI)Z"⟩ : MethodName) (head1 (Jvm.Cond.code (⟨"com/example/ticketbridge/ticketbridge/io/DerContentPinLaw", "at", "([BIJI)Z"⟩ : MethodName) method_4_code 5 (some .boolean) :: ws) ({ frames := 1, cells := 0, slots := 0, locals := 15 } : Room)) (fun a U => a = #[(.ref a1), (.int p2), (.long q3), (.int p4)] ∧ Z.Warmed39 U.vm ∧ U.heap = h0) (fun _ _ _ _ _ => True) (fun _ U o U' => ∃ v L, o = .returned v ∧ Q10 Z a1 p2 q3 p4 kR z us h0 n0 v U'.heap L ∧ FrameEnd U o U' L ({ frames := 1, cells := 0, slots := 0, locals := 15 } : Room).cells ({ frames := 1, cells := 0, slots := 0, locals := 15 } : Room).slots) := by
  by_cases hc3 : p2 < z
  · exact rm10_ff l Z a0 hw ws a1 p2 q3 p4 kR z us h0 n0 Z0 V hi hval hc3
  · exact rm10_t l Z a0 hw ws a1 p2 q3 p4 kR z us h0 n0 Z0 V hi hval hc3
def Q0 (Z : State) (q1 : Int64) (p2 : Int32) (p3 : Int32) (p4 : Int32) (h0 : Heap) (n0 : Nat) (v : Option Value) (h : Heap) (L : List Loc) : Prop := v = some (.int (1 : Int32)) ∧ Fr n0 L
theorem pn_0 : plainName "com/example/ticketbridge/ticketbridge/io/DerContentPinLaw" = true := by first | (simp [plainName, overriddenIn]; done) | decide +kernel
theorem pd_0_0 : parseMethodDescriptor "(JI)B" = some ⟨[.long, .int], some .byte⟩ := by decide +kernel
theorem pd_0_1 : parseMethodDescriptor "([BIII)V" = some ⟨[(.array .byte), .int, .int, .int], none⟩ := by decide +kernel
theorem pd_0_3 : parseMethodDescriptor "()[B" = some ⟨[], some (.array .byte)⟩ := by decide +kernel
theorem pd_0_8 : parseMethodDescriptor "([BIJI)Z" = some ⟨[(.array .byte), .int, .long, .int], some .boolean⟩ := by decide +kernel
theorem ef_0 (m : MethodId) (x0 : Int64) (x1 : Int32) (x2 : Int32) (x3 : Int32) : entryFrame m #[(.long x0), (.int x1), (.int x2), (.int x3)] maxLocals = mkF m 0 #[.val (.long x0), .second, .val (.int x1), .val (.int x2), .val (.int x3), .unset, .unset, .unset, .unset, .unset, .unset, .unset] [] := by first | (simp [entryFrame, mkF, argsToLocals, Value.category, maxLocals]; done) | rfl
set_option maxRecDepth 65536 in
set_option maxHeartbeats 40000000 in
theorem rm0_A (l : Launch) (Z : State) (a0 : Array Value) (hw : ∀ d ∈ tables_1, d.before a0 Z = true) (ws : List Jvm.Cond) (q1 : Int64) (p2 : Int32) (p3 : Int32) (p4 : Int32) (h0 : Heap) (n0 : Nat) (Z0 : n0 ≤ h0.size) (hlen : ¬ ((0 : Int32) < ((((p2 &&& (2147483647 : Int32)) % (9 : Int32)) + ((p3 &&& (2147483647 : Int32)) % ((9 : Int32) - ((p2 &&& (2147483647 : Int32)) % (9 : Int32))))) - ((p2 &&& (2147483647 : Int32)) % (9 : Int32))))) :
    MetFree l x (head1 (Jvm.Cond.code x code maxLocals ret :: ws) room_1) (fun a U => a = #[(.long q1), (.int p2), (.int p3), (.int p4)] ∧ Z.Warmed39 U.vm ∧ U.heap = h0) (fun _ _ _ _ _ => True) (fun _ U o U' => ∃ v L, o = .returned v ∧ Q0 Z q1 p2 p3 p4 h0 n0 v U'.heap L ∧ FrameEnd U o U' L room_1.cells room_1.slots) := by
  refine MetFree.of_bodySF (plainFor_of_name pn_0) hisR ?_
  intro p e s m args below meth c s₁ Bd hml0 hP hK
  obtain ⟨rfl, hZ, hh⟩ := hP
  have hx := Bd.exec
  have hby := Bd.bytes
  have hml : c.maxLocals = 12 := hml0
  have hown : s.vm.findClass "com/example/ticketbridge/ticketbridge/io/DerContentPinLaw" = some m.cls := findClass_of_methodNamed Bd.named
  have hnm := (name_of_methodNamed Bd.named Bd.method).1
  have X0 : Stand p l e room_1 s m #[(.long q1), (.int p2), (.int p3), (.int p4)] below meth c s₁ [] 0 0 := Stand.of_body Bd
  have e0 : s₁.heap = h0 := by rw [← hh, Bd.state]; rfl
  have N0 := Fr.nil n0
  have pre0 : ∀ t, Steps p.tables e below (s₁.setTop (mkF m 0 #[.val (.long q1), .second, .val (.int p2), .val (.int p3), .val (.int p4), .unset, .unset, .unset, .unset, .unset, .unset, .unset] [])) t → Steps p.tables e below (s₁.setTop (entryFrame m #[(.long q1), (.int p2), (.int p3), (.int p4)] maxLocals)) t := fun t k => castTop (ef_0 m q1 p2 p3 p4) k
  obtain ⟨T5, h5, k5, X5, e5, E5, A5, EX5, st5⟩ := newPE X0 hx hZ (hw _ (List.mem_of_getElem? (i := 0) rfl)) e0 (g := (mkF m 2 #[.val (.long q1), .second, .val (.int p2), .val (.int p3), .val (.int p4), .unset, .unset, .unset, .unset, .unset, .unset, .unset] [(.int (8 : Int32))])) rfl (hb hby at_2) rfl (by decide) (cap := 8) (by decide) (by decide) (by decide) (by decide) (ad := "[B") rfl
  obtain ⟨b5, g5⟩ : ∃ z, z = h0.size := ⟨_, rfl⟩
  rw [← g5] at A5 EX5 st5
  have V_b5 : Arv Z h5 b5 k5 .byte (8 : Int32) [(.int (0 : Int32)), (.int (0 : Int32)), (.int (0 : Int32)), (.int (0 : Int32)), (.int (0 : Int32)), (.int (0 : Int32)), (.int (0 : Int32)), (.int (0 : Int32))] (.int (0 : Int32)) := (Arv.new A5 (by decide)).pad (pad_rep [] (.int (0 : Int32)) 8)
  have g_b5 : n0 ≤ b5 := Nat.le_trans Z0 (Nat.le_of_eq g5.symm)
  have sz_b5 : h0.size ≤ b5 := (Nat.le_trans (Keep.refl h0 []).1 (Nat.le_of_eq g5.symm))
  have K5 : Keep h0 h5 [] := (Keep.refl h0 []).ext E5
  obtain ⟨_, _, ⟨T6, L6, k6, n6⟩, -, X6, ⟨Lc6, hQ6, l6, y6, z6⟩, st6⟩ := Jvm.LawKit.callS X5 hx (y := (⟨"com/example/ticketbridge/ticketbridge/io/DerContentPinLaw", "byteAt", "(JI)B"⟩ : MethodName)) hown (mvT hZ (hw _ (List.mem_of_getElem? (i := 1) rfl))) (mvT hZ (hw _ (List.mem_of_getElem? (i := 2) rfl))) (mvT hZ (hw _ (List.mem_of_getElem? (i := 3) rfl))) (mvT hZ (hw _ (List.mem_of_getElem? (i := 4) rfl))) (by decide) (backOf (W := 2) (rm1 l Z a0 hw [] q1 (0 : Int32) h5 n0 (Nat.le_trans Z0 K5.1)) hZ (hw _ (List.mem_of_getElem? (i := 4) rfl)) (hw _ (List.mem_of_getElem? (i := 3) rfl)) (by decide) (by decide)) (g := (mkF m 11 #[.val (.long q1), .second, .val (.int p2), .val (.int p3), .val (.int p4), .val (.ref b5), .unset, .unset, .unset, .unset, .unset, .unset] [(.int (0 : Int32)), (.long q1), (.int (0 : Int32)), (.ref b5)])) rfl (by rw [hml]; rfl) (argsL := [(.long q1), (.int (0 : Int32))]) (rest := [(.int (0 : Int32)), (.ref b5)]) (lenOf pd_0_0 rfl) rfl (by show 2 * 0 + _ ≤ _; exact Nat.le_of_eq rfl) (hb hby at_11) (fun _ _ => ⟨rfl, e5, (by decide : 1 + 0 ≤ _), (by decide : 8 + 0 ≤ _)⟩)
  dsimp only [Pt.U, Pt.locs, Pt.cells, Pt.slots] at X6 l6 y6 z6 st6 hQ6
  rw [l6, y6, z6] at X6
  obtain ⟨rfl, N6q, ek6⟩ := hQ6
  have KC6 : Keep h5 T6.heap [] := by rw [ek6]; exact Keep.refl _ _
  have KT6 : Keep h0 T6.heap [] := by rw [ek6]; exact K5
  have N6 := Fr.app N0 N6q
  obtain ⟨cl_b5_14, Ar_b5, q_b5, S_b5, N_b5, H_b5, G_b5⟩ := (V_b5.keep KC6 nin0)
  have hin14 : ¬ ((0 : Int32) < 0 ∨ cl_b5_14.slots.size ≤ ((0 : Int32)).toNatClampNeg) := inb_of S_b5 ⟨by decide, by decide⟩
  obtain ⟨T7, h7, X7, e7, W7, st7⟩ := stB X6 hx hZ rfl Ar_b5 (j := (0 : Int32)) hin14 (g := (mkF m 14 #[.val (.long q1), .second, .val (.int p2), .val (.int p3), .val (.int p4), .val (.ref b5), .unset, .unset, .unset, .unset, .unset, .unset] [(.int (bA q1 (0 : Int32))), (.int (0 : Int32)), (.ref b5)])) rfl rfl (hb hby at_14)
  have V_b5_7 := Arv.set Ar_b5 q_b5 S_b5 N_b5 H_b5 G_b5 (fits_nar_byte _) W7 0 rfl (Nat.le_of_ble_eq_true rfl)
  have K7 : Keep h0 h7 [] := KT6.wr W7 (Or.inr sz_b5)
  have N7 := Fr.snoc X7 N6 g_b5
  obtain ⟨_, _, ⟨T8, L8, k8, n8⟩, -, X8, ⟨Lc8, hQ8, l8, y8, z8⟩, st8⟩ := Jvm.LawKit.callS X7 hx (y := (⟨"com/example/ticketbridge/ticketbridge/io/DerContentPinLaw", "byteAt", "(JI)B"⟩ : MethodName)) hown (mvT hZ (hw _ (List.mem_of_getElem? (i := 1) rfl))) (mvT hZ (hw _ (List.mem_of_getElem? (i := 2) rfl))) (mvT hZ (hw _ (List.mem_of_getElem? (i := 3) rfl))) (mvT hZ (hw _ (List.mem_of_getElem? (i := 4) rfl))) (by decide) (backOf (W := 2) (rm1 l Z a0 hw [] q1 (1 : Int32) h7 n0 (Nat.le_trans Z0 K7.1)) hZ (hw _ (List.mem_of_getElem? (i := 4) rfl)) (hw _ (List.mem_of_getElem? (i := 3) rfl)) (by decide) (by decide)) (g := (mkF m 20 #[.val (.long q1), .second, .val (.int p2), .val (.int p3), .val (.int p4), .val (.ref b5), .unset, .unset, .unset, .unset, .unset, .unset] [(.int (1 : Int32)), (.long q1), (.int (1 : Int32)), (.ref b5)])) rfl (by rw [hml]; rfl) (argsL := [(.long q1), (.int (1 : Int32))]) (rest := [(.int (1 : Int32)), (.ref b5)]) (lenOf pd_0_0 rfl) rfl (by show 2 * 0 + _ ≤ _; exact Nat.le_of_eq rfl) (hb hby at_20) (fun _ _ => ⟨rfl, e7, (by decide : 1 + 0 ≤ _), (by decide : 8 + 0 ≤ _)⟩)
  dsimp only [Pt.U, Pt.locs, Pt.cells, Pt.slots] at X8 l8 y8 z8 st8 hQ8
  rw [l8, y8, z8] at X8
  obtain ⟨rfl, N8q, ek8⟩ := hQ8
  have KC8 : Keep h7 T8.heap [] := by rw [ek8]; exact Keep.refl _ _
  have KT8 : Keep h0 T8.heap [] := by rw [ek8]; exact K7
  have N8 := Fr.app N7 N8q
  obtain ⟨cl_b5_23, Ar_b5, q_b5, S_b5, N_b5, H_b5, G_b5⟩ := (V_b5_7.keep KC8 nin0)
  have hin23 : ¬ ((1 : Int32) < 0 ∨ cl_b5_23.slots.size ≤ ((1 : Int32)).toNatClampNeg) := inb_of S_b5 ⟨by decide, by decide⟩
  obtain ⟨T9, h9, X9, e9, W9, st9⟩ := stB X8 hx hZ rfl Ar_b5 (j := (1 : Int32)) hin23 (g := (mkF m 23 #[.val (.long q1), .second, .val (.int p2), .val (.int p3), .val (.int p4), .val (.ref b5), .unset, .unset, .unset, .unset, .unset, .unset] [(.int (bA q1 (1 : Int32))), (.int (1 : Int32)), (.ref b5)])) rfl rfl (hb hby at_23)
  have V_b5_9 := Arv.set Ar_b5 q_b5 S_b5 N_b5 H_b5 G_b5 (fits_nar_byte _) W9 1 rfl (Nat.le_of_ble_eq_true rfl)
  have K9 : Keep h0 h9 [] := KT8.wr W9 (Or.inr sz_b5)
  have N9 := Fr.snoc X9 N8 g_b5
  obtain ⟨_, _, ⟨T10, L10, k10, n10⟩, -, X10, ⟨Lc10, hQ10, l10, y10, z10⟩, st10⟩ := Jvm.LawKit.callS X9 hx (y := (⟨"com/example/ticketbridge/ticketbridge/io/DerContentPinLaw", "byteAt", "(JI)B"⟩ : MethodName)) hown (mvT hZ (hw _ (List.mem_of_getElem? (i := 1) rfl))) (mvT hZ (hw _ (List.mem_of_getElem? (i := 2) rfl))) (mvT hZ (hw _ (List.mem_of_getElem? (i := 3) rfl))) (mvT hZ (hw _ (List.mem_of_getElem? (i := 4) rfl))) (by decide) (backOf (W := 2) (rm1 l Z a0 hw [] q1 (2 : Int32) h9 n0 (Nat.le_trans Z0 K9.1)) hZ (hw _ (List.mem_of_getElem? (i := 4) rfl)) (hw _ (List.mem_of_getElem? (i := 3) rfl)) (by decide) (by decide)) (g := (mkF m 29 #[.val (.long q1), .second, .val (.int p2), .val (.int p3), .val (.int p4), .val (.ref b5), .unset, .unset, .unset, .unset, .unset, .unset] [(.int (2 : Int32)), (.long q1), (.int (2 : Int32)), (.ref b5)])) rfl (by rw [hml]; rfl) (argsL := [(.long q1), (.int (2 : Int32))]) (rest := [(.int (2 : Int32)), (.ref b5)]) (lenOf pd_0_0 rfl) rfl (by show 2 * 0 + _ ≤ _; exact Nat.le_of_eq rfl) (hb hby at_29) (fun _ _ => ⟨rfl, e9, (by decide : 1 + 0 ≤ _), (by decide : 8 + 0 ≤ _)⟩)
  dsimp only [Pt.U, Pt.locs, Pt.cells, Pt.slots] at X10 l10 y10 z10 st10 hQ10
  rw [l10, y10, z10] at X10
  obtain ⟨rfl, N10q, ek10⟩ := hQ10
  have KC10 : Keep h9 T10.heap [] := by rw [ek10]; exact Keep.refl _ _
  have KT10 : Keep h0 T10.heap [] := by rw [ek10]; exact K9
  have N10 := Fr.app N9 N10q
  obtain ⟨cl_b5_32, Ar_b5, q_b5, S_b5, N_b5, H_b5, G_b5⟩ := (V_b5_9.keep KC10 nin0)
  have hin32 : ¬ ((2 : Int32) < 0 ∨ cl_b5_32.slots.size ≤ ((2 : Int32)).toNatClampNeg) := inb_of S_b5 ⟨by decide, by decide⟩
  obtain ⟨T11, h11, X11, e11, W11, st11⟩ := stB X10 hx hZ rfl Ar_b5 (j := (2 : Int32)) hin32 (g := (mkF m 32 #[.val (.long q1), .second, .val (.int p2), .val (.int p3), .val (.int p4), .val (.ref b5), .unset, .unset, .unset, .unset, .unset, .unset] [(.int (bA q1 (2 : Int32))), (.int (2 : Int32)), (.ref b5)])) rfl rfl (hb hby at_32)
  have V_b5_11 := Arv.set Ar_b5 q_b5 S_b5 N_b5 H_b5 G_b5 (fits_nar_byte _) W11 2 rfl (Nat.le_of_ble_eq_true rfl)
  have K11 : Keep h0 h11 [] := KT10.wr W11 (Or.inr sz_b5)
  have N11 := Fr.snoc X11 N10 g_b5
  obtain ⟨_, _, ⟨T12, L12, k12, n12⟩, -, X12, ⟨Lc12, hQ12, l12, y12, z12⟩, st12⟩ := Jvm.LawKit.callS X11 hx (y := (⟨"com/example/ticketbridge/ticketbridge/io/DerContentPinLaw", "byteAt", "(JI)B"⟩ : MethodName)) hown (mvT hZ (hw _ (List.mem_of_getElem? (i := 1) rfl))) (mvT hZ (hw _ (List.mem_of_getElem? (i := 2) rfl))) (mvT hZ (hw _ (List.mem_of_getElem? (i := 3) rfl))) (mvT hZ (hw _ (List.mem_of_getElem? (i := 4) rfl))) (by decide) (backOf (W := 2) (rm1 l Z a0 hw [] q1 (3 : Int32) h11 n0 (Nat.le_trans Z0 K11.1)) hZ (hw _ (List.mem_of_getElem? (i := 4) rfl)) (hw _ (List.mem_of_getElem? (i := 3) rfl)) (by decide) (by decide)) (g := (mkF m 38 #[.val (.long q1), .second, .val (.int p2), .val (.int p3), .val (.int p4), .val (.ref b5), .unset, .unset, .unset, .unset, .unset, .unset] [(.int (3 : Int32)), (.long q1), (.int (3 : Int32)), (.ref b5)])) rfl (by rw [hml]; rfl) (argsL := [(.long q1), (.int (3 : Int32))]) (rest := [(.int (3 : Int32)), (.ref b5)]) (lenOf pd_0_0 rfl) rfl (by show 2 * 0 + _ ≤ _; exact Nat.le_of_eq rfl) (hb hby at_38) (fun _ _ => ⟨rfl, e11, (by decide : 1 + 0 ≤ _), (by decide : 8 + 0 ≤ _)⟩)
  dsimp only [Pt.U, Pt.locs, Pt.cells, Pt.slots] at X12 l12 y12 z12 st12 hQ12
  rw [l12, y12, z12] at X12
  obtain ⟨rfl, N12q, ek12⟩ := hQ12
  have KC12 : Keep h11 T12.heap [] := by rw [ek12]; exact Keep.refl _ _
  have KT12 : Keep h0 T12.heap [] := by rw [ek12]; exact K11
  have N12 := Fr.app N11 N12q
  obtain ⟨cl_b5_41, Ar_b5, q_b5, S_b5, N_b5, H_b5, G_b5⟩ := (V_b5_11.keep KC12 nin0)
  have hin41 : ¬ ((3 : Int32) < 0 ∨ cl_b5_41.slots.size ≤ ((3 : Int32)).toNatClampNeg) := inb_of S_b5 ⟨by decide, by decide⟩
  obtain ⟨T13, h13, X13, e13, W13, st13⟩ := stB X12 hx hZ rfl Ar_b5 (j := (3 : Int32)) hin41 (g := (mkF m 41 #[.val (.long q1), .second, .val (.int p2), .val (.int p3), .val (.int p4), .val (.ref b5), .unset, .unset, .unset, .unset, .unset, .unset] [(.int (bA q1 (3 : Int32))), (.int (3 : Int32)), (.ref b5)])) rfl rfl (hb hby at_41)
  have V_b5_13 := Arv.set Ar_b5 q_b5 S_b5 N_b5 H_b5 G_b5 (fits_nar_byte _) W13 3 rfl (Nat.le_of_ble_eq_true rfl)
  have K13 : Keep h0 h13 [] := KT12.wr W13 (Or.inr sz_b5)
  have N13 := Fr.snoc X13 N12 g_b5
  obtain ⟨_, _, ⟨T14, L14, k14, n14⟩, -, X14, ⟨Lc14, hQ14, l14, y14, z14⟩, st14⟩ := Jvm.LawKit.callS X13 hx (y := (⟨"com/example/ticketbridge/ticketbridge/io/DerContentPinLaw", "byteAt", "(JI)B"⟩ : MethodName)) hown (mvT hZ (hw _ (List.mem_of_getElem? (i := 1) rfl))) (mvT hZ (hw _ (List.mem_of_getElem? (i := 2) rfl))) (mvT hZ (hw _ (List.mem_of_getElem? (i := 3) rfl))) (mvT hZ (hw _ (List.mem_of_getElem? (i := 4) rfl))) (by decide) (backOf (W := 2) (rm1 l Z a0 hw [] q1 (4 : Int32) h13 n0 (Nat.le_trans Z0 K13.1)) hZ (hw _ (List.mem_of_getElem? (i := 4) rfl)) (hw _ (List.mem_of_getElem? (i := 3) rfl)) (by decide) (by decide)) (g := (mkF m 47 #[.val (.long q1), .second, .val (.int p2), .val (.int p3), .val (.int p4), .val (.ref b5), .unset, .unset, .unset, .unset, .unset, .unset] [(.int (4 : Int32)), (.long q1), (.int (4 : Int32)), (.ref b5)])) rfl (by rw [hml]; rfl) (argsL := [(.long q1), (.int (4 : Int32))]) (rest := [(.int (4 : Int32)), (.ref b5)]) (lenOf pd_0_0 rfl) rfl (by show 2 * 0 + _ ≤ _; exact Nat.le_of_eq rfl) (hb hby at_47) (fun _ _ => ⟨rfl, e13, (by decide : 1 + 0 ≤ _), (by decide : 8 + 0 ≤ _)⟩)
  dsimp only [Pt.U, Pt.locs, Pt.cells, Pt.slots] at X14 l14 y14 z14 st14 hQ14
  rw [l14, y14, z14] at X14
  obtain ⟨rfl, N14q, ek14⟩ := hQ14
  have KC14 : Keep h13 T14.heap [] := by rw [ek14]; exact Keep.refl _ _
  have KT14 : Keep h0 T14.heap [] := by rw [ek14]; exact K13
  have N14 := Fr.app N13 N14q
  obtain ⟨cl_b5_50, Ar_b5, q_b5, S_b5, N_b5, H_b5, G_b5⟩ := (V_b5_13.keep KC14 nin0)
  have hin50 : ¬ ((4 : Int32) < 0 ∨ cl_b5_50.slots.size ≤ ((4 : Int32)).toNatClampNeg) := inb_of S_b5 ⟨by decide, by decide⟩
  obtain ⟨T15, h15, X15, e15, W15, st15⟩ := stB X14 hx hZ rfl Ar_b5 (j := (4 : Int32)) hin50 (g := (mkF m 50 #[.val (.long q1), .second, .val (.int p2), .val (.int p3), .val (.int p4), .val (.ref b5), .unset, .unset, .unset, .unset, .unset, .unset] [(.int (bA q1 (4 : Int32))), (.int (4 : Int32)), (.ref b5)])) rfl rfl (hb hby at_50)
  have V_b5_15 := Arv.set Ar_b5 q_b5 S_b5 N_b5 H_b5 G_b5 (fits_nar_byte _) W15 4 rfl (Nat.le_of_ble_eq_true rfl)
  have K15 : Keep h0 h15 [] := KT14.wr W15 (Or.inr sz_b5)
  have N15 := Fr.snoc X15 N14 g_b5
  obtain ⟨_, _, ⟨T16, L16, k16, n16⟩, -, X16, ⟨Lc16, hQ16, l16, y16, z16⟩, st16⟩ := Jvm.LawKit.callS X15 hx (y := (⟨"com/example/ticketbridge/ticketbridge/io/DerContentPinLaw", "byteAt", "(JI)B"⟩ : MethodName)) hown (mvT hZ (hw _ (List.mem_of_getElem? (i := 1) rfl))) (mvT hZ (hw _ (List.mem_of_getElem? (i := 2) rfl))) (mvT hZ (hw _ (List.mem_of_getElem? (i := 3) rfl))) (mvT hZ (hw _ (List.mem_of_getElem? (i := 4) rfl))) (by decide) (backOf (W := 2) (rm1 l Z a0 hw [] q1 (5 : Int32) h15 n0 (Nat.le_trans Z0 K15.1)) hZ (hw _ (List.mem_of_getElem? (i := 4) rfl)) (hw _ (List.mem_of_getElem? (i := 3) rfl)) (by decide) (by decide)) (g := (mkF m 56 #[.val (.long q1), .second, .val (.int p2), .val (.int p3), .val (.int p4), .val (.ref b5), .unset, .unset, .unset, .unset, .unset, .unset] [(.int (5 : Int32)), (.long q1), (.int (5 : Int32)), (.ref b5)])) rfl (by rw [hml]; rfl) (argsL := [(.long q1), (.int (5 : Int32))]) (rest := [(.int (5 : Int32)), (.ref b5)]) (lenOf pd_0_0 rfl) rfl (by show 2 * 0 + _ ≤ _; exact Nat.le_of_eq rfl) (hb hby at_56) (fun _ _ => ⟨rfl, e15, (by decide : 1 + 0 ≤ _), (by decide : 8 + 0 ≤ _)⟩)
  dsimp only [Pt.U, Pt.locs, Pt.cells, Pt.slots] at X16 l16 y16 z16 st16 hQ16
  rw [l16, y16, z16] at X16
  obtain ⟨rfl, N16q, ek16⟩ := hQ16
  have KC16 : Keep h15 T16.heap [] := by rw [ek16]; exact Keep.refl _ _
  have KT16 : Keep h0 T16.heap [] := by rw [ek16]; exact K15
  have N16 := Fr.app N15 N16q
  obtain ⟨cl_b5_59, Ar_b5, q_b5, S_b5, N_b5, H_b5, G_b5⟩ := (V_b5_15.keep KC16 nin0)
  have hin59 : ¬ ((5 : Int32) < 0 ∨ cl_b5_59.slots.size ≤ ((5 : Int32)).toNatClampNeg) := inb_of S_b5 ⟨by decide, by decide⟩
  obtain ⟨T17, h17, X17, e17, W17, st17⟩ := stB X16 hx hZ rfl Ar_b5 (j := (5 : Int32)) hin59 (g := (mkF m 59 #[.val (.long q1), .second, .val (.int p2), .val (.int p3), .val (.int p4), .val (.ref b5), .unset, .unset, .unset, .unset, .unset, .unset] [(.int (bA q1 (5 : Int32))), (.int (5 : Int32)), (.ref b5)])) rfl rfl (hb hby at_59)
  have V_b5_17 := Arv.set Ar_b5 q_b5 S_b5 N_b5 H_b5 G_b5 (fits_nar_byte _) W17 5 rfl (Nat.le_of_ble_eq_true rfl)
  have K17 : Keep h0 h17 [] := KT16.wr W17 (Or.inr sz_b5)
  have N17 := Fr.snoc X17 N16 g_b5
  obtain ⟨_, _, ⟨T18, L18, k18, n18⟩, -, X18, ⟨Lc18, hQ18, l18, y18, z18⟩, st18⟩ := Jvm.LawKit.callS X17 hx (y := (⟨"com/example/ticketbridge/ticketbridge/io/DerContentPinLaw", "byteAt", "(JI)B"⟩ : MethodName)) hown (mvT hZ (hw _ (List.mem_of_getElem? (i := 1) rfl))) (mvT hZ (hw _ (List.mem_of_getElem? (i := 2) rfl))) (mvT hZ (hw _ (List.mem_of_getElem? (i := 3) rfl))) (mvT hZ (hw _ (List.mem_of_getElem? (i := 4) rfl))) (by decide) (backOf (W := 2) (rm1 l Z a0 hw [] q1 (6 : Int32) h17 n0 (Nat.le_trans Z0 K17.1)) hZ (hw _ (List.mem_of_getElem? (i := 4) rfl)) (hw _ (List.mem_of_getElem? (i := 3) rfl)) (by decide) (by decide)) (g := (mkF m 67 #[.val (.long q1), .second, .val (.int p2), .val (.int p3), .val (.int p4), .val (.ref b5), .unset, .unset, .unset, .unset, .unset, .unset] [(.int (6 : Int32)), (.long q1), (.int (6 : Int32)), (.ref b5)])) rfl (by rw [hml]; rfl) (argsL := [(.long q1), (.int (6 : Int32))]) (rest := [(.int (6 : Int32)), (.ref b5)]) (lenOf pd_0_0 rfl) rfl (by show 2 * 0 + _ ≤ _; exact Nat.le_of_eq rfl) (hb hby at_67) (fun _ _ => ⟨rfl, e17, (by decide : 1 + 0 ≤ _), (by decide : 8 + 0 ≤ _)⟩)
  dsimp only [Pt.U, Pt.locs, Pt.cells, Pt.slots] at X18 l18 y18 z18 st18 hQ18
  rw [l18, y18, z18] at X18
  obtain ⟨rfl, N18q, ek18⟩ := hQ18
  have KC18 : Keep h17 T18.heap [] := by rw [ek18]; exact Keep.refl _ _
  have KT18 : Keep h0 T18.heap [] := by rw [ek18]; exact K17
  have N18 := Fr.app N17 N18q
  obtain ⟨cl_b5_70, Ar_b5, q_b5, S_b5, N_b5, H_b5, G_b5⟩ := (V_b5_17.keep KC18 nin0)
  have hin70 : ¬ ((6 : Int32) < 0 ∨ cl_b5_70.slots.size ≤ ((6 : Int32)).toNatClampNeg) := inb_of S_b5 ⟨by decide, by decide⟩
  obtain ⟨T19, h19, X19, e19, W19, st19⟩ := stB X18 hx hZ rfl Ar_b5 (j := (6 : Int32)) hin70 (g := (mkF m 70 #[.val (.long q1), .second, .val (.int p2), .val (.int p3), .val (.int p4), .val (.ref b5), .unset, .unset, .unset, .unset, .unset, .unset] [(.int (bA q1 (6 : Int32))), (.int (6 : Int32)), (.ref b5)])) rfl rfl (hb hby at_70)
  have V_b5_19 := Arv.set Ar_b5 q_b5 S_b5 N_b5 H_b5 G_b5 (fits_nar_byte _) W19 6 rfl (Nat.le_of_ble_eq_true rfl)
  have K19 : Keep h0 h19 [] := KT18.wr W19 (Or.inr sz_b5)
  have N19 := Fr.snoc X19 N18 g_b5
  obtain ⟨_, _, ⟨T20, L20, k20, n20⟩, -, X20, ⟨Lc20, hQ20, l20, y20, z20⟩, st20⟩ := Jvm.LawKit.callS X19 hx (y := (⟨"com/example/ticketbridge/ticketbridge/io/DerContentPinLaw", "byteAt", "(JI)B"⟩ : MethodName)) hown (mvT hZ (hw _ (List.mem_of_getElem? (i := 1) rfl))) (mvT hZ (hw _ (List.mem_of_getElem? (i := 2) rfl))) (mvT hZ (hw _ (List.mem_of_getElem? (i := 3) rfl))) (mvT hZ (hw _ (List.mem_of_getElem? (i := 4) rfl))) (by decide) (backOf (W := 2) (rm1 l Z a0 hw [] q1 (7 : Int32) h19 n0 (Nat.le_trans Z0 K19.1)) hZ (hw _ (List.mem_of_getElem? (i := 4) rfl)) (hw _ (List.mem_of_getElem? (i := 3) rfl)) (by decide) (by decide)) (g := (mkF m 78 #[.val (.long q1), .second, .val (.int p2), .val (.int p3), .val (.int p4), .val (.ref b5), .unset, .unset, .unset, .unset, .unset, .unset] [(.int (7 : Int32)), (.long q1), (.int (7 : Int32)), (.ref b5)])) rfl (by rw [hml]; rfl) (argsL := [(.long q1), (.int (7 : Int32))]) (rest := [(.int (7 : Int32)), (.ref b5)]) (lenOf pd_0_0 rfl) rfl (by show 2 * 0 + _ ≤ _; exact Nat.le_of_eq rfl) (hb hby at_78) (fun _ _ => ⟨rfl, e19, (by decide : 1 + 0 ≤ _), (by decide : 8 + 0 ≤ _)⟩)
  dsimp only [Pt.U, Pt.locs, Pt.cells, Pt.slots] at X20 l20 y20 z20 st20 hQ20
  rw [l20, y20, z20] at X20
  obtain ⟨rfl, N20q, ek20⟩ := hQ20
  have KC20 : Keep h19 T20.heap [] := by rw [ek20]; exact Keep.refl _ _
  have KT20 : Keep h0 T20.heap [] := by rw [ek20]; exact K19
  have N20 := Fr.app N19 N20q
  obtain ⟨cl_b5_81, Ar_b5, q_b5, S_b5, N_b5, H_b5, G_b5⟩ := (V_b5_19.keep KC20 nin0)
  have hin81 : ¬ ((7 : Int32) < 0 ∨ cl_b5_81.slots.size ≤ ((7 : Int32)).toNatClampNeg) := inb_of S_b5 ⟨by decide, by decide⟩
  obtain ⟨T21, h21, X21, e21, W21, st21⟩ := stB X20 hx hZ rfl Ar_b5 (j := (7 : Int32)) hin81 (g := (mkF m 81 #[.val (.long q1), .second, .val (.int p2), .val (.int p3), .val (.int p4), .val (.ref b5), .unset, .unset, .unset, .unset, .unset, .unset] [(.int (bA q1 (7 : Int32))), (.int (7 : Int32)), (.ref b5)])) rfl rfl (hb hby at_81)
  have V_b5_21 := Arv.set Ar_b5 q_b5 S_b5 N_b5 H_b5 G_b5 (fits_nar_byte _) W21 7 rfl (Nat.le_of_ble_eq_true rfl)
  have K21 : Keep h0 h21 [] := KT20.wr W21 (Or.inr sz_b5)
  have N21 := Fr.snoc X21 N20 g_b5
  obtain ⟨T22, h22, X22, e22, E22, A22, D22, -, st22⟩ := newO X21 hx hZ hown (hw _ (List.mem_of_getElem? (i := 6) rfl)) (hw _ (List.mem_of_getElem? (i := 7) rfl)) (hw _ (List.mem_of_getElem? (i := 8) rfl)) e21 (g := (mkF m 106 #[.val (.long q1), .second, .val (.int p2), .val (.int p3), .val (.int p4), .val (.ref b5), .val (.int ((p2 &&& (2147483647 : Int32)) % (9 : Int32))), .val (.int (((p2 &&& (2147483647 : Int32)) % (9 : Int32)) + ((p3 &&& (2147483647 : Int32)) % ((9 : Int32) - ((p2 &&& (2147483647 : Int32)) % (9 : Int32)))))), .unset, .unset, .unset, .unset] [])) rfl (hb hby at_106) (by decide) (by decide)
  obtain ⟨b22, g22⟩ : ∃ z, z = h21.size := ⟨_, rfl⟩
  rw [← g22] at A22 D22 st22
  have F_source_b22 : Fld Z h22 b22 "com/example/ticketbridge/ticketbridge/io/Der" "source" "[B" .null := D22 (Or.inr (hw _ (List.mem_of_getElem? (i := 21) rfl))) (ty := (.array .byte)) (by decide)
  have F_tag_b22 : Fld Z h22 b22 "com/example/ticketbridge/ticketbridge/io/Der" "tag" "I" (.int (0 : Int32)) := D22 (Or.inr (hw _ (List.mem_of_getElem? (i := 23) rfl))) (ty := .int) (by decide)
  have F_start_b22 : Fld Z h22 b22 "com/example/ticketbridge/ticketbridge/io/Der" "start" "I" (.int (0 : Int32)) := D22 (Or.inr (hw _ (List.mem_of_getElem? (i := 25) rfl))) (ty := .int) (by decide)
  have F_end_b22 : Fld Z h22 b22 "com/example/ticketbridge/ticketbridge/io/Der" "end" "I" (.int (0 : Int32)) := D22 (Or.inr (hw _ (List.mem_of_getElem? (i := 27) rfl))) (ty := .int) (by decide)
  have E_b22 := A22
  have g_b22 : n0 ≤ b22 := Nat.le_trans (Nat.le_trans (Nat.le_trans (Nat.le_trans (Nat.le_trans (Nat.le_trans (Nat.le_trans (Nat.le_trans (Nat.le_trans (Nat.le_trans (Nat.le_trans (Nat.le_trans (Nat.le_trans (Nat.le_trans (Nat.le_trans (Nat.le_trans (Nat.le_trans (Nat.le_trans Z0 E5.1) KC6.1) (Keep.of_wr W7).1) KC8.1) (Keep.of_wr W9).1) KC10.1) (Keep.of_wr W11).1) KC12.1) (Keep.of_wr W13).1) KC14.1) (Keep.of_wr W15).1) KC16.1) (Keep.of_wr W17).1) KC18.1) (Keep.of_wr W19).1) KC20.1) (Keep.of_wr W21).1) (Nat.le_of_eq g22.symm)
  have sz_b22 : h0.size ≤ b22 := (Nat.le_trans K21.1 (Nat.le_of_eq g22.symm))
  have EXB21 : Exa Z h21 b5 "[B" := ((((((((((((((((EX5.keep KC6).wr W7).keep KC8).wr W9).keep KC10).wr W11).keep KC12).wr W13).keep KC14).wr W15).keep KC16).wr W17).keep KC18).wr W19).keep KC20).wr W21)
  have VB21 : Arv Z h21 b5 k5 .byte (8 : Int32) (vs8 q1) (.int (0 : Int32)) := V_b5_21
  have ne5 : b5 ≠ b22 := fun q => Nat.lt_irrefl _ (Nat.lt_of_lt_of_le VB21.lt (Nat.le_of_eq (g22.symm.trans q.symm)))
  have Z22 : n0 ≤ h22.size := Nat.le_trans Z0 (K21.ext E22).1
  obtain ⟨hs0, hs8⟩ := own_start p2
  obtain ⟨hnz102, hs1, hs2⟩ := own_end ((p2 &&& (2147483647 : Int32)) % (9 : Int32)) p3 hs0 hs8
  have hnz88 : ¬ ((9 : Int32) = (0 : Int32)) := by decide
  have hc264 : ¬ ((1 : Int32) = (0 : Int32)) := by decide
  obtain ⟨_, _, ⟨T23, L23, k23, n23⟩, -, X23, ⟨Lc23, hQ23, l23, y23, z23⟩, st23⟩ := X22.specialBack hx (y := (⟨"com/example/ticketbridge/ticketbridge/io/Der", "<init>", "([BIII)V"⟩ : MethodName)) rfl hown (mvT hZ (hw _ (List.mem_of_getElem? (i := 9) rfl))) (mvT hZ (hw _ (List.mem_of_getElem? (i := 10) rfl))) (mvT hZ (hw _ (List.mem_of_getElem? (i := 11) rfl))) (by decide) (backOf (W := 1) (rm2 l Z a0 hw [] b22 b5 p4 ((p2 &&& (2147483647 : Int32)) % (9 : Int32)) (((p2 &&& (2147483647 : Int32)) % (9 : Int32)) + ((p3 &&& (2147483647 : Int32)) % ((9 : Int32) - ((p2 &&& (2147483647 : Int32)) % (9 : Int32))))) .null (.int (0 : Int32)) (.int (0 : Int32)) (.int (0 : Int32)) h22 n0 Z22 E_b22 F_source_b22 g_b22 F_tag_b22 F_start_b22 F_end_b22) hZ (hw _ (List.mem_of_getElem? (i := 11) rfl)) (hw _ (List.mem_of_getElem? (i := 8) rfl)) (by decide) (by decide)) (g := (mkF m 118 #[.val (.long q1), .second, .val (.int p2), .val (.int p3), .val (.int p4), .val (.ref b5), .val (.int ((p2 &&& (2147483647 : Int32)) % (9 : Int32))), .val (.int (((p2 &&& (2147483647 : Int32)) % (9 : Int32)) + ((p3 &&& (2147483647 : Int32)) % ((9 : Int32) - ((p2 &&& (2147483647 : Int32)) % (9 : Int32)))))), .unset, .unset, .unset, .unset] [(.int (((p2 &&& (2147483647 : Int32)) % (9 : Int32)) + ((p3 &&& (2147483647 : Int32)) % ((9 : Int32) - ((p2 &&& (2147483647 : Int32)) % (9 : Int32)))))), (.int ((p2 &&& (2147483647 : Int32)) % (9 : Int32))), (.int p4), (.ref b5), (.ref b22), (.ref b22)])) rfl (by rw [hml]; rfl) (Steps.refl _) (a := b22) (argsL := [(.ref b5), (.int p4), (.int ((p2 &&& (2147483647 : Int32)) % (9 : Int32))), (.int (((p2 &&& (2147483647 : Int32)) % (9 : Int32)) + ((p3 &&& (2147483647 : Int32)) % ((9 : Int32) - ((p2 &&& (2147483647 : Int32)) % (9 : Int32))))))]) (rest := [(.ref b22)]) (lenOf pd_0_1 rfl) rfl (by show 2 * 0 + _ ≤ _; exact Nat.le_of_eq rfl) (hb hby at_118) (fun _ _ => ⟨rfl, e22, (by decide : 2 + 0 ≤ _), (by decide : 12 + 0 ≤ _)⟩)
  dsimp only [Pt.U, Pt.locs, Pt.cells, Pt.slots] at X23 l23 y23 z23 st23 hQ23
  rw [l23, y23, z23] at X23
  obtain ⟨rfl, N23q, KC23, E23, FS23, FT23, FB23, FE23⟩ := hQ23
  have Z23 : n0 ≤ T23.heap.size := Nat.le_trans Z22 KC23.1
  have VB23 : Arv Z T23.heap b5 k5 .byte (8 : Int32) (vs8 q1) (.int (0 : Int32)) := (VB21.ext E22).keep KC23 (ninS ne5 nin0)
  have EXB23 : Exa Z T23.heap b5 "[B" := (EXB21.ext E22).keep KC23
  have N23 := Fr.app N21 N23q
  obtain ⟨cq24, kq24, q24a, q24b, q24c⟩ := isOf hZ rfl (E_b22.keep KC23)
  obtain ⟨_, _, ⟨T24, L24, k24, n24⟩, -, X24, ⟨Lc24, hQ24, l24, y24, z24⟩, st24⟩ := X23.virtualBack hx (y := (⟨"com/example/ticketbridge/ticketbridge/io/Der", "content", "()[B"⟩ : MethodName)) (z := (⟨"com/example/ticketbridge/ticketbridge/io/Der", "content", "()[B"⟩ : MethodName)) hown (mvT hZ (hw _ (List.mem_of_getElem? (i := 28) rfl))) (mvT hZ (hw _ (List.mem_of_getElem? (i := 29) rfl))) (notFace_of_selects (args := #[]) (mvT hZ (hw _ (List.mem_of_getElem? (i := 31) rfl)))) (mvT hZ (hw _ (List.mem_of_getElem? (i := 31) rfl))) (mvT hZ (hw _ (List.mem_of_getElem? (i := 30) rfl))) (by decide) (backOf (W := 0) (rm5 l Z a0 hw [] b22 b5 ((p2 &&& (2147483647 : Int32)) % (9 : Int32)) (((p2 &&& (2147483647 : Int32)) % (9 : Int32)) + ((p3 &&& (2147483647 : Int32)) % ((9 : Int32) - ((p2 &&& (2147483647 : Int32)) % (9 : Int32))))) k5 (vs8 q1) T23.heap n0 Z23 FS23 FB23 FE23 EXB23 rfl VB23 hs0 hs1 hs2) hZ (hw _ (List.mem_of_getElem? (i := 32) rfl)) (hw _ (List.mem_of_getElem? (i := 8) rfl)) (by decide) (by decide)) q24a q24c (g := (mkF m 125 #[.val (.long q1), .second, .val (.int p2), .val (.int p3), .val (.int p4), .val (.ref b5), .val (.int ((p2 &&& (2147483647 : Int32)) % (9 : Int32))), .val (.int (((p2 &&& (2147483647 : Int32)) % (9 : Int32)) + ((p3 &&& (2147483647 : Int32)) % ((9 : Int32) - ((p2 &&& (2147483647 : Int32)) % (9 : Int32)))))), .val (.ref b22), .unset, .unset, .unset] [(.ref b22)])) rfl (by rw [hml]; rfl) (Steps.refl _) (argsL := []) (rest := []) (lenOf pd_0_3 rfl) rfl (by show 2 * 0 + _ ≤ _; exact Nat.le_of_eq rfl) (hb hby at_125) (fun _ _ => ⟨rfl, rfl, (by decide : 2 + 1 ≤ _), (by decide : 12 + 8 ≤ _)⟩)
  dsimp only [Pt.U, Pt.locs, Pt.cells, Pt.slots] at X24 l24 y24 z24 st24 hQ24
  rw [l24, y24, z24] at X24
  obtain ⟨rfl, N24q, KC24, kR, VR24⟩ := hQ24
  have Z24 : n0 ≤ T24.heap.size := Nat.le_trans Z23 KC24.1
  have hz : ¬ (((((p2 &&& (2147483647 : Int32)) % (9 : Int32)) + ((p3 &&& (2147483647 : Int32)) % ((9 : Int32) - ((p2 &&& (2147483647 : Int32)) % (9 : Int32))))) - ((p2 &&& (2147483647 : Int32)) % (9 : Int32)))) < 0 := by obtain ⟨c1, c2, c3, c4, c5, c6⟩ := VR24; exact c5
  have ha139 : ¬ (T23.heap.size = b5) := Nat.ne_of_gt VB23.lt
  obtain ⟨cl_r, Ar_r_24, q_r, S_r, N_r, H_r, G_r⟩ := id VR24
  have N24 := Fr.app N23 N24q
  obtain ⟨_, _, ⟨T25, L25, k25, n25⟩, -, X25, ⟨Lc25, hQ25, l25, y25, z25⟩, st25⟩ := Jvm.LawKit.callS X24 hx (y := (⟨"com/example/ticketbridge/ticketbridge/io/DerContentPinLaw", "at", "([BIJI)Z"⟩ : MethodName)) hown (mvT hZ (hw _ (List.mem_of_getElem? (i := 51) rfl))) (mvT hZ (hw _ (List.mem_of_getElem? (i := 52) rfl))) (mvT hZ (hw _ (List.mem_of_getElem? (i := 3) rfl))) (mvT hZ (hw _ (List.mem_of_getElem? (i := 53) rfl))) (by decide) (backOf (W := 0) (rm10 l Z a0 hw [] T23.heap.size (0 : Int32) q1 ((p2 &&& (2147483647 : Int32)) % (9 : Int32)) kR ((((p2 &&& (2147483647 : Int32)) % (9 : Int32)) + ((p3 &&& (2147483647 : Int32)) % ((9 : Int32) - ((p2 &&& (2147483647 : Int32)) % (9 : Int32))))) - ((p2 &&& (2147483647 : Int32)) % (9 : Int32))) (cut (vs8 q1) ((p2 &&& (2147483647 : Int32)) % (9 : Int32)) (((p2 &&& (2147483647 : Int32)) % (9 : Int32)) + ((p3 &&& (2147483647 : Int32)) % ((9 : Int32) - ((p2 &&& (2147483647 : Int32)) % (9 : Int32)))))) T24.heap n0 Z24 VR24 (by decide) (own_at q1 ((p2 &&& (2147483647 : Int32)) % (9 : Int32)) (((p2 &&& (2147483647 : Int32)) % (9 : Int32)) + ((p3 &&& (2147483647 : Int32)) % ((9 : Int32) - ((p2 &&& (2147483647 : Int32)) % (9 : Int32))))) (0 : Int32) hs0 hs1 hs2 (by decide))) hZ (hw _ (List.mem_of_getElem? (i := 53) rfl)) (hw _ (List.mem_of_getElem? (i := 3) rfl)) (by decide) (by decide)) (g := (mkF m 163 #[.val (.long q1), .second, .val (.int p2), .val (.int p3), .val (.int p4), .val (.ref b5), .val (.int ((p2 &&& (2147483647 : Int32)) % (9 : Int32))), .val (.int (((p2 &&& (2147483647 : Int32)) % (9 : Int32)) + ((p3 &&& (2147483647 : Int32)) % ((9 : Int32) - ((p2 &&& (2147483647 : Int32)) % (9 : Int32)))))), .val (.ref b22), .val (.ref T23.heap.size), .unset, .unset] [(.int ((p2 &&& (2147483647 : Int32)) % (9 : Int32))), (.long q1), (.int (0 : Int32)), (.ref T23.heap.size)])) rfl (by rw [hml]; rfl) (argsL := [(.ref T23.heap.size), (.int (0 : Int32)), (.long q1), (.int ((p2 &&& (2147483647 : Int32)) % (9 : Int32)))]) (rest := []) (lenOf pd_0_8 rfl) rfl (by show 2 * 0 + _ ≤ _; exact Nat.le_of_eq rfl) (hb hby at_163) (fun _ _ => ⟨rfl, rfl, (by decide : 3 + 0 ≤ _), (by decide : 20 + 0 ≤ _)⟩)
  dsimp only [Pt.U, Pt.locs, Pt.cells, Pt.slots] at X25 l25 y25 z25 st25 hQ25
  rw [l25, y25, z25] at X25
  obtain ⟨rfl, N25q, ek25⟩ := hQ25
  have KC25 : Keep T24.heap T25.heap [] := by rw [ek25]; exact Keep.refl _ _
  have Z25 : n0 ≤ T25.heap.size := by rw [ek25]; exact Z24
  have VR25 : Arv Z T25.heap T23.heap.size kR .byte ((((p2 &&& (2147483647 : Int32)) % (9 : Int32)) + ((p3 &&& (2147483647 : Int32)) % ((9 : Int32) - ((p2 &&& (2147483647 : Int32)) % (9 : Int32))))) - ((p2 &&& (2147483647 : Int32)) % (9 : Int32))) (cut (vs8 q1) ((p2 &&& (2147483647 : Int32)) % (9 : Int32)) (((p2 &&& (2147483647 : Int32)) % (9 : Int32)) + ((p3 &&& (2147483647 : Int32)) % ((9 : Int32) - ((p2 &&& (2147483647 : Int32)) % (9 : Int32)))))) (.int (0 : Int32)) := by rw [ek25]; exact VR24
  have N25 := Fr.app N24 N25q
  obtain ⟨_, _, ⟨T26, L26, k26, n26⟩, -, X26, ⟨Lc26, hQ26, l26, y26, z26⟩, st26⟩ := Jvm.LawKit.callS X25 hx (y := (⟨"com/example/ticketbridge/ticketbridge/io/DerContentPinLaw", "at", "([BIJI)Z"⟩ : MethodName)) hown (mvT hZ (hw _ (List.mem_of_getElem? (i := 51) rfl))) (mvT hZ (hw _ (List.mem_of_getElem? (i := 52) rfl))) (mvT hZ (hw _ (List.mem_of_getElem? (i := 3) rfl))) (mvT hZ (hw _ (List.mem_of_getElem? (i := 53) rfl))) (by decide) (backOf (W := 0) (rm10 l Z a0 hw [] T23.heap.size (1 : Int32) q1 ((p2 &&& (2147483647 : Int32)) % (9 : Int32)) kR ((((p2 &&& (2147483647 : Int32)) % (9 : Int32)) + ((p3 &&& (2147483647 : Int32)) % ((9 : Int32) - ((p2 &&& (2147483647 : Int32)) % (9 : Int32))))) - ((p2 &&& (2147483647 : Int32)) % (9 : Int32))) (cut (vs8 q1) ((p2 &&& (2147483647 : Int32)) % (9 : Int32)) (((p2 &&& (2147483647 : Int32)) % (9 : Int32)) + ((p3 &&& (2147483647 : Int32)) % ((9 : Int32) - ((p2 &&& (2147483647 : Int32)) % (9 : Int32)))))) T25.heap n0 Z25 VR25 (by decide) (own_at q1 ((p2 &&& (2147483647 : Int32)) % (9 : Int32)) (((p2 &&& (2147483647 : Int32)) % (9 : Int32)) + ((p3 &&& (2147483647 : Int32)) % ((9 : Int32) - ((p2 &&& (2147483647 : Int32)) % (9 : Int32))))) (1 : Int32) hs0 hs1 hs2 (by decide))) hZ (hw _ (List.mem_of_getElem? (i := 53) rfl)) (hw _ (List.mem_of_getElem? (i := 3) rfl)) (by decide) (by decide)) (g := (mkF m 175 #[.val (.long q1), .second, .val (.int p2), .val (.int p3), .val (.int p4), .val (.ref b5), .val (.int ((p2 &&& (2147483647 : Int32)) % (9 : Int32))), .val (.int (((p2 &&& (2147483647 : Int32)) % (9 : Int32)) + ((p3 &&& (2147483647 : Int32)) % ((9 : Int32) - ((p2 &&& (2147483647 : Int32)) % (9 : Int32)))))), .val (.ref b22), .val (.ref T23.heap.size), .unset, .unset] [(.int ((p2 &&& (2147483647 : Int32)) % (9 : Int32))), (.long q1), (.int (1 : Int32)), (.ref T23.heap.size)])) rfl (by rw [hml]; rfl) (argsL := [(.ref T23.heap.size), (.int (1 : Int32)), (.long q1), (.int ((p2 &&& (2147483647 : Int32)) % (9 : Int32)))]) (rest := []) (lenOf pd_0_8 rfl) rfl (by show 2 * 0 + _ ≤ _; exact Nat.le_of_eq rfl) (hb hby at_175) (fun _ _ => ⟨rfl, rfl, (by decide : 3 + 0 ≤ _), (by decide : 20 + 0 ≤ _)⟩)
  dsimp only [Pt.U, Pt.locs, Pt.cells, Pt.slots] at X26 l26 y26 z26 st26 hQ26
  rw [l26, y26, z26] at X26
  obtain ⟨rfl, N26q, ek26⟩ := hQ26
  have KC26 : Keep T25.heap T26.heap [] := by rw [ek26]; exact Keep.refl _ _
  have Z26 : n0 ≤ T26.heap.size := by rw [ek26]; exact Z25
  have VR26 : Arv Z T26.heap T23.heap.size kR .byte ((((p2 &&& (2147483647 : Int32)) % (9 : Int32)) + ((p3 &&& (2147483647 : Int32)) % ((9 : Int32) - ((p2 &&& (2147483647 : Int32)) % (9 : Int32))))) - ((p2 &&& (2147483647 : Int32)) % (9 : Int32))) (cut (vs8 q1) ((p2 &&& (2147483647 : Int32)) % (9 : Int32)) (((p2 &&& (2147483647 : Int32)) % (9 : Int32)) + ((p3 &&& (2147483647 : Int32)) % ((9 : Int32) - ((p2 &&& (2147483647 : Int32)) % (9 : Int32)))))) (.int (0 : Int32)) := by rw [ek26]; exact VR25
  have N26 := Fr.app N25 N26q
  obtain ⟨_, _, ⟨T27, L27, k27, n27⟩, -, X27, ⟨Lc27, hQ27, l27, y27, z27⟩, st27⟩ := Jvm.LawKit.callS X26 hx (y := (⟨"com/example/ticketbridge/ticketbridge/io/DerContentPinLaw", "at", "([BIJI)Z"⟩ : MethodName)) hown (mvT hZ (hw _ (List.mem_of_getElem? (i := 51) rfl))) (mvT hZ (hw _ (List.mem_of_getElem? (i := 52) rfl))) (mvT hZ (hw _ (List.mem_of_getElem? (i := 3) rfl))) (mvT hZ (hw _ (List.mem_of_getElem? (i := 53) rfl))) (by decide) (backOf (W := 0) (rm10 l Z a0 hw [] T23.heap.size (2 : Int32) q1 ((p2 &&& (2147483647 : Int32)) % (9 : Int32)) kR ((((p2 &&& (2147483647 : Int32)) % (9 : Int32)) + ((p3 &&& (2147483647 : Int32)) % ((9 : Int32) - ((p2 &&& (2147483647 : Int32)) % (9 : Int32))))) - ((p2 &&& (2147483647 : Int32)) % (9 : Int32))) (cut (vs8 q1) ((p2 &&& (2147483647 : Int32)) % (9 : Int32)) (((p2 &&& (2147483647 : Int32)) % (9 : Int32)) + ((p3 &&& (2147483647 : Int32)) % ((9 : Int32) - ((p2 &&& (2147483647 : Int32)) % (9 : Int32)))))) T26.heap n0 Z26 VR26 (by decide) (own_at q1 ((p2 &&& (2147483647 : Int32)) % (9 : Int32)) (((p2 &&& (2147483647 : Int32)) % (9 : Int32)) + ((p3 &&& (2147483647 : Int32)) % ((9 : Int32) - ((p2 &&& (2147483647 : Int32)) % (9 : Int32))))) (2 : Int32) hs0 hs1 hs2 (by decide))) hZ (hw _ (List.mem_of_getElem? (i := 53) rfl)) (hw _ (List.mem_of_getElem? (i := 3) rfl)) (by decide) (by decide)) (g := (mkF m 187 #[.val (.long q1), .second, .val (.int p2), .val (.int p3), .val (.int p4), .val (.ref b5), .val (.int ((p2 &&& (2147483647 : Int32)) % (9 : Int32))), .val (.int (((p2 &&& (2147483647 : Int32)) % (9 : Int32)) + ((p3 &&& (2147483647 : Int32)) % ((9 : Int32) - ((p2 &&& (2147483647 : Int32)) % (9 : Int32)))))), .val (.ref b22), .val (.ref T23.heap.size), .unset, .unset] [(.int ((p2 &&& (2147483647 : Int32)) % (9 : Int32))), (.long q1), (.int (2 : Int32)), (.ref T23.heap.size)])) rfl (by rw [hml]; rfl) (argsL := [(.ref T23.heap.size), (.int (2 : Int32)), (.long q1), (.int ((p2 &&& (2147483647 : Int32)) % (9 : Int32)))]) (rest := []) (lenOf pd_0_8 rfl) rfl (by show 2 * 0 + _ ≤ _; exact Nat.le_of_eq rfl) (hb hby at_187) (fun _ _ => ⟨rfl, rfl, (by decide : 3 + 0 ≤ _), (by decide : 20 + 0 ≤ _)⟩)
  dsimp only [Pt.U, Pt.locs, Pt.cells, Pt.slots] at X27 l27 y27 z27 st27 hQ27
  rw [l27, y27, z27] at X27
  obtain ⟨rfl, N27q, ek27⟩ := hQ27
  have KC27 : Keep T26.heap T27.heap [] := by rw [ek27]; exact Keep.refl _ _
  have Z27 : n0 ≤ T27.heap.size := by rw [ek27]; exact Z26
  have VR27 : Arv Z T27.heap T23.heap.size kR .byte ((((p2 &&& (2147483647 : Int32)) % (9 : Int32)) + ((p3 &&& (2147483647 : Int32)) % ((9 : Int32) - ((p2 &&& (2147483647 : Int32)) % (9 : Int32))))) - ((p2 &&& (2147483647 : Int32)) % (9 : Int32))) (cut (vs8 q1) ((p2 &&& (2147483647 : Int32)) % (9 : Int32)) (((p2 &&& (2147483647 : Int32)) % (9 : Int32)) + ((p3 &&& (2147483647 : Int32)) % ((9 : Int32) - ((p2 &&& (2147483647 : Int32)) % (9 : Int32)))))) (.int (0 : Int32)) := by rw [ek27]; exact VR26
  have N27 := Fr.app N26 N27q
  obtain ⟨_, _, ⟨T28, L28, k28, n28⟩, -, X28, ⟨Lc28, hQ28, l28, y28, z28⟩, st28⟩ := Jvm.LawKit.callS X27 hx (y := (⟨"com/example/ticketbridge/ticketbridge/io/DerContentPinLaw", "at", "([BIJI)Z"⟩ : MethodName)) hown (mvT hZ (hw _ (List.mem_of_getElem? (i := 51) rfl))) (mvT hZ (hw _ (List.mem_of_getElem? (i := 52) rfl))) (mvT hZ (hw _ (List.mem_of_getElem? (i := 3) rfl))) (mvT hZ (hw _ (List.mem_of_getElem? (i := 53) rfl))) (by decide) (backOf (W := 0) (rm10 l Z a0 hw [] T23.heap.size (3 : Int32) q1 ((p2 &&& (2147483647 : Int32)) % (9 : Int32)) kR ((((p2 &&& (2147483647 : Int32)) % (9 : Int32)) + ((p3 &&& (2147483647 : Int32)) % ((9 : Int32) - ((p2 &&& (2147483647 : Int32)) % (9 : Int32))))) - ((p2 &&& (2147483647 : Int32)) % (9 : Int32))) (cut (vs8 q1) ((p2 &&& (2147483647 : Int32)) % (9 : Int32)) (((p2 &&& (2147483647 : Int32)) % (9 : Int32)) + ((p3 &&& (2147483647 : Int32)) % ((9 : Int32) - ((p2 &&& (2147483647 : Int32)) % (9 : Int32)))))) T27.heap n0 Z27 VR27 (by decide) (own_at q1 ((p2 &&& (2147483647 : Int32)) % (9 : Int32)) (((p2 &&& (2147483647 : Int32)) % (9 : Int32)) + ((p3 &&& (2147483647 : Int32)) % ((9 : Int32) - ((p2 &&& (2147483647 : Int32)) % (9 : Int32))))) (3 : Int32) hs0 hs1 hs2 (by decide))) hZ (hw _ (List.mem_of_getElem? (i := 53) rfl)) (hw _ (List.mem_of_getElem? (i := 3) rfl)) (by decide) (by decide)) (g := (mkF m 199 #[.val (.long q1), .second, .val (.int p2), .val (.int p3), .val (.int p4), .val (.ref b5), .val (.int ((p2 &&& (2147483647 : Int32)) % (9 : Int32))), .val (.int (((p2 &&& (2147483647 : Int32)) % (9 : Int32)) + ((p3 &&& (2147483647 : Int32)) % ((9 : Int32) - ((p2 &&& (2147483647 : Int32)) % (9 : Int32)))))), .val (.ref b22), .val (.ref T23.heap.size), .unset, .unset] [(.int ((p2 &&& (2147483647 : Int32)) % (9 : Int32))), (.long q1), (.int (3 : Int32)), (.ref T23.heap.size)])) rfl (by rw [hml]; rfl) (argsL := [(.ref T23.heap.size), (.int (3 : Int32)), (.long q1), (.int ((p2 &&& (2147483647 : Int32)) % (9 : Int32)))]) (rest := []) (lenOf pd_0_8 rfl) rfl (by show 2 * 0 + _ ≤ _; exact Nat.le_of_eq rfl) (hb hby at_199) (fun _ _ => ⟨rfl, rfl, (by decide : 3 + 0 ≤ _), (by decide : 20 + 0 ≤ _)⟩)
  dsimp only [Pt.U, Pt.locs, Pt.cells, Pt.slots] at X28 l28 y28 z28 st28 hQ28
  rw [l28, y28, z28] at X28
  obtain ⟨rfl, N28q, ek28⟩ := hQ28
  have KC28 : Keep T27.heap T28.heap [] := by rw [ek28]; exact Keep.refl _ _
  have Z28 : n0 ≤ T28.heap.size := by rw [ek28]; exact Z27
  have VR28 : Arv Z T28.heap T23.heap.size kR .byte ((((p2 &&& (2147483647 : Int32)) % (9 : Int32)) + ((p3 &&& (2147483647 : Int32)) % ((9 : Int32) - ((p2 &&& (2147483647 : Int32)) % (9 : Int32))))) - ((p2 &&& (2147483647 : Int32)) % (9 : Int32))) (cut (vs8 q1) ((p2 &&& (2147483647 : Int32)) % (9 : Int32)) (((p2 &&& (2147483647 : Int32)) % (9 : Int32)) + ((p3 &&& (2147483647 : Int32)) % ((9 : Int32) - ((p2 &&& (2147483647 : Int32)) % (9 : Int32)))))) (.int (0 : Int32)) := by rw [ek28]; exact VR27
  have N28 := Fr.app N27 N28q
  obtain ⟨_, _, ⟨T29, L29, k29, n29⟩, -, X29, ⟨Lc29, hQ29, l29, y29, z29⟩, st29⟩ := Jvm.LawKit.callS X28 hx (y := (⟨"com/example/ticketbridge/ticketbridge/io/DerContentPinLaw", "at", "([BIJI)Z"⟩ : MethodName)) hown (mvT hZ (hw _ (List.mem_of_getElem? (i := 51) rfl))) (mvT hZ (hw _ (List.mem_of_getElem? (i := 52) rfl))) (mvT hZ (hw _ (List.mem_of_getElem? (i := 3) rfl))) (mvT hZ (hw _ (List.mem_of_getElem? (i := 53) rfl))) (by decide) (backOf (W := 0) (rm10 l Z a0 hw [] T23.heap.size (4 : Int32) q1 ((p2 &&& (2147483647 : Int32)) % (9 : Int32)) kR ((((p2 &&& (2147483647 : Int32)) % (9 : Int32)) + ((p3 &&& (2147483647 : Int32)) % ((9 : Int32) - ((p2 &&& (2147483647 : Int32)) % (9 : Int32))))) - ((p2 &&& (2147483647 : Int32)) % (9 : Int32))) (cut (vs8 q1) ((p2 &&& (2147483647 : Int32)) % (9 : Int32)) (((p2 &&& (2147483647 : Int32)) % (9 : Int32)) + ((p3 &&& (2147483647 : Int32)) % ((9 : Int32) - ((p2 &&& (2147483647 : Int32)) % (9 : Int32)))))) T28.heap n0 Z28 VR28 (by decide) (own_at q1 ((p2 &&& (2147483647 : Int32)) % (9 : Int32)) (((p2 &&& (2147483647 : Int32)) % (9 : Int32)) + ((p3 &&& (2147483647 : Int32)) % ((9 : Int32) - ((p2 &&& (2147483647 : Int32)) % (9 : Int32))))) (4 : Int32) hs0 hs1 hs2 (by decide))) hZ (hw _ (List.mem_of_getElem? (i := 53) rfl)) (hw _ (List.mem_of_getElem? (i := 3) rfl)) (by decide) (by decide)) (g := (mkF m 211 #[.val (.long q1), .second, .val (.int p2), .val (.int p3), .val (.int p4), .val (.ref b5), .val (.int ((p2 &&& (2147483647 : Int32)) % (9 : Int32))), .val (.int (((p2 &&& (2147483647 : Int32)) % (9 : Int32)) + ((p3 &&& (2147483647 : Int32)) % ((9 : Int32) - ((p2 &&& (2147483647 : Int32)) % (9 : Int32)))))), .val (.ref b22), .val (.ref T23.heap.size), .unset, .unset] [(.int ((p2 &&& (2147483647 : Int32)) % (9 : Int32))), (.long q1), (.int (4 : Int32)), (.ref T23.heap.size)])) rfl (by rw [hml]; rfl) (argsL := [(.ref T23.heap.size), (.int (4 : Int32)), (.long q1), (.int ((p2 &&& (2147483647 : Int32)) % (9 : Int32)))]) (rest := []) (lenOf pd_0_8 rfl) rfl (by show 2 * 0 + _ ≤ _; exact Nat.le_of_eq rfl) (hb hby at_211) (fun _ _ => ⟨rfl, rfl, (by decide : 3 + 0 ≤ _), (by decide : 20 + 0 ≤ _)⟩)
  dsimp only [Pt.U, Pt.locs, Pt.cells, Pt.slots] at X29 l29 y29 z29 st29 hQ29
  rw [l29, y29, z29] at X29
  obtain ⟨rfl, N29q, ek29⟩ := hQ29
  have KC29 : Keep T28.heap T29.heap [] := by rw [ek29]; exact Keep.refl _ _
  have Z29 : n0 ≤ T29.heap.size := by rw [ek29]; exact Z28
  have VR29 : Arv Z T29.heap T23.heap.size kR .byte ((((p2 &&& (2147483647 : Int32)) % (9 : Int32)) + ((p3 &&& (2147483647 : Int32)) % ((9 : Int32) - ((p2 &&& (2147483647 : Int32)) % (9 : Int32))))) - ((p2 &&& (2147483647 : Int32)) % (9 : Int32))) (cut (vs8 q1) ((p2 &&& (2147483647 : Int32)) % (9 : Int32)) (((p2 &&& (2147483647 : Int32)) % (9 : Int32)) + ((p3 &&& (2147483647 : Int32)) % ((9 : Int32) - ((p2 &&& (2147483647 : Int32)) % (9 : Int32)))))) (.int (0 : Int32)) := by rw [ek29]; exact VR28
  have N29 := Fr.app N28 N29q
  obtain ⟨_, _, ⟨T30, L30, k30, n30⟩, -, X30, ⟨Lc30, hQ30, l30, y30, z30⟩, st30⟩ := Jvm.LawKit.callS X29 hx (y := (⟨"com/example/ticketbridge/ticketbridge/io/DerContentPinLaw", "at", "([BIJI)Z"⟩ : MethodName)) hown (mvT hZ (hw _ (List.mem_of_getElem? (i := 51) rfl))) (mvT hZ (hw _ (List.mem_of_getElem? (i := 52) rfl))) (mvT hZ (hw _ (List.mem_of_getElem? (i := 3) rfl))) (mvT hZ (hw _ (List.mem_of_getElem? (i := 53) rfl))) (by decide) (backOf (W := 0) (rm10 l Z a0 hw [] T23.heap.size (5 : Int32) q1 ((p2 &&& (2147483647 : Int32)) % (9 : Int32)) kR ((((p2 &&& (2147483647 : Int32)) % (9 : Int32)) + ((p3 &&& (2147483647 : Int32)) % ((9 : Int32) - ((p2 &&& (2147483647 : Int32)) % (9 : Int32))))) - ((p2 &&& (2147483647 : Int32)) % (9 : Int32))) (cut (vs8 q1) ((p2 &&& (2147483647 : Int32)) % (9 : Int32)) (((p2 &&& (2147483647 : Int32)) % (9 : Int32)) + ((p3 &&& (2147483647 : Int32)) % ((9 : Int32) - ((p2 &&& (2147483647 : Int32)) % (9 : Int32)))))) T29.heap n0 Z29 VR29 (by decide) (own_at q1 ((p2 &&& (2147483647 : Int32)) % (9 : Int32)) (((p2 &&& (2147483647 : Int32)) % (9 : Int32)) + ((p3 &&& (2147483647 : Int32)) % ((9 : Int32) - ((p2 &&& (2147483647 : Int32)) % (9 : Int32))))) (5 : Int32) hs0 hs1 hs2 (by decide))) hZ (hw _ (List.mem_of_getElem? (i := 53) rfl)) (hw _ (List.mem_of_getElem? (i := 3) rfl)) (by decide) (by decide)) (g := (mkF m 223 #[.val (.long q1), .second, .val (.int p2), .val (.int p3), .val (.int p4), .val (.ref b5), .val (.int ((p2 &&& (2147483647 : Int32)) % (9 : Int32))), .val (.int (((p2 &&& (2147483647 : Int32)) % (9 : Int32)) + ((p3 &&& (2147483647 : Int32)) % ((9 : Int32) - ((p2 &&& (2147483647 : Int32)) % (9 : Int32)))))), .val (.ref b22), .val (.ref T23.heap.size), .unset, .unset] [(.int ((p2 &&& (2147483647 : Int32)) % (9 : Int32))), (.long q1), (.int (5 : Int32)), (.ref T23.heap.size)])) rfl (by rw [hml]; rfl) (argsL := [(.ref T23.heap.size), (.int (5 : Int32)), (.long q1), (.int ((p2 &&& (2147483647 : Int32)) % (9 : Int32)))]) (rest := []) (lenOf pd_0_8 rfl) rfl (by show 2 * 0 + _ ≤ _; exact Nat.le_of_eq rfl) (hb hby at_223) (fun _ _ => ⟨rfl, rfl, (by decide : 3 + 0 ≤ _), (by decide : 20 + 0 ≤ _)⟩)
  dsimp only [Pt.U, Pt.locs, Pt.cells, Pt.slots] at X30 l30 y30 z30 st30 hQ30
  rw [l30, y30, z30] at X30
  obtain ⟨rfl, N30q, ek30⟩ := hQ30
  have KC30 : Keep T29.heap T30.heap [] := by rw [ek30]; exact Keep.refl _ _
  have Z30 : n0 ≤ T30.heap.size := by rw [ek30]; exact Z29
  have VR30 : Arv Z T30.heap T23.heap.size kR .byte ((((p2 &&& (2147483647 : Int32)) % (9 : Int32)) + ((p3 &&& (2147483647 : Int32)) % ((9 : Int32) - ((p2 &&& (2147483647 : Int32)) % (9 : Int32))))) - ((p2 &&& (2147483647 : Int32)) % (9 : Int32))) (cut (vs8 q1) ((p2 &&& (2147483647 : Int32)) % (9 : Int32)) (((p2 &&& (2147483647 : Int32)) % (9 : Int32)) + ((p3 &&& (2147483647 : Int32)) % ((9 : Int32) - ((p2 &&& (2147483647 : Int32)) % (9 : Int32)))))) (.int (0 : Int32)) := by rw [ek30]; exact VR29
  have N30 := Fr.app N29 N30q
  obtain ⟨_, _, ⟨T31, L31, k31, n31⟩, -, X31, ⟨Lc31, hQ31, l31, y31, z31⟩, st31⟩ := Jvm.LawKit.callS X30 hx (y := (⟨"com/example/ticketbridge/ticketbridge/io/DerContentPinLaw", "at", "([BIJI)Z"⟩ : MethodName)) hown (mvT hZ (hw _ (List.mem_of_getElem? (i := 51) rfl))) (mvT hZ (hw _ (List.mem_of_getElem? (i := 52) rfl))) (mvT hZ (hw _ (List.mem_of_getElem? (i := 3) rfl))) (mvT hZ (hw _ (List.mem_of_getElem? (i := 53) rfl))) (by decide) (backOf (W := 0) (rm10 l Z a0 hw [] T23.heap.size (6 : Int32) q1 ((p2 &&& (2147483647 : Int32)) % (9 : Int32)) kR ((((p2 &&& (2147483647 : Int32)) % (9 : Int32)) + ((p3 &&& (2147483647 : Int32)) % ((9 : Int32) - ((p2 &&& (2147483647 : Int32)) % (9 : Int32))))) - ((p2 &&& (2147483647 : Int32)) % (9 : Int32))) (cut (vs8 q1) ((p2 &&& (2147483647 : Int32)) % (9 : Int32)) (((p2 &&& (2147483647 : Int32)) % (9 : Int32)) + ((p3 &&& (2147483647 : Int32)) % ((9 : Int32) - ((p2 &&& (2147483647 : Int32)) % (9 : Int32)))))) T30.heap n0 Z30 VR30 (by decide) (own_at q1 ((p2 &&& (2147483647 : Int32)) % (9 : Int32)) (((p2 &&& (2147483647 : Int32)) % (9 : Int32)) + ((p3 &&& (2147483647 : Int32)) % ((9 : Int32) - ((p2 &&& (2147483647 : Int32)) % (9 : Int32))))) (6 : Int32) hs0 hs1 hs2 (by decide))) hZ (hw _ (List.mem_of_getElem? (i := 53) rfl)) (hw _ (List.mem_of_getElem? (i := 3) rfl)) (by decide) (by decide)) (g := (mkF m 236 #[.val (.long q1), .second, .val (.int p2), .val (.int p3), .val (.int p4), .val (.ref b5), .val (.int ((p2 &&& (2147483647 : Int32)) % (9 : Int32))), .val (.int (((p2 &&& (2147483647 : Int32)) % (9 : Int32)) + ((p3 &&& (2147483647 : Int32)) % ((9 : Int32) - ((p2 &&& (2147483647 : Int32)) % (9 : Int32)))))), .val (.ref b22), .val (.ref T23.heap.size), .unset, .unset] [(.int ((p2 &&& (2147483647 : Int32)) % (9 : Int32))), (.long q1), (.int (6 : Int32)), (.ref T23.heap.size)])) rfl (by rw [hml]; rfl) (argsL := [(.ref T23.heap.size), (.int (6 : Int32)), (.long q1), (.int ((p2 &&& (2147483647 : Int32)) % (9 : Int32)))]) (rest := []) (lenOf pd_0_8 rfl) rfl (by show 2 * 0 + _ ≤ _; exact Nat.le_of_eq rfl) (hb hby at_236) (fun _ _ => ⟨rfl, rfl, (by decide : 3 + 0 ≤ _), (by decide : 20 + 0 ≤ _)⟩)
  dsimp only [Pt.U, Pt.locs, Pt.cells, Pt.slots] at X31 l31 y31 z31 st31 hQ31
  rw [l31, y31, z31] at X31
  obtain ⟨rfl, N31q, ek31⟩ := hQ31
  have KC31 : Keep T30.heap T31.heap [] := by rw [ek31]; exact Keep.refl _ _
  have Z31 : n0 ≤ T31.heap.size := by rw [ek31]; exact Z30
  have VR31 : Arv Z T31.heap T23.heap.size kR .byte ((((p2 &&& (2147483647 : Int32)) % (9 : Int32)) + ((p3 &&& (2147483647 : Int32)) % ((9 : Int32) - ((p2 &&& (2147483647 : Int32)) % (9 : Int32))))) - ((p2 &&& (2147483647 : Int32)) % (9 : Int32))) (cut (vs8 q1) ((p2 &&& (2147483647 : Int32)) % (9 : Int32)) (((p2 &&& (2147483647 : Int32)) % (9 : Int32)) + ((p3 &&& (2147483647 : Int32)) % ((9 : Int32) - ((p2 &&& (2147483647 : Int32)) % (9 : Int32)))))) (.int (0 : Int32)) := by rw [ek31]; exact VR30
  have N31 := Fr.app N30 N31q
  obtain ⟨_, _, ⟨T32, L32, k32, n32⟩, -, X32, ⟨Lc32, hQ32, l32, y32, z32⟩, st32⟩ := Jvm.LawKit.callS X31 hx (y := (⟨"com/example/ticketbridge/ticketbridge/io/DerContentPinLaw", "at", "([BIJI)Z"⟩ : MethodName)) hown (mvT hZ (hw _ (List.mem_of_getElem? (i := 51) rfl))) (mvT hZ (hw _ (List.mem_of_getElem? (i := 52) rfl))) (mvT hZ (hw _ (List.mem_of_getElem? (i := 3) rfl))) (mvT hZ (hw _ (List.mem_of_getElem? (i := 53) rfl))) (by decide) (backOf (W := 0) (rm10 l Z a0 hw [] T23.heap.size (7 : Int32) q1 ((p2 &&& (2147483647 : Int32)) % (9 : Int32)) kR ((((p2 &&& (2147483647 : Int32)) % (9 : Int32)) + ((p3 &&& (2147483647 : Int32)) % ((9 : Int32) - ((p2 &&& (2147483647 : Int32)) % (9 : Int32))))) - ((p2 &&& (2147483647 : Int32)) % (9 : Int32))) (cut (vs8 q1) ((p2 &&& (2147483647 : Int32)) % (9 : Int32)) (((p2 &&& (2147483647 : Int32)) % (9 : Int32)) + ((p3 &&& (2147483647 : Int32)) % ((9 : Int32) - ((p2 &&& (2147483647 : Int32)) % (9 : Int32)))))) T31.heap n0 Z31 VR31 (by decide) (own_at q1 ((p2 &&& (2147483647 : Int32)) % (9 : Int32)) (((p2 &&& (2147483647 : Int32)) % (9 : Int32)) + ((p3 &&& (2147483647 : Int32)) % ((9 : Int32) - ((p2 &&& (2147483647 : Int32)) % (9 : Int32))))) (7 : Int32) hs0 hs1 hs2 (by decide))) hZ (hw _ (List.mem_of_getElem? (i := 53) rfl)) (hw _ (List.mem_of_getElem? (i := 3) rfl)) (by decide) (by decide)) (g := (mkF m 249 #[.val (.long q1), .second, .val (.int p2), .val (.int p3), .val (.int p4), .val (.ref b5), .val (.int ((p2 &&& (2147483647 : Int32)) % (9 : Int32))), .val (.int (((p2 &&& (2147483647 : Int32)) % (9 : Int32)) + ((p3 &&& (2147483647 : Int32)) % ((9 : Int32) - ((p2 &&& (2147483647 : Int32)) % (9 : Int32)))))), .val (.ref b22), .val (.ref T23.heap.size), .unset, .unset] [(.int ((p2 &&& (2147483647 : Int32)) % (9 : Int32))), (.long q1), (.int (7 : Int32)), (.ref T23.heap.size)])) rfl (by rw [hml]; rfl) (argsL := [(.ref T23.heap.size), (.int (7 : Int32)), (.long q1), (.int ((p2 &&& (2147483647 : Int32)) % (9 : Int32)))]) (rest := []) (lenOf pd_0_8 rfl) rfl (by show 2 * 0 + _ ≤ _; exact Nat.le_of_eq rfl) (hb hby at_249) (fun _ _ => ⟨rfl, rfl, (by decide : 3 + 0 ≤ _), (by decide : 20 + 0 ≤ _)⟩)
  dsimp only [Pt.U, Pt.locs, Pt.cells, Pt.slots] at X32 l32 y32 z32 st32 hQ32
  rw [l32, y32, z32] at X32
  obtain ⟨rfl, N32q, ek32⟩ := hQ32
  have KC32 : Keep T31.heap T32.heap [] := by rw [ek32]; exact Keep.refl _ _
  have Z32 : n0 ≤ T32.heap.size := by rw [ek32]; exact Z31
  have VR32 : Arv Z T32.heap T23.heap.size kR .byte ((((p2 &&& (2147483647 : Int32)) % (9 : Int32)) + ((p3 &&& (2147483647 : Int32)) % ((9 : Int32) - ((p2 &&& (2147483647 : Int32)) % (9 : Int32))))) - ((p2 &&& (2147483647 : Int32)) % (9 : Int32))) (cut (vs8 q1) ((p2 &&& (2147483647 : Int32)) % (9 : Int32)) (((p2 &&& (2147483647 : Int32)) % (9 : Int32)) + ((p3 &&& (2147483647 : Int32)) % ((9 : Int32) - ((p2 &&& (2147483647 : Int32)) % (9 : Int32)))))) (.int (0 : Int32)) := by rw [ek32]; exact VR31
  have N32 := Fr.app N31 N32q
  have Ar_r_32 : Arr Z T32.heap T23.heap.size cl_r .byte := by
    rw [ek32, ek31, ek30, ek29, ek28, ek27, ek26, ek25]; exact Ar_r_24
  obtain ⟨fs, hr, hrun, hended, hW, hsame⟩ := X32.leave (v := some (.int (1 : Int32))) (fun h => by rw [Bd.returns] at h; cases h)
  refine ⟨_, _, pre0 _ ?_, hrun, hended, _, _, rfl, ?_, ⟨_, rfl⟩, hW, hsame.mono (by decide) (by decide)⟩
  · show Steps p.tables e below (s₁.setTop (mkF m 0 #[.val (.long q1), .second, .val (.int p2), .val (.int p3), .val (.int p4), .unset, .unset, .unset, .unset, .unset, .unset, .unset] [])) _
    refine XS.bipush X0.here hx rfl (hb hby at_0) ?_
    show Steps p.tables e below (s₁.setTop (mkF m 2 #[.val (.long q1), .second, .val (.int p2), .val (.int p3), .val (.int p4), .unset, .unset, .unset, .unset, .unset, .unset, .unset] [(.int (8 : Int32))])) _
    refine st5 _ ?_
    show Steps p.tables e below (T5.setTop (mkF m 4 #[.val (.long q1), .second, .val (.int p2), .val (.int p3), .val (.int p4), .unset, .unset, .unset, .unset, .unset, .unset, .unset] [(.ref b5)])) _
    refine XS.astore X5.here hx rfl (hb hby at_4) rfl rfl (l' := #[.val (.long q1), .second, .val (.int p2), .val (.int p3), .val (.int p4), .val (.ref b5), .unset, .unset, .unset, .unset, .unset, .unset]) rfl ?_
    show Steps p.tables e below (T5.setTop (mkF m 6 #[.val (.long q1), .second, .val (.int p2), .val (.int p3), .val (.int p4), .val (.ref b5), .unset, .unset, .unset, .unset, .unset, .unset] [])) _
    refine XS.aload X5.here hx rfl (hb hby at_6) rfl rfl ?_
    show Steps p.tables e below (T5.setTop (mkF m 8 #[.val (.long q1), .second, .val (.int p2), .val (.int p3), .val (.int p4), .val (.ref b5), .unset, .unset, .unset, .unset, .unset, .unset] [(.ref b5)])) _
    refine XS.iconst X5.here hx rfl (hb hby at_8) ?_
    show Steps p.tables e below (T5.setTop (mkF m 9 #[.val (.long q1), .second, .val (.int p2), .val (.int p3), .val (.int p4), .val (.ref b5), .unset, .unset, .unset, .unset, .unset, .unset] [(.int (0 : Int32)), (.ref b5)])) _
    refine XS.lloadN X5.here hx rfl (hb hby at_9) rfl ?_
    show Steps p.tables e below (T5.setTop (mkF m 10 #[.val (.long q1), .second, .val (.int p2), .val (.int p3), .val (.int p4), .val (.ref b5), .unset, .unset, .unset, .unset, .unset, .unset] [(.long q1), (.int (0 : Int32)), (.ref b5)])) _
    refine XS.iconst X5.here hx rfl (hb hby at_10) ?_
    show Steps p.tables e below (T5.setTop (mkF m 11 #[.val (.long q1), .second, .val (.int p2), .val (.int p3), .val (.int p4), .val (.ref b5), .unset, .unset, .unset, .unset, .unset, .unset] [(.int (0 : Int32)), (.long q1), (.int (0 : Int32)), (.ref b5)])) _
    refine st6 _ ?_
    show Steps p.tables e below (T6.setTop (mkF m 14 #[.val (.long q1), .second, .val (.int p2), .val (.int p3), .val (.int p4), .val (.ref b5), .unset, .unset, .unset, .unset, .unset, .unset] [(.int (bA q1 (0 : Int32))), (.int (0 : Int32)), (.ref b5)])) _
    refine st7 _ ?_
    show Steps p.tables e below (T7.setTop (mkF m 15 #[.val (.long q1), .second, .val (.int p2), .val (.int p3), .val (.int p4), .val (.ref b5), .unset, .unset, .unset, .unset, .unset, .unset] [])) _
    refine XS.aload X7.here hx rfl (hb hby at_15) rfl rfl ?_
    show Steps p.tables e below (T7.setTop (mkF m 17 #[.val (.long q1), .second, .val (.int p2), .val (.int p3), .val (.int p4), .val (.ref b5), .unset, .unset, .unset, .unset, .unset, .unset] [(.ref b5)])) _
    refine XS.iconst X7.here hx rfl (hb hby at_17) ?_
    show Steps p.tables e below (T7.setTop (mkF m 18 #[.val (.long q1), .second, .val (.int p2), .val (.int p3), .val (.int p4), .val (.ref b5), .unset, .unset, .unset, .unset, .unset, .unset] [(.int (1 : Int32)), (.ref b5)])) _
    refine XS.lloadN X7.here hx rfl (hb hby at_18) rfl ?_
    show Steps p.tables e below (T7.setTop (mkF m 19 #[.val (.long q1), .second, .val (.int p2), .val (.int p3), .val (.int p4), .val (.ref b5), .unset, .unset, .unset, .unset, .unset, .unset] [(.long q1), (.int (1 : Int32)), (.ref b5)])) _
    refine XS.iconst X7.here hx rfl (hb hby at_19) ?_
    show Steps p.tables e below (T7.setTop (mkF m 20 #[.val (.long q1), .second, .val (.int p2), .val (.int p3), .val (.int p4), .val (.ref b5), .unset, .unset, .unset, .unset, .unset, .unset] [(.int (1 : Int32)), (.long q1), (.int (1 : Int32)), (.ref b5)])) _
    refine st8 _ ?_
    show Steps p.tables e below (T8.setTop (mkF m 23 #[.val (.long q1), .second, .val (.int p2), .val (.int p3), .val (.int p4), .val (.ref b5), .unset, .unset, .unset, .unset, .unset, .unset] [(.int (bA q1 (1 : Int32))), (.int (1 : Int32)), (.ref b5)])) _
    refine st9 _ ?_
    show Steps p.tables e below (T9.setTop (mkF m 24 #[.val (.long q1), .second, .val (.int p2), .val (.int p3), .val (.int p4), .val (.ref b5), .unset, .unset, .unset, .unset, .unset, .unset] [])) _
    refine XS.aload X9.here hx rfl (hb hby at_24) rfl rfl ?_
    show Steps p.tables e below (T9.setTop (mkF m 26 #[.val (.long q1), .second, .val (.int p2), .val (.int p3), .val (.int p4), .val (.ref b5), .unset, .unset, .unset, .unset, .unset, .unset] [(.ref b5)])) _
    refine XS.iconst X9.here hx rfl (hb hby at_26) ?_
    show Steps p.tables e below (T9.setTop (mkF m 27 #[.val (.long q1), .second, .val (.int p2), .val (.int p3), .val (.int p4), .val (.ref b5), .unset, .unset, .unset, .unset, .unset, .unset] [(.int (2 : Int32)), (.ref b5)])) _
    refine XS.lloadN X9.here hx rfl (hb hby at_27) rfl ?_
    show Steps p.tables e below (T9.setTop (mkF m 28 #[.val (.long q1), .second, .val (.int p2), .val (.int p3), .val (.int p4), .val (.ref b5), .unset, .unset, .unset, .unset, .unset, .unset] [(.long q1), (.int (2 : Int32)), (.ref b5)])) _
    refine XS.iconst X9.here hx rfl (hb hby at_28) ?_
    show Steps p.tables e below (T9.setTop (mkF m 29 #[.val (.long q1), .second, .val (.int p2), .val (.int p3), .val (.int p4), .val (.ref b5), .unset, .unset, .unset, .unset, .unset, .unset] [(.int (2 : Int32)), (.long q1), (.int (2 : Int32)), (.ref b5)])) _
    refine st10 _ ?_
    show Steps p.tables e below (T10.setTop (mkF m 32 #[.val (.long q1), .second, .val (.int p2), .val (.int p3), .val (.int p4), .val (.ref b5), .unset, .unset, .unset, .unset, .unset, .unset] [(.int (bA q1 (2 : Int32))), (.int (2 : Int32)), (.ref b5)])) _
    refine st11 _ ?_
    show Steps p.tables e below (T11.setTop (mkF m 33 #[.val (.long q1), .second, .val (.int p2), .val (.int p3), .val (.int p4), .val (.ref b5), .unset, .unset, .unset, .unset, .unset, .unset] [])) _
    refine XS.aload X11.here hx rfl (hb hby at_33) rfl rfl ?_
    show Steps p.tables e below (T11.setTop (mkF m 35 #[.val (.long q1), .second, .val (.int p2), .val (.int p3), .val (.int p4), .val (.ref b5), .unset, .unset, .unset, .unset, .unset, .unset] [(.ref b5)])) _
    refine XS.iconst X11.here hx rfl (hb hby at_35) ?_
    show Steps p.tables e below (T11.setTop (mkF m 36 #[.val (.long q1), .second, .val (.int p2), .val (.int p3), .val (.int p4), .val (.ref b5), .unset, .unset, .unset, .unset, .unset, .unset] [(.int (3 : Int32)), (.ref b5)])) _
    refine XS.lloadN X11.here hx rfl (hb hby at_36) rfl ?_
    show Steps p.tables e below (T11.setTop (mkF m 37 #[.val (.long q1), .second, .val (.int p2), .val (.int p3), .val (.int p4), .val (.ref b5), .unset, .unset, .unset, .unset, .unset, .unset] [(.long q1), (.int (3 : Int32)), (.ref b5)])) _
    refine XS.iconst X11.here hx rfl (hb hby at_37) ?_
    show Steps p.tables e below (T11.setTop (mkF m 38 #[.val (.long q1), .second, .val (.int p2), .val (.int p3), .val (.int p4), .val (.ref b5), .unset, .unset, .unset, .unset, .unset, .unset] [(.int (3 : Int32)), (.long q1), (.int (3 : Int32)), (.ref b5)])) _
    refine st12 _ ?_
    show Steps p.tables e below (T12.setTop (mkF m 41 #[.val (.long q1), .second, .val (.int p2), .val (.int p3), .val (.int p4), .val (.ref b5), .unset, .unset, .unset, .unset, .unset, .unset] [(.int (bA q1 (3 : Int32))), (.int (3 : Int32)), (.ref b5)])) _
    refine st13 _ ?_
    show Steps p.tables e below (T13.setTop (mkF m 42 #[.val (.long q1), .second, .val (.int p2), .val (.int p3), .val (.int p4), .val (.ref b5), .unset, .unset, .unset, .unset, .unset, .unset] [])) _
    refine XS.aload X13.here hx rfl (hb hby at_42) rfl rfl ?_
    show Steps p.tables e below (T13.setTop (mkF m 44 #[.val (.long q1), .second, .val (.int p2), .val (.int p3), .val (.int p4), .val (.ref b5), .unset, .unset, .unset, .unset, .unset, .unset] [(.ref b5)])) _
    refine XS.iconst X13.here hx rfl (hb hby at_44) ?_
    show Steps p.tables e below (T13.setTop (mkF m 45 #[.val (.long q1), .second, .val (.int p2), .val (.int p3), .val (.int p4), .val (.ref b5), .unset, .unset, .unset, .unset, .unset, .unset] [(.int (4 : Int32)), (.ref b5)])) _
    refine XS.lloadN X13.here hx rfl (hb hby at_45) rfl ?_
    show Steps p.tables e below (T13.setTop (mkF m 46 #[.val (.long q1), .second, .val (.int p2), .val (.int p3), .val (.int p4), .val (.ref b5), .unset, .unset, .unset, .unset, .unset, .unset] [(.long q1), (.int (4 : Int32)), (.ref b5)])) _
    refine XS.iconst X13.here hx rfl (hb hby at_46) ?_
    show Steps p.tables e below (T13.setTop (mkF m 47 #[.val (.long q1), .second, .val (.int p2), .val (.int p3), .val (.int p4), .val (.ref b5), .unset, .unset, .unset, .unset, .unset, .unset] [(.int (4 : Int32)), (.long q1), (.int (4 : Int32)), (.ref b5)])) _
    refine st14 _ ?_
    show Steps p.tables e below (T14.setTop (mkF m 50 #[.val (.long q1), .second, .val (.int p2), .val (.int p3), .val (.int p4), .val (.ref b5), .unset, .unset, .unset, .unset, .unset, .unset] [(.int (bA q1 (4 : Int32))), (.int (4 : Int32)), (.ref b5)])) _
    refine st15 _ ?_
    show Steps p.tables e below (T15.setTop (mkF m 51 #[.val (.long q1), .second, .val (.int p2), .val (.int p3), .val (.int p4), .val (.ref b5), .unset, .unset, .unset, .unset, .unset, .unset] [])) _
    refine XS.aload X15.here hx rfl (hb hby at_51) rfl rfl ?_
    show Steps p.tables e below (T15.setTop (mkF m 53 #[.val (.long q1), .second, .val (.int p2), .val (.int p3), .val (.int p4), .val (.ref b5), .unset, .unset, .unset, .unset, .unset, .unset] [(.ref b5)])) _
    refine XS.iconst X15.here hx rfl (hb hby at_53) ?_
    show Steps p.tables e below (T15.setTop (mkF m 54 #[.val (.long q1), .second, .val (.int p2), .val (.int p3), .val (.int p4), .val (.ref b5), .unset, .unset, .unset, .unset, .unset, .unset] [(.int (5 : Int32)), (.ref b5)])) _
    refine XS.lloadN X15.here hx rfl (hb hby at_54) rfl ?_
    show Steps p.tables e below (T15.setTop (mkF m 55 #[.val (.long q1), .second, .val (.int p2), .val (.int p3), .val (.int p4), .val (.ref b5), .unset, .unset, .unset, .unset, .unset, .unset] [(.long q1), (.int (5 : Int32)), (.ref b5)])) _
    refine XS.iconst X15.here hx rfl (hb hby at_55) ?_
    show Steps p.tables e below (T15.setTop (mkF m 56 #[.val (.long q1), .second, .val (.int p2), .val (.int p3), .val (.int p4), .val (.ref b5), .unset, .unset, .unset, .unset, .unset, .unset] [(.int (5 : Int32)), (.long q1), (.int (5 : Int32)), (.ref b5)])) _
    refine st16 _ ?_
    show Steps p.tables e below (T16.setTop (mkF m 59 #[.val (.long q1), .second, .val (.int p2), .val (.int p3), .val (.int p4), .val (.ref b5), .unset, .unset, .unset, .unset, .unset, .unset] [(.int (bA q1 (5 : Int32))), (.int (5 : Int32)), (.ref b5)])) _
    refine st17 _ ?_
    show Steps p.tables e below (T17.setTop (mkF m 60 #[.val (.long q1), .second, .val (.int p2), .val (.int p3), .val (.int p4), .val (.ref b5), .unset, .unset, .unset, .unset, .unset, .unset] [])) _
    refine XS.aload X17.here hx rfl (hb hby at_60) rfl rfl ?_
    show Steps p.tables e below (T17.setTop (mkF m 62 #[.val (.long q1), .second, .val (.int p2), .val (.int p3), .val (.int p4), .val (.ref b5), .unset, .unset, .unset, .unset, .unset, .unset] [(.ref b5)])) _
    refine XS.bipush X17.here hx rfl (hb hby at_62) ?_
    show Steps p.tables e below (T17.setTop (mkF m 64 #[.val (.long q1), .second, .val (.int p2), .val (.int p3), .val (.int p4), .val (.ref b5), .unset, .unset, .unset, .unset, .unset, .unset] [(.int (6 : Int32)), (.ref b5)])) _
    refine XS.lloadN X17.here hx rfl (hb hby at_64) rfl ?_
    show Steps p.tables e below (T17.setTop (mkF m 65 #[.val (.long q1), .second, .val (.int p2), .val (.int p3), .val (.int p4), .val (.ref b5), .unset, .unset, .unset, .unset, .unset, .unset] [(.long q1), (.int (6 : Int32)), (.ref b5)])) _
    refine XS.bipush X17.here hx rfl (hb hby at_65) ?_
    show Steps p.tables e below (T17.setTop (mkF m 67 #[.val (.long q1), .second, .val (.int p2), .val (.int p3), .val (.int p4), .val (.ref b5), .unset, .unset, .unset, .unset, .unset, .unset] [(.int (6 : Int32)), (.long q1), (.int (6 : Int32)), (.ref b5)])) _
    refine st18 _ ?_
    show Steps p.tables e below (T18.setTop (mkF m 70 #[.val (.long q1), .second, .val (.int p2), .val (.int p3), .val (.int p4), .val (.ref b5), .unset, .unset, .unset, .unset, .unset, .unset] [(.int (bA q1 (6 : Int32))), (.int (6 : Int32)), (.ref b5)])) _
    refine st19 _ ?_
    show Steps p.tables e below (T19.setTop (mkF m 71 #[.val (.long q1), .second, .val (.int p2), .val (.int p3), .val (.int p4), .val (.ref b5), .unset, .unset, .unset, .unset, .unset, .unset] [])) _
    refine XS.aload X19.here hx rfl (hb hby at_71) rfl rfl ?_
    show Steps p.tables e below (T19.setTop (mkF m 73 #[.val (.long q1), .second, .val (.int p2), .val (.int p3), .val (.int p4), .val (.ref b5), .unset, .unset, .unset, .unset, .unset, .unset] [(.ref b5)])) _
    refine XS.bipush X19.here hx rfl (hb hby at_73) ?_
    show Steps p.tables e below (T19.setTop (mkF m 75 #[.val (.long q1), .second, .val (.int p2), .val (.int p3), .val (.int p4), .val (.ref b5), .unset, .unset, .unset, .unset, .unset, .unset] [(.int (7 : Int32)), (.ref b5)])) _
    refine XS.lloadN X19.here hx rfl (hb hby at_75) rfl ?_
    show Steps p.tables e below (T19.setTop (mkF m 76 #[.val (.long q1), .second, .val (.int p2), .val (.int p3), .val (.int p4), .val (.ref b5), .unset, .unset, .unset, .unset, .unset, .unset] [(.long q1), (.int (7 : Int32)), (.ref b5)])) _
    refine XS.bipush X19.here hx rfl (hb hby at_76) ?_
    show Steps p.tables e below (T19.setTop (mkF m 78 #[.val (.long q1), .second, .val (.int p2), .val (.int p3), .val (.int p4), .val (.ref b5), .unset, .unset, .unset, .unset, .unset, .unset] [(.int (7 : Int32)), (.long q1), (.int (7 : Int32)), (.ref b5)])) _
    refine st20 _ ?_
    show Steps p.tables e below (T20.setTop (mkF m 81 #[.val (.long q1), .second, .val (.int p2), .val (.int p3), .val (.int p4), .val (.ref b5), .unset, .unset, .unset, .unset, .unset, .unset] [(.int (bA q1 (7 : Int32))), (.int (7 : Int32)), (.ref b5)])) _
    refine st21 _ ?_
    show Steps p.tables e below (T21.setTop (mkF m 82 #[.val (.long q1), .second, .val (.int p2), .val (.int p3), .val (.int p4), .val (.ref b5), .unset, .unset, .unset, .unset, .unset, .unset] [])) _
    refine XS.iloadN X21.here hx rfl (hb hby at_82) rfl ?_
    show Steps p.tables e below (T21.setTop (mkF m 83 #[.val (.long q1), .second, .val (.int p2), .val (.int p3), .val (.int p4), .val (.ref b5), .unset, .unset, .unset, .unset, .unset, .unset] [(.int p2)])) _
    refine X21.ldcI hx hown (mv hZ (hw _ (List.mem_of_getElem? (i := 5) rfl))) (g := (mkF m 83 #[.val (.long q1), .second, .val (.int p2), .val (.int p3), .val (.int p4), .val (.ref b5), .unset, .unset, .unset, .unset, .unset, .unset] [(.int p2)])) rfl (hb hby at_83) ?_
    show Steps p.tables e below (T21.setTop (mkF m 85 #[.val (.long q1), .second, .val (.int p2), .val (.int p3), .val (.int p4), .val (.ref b5), .unset, .unset, .unset, .unset, .unset, .unset] [(.int (2147483647 : Int32)), (.int p2)])) _
    refine XS.iand X21.here hx rfl (hb hby at_85) rfl ?_
    show Steps p.tables e below (T21.setTop (mkF m 86 #[.val (.long q1), .second, .val (.int p2), .val (.int p3), .val (.int p4), .val (.ref b5), .unset, .unset, .unset, .unset, .unset, .unset] [(.int (p2 &&& (2147483647 : Int32)))])) _
    refine XS.bipush X21.here hx rfl (hb hby at_86) ?_
    show Steps p.tables e below (T21.setTop (mkF m 88 #[.val (.long q1), .second, .val (.int p2), .val (.int p3), .val (.int p4), .val (.ref b5), .unset, .unset, .unset, .unset, .unset, .unset] [(.int (9 : Int32)), (.int (p2 &&& (2147483647 : Int32)))])) _
    refine iremM (g := (mkF m 88 #[.val (.long q1), .second, .val (.int p2), .val (.int p3), .val (.int p4), .val (.ref b5), .unset, .unset, .unset, .unset, .unset, .unset] [(.int (9 : Int32)), (.int (p2 &&& (2147483647 : Int32)))])) X21 hx rfl (hb hby at_88) rfl hnz88 ?_
    show Steps p.tables e below (T21.setTop (mkF m 89 #[.val (.long q1), .second, .val (.int p2), .val (.int p3), .val (.int p4), .val (.ref b5), .unset, .unset, .unset, .unset, .unset, .unset] [(.int ((p2 &&& (2147483647 : Int32)) % (9 : Int32)))])) _
    refine XS.istore X21.here hx rfl (hb hby at_89) rfl (l' := #[.val (.long q1), .second, .val (.int p2), .val (.int p3), .val (.int p4), .val (.ref b5), .val (.int ((p2 &&& (2147483647 : Int32)) % (9 : Int32))), .unset, .unset, .unset, .unset, .unset]) rfl ?_
    show Steps p.tables e below (T21.setTop (mkF m 91 #[.val (.long q1), .second, .val (.int p2), .val (.int p3), .val (.int p4), .val (.ref b5), .val (.int ((p2 &&& (2147483647 : Int32)) % (9 : Int32))), .unset, .unset, .unset, .unset, .unset] [])) _
    refine XS.iload X21.here hx rfl (hb hby at_91) rfl ?_
    show Steps p.tables e below (T21.setTop (mkF m 93 #[.val (.long q1), .second, .val (.int p2), .val (.int p3), .val (.int p4), .val (.ref b5), .val (.int ((p2 &&& (2147483647 : Int32)) % (9 : Int32))), .unset, .unset, .unset, .unset, .unset] [(.int ((p2 &&& (2147483647 : Int32)) % (9 : Int32)))])) _
    refine XS.iloadN X21.here hx rfl (hb hby at_93) rfl ?_
    show Steps p.tables e below (T21.setTop (mkF m 94 #[.val (.long q1), .second, .val (.int p2), .val (.int p3), .val (.int p4), .val (.ref b5), .val (.int ((p2 &&& (2147483647 : Int32)) % (9 : Int32))), .unset, .unset, .unset, .unset, .unset] [(.int p3), (.int ((p2 &&& (2147483647 : Int32)) % (9 : Int32)))])) _
    refine X21.ldcI hx hown (mv hZ (hw _ (List.mem_of_getElem? (i := 5) rfl))) (g := (mkF m 94 #[.val (.long q1), .second, .val (.int p2), .val (.int p3), .val (.int p4), .val (.ref b5), .val (.int ((p2 &&& (2147483647 : Int32)) % (9 : Int32))), .unset, .unset, .unset, .unset, .unset] [(.int p3), (.int ((p2 &&& (2147483647 : Int32)) % (9 : Int32)))])) rfl (hb hby at_94) ?_
    show Steps p.tables e below (T21.setTop (mkF m 96 #[.val (.long q1), .second, .val (.int p2), .val (.int p3), .val (.int p4), .val (.ref b5), .val (.int ((p2 &&& (2147483647 : Int32)) % (9 : Int32))), .unset, .unset, .unset, .unset, .unset] [(.int (2147483647 : Int32)), (.int p3), (.int ((p2 &&& (2147483647 : Int32)) % (9 : Int32)))])) _
    refine XS.iand X21.here hx rfl (hb hby at_96) rfl ?_
    show Steps p.tables e below (T21.setTop (mkF m 97 #[.val (.long q1), .second, .val (.int p2), .val (.int p3), .val (.int p4), .val (.ref b5), .val (.int ((p2 &&& (2147483647 : Int32)) % (9 : Int32))), .unset, .unset, .unset, .unset, .unset] [(.int (p3 &&& (2147483647 : Int32))), (.int ((p2 &&& (2147483647 : Int32)) % (9 : Int32)))])) _
    refine XS.bipush X21.here hx rfl (hb hby at_97) ?_
    show Steps p.tables e below (T21.setTop (mkF m 99 #[.val (.long q1), .second, .val (.int p2), .val (.int p3), .val (.int p4), .val (.ref b5), .val (.int ((p2 &&& (2147483647 : Int32)) % (9 : Int32))), .unset, .unset, .unset, .unset, .unset] [(.int (9 : Int32)), (.int (p3 &&& (2147483647 : Int32))), (.int ((p2 &&& (2147483647 : Int32)) % (9 : Int32)))])) _
    refine XS.iload X21.here hx rfl (hb hby at_99) rfl ?_
    show Steps p.tables e below (T21.setTop (mkF m 101 #[.val (.long q1), .second, .val (.int p2), .val (.int p3), .val (.int p4), .val (.ref b5), .val (.int ((p2 &&& (2147483647 : Int32)) % (9 : Int32))), .unset, .unset, .unset, .unset, .unset] [(.int ((p2 &&& (2147483647 : Int32)) % (9 : Int32))), (.int (9 : Int32)), (.int (p3 &&& (2147483647 : Int32))), (.int ((p2 &&& (2147483647 : Int32)) % (9 : Int32)))])) _
    refine XS.isub X21.here hx rfl (hb hby at_101) rfl ?_
    show Steps p.tables e below (T21.setTop (mkF m 102 #[.val (.long q1), .second, .val (.int p2), .val (.int p3), .val (.int p4), .val (.ref b5), .val (.int ((p2 &&& (2147483647 : Int32)) % (9 : Int32))), .unset, .unset, .unset, .unset, .unset] [(.int ((9 : Int32) - ((p2 &&& (2147483647 : Int32)) % (9 : Int32)))), (.int (p3 &&& (2147483647 : Int32))), (.int ((p2 &&& (2147483647 : Int32)) % (9 : Int32)))])) _
    refine iremM (g := (mkF m 102 #[.val (.long q1), .second, .val (.int p2), .val (.int p3), .val (.int p4), .val (.ref b5), .val (.int ((p2 &&& (2147483647 : Int32)) % (9 : Int32))), .unset, .unset, .unset, .unset, .unset] [(.int ((9 : Int32) - ((p2 &&& (2147483647 : Int32)) % (9 : Int32)))), (.int (p3 &&& (2147483647 : Int32))), (.int ((p2 &&& (2147483647 : Int32)) % (9 : Int32)))])) X21 hx rfl (hb hby at_102) rfl hnz102 ?_
    show Steps p.tables e below (T21.setTop (mkF m 103 #[.val (.long q1), .second, .val (.int p2), .val (.int p3), .val (.int p4), .val (.ref b5), .val (.int ((p2 &&& (2147483647 : Int32)) % (9 : Int32))), .unset, .unset, .unset, .unset, .unset] [(.int ((p3 &&& (2147483647 : Int32)) % ((9 : Int32) - ((p2 &&& (2147483647 : Int32)) % (9 : Int32))))), (.int ((p2 &&& (2147483647 : Int32)) % (9 : Int32)))])) _
    refine XS.iadd X21.here hx rfl (hb hby at_103) rfl ?_
    show Steps p.tables e below (T21.setTop (mkF m 104 #[.val (.long q1), .second, .val (.int p2), .val (.int p3), .val (.int p4), .val (.ref b5), .val (.int ((p2 &&& (2147483647 : Int32)) % (9 : Int32))), .unset, .unset, .unset, .unset, .unset] [(.int (((p2 &&& (2147483647 : Int32)) % (9 : Int32)) + ((p3 &&& (2147483647 : Int32)) % ((9 : Int32) - ((p2 &&& (2147483647 : Int32)) % (9 : Int32))))))])) _
    refine XS.istore X21.here hx rfl (hb hby at_104) rfl (l' := #[.val (.long q1), .second, .val (.int p2), .val (.int p3), .val (.int p4), .val (.ref b5), .val (.int ((p2 &&& (2147483647 : Int32)) % (9 : Int32))), .val (.int (((p2 &&& (2147483647 : Int32)) % (9 : Int32)) + ((p3 &&& (2147483647 : Int32)) % ((9 : Int32) - ((p2 &&& (2147483647 : Int32)) % (9 : Int32)))))), .unset, .unset, .unset, .unset]) rfl ?_
    show Steps p.tables e below (T21.setTop (mkF m 106 #[.val (.long q1), .second, .val (.int p2), .val (.int p3), .val (.int p4), .val (.ref b5), .val (.int ((p2 &&& (2147483647 : Int32)) % (9 : Int32))), .val (.int (((p2 &&& (2147483647 : Int32)) % (9 : Int32)) + ((p3 &&& (2147483647 : Int32)) % ((9 : Int32) - ((p2 &&& (2147483647 : Int32)) % (9 : Int32)))))), .unset, .unset, .unset, .unset] [])) _
    refine st22 _ ?_
    show Steps p.tables e below (T22.setTop (mkF m 109 #[.val (.long q1), .second, .val (.int p2), .val (.int p3), .val (.int p4), .val (.ref b5), .val (.int ((p2 &&& (2147483647 : Int32)) % (9 : Int32))), .val (.int (((p2 &&& (2147483647 : Int32)) % (9 : Int32)) + ((p3 &&& (2147483647 : Int32)) % ((9 : Int32) - ((p2 &&& (2147483647 : Int32)) % (9 : Int32)))))), .unset, .unset, .unset, .unset] [(.ref b22)])) _
    refine XS.dup X22.here hx rfl (hb hby at_109) rfl rfl ?_
    show Steps p.tables e below (T22.setTop (mkF m 110 #[.val (.long q1), .second, .val (.int p2), .val (.int p3), .val (.int p4), .val (.ref b5), .val (.int ((p2 &&& (2147483647 : Int32)) % (9 : Int32))), .val (.int (((p2 &&& (2147483647 : Int32)) % (9 : Int32)) + ((p3 &&& (2147483647 : Int32)) % ((9 : Int32) - ((p2 &&& (2147483647 : Int32)) % (9 : Int32)))))), .unset, .unset, .unset, .unset] [(.ref b22), (.ref b22)])) _
    refine XS.aload X22.here hx rfl (hb hby at_110) rfl rfl ?_
    show Steps p.tables e below (T22.setTop (mkF m 112 #[.val (.long q1), .second, .val (.int p2), .val (.int p3), .val (.int p4), .val (.ref b5), .val (.int ((p2 &&& (2147483647 : Int32)) % (9 : Int32))), .val (.int (((p2 &&& (2147483647 : Int32)) % (9 : Int32)) + ((p3 &&& (2147483647 : Int32)) % ((9 : Int32) - ((p2 &&& (2147483647 : Int32)) % (9 : Int32)))))), .unset, .unset, .unset, .unset] [(.ref b5), (.ref b22), (.ref b22)])) _
    refine XS.iload X22.here hx rfl (hb hby at_112) rfl ?_
    show Steps p.tables e below (T22.setTop (mkF m 114 #[.val (.long q1), .second, .val (.int p2), .val (.int p3), .val (.int p4), .val (.ref b5), .val (.int ((p2 &&& (2147483647 : Int32)) % (9 : Int32))), .val (.int (((p2 &&& (2147483647 : Int32)) % (9 : Int32)) + ((p3 &&& (2147483647 : Int32)) % ((9 : Int32) - ((p2 &&& (2147483647 : Int32)) % (9 : Int32)))))), .unset, .unset, .unset, .unset] [(.int p4), (.ref b5), (.ref b22), (.ref b22)])) _
    refine XS.iload X22.here hx rfl (hb hby at_114) rfl ?_
    show Steps p.tables e below (T22.setTop (mkF m 116 #[.val (.long q1), .second, .val (.int p2), .val (.int p3), .val (.int p4), .val (.ref b5), .val (.int ((p2 &&& (2147483647 : Int32)) % (9 : Int32))), .val (.int (((p2 &&& (2147483647 : Int32)) % (9 : Int32)) + ((p3 &&& (2147483647 : Int32)) % ((9 : Int32) - ((p2 &&& (2147483647 : Int32)) % (9 : Int32)))))), .unset, .unset, .unset, .unset] [(.int ((p2 &&& (2147483647 : Int32)) % (9 : Int32))), (.int p4), (.ref b5), (.ref b22), (.ref b22)])) _
    refine XS.iload X22.here hx rfl (hb hby at_116) rfl ?_
    show Steps p.tables e below (T22.setTop (mkF m 118 #[.val (.long q1), .second, .val (.int p2), .val (.int p3), .val (.int p4), .val (.ref b5), .val (.int ((p2 &&& (2147483647 : Int32)) % (9 : Int32))), .val (.int (((p2 &&& (2147483647 : Int32)) % (9 : Int32)) + ((p3 &&& (2147483647 : Int32)) % ((9 : Int32) - ((p2 &&& (2147483647 : Int32)) % (9 : Int32)))))), .unset, .unset, .unset, .unset] [(.int (((p2 &&& (2147483647 : Int32)) % (9 : Int32)) + ((p3 &&& (2147483647 : Int32)) % ((9 : Int32) - ((p2 &&& (2147483647 : Int32)) % (9 : Int32)))))), (.int ((p2 &&& (2147483647 : Int32)) % (9 : Int32))), (.int p4), (.ref b5), (.ref b22), (.ref b22)])) _
    refine st23.trans ?_
    show Steps p.tables e below (T23.setTop (mkF m 121 #[.val (.long q1), .second, .val (.int p2), .val (.int p3), .val (.int p4), .val (.ref b5), .val (.int ((p2 &&& (2147483647 : Int32)) % (9 : Int32))), .val (.int (((p2 &&& (2147483647 : Int32)) % (9 : Int32)) + ((p3 &&& (2147483647 : Int32)) % ((9 : Int32) - ((p2 &&& (2147483647 : Int32)) % (9 : Int32)))))), .unset, .unset, .unset, .unset] [(.ref b22)])) _
    refine XS.astore X23.here hx rfl (hb hby at_121) rfl rfl (l' := #[.val (.long q1), .second, .val (.int p2), .val (.int p3), .val (.int p4), .val (.ref b5), .val (.int ((p2 &&& (2147483647 : Int32)) % (9 : Int32))), .val (.int (((p2 &&& (2147483647 : Int32)) % (9 : Int32)) + ((p3 &&& (2147483647 : Int32)) % ((9 : Int32) - ((p2 &&& (2147483647 : Int32)) % (9 : Int32)))))), .val (.ref b22), .unset, .unset, .unset]) rfl ?_
    show Steps p.tables e below (T23.setTop (mkF m 123 #[.val (.long q1), .second, .val (.int p2), .val (.int p3), .val (.int p4), .val (.ref b5), .val (.int ((p2 &&& (2147483647 : Int32)) % (9 : Int32))), .val (.int (((p2 &&& (2147483647 : Int32)) % (9 : Int32)) + ((p3 &&& (2147483647 : Int32)) % ((9 : Int32) - ((p2 &&& (2147483647 : Int32)) % (9 : Int32)))))), .val (.ref b22), .unset, .unset, .unset] [])) _
    refine XS.aload X23.here hx rfl (hb hby at_123) rfl rfl ?_
    show Steps p.tables e below (T23.setTop (mkF m 125 #[.val (.long q1), .second, .val (.int p2), .val (.int p3), .val (.int p4), .val (.ref b5), .val (.int ((p2 &&& (2147483647 : Int32)) % (9 : Int32))), .val (.int (((p2 &&& (2147483647 : Int32)) % (9 : Int32)) + ((p3 &&& (2147483647 : Int32)) % ((9 : Int32) - ((p2 &&& (2147483647 : Int32)) % (9 : Int32)))))), .val (.ref b22), .unset, .unset, .unset] [(.ref b22)])) _
    refine st24.trans ?_
    show Steps p.tables e below (T24.setTop (mkF m 128 #[.val (.long q1), .second, .val (.int p2), .val (.int p3), .val (.int p4), .val (.ref b5), .val (.int ((p2 &&& (2147483647 : Int32)) % (9 : Int32))), .val (.int (((p2 &&& (2147483647 : Int32)) % (9 : Int32)) + ((p3 &&& (2147483647 : Int32)) % ((9 : Int32) - ((p2 &&& (2147483647 : Int32)) % (9 : Int32)))))), .val (.ref b22), .unset, .unset, .unset] [(.ref T23.heap.size)])) _
    refine XS.astore X24.here hx rfl (hb hby at_128) rfl rfl (l' := #[.val (.long q1), .second, .val (.int p2), .val (.int p3), .val (.int p4), .val (.ref b5), .val (.int ((p2 &&& (2147483647 : Int32)) % (9 : Int32))), .val (.int (((p2 &&& (2147483647 : Int32)) % (9 : Int32)) + ((p3 &&& (2147483647 : Int32)) % ((9 : Int32) - ((p2 &&& (2147483647 : Int32)) % (9 : Int32)))))), .val (.ref b22), .val (.ref T23.heap.size), .unset, .unset]) rfl ?_
    show Steps p.tables e below (T24.setTop (mkF m 130 #[.val (.long q1), .second, .val (.int p2), .val (.int p3), .val (.int p4), .val (.ref b5), .val (.int ((p2 &&& (2147483647 : Int32)) % (9 : Int32))), .val (.int (((p2 &&& (2147483647 : Int32)) % (9 : Int32)) + ((p3 &&& (2147483647 : Int32)) % ((9 : Int32) - ((p2 &&& (2147483647 : Int32)) % (9 : Int32)))))), .val (.ref b22), .val (.ref T23.heap.size), .unset, .unset] [])) _
    refine XS.aload X24.here hx rfl (hb hby at_130) rfl rfl ?_
    show Steps p.tables e below (T24.setTop (mkF m 132 #[.val (.long q1), .second, .val (.int p2), .val (.int p3), .val (.int p4), .val (.ref b5), .val (.int ((p2 &&& (2147483647 : Int32)) % (9 : Int32))), .val (.int (((p2 &&& (2147483647 : Int32)) % (9 : Int32)) + ((p3 &&& (2147483647 : Int32)) % ((9 : Int32) - ((p2 &&& (2147483647 : Int32)) % (9 : Int32)))))), .val (.ref b22), .val (.ref T23.heap.size), .unset, .unset] [(.ref T23.heap.size)])) _
    refine XS.ifnullNo X24.here hx rfl (hb hby at_132) rfl ?_
    show Steps p.tables e below (T24.setTop (mkF m 135 #[.val (.long q1), .second, .val (.int p2), .val (.int p3), .val (.int p4), .val (.ref b5), .val (.int ((p2 &&& (2147483647 : Int32)) % (9 : Int32))), .val (.int (((p2 &&& (2147483647 : Int32)) % (9 : Int32)) + ((p3 &&& (2147483647 : Int32)) % ((9 : Int32) - ((p2 &&& (2147483647 : Int32)) % (9 : Int32)))))), .val (.ref b22), .val (.ref T23.heap.size), .unset, .unset] [])) _
    refine XS.aload X24.here hx rfl (hb hby at_135) rfl rfl ?_
    show Steps p.tables e below (T24.setTop (mkF m 137 #[.val (.long q1), .second, .val (.int p2), .val (.int p3), .val (.int p4), .val (.ref b5), .val (.int ((p2 &&& (2147483647 : Int32)) % (9 : Int32))), .val (.int (((p2 &&& (2147483647 : Int32)) % (9 : Int32)) + ((p3 &&& (2147483647 : Int32)) % ((9 : Int32) - ((p2 &&& (2147483647 : Int32)) % (9 : Int32)))))), .val (.ref b22), .val (.ref T23.heap.size), .unset, .unset] [(.ref T23.heap.size)])) _
    refine XS.aload X24.here hx rfl (hb hby at_137) rfl rfl ?_
    show Steps p.tables e below (T24.setTop (mkF m 139 #[.val (.long q1), .second, .val (.int p2), .val (.int p3), .val (.int p4), .val (.ref b5), .val (.int ((p2 &&& (2147483647 : Int32)) % (9 : Int32))), .val (.int (((p2 &&& (2147483647 : Int32)) % (9 : Int32)) + ((p3 &&& (2147483647 : Int32)) % ((9 : Int32) - ((p2 &&& (2147483647 : Int32)) % (9 : Int32)))))), .val (.ref b22), .val (.ref T23.heap.size), .unset, .unset] [(.ref b5), (.ref T23.heap.size)])) _
    refine Jvm.RoadKit.acmp (g := (mkF m 139 #[.val (.long q1), .second, .val (.int p2), .val (.int p3), .val (.int p4), .val (.ref b5), .val (.int ((p2 &&& (2147483647 : Int32)) % (9 : Int32))), .val (.int (((p2 &&& (2147483647 : Int32)) % (9 : Int32)) + ((p3 &&& (2147483647 : Int32)) % ((9 : Int32) - ((p2 &&& (2147483647 : Int32)) % (9 : Int32)))))), .val (.ref b22), .val (.ref T23.heap.size), .unset, .unset] [(.ref b5), (.ref T23.heap.size)])) X24 hx rfl rfl rfl (pc0 := 139) (pc' := 144) (same := false) rfl (hb hby at_139) rfl (decide_eq_false fun q => ha139 (Value.ref.inj q)) (by decide) (by decide) ?_
    show Steps p.tables e below (T24.setTop (mkF m 144 #[.val (.long q1), .second, .val (.int p2), .val (.int p3), .val (.int p4), .val (.ref b5), .val (.int ((p2 &&& (2147483647 : Int32)) % (9 : Int32))), .val (.int (((p2 &&& (2147483647 : Int32)) % (9 : Int32)) + ((p3 &&& (2147483647 : Int32)) % ((9 : Int32) - ((p2 &&& (2147483647 : Int32)) % (9 : Int32)))))), .val (.ref b22), .val (.ref T23.heap.size), .unset, .unset] [])) _
    refine XS.aload X24.here hx rfl (hb hby at_144) rfl rfl ?_
    show Steps p.tables e below (T24.setTop (mkF m 146 #[.val (.long q1), .second, .val (.int p2), .val (.int p3), .val (.int p4), .val (.ref b5), .val (.int ((p2 &&& (2147483647 : Int32)) % (9 : Int32))), .val (.int (((p2 &&& (2147483647 : Int32)) % (9 : Int32)) + ((p3 &&& (2147483647 : Int32)) % ((9 : Int32) - ((p2 &&& (2147483647 : Int32)) % (9 : Int32)))))), .val (.ref b22), .val (.ref T23.heap.size), .unset, .unset] [(.ref T23.heap.size)])) _
    refine X24.arraylength hx Ar_r_24.1 (State.isArrayOf_alike hZ.alike Ar_r_24.2.1) (g := (mkF m 146 #[.val (.long q1), .second, .val (.int p2), .val (.int p3), .val (.int p4), .val (.ref b5), .val (.int ((p2 &&& (2147483647 : Int32)) % (9 : Int32))), .val (.int (((p2 &&& (2147483647 : Int32)) % (9 : Int32)) + ((p3 &&& (2147483647 : Int32)) % ((9 : Int32) - ((p2 &&& (2147483647 : Int32)) % (9 : Int32)))))), .val (.ref b22), .val (.ref T23.heap.size), .unset, .unset] [(.ref T23.heap.size)])) rfl rfl (hb hby at_146) _ ?_
    rw [len_of S_r N_r]
    show Steps p.tables e below (T24.setTop (mkF m 147 #[.val (.long q1), .second, .val (.int p2), .val (.int p3), .val (.int p4), .val (.ref b5), .val (.int ((p2 &&& (2147483647 : Int32)) % (9 : Int32))), .val (.int (((p2 &&& (2147483647 : Int32)) % (9 : Int32)) + ((p3 &&& (2147483647 : Int32)) % ((9 : Int32) - ((p2 &&& (2147483647 : Int32)) % (9 : Int32)))))), .val (.ref b22), .val (.ref T23.heap.size), .unset, .unset] [(.int ((((p2 &&& (2147483647 : Int32)) % (9 : Int32)) + ((p3 &&& (2147483647 : Int32)) % ((9 : Int32) - ((p2 &&& (2147483647 : Int32)) % (9 : Int32))))) - ((p2 &&& (2147483647 : Int32)) % (9 : Int32))))])) _
    refine XS.iload X24.here hx rfl (hb hby at_147) rfl ?_
    show Steps p.tables e below (T24.setTop (mkF m 149 #[.val (.long q1), .second, .val (.int p2), .val (.int p3), .val (.int p4), .val (.ref b5), .val (.int ((p2 &&& (2147483647 : Int32)) % (9 : Int32))), .val (.int (((p2 &&& (2147483647 : Int32)) % (9 : Int32)) + ((p3 &&& (2147483647 : Int32)) % ((9 : Int32) - ((p2 &&& (2147483647 : Int32)) % (9 : Int32)))))), .val (.ref b22), .val (.ref T23.heap.size), .unset, .unset] [(.int (((p2 &&& (2147483647 : Int32)) % (9 : Int32)) + ((p3 &&& (2147483647 : Int32)) % ((9 : Int32) - ((p2 &&& (2147483647 : Int32)) % (9 : Int32)))))), (.int ((((p2 &&& (2147483647 : Int32)) % (9 : Int32)) + ((p3 &&& (2147483647 : Int32)) % ((9 : Int32) - ((p2 &&& (2147483647 : Int32)) % (9 : Int32))))) - ((p2 &&& (2147483647 : Int32)) % (9 : Int32))))])) _
    refine XS.iload X24.here hx rfl (hb hby at_149) rfl ?_
    show Steps p.tables e below (T24.setTop (mkF m 151 #[.val (.long q1), .second, .val (.int p2), .val (.int p3), .val (.int p4), .val (.ref b5), .val (.int ((p2 &&& (2147483647 : Int32)) % (9 : Int32))), .val (.int (((p2 &&& (2147483647 : Int32)) % (9 : Int32)) + ((p3 &&& (2147483647 : Int32)) % ((9 : Int32) - ((p2 &&& (2147483647 : Int32)) % (9 : Int32)))))), .val (.ref b22), .val (.ref T23.heap.size), .unset, .unset] [(.int ((p2 &&& (2147483647 : Int32)) % (9 : Int32))), (.int (((p2 &&& (2147483647 : Int32)) % (9 : Int32)) + ((p3 &&& (2147483647 : Int32)) % ((9 : Int32) - ((p2 &&& (2147483647 : Int32)) % (9 : Int32)))))), (.int ((((p2 &&& (2147483647 : Int32)) % (9 : Int32)) + ((p3 &&& (2147483647 : Int32)) % ((9 : Int32) - ((p2 &&& (2147483647 : Int32)) % (9 : Int32))))) - ((p2 &&& (2147483647 : Int32)) % (9 : Int32))))])) _
    refine XS.isub X24.here hx rfl (hb hby at_151) rfl ?_
    show Steps p.tables e below (T24.setTop (mkF m 152 #[.val (.long q1), .second, .val (.int p2), .val (.int p3), .val (.int p4), .val (.ref b5), .val (.int ((p2 &&& (2147483647 : Int32)) % (9 : Int32))), .val (.int (((p2 &&& (2147483647 : Int32)) % (9 : Int32)) + ((p3 &&& (2147483647 : Int32)) % ((9 : Int32) - ((p2 &&& (2147483647 : Int32)) % (9 : Int32)))))), .val (.ref b22), .val (.ref T23.heap.size), .unset, .unset] [(.int ((((p2 &&& (2147483647 : Int32)) % (9 : Int32)) + ((p3 &&& (2147483647 : Int32)) % ((9 : Int32) - ((p2 &&& (2147483647 : Int32)) % (9 : Int32))))) - ((p2 &&& (2147483647 : Int32)) % (9 : Int32)))), (.int ((((p2 &&& (2147483647 : Int32)) % (9 : Int32)) + ((p3 &&& (2147483647 : Int32)) % ((9 : Int32) - ((p2 &&& (2147483647 : Int32)) % (9 : Int32))))) - ((p2 &&& (2147483647 : Int32)) % (9 : Int32))))])) _
    refine XS.icmpYes X24.here hx rfl (pc0 := 152) (pc' := 157) rfl (hb hby at_152) rfl (teq (rfl : ((((p2 &&& (2147483647 : Int32)) % (9 : Int32)) + ((p3 &&& (2147483647 : Int32)) % ((9 : Int32) - ((p2 &&& (2147483647 : Int32)) % (9 : Int32))))) - ((p2 &&& (2147483647 : Int32)) % (9 : Int32))) = ((((p2 &&& (2147483647 : Int32)) % (9 : Int32)) + ((p3 &&& (2147483647 : Int32)) % ((9 : Int32) - ((p2 &&& (2147483647 : Int32)) % (9 : Int32))))) - ((p2 &&& (2147483647 : Int32)) % (9 : Int32))))).1 (by decide) (by decide) ?_
    show Steps p.tables e below (T24.setTop (mkF m 157 #[.val (.long q1), .second, .val (.int p2), .val (.int p3), .val (.int p4), .val (.ref b5), .val (.int ((p2 &&& (2147483647 : Int32)) % (9 : Int32))), .val (.int (((p2 &&& (2147483647 : Int32)) % (9 : Int32)) + ((p3 &&& (2147483647 : Int32)) % ((9 : Int32) - ((p2 &&& (2147483647 : Int32)) % (9 : Int32)))))), .val (.ref b22), .val (.ref T23.heap.size), .unset, .unset] [])) _
    refine XS.aload X24.here hx rfl (hb hby at_157) rfl rfl ?_
    show Steps p.tables e below (T24.setTop (mkF m 159 #[.val (.long q1), .second, .val (.int p2), .val (.int p3), .val (.int p4), .val (.ref b5), .val (.int ((p2 &&& (2147483647 : Int32)) % (9 : Int32))), .val (.int (((p2 &&& (2147483647 : Int32)) % (9 : Int32)) + ((p3 &&& (2147483647 : Int32)) % ((9 : Int32) - ((p2 &&& (2147483647 : Int32)) % (9 : Int32)))))), .val (.ref b22), .val (.ref T23.heap.size), .unset, .unset] [(.ref T23.heap.size)])) _
    refine XS.iconst X24.here hx rfl (hb hby at_159) ?_
    show Steps p.tables e below (T24.setTop (mkF m 160 #[.val (.long q1), .second, .val (.int p2), .val (.int p3), .val (.int p4), .val (.ref b5), .val (.int ((p2 &&& (2147483647 : Int32)) % (9 : Int32))), .val (.int (((p2 &&& (2147483647 : Int32)) % (9 : Int32)) + ((p3 &&& (2147483647 : Int32)) % ((9 : Int32) - ((p2 &&& (2147483647 : Int32)) % (9 : Int32)))))), .val (.ref b22), .val (.ref T23.heap.size), .unset, .unset] [(.int (0 : Int32)), (.ref T23.heap.size)])) _
    refine XS.lloadN X24.here hx rfl (hb hby at_160) rfl ?_
    show Steps p.tables e below (T24.setTop (mkF m 161 #[.val (.long q1), .second, .val (.int p2), .val (.int p3), .val (.int p4), .val (.ref b5), .val (.int ((p2 &&& (2147483647 : Int32)) % (9 : Int32))), .val (.int (((p2 &&& (2147483647 : Int32)) % (9 : Int32)) + ((p3 &&& (2147483647 : Int32)) % ((9 : Int32) - ((p2 &&& (2147483647 : Int32)) % (9 : Int32)))))), .val (.ref b22), .val (.ref T23.heap.size), .unset, .unset] [(.long q1), (.int (0 : Int32)), (.ref T23.heap.size)])) _
    refine XS.iload X24.here hx rfl (hb hby at_161) rfl ?_
    show Steps p.tables e below (T24.setTop (mkF m 163 #[.val (.long q1), .second, .val (.int p2), .val (.int p3), .val (.int p4), .val (.ref b5), .val (.int ((p2 &&& (2147483647 : Int32)) % (9 : Int32))), .val (.int (((p2 &&& (2147483647 : Int32)) % (9 : Int32)) + ((p3 &&& (2147483647 : Int32)) % ((9 : Int32) - ((p2 &&& (2147483647 : Int32)) % (9 : Int32)))))), .val (.ref b22), .val (.ref T23.heap.size), .unset, .unset] [(.int ((p2 &&& (2147483647 : Int32)) % (9 : Int32))), (.long q1), (.int (0 : Int32)), (.ref T23.heap.size)])) _
    refine st25 _ ?_
    show Steps p.tables e below (T25.setTop (mkF m 166 #[.val (.long q1), .second, .val (.int p2), .val (.int p3), .val (.int p4), .val (.ref b5), .val (.int ((p2 &&& (2147483647 : Int32)) % (9 : Int32))), .val (.int (((p2 &&& (2147483647 : Int32)) % (9 : Int32)) + ((p3 &&& (2147483647 : Int32)) % ((9 : Int32) - ((p2 &&& (2147483647 : Int32)) % (9 : Int32)))))), .val (.ref b22), .val (.ref T23.heap.size), .unset, .unset] [(.int (1 : Int32))])) _
    refine XS.ifNo X25.here hx rfl (hb hby at_166) rfl ((if0 _ _).trans (feq (by decide : ¬ ((1 : Int32) = (0 : Int32)))).1) ?_
    show Steps p.tables e below (T25.setTop (mkF m 169 #[.val (.long q1), .second, .val (.int p2), .val (.int p3), .val (.int p4), .val (.ref b5), .val (.int ((p2 &&& (2147483647 : Int32)) % (9 : Int32))), .val (.int (((p2 &&& (2147483647 : Int32)) % (9 : Int32)) + ((p3 &&& (2147483647 : Int32)) % ((9 : Int32) - ((p2 &&& (2147483647 : Int32)) % (9 : Int32)))))), .val (.ref b22), .val (.ref T23.heap.size), .unset, .unset] [])) _
    refine XS.aload X25.here hx rfl (hb hby at_169) rfl rfl ?_
    show Steps p.tables e below (T25.setTop (mkF m 171 #[.val (.long q1), .second, .val (.int p2), .val (.int p3), .val (.int p4), .val (.ref b5), .val (.int ((p2 &&& (2147483647 : Int32)) % (9 : Int32))), .val (.int (((p2 &&& (2147483647 : Int32)) % (9 : Int32)) + ((p3 &&& (2147483647 : Int32)) % ((9 : Int32) - ((p2 &&& (2147483647 : Int32)) % (9 : Int32)))))), .val (.ref b22), .val (.ref T23.heap.size), .unset, .unset] [(.ref T23.heap.size)])) _
    refine XS.iconst X25.here hx rfl (hb hby at_171) ?_
    show Steps p.tables e below (T25.setTop (mkF m 172 #[.val (.long q1), .second, .val (.int p2), .val (.int p3), .val (.int p4), .val (.ref b5), .val (.int ((p2 &&& (2147483647 : Int32)) % (9 : Int32))), .val (.int (((p2 &&& (2147483647 : Int32)) % (9 : Int32)) + ((p3 &&& (2147483647 : Int32)) % ((9 : Int32) - ((p2 &&& (2147483647 : Int32)) % (9 : Int32)))))), .val (.ref b22), .val (.ref T23.heap.size), .unset, .unset] [(.int (1 : Int32)), (.ref T23.heap.size)])) _
    refine XS.lloadN X25.here hx rfl (hb hby at_172) rfl ?_
    show Steps p.tables e below (T25.setTop (mkF m 173 #[.val (.long q1), .second, .val (.int p2), .val (.int p3), .val (.int p4), .val (.ref b5), .val (.int ((p2 &&& (2147483647 : Int32)) % (9 : Int32))), .val (.int (((p2 &&& (2147483647 : Int32)) % (9 : Int32)) + ((p3 &&& (2147483647 : Int32)) % ((9 : Int32) - ((p2 &&& (2147483647 : Int32)) % (9 : Int32)))))), .val (.ref b22), .val (.ref T23.heap.size), .unset, .unset] [(.long q1), (.int (1 : Int32)), (.ref T23.heap.size)])) _
    refine XS.iload X25.here hx rfl (hb hby at_173) rfl ?_
    show Steps p.tables e below (T25.setTop (mkF m 175 #[.val (.long q1), .second, .val (.int p2), .val (.int p3), .val (.int p4), .val (.ref b5), .val (.int ((p2 &&& (2147483647 : Int32)) % (9 : Int32))), .val (.int (((p2 &&& (2147483647 : Int32)) % (9 : Int32)) + ((p3 &&& (2147483647 : Int32)) % ((9 : Int32) - ((p2 &&& (2147483647 : Int32)) % (9 : Int32)))))), .val (.ref b22), .val (.ref T23.heap.size), .unset, .unset] [(.int ((p2 &&& (2147483647 : Int32)) % (9 : Int32))), (.long q1), (.int (1 : Int32)), (.ref T23.heap.size)])) _
    refine st26 _ ?_
    show Steps p.tables e below (T26.setTop (mkF m 178 #[.val (.long q1), .second, .val (.int p2), .val (.int p3), .val (.int p4), .val (.ref b5), .val (.int ((p2 &&& (2147483647 : Int32)) % (9 : Int32))), .val (.int (((p2 &&& (2147483647 : Int32)) % (9 : Int32)) + ((p3 &&& (2147483647 : Int32)) % ((9 : Int32) - ((p2 &&& (2147483647 : Int32)) % (9 : Int32)))))), .val (.ref b22), .val (.ref T23.heap.size), .unset, .unset] [(.int (1 : Int32))])) _
    refine XS.ifNo X26.here hx rfl (hb hby at_178) rfl ((if0 _ _).trans (feq (by decide : ¬ ((1 : Int32) = (0 : Int32)))).1) ?_
    show Steps p.tables e below (T26.setTop (mkF m 181 #[.val (.long q1), .second, .val (.int p2), .val (.int p3), .val (.int p4), .val (.ref b5), .val (.int ((p2 &&& (2147483647 : Int32)) % (9 : Int32))), .val (.int (((p2 &&& (2147483647 : Int32)) % (9 : Int32)) + ((p3 &&& (2147483647 : Int32)) % ((9 : Int32) - ((p2 &&& (2147483647 : Int32)) % (9 : Int32)))))), .val (.ref b22), .val (.ref T23.heap.size), .unset, .unset] [])) _
    refine XS.aload X26.here hx rfl (hb hby at_181) rfl rfl ?_
    show Steps p.tables e below (T26.setTop (mkF m 183 #[.val (.long q1), .second, .val (.int p2), .val (.int p3), .val (.int p4), .val (.ref b5), .val (.int ((p2 &&& (2147483647 : Int32)) % (9 : Int32))), .val (.int (((p2 &&& (2147483647 : Int32)) % (9 : Int32)) + ((p3 &&& (2147483647 : Int32)) % ((9 : Int32) - ((p2 &&& (2147483647 : Int32)) % (9 : Int32)))))), .val (.ref b22), .val (.ref T23.heap.size), .unset, .unset] [(.ref T23.heap.size)])) _
    refine XS.iconst X26.here hx rfl (hb hby at_183) ?_
    show Steps p.tables e below (T26.setTop (mkF m 184 #[.val (.long q1), .second, .val (.int p2), .val (.int p3), .val (.int p4), .val (.ref b5), .val (.int ((p2 &&& (2147483647 : Int32)) % (9 : Int32))), .val (.int (((p2 &&& (2147483647 : Int32)) % (9 : Int32)) + ((p3 &&& (2147483647 : Int32)) % ((9 : Int32) - ((p2 &&& (2147483647 : Int32)) % (9 : Int32)))))), .val (.ref b22), .val (.ref T23.heap.size), .unset, .unset] [(.int (2 : Int32)), (.ref T23.heap.size)])) _
    refine XS.lloadN X26.here hx rfl (hb hby at_184) rfl ?_
    show Steps p.tables e below (T26.setTop (mkF m 185 #[.val (.long q1), .second, .val (.int p2), .val (.int p3), .val (.int p4), .val (.ref b5), .val (.int ((p2 &&& (2147483647 : Int32)) % (9 : Int32))), .val (.int (((p2 &&& (2147483647 : Int32)) % (9 : Int32)) + ((p3 &&& (2147483647 : Int32)) % ((9 : Int32) - ((p2 &&& (2147483647 : Int32)) % (9 : Int32)))))), .val (.ref b22), .val (.ref T23.heap.size), .unset, .unset] [(.long q1), (.int (2 : Int32)), (.ref T23.heap.size)])) _
    refine XS.iload X26.here hx rfl (hb hby at_185) rfl ?_
    show Steps p.tables e below (T26.setTop (mkF m 187 #[.val (.long q1), .second, .val (.int p2), .val (.int p3), .val (.int p4), .val (.ref b5), .val (.int ((p2 &&& (2147483647 : Int32)) % (9 : Int32))), .val (.int (((p2 &&& (2147483647 : Int32)) % (9 : Int32)) + ((p3 &&& (2147483647 : Int32)) % ((9 : Int32) - ((p2 &&& (2147483647 : Int32)) % (9 : Int32)))))), .val (.ref b22), .val (.ref T23.heap.size), .unset, .unset] [(.int ((p2 &&& (2147483647 : Int32)) % (9 : Int32))), (.long q1), (.int (2 : Int32)), (.ref T23.heap.size)])) _
    refine st27 _ ?_
    show Steps p.tables e below (T27.setTop (mkF m 190 #[.val (.long q1), .second, .val (.int p2), .val (.int p3), .val (.int p4), .val (.ref b5), .val (.int ((p2 &&& (2147483647 : Int32)) % (9 : Int32))), .val (.int (((p2 &&& (2147483647 : Int32)) % (9 : Int32)) + ((p3 &&& (2147483647 : Int32)) % ((9 : Int32) - ((p2 &&& (2147483647 : Int32)) % (9 : Int32)))))), .val (.ref b22), .val (.ref T23.heap.size), .unset, .unset] [(.int (1 : Int32))])) _
    refine XS.ifNo X27.here hx rfl (hb hby at_190) rfl ((if0 _ _).trans (feq (by decide : ¬ ((1 : Int32) = (0 : Int32)))).1) ?_
    show Steps p.tables e below (T27.setTop (mkF m 193 #[.val (.long q1), .second, .val (.int p2), .val (.int p3), .val (.int p4), .val (.ref b5), .val (.int ((p2 &&& (2147483647 : Int32)) % (9 : Int32))), .val (.int (((p2 &&& (2147483647 : Int32)) % (9 : Int32)) + ((p3 &&& (2147483647 : Int32)) % ((9 : Int32) - ((p2 &&& (2147483647 : Int32)) % (9 : Int32)))))), .val (.ref b22), .val (.ref T23.heap.size), .unset, .unset] [])) _
    refine XS.aload X27.here hx rfl (hb hby at_193) rfl rfl ?_
    show Steps p.tables e below (T27.setTop (mkF m 195 #[.val (.long q1), .second, .val (.int p2), .val (.int p3), .val (.int p4), .val (.ref b5), .val (.int ((p2 &&& (2147483647 : Int32)) % (9 : Int32))), .val (.int (((p2 &&& (2147483647 : Int32)) % (9 : Int32)) + ((p3 &&& (2147483647 : Int32)) % ((9 : Int32) - ((p2 &&& (2147483647 : Int32)) % (9 : Int32)))))), .val (.ref b22), .val (.ref T23.heap.size), .unset, .unset] [(.ref T23.heap.size)])) _
    refine XS.iconst X27.here hx rfl (hb hby at_195) ?_
    show Steps p.tables e below (T27.setTop (mkF m 196 #[.val (.long q1), .second, .val (.int p2), .val (.int p3), .val (.int p4), .val (.ref b5), .val (.int ((p2 &&& (2147483647 : Int32)) % (9 : Int32))), .val (.int (((p2 &&& (2147483647 : Int32)) % (9 : Int32)) + ((p3 &&& (2147483647 : Int32)) % ((9 : Int32) - ((p2 &&& (2147483647 : Int32)) % (9 : Int32)))))), .val (.ref b22), .val (.ref T23.heap.size), .unset, .unset] [(.int (3 : Int32)), (.ref T23.heap.size)])) _
    refine XS.lloadN X27.here hx rfl (hb hby at_196) rfl ?_
    show Steps p.tables e below (T27.setTop (mkF m 197 #[.val (.long q1), .second, .val (.int p2), .val (.int p3), .val (.int p4), .val (.ref b5), .val (.int ((p2 &&& (2147483647 : Int32)) % (9 : Int32))), .val (.int (((p2 &&& (2147483647 : Int32)) % (9 : Int32)) + ((p3 &&& (2147483647 : Int32)) % ((9 : Int32) - ((p2 &&& (2147483647 : Int32)) % (9 : Int32)))))), .val (.ref b22), .val (.ref T23.heap.size), .unset, .unset] [(.long q1), (.int (3 : Int32)), (.ref T23.heap.size)])) _
    refine XS.iload X27.here hx rfl (hb hby at_197) rfl ?_
    show Steps p.tables e below (T27.setTop (mkF m 199 #[.val (.long q1), .second, .val (.int p2), .val (.int p3), .val (.int p4), .val (.ref b5), .val (.int ((p2 &&& (2147483647 : Int32)) % (9 : Int32))), .val (.int (((p2 &&& (2147483647 : Int32)) % (9 : Int32)) + ((p3 &&& (2147483647 : Int32)) % ((9 : Int32) - ((p2 &&& (2147483647 : Int32)) % (9 : Int32)))))), .val (.ref b22), .val (.ref T23.heap.size), .unset, .unset] [(.int ((p2 &&& (2147483647 : Int32)) % (9 : Int32))), (.long q1), (.int (3 : Int32)), (.ref T23.heap.size)])) _
    refine st28 _ ?_
    show Steps p.tables e below (T28.setTop (mkF m 202 #[.val (.long q1), .second, .val (.int p2), .val (.int p3), .val (.int p4), .val (.ref b5), .val (.int ((p2 &&& (2147483647 : Int32)) % (9 : Int32))), .val (.int (((p2 &&& (2147483647 : Int32)) % (9 : Int32)) + ((p3 &&& (2147483647 : Int32)) % ((9 : Int32) - ((p2 &&& (2147483647 : Int32)) % (9 : Int32)))))), .val (.ref b22), .val (.ref T23.heap.size), .unset, .unset] [(.int (1 : Int32))])) _
    refine XS.ifNo X28.here hx rfl (hb hby at_202) rfl ((if0 _ _).trans (feq (by decide : ¬ ((1 : Int32) = (0 : Int32)))).1) ?_
    show Steps p.tables e below (T28.setTop (mkF m 205 #[.val (.long q1), .second, .val (.int p2), .val (.int p3), .val (.int p4), .val (.ref b5), .val (.int ((p2 &&& (2147483647 : Int32)) % (9 : Int32))), .val (.int (((p2 &&& (2147483647 : Int32)) % (9 : Int32)) + ((p3 &&& (2147483647 : Int32)) % ((9 : Int32) - ((p2 &&& (2147483647 : Int32)) % (9 : Int32)))))), .val (.ref b22), .val (.ref T23.heap.size), .unset, .unset] [])) _
    refine XS.aload X28.here hx rfl (hb hby at_205) rfl rfl ?_
    show Steps p.tables e below (T28.setTop (mkF m 207 #[.val (.long q1), .second, .val (.int p2), .val (.int p3), .val (.int p4), .val (.ref b5), .val (.int ((p2 &&& (2147483647 : Int32)) % (9 : Int32))), .val (.int (((p2 &&& (2147483647 : Int32)) % (9 : Int32)) + ((p3 &&& (2147483647 : Int32)) % ((9 : Int32) - ((p2 &&& (2147483647 : Int32)) % (9 : Int32)))))), .val (.ref b22), .val (.ref T23.heap.size), .unset, .unset] [(.ref T23.heap.size)])) _
    refine XS.iconst X28.here hx rfl (hb hby at_207) ?_
    show Steps p.tables e below (T28.setTop (mkF m 208 #[.val (.long q1), .second, .val (.int p2), .val (.int p3), .val (.int p4), .val (.ref b5), .val (.int ((p2 &&& (2147483647 : Int32)) % (9 : Int32))), .val (.int (((p2 &&& (2147483647 : Int32)) % (9 : Int32)) + ((p3 &&& (2147483647 : Int32)) % ((9 : Int32) - ((p2 &&& (2147483647 : Int32)) % (9 : Int32)))))), .val (.ref b22), .val (.ref T23.heap.size), .unset, .unset] [(.int (4 : Int32)), (.ref T23.heap.size)])) _
    refine XS.lloadN X28.here hx rfl (hb hby at_208) rfl ?_
    show Steps p.tables e below (T28.setTop (mkF m 209 #[.val (.long q1), .second, .val (.int p2), .val (.int p3), .val (.int p4), .val (.ref b5), .val (.int ((p2 &&& (2147483647 : Int32)) % (9 : Int32))), .val (.int (((p2 &&& (2147483647 : Int32)) % (9 : Int32)) + ((p3 &&& (2147483647 : Int32)) % ((9 : Int32) - ((p2 &&& (2147483647 : Int32)) % (9 : Int32)))))), .val (.ref b22), .val (.ref T23.heap.size), .unset, .unset] [(.long q1), (.int (4 : Int32)), (.ref T23.heap.size)])) _
    refine XS.iload X28.here hx rfl (hb hby at_209) rfl ?_
    show Steps p.tables e below (T28.setTop (mkF m 211 #[.val (.long q1), .second, .val (.int p2), .val (.int p3), .val (.int p4), .val (.ref b5), .val (.int ((p2 &&& (2147483647 : Int32)) % (9 : Int32))), .val (.int (((p2 &&& (2147483647 : Int32)) % (9 : Int32)) + ((p3 &&& (2147483647 : Int32)) % ((9 : Int32) - ((p2 &&& (2147483647 : Int32)) % (9 : Int32)))))), .val (.ref b22), .val (.ref T23.heap.size), .unset, .unset] [(.int ((p2 &&& (2147483647 : Int32)) % (9 : Int32))), (.long q1), (.int (4 : Int32)), (.ref T23.heap.size)])) _
    refine st29 _ ?_
    show Steps p.tables e below (T29.setTop (mkF m 214 #[.val (.long q1), .second, .val (.int p2), .val (.int p3), .val (.int p4), .val (.ref b5), .val (.int ((p2 &&& (2147483647 : Int32)) % (9 : Int32))), .val (.int (((p2 &&& (2147483647 : Int32)) % (9 : Int32)) + ((p3 &&& (2147483647 : Int32)) % ((9 : Int32) - ((p2 &&& (2147483647 : Int32)) % (9 : Int32)))))), .val (.ref b22), .val (.ref T23.heap.size), .unset, .unset] [(.int (1 : Int32))])) _
    refine XS.ifNo X29.here hx rfl (hb hby at_214) rfl ((if0 _ _).trans (feq (by decide : ¬ ((1 : Int32) = (0 : Int32)))).1) ?_
    show Steps p.tables e below (T29.setTop (mkF m 217 #[.val (.long q1), .second, .val (.int p2), .val (.int p3), .val (.int p4), .val (.ref b5), .val (.int ((p2 &&& (2147483647 : Int32)) % (9 : Int32))), .val (.int (((p2 &&& (2147483647 : Int32)) % (9 : Int32)) + ((p3 &&& (2147483647 : Int32)) % ((9 : Int32) - ((p2 &&& (2147483647 : Int32)) % (9 : Int32)))))), .val (.ref b22), .val (.ref T23.heap.size), .unset, .unset] [])) _
    refine XS.aload X29.here hx rfl (hb hby at_217) rfl rfl ?_
    show Steps p.tables e below (T29.setTop (mkF m 219 #[.val (.long q1), .second, .val (.int p2), .val (.int p3), .val (.int p4), .val (.ref b5), .val (.int ((p2 &&& (2147483647 : Int32)) % (9 : Int32))), .val (.int (((p2 &&& (2147483647 : Int32)) % (9 : Int32)) + ((p3 &&& (2147483647 : Int32)) % ((9 : Int32) - ((p2 &&& (2147483647 : Int32)) % (9 : Int32)))))), .val (.ref b22), .val (.ref T23.heap.size), .unset, .unset] [(.ref T23.heap.size)])) _
    refine XS.iconst X29.here hx rfl (hb hby at_219) ?_
    show Steps p.tables e below (T29.setTop (mkF m 220 #[.val (.long q1), .second, .val (.int p2), .val (.int p3), .val (.int p4), .val (.ref b5), .val (.int ((p2 &&& (2147483647 : Int32)) % (9 : Int32))), .val (.int (((p2 &&& (2147483647 : Int32)) % (9 : Int32)) + ((p3 &&& (2147483647 : Int32)) % ((9 : Int32) - ((p2 &&& (2147483647 : Int32)) % (9 : Int32)))))), .val (.ref b22), .val (.ref T23.heap.size), .unset, .unset] [(.int (5 : Int32)), (.ref T23.heap.size)])) _
    refine XS.lloadN X29.here hx rfl (hb hby at_220) rfl ?_
    show Steps p.tables e below (T29.setTop (mkF m 221 #[.val (.long q1), .second, .val (.int p2), .val (.int p3), .val (.int p4), .val (.ref b5), .val (.int ((p2 &&& (2147483647 : Int32)) % (9 : Int32))), .val (.int (((p2 &&& (2147483647 : Int32)) % (9 : Int32)) + ((p3 &&& (2147483647 : Int32)) % ((9 : Int32) - ((p2 &&& (2147483647 : Int32)) % (9 : Int32)))))), .val (.ref b22), .val (.ref T23.heap.size), .unset, .unset] [(.long q1), (.int (5 : Int32)), (.ref T23.heap.size)])) _
    refine XS.iload X29.here hx rfl (hb hby at_221) rfl ?_
    show Steps p.tables e below (T29.setTop (mkF m 223 #[.val (.long q1), .second, .val (.int p2), .val (.int p3), .val (.int p4), .val (.ref b5), .val (.int ((p2 &&& (2147483647 : Int32)) % (9 : Int32))), .val (.int (((p2 &&& (2147483647 : Int32)) % (9 : Int32)) + ((p3 &&& (2147483647 : Int32)) % ((9 : Int32) - ((p2 &&& (2147483647 : Int32)) % (9 : Int32)))))), .val (.ref b22), .val (.ref T23.heap.size), .unset, .unset] [(.int ((p2 &&& (2147483647 : Int32)) % (9 : Int32))), (.long q1), (.int (5 : Int32)), (.ref T23.heap.size)])) _
    refine st30 _ ?_
    show Steps p.tables e below (T30.setTop (mkF m 226 #[.val (.long q1), .second, .val (.int p2), .val (.int p3), .val (.int p4), .val (.ref b5), .val (.int ((p2 &&& (2147483647 : Int32)) % (9 : Int32))), .val (.int (((p2 &&& (2147483647 : Int32)) % (9 : Int32)) + ((p3 &&& (2147483647 : Int32)) % ((9 : Int32) - ((p2 &&& (2147483647 : Int32)) % (9 : Int32)))))), .val (.ref b22), .val (.ref T23.heap.size), .unset, .unset] [(.int (1 : Int32))])) _
    refine XS.ifNo X30.here hx rfl (hb hby at_226) rfl ((if0 _ _).trans (feq (by decide : ¬ ((1 : Int32) = (0 : Int32)))).1) ?_
    show Steps p.tables e below (T30.setTop (mkF m 229 #[.val (.long q1), .second, .val (.int p2), .val (.int p3), .val (.int p4), .val (.ref b5), .val (.int ((p2 &&& (2147483647 : Int32)) % (9 : Int32))), .val (.int (((p2 &&& (2147483647 : Int32)) % (9 : Int32)) + ((p3 &&& (2147483647 : Int32)) % ((9 : Int32) - ((p2 &&& (2147483647 : Int32)) % (9 : Int32)))))), .val (.ref b22), .val (.ref T23.heap.size), .unset, .unset] [])) _
    refine XS.aload X30.here hx rfl (hb hby at_229) rfl rfl ?_
    show Steps p.tables e below (T30.setTop (mkF m 231 #[.val (.long q1), .second, .val (.int p2), .val (.int p3), .val (.int p4), .val (.ref b5), .val (.int ((p2 &&& (2147483647 : Int32)) % (9 : Int32))), .val (.int (((p2 &&& (2147483647 : Int32)) % (9 : Int32)) + ((p3 &&& (2147483647 : Int32)) % ((9 : Int32) - ((p2 &&& (2147483647 : Int32)) % (9 : Int32)))))), .val (.ref b22), .val (.ref T23.heap.size), .unset, .unset] [(.ref T23.heap.size)])) _
    refine XS.bipush X30.here hx rfl (hb hby at_231) ?_
    show Steps p.tables e below (T30.setTop (mkF m 233 #[.val (.long q1), .second, .val (.int p2), .val (.int p3), .val (.int p4), .val (.ref b5), .val (.int ((p2 &&& (2147483647 : Int32)) % (9 : Int32))), .val (.int (((p2 &&& (2147483647 : Int32)) % (9 : Int32)) + ((p3 &&& (2147483647 : Int32)) % ((9 : Int32) - ((p2 &&& (2147483647 : Int32)) % (9 : Int32)))))), .val (.ref b22), .val (.ref T23.heap.size), .unset, .unset] [(.int (6 : Int32)), (.ref T23.heap.size)])) _
    refine XS.lloadN X30.here hx rfl (hb hby at_233) rfl ?_
    show Steps p.tables e below (T30.setTop (mkF m 234 #[.val (.long q1), .second, .val (.int p2), .val (.int p3), .val (.int p4), .val (.ref b5), .val (.int ((p2 &&& (2147483647 : Int32)) % (9 : Int32))), .val (.int (((p2 &&& (2147483647 : Int32)) % (9 : Int32)) + ((p3 &&& (2147483647 : Int32)) % ((9 : Int32) - ((p2 &&& (2147483647 : Int32)) % (9 : Int32)))))), .val (.ref b22), .val (.ref T23.heap.size), .unset, .unset] [(.long q1), (.int (6 : Int32)), (.ref T23.heap.size)])) _
    refine XS.iload X30.here hx rfl (hb hby at_234) rfl ?_
    show Steps p.tables e below (T30.setTop (mkF m 236 #[.val (.long q1), .second, .val (.int p2), .val (.int p3), .val (.int p4), .val (.ref b5), .val (.int ((p2 &&& (2147483647 : Int32)) % (9 : Int32))), .val (.int (((p2 &&& (2147483647 : Int32)) % (9 : Int32)) + ((p3 &&& (2147483647 : Int32)) % ((9 : Int32) - ((p2 &&& (2147483647 : Int32)) % (9 : Int32)))))), .val (.ref b22), .val (.ref T23.heap.size), .unset, .unset] [(.int ((p2 &&& (2147483647 : Int32)) % (9 : Int32))), (.long q1), (.int (6 : Int32)), (.ref T23.heap.size)])) _
    refine st31 _ ?_
    show Steps p.tables e below (T31.setTop (mkF m 239 #[.val (.long q1), .second, .val (.int p2), .val (.int p3), .val (.int p4), .val (.ref b5), .val (.int ((p2 &&& (2147483647 : Int32)) % (9 : Int32))), .val (.int (((p2 &&& (2147483647 : Int32)) % (9 : Int32)) + ((p3 &&& (2147483647 : Int32)) % ((9 : Int32) - ((p2 &&& (2147483647 : Int32)) % (9 : Int32)))))), .val (.ref b22), .val (.ref T23.heap.size), .unset, .unset] [(.int (1 : Int32))])) _
    refine XS.ifNo X31.here hx rfl (hb hby at_239) rfl ((if0 _ _).trans (feq (by decide : ¬ ((1 : Int32) = (0 : Int32)))).1) ?_
    show Steps p.tables e below (T31.setTop (mkF m 242 #[.val (.long q1), .second, .val (.int p2), .val (.int p3), .val (.int p4), .val (.ref b5), .val (.int ((p2 &&& (2147483647 : Int32)) % (9 : Int32))), .val (.int (((p2 &&& (2147483647 : Int32)) % (9 : Int32)) + ((p3 &&& (2147483647 : Int32)) % ((9 : Int32) - ((p2 &&& (2147483647 : Int32)) % (9 : Int32)))))), .val (.ref b22), .val (.ref T23.heap.size), .unset, .unset] [])) _
    refine XS.aload X31.here hx rfl (hb hby at_242) rfl rfl ?_
    show Steps p.tables e below (T31.setTop (mkF m 244 #[.val (.long q1), .second, .val (.int p2), .val (.int p3), .val (.int p4), .val (.ref b5), .val (.int ((p2 &&& (2147483647 : Int32)) % (9 : Int32))), .val (.int (((p2 &&& (2147483647 : Int32)) % (9 : Int32)) + ((p3 &&& (2147483647 : Int32)) % ((9 : Int32) - ((p2 &&& (2147483647 : Int32)) % (9 : Int32)))))), .val (.ref b22), .val (.ref T23.heap.size), .unset, .unset] [(.ref T23.heap.size)])) _
    refine XS.bipush X31.here hx rfl (hb hby at_244) ?_
    show Steps p.tables e below (T31.setTop (mkF m 246 #[.val (.long q1), .second, .val (.int p2), .val (.int p3), .val (.int p4), .val (.ref b5), .val (.int ((p2 &&& (2147483647 : Int32)) % (9 : Int32))), .val (.int (((p2 &&& (2147483647 : Int32)) % (9 : Int32)) + ((p3 &&& (2147483647 : Int32)) % ((9 : Int32) - ((p2 &&& (2147483647 : Int32)) % (9 : Int32)))))), .val (.ref b22), .val (.ref T23.heap.size), .unset, .unset] [(.int (7 : Int32)), (.ref T23.heap.size)])) _
    refine XS.lloadN X31.here hx rfl (hb hby at_246) rfl ?_
    show Steps p.tables e below (T31.setTop (mkF m 247 #[.val (.long q1), .second, .val (.int p2), .val (.int p3), .val (.int p4), .val (.ref b5), .val (.int ((p2 &&& (2147483647 : Int32)) % (9 : Int32))), .val (.int (((p2 &&& (2147483647 : Int32)) % (9 : Int32)) + ((p3 &&& (2147483647 : Int32)) % ((9 : Int32) - ((p2 &&& (2147483647 : Int32)) % (9 : Int32)))))), .val (.ref b22), .val (.ref T23.heap.size), .unset, .unset] [(.long q1), (.int (7 : Int32)), (.ref T23.heap.size)])) _
    refine XS.iload X31.here hx rfl (hb hby at_247) rfl ?_
    show Steps p.tables e below (T31.setTop (mkF m 249 #[.val (.long q1), .second, .val (.int p2), .val (.int p3), .val (.int p4), .val (.ref b5), .val (.int ((p2 &&& (2147483647 : Int32)) % (9 : Int32))), .val (.int (((p2 &&& (2147483647 : Int32)) % (9 : Int32)) + ((p3 &&& (2147483647 : Int32)) % ((9 : Int32) - ((p2 &&& (2147483647 : Int32)) % (9 : Int32)))))), .val (.ref b22), .val (.ref T23.heap.size), .unset, .unset] [(.int ((p2 &&& (2147483647 : Int32)) % (9 : Int32))), (.long q1), (.int (7 : Int32)), (.ref T23.heap.size)])) _
    refine st32 _ ?_
    show Steps p.tables e below (T32.setTop (mkF m 252 #[.val (.long q1), .second, .val (.int p2), .val (.int p3), .val (.int p4), .val (.ref b5), .val (.int ((p2 &&& (2147483647 : Int32)) % (9 : Int32))), .val (.int (((p2 &&& (2147483647 : Int32)) % (9 : Int32)) + ((p3 &&& (2147483647 : Int32)) % ((9 : Int32) - ((p2 &&& (2147483647 : Int32)) % (9 : Int32)))))), .val (.ref b22), .val (.ref T23.heap.size), .unset, .unset] [(.int (1 : Int32))])) _
    refine XS.ifNo X32.here hx rfl (hb hby at_252) rfl ((if0 _ _).trans (feq (by decide : ¬ ((1 : Int32) = (0 : Int32)))).1) ?_
    show Steps p.tables e below (T32.setTop (mkF m 255 #[.val (.long q1), .second, .val (.int p2), .val (.int p3), .val (.int p4), .val (.ref b5), .val (.int ((p2 &&& (2147483647 : Int32)) % (9 : Int32))), .val (.int (((p2 &&& (2147483647 : Int32)) % (9 : Int32)) + ((p3 &&& (2147483647 : Int32)) % ((9 : Int32) - ((p2 &&& (2147483647 : Int32)) % (9 : Int32)))))), .val (.ref b22), .val (.ref T23.heap.size), .unset, .unset] [])) _
    refine XS.iconst X32.here hx rfl (hb hby at_255) ?_
    show Steps p.tables e below (T32.setTop (mkF m 256 #[.val (.long q1), .second, .val (.int p2), .val (.int p3), .val (.int p4), .val (.ref b5), .val (.int ((p2 &&& (2147483647 : Int32)) % (9 : Int32))), .val (.int (((p2 &&& (2147483647 : Int32)) % (9 : Int32)) + ((p3 &&& (2147483647 : Int32)) % ((9 : Int32) - ((p2 &&& (2147483647 : Int32)) % (9 : Int32)))))), .val (.ref b22), .val (.ref T23.heap.size), .unset, .unset] [(.int (1 : Int32))])) _
    refine XS.goto X32.here hx rfl (pc0 := 256) (pc' := 260) rfl (hb hby at_256) (by decide) (by decide) ?_
    show Steps p.tables e below (T32.setTop (mkF m 260 #[.val (.long q1), .second, .val (.int p2), .val (.int p3), .val (.int p4), .val (.ref b5), .val (.int ((p2 &&& (2147483647 : Int32)) % (9 : Int32))), .val (.int (((p2 &&& (2147483647 : Int32)) % (9 : Int32)) + ((p3 &&& (2147483647 : Int32)) % ((9 : Int32) - ((p2 &&& (2147483647 : Int32)) % (9 : Int32)))))), .val (.ref b22), .val (.ref T23.heap.size), .unset, .unset] [(.int (1 : Int32))])) _
    refine XS.istore X32.here hx rfl (hb hby at_260) rfl (l' := #[.val (.long q1), .second, .val (.int p2), .val (.int p3), .val (.int p4), .val (.ref b5), .val (.int ((p2 &&& (2147483647 : Int32)) % (9 : Int32))), .val (.int (((p2 &&& (2147483647 : Int32)) % (9 : Int32)) + ((p3 &&& (2147483647 : Int32)) % ((9 : Int32) - ((p2 &&& (2147483647 : Int32)) % (9 : Int32)))))), .val (.ref b22), .val (.ref T23.heap.size), .val (.int (1 : Int32)), .unset]) rfl ?_
    show Steps p.tables e below (T32.setTop (mkF m 262 #[.val (.long q1), .second, .val (.int p2), .val (.int p3), .val (.int p4), .val (.ref b5), .val (.int ((p2 &&& (2147483647 : Int32)) % (9 : Int32))), .val (.int (((p2 &&& (2147483647 : Int32)) % (9 : Int32)) + ((p3 &&& (2147483647 : Int32)) % ((9 : Int32) - ((p2 &&& (2147483647 : Int32)) % (9 : Int32)))))), .val (.ref b22), .val (.ref T23.heap.size), .val (.int (1 : Int32)), .unset] [])) _
    refine XS.iload X32.here hx rfl (hb hby at_262) rfl ?_
    show Steps p.tables e below (T32.setTop (mkF m 264 #[.val (.long q1), .second, .val (.int p2), .val (.int p3), .val (.int p4), .val (.ref b5), .val (.int ((p2 &&& (2147483647 : Int32)) % (9 : Int32))), .val (.int (((p2 &&& (2147483647 : Int32)) % (9 : Int32)) + ((p3 &&& (2147483647 : Int32)) % ((9 : Int32) - ((p2 &&& (2147483647 : Int32)) % (9 : Int32)))))), .val (.ref b22), .val (.ref T23.heap.size), .val (.int (1 : Int32)), .unset] [(.int (1 : Int32))])) _
    refine XS.ifYes X32.here hx rfl (pc0 := 264) (pc' := 269) rfl (hb hby at_264) rfl ((if0 _ _).trans (feq hc264).2) (by decide) (by decide) ?_
    show Steps p.tables e below (T32.setTop (mkF m 269 #[.val (.long q1), .second, .val (.int p2), .val (.int p3), .val (.int p4), .val (.ref b5), .val (.int ((p2 &&& (2147483647 : Int32)) % (9 : Int32))), .val (.int (((p2 &&& (2147483647 : Int32)) % (9 : Int32)) + ((p3 &&& (2147483647 : Int32)) % ((9 : Int32) - ((p2 &&& (2147483647 : Int32)) % (9 : Int32)))))), .val (.ref b22), .val (.ref T23.heap.size), .val (.int (1 : Int32)), .unset] [])) _
    refine XS.aload X32.here hx rfl (hb hby at_269) rfl rfl ?_
    show Steps p.tables e below (T32.setTop (mkF m 271 #[.val (.long q1), .second, .val (.int p2), .val (.int p3), .val (.int p4), .val (.ref b5), .val (.int ((p2 &&& (2147483647 : Int32)) % (9 : Int32))), .val (.int (((p2 &&& (2147483647 : Int32)) % (9 : Int32)) + ((p3 &&& (2147483647 : Int32)) % ((9 : Int32) - ((p2 &&& (2147483647 : Int32)) % (9 : Int32)))))), .val (.ref b22), .val (.ref T23.heap.size), .val (.int (1 : Int32)), .unset] [(.ref T23.heap.size)])) _
    refine X32.arraylength hx Ar_r_32.1 (State.isArrayOf_alike hZ.alike Ar_r_32.2.1) (g := (mkF m 271 #[.val (.long q1), .second, .val (.int p2), .val (.int p3), .val (.int p4), .val (.ref b5), .val (.int ((p2 &&& (2147483647 : Int32)) % (9 : Int32))), .val (.int (((p2 &&& (2147483647 : Int32)) % (9 : Int32)) + ((p3 &&& (2147483647 : Int32)) % ((9 : Int32) - ((p2 &&& (2147483647 : Int32)) % (9 : Int32)))))), .val (.ref b22), .val (.ref T23.heap.size), .val (.int (1 : Int32)), .unset] [(.ref T23.heap.size)])) rfl rfl (hb hby at_271) _ ?_
    rw [len_of S_r N_r]
    show Steps p.tables e below (T32.setTop (mkF m 272 #[.val (.long q1), .second, .val (.int p2), .val (.int p3), .val (.int p4), .val (.ref b5), .val (.int ((p2 &&& (2147483647 : Int32)) % (9 : Int32))), .val (.int (((p2 &&& (2147483647 : Int32)) % (9 : Int32)) + ((p3 &&& (2147483647 : Int32)) % ((9 : Int32) - ((p2 &&& (2147483647 : Int32)) % (9 : Int32)))))), .val (.ref b22), .val (.ref T23.heap.size), .val (.int (1 : Int32)), .unset] [(.int ((((p2 &&& (2147483647 : Int32)) % (9 : Int32)) + ((p3 &&& (2147483647 : Int32)) % ((9 : Int32) - ((p2 &&& (2147483647 : Int32)) % (9 : Int32))))) - ((p2 &&& (2147483647 : Int32)) % (9 : Int32))))])) _
    refine XS.ifYes X32.here hx rfl (pc0 := 272) (pc' := 347) rfl (hb hby at_272) rfl ((if0 _ _).trans (flt hlen).2.2.2) (by decide) (by decide) ?_
    show Steps p.tables e below (T32.setTop (mkF m 347 #[.val (.long q1), .second, .val (.int p2), .val (.int p3), .val (.int p4), .val (.ref b5), .val (.int ((p2 &&& (2147483647 : Int32)) % (9 : Int32))), .val (.int (((p2 &&& (2147483647 : Int32)) % (9 : Int32)) + ((p3 &&& (2147483647 : Int32)) % ((9 : Int32) - ((p2 &&& (2147483647 : Int32)) % (9 : Int32)))))), .val (.ref b22), .val (.ref T23.heap.size), .val (.int (1 : Int32)), .unset] [])) _
    refine XS.iconst X32.here hx rfl (hb hby at_347) ?_
    show Steps p.tables e below (T32.setTop (mkF m 348 #[.val (.long q1), .second, .val (.int p2), .val (.int p3), .val (.int p4), .val (.ref b5), .val (.int ((p2 &&& (2147483647 : Int32)) % (9 : Int32))), .val (.int (((p2 &&& (2147483647 : Int32)) % (9 : Int32)) + ((p3 &&& (2147483647 : Int32)) % ((9 : Int32) - ((p2 &&& (2147483647 : Int32)) % (9 : Int32)))))), .val (.ref b22), .val (.ref T23.heap.size), .val (.int (1 : Int32)), .unset] [(.int (1 : Int32))])) _
    exact retN X32 hx (t := .boolean) Bd.returns (by simp) (hb hby at_348) hr
  · show Q0 Z q1 p2 p3 p4 h0 n0 _ T32.heap _
    exact ⟨rfl, N32⟩
set_option maxRecDepth 65536 in
set_option maxHeartbeats 40000000 in
theorem rm0_B (l : Launch) (Z : State) (a0 : Array Value) (hw : ∀ d ∈ tables_1, d.before a0 Z = true) (ws : List Jvm.Cond) (q1 : Int64) (p2 : Int32) (p3 : Int32) (p4 : Int32) (h0 : Heap) (n0 : Nat) (Z0 : n0 ≤ h0.size) (hlen : (0 : Int32) < ((((p2 &&& (2147483647 : Int32)) % (9 : Int32)) + ((p3 &&& (2147483647 : Int32)) % ((9 : Int32) - ((p2 &&& (2147483647 : Int32)) % (9 : Int32))))) - ((p2 &&& (2147483647 : Int32)) % (9 : Int32)))) :
    MetFree l x (head1 (Jvm.Cond.code x code maxLocals ret :: ws) room_1) (fun a U => a = #[(.long q1), (.int p2), (.int p3), (.int p4)] ∧ Z.Warmed39 U.vm ∧ U.heap = h0) (fun _ _ _ _ _ => True) (fun _ U o U' => ∃ v L, o = .returned v ∧ Q0 Z q1 p2 p3 p4 h0 n0 v U'.heap L ∧ FrameEnd U o U' L room_1.cells room_1.slots) := by
  refine MetFree.of_bodySF (plainFor_of_name pn_0) hisR ?_
  intro p e s m args below meth c s₁ Bd hml0 hP hK
  obtain ⟨rfl, hZ, hh⟩ := hP
  have hx := Bd.exec
  have hby := Bd.bytes
  have hml : c.maxLocals = 12 := hml0
  have hown : s.vm.findClass "com/example/ticketbridge/ticketbridge/io/DerContentPinLaw" = some m.cls := findClass_of_methodNamed Bd.named
  have hnm := (name_of_methodNamed Bd.named Bd.method).1
  have X0 : Stand p l e room_1 s m #[(.long q1), (.int p2), (.int p3), (.int p4)] below meth c s₁ [] 0 0 := Stand.of_body Bd
  have e0 : s₁.heap = h0 := by rw [← hh, Bd.state]; rfl
  have N0 := Fr.nil n0
  have pre0 : ∀ t, Steps p.tables e below (s₁.setTop (mkF m 0 #[.val (.long q1), .second, .val (.int p2), .val (.int p3), .val (.int p4), .unset, .unset, .unset, .unset, .unset, .unset, .unset] [])) t → Steps p.tables e below (s₁.setTop (entryFrame m #[(.long q1), (.int p2), (.int p3), (.int p4)] maxLocals)) t := fun t k => castTop (ef_0 m q1 p2 p3 p4) k
  obtain ⟨T5, h5, k5, X5, e5, E5, A5, EX5, st5⟩ := newPE X0 hx hZ (hw _ (List.mem_of_getElem? (i := 0) rfl)) e0 (g := (mkF m 2 #[.val (.long q1), .second, .val (.int p2), .val (.int p3), .val (.int p4), .unset, .unset, .unset, .unset, .unset, .unset, .unset] [(.int (8 : Int32))])) rfl (hb hby at_2) rfl (by decide) (cap := 8) (by decide) (by decide) (by decide) (by decide) (ad := "[B") rfl
  obtain ⟨b5, g5⟩ : ∃ z, z = h0.size := ⟨_, rfl⟩
  rw [← g5] at A5 EX5 st5
  have V_b5 : Arv Z h5 b5 k5 .byte (8 : Int32) [(.int (0 : Int32)), (.int (0 : Int32)), (.int (0 : Int32)), (.int (0 : Int32)), (.int (0 : Int32)), (.int (0 : Int32)), (.int (0 : Int32)), (.int (0 : Int32))] (.int (0 : Int32)) := (Arv.new A5 (by decide)).pad (pad_rep [] (.int (0 : Int32)) 8)
  have g_b5 : n0 ≤ b5 := Nat.le_trans Z0 (Nat.le_of_eq g5.symm)
  have sz_b5 : h0.size ≤ b5 := (Nat.le_trans (Keep.refl h0 []).1 (Nat.le_of_eq g5.symm))
  have K5 : Keep h0 h5 [] := (Keep.refl h0 []).ext E5
  obtain ⟨_, _, ⟨T6, L6, k6, n6⟩, -, X6, ⟨Lc6, hQ6, l6, y6, z6⟩, st6⟩ := Jvm.LawKit.callS X5 hx (y := (⟨"com/example/ticketbridge/ticketbridge/io/DerContentPinLaw", "byteAt", "(JI)B"⟩ : MethodName)) hown (mvT hZ (hw _ (List.mem_of_getElem? (i := 1) rfl))) (mvT hZ (hw _ (List.mem_of_getElem? (i := 2) rfl))) (mvT hZ (hw _ (List.mem_of_getElem? (i := 3) rfl))) (mvT hZ (hw _ (List.mem_of_getElem? (i := 4) rfl))) (by decide) (backOf (W := 2) (rm1 l Z a0 hw [] q1 (0 : Int32) h5 n0 (Nat.le_trans Z0 K5.1)) hZ (hw _ (List.mem_of_getElem? (i := 4) rfl)) (hw _ (List.mem_of_getElem? (i := 3) rfl)) (by decide) (by decide)) (g := (mkF m 11 #[.val (.long q1), .second, .val (.int p2), .val (.int p3), .val (.int p4), .val (.ref b5), .unset, .unset, .unset, .unset, .unset, .unset] [(.int (0 : Int32)), (.long q1), (.int (0 : Int32)), (.ref b5)])) rfl (by rw [hml]; rfl) (argsL := [(.long q1), (.int (0 : Int32))]) (rest := [(.int (0 : Int32)), (.ref b5)]) (lenOf pd_0_0 rfl) rfl (by show 2 * 0 + _ ≤ _; exact Nat.le_of_eq rfl) (hb hby at_11) (fun _ _ => ⟨rfl, e5, (by decide : 1 + 0 ≤ _), (by decide : 8 + 0 ≤ _)⟩)
  dsimp only [Pt.U, Pt.locs, Pt.cells, Pt.slots] at X6 l6 y6 z6 st6 hQ6
  rw [l6, y6, z6] at X6
  obtain ⟨rfl, N6q, ek6⟩ := hQ6
  have KC6 : Keep h5 T6.heap [] := by rw [ek6]; exact Keep.refl _ _
  have KT6 : Keep h0 T6.heap [] := by rw [ek6]; exact K5
  have N6 := Fr.app N0 N6q
  obtain ⟨cl_b5_14, Ar_b5, q_b5, S_b5, N_b5, H_b5, G_b5⟩ := (V_b5.keep KC6 nin0)
  have hin14 : ¬ ((0 : Int32) < 0 ∨ cl_b5_14.slots.size ≤ ((0 : Int32)).toNatClampNeg) := inb_of S_b5 ⟨by decide, by decide⟩
  obtain ⟨T7, h7, X7, e7, W7, st7⟩ := stB X6 hx hZ rfl Ar_b5 (j := (0 : Int32)) hin14 (g := (mkF m 14 #[.val (.long q1), .second, .val (.int p2), .val (.int p3), .val (.int p4), .val (.ref b5), .unset, .unset, .unset, .unset, .unset, .unset] [(.int (bA q1 (0 : Int32))), (.int (0 : Int32)), (.ref b5)])) rfl rfl (hb hby at_14)
  have V_b5_7 := Arv.set Ar_b5 q_b5 S_b5 N_b5 H_b5 G_b5 (fits_nar_byte _) W7 0 rfl (Nat.le_of_ble_eq_true rfl)
  have K7 : Keep h0 h7 [] := KT6.wr W7 (Or.inr sz_b5)
  have N7 := Fr.snoc X7 N6 g_b5
  obtain ⟨_, _, ⟨T8, L8, k8, n8⟩, -, X8, ⟨Lc8, hQ8, l8, y8, z8⟩, st8⟩ := Jvm.LawKit.callS X7 hx (y := (⟨"com/example/ticketbridge/ticketbridge/io/DerContentPinLaw", "byteAt", "(JI)B"⟩ : MethodName)) hown (mvT hZ (hw _ (List.mem_of_getElem? (i := 1) rfl))) (mvT hZ (hw _ (List.mem_of_getElem? (i := 2) rfl))) (mvT hZ (hw _ (List.mem_of_getElem? (i := 3) rfl))) (mvT hZ (hw _ (List.mem_of_getElem? (i := 4) rfl))) (by decide) (backOf (W := 2) (rm1 l Z a0 hw [] q1 (1 : Int32) h7 n0 (Nat.le_trans Z0 K7.1)) hZ (hw _ (List.mem_of_getElem? (i := 4) rfl)) (hw _ (List.mem_of_getElem? (i := 3) rfl)) (by decide) (by decide)) (g := (mkF m 20 #[.val (.long q1), .second, .val (.int p2), .val (.int p3), .val (.int p4), .val (.ref b5), .unset, .unset, .unset, .unset, .unset, .unset] [(.int (1 : Int32)), (.long q1), (.int (1 : Int32)), (.ref b5)])) rfl (by rw [hml]; rfl) (argsL := [(.long q1), (.int (1 : Int32))]) (rest := [(.int (1 : Int32)), (.ref b5)]) (lenOf pd_0_0 rfl) rfl (by show 2 * 0 + _ ≤ _; exact Nat.le_of_eq rfl) (hb hby at_20) (fun _ _ => ⟨rfl, e7, (by decide : 1 + 0 ≤ _), (by decide : 8 + 0 ≤ _)⟩)
  dsimp only [Pt.U, Pt.locs, Pt.cells, Pt.slots] at X8 l8 y8 z8 st8 hQ8
  rw [l8, y8, z8] at X8
  obtain ⟨rfl, N8q, ek8⟩ := hQ8
  have KC8 : Keep h7 T8.heap [] := by rw [ek8]; exact Keep.refl _ _
  have KT8 : Keep h0 T8.heap [] := by rw [ek8]; exact K7
  have N8 := Fr.app N7 N8q
  obtain ⟨cl_b5_23, Ar_b5, q_b5, S_b5, N_b5, H_b5, G_b5⟩ := (V_b5_7.keep KC8 nin0)
  have hin23 : ¬ ((1 : Int32) < 0 ∨ cl_b5_23.slots.size ≤ ((1 : Int32)).toNatClampNeg) := inb_of S_b5 ⟨by decide, by decide⟩
  obtain ⟨T9, h9, X9, e9, W9, st9⟩ := stB X8 hx hZ rfl Ar_b5 (j := (1 : Int32)) hin23 (g := (mkF m 23 #[.val (.long q1), .second, .val (.int p2), .val (.int p3), .val (.int p4), .val (.ref b5), .unset, .unset, .unset, .unset, .unset, .unset] [(.int (bA q1 (1 : Int32))), (.int (1 : Int32)), (.ref b5)])) rfl rfl (hb hby at_23)
  have V_b5_9 := Arv.set Ar_b5 q_b5 S_b5 N_b5 H_b5 G_b5 (fits_nar_byte _) W9 1 rfl (Nat.le_of_ble_eq_true rfl)
  have K9 : Keep h0 h9 [] := KT8.wr W9 (Or.inr sz_b5)
  have N9 := Fr.snoc X9 N8 g_b5
  obtain ⟨_, _, ⟨T10, L10, k10, n10⟩, -, X10, ⟨Lc10, hQ10, l10, y10, z10⟩, st10⟩ := Jvm.LawKit.callS X9 hx (y := (⟨"com/example/ticketbridge/ticketbridge/io/DerContentPinLaw", "byteAt", "(JI)B"⟩ : MethodName)) hown (mvT hZ (hw _ (List.mem_of_getElem? (i := 1) rfl))) (mvT hZ (hw _ (List.mem_of_getElem? (i := 2) rfl))) (mvT hZ (hw _ (List.mem_of_getElem? (i := 3) rfl))) (mvT hZ (hw _ (List.mem_of_getElem? (i := 4) rfl))) (by decide) (backOf (W := 2) (rm1 l Z a0 hw [] q1 (2 : Int32) h9 n0 (Nat.le_trans Z0 K9.1)) hZ (hw _ (List.mem_of_getElem? (i := 4) rfl)) (hw _ (List.mem_of_getElem? (i := 3) rfl)) (by decide) (by decide)) (g := (mkF m 29 #[.val (.long q1), .second, .val (.int p2), .val (.int p3), .val (.int p4), .val (.ref b5), .unset, .unset, .unset, .unset, .unset, .unset] [(.int (2 : Int32)), (.long q1), (.int (2 : Int32)), (.ref b5)])) rfl (by rw [hml]; rfl) (argsL := [(.long q1), (.int (2 : Int32))]) (rest := [(.int (2 : Int32)), (.ref b5)]) (lenOf pd_0_0 rfl) rfl (by show 2 * 0 + _ ≤ _; exact Nat.le_of_eq rfl) (hb hby at_29) (fun _ _ => ⟨rfl, e9, (by decide : 1 + 0 ≤ _), (by decide : 8 + 0 ≤ _)⟩)
  dsimp only [Pt.U, Pt.locs, Pt.cells, Pt.slots] at X10 l10 y10 z10 st10 hQ10
  rw [l10, y10, z10] at X10
  obtain ⟨rfl, N10q, ek10⟩ := hQ10
  have KC10 : Keep h9 T10.heap [] := by rw [ek10]; exact Keep.refl _ _
  have KT10 : Keep h0 T10.heap [] := by rw [ek10]; exact K9
  have N10 := Fr.app N9 N10q
  obtain ⟨cl_b5_32, Ar_b5, q_b5, S_b5, N_b5, H_b5, G_b5⟩ := (V_b5_9.keep KC10 nin0)
  have hin32 : ¬ ((2 : Int32) < 0 ∨ cl_b5_32.slots.size ≤ ((2 : Int32)).toNatClampNeg) := inb_of S_b5 ⟨by decide, by decide⟩
  obtain ⟨T11, h11, X11, e11, W11, st11⟩ := stB X10 hx hZ rfl Ar_b5 (j := (2 : Int32)) hin32 (g := (mkF m 32 #[.val (.long q1), .second, .val (.int p2), .val (.int p3), .val (.int p4), .val (.ref b5), .unset, .unset, .unset, .unset, .unset, .unset] [(.int (bA q1 (2 : Int32))), (.int (2 : Int32)), (.ref b5)])) rfl rfl (hb hby at_32)
  have V_b5_11 := Arv.set Ar_b5 q_b5 S_b5 N_b5 H_b5 G_b5 (fits_nar_byte _) W11 2 rfl (Nat.le_of_ble_eq_true rfl)
  have K11 : Keep h0 h11 [] := KT10.wr W11 (Or.inr sz_b5)
  have N11 := Fr.snoc X11 N10 g_b5
  obtain ⟨_, _, ⟨T12, L12, k12, n12⟩, -, X12, ⟨Lc12, hQ12, l12, y12, z12⟩, st12⟩ := Jvm.LawKit.callS X11 hx (y := (⟨"com/example/ticketbridge/ticketbridge/io/DerContentPinLaw", "byteAt", "(JI)B"⟩ : MethodName)) hown (mvT hZ (hw _ (List.mem_of_getElem? (i := 1) rfl))) (mvT hZ (hw _ (List.mem_of_getElem? (i := 2) rfl))) (mvT hZ (hw _ (List.mem_of_getElem? (i := 3) rfl))) (mvT hZ (hw _ (List.mem_of_getElem? (i := 4) rfl))) (by decide) (backOf (W := 2) (rm1 l Z a0 hw [] q1 (3 : Int32) h11 n0 (Nat.le_trans Z0 K11.1)) hZ (hw _ (List.mem_of_getElem? (i := 4) rfl)) (hw _ (List.mem_of_getElem? (i := 3) rfl)) (by decide) (by decide)) (g := (mkF m 38 #[.val (.long q1), .second, .val (.int p2), .val (.int p3), .val (.int p4), .val (.ref b5), .unset, .unset, .unset, .unset, .unset, .unset] [(.int (3 : Int32)), (.long q1), (.int (3 : Int32)), (.ref b5)])) rfl (by rw [hml]; rfl) (argsL := [(.long q1), (.int (3 : Int32))]) (rest := [(.int (3 : Int32)), (.ref b5)]) (lenOf pd_0_0 rfl) rfl (by show 2 * 0 + _ ≤ _; exact Nat.le_of_eq rfl) (hb hby at_38) (fun _ _ => ⟨rfl, e11, (by decide : 1 + 0 ≤ _), (by decide : 8 + 0 ≤ _)⟩)
  dsimp only [Pt.U, Pt.locs, Pt.cells, Pt.slots] at X12 l12 y12 z12 st12 hQ12
  rw [l12, y12, z12] at X12
  obtain ⟨rfl, N12q, ek12⟩ := hQ12
  have KC12 : Keep h11 T12.heap [] := by rw [ek12]; exact Keep.refl _ _
  have KT12 : Keep h0 T12.heap [] := by rw [ek12]; exact K11
  have N12 := Fr.app N11 N12q
  obtain ⟨cl_b5_41, Ar_b5, q_b5, S_b5, N_b5, H_b5, G_b5⟩ := (V_b5_11.keep KC12 nin0)
  have hin41 : ¬ ((3 : Int32) < 0 ∨ cl_b5_41.slots.size ≤ ((3 : Int32)).toNatClampNeg) := inb_of S_b5 ⟨by decide, by decide⟩
  obtain ⟨T13, h13, X13, e13, W13, st13⟩ := stB X12 hx hZ rfl Ar_b5 (j := (3 : Int32)) hin41 (g := (mkF m 41 #[.val (.long q1), .second, .val (.int p2), .val (.int p3), .val (.int p4), .val (.ref b5), .unset, .unset, .unset, .unset, .unset, .unset] [(.int (bA q1 (3 : Int32))), (.int (3 : Int32)), (.ref b5)])) rfl rfl (hb hby at_41)
  have V_b5_13 := Arv.set Ar_b5 q_b5 S_b5 N_b5 H_b5 G_b5 (fits_nar_byte _) W13 3 rfl (Nat.le_of_ble_eq_true rfl)
  have K13 : Keep h0 h13 [] := KT12.wr W13 (Or.inr sz_b5)
  have N13 := Fr.snoc X13 N12 g_b5
  obtain ⟨_, _, ⟨T14, L14, k14, n14⟩, -, X14, ⟨Lc14, hQ14, l14, y14, z14⟩, st14⟩ := Jvm.LawKit.callS X13 hx (y := (⟨"com/example/ticketbridge/ticketbridge/io/DerContentPinLaw", "byteAt", "(JI)B"⟩ : MethodName)) hown (mvT hZ (hw _ (List.mem_of_getElem? (i := 1) rfl))) (mvT hZ (hw _ (List.mem_of_getElem? (i := 2) rfl))) (mvT hZ (hw _ (List.mem_of_getElem? (i := 3) rfl))) (mvT hZ (hw _ (List.mem_of_getElem? (i := 4) rfl))) (by decide) (backOf (W := 2) (rm1 l Z a0 hw [] q1 (4 : Int32) h13 n0 (Nat.le_trans Z0 K13.1)) hZ (hw _ (List.mem_of_getElem? (i := 4) rfl)) (hw _ (List.mem_of_getElem? (i := 3) rfl)) (by decide) (by decide)) (g := (mkF m 47 #[.val (.long q1), .second, .val (.int p2), .val (.int p3), .val (.int p4), .val (.ref b5), .unset, .unset, .unset, .unset, .unset, .unset] [(.int (4 : Int32)), (.long q1), (.int (4 : Int32)), (.ref b5)])) rfl (by rw [hml]; rfl) (argsL := [(.long q1), (.int (4 : Int32))]) (rest := [(.int (4 : Int32)), (.ref b5)]) (lenOf pd_0_0 rfl) rfl (by show 2 * 0 + _ ≤ _; exact Nat.le_of_eq rfl) (hb hby at_47) (fun _ _ => ⟨rfl, e13, (by decide : 1 + 0 ≤ _), (by decide : 8 + 0 ≤ _)⟩)
  dsimp only [Pt.U, Pt.locs, Pt.cells, Pt.slots] at X14 l14 y14 z14 st14 hQ14
  rw [l14, y14, z14] at X14
  obtain ⟨rfl, N14q, ek14⟩ := hQ14
  have KC14 : Keep h13 T14.heap [] := by rw [ek14]; exact Keep.refl _ _
  have KT14 : Keep h0 T14.heap [] := by rw [ek14]; exact K13
  have N14 := Fr.app N13 N14q
  obtain ⟨cl_b5_50, Ar_b5, q_b5, S_b5, N_b5, H_b5, G_b5⟩ := (V_b5_13.keep KC14 nin0)
  have hin50 : ¬ ((4 : Int32) < 0 ∨ cl_b5_50.slots.size ≤ ((4 : Int32)).toNatClampNeg) := inb_of S_b5 ⟨by decide, by decide⟩
  obtain ⟨T15, h15, X15, e15, W15, st15⟩ := stB X14 hx hZ rfl Ar_b5 (j := (4 : Int32)) hin50 (g := (mkF m 50 #[.val (.long q1), .second, .val (.int p2), .val (.int p3), .val (.int p4), .val (.ref b5), .unset, .unset, .unset, .unset, .unset, .unset] [(.int (bA q1 (4 : Int32))), (.int (4 : Int32)), (.ref b5)])) rfl rfl (hb hby at_50)
  have V_b5_15 := Arv.set Ar_b5 q_b5 S_b5 N_b5 H_b5 G_b5 (fits_nar_byte _) W15 4 rfl (Nat.le_of_ble_eq_true rfl)
  have K15 : Keep h0 h15 [] := KT14.wr W15 (Or.inr sz_b5)
  have N15 := Fr.snoc X15 N14 g_b5
  obtain ⟨_, _, ⟨T16, L16, k16, n16⟩, -, X16, ⟨Lc16, hQ16, l16, y16, z16⟩, st16⟩ := Jvm.LawKit.callS X15 hx (y := (⟨"com/example/ticketbridge/ticketbridge/io/DerContentPinLaw", "byteAt", "(JI)B"⟩ : MethodName)) hown (mvT hZ (hw _ (List.mem_of_getElem? (i := 1) rfl))) (mvT hZ (hw _ (List.mem_of_getElem? (i := 2) rfl))) (mvT hZ (hw _ (List.mem_of_getElem? (i := 3) rfl))) (mvT hZ (hw _ (List.mem_of_getElem? (i := 4) rfl))) (by decide) (backOf (W := 2) (rm1 l Z a0 hw [] q1 (5 : Int32) h15 n0 (Nat.le_trans Z0 K15.1)) hZ (hw _ (List.mem_of_getElem? (i := 4) rfl)) (hw _ (List.mem_of_getElem? (i := 3) rfl)) (by decide) (by decide)) (g := (mkF m 56 #[.val (.long q1), .second, .val (.int p2), .val (.int p3), .val (.int p4), .val (.ref b5), .unset, .unset, .unset, .unset, .unset, .unset] [(.int (5 : Int32)), (.long q1), (.int (5 : Int32)), (.ref b5)])) rfl (by rw [hml]; rfl) (argsL := [(.long q1), (.int (5 : Int32))]) (rest := [(.int (5 : Int32)), (.ref b5)]) (lenOf pd_0_0 rfl) rfl (by show 2 * 0 + _ ≤ _; exact Nat.le_of_eq rfl) (hb hby at_56) (fun _ _ => ⟨rfl, e15, (by decide : 1 + 0 ≤ _), (by decide : 8 + 0 ≤ _)⟩)
  dsimp only [Pt.U, Pt.locs, Pt.cells, Pt.slots] at X16 l16 y16 z16 st16 hQ16
  rw [l16, y16, z16] at X16
  obtain ⟨rfl, N16q, ek16⟩ := hQ16
  have KC16 : Keep h15 T16.heap [] := by rw [ek16]; exact Keep.refl _ _
  have KT16 : Keep h0 T16.heap [] := by rw [ek16]; exact K15
  have N16 := Fr.app N15 N16q
  obtain ⟨cl_b5_59, Ar_b5, q_b5, S_b5, N_b5, H_b5, G_b5⟩ := (V_b5_15.keep KC16 nin0)
  have hin59 : ¬ ((5 : Int32) < 0 ∨ cl_b5_59.slots.size ≤ ((5 : Int32)).toNatClampNeg) := inb_of S_b5 ⟨by decide, by decide⟩
  obtain ⟨T17, h17, X17, e17, W17, st17⟩ := stB X16 hx hZ rfl Ar_b5 (j := (5 : Int32)) hin59 (g := (mkF m 59 #[.val (.long q1), .second, .val (.int p2), .val (.int p3), .val (.int p4), .val (.ref b5), .unset, .unset, .unset, .unset, .unset, .unset] [(.int (bA q1 (5 : Int32))), (.int (5 : Int32)), (.ref b5)])) rfl rfl (hb hby at_59)
  have V_b5_17 := Arv.set Ar_b5 q_b5 S_b5 N_b5 H_b5 G_b5 (fits_nar_byte _) W17 5 rfl (Nat.le_of_ble_eq_true rfl)
  have K17 : Keep h0 h17 [] := KT16.wr W17 (Or.inr sz_b5)
  have N17 := Fr.snoc X17 N16 g_b5
  obtain ⟨_, _, ⟨T18, L18, k18, n18⟩, -, X18, ⟨Lc18, hQ18, l18, y18, z18⟩, st18⟩ := Jvm.LawKit.callS X17 hx (y := (⟨"com/example/ticketbridge/ticketbridge/io/DerContentPinLaw", "byteAt", "(JI)B"⟩ : MethodName)) hown (mvT hZ (hw _ (List.mem_of_getElem? (i := 1) rfl))) (mvT hZ (hw _ (List.mem_of_getElem? (i := 2) rfl))) (mvT hZ (hw _ (List.mem_of_getElem? (i := 3) rfl))) (mvT hZ (hw _ (List.mem_of_getElem? (i := 4) rfl))) (by decide) (backOf (W := 2) (rm1 l Z a0 hw [] q1 (6 : Int32) h17 n0 (Nat.le_trans Z0 K17.1)) hZ (hw _ (List.mem_of_getElem? (i := 4) rfl)) (hw _ (List.mem_of_getElem? (i := 3) rfl)) (by decide) (by decide)) (g := (mkF m 67 #[.val (.long q1), .second, .val (.int p2), .val (.int p3), .val (.int p4), .val (.ref b5), .unset, .unset, .unset, .unset, .unset, .unset] [(.int (6 : Int32)), (.long q1), (.int (6 : Int32)), (.ref b5)])) rfl (by rw [hml]; rfl) (argsL := [(.long q1), (.int (6 : Int32))]) (rest := [(.int (6 : Int32)), (.ref b5)]) (lenOf pd_0_0 rfl) rfl (by show 2 * 0 + _ ≤ _; exact Nat.le_of_eq rfl) (hb hby at_67) (fun _ _ => ⟨rfl, e17, (by decide : 1 + 0 ≤ _), (by decide : 8 + 0 ≤ _)⟩)
  dsimp only [Pt.U, Pt.locs, Pt.cells, Pt.slots] at X18 l18 y18 z18 st18 hQ18
  rw [l18, y18, z18] at X18
  obtain ⟨rfl, N18q, ek18⟩ := hQ18
  have KC18 : Keep h17 T18.heap [] := by rw [ek18]; exact Keep.refl _ _
  have KT18 : Keep h0 T18.heap [] := by rw [ek18]; exact K17
  have N18 := Fr.app N17 N18q
  obtain ⟨cl_b5_70, Ar_b5, q_b5, S_b5, N_b5, H_b5, G_b5⟩ := (V_b5_17.keep KC18 nin0)
  have hin70 : ¬ ((6 : Int32) < 0 ∨ cl_b5_70.slots.size ≤ ((6 : Int32)).toNatClampNeg) := inb_of S_b5 ⟨by decide, by decide⟩
  obtain ⟨T19, h19, X19, e19, W19, st19⟩ := stB X18 hx hZ rfl Ar_b5 (j := (6 : Int32)) hin70 (g := (mkF m 70 #[.val (.long q1), .second, .val (.int p2), .val (.int p3), .val (.int p4), .val (.ref b5), .unset, .unset, .unset, .unset, .unset, .unset] [(.int (bA q1 (6 : Int32))), (.int (6 : Int32)), (.ref b5)])) rfl rfl (hb hby at_70)
  have V_b5_19 := Arv.set Ar_b5 q_b5 S_b5 N_b5 H_b5 G_b5 (fits_nar_byte _) W19 6 rfl (Nat.le_of_ble_eq_true rfl)
  have K19 : Keep h0 h19 [] := KT18.wr W19 (Or.inr sz_b5)
  have N19 := Fr.snoc X19 N18 g_b5
  obtain ⟨_, _, ⟨T20, L20, k20, n20⟩, -, X20, ⟨Lc20, hQ20, l20, y20, z20⟩, st20⟩ := Jvm.LawKit.callS X19 hx (y := (⟨"com/example/ticketbridge/ticketbridge/io/DerContentPinLaw", "byteAt", "(JI)B"⟩ : MethodName)) hown (mvT hZ (hw _ (List.mem_of_getElem? (i := 1) rfl))) (mvT hZ (hw _ (List.mem_of_getElem? (i := 2) rfl))) (mvT hZ (hw _ (List.mem_of_getElem? (i := 3) rfl))) (mvT hZ (hw _ (List.mem_of_getElem? (i := 4) rfl))) (by decide) (backOf (W := 2) (rm1 l Z a0 hw [] q1 (7 : Int32) h19 n0 (Nat.le_trans Z0 K19.1)) hZ (hw _ (List.mem_of_getElem? (i := 4) rfl)) (hw _ (List.mem_of_getElem? (i := 3) rfl)) (by decide) (by decide)) (g := (mkF m 78 #[.val (.long q1), .second, .val (.int p2), .val (.int p3), .val (.int p4), .val (.ref b5), .unset, .unset, .unset, .unset, .unset, .unset] [(.int (7 : Int32)), (.long q1), (.int (7 : Int32)), (.ref b5)])) rfl (by rw [hml]; rfl) (argsL := [(.long q1), (.int (7 : Int32))]) (rest := [(.int (7 : Int32)), (.ref b5)]) (lenOf pd_0_0 rfl) rfl (by show 2 * 0 + _ ≤ _; exact Nat.le_of_eq rfl) (hb hby at_78) (fun _ _ => ⟨rfl, e19, (by decide : 1 + 0 ≤ _), (by decide : 8 + 0 ≤ _)⟩)
  dsimp only [Pt.U, Pt.locs, Pt.cells, Pt.slots] at X20 l20 y20 z20 st20 hQ20
  rw [l20, y20, z20] at X20
  obtain ⟨rfl, N20q, ek20⟩ := hQ20
  have KC20 : Keep h19 T20.heap [] := by rw [ek20]; exact Keep.refl _ _
  have KT20 : Keep h0 T20.heap [] := by rw [ek20]; exact K19
  have N20 := Fr.app N19 N20q
  obtain ⟨cl_b5_81, Ar_b5, q_b5, S_b5, N_b5, H_b5, G_b5⟩ := (V_b5_19.keep KC20 nin0)
  have hin81 : ¬ ((7 : Int32) < 0 ∨ cl_b5_81.slots.size ≤ ((7 : Int32)).toNatClampNeg) := inb_of S_b5 ⟨by decide, by decide⟩
  obtain ⟨T21, h21, X21, e21, W21, st21⟩ := stB X20 hx hZ rfl Ar_b5 (j := (7 : Int32)) hin81 (g := (mkF m 81 #[.val (.long q1), .second, .val (.int p2), .val (.int p3), .val (.int p4), .val (.ref b5), .unset, .unset, .unset, .unset, .unset, .unset] [(.int (bA q1 (7 : Int32))), (.int (7 : Int32)), (.ref b5)])) rfl rfl (hb hby at_81)
  have V_b5_21 := Arv.set Ar_b5 q_b5 S_b5 N_b5 H_b5 G_b5 (fits_nar_byte _) W21 7 rfl (Nat.le_of_ble_eq_true rfl)
  have K21 : Keep h0 h21 [] := KT20.wr W21 (Or.inr sz_b5)
  have N21 := Fr.snoc X21 N20 g_b5
  obtain ⟨T22, h22, X22, e22, E22, A22, D22, -, st22⟩ := newO X21 hx hZ hown (hw _ (List.mem_of_getElem? (i := 6) rfl)) (hw _ (List.mem_of_getElem? (i := 7) rfl)) (hw _ (List.mem_of_getElem? (i := 8) rfl)) e21 (g := (mkF m 106 #[.val (.long q1), .second, .val (.int p2), .val (.int p3), .val (.int p4), .val (.ref b5), .val (.int ((p2 &&& (2147483647 : Int32)) % (9 : Int32))), .val (.int (((p2 &&& (2147483647 : Int32)) % (9 : Int32)) + ((p3 &&& (2147483647 : Int32)) % ((9 : Int32) - ((p2 &&& (2147483647 : Int32)) % (9 : Int32)))))), .unset, .unset, .unset, .unset] [])) rfl (hb hby at_106) (by decide) (by decide)
  obtain ⟨b22, g22⟩ : ∃ z, z = h21.size := ⟨_, rfl⟩
  rw [← g22] at A22 D22 st22
  have F_source_b22 : Fld Z h22 b22 "com/example/ticketbridge/ticketbridge/io/Der" "source" "[B" .null := D22 (Or.inr (hw _ (List.mem_of_getElem? (i := 21) rfl))) (ty := (.array .byte)) (by decide)
  have F_tag_b22 : Fld Z h22 b22 "com/example/ticketbridge/ticketbridge/io/Der" "tag" "I" (.int (0 : Int32)) := D22 (Or.inr (hw _ (List.mem_of_getElem? (i := 23) rfl))) (ty := .int) (by decide)
  have F_start_b22 : Fld Z h22 b22 "com/example/ticketbridge/ticketbridge/io/Der" "start" "I" (.int (0 : Int32)) := D22 (Or.inr (hw _ (List.mem_of_getElem? (i := 25) rfl))) (ty := .int) (by decide)
  have F_end_b22 : Fld Z h22 b22 "com/example/ticketbridge/ticketbridge/io/Der" "end" "I" (.int (0 : Int32)) := D22 (Or.inr (hw _ (List.mem_of_getElem? (i := 27) rfl))) (ty := .int) (by decide)
  have E_b22 := A22
  have g_b22 : n0 ≤ b22 := Nat.le_trans (Nat.le_trans (Nat.le_trans (Nat.le_trans (Nat.le_trans (Nat.le_trans (Nat.le_trans (Nat.le_trans (Nat.le_trans (Nat.le_trans (Nat.le_trans (Nat.le_trans (Nat.le_trans (Nat.le_trans (Nat.le_trans (Nat.le_trans (Nat.le_trans (Nat.le_trans Z0 E5.1) KC6.1) (Keep.of_wr W7).1) KC8.1) (Keep.of_wr W9).1) KC10.1) (Keep.of_wr W11).1) KC12.1) (Keep.of_wr W13).1) KC14.1) (Keep.of_wr W15).1) KC16.1) (Keep.of_wr W17).1) KC18.1) (Keep.of_wr W19).1) KC20.1) (Keep.of_wr W21).1) (Nat.le_of_eq g22.symm)
  have sz_b22 : h0.size ≤ b22 := (Nat.le_trans K21.1 (Nat.le_of_eq g22.symm))
  have EXB21 : Exa Z h21 b5 "[B" := ((((((((((((((((EX5.keep KC6).wr W7).keep KC8).wr W9).keep KC10).wr W11).keep KC12).wr W13).keep KC14).wr W15).keep KC16).wr W17).keep KC18).wr W19).keep KC20).wr W21)
  have VB21 : Arv Z h21 b5 k5 .byte (8 : Int32) (vs8 q1) (.int (0 : Int32)) := V_b5_21
  have ne5 : b5 ≠ b22 := fun q => Nat.lt_irrefl _ (Nat.lt_of_lt_of_le VB21.lt (Nat.le_of_eq (g22.symm.trans q.symm)))
  have Z22 : n0 ≤ h22.size := Nat.le_trans Z0 (K21.ext E22).1
  obtain ⟨hs0, hs8⟩ := own_start p2
  obtain ⟨hnz102, hs1, hs2⟩ := own_end ((p2 &&& (2147483647 : Int32)) % (9 : Int32)) p3 hs0 hs8
  have hnz88 : ¬ ((9 : Int32) = (0 : Int32)) := by decide
  have hc264 : ¬ ((1 : Int32) = (0 : Int32)) := by decide
  obtain ⟨_, _, ⟨T23, L23, k23, n23⟩, -, X23, ⟨Lc23, hQ23, l23, y23, z23⟩, st23⟩ := X22.specialBack hx (y := (⟨"com/example/ticketbridge/ticketbridge/io/Der", "<init>", "([BIII)V"⟩ : MethodName)) rfl hown (mvT hZ (hw _ (List.mem_of_getElem? (i := 9) rfl))) (mvT hZ (hw _ (List.mem_of_getElem? (i := 10) rfl))) (mvT hZ (hw _ (List.mem_of_getElem? (i := 11) rfl))) (by decide) (backOf (W := 1) (rm2 l Z a0 hw [] b22 b5 p4 ((p2 &&& (2147483647 : Int32)) % (9 : Int32)) (((p2 &&& (2147483647 : Int32)) % (9 : Int32)) + ((p3 &&& (2147483647 : Int32)) % ((9 : Int32) - ((p2 &&& (2147483647 : Int32)) % (9 : Int32))))) .null (.int (0 : Int32)) (.int (0 : Int32)) (.int (0 : Int32)) h22 n0 Z22 E_b22 F_source_b22 g_b22 F_tag_b22 F_start_b22 F_end_b22) hZ (hw _ (List.mem_of_getElem? (i := 11) rfl)) (hw _ (List.mem_of_getElem? (i := 8) rfl)) (by decide) (by decide)) (g := (mkF m 118 #[.val (.long q1), .second, .val (.int p2), .val (.int p3), .val (.int p4), .val (.ref b5), .val (.int ((p2 &&& (2147483647 : Int32)) % (9 : Int32))), .val (.int (((p2 &&& (2147483647 : Int32)) % (9 : Int32)) + ((p3 &&& (2147483647 : Int32)) % ((9 : Int32) - ((p2 &&& (2147483647 : Int32)) % (9 : Int32)))))), .unset, .unset, .unset, .unset] [(.int (((p2 &&& (2147483647 : Int32)) % (9 : Int32)) + ((p3 &&& (2147483647 : Int32)) % ((9 : Int32) - ((p2 &&& (2147483647 : Int32)) % (9 : Int32)))))), (.int ((p2 &&& (2147483647 : Int32)) % (9 : Int32))), (.int p4), (.ref b5), (.ref b22), (.ref b22)])) rfl (by rw [hml]; rfl) (Steps.refl _) (a := b22) (argsL := [(.ref b5), (.int p4), (.int ((p2 &&& (2147483647 : Int32)) % (9 : Int32))), (.int (((p2 &&& (2147483647 : Int32)) % (9 : Int32)) + ((p3 &&& (2147483647 : Int32)) % ((9 : Int32) - ((p2 &&& (2147483647 : Int32)) % (9 : Int32))))))]) (rest := [(.ref b22)]) (lenOf pd_0_1 rfl) rfl (by show 2 * 0 + _ ≤ _; exact Nat.le_of_eq rfl) (hb hby at_118) (fun _ _ => ⟨rfl, e22, (by decide : 2 + 0 ≤ _), (by decide : 12 + 0 ≤ _)⟩)
  dsimp only [Pt.U, Pt.locs, Pt.cells, Pt.slots] at X23 l23 y23 z23 st23 hQ23
  rw [l23, y23, z23] at X23
  obtain ⟨rfl, N23q, KC23, E23, FS23, FT23, FB23, FE23⟩ := hQ23
  have Z23 : n0 ≤ T23.heap.size := Nat.le_trans Z22 KC23.1
  have VB23 : Arv Z T23.heap b5 k5 .byte (8 : Int32) (vs8 q1) (.int (0 : Int32)) := (VB21.ext E22).keep KC23 (ninS ne5 nin0)
  have EXB23 : Exa Z T23.heap b5 "[B" := (EXB21.ext E22).keep KC23
  have N23 := Fr.app N21 N23q
  obtain ⟨cq24, kq24, q24a, q24b, q24c⟩ := isOf hZ rfl (E_b22.keep KC23)
  obtain ⟨_, _, ⟨T24, L24, k24, n24⟩, -, X24, ⟨Lc24, hQ24, l24, y24, z24⟩, st24⟩ := X23.virtualBack hx (y := (⟨"com/example/ticketbridge/ticketbridge/io/Der", "content", "()[B"⟩ : MethodName)) (z := (⟨"com/example/ticketbridge/ticketbridge/io/Der", "content", "()[B"⟩ : MethodName)) hown (mvT hZ (hw _ (List.mem_of_getElem? (i := 28) rfl))) (mvT hZ (hw _ (List.mem_of_getElem? (i := 29) rfl))) (notFace_of_selects (args := #[]) (mvT hZ (hw _ (List.mem_of_getElem? (i := 31) rfl)))) (mvT hZ (hw _ (List.mem_of_getElem? (i := 31) rfl))) (mvT hZ (hw _ (List.mem_of_getElem? (i := 30) rfl))) (by decide) (backOf (W := 0) (rm5 l Z a0 hw [] b22 b5 ((p2 &&& (2147483647 : Int32)) % (9 : Int32)) (((p2 &&& (2147483647 : Int32)) % (9 : Int32)) + ((p3 &&& (2147483647 : Int32)) % ((9 : Int32) - ((p2 &&& (2147483647 : Int32)) % (9 : Int32))))) k5 (vs8 q1) T23.heap n0 Z23 FS23 FB23 FE23 EXB23 rfl VB23 hs0 hs1 hs2) hZ (hw _ (List.mem_of_getElem? (i := 32) rfl)) (hw _ (List.mem_of_getElem? (i := 8) rfl)) (by decide) (by decide)) q24a q24c (g := (mkF m 125 #[.val (.long q1), .second, .val (.int p2), .val (.int p3), .val (.int p4), .val (.ref b5), .val (.int ((p2 &&& (2147483647 : Int32)) % (9 : Int32))), .val (.int (((p2 &&& (2147483647 : Int32)) % (9 : Int32)) + ((p3 &&& (2147483647 : Int32)) % ((9 : Int32) - ((p2 &&& (2147483647 : Int32)) % (9 : Int32)))))), .val (.ref b22), .unset, .unset, .unset] [(.ref b22)])) rfl (by rw [hml]; rfl) (Steps.refl _) (argsL := []) (rest := []) (lenOf pd_0_3 rfl) rfl (by show 2 * 0 + _ ≤ _; exact Nat.le_of_eq rfl) (hb hby at_125) (fun _ _ => ⟨rfl, rfl, (by decide : 2 + 1 ≤ _), (by decide : 12 + 8 ≤ _)⟩)
  dsimp only [Pt.U, Pt.locs, Pt.cells, Pt.slots] at X24 l24 y24 z24 st24 hQ24
  rw [l24, y24, z24] at X24
  obtain ⟨rfl, N24q, KC24, kR, VR24⟩ := hQ24
  have Z24 : n0 ≤ T24.heap.size := Nat.le_trans Z23 KC24.1
  have hz : ¬ (((((p2 &&& (2147483647 : Int32)) % (9 : Int32)) + ((p3 &&& (2147483647 : Int32)) % ((9 : Int32) - ((p2 &&& (2147483647 : Int32)) % (9 : Int32))))) - ((p2 &&& (2147483647 : Int32)) % (9 : Int32)))) < 0 := by obtain ⟨c1, c2, c3, c4, c5, c6⟩ := VR24; exact c5
  have ha139 : ¬ (T23.heap.size = b5) := Nat.ne_of_gt VB23.lt
  obtain ⟨cl_r, Ar_r_24, q_r, S_r, N_r, H_r, G_r⟩ := id VR24
  have N24 := Fr.app N23 N24q
  obtain ⟨_, _, ⟨T25, L25, k25, n25⟩, -, X25, ⟨Lc25, hQ25, l25, y25, z25⟩, st25⟩ := Jvm.LawKit.callS X24 hx (y := (⟨"com/example/ticketbridge/ticketbridge/io/DerContentPinLaw", "at", "([BIJI)Z"⟩ : MethodName)) hown (mvT hZ (hw _ (List.mem_of_getElem? (i := 51) rfl))) (mvT hZ (hw _ (List.mem_of_getElem? (i := 52) rfl))) (mvT hZ (hw _ (List.mem_of_getElem? (i := 3) rfl))) (mvT hZ (hw _ (List.mem_of_getElem? (i := 53) rfl))) (by decide) (backOf (W := 0) (rm10 l Z a0 hw [] T23.heap.size (0 : Int32) q1 ((p2 &&& (2147483647 : Int32)) % (9 : Int32)) kR ((((p2 &&& (2147483647 : Int32)) % (9 : Int32)) + ((p3 &&& (2147483647 : Int32)) % ((9 : Int32) - ((p2 &&& (2147483647 : Int32)) % (9 : Int32))))) - ((p2 &&& (2147483647 : Int32)) % (9 : Int32))) (cut (vs8 q1) ((p2 &&& (2147483647 : Int32)) % (9 : Int32)) (((p2 &&& (2147483647 : Int32)) % (9 : Int32)) + ((p3 &&& (2147483647 : Int32)) % ((9 : Int32) - ((p2 &&& (2147483647 : Int32)) % (9 : Int32)))))) T24.heap n0 Z24 VR24 (by decide) (own_at q1 ((p2 &&& (2147483647 : Int32)) % (9 : Int32)) (((p2 &&& (2147483647 : Int32)) % (9 : Int32)) + ((p3 &&& (2147483647 : Int32)) % ((9 : Int32) - ((p2 &&& (2147483647 : Int32)) % (9 : Int32))))) (0 : Int32) hs0 hs1 hs2 (by decide))) hZ (hw _ (List.mem_of_getElem? (i := 53) rfl)) (hw _ (List.mem_of_getElem? (i := 3) rfl)) (by decide) (by decide)) (g := (mkF m 163 #[.val (.long q1), .second, .val (.int p2), .val (.int p3), .val (.int p4), .val (.ref b5), .val (.int ((p2 &&& (2147483647 : Int32)) % (9 : Int32))), .val (.int (((p2 &&& (2147483647 : Int32)) % (9 : Int32)) + ((p3 &&& (2147483647 : Int32)) % ((9 : Int32) - ((p2 &&& (2147483647 : Int32)) % (9 : Int32)))))), .val (.ref b22), .val (.ref T23.heap.size), .unset, .unset] [(.int ((p2 &&& (2147483647 : Int32)) % (9 : Int32))), (.long q1), (.int (0 : Int32)), (.ref T23.heap.size)])) rfl (by rw [hml]; rfl) (argsL := [(.ref T23.heap.size), (.int (0 : Int32)), (.long q1), (.int ((p2 &&& (2147483647 : Int32)) % (9 : Int32)))]) (rest := []) (lenOf pd_0_8 rfl) rfl (by show 2 * 0 + _ ≤ _; exact Nat.le_of_eq rfl) (hb hby at_163) (fun _ _ => ⟨rfl, rfl, (by decide : 3 + 0 ≤ _), (by decide : 20 + 0 ≤ _)⟩)
  dsimp only [Pt.U, Pt.locs, Pt.cells, Pt.slots] at X25 l25 y25 z25 st25 hQ25
  rw [l25, y25, z25] at X25
  obtain ⟨rfl, N25q, ek25⟩ := hQ25
  have KC25 : Keep T24.heap T25.heap [] := by rw [ek25]; exact Keep.refl _ _
  have Z25 : n0 ≤ T25.heap.size := by rw [ek25]; exact Z24
  have VR25 : Arv Z T25.heap T23.heap.size kR .byte ((((p2 &&& (2147483647 : Int32)) % (9 : Int32)) + ((p3 &&& (2147483647 : Int32)) % ((9 : Int32) - ((p2 &&& (2147483647 : Int32)) % (9 : Int32))))) - ((p2 &&& (2147483647 : Int32)) % (9 : Int32))) (cut (vs8 q1) ((p2 &&& (2147483647 : Int32)) % (9 : Int32)) (((p2 &&& (2147483647 : Int32)) % (9 : Int32)) + ((p3 &&& (2147483647 : Int32)) % ((9 : Int32) - ((p2 &&& (2147483647 : Int32)) % (9 : Int32)))))) (.int (0 : Int32)) := by rw [ek25]; exact VR24
  have N25 := Fr.app N24 N25q
  obtain ⟨_, _, ⟨T26, L26, k26, n26⟩, -, X26, ⟨Lc26, hQ26, l26, y26, z26⟩, st26⟩ := Jvm.LawKit.callS X25 hx (y := (⟨"com/example/ticketbridge/ticketbridge/io/DerContentPinLaw", "at", "([BIJI)Z"⟩ : MethodName)) hown (mvT hZ (hw _ (List.mem_of_getElem? (i := 51) rfl))) (mvT hZ (hw _ (List.mem_of_getElem? (i := 52) rfl))) (mvT hZ (hw _ (List.mem_of_getElem? (i := 3) rfl))) (mvT hZ (hw _ (List.mem_of_getElem? (i := 53) rfl))) (by decide) (backOf (W := 0) (rm10 l Z a0 hw [] T23.heap.size (1 : Int32) q1 ((p2 &&& (2147483647 : Int32)) % (9 : Int32)) kR ((((p2 &&& (2147483647 : Int32)) % (9 : Int32)) + ((p3 &&& (2147483647 : Int32)) % ((9 : Int32) - ((p2 &&& (2147483647 : Int32)) % (9 : Int32))))) - ((p2 &&& (2147483647 : Int32)) % (9 : Int32))) (cut (vs8 q1) ((p2 &&& (2147483647 : Int32)) % (9 : Int32)) (((p2 &&& (2147483647 : Int32)) % (9 : Int32)) + ((p3 &&& (2147483647 : Int32)) % ((9 : Int32) - ((p2 &&& (2147483647 : Int32)) % (9 : Int32)))))) T25.heap n0 Z25 VR25 (by decide) (own_at q1 ((p2 &&& (2147483647 : Int32)) % (9 : Int32)) (((p2 &&& (2147483647 : Int32)) % (9 : Int32)) + ((p3 &&& (2147483647 : Int32)) % ((9 : Int32) - ((p2 &&& (2147483647 : Int32)) % (9 : Int32))))) (1 : Int32) hs0 hs1 hs2 (by decide))) hZ (hw _ (List.mem_of_getElem? (i := 53) rfl)) (hw _ (List.mem_of_getElem? (i := 3) rfl)) (by decide) (by decide)) (g := (mkF m 175 #[.val (.long q1), .second, .val (.int p2), .val (.int p3), .val (.int p4), .val (.ref b5), .val (.int ((p2 &&& (2147483647 : Int32)) % (9 : Int32))), .val (.int (((p2 &&& (2147483647 : Int32)) % (9 : Int32)) + ((p3 &&& (2147483647 : Int32)) % ((9 : Int32) - ((p2 &&& (2147483647 : Int32)) % (9 : Int32)))))), .val (.ref b22), .val (.ref T23.heap.size), .unset, .unset] [(.int ((p2 &&& (2147483647 : Int32)) % (9 : Int32))), (.long q1), (.int (1 : Int32)), (.ref T23.heap.size)])) rfl (by rw [hml]; rfl) (argsL := [(.ref T23.heap.size), (.int (1 : Int32)), (.long q1), (.int ((p2 &&& (2147483647 : Int32)) % (9 : Int32)))]) (rest := []) (lenOf pd_0_8 rfl) rfl (by show 2 * 0 + _ ≤ _; exact Nat.le_of_eq rfl) (hb hby at_175) (fun _ _ => ⟨rfl, rfl, (by decide : 3 + 0 ≤ _), (by decide : 20 + 0 ≤ _)⟩)
  dsimp only [Pt.U, Pt.locs, Pt.cells, Pt.slots] at X26 l26 y26 z26 st26 hQ26
  rw [l26, y26, z26] at X26
  obtain ⟨rfl, N26q, ek26⟩ := hQ26
  have KC26 : Keep T25.heap T26.heap [] := by rw [ek26]; exact Keep.refl _ _
  have Z26 : n0 ≤ T26.heap.size := by rw [ek26]; exact Z25
  have VR26 : Arv Z T26.heap T23.heap.size kR .byte ((((p2 &&& (2147483647 : Int32)) % (9 : Int32)) + ((p3 &&& (2147483647 : Int32)) % ((9 : Int32) - ((p2 &&& (2147483647 : Int32)) % (9 : Int32))))) - ((p2 &&& (2147483647 : Int32)) % (9 : Int32))) (cut (vs8 q1) ((p2 &&& (2147483647 : Int32)) % (9 : Int32)) (((p2 &&& (2147483647 : Int32)) % (9 : Int32)) + ((p3 &&& (2147483647 : Int32)) % ((9 : Int32) - ((p2 &&& (2147483647 : Int32)) % (9 : Int32)))))) (.int (0 : Int32)) := by rw [ek26]; exact VR25
  have N26 := Fr.app N25 N26q
  obtain ⟨_, _, ⟨T27, L27, k27, n27⟩, -, X27, ⟨Lc27, hQ27, l27, y27, z27⟩, st27⟩ := Jvm.LawKit.callS X26 hx (y := (⟨"com/example/ticketbridge/ticketbridge/io/DerContentPinLaw", "at", "([BIJI)Z"⟩ : MethodName)) hown (mvT hZ (hw _ (List.mem_of_getElem? (i := 51) rfl))) (mvT hZ (hw _ (List.mem_of_getElem? (i := 52) rfl))) (mvT hZ (hw _ (List.mem_of_getElem? (i := 3) rfl))) (mvT hZ (hw _ (List.mem_of_getElem? (i := 53) rfl))) (by decide) (backOf (W := 0) (rm10 l Z a0 hw [] T23.heap.size (2 : Int32) q1 ((p2 &&& (2147483647 : Int32)) % (9 : Int32)) kR ((((p2 &&& (2147483647 : Int32)) % (9 : Int32)) + ((p3 &&& (2147483647 : Int32)) % ((9 : Int32) - ((p2 &&& (2147483647 : Int32)) % (9 : Int32))))) - ((p2 &&& (2147483647 : Int32)) % (9 : Int32))) (cut (vs8 q1) ((p2 &&& (2147483647 : Int32)) % (9 : Int32)) (((p2 &&& (2147483647 : Int32)) % (9 : Int32)) + ((p3 &&& (2147483647 : Int32)) % ((9 : Int32) - ((p2 &&& (2147483647 : Int32)) % (9 : Int32)))))) T26.heap n0 Z26 VR26 (by decide) (own_at q1 ((p2 &&& (2147483647 : Int32)) % (9 : Int32)) (((p2 &&& (2147483647 : Int32)) % (9 : Int32)) + ((p3 &&& (2147483647 : Int32)) % ((9 : Int32) - ((p2 &&& (2147483647 : Int32)) % (9 : Int32))))) (2 : Int32) hs0 hs1 hs2 (by decide))) hZ (hw _ (List.mem_of_getElem? (i := 53) rfl)) (hw _ (List.mem_of_getElem? (i := 3) rfl)) (by decide) (by decide)) (g := (mkF m 187 #[.val (.long q1), .second, .val (.int p2), .val (.int p3), .val (.int p4), .val (.ref b5), .val (.int ((p2 &&& (2147483647 : Int32)) % (9 : Int32))), .val (.int (((p2 &&& (2147483647 : Int32)) % (9 : Int32)) + ((p3 &&& (2147483647 : Int32)) % ((9 : Int32) - ((p2 &&& (2147483647 : Int32)) % (9 : Int32)))))), .val (.ref b22), .val (.ref T23.heap.size), .unset, .unset] [(.int ((p2 &&& (2147483647 : Int32)) % (9 : Int32))), (.long q1), (.int (2 : Int32)), (.ref T23.heap.size)])) rfl (by rw [hml]; rfl) (argsL := [(.ref T23.heap.size), (.int (2 : Int32)), (.long q1), (.int ((p2 &&& (2147483647 : Int32)) % (9 : Int32)))]) (rest := []) (lenOf pd_0_8 rfl) rfl (by show 2 * 0 + _ ≤ _; exact Nat.le_of_eq rfl) (hb hby at_187) (fun _ _ => ⟨rfl, rfl, (by decide : 3 + 0 ≤ _), (by decide : 20 + 0 ≤ _)⟩)
  dsimp only [Pt.U, Pt.locs, Pt.cells, Pt.slots] at X27 l27 y27 z27 st27 hQ27
  rw [l27, y27, z27] at X27
  obtain ⟨rfl, N27q, ek27⟩ := hQ27
  have KC27 : Keep T26.heap T27.heap [] := by rw [ek27]; exact Keep.refl _ _
  have Z27 : n0 ≤ T27.heap.size := by rw [ek27]; exact Z26
  have VR27 : Arv Z T27.heap T23.heap.size kR .byte ((((p2 &&& (2147483647 : Int32)) % (9 : Int32)) + ((p3 &&& (2147483647 : Int32)) % ((9 : Int32) - ((p2 &&& (2147483647 : Int32)) % (9 : Int32))))) - ((p2 &&& (2147483647 : Int32)) % (9 : Int32))) (cut (vs8 q1) ((p2 &&& (2147483647 : Int32)) % (9 : Int32)) (((p2 &&& (2147483647 : Int32)) % (9 : Int32)) + ((p3 &&& (2147483647 : Int32)) % ((9 : Int32) - ((p2 &&& (2147483647 : Int32)) % (9 : Int32)))))) (.int (0 : Int32)) := by rw [ek27]; exact VR26
  have N27 := Fr.app N26 N27q
  obtain ⟨_, _, ⟨T28, L28, k28, n28⟩, -, X28, ⟨Lc28, hQ28, l28, y28, z28⟩, st28⟩ := Jvm.LawKit.callS X27 hx (y := (⟨"com/example/ticketbridge/ticketbridge/io/DerContentPinLaw", "at", "([BIJI)Z"⟩ : MethodName)) hown (mvT hZ (hw _ (List.mem_of_getElem? (i := 51) rfl))) (mvT hZ (hw _ (List.mem_of_getElem? (i := 52) rfl))) (mvT hZ (hw _ (List.mem_of_getElem? (i := 3) rfl))) (mvT hZ (hw _ (List.mem_of_getElem? (i := 53) rfl))) (by decide) (backOf (W := 0) (rm10 l Z a0 hw [] T23.heap.size (3 : Int32) q1 ((p2 &&& (2147483647 : Int32)) % (9 : Int32)) kR ((((p2 &&& (2147483647 : Int32)) % (9 : Int32)) + ((p3 &&& (2147483647 : Int32)) % ((9 : Int32) - ((p2 &&& (2147483647 : Int32)) % (9 : Int32))))) - ((p2 &&& (2147483647 : Int32)) % (9 : Int32))) (cut (vs8 q1) ((p2 &&& (2147483647 : Int32)) % (9 : Int32)) (((p2 &&& (2147483647 : Int32)) % (9 : Int32)) + ((p3 &&& (2147483647 : Int32)) % ((9 : Int32) - ((p2 &&& (2147483647 : Int32)) % (9 : Int32)))))) T27.heap n0 Z27 VR27 (by decide) (own_at q1 ((p2 &&& (2147483647 : Int32)) % (9 : Int32)) (((p2 &&& (2147483647 : Int32)) % (9 : Int32)) + ((p3 &&& (2147483647 : Int32)) % ((9 : Int32) - ((p2 &&& (2147483647 : Int32)) % (9 : Int32))))) (3 : Int32) hs0 hs1 hs2 (by decide))) hZ (hw _ (List.mem_of_getElem? (i := 53) rfl)) (hw _ (List.mem_of_getElem? (i := 3) rfl)) (by decide) (by decide)) (g := (mkF m 199 #[.val (.long q1), .second, .val (.int p2), .val (.int p3), .val (.int p4), .val (.ref b5), .val (.int ((p2 &&& (2147483647 : Int32)) % (9 : Int32))), .val (.int (((p2 &&& (2147483647 : Int32)) % (9 : Int32)) + ((p3 &&& (2147483647 : Int32)) % ((9 : Int32) - ((p2 &&& (2147483647 : Int32)) % (9 : Int32)))))), .val (.ref b22), .val (.ref T23.heap.size), .unset, .unset] [(.int ((p2 &&& (2147483647 : Int32)) % (9 : Int32))), (.long q1), (.int (3 : Int32)), (.ref T23.heap.size)])) rfl (by rw [hml]; rfl) (argsL := [(.ref T23.heap.size), (.int (3 : Int32)), (.long q1), (.int ((p2 &&& (2147483647 : Int32)) % (9 : Int32)))]) (rest := []) (lenOf pd_0_8 rfl) rfl (by show 2 * 0 + _ ≤ _; exact Nat.le_of_eq rfl) (hb hby at_199) (fun _ _ => ⟨rfl, rfl, (by decide : 3 + 0 ≤ _), (by decide : 20 + 0 ≤ _)⟩)
  dsimp only [Pt.U, Pt.locs, Pt.cells, Pt.slots] at X28 l28 y28 z28 st28 hQ28
  rw [l28, y28, z28] at X28
  obtain ⟨rfl, N28q, ek28⟩ := hQ28
  have KC28 : Keep T27.heap T28.heap [] := by rw [ek28]; exact Keep.refl _ _
  have Z28 : n0 ≤ T28.heap.size := by rw [ek28]; exact Z27
  have VR28 : Arv Z T28.heap T23.heap.size kR .byte ((((p2 &&& (2147483647 : Int32)) % (9 : Int32)) + ((p3 &&& (2147483647 : Int32)) % ((9 : Int32) - ((p2 &&& (2147483647 : Int32)) % (9 : Int32))))) - ((p2 &&& (2147483647 : Int32)) % (9 : Int32))) (cut (vs8 q1) ((p2 &&& (2147483647 : Int32)) % (9 : Int32)) (((p2 &&& (2147483647 : Int32)) % (9 : Int32)) + ((p3 &&& (2147483647 : Int32)) % ((9 : Int32) - ((p2 &&& (2147483647 : Int32)) % (9 : Int32)))))) (.int (0 : Int32)) := by rw [ek28]; exact VR27
  have N28 := Fr.app N27 N28q
  obtain ⟨_, _, ⟨T29, L29, k29, n29⟩, -, X29, ⟨Lc29, hQ29, l29, y29, z29⟩, st29⟩ := Jvm.LawKit.callS X28 hx (y := (⟨"com/example/ticketbridge/ticketbridge/io/DerContentPinLaw", "at", "([BIJI)Z"⟩ : MethodName)) hown (mvT hZ (hw _ (List.mem_of_getElem? (i := 51) rfl))) (mvT hZ (hw _ (List.mem_of_getElem? (i := 52) rfl))) (mvT hZ (hw _ (List.mem_of_getElem? (i := 3) rfl))) (mvT hZ (hw _ (List.mem_of_getElem? (i := 53) rfl))) (by decide) (backOf (W := 0) (rm10 l Z a0 hw [] T23.heap.size (4 : Int32) q1 ((p2 &&& (2147483647 : Int32)) % (9 : Int32)) kR ((((p2 &&& (2147483647 : Int32)) % (9 : Int32)) + ((p3 &&& (2147483647 : Int32)) % ((9 : Int32) - ((p2 &&& (2147483647 : Int32)) % (9 : Int32))))) - ((p2 &&& (2147483647 : Int32)) % (9 : Int32))) (cut (vs8 q1) ((p2 &&& (2147483647 : Int32)) % (9 : Int32)) (((p2 &&& (2147483647 : Int32)) % (9 : Int32)) + ((p3 &&& (2147483647 : Int32)) % ((9 : Int32) - ((p2 &&& (2147483647 : Int32)) % (9 : Int32)))))) T28.heap n0 Z28 VR28 (by decide) (own_at q1 ((p2 &&& (2147483647 : Int32)) % (9 : Int32)) (((p2 &&& (2147483647 : Int32)) % (9 : Int32)) + ((p3 &&& (2147483647 : Int32)) % ((9 : Int32) - ((p2 &&& (2147483647 : Int32)) % (9 : Int32))))) (4 : Int32) hs0 hs1 hs2 (by decide))) hZ (hw _ (List.mem_of_getElem? (i := 53) rfl)) (hw _ (List.mem_of_getElem? (i := 3) rfl)) (by decide) (by decide)) (g := (mkF m 211 #[.val (.long q1), .second, .val (.int p2), .val (.int p3), .val (.int p4), .val (.ref b5), .val (.int ((p2 &&& (2147483647 : Int32)) % (9 : Int32))), .val (.int (((p2 &&& (2147483647 : Int32)) % (9 : Int32)) + ((p3 &&& (2147483647 : Int32)) % ((9 : Int32) - ((p2 &&& (2147483647 : Int32)) % (9 : Int32)))))), .val (.ref b22), .val (.ref T23.heap.size), .unset, .unset] [(.int ((p2 &&& (2147483647 : Int32)) % (9 : Int32))), (.long q1), (.int (4 : Int32)), (.ref T23.heap.size)])) rfl (by rw [hml]; rfl) (argsL := [(.ref T23.heap.size), (.int (4 : Int32)), (.long q1), (.int ((p2 &&& (2147483647 : Int32)) % (9 : Int32)))]) (rest := []) (lenOf pd_0_8 rfl) rfl (by show 2 * 0 + _ ≤ _; exact Nat.le_of_eq rfl) (hb hby at_211) (fun _ _ => ⟨rfl, rfl, (by decide : 3 + 0 ≤ _), (by decide : 20 + 0 ≤ _)⟩)
  dsimp only [Pt.U, Pt.locs, Pt.cells, Pt.slots] at X29 l29 y29 z29 st29 hQ29
  rw [l29, y29, z29] at X29
  obtain ⟨rfl, N29q, ek29⟩ := hQ29
  have KC29 : Keep T28.heap T29.heap [] := by rw [ek29]; exact Keep.refl _ _
  have Z29 : n0 ≤ T29.heap.size := by rw [ek29]; exact Z28
  have VR29 : Arv Z T29.heap T23.heap.size kR .byte ((((p2 &&& (2147483647 : Int32)) % (9 : Int32)) + ((p3 &&& (2147483647 : Int32)) % ((9 : Int32) - ((p2 &&& (2147483647 : Int32)) % (9 : Int32))))) - ((p2 &&& (2147483647 : Int32)) % (9 : Int32))) (cut (vs8 q1) ((p2 &&& (2147483647 : Int32)) % (9 : Int32)) (((p2 &&& (2147483647 : Int32)) % (9 : Int32)) + ((p3 &&& (2147483647 : Int32)) % ((9 : Int32) - ((p2 &&& (2147483647 : Int32)) % (9 : Int32)))))) (.int (0 : Int32)) := by rw [ek29]; exact VR28
  have N29 := Fr.app N28 N29q
  obtain ⟨_, _, ⟨T30, L30, k30, n30⟩, -, X30, ⟨Lc30, hQ30, l30, y30, z30⟩, st30⟩ := Jvm.LawKit.callS X29 hx (y := (⟨"com/example/ticketbridge/ticketbridge/io/DerContentPinLaw", "at", "([BIJI)Z"⟩ : MethodName)) hown (mvT hZ (hw _ (List.mem_of_getElem? (i := 51) rfl))) (mvT hZ (hw _ (List.mem_of_getElem? (i := 52) rfl))) (mvT hZ (hw _ (List.mem_of_getElem? (i := 3) rfl))) (mvT hZ (hw _ (List.mem_of_getElem? (i := 53) rfl))) (by decide) (backOf (W := 0) (rm10 l Z a0 hw [] T23.heap.size (5 : Int32) q1 ((p2 &&& (2147483647 : Int32)) % (9 : Int32)) kR ((((p2 &&& (2147483647 : Int32)) % (9 : Int32)) + ((p3 &&& (2147483647 : Int32)) % ((9 : Int32) - ((p2 &&& (2147483647 : Int32)) % (9 : Int32))))) - ((p2 &&& (2147483647 : Int32)) % (9 : Int32))) (cut (vs8 q1) ((p2 &&& (2147483647 : Int32)) % (9 : Int32)) (((p2 &&& (2147483647 : Int32)) % (9 : Int32)) + ((p3 &&& (2147483647 : Int32)) % ((9 : Int32) - ((p2 &&& (2147483647 : Int32)) % (9 : Int32)))))) T29.heap n0 Z29 VR29 (by decide) (own_at q1 ((p2 &&& (2147483647 : Int32)) % (9 : Int32)) (((p2 &&& (2147483647 : Int32)) % (9 : Int32)) + ((p3 &&& (2147483647 : Int32)) % ((9 : Int32) - ((p2 &&& (2147483647 : Int32)) % (9 : Int32))))) (5 : Int32) hs0 hs1 hs2 (by decide))) hZ (hw _ (List.mem_of_getElem? (i := 53) rfl)) (hw _ (List.mem_of_getElem? (i := 3) rfl)) (by decide) (by decide)) (g := (mkF m 223 #[.val (.long q1), .second, .val (.int p2), .val (.int p3), .val (.int p4), .val (.ref b5), .val (.int ((p2 &&& (2147483647 : Int32)) % (9 : Int32))), .val (.int (((p2 &&& (2147483647 : Int32)) % (9 : Int32)) + ((p3 &&& (2147483647 : Int32)) % ((9 : Int32) - ((p2 &&& (2147483647 : Int32)) % (9 : Int32)))))), .val (.ref b22), .val (.ref T23.heap.size), .unset, .unset] [(.int ((p2 &&& (2147483647 : Int32)) % (9 : Int32))), (.long q1), (.int (5 : Int32)), (.ref T23.heap.size)])) rfl (by rw [hml]; rfl) (argsL := [(.ref T23.heap.size), (.int (5 : Int32)), (.long q1), (.int ((p2 &&& (2147483647 : Int32)) % (9 : Int32)))]) (rest := []) (lenOf pd_0_8 rfl) rfl (by show 2 * 0 + _ ≤ _; exact Nat.le_of_eq rfl) (hb hby at_223) (fun _ _ => ⟨rfl, rfl, (by decide : 3 + 0 ≤ _), (by decide : 20 + 0 ≤ _)⟩)
  dsimp only [Pt.U, Pt.locs, Pt.cells, Pt.slots] at X30 l30 y30 z30 st30 hQ30
  rw [l30, y30, z30] at X30
  obtain ⟨rfl, N30q, ek30⟩ := hQ30
  have KC30 : Keep T29.heap T30.heap [] := by rw [ek30]; exact Keep.refl _ _
  have Z30 : n0 ≤ T30.heap.size := by rw [ek30]; exact Z29
  have VR30 : Arv Z T30.heap T23.heap.size kR .byte ((((p2 &&& (2147483647 : Int32)) % (9 : Int32)) + ((p3 &&& (2147483647 : Int32)) % ((9 : Int32) - ((p2 &&& (2147483647 : Int32)) % (9 : Int32))))) - ((p2 &&& (2147483647 : Int32)) % (9 : Int32))) (cut (vs8 q1) ((p2 &&& (2147483647 : Int32)) % (9 : Int32)) (((p2 &&& (2147483647 : Int32)) % (9 : Int32)) + ((p3 &&& (2147483647 : Int32)) % ((9 : Int32) - ((p2 &&& (2147483647 : Int32)) % (9 : Int32)))))) (.int (0 : Int32)) := by rw [ek30]; exact VR29
  have N30 := Fr.app N29 N30q
  obtain ⟨_, _, ⟨T31, L31, k31, n31⟩, -, X31, ⟨Lc31, hQ31, l31, y31, z31⟩, st31⟩ := Jvm.LawKit.callS X30 hx (y := (⟨"com/example/ticketbridge/ticketbridge/io/DerContentPinLaw", "at", "([BIJI)Z"⟩ : MethodName)) hown (mvT hZ (hw _ (List.mem_of_getElem? (i := 51) rfl))) (mvT hZ (hw _ (List.mem_of_getElem? (i := 52) rfl))) (mvT hZ (hw _ (List.mem_of_getElem? (i := 3) rfl))) (mvT hZ (hw _ (List.mem_of_getElem? (i := 53) rfl))) (by decide) (backOf (W := 0) (rm10 l Z a0 hw [] T23.heap.size (6 : Int32) q1 ((p2 &&& (2147483647 : Int32)) % (9 : Int32)) kR ((((p2 &&& (2147483647 : Int32)) % (9 : Int32)) + ((p3 &&& (2147483647 : Int32)) % ((9 : Int32) - ((p2 &&& (2147483647 : Int32)) % (9 : Int32))))) - ((p2 &&& (2147483647 : Int32)) % (9 : Int32))) (cut (vs8 q1) ((p2 &&& (2147483647 : Int32)) % (9 : Int32)) (((p2 &&& (2147483647 : Int32)) % (9 : Int32)) + ((p3 &&& (2147483647 : Int32)) % ((9 : Int32) - ((p2 &&& (2147483647 : Int32)) % (9 : Int32)))))) T30.heap n0 Z30 VR30 (by decide) (own_at q1 ((p2 &&& (2147483647 : Int32)) % (9 : Int32)) (((p2 &&& (2147483647 : Int32)) % (9 : Int32)) + ((p3 &&& (2147483647 : Int32)) % ((9 : Int32) - ((p2 &&& (2147483647 : Int32)) % (9 : Int32))))) (6 : Int32) hs0 hs1 hs2 (by decide))) hZ (hw _ (List.mem_of_getElem? (i := 53) rfl)) (hw _ (List.mem_of_getElem? (i := 3) rfl)) (by decide) (by decide)) (g := (mkF m 236 #[.val (.long q1), .second, .val (.int p2), .val (.int p3), .val (.int p4), .val (.ref b5), .val (.int ((p2 &&& (2147483647 : Int32)) % (9 : Int32))), .val (.int (((p2 &&& (2147483647 : Int32)) % (9 : Int32)) + ((p3 &&& (2147483647 : Int32)) % ((9 : Int32) - ((p2 &&& (2147483647 : Int32)) % (9 : Int32)))))), .val (.ref b22), .val (.ref T23.heap.size), .unset, .unset] [(.int ((p2 &&& (2147483647 : Int32)) % (9 : Int32))), (.long q1), (.int (6 : Int32)), (.ref T23.heap.size)])) rfl (by rw [hml]; rfl) (argsL := [(.ref T23.heap.size), (.int (6 : Int32)), (.long q1), (.int ((p2 &&& (2147483647 : Int32)) % (9 : Int32)))]) (rest := []) (lenOf pd_0_8 rfl) rfl (by show 2 * 0 + _ ≤ _; exact Nat.le_of_eq rfl) (hb hby at_236) (fun _ _ => ⟨rfl, rfl, (by decide : 3 + 0 ≤ _), (by decide : 20 + 0 ≤ _)⟩)
  dsimp only [Pt.U, Pt.locs, Pt.cells, Pt.slots] at X31 l31 y31 z31 st31 hQ31
  rw [l31, y31, z31] at X31
  obtain ⟨rfl, N31q, ek31⟩ := hQ31
  have KC31 : Keep T30.heap T31.heap [] := by rw [ek31]; exact Keep.refl _ _
  have Z31 : n0 ≤ T31.heap.size := by rw [ek31]; exact Z30
  have VR31 : Arv Z T31.heap T23.heap.size kR .byte ((((p2 &&& (2147483647 : Int32)) % (9 : Int32)) + ((p3 &&& (2147483647 : Int32)) % ((9 : Int32) - ((p2 &&& (2147483647 : Int32)) % (9 : Int32))))) - ((p2 &&& (2147483647 : Int32)) % (9 : Int32))) (cut (vs8 q1) ((p2 &&& (2147483647 : Int32)) % (9 : Int32)) (((p2 &&& (2147483647 : Int32)) % (9 : Int32)) + ((p3 &&& (2147483647 : Int32)) % ((9 : Int32) - ((p2 &&& (2147483647 : Int32)) % (9 : Int32)))))) (.int (0 : Int32)) := by rw [ek31]; exact VR30
  have N31 := Fr.app N30 N31q
  obtain ⟨_, _, ⟨T32, L32, k32, n32⟩, -, X32, ⟨Lc32, hQ32, l32, y32, z32⟩, st32⟩ := Jvm.LawKit.callS X31 hx (y := (⟨"com/example/ticketbridge/ticketbridge/io/DerContentPinLaw", "at", "([BIJI)Z"⟩ : MethodName)) hown (mvT hZ (hw _ (List.mem_of_getElem? (i := 51) rfl))) (mvT hZ (hw _ (List.mem_of_getElem? (i := 52) rfl))) (mvT hZ (hw _ (List.mem_of_getElem? (i := 3) rfl))) (mvT hZ (hw _ (List.mem_of_getElem? (i := 53) rfl))) (by decide) (backOf (W := 0) (rm10 l Z a0 hw [] T23.heap.size (7 : Int32) q1 ((p2 &&& (2147483647 : Int32)) % (9 : Int32)) kR ((((p2 &&& (2147483647 : Int32)) % (9 : Int32)) + ((p3 &&& (2147483647 : Int32)) % ((9 : Int32) - ((p2 &&& (2147483647 : Int32)) % (9 : Int32))))) - ((p2 &&& (2147483647 : Int32)) % (9 : Int32))) (cut (vs8 q1) ((p2 &&& (2147483647 : Int32)) % (9 : Int32)) (((p2 &&& (2147483647 : Int32)) % (9 : Int32)) + ((p3 &&& (2147483647 : Int32)) % ((9 : Int32) - ((p2 &&& (2147483647 : Int32)) % (9 : Int32)))))) T31.heap n0 Z31 VR31 (by decide) (own_at q1 ((p2 &&& (2147483647 : Int32)) % (9 : Int32)) (((p2 &&& (2147483647 : Int32)) % (9 : Int32)) + ((p3 &&& (2147483647 : Int32)) % ((9 : Int32) - ((p2 &&& (2147483647 : Int32)) % (9 : Int32))))) (7 : Int32) hs0 hs1 hs2 (by decide))) hZ (hw _ (List.mem_of_getElem? (i := 53) rfl)) (hw _ (List.mem_of_getElem? (i := 3) rfl)) (by decide) (by decide)) (g := (mkF m 249 #[.val (.long q1), .second, .val (.int p2), .val (.int p3), .val (.int p4), .val (.ref b5), .val (.int ((p2 &&& (2147483647 : Int32)) % (9 : Int32))), .val (.int (((p2 &&& (2147483647 : Int32)) % (9 : Int32)) + ((p3 &&& (2147483647 : Int32)) % ((9 : Int32) - ((p2 &&& (2147483647 : Int32)) % (9 : Int32)))))), .val (.ref b22), .val (.ref T23.heap.size), .unset, .unset] [(.int ((p2 &&& (2147483647 : Int32)) % (9 : Int32))), (.long q1), (.int (7 : Int32)), (.ref T23.heap.size)])) rfl (by rw [hml]; rfl) (argsL := [(.ref T23.heap.size), (.int (7 : Int32)), (.long q1), (.int ((p2 &&& (2147483647 : Int32)) % (9 : Int32)))]) (rest := []) (lenOf pd_0_8 rfl) rfl (by show 2 * 0 + _ ≤ _; exact Nat.le_of_eq rfl) (hb hby at_249) (fun _ _ => ⟨rfl, rfl, (by decide : 3 + 0 ≤ _), (by decide : 20 + 0 ≤ _)⟩)
  dsimp only [Pt.U, Pt.locs, Pt.cells, Pt.slots] at X32 l32 y32 z32 st32 hQ32
  rw [l32, y32, z32] at X32
  obtain ⟨rfl, N32q, ek32⟩ := hQ32
  have KC32 : Keep T31.heap T32.heap [] := by rw [ek32]; exact Keep.refl _ _
  have Z32 : n0 ≤ T32.heap.size := by rw [ek32]; exact Z31
  have VR32 : Arv Z T32.heap T23.heap.size kR .byte ((((p2 &&& (2147483647 : Int32)) % (9 : Int32)) + ((p3 &&& (2147483647 : Int32)) % ((9 : Int32) - ((p2 &&& (2147483647 : Int32)) % (9 : Int32))))) - ((p2 &&& (2147483647 : Int32)) % (9 : Int32))) (cut (vs8 q1) ((p2 &&& (2147483647 : Int32)) % (9 : Int32)) (((p2 &&& (2147483647 : Int32)) % (9 : Int32)) + ((p3 &&& (2147483647 : Int32)) % ((9 : Int32) - ((p2 &&& (2147483647 : Int32)) % (9 : Int32)))))) (.int (0 : Int32)) := by rw [ek32]; exact VR31
  have N32 := Fr.app N31 N32q
  have Ar_r_32 : Arr Z T32.heap T23.heap.size cl_r .byte := by
    rw [ek32, ek31, ek30, ek29, ek28, ek27, ek26, ek25]; exact Ar_r_24
  have ltr : T23.heap.size < T32.heap.size := VR32.lt
  have neR : b5 ≠ T23.heap.size := Nat.ne_of_lt VB23.lt
  have neD : b22 ≠ T23.heap.size := Nat.ne_of_lt E23.lt
  have g_r : n0 ≤ T23.heap.size := Z23
  have hin281 : ¬ ((0 : Int32) < 0 ∨ cl_r.slots.size ≤ ((0 : Int32)).toNatClampNeg) := inb_of S_r ⟨by decide, hlen⟩
  have hat281 : cl_r.slots[((0 : Int32)).toNatClampNeg]? = some (.int (bA q1 ((p2 &&& (2147483647 : Int32)) % (9 : Int32)))) := H_r.at hin281 (own_at0 q1 ((p2 &&& (2147483647 : Int32)) % (9 : Int32)) (((p2 &&& (2147483647 : Int32)) % (9 : Int32)) + ((p3 &&& (2147483647 : Int32)) % ((9 : Int32) - ((p2 &&& (2147483647 : Int32)) % (9 : Int32))))) hs0 hs1 hs2 hlen)
  have hin285 := hin281
  have KC2432 : Keep T24.heap T32.heap [] := by
    rw [ek32, ek31, ek30, ek29, ek28, ek27, ek26, ek25]; exact Keep.refl _ _
  have VB32 : Arv Z T32.heap b5 k5 .byte (8 : Int32) (vs8 q1) (.int (0 : Int32)) := (VB23.keep KC24 nin0).keep KC2432 nin0
  have EXB32 : Exa Z T32.heap b5 "[B" := (EXB23.keep KC24).keep KC2432
  have FS32 := (FS23.keep KC24 nin0).keep KC2432 nin0
  have FB32 := (FB23.keep KC24 nin0).keep KC2432 nin0
  have FE32 := (FE23.keep KC24 nin0).keep KC2432 nin0
  obtain ⟨T34, h34, X34, e34, W34, st34⟩ := stB X32 hx hZ rfl Ar_r_32 (j := (0 : Int32)) hin285 (g := (mkF m 285 #[.val (.long q1), .second, .val (.int p2), .val (.int p3), .val (.int p4), .val (.ref b5), .val (.int ((p2 &&& (2147483647 : Int32)) % (9 : Int32))), .val (.int (((p2 &&& (2147483647 : Int32)) % (9 : Int32)) + ((p3 &&& (2147483647 : Int32)) % ((9 : Int32) - ((p2 &&& (2147483647 : Int32)) % (9 : Int32)))))), .val (.ref b22), .val (.ref T23.heap.size), .val (.int (1 : Int32)), .unset] [(.int (((bA q1 ((p2 &&& (2147483647 : Int32)) % (9 : Int32))) ^^^ (1 : Int32)).toInt8.toInt32)), (.int (0 : Int32)), (.ref T23.heap.size)])) rfl rfl (hb hby at_285)
  have N34 := Fr.snoc X34 N32 g_r
  have VB34 : Arv Z h34 b5 k5 .byte (8 : Int32) (vs8 q1) (.int (0 : Int32)) := VB32.other W34 neR
  have Z34 : n0 ≤ h34.size := by rw [W34.size]; exact Z32
  obtain ⟨cl_b5_290, Ar_b5, q_b5, S_b5, N_b5, H_b5, G_b5⟩ := id VB34
  have hlt8 : ((p2 &&& (2147483647 : Int32)) % (9 : Int32)).toInt < 8 := by
    have q := own_sub hs0 hs1 hs2
    have r := hlen
    rw [Int32.lt_iff_toInt_lt, own_zero, q] at r
    omega
  have hin290 : ¬ (((p2 &&& (2147483647 : Int32)) % (9 : Int32)) < 0 ∨ cl_b5_290.slots.size ≤ (((p2 &&& (2147483647 : Int32)) % (9 : Int32))).toNatClampNeg) := inb_of S_b5 ⟨by rw [Int32.lt_iff_toInt_lt, own_zero]; omega, by rw [Int32.lt_iff_toInt_lt, own_eight]; exact hlt8⟩
  have hat290 : cl_b5_290.slots[(((p2 &&& (2147483647 : Int32)) % (9 : Int32))).toNatClampNeg]? = some (.int (bA q1 ((p2 &&& (2147483647 : Int32)) % (9 : Int32)))) := H_b5.at hin290 (own_src q1 ((p2 &&& (2147483647 : Int32)) % (9 : Int32)) hs0 hlt8)
  obtain ⟨_, _, ⟨T36, L36, k36, n36⟩, -, X36, ⟨Lc36, hQ36, l36, y36, z36⟩, st36⟩ := Jvm.LawKit.callS X34 hx (y := (⟨"com/example/ticketbridge/ticketbridge/io/DerContentPinLaw", "byteAt", "(JI)B"⟩ : MethodName)) hown (mvT hZ (hw _ (List.mem_of_getElem? (i := 1) rfl))) (mvT hZ (hw _ (List.mem_of_getElem? (i := 2) rfl))) (mvT hZ (hw _ (List.mem_of_getElem? (i := 3) rfl))) (mvT hZ (hw _ (List.mem_of_getElem? (i := 4) rfl))) (by decide) (backOf (W := 1) (rm1 l Z a0 hw [] q1 ((p2 &&& (2147483647 : Int32)) % (9 : Int32)) h34 n0 Z34) hZ (hw _ (List.mem_of_getElem? (i := 4) rfl)) (hw _ (List.mem_of_getElem? (i := 3) rfl)) (by decide) (by decide)) (g := (mkF m 294 #[.val (.long q1), .second, .val (.int p2), .val (.int p3), .val (.int p4), .val (.ref b5), .val (.int ((p2 &&& (2147483647 : Int32)) % (9 : Int32))), .val (.int (((p2 &&& (2147483647 : Int32)) % (9 : Int32)) + ((p3 &&& (2147483647 : Int32)) % ((9 : Int32) - ((p2 &&& (2147483647 : Int32)) % (9 : Int32)))))), .val (.ref b22), .val (.ref T23.heap.size), .val (.int (1 : Int32)), .unset] [(.int ((p2 &&& (2147483647 : Int32)) % (9 : Int32))), (.long q1), (.int (bA q1 ((p2 &&& (2147483647 : Int32)) % (9 : Int32))))])) rfl (by rw [hml]; rfl) (argsL := [(.long q1), (.int ((p2 &&& (2147483647 : Int32)) % (9 : Int32)))]) (rest := [(.int (bA q1 ((p2 &&& (2147483647 : Int32)) % (9 : Int32))))]) (lenOf pd_0_0 rfl) rfl (by show 2 * 0 + _ ≤ _; exact Nat.le_of_eq rfl) (hb hby at_294) (fun _ _ => ⟨rfl, e34, (by decide : 3 + 0 ≤ _), (by decide : 20 + 0 ≤ _)⟩)
  dsimp only [Pt.U, Pt.locs, Pt.cells, Pt.slots] at X36 l36 y36 z36 st36 hQ36
  rw [l36, y36, z36] at X36
  obtain ⟨rfl, N36q, ek36⟩ := hQ36
  have KC36 : Keep h34 T36.heap [] := by rw [ek36]; exact Keep.refl _ _
  have Z36 : n0 ≤ T36.heap.size := by rw [ek36]; exact Z34
  have VB36 : Arv Z T36.heap b5 k5 .byte (8 : Int32) (vs8 q1) (.int (0 : Int32)) := VB34.keep KC36 nin0
  have EXB36 : Exa Z T36.heap b5 "[B" := (EXB32.wr W34).keep KC36
  have FS36 := (FS32.other W34 (Or.inl neD)).keep KC36 nin0
  have FB36 := (FB32.other W34 (Or.inl neD)).keep KC36 nin0
  have FE36 := (FE32.other W34 (Or.inl neD)).keep KC36 nin0
  have N36 := Fr.app N34 N36q
  obtain ⟨cq37, kq37, q37a, q37b, q37c⟩ := isOf hZ rfl ((((((((((((E_b22.keep KC23).keep KC24).keep KC25).keep KC26).keep KC27).keep KC28).keep KC29).keep KC30).keep KC31).keep KC32).wr W34).keep KC36)
  obtain ⟨_, _, ⟨T37, L37, k37, n37⟩, -, X37, ⟨Lc37, hQ37, l37, y37, z37⟩, st37⟩ := X36.virtualBack hx (y := (⟨"com/example/ticketbridge/ticketbridge/io/Der", "content", "()[B"⟩ : MethodName)) (z := (⟨"com/example/ticketbridge/ticketbridge/io/Der", "content", "()[B"⟩ : MethodName)) hown (mvT hZ (hw _ (List.mem_of_getElem? (i := 28) rfl))) (mvT hZ (hw _ (List.mem_of_getElem? (i := 29) rfl))) (notFace_of_selects (args := #[]) (mvT hZ (hw _ (List.mem_of_getElem? (i := 31) rfl)))) (mvT hZ (hw _ (List.mem_of_getElem? (i := 31) rfl))) (mvT hZ (hw _ (List.mem_of_getElem? (i := 30) rfl))) (by decide) (backOf (W := 0) (rm5 l Z a0 hw [] b22 b5 ((p2 &&& (2147483647 : Int32)) % (9 : Int32)) (((p2 &&& (2147483647 : Int32)) % (9 : Int32)) + ((p3 &&& (2147483647 : Int32)) % ((9 : Int32) - ((p2 &&& (2147483647 : Int32)) % (9 : Int32))))) k5 (vs8 q1) T36.heap n0 Z36 FS36 FB36 FE36 EXB36 rfl VB36 hs0 hs1 hs2) hZ (hw _ (List.mem_of_getElem? (i := 32) rfl)) (hw _ (List.mem_of_getElem? (i := 8) rfl)) (by decide) (by decide)) q37a q37c (g := (mkF m 304 #[.val (.long q1), .second, .val (.int p2), .val (.int p3), .val (.int p4), .val (.ref b5), .val (.int ((p2 &&& (2147483647 : Int32)) % (9 : Int32))), .val (.int (((p2 &&& (2147483647 : Int32)) % (9 : Int32)) + ((p3 &&& (2147483647 : Int32)) % ((9 : Int32) - ((p2 &&& (2147483647 : Int32)) % (9 : Int32)))))), .val (.ref b22), .val (.ref T23.heap.size), .val (.int (1 : Int32)), .unset] [(.ref b22)])) rfl (by rw [hml]; rfl) (Steps.refl _) (argsL := []) (rest := []) (lenOf pd_0_3 rfl) rfl (by show 2 * 0 + _ ≤ _; exact Nat.le_of_eq rfl) (hb hby at_304) (fun _ _ => ⟨rfl, rfl, (by decide : 3 + 1 ≤ _), (by decide : 20 + 8 ≤ _)⟩)
  dsimp only [Pt.U, Pt.locs, Pt.cells, Pt.slots] at X37 l37 y37 z37 st37 hQ37
  rw [l37, y37, z37] at X37
  obtain ⟨rfl, N37q, KC37, kS, VR37⟩ := hQ37
  have Z37 : n0 ≤ T37.heap.size := Nat.le_trans Z36 KC37.1
  have ha318 : ¬ (T36.heap.size = T23.heap.size) := fun q => by
    rw [ek36, W34.size] at q; omega
  obtain ⟨cl_s, Ar_s, q_s, S_s, N_s, H_s, G_s⟩ := id VR37
  have hin335 : ¬ ((0 : Int32) < 0 ∨ cl_s.slots.size ≤ ((0 : Int32)).toNatClampNeg) := inb_of S_s ⟨by decide, hlen⟩
  have hat335 : cl_s.slots[((0 : Int32)).toNatClampNeg]? = some (.int (bA q1 ((p2 &&& (2147483647 : Int32)) % (9 : Int32)))) := H_s.at hin335 (own_at0 q1 ((p2 &&& (2147483647 : Int32)) % (9 : Int32)) (((p2 &&& (2147483647 : Int32)) % (9 : Int32)) + ((p3 &&& (2147483647 : Int32)) % ((9 : Int32) - ((p2 &&& (2147483647 : Int32)) % (9 : Int32))))) hs0 hs1 hs2 hlen)
  have N37 := Fr.app N36 N37q
  obtain ⟨_, _, ⟨T39, L39, k39, n39⟩, -, X39, ⟨Lc39, hQ39, l39, y39, z39⟩, st39⟩ := Jvm.LawKit.callS X37 hx (y := (⟨"com/example/ticketbridge/ticketbridge/io/DerContentPinLaw", "byteAt", "(JI)B"⟩ : MethodName)) hown (mvT hZ (hw _ (List.mem_of_getElem? (i := 1) rfl))) (mvT hZ (hw _ (List.mem_of_getElem? (i := 2) rfl))) (mvT hZ (hw _ (List.mem_of_getElem? (i := 3) rfl))) (mvT hZ (hw _ (List.mem_of_getElem? (i := 4) rfl))) (by decide) (backOf (W := 1) (rm1 l Z a0 hw [] q1 ((p2 &&& (2147483647 : Int32)) % (9 : Int32)) T37.heap n0 Z37) hZ (hw _ (List.mem_of_getElem? (i := 4) rfl)) (hw _ (List.mem_of_getElem? (i := 3) rfl)) (by decide) (by decide)) (g := (mkF m 339 #[.val (.long q1), .second, .val (.int p2), .val (.int p3), .val (.int p4), .val (.ref b5), .val (.int ((p2 &&& (2147483647 : Int32)) % (9 : Int32))), .val (.int (((p2 &&& (2147483647 : Int32)) % (9 : Int32)) + ((p3 &&& (2147483647 : Int32)) % ((9 : Int32) - ((p2 &&& (2147483647 : Int32)) % (9 : Int32)))))), .val (.ref b22), .val (.ref T23.heap.size), .val (.int (1 : Int32)), .val (.ref T36.heap.size)] [(.int ((p2 &&& (2147483647 : Int32)) % (9 : Int32))), (.long q1), (.int (bA q1 ((p2 &&& (2147483647 : Int32)) % (9 : Int32))))])) rfl (by rw [hml]; rfl) (argsL := [(.long q1), (.int ((p2 &&& (2147483647 : Int32)) % (9 : Int32)))]) (rest := [(.int (bA q1 ((p2 &&& (2147483647 : Int32)) % (9 : Int32))))]) (lenOf pd_0_0 rfl) rfl (by show 2 * 0 + _ ≤ _; exact Nat.le_of_eq rfl) (hb hby at_339) (fun _ _ => ⟨rfl, rfl, (by decide : 4 + 0 ≤ _), (by decide : 28 + 0 ≤ _)⟩)
  dsimp only [Pt.U, Pt.locs, Pt.cells, Pt.slots] at X39 l39 y39 z39 st39 hQ39
  rw [l39, y39, z39] at X39
  obtain ⟨rfl, N39q, ek39⟩ := hQ39
  have N39 := Fr.app N37 N39q
  obtain ⟨fs, hr, hrun, hended, hW, hsame⟩ := X39.leave (v := some (.int (1 : Int32))) (fun h => by rw [Bd.returns] at h; cases h)
  refine ⟨_, _, pre0 _ ?_, hrun, hended, _, _, rfl, ?_, ⟨_, rfl⟩, hW, hsame.mono (by decide) (by decide)⟩
  · show Steps p.tables e below (s₁.setTop (mkF m 0 #[.val (.long q1), .second, .val (.int p2), .val (.int p3), .val (.int p4), .unset, .unset, .unset, .unset, .unset, .unset, .unset] [])) _
    refine XS.bipush X0.here hx rfl (hb hby at_0) ?_
    show Steps p.tables e below (s₁.setTop (mkF m 2 #[.val (.long q1), .second, .val (.int p2), .val (.int p3), .val (.int p4), .unset, .unset, .unset, .unset, .unset, .unset, .unset] [(.int (8 : Int32))])) _
    refine st5 _ ?_
    show Steps p.tables e below (T5.setTop (mkF m 4 #[.val (.long q1), .second, .val (.int p2), .val (.int p3), .val (.int p4), .unset, .unset, .unset, .unset, .unset, .unset, .unset] [(.ref b5)])) _
    refine XS.astore X5.here hx rfl (hb hby at_4) rfl rfl (l' := #[.val (.long q1), .second, .val (.int p2), .val (.int p3), .val (.int p4), .val (.ref b5), .unset, .unset, .unset, .unset, .unset, .unset]) rfl ?_
    show Steps p.tables e below (T5.setTop (mkF m 6 #[.val (.long q1), .second, .val (.int p2), .val (.int p3), .val (.int p4), .val (.ref b5), .unset, .unset, .unset, .unset, .unset, .unset] [])) _
    refine XS.aload X5.here hx rfl (hb hby at_6) rfl rfl ?_
    show Steps p.tables e below (T5.setTop (mkF m 8 #[.val (.long q1), .second, .val (.int p2), .val (.int p3), .val (.int p4), .val (.ref b5), .unset, .unset, .unset, .unset, .unset, .unset] [(.ref b5)])) _
    refine XS.iconst X5.here hx rfl (hb hby at_8) ?_
    show Steps p.tables e below (T5.setTop (mkF m 9 #[.val (.long q1), .second, .val (.int p2), .val (.int p3), .val (.int p4), .val (.ref b5), .unset, .unset, .unset, .unset, .unset, .unset] [(.int (0 : Int32)), (.ref b5)])) _
    refine XS.lloadN X5.here hx rfl (hb hby at_9) rfl ?_
    show Steps p.tables e below (T5.setTop (mkF m 10 #[.val (.long q1), .second, .val (.int p2), .val (.int p3), .val (.int p4), .val (.ref b5), .unset, .unset, .unset, .unset, .unset, .unset] [(.long q1), (.int (0 : Int32)), (.ref b5)])) _
    refine XS.iconst X5.here hx rfl (hb hby at_10) ?_
    show Steps p.tables e below (T5.setTop (mkF m 11 #[.val (.long q1), .second, .val (.int p2), .val (.int p3), .val (.int p4), .val (.ref b5), .unset, .unset, .unset, .unset, .unset, .unset] [(.int (0 : Int32)), (.long q1), (.int (0 : Int32)), (.ref b5)])) _
    refine st6 _ ?_
    show Steps p.tables e below (T6.setTop (mkF m 14 #[.val (.long q1), .second, .val (.int p2), .val (.int p3), .val (.int p4), .val (.ref b5), .unset, .unset, .unset, .unset, .unset, .unset] [(.int (bA q1 (0 : Int32))), (.int (0 : Int32)), (.ref b5)])) _
    refine st7 _ ?_
    show Steps p.tables e below (T7.setTop (mkF m 15 #[.val (.long q1), .second, .val (.int p2), .val (.int p3), .val (.int p4), .val (.ref b5), .unset, .unset, .unset, .unset, .unset, .unset] [])) _
    refine XS.aload X7.here hx rfl (hb hby at_15) rfl rfl ?_
    show Steps p.tables e below (T7.setTop (mkF m 17 #[.val (.long q1), .second, .val (.int p2), .val (.int p3), .val (.int p4), .val (.ref b5), .unset, .unset, .unset, .unset, .unset, .unset] [(.ref b5)])) _
    refine XS.iconst X7.here hx rfl (hb hby at_17) ?_
    show Steps p.tables e below (T7.setTop (mkF m 18 #[.val (.long q1), .second, .val (.int p2), .val (.int p3), .val (.int p4), .val (.ref b5), .unset, .unset, .unset, .unset, .unset, .unset] [(.int (1 : Int32)), (.ref b5)])) _
    refine XS.lloadN X7.here hx rfl (hb hby at_18) rfl ?_
    show Steps p.tables e below (T7.setTop (mkF m 19 #[.val (.long q1), .second, .val (.int p2), .val (.int p3), .val (.int p4), .val (.ref b5), .unset, .unset, .unset, .unset, .unset, .unset] [(.long q1), (.int (1 : Int32)), (.ref b5)])) _
    refine XS.iconst X7.here hx rfl (hb hby at_19) ?_
    show Steps p.tables e below (T7.setTop (mkF m 20 #[.val (.long q1), .second, .val (.int p2), .val (.int p3), .val (.int p4), .val (.ref b5), .unset, .unset, .unset, .unset, .unset, .unset] [(.int (1 : Int32)), (.long q1), (.int (1 : Int32)), (.ref b5)])) _
    refine st8 _ ?_
    show Steps p.tables e below (T8.setTop (mkF m 23 #[.val (.long q1), .second, .val (.int p2), .val (.int p3), .val (.int p4), .val (.ref b5), .unset, .unset, .unset, .unset, .unset, .unset] [(.int (bA q1 (1 : Int32))), (.int (1 : Int32)), (.ref b5)])) _
    refine st9 _ ?_
    show Steps p.tables e below (T9.setTop (mkF m 24 #[.val (.long q1), .second, .val (.int p2), .val (.int p3), .val (.int p4), .val (.ref b5), .unset, .unset, .unset, .unset, .unset, .unset] [])) _
    refine XS.aload X9.here hx rfl (hb hby at_24) rfl rfl ?_
    show Steps p.tables e below (T9.setTop (mkF m 26 #[.val (.long q1), .second, .val (.int p2), .val (.int p3), .val (.int p4), .val (.ref b5), .unset, .unset, .unset, .unset, .unset, .unset] [(.ref b5)])) _
    refine XS.iconst X9.here hx rfl (hb hby at_26) ?_
    show Steps p.tables e below (T9.setTop (mkF m 27 #[.val (.long q1), .second, .val (.int p2), .val (.int p3), .val (.int p4), .val (.ref b5), .unset, .unset, .unset, .unset, .unset, .unset] [(.int (2 : Int32)), (.ref b5)])) _
    refine XS.lloadN X9.here hx rfl (hb hby at_27) rfl ?_
    show Steps p.tables e below (T9.setTop (mkF m 28 #[.val (.long q1), .second, .val (.int p2), .val (.int p3), .val (.int p4), .val (.ref b5), .unset, .unset, .unset, .unset, .unset, .unset] [(.long q1), (.int (2 : Int32)), (.ref b5)])) _
    refine XS.iconst X9.here hx rfl (hb hby at_28) ?_
    show Steps p.tables e below (T9.setTop (mkF m 29 #[.val (.long q1), .second, .val (.int p2), .val (.int p3), .val (.int p4), .val (.ref b5), .unset, .unset, .unset, .unset, .unset, .unset] [(.int (2 : Int32)), (.long q1), (.int (2 : Int32)), (.ref b5)])) _
    refine st10 _ ?_
    show Steps p.tables e below (T10.setTop (mkF m 32 #[.val (.long q1), .second, .val (.int p2), .val (.int p3), .val (.int p4), .val (.ref b5), .unset, .unset, .unset, .unset, .unset, .unset] [(.int (bA q1 (2 : Int32))), (.int (2 : Int32)), (.ref b5)])) _
    refine st11 _ ?_
    show Steps p.tables e below (T11.setTop (mkF m 33 #[.val (.long q1), .second, .val (.int p2), .val (.int p3), .val (.int p4), .val (.ref b5), .unset, .unset, .unset, .unset, .unset, .unset] [])) _
    refine XS.aload X11.here hx rfl (hb hby at_33) rfl rfl ?_
    show Steps p.tables e below (T11.setTop (mkF m 35 #[.val (.long q1), .second, .val (.int p2), .val (.int p3), .val (.int p4), .val (.ref b5), .unset, .unset, .unset, .unset, .unset, .unset] [(.ref b5)])) _
    refine XS.iconst X11.here hx rfl (hb hby at_35) ?_
    show Steps p.tables e below (T11.setTop (mkF m 36 #[.val (.long q1), .second, .val (.int p2), .val (.int p3), .val (.int p4), .val (.ref b5), .unset, .unset, .unset, .unset, .unset, .unset] [(.int (3 : Int32)), (.ref b5)])) _
    refine XS.lloadN X11.here hx rfl (hb hby at_36) rfl ?_
    show Steps p.tables e below (T11.setTop (mkF m 37 #[.val (.long q1), .second, .val (.int p2), .val (.int p3), .val (.int p4), .val (.ref b5), .unset, .unset, .unset, .unset, .unset, .unset] [(.long q1), (.int (3 : Int32)), (.ref b5)])) _
    refine XS.iconst X11.here hx rfl (hb hby at_37) ?_
    show Steps p.tables e below (T11.setTop (mkF m 38 #[.val (.long q1), .second, .val (.int p2), .val (.int p3), .val (.int p4), .val (.ref b5), .unset, .unset, .unset, .unset, .unset, .unset] [(.int (3 : Int32)), (.long q1), (.int (3 : Int32)), (.ref b5)])) _
    refine st12 _ ?_
    show Steps p.tables e below (T12.setTop (mkF m 41 #[.val (.long q1), .second, .val (.int p2), .val (.int p3), .val (.int p4), .val (.ref b5), .unset, .unset, .unset, .unset, .unset, .unset] [(.int (bA q1 (3 : Int32))), (.int (3 : Int32)), (.ref b5)])) _
    refine st13 _ ?_
    show Steps p.tables e below (T13.setTop (mkF m 42 #[.val (.long q1), .second, .val (.int p2), .val (.int p3), .val (.int p4), .val (.ref b5), .unset, .unset, .unset, .unset, .unset, .unset] [])) _
    refine XS.aload X13.here hx rfl (hb hby at_42) rfl rfl ?_
    show Steps p.tables e below (T13.setTop (mkF m 44 #[.val (.long q1), .second, .val (.int p2), .val (.int p3), .val (.int p4), .val (.ref b5), .unset, .unset, .unset, .unset, .unset, .unset] [(.ref b5)])) _
    refine XS.iconst X13.here hx rfl (hb hby at_44) ?_
    show Steps p.tables e below (T13.setTop (mkF m 45 #[.val (.long q1), .second, .val (.int p2), .val (.int p3), .val (.int p4), .val (.ref b5), .unset, .unset, .unset, .unset, .unset, .unset] [(.int (4 : Int32)), (.ref b5)])) _
    refine XS.lloadN X13.here hx rfl (hb hby at_45) rfl ?_
    show Steps p.tables e below (T13.setTop (mkF m 46 #[.val (.long q1), .second, .val (.int p2), .val (.int p3), .val (.int p4), .val (.ref b5), .unset, .unset, .unset, .unset, .unset, .unset] [(.long q1), (.int (4 : Int32)), (.ref b5)])) _
    refine XS.iconst X13.here hx rfl (hb hby at_46) ?_
    show Steps p.tables e below (T13.setTop (mkF m 47 #[.val (.long q1), .second, .val (.int p2), .val (.int p3), .val (.int p4), .val (.ref b5), .unset, .unset, .unset, .unset, .unset, .unset] [(.int (4 : Int32)), (.long q1), (.int (4 : Int32)), (.ref b5)])) _
    refine st14 _ ?_
    show Steps p.tables e below (T14.setTop (mkF m 50 #[.val (.long q1), .second, .val (.int p2), .val (.int p3), .val (.int p4), .val (.ref b5), .unset, .unset, .unset, .unset, .unset, .unset] [(.int (bA q1 (4 : Int32))), (.int (4 : Int32)), (.ref b5)])) _
    refine st15 _ ?_
    show Steps p.tables e below (T15.setTop (mkF m 51 #[.val (.long q1), .second, .val (.int p2), .val (.int p3), .val (.int p4), .val (.ref b5), .unset, .unset, .unset, .unset, .unset, .unset] [])) _
    refine XS.aload X15.here hx rfl (hb hby at_51) rfl rfl ?_
    show Steps p.tables e below (T15.setTop (mkF m 53 #[.val (.long q1), .second, .val (.int p2), .val (.int p3), .val (.int p4), .val (.ref b5), .unset, .unset, .unset, .unset, .unset, .unset] [(.ref b5)])) _
    refine XS.iconst X15.here hx rfl (hb hby at_53) ?_
    show Steps p.tables e below (T15.setTop (mkF m 54 #[.val (.long q1), .second, .val (.int p2), .val (.int p3), .val (.int p4), .val (.ref b5), .unset, .unset, .unset, .unset, .unset, .unset] [(.int (5 : Int32)), (.ref b5)])) _
    refine XS.lloadN X15.here hx rfl (hb hby at_54) rfl ?_
    show Steps p.tables e below (T15.setTop (mkF m 55 #[.val (.long q1), .second, .val (.int p2), .val (.int p3), .val (.int p4), .val (.ref b5), .unset, .unset, .unset, .unset, .unset, .unset] [(.long q1), (.int (5 : Int32)), (.ref b5)])) _
    refine XS.iconst X15.here hx rfl (hb hby at_55) ?_
    show Steps p.tables e below (T15.setTop (mkF m 56 #[.val (.long q1), .second, .val (.int p2), .val (.int p3), .val (.int p4), .val (.ref b5), .unset, .unset, .unset, .unset, .unset, .unset] [(.int (5 : Int32)), (.long q1), (.int (5 : Int32)), (.ref b5)])) _
    refine st16 _ ?_
    show Steps p.tables e below (T16.setTop (mkF m 59 #[.val (.long q1), .second, .val (.int p2), .val (.int p3), .val (.int p4), .val (.ref b5), .unset, .unset, .unset, .unset, .unset, .unset] [(.int (bA q1 (5 : Int32))), (.int (5 : Int32)), (.ref b5)])) _
    refine st17 _ ?_
    show Steps p.tables e below (T17.setTop (mkF m 60 #[.val (.long q1), .second, .val (.int p2), .val (.int p3), .val (.int p4), .val (.ref b5), .unset, .unset, .unset, .unset, .unset, .unset] [])) _
    refine XS.aload X17.here hx rfl (hb hby at_60) rfl rfl ?_
    show Steps p.tables e below (T17.setTop (mkF m 62 #[.val (.long q1), .second, .val (.int p2), .val (.int p3), .val (.int p4), .val (.ref b5), .unset, .unset, .unset, .unset, .unset, .unset] [(.ref b5)])) _
    refine XS.bipush X17.here hx rfl (hb hby at_62) ?_
    show Steps p.tables e below (T17.setTop (mkF m 64 #[.val (.long q1), .second, .val (.int p2), .val (.int p3), .val (.int p4), .val (.ref b5), .unset, .unset, .unset, .unset, .unset, .unset] [(.int (6 : Int32)), (.ref b5)])) _
    refine XS.lloadN X17.here hx rfl (hb hby at_64) rfl ?_
    show Steps p.tables e below (T17.setTop (mkF m 65 #[.val (.long q1), .second, .val (.int p2), .val (.int p3), .val (.int p4), .val (.ref b5), .unset, .unset, .unset, .unset, .unset, .unset] [(.long q1), (.int (6 : Int32)), (.ref b5)])) _
    refine XS.bipush X17.here hx rfl (hb hby at_65) ?_
    show Steps p.tables e below (T17.setTop (mkF m 67 #[.val (.long q1), .second, .val (.int p2), .val (.int p3), .val (.int p4), .val (.ref b5), .unset, .unset, .unset, .unset, .unset, .unset] [(.int (6 : Int32)), (.long q1), (.int (6 : Int32)), (.ref b5)])) _
    refine st18 _ ?_
    show Steps p.tables e below (T18.setTop (mkF m 70 #[.val (.long q1), .second, .val (.int p2), .val (.int p3), .val (.int p4), .val (.ref b5), .unset, .unset, .unset, .unset, .unset, .unset] [(.int (bA q1 (6 : Int32))), (.int (6 : Int32)), (.ref b5)])) _
    refine st19 _ ?_
    show Steps p.tables e below (T19.setTop (mkF m 71 #[.val (.long q1), .second, .val (.int p2), .val (.int p3), .val (.int p4), .val (.ref b5), .unset, .unset, .unset, .unset, .unset, .unset] [])) _
    refine XS.aload X19.here hx rfl (hb hby at_71) rfl rfl ?_
    show Steps p.tables e below (T19.setTop (mkF m 73 #[.val (.long q1), .second, .val (.int p2), .val (.int p3), .val (.int p4), .val (.ref b5), .unset, .unset, .unset, .unset, .unset, .unset] [(.ref b5)])) _
    refine XS.bipush X19.here hx rfl (hb hby at_73) ?_
    show Steps p.tables e below (T19.setTop (mkF m 75 #[.val (.long q1), .second, .val (.int p2), .val (.int p3), .val (.int p4), .val (.ref b5), .unset, .unset, .unset, .unset, .unset, .unset] [(.int (7 : Int32)), (.ref b5)])) _
    refine XS.lloadN X19.here hx rfl (hb hby at_75) rfl ?_
    show Steps p.tables e below (T19.setTop (mkF m 76 #[.val (.long q1), .second, .val (.int p2), .val (.int p3), .val (.int p4), .val (.ref b5), .unset, .unset, .unset, .unset, .unset, .unset] [(.long q1), (.int (7 : Int32)), (.ref b5)])) _
    refine XS.bipush X19.here hx rfl (hb hby at_76) ?_
    show Steps p.tables e below (T19.setTop (mkF m 78 #[.val (.long q1), .second, .val (.int p2), .val (.int p3), .val (.int p4), .val (.ref b5), .unset, .unset, .unset, .unset, .unset, .unset] [(.int (7 : Int32)), (.long q1), (.int (7 : Int32)), (.ref b5)])) _
    refine st20 _ ?_
    show Steps p.tables e below (T20.setTop (mkF m 81 #[.val (.long q1), .second, .val (.int p2), .val (.int p3), .val (.int p4), .val (.ref b5), .unset, .unset, .unset, .unset, .unset, .unset] [(.int (bA q1 (7 : Int32))), (.int (7 : Int32)), (.ref b5)])) _
    refine st21 _ ?_
    show Steps p.tables e below (T21.setTop (mkF m 82 #[.val (.long q1), .second, .val (.int p2), .val (.int p3), .val (.int p4), .val (.ref b5), .unset, .unset, .unset, .unset, .unset, .unset] [])) _
    refine XS.iloadN X21.here hx rfl (hb hby at_82) rfl ?_
    show Steps p.tables e below (T21.setTop (mkF m 83 #[.val (.long q1), .second, .val (.int p2), .val (.int p3), .val (.int p4), .val (.ref b5), .unset, .unset, .unset, .unset, .unset, .unset] [(.int p2)])) _
    refine X21.ldcI hx hown (mv hZ (hw _ (List.mem_of_getElem? (i := 5) rfl))) (g := (mkF m 83 #[.val (.long q1), .second, .val (.int p2), .val (.int p3), .val (.int p4), .val (.ref b5), .unset, .unset, .unset, .unset, .unset, .unset] [(.int p2)])) rfl (hb hby at_83) ?_
    show Steps p.tables e below (T21.setTop (mkF m 85 #[.val (.long q1), .second, .val (.int p2), .val (.int p3), .val (.int p4), .val (.ref b5), .unset, .unset, .unset, .unset, .unset, .unset] [(.int (2147483647 : Int32)), (.int p2)])) _
    refine XS.iand X21.here hx rfl (hb hby at_85) rfl ?_
    show Steps p.tables e below (T21.setTop (mkF m 86 #[.val (.long q1), .second, .val (.int p2), .val (.int p3), .val (.int p4), .val (.ref b5), .unset, .unset, .unset, .unset, .unset, .unset] [(.int (p2 &&& (2147483647 : Int32)))])) _
    refine XS.bipush X21.here hx rfl (hb hby at_86) ?_
    show Steps p.tables e below (T21.setTop (mkF m 88 #[.val (.long q1), .second, .val (.int p2), .val (.int p3), .val (.int p4), .val (.ref b5), .unset, .unset, .unset, .unset, .unset, .unset] [(.int (9 : Int32)), (.int (p2 &&& (2147483647 : Int32)))])) _
    refine iremM (g := (mkF m 88 #[.val (.long q1), .second, .val (.int p2), .val (.int p3), .val (.int p4), .val (.ref b5), .unset, .unset, .unset, .unset, .unset, .unset] [(.int (9 : Int32)), (.int (p2 &&& (2147483647 : Int32)))])) X21 hx rfl (hb hby at_88) rfl hnz88 ?_
    show Steps p.tables e below (T21.setTop (mkF m 89 #[.val (.long q1), .second, .val (.int p2), .val (.int p3), .val (.int p4), .val (.ref b5), .unset, .unset, .unset, .unset, .unset, .unset] [(.int ((p2 &&& (2147483647 : Int32)) % (9 : Int32)))])) _
    refine XS.istore X21.here hx rfl (hb hby at_89) rfl (l' := #[.val (.long q1), .second, .val (.int p2), .val (.int p3), .val (.int p4), .val (.ref b5), .val (.int ((p2 &&& (2147483647 : Int32)) % (9 : Int32))), .unset, .unset, .unset, .unset, .unset]) rfl ?_
    show Steps p.tables e below (T21.setTop (mkF m 91 #[.val (.long q1), .second, .val (.int p2), .val (.int p3), .val (.int p4), .val (.ref b5), .val (.int ((p2 &&& (2147483647 : Int32)) % (9 : Int32))), .unset, .unset, .unset, .unset, .unset] [])) _
    refine XS.iload X21.here hx rfl (hb hby at_91) rfl ?_
    show Steps p.tables e below (T21.setTop (mkF m 93 #[.val (.long q1), .second, .val (.int p2), .val (.int p3), .val (.int p4), .val (.ref b5), .val (.int ((p2 &&& (2147483647 : Int32)) % (9 : Int32))), .unset, .unset, .unset, .unset, .unset] [(.int ((p2 &&& (2147483647 : Int32)) % (9 : Int32)))])) _
    refine XS.iloadN X21.here hx rfl (hb hby at_93) rfl ?_
    show Steps p.tables e below (T21.setTop (mkF m 94 #[.val (.long q1), .second, .val (.int p2), .val (.int p3), .val (.int p4), .val (.ref b5), .val (.int ((p2 &&& (2147483647 : Int32)) % (9 : Int32))), .unset, .unset, .unset, .unset, .unset] [(.int p3), (.int ((p2 &&& (2147483647 : Int32)) % (9 : Int32)))])) _
    refine X21.ldcI hx hown (mv hZ (hw _ (List.mem_of_getElem? (i := 5) rfl))) (g := (mkF m 94 #[.val (.long q1), .second, .val (.int p2), .val (.int p3), .val (.int p4), .val (.ref b5), .val (.int ((p2 &&& (2147483647 : Int32)) % (9 : Int32))), .unset, .unset, .unset, .unset, .unset] [(.int p3), (.int ((p2 &&& (2147483647 : Int32)) % (9 : Int32)))])) rfl (hb hby at_94) ?_
    show Steps p.tables e below (T21.setTop (mkF m 96 #[.val (.long q1), .second, .val (.int p2), .val (.int p3), .val (.int p4), .val (.ref b5), .val (.int ((p2 &&& (2147483647 : Int32)) % (9 : Int32))), .unset, .unset, .unset, .unset, .unset] [(.int (2147483647 : Int32)), (.int p3), (.int ((p2 &&& (2147483647 : Int32)) % (9 : Int32)))])) _
    refine XS.iand X21.here hx rfl (hb hby at_96) rfl ?_
    show Steps p.tables e below (T21.setTop (mkF m 97 #[.val (.long q1), .second, .val (.int p2), .val (.int p3), .val (.int p4), .val (.ref b5), .val (.int ((p2 &&& (2147483647 : Int32)) % (9 : Int32))), .unset, .unset, .unset, .unset, .unset] [(.int (p3 &&& (2147483647 : Int32))), (.int ((p2 &&& (2147483647 : Int32)) % (9 : Int32)))])) _
    refine XS.bipush X21.here hx rfl (hb hby at_97) ?_
    show Steps p.tables e below (T21.setTop (mkF m 99 #[.val (.long q1), .second, .val (.int p2), .val (.int p3), .val (.int p4), .val (.ref b5), .val (.int ((p2 &&& (2147483647 : Int32)) % (9 : Int32))), .unset, .unset, .unset, .unset, .unset] [(.int (9 : Int32)), (.int (p3 &&& (2147483647 : Int32))), (.int ((p2 &&& (2147483647 : Int32)) % (9 : Int32)))])) _
    refine XS.iload X21.here hx rfl (hb hby at_99) rfl ?_
    show Steps p.tables e below (T21.setTop (mkF m 101 #[.val (.long q1), .second, .val (.int p2), .val (.int p3), .val (.int p4), .val (.ref b5), .val (.int ((p2 &&& (2147483647 : Int32)) % (9 : Int32))), .unset, .unset, .unset, .unset, .unset] [(.int ((p2 &&& (2147483647 : Int32)) % (9 : Int32))), (.int (9 : Int32)), (.int (p3 &&& (2147483647 : Int32))), (.int ((p2 &&& (2147483647 : Int32)) % (9 : Int32)))])) _
    refine XS.isub X21.here hx rfl (hb hby at_101) rfl ?_
    show Steps p.tables e below (T21.setTop (mkF m 102 #[.val (.long q1), .second, .val (.int p2), .val (.int p3), .val (.int p4), .val (.ref b5), .val (.int ((p2 &&& (2147483647 : Int32)) % (9 : Int32))), .unset, .unset, .unset, .unset, .unset] [(.int ((9 : Int32) - ((p2 &&& (2147483647 : Int32)) % (9 : Int32)))), (.int (p3 &&& (2147483647 : Int32))), (.int ((p2 &&& (2147483647 : Int32)) % (9 : Int32)))])) _
    refine iremM (g := (mkF m 102 #[.val (.long q1), .second, .val (.int p2), .val (.int p3), .val (.int p4), .val (.ref b5), .val (.int ((p2 &&& (2147483647 : Int32)) % (9 : Int32))), .unset, .unset, .unset, .unset, .unset] [(.int ((9 : Int32) - ((p2 &&& (2147483647 : Int32)) % (9 : Int32)))), (.int (p3 &&& (2147483647 : Int32))), (.int ((p2 &&& (2147483647 : Int32)) % (9 : Int32)))])) X21 hx rfl (hb hby at_102) rfl hnz102 ?_
    show Steps p.tables e below (T21.setTop (mkF m 103 #[.val (.long q1), .second, .val (.int p2), .val (.int p3), .val (.int p4), .val (.ref b5), .val (.int ((p2 &&& (2147483647 : Int32)) % (9 : Int32))), .unset, .unset, .unset, .unset, .unset] [(.int ((p3 &&& (2147483647 : Int32)) % ((9 : Int32) - ((p2 &&& (2147483647 : Int32)) % (9 : Int32))))), (.int ((p2 &&& (2147483647 : Int32)) % (9 : Int32)))])) _
    refine XS.iadd X21.here hx rfl (hb hby at_103) rfl ?_
    show Steps p.tables e below (T21.setTop (mkF m 104 #[.val (.long q1), .second, .val (.int p2), .val (.int p3), .val (.int p4), .val (.ref b5), .val (.int ((p2 &&& (2147483647 : Int32)) % (9 : Int32))), .unset, .unset, .unset, .unset, .unset] [(.int (((p2 &&& (2147483647 : Int32)) % (9 : Int32)) + ((p3 &&& (2147483647 : Int32)) % ((9 : Int32) - ((p2 &&& (2147483647 : Int32)) % (9 : Int32))))))])) _
    refine XS.istore X21.here hx rfl (hb hby at_104) rfl (l' := #[.val (.long q1), .second, .val (.int p2), .val (.int p3), .val (.int p4), .val (.ref b5), .val (.int ((p2 &&& (2147483647 : Int32)) % (9 : Int32))), .val (.int (((p2 &&& (2147483647 : Int32)) % (9 : Int32)) + ((p3 &&& (2147483647 : Int32)) % ((9 : Int32) - ((p2 &&& (2147483647 : Int32)) % (9 : Int32)))))), .unset, .unset, .unset, .unset]) rfl ?_
    show Steps p.tables e below (T21.setTop (mkF m 106 #[.val (.long q1), .second, .val (.int p2), .val (.int p3), .val (.int p4), .val (.ref b5), .val (.int ((p2 &&& (2147483647 : Int32)) % (9 : Int32))), .val (.int (((p2 &&& (2147483647 : Int32)) % (9 : Int32)) + ((p3 &&& (2147483647 : Int32)) % ((9 : Int32) - ((p2 &&& (2147483647 : Int32)) % (9 : Int32)))))), .unset, .unset, .unset, .unset] [])) _
    refine st22 _ ?_
    show Steps p.tables e below (T22.setTop (mkF m 109 #[.val (.long q1), .second, .val (.int p2), .val (.int p3), .val (.int p4), .val (.ref b5), .val (.int ((p2 &&& (2147483647 : Int32)) % (9 : Int32))), .val (.int (((p2 &&& (2147483647 : Int32)) % (9 : Int32)) + ((p3 &&& (2147483647 : Int32)) % ((9 : Int32) - ((p2 &&& (2147483647 : Int32)) % (9 : Int32)))))), .unset, .unset, .unset, .unset] [(.ref b22)])) _
    refine XS.dup X22.here hx rfl (hb hby at_109) rfl rfl ?_
    show Steps p.tables e below (T22.setTop (mkF m 110 #[.val (.long q1), .second, .val (.int p2), .val (.int p3), .val (.int p4), .val (.ref b5), .val (.int ((p2 &&& (2147483647 : Int32)) % (9 : Int32))), .val (.int (((p2 &&& (2147483647 : Int32)) % (9 : Int32)) + ((p3 &&& (2147483647 : Int32)) % ((9 : Int32) - ((p2 &&& (2147483647 : Int32)) % (9 : Int32)))))), .unset, .unset, .unset, .unset] [(.ref b22), (.ref b22)])) _
    refine XS.aload X22.here hx rfl (hb hby at_110) rfl rfl ?_
    show Steps p.tables e below (T22.setTop (mkF m 112 #[.val (.long q1), .second, .val (.int p2), .val (.int p3), .val (.int p4), .val (.ref b5), .val (.int ((p2 &&& (2147483647 : Int32)) % (9 : Int32))), .val (.int (((p2 &&& (2147483647 : Int32)) % (9 : Int32)) + ((p3 &&& (2147483647 : Int32)) % ((9 : Int32) - ((p2 &&& (2147483647 : Int32)) % (9 : Int32)))))), .unset, .unset, .unset, .unset] [(.ref b5), (.ref b22), (.ref b22)])) _
    refine XS.iload X22.here hx rfl (hb hby at_112) rfl ?_
    show Steps p.tables e below (T22.setTop (mkF m 114 #[.val (.long q1), .second, .val (.int p2), .val (.int p3), .val (.int p4), .val (.ref b5), .val (.int ((p2 &&& (2147483647 : Int32)) % (9 : Int32))), .val (.int (((p2 &&& (2147483647 : Int32)) % (9 : Int32)) + ((p3 &&& (2147483647 : Int32)) % ((9 : Int32) - ((p2 &&& (2147483647 : Int32)) % (9 : Int32)))))), .unset, .unset, .unset, .unset] [(.int p4), (.ref b5), (.ref b22), (.ref b22)])) _
    refine XS.iload X22.here hx rfl (hb hby at_114) rfl ?_
    show Steps p.tables e below (T22.setTop (mkF m 116 #[.val (.long q1), .second, .val (.int p2), .val (.int p3), .val (.int p4), .val (.ref b5), .val (.int ((p2 &&& (2147483647 : Int32)) % (9 : Int32))), .val (.int (((p2 &&& (2147483647 : Int32)) % (9 : Int32)) + ((p3 &&& (2147483647 : Int32)) % ((9 : Int32) - ((p2 &&& (2147483647 : Int32)) % (9 : Int32)))))), .unset, .unset, .unset, .unset] [(.int ((p2 &&& (2147483647 : Int32)) % (9 : Int32))), (.int p4), (.ref b5), (.ref b22), (.ref b22)])) _
    refine XS.iload X22.here hx rfl (hb hby at_116) rfl ?_
    show Steps p.tables e below (T22.setTop (mkF m 118 #[.val (.long q1), .second, .val (.int p2), .val (.int p3), .val (.int p4), .val (.ref b5), .val (.int ((p2 &&& (2147483647 : Int32)) % (9 : Int32))), .val (.int (((p2 &&& (2147483647 : Int32)) % (9 : Int32)) + ((p3 &&& (2147483647 : Int32)) % ((9 : Int32) - ((p2 &&& (2147483647 : Int32)) % (9 : Int32)))))), .unset, .unset, .unset, .unset] [(.int (((p2 &&& (2147483647 : Int32)) % (9 : Int32)) + ((p3 &&& (2147483647 : Int32)) % ((9 : Int32) - ((p2 &&& (2147483647 : Int32)) % (9 : Int32)))))), (.int ((p2 &&& (2147483647 : Int32)) % (9 : Int32))), (.int p4), (.ref b5), (.ref b22), (.ref b22)])) _
    refine st23.trans ?_
    show Steps p.tables e below (T23.setTop (mkF m 121 #[.val (.long q1), .second, .val (.int p2), .val (.int p3), .val (.int p4), .val (.ref b5), .val (.int ((p2 &&& (2147483647 : Int32)) % (9 : Int32))), .val (.int (((p2 &&& (2147483647 : Int32)) % (9 : Int32)) + ((p3 &&& (2147483647 : Int32)) % ((9 : Int32) - ((p2 &&& (2147483647 : Int32)) % (9 : Int32)))))), .unset, .unset, .unset, .unset] [(.ref b22)])) _
    refine XS.astore X23.here hx rfl (hb hby at_121) rfl rfl (l' := #[.val (.long q1), .second, .val (.int p2), .val (.int p3), .val (.int p4), .val (.ref b5), .val (.int ((p2 &&& (2147483647 : Int32)) % (9 : Int32))), .val (.int (((p2 &&& (2147483647 : Int32)) % (9 : Int32)) + ((p3 &&& (2147483647 : Int32)) % ((9 : Int32) - ((p2 &&& (2147483647 : Int32)) % (9 : Int32)))))), .val (.ref b22), .unset, .unset, .unset]) rfl ?_
    show Steps p.tables e below (T23.setTop (mkF m 123 #[.val (.long q1), .second, .val (.int p2), .val (.int p3), .val (.int p4), .val (.ref b5), .val (.int ((p2 &&& (2147483647 : Int32)) % (9 : Int32))), .val (.int (((p2 &&& (2147483647 : Int32)) % (9 : Int32)) + ((p3 &&& (2147483647 : Int32)) % ((9 : Int32) - ((p2 &&& (2147483647 : Int32)) % (9 : Int32)))))), .val (.ref b22), .unset, .unset, .unset] [])) _
    refine XS.aload X23.here hx rfl (hb hby at_123) rfl rfl ?_
    show Steps p.tables e below (T23.setTop (mkF m 125 #[.val (.long q1), .second, .val (.int p2), .val (.int p3), .val (.int p4), .val (.ref b5), .val (.int ((p2 &&& (2147483647 : Int32)) % (9 : Int32))), .val (.int (((p2 &&& (2147483647 : Int32)) % (9 : Int32)) + ((p3 &&& (2147483647 : Int32)) % ((9 : Int32) - ((p2 &&& (2147483647 : Int32)) % (9 : Int32)))))), .val (.ref b22), .unset, .unset, .unset] [(.ref b22)])) _
    refine st24.trans ?_
    show Steps p.tables e below (T24.setTop (mkF m 128 #[.val (.long q1), .second, .val (.int p2), .val (.int p3), .val (.int p4), .val (.ref b5), .val (.int ((p2 &&& (2147483647 : Int32)) % (9 : Int32))), .val (.int (((p2 &&& (2147483647 : Int32)) % (9 : Int32)) + ((p3 &&& (2147483647 : Int32)) % ((9 : Int32) - ((p2 &&& (2147483647 : Int32)) % (9 : Int32)))))), .val (.ref b22), .unset, .unset, .unset] [(.ref T23.heap.size)])) _
    refine XS.astore X24.here hx rfl (hb hby at_128) rfl rfl (l' := #[.val (.long q1), .second, .val (.int p2), .val (.int p3), .val (.int p4), .val (.ref b5), .val (.int ((p2 &&& (2147483647 : Int32)) % (9 : Int32))), .val (.int (((p2 &&& (2147483647 : Int32)) % (9 : Int32)) + ((p3 &&& (2147483647 : Int32)) % ((9 : Int32) - ((p2 &&& (2147483647 : Int32)) % (9 : Int32)))))), .val (.ref b22), .val (.ref T23.heap.size), .unset, .unset]) rfl ?_
    show Steps p.tables e below (T24.setTop (mkF m 130 #[.val (.long q1), .second, .val (.int p2), .val (.int p3), .val (.int p4), .val (.ref b5), .val (.int ((p2 &&& (2147483647 : Int32)) % (9 : Int32))), .val (.int (((p2 &&& (2147483647 : Int32)) % (9 : Int32)) + ((p3 &&& (2147483647 : Int32)) % ((9 : Int32) - ((p2 &&& (2147483647 : Int32)) % (9 : Int32)))))), .val (.ref b22), .val (.ref T23.heap.size), .unset, .unset] [])) _
    refine XS.aload X24.here hx rfl (hb hby at_130) rfl rfl ?_
    show Steps p.tables e below (T24.setTop (mkF m 132 #[.val (.long q1), .second, .val (.int p2), .val (.int p3), .val (.int p4), .val (.ref b5), .val (.int ((p2 &&& (2147483647 : Int32)) % (9 : Int32))), .val (.int (((p2 &&& (2147483647 : Int32)) % (9 : Int32)) + ((p3 &&& (2147483647 : Int32)) % ((9 : Int32) - ((p2 &&& (2147483647 : Int32)) % (9 : Int32)))))), .val (.ref b22), .val (.ref T23.heap.size), .unset, .unset] [(.ref T23.heap.size)])) _
    refine XS.ifnullNo X24.here hx rfl (hb hby at_132) rfl ?_
    show Steps p.tables e below (T24.setTop (mkF m 135 #[.val (.long q1), .second, .val (.int p2), .val (.int p3), .val (.int p4), .val (.ref b5), .val (.int ((p2 &&& (2147483647 : Int32)) % (9 : Int32))), .val (.int (((p2 &&& (2147483647 : Int32)) % (9 : Int32)) + ((p3 &&& (2147483647 : Int32)) % ((9 : Int32) - ((p2 &&& (2147483647 : Int32)) % (9 : Int32)))))), .val (.ref b22), .val (.ref T23.heap.size), .unset, .unset] [])) _
    refine XS.aload X24.here hx rfl (hb hby at_135) rfl rfl ?_
    show Steps p.tables e below (T24.setTop (mkF m 137 #[.val (.long q1), .second, .val (.int p2), .val (.int p3), .val (.int p4), .val (.ref b5), .val (.int ((p2 &&& (2147483647 : Int32)) % (9 : Int32))), .val (.int (((p2 &&& (2147483647 : Int32)) % (9 : Int32)) + ((p3 &&& (2147483647 : Int32)) % ((9 : Int32) - ((p2 &&& (2147483647 : Int32)) % (9 : Int32)))))), .val (.ref b22), .val (.ref T23.heap.size), .unset, .unset] [(.ref T23.heap.size)])) _
    refine XS.aload X24.here hx rfl (hb hby at_137) rfl rfl ?_
    show Steps p.tables e below (T24.setTop (mkF m 139 #[.val (.long q1), .second, .val (.int p2), .val (.int p3), .val (.int p4), .val (.ref b5), .val (.int ((p2 &&& (2147483647 : Int32)) % (9 : Int32))), .val (.int (((p2 &&& (2147483647 : Int32)) % (9 : Int32)) + ((p3 &&& (2147483647 : Int32)) % ((9 : Int32) - ((p2 &&& (2147483647 : Int32)) % (9 : Int32)))))), .val (.ref b22), .val (.ref T23.heap.size), .unset, .unset] [(.ref b5), (.ref T23.heap.size)])) _
    refine Jvm.RoadKit.acmp (g := (mkF m 139 #[.val (.long q1), .second, .val (.int p2), .val (.int p3), .val (.int p4), .val (.ref b5), .val (.int ((p2 &&& (2147483647 : Int32)) % (9 : Int32))), .val (.int (((p2 &&& (2147483647 : Int32)) % (9 : Int32)) + ((p3 &&& (2147483647 : Int32)) % ((9 : Int32) - ((p2 &&& (2147483647 : Int32)) % (9 : Int32)))))), .val (.ref b22), .val (.ref T23.heap.size), .unset, .unset] [(.ref b5), (.ref T23.heap.size)])) X24 hx rfl rfl rfl (pc0 := 139) (pc' := 144) (same := false) rfl (hb hby at_139) rfl (decide_eq_false fun q => ha139 (Value.ref.inj q)) (by decide) (by decide) ?_
    show Steps p.tables e below (T24.setTop (mkF m 144 #[.val (.long q1), .second, .val (.int p2), .val (.int p3), .val (.int p4), .val (.ref b5), .val (.int ((p2 &&& (2147483647 : Int32)) % (9 : Int32))), .val (.int (((p2 &&& (2147483647 : Int32)) % (9 : Int32)) + ((p3 &&& (2147483647 : Int32)) % ((9 : Int32) - ((p2 &&& (2147483647 : Int32)) % (9 : Int32)))))), .val (.ref b22), .val (.ref T23.heap.size), .unset, .unset] [])) _
    refine XS.aload X24.here hx rfl (hb hby at_144) rfl rfl ?_
    show Steps p.tables e below (T24.setTop (mkF m 146 #[.val (.long q1), .second, .val (.int p2), .val (.int p3), .val (.int p4), .val (.ref b5), .val (.int ((p2 &&& (2147483647 : Int32)) % (9 : Int32))), .val (.int (((p2 &&& (2147483647 : Int32)) % (9 : Int32)) + ((p3 &&& (2147483647 : Int32)) % ((9 : Int32) - ((p2 &&& (2147483647 : Int32)) % (9 : Int32)))))), .val (.ref b22), .val (.ref T23.heap.size), .unset, .unset] [(.ref T23.heap.size)])) _
    refine X24.arraylength hx Ar_r_24.1 (State.isArrayOf_alike hZ.alike Ar_r_24.2.1) (g := (mkF m 146 #[.val (.long q1), .second, .val (.int p2), .val (.int p3), .val (.int p4), .val (.ref b5), .val (.int ((p2 &&& (2147483647 : Int32)) % (9 : Int32))), .val (.int (((p2 &&& (2147483647 : Int32)) % (9 : Int32)) + ((p3 &&& (2147483647 : Int32)) % ((9 : Int32) - ((p2 &&& (2147483647 : Int32)) % (9 : Int32)))))), .val (.ref b22), .val (.ref T23.heap.size), .unset, .unset] [(.ref T23.heap.size)])) rfl rfl (hb hby at_146) _ ?_
    rw [len_of S_r N_r]
    show Steps p.tables e below (T24.setTop (mkF m 147 #[.val (.long q1), .second, .val (.int p2), .val (.int p3), .val (.int p4), .val (.ref b5), .val (.int ((p2 &&& (2147483647 : Int32)) % (9 : Int32))), .val (.int (((p2 &&& (2147483647 : Int32)) % (9 : Int32)) + ((p3 &&& (2147483647 : Int32)) % ((9 : Int32) - ((p2 &&& (2147483647 : Int32)) % (9 : Int32)))))), .val (.ref b22), .val (.ref T23.heap.size), .unset, .unset] [(.int ((((p2 &&& (2147483647 : Int32)) % (9 : Int32)) + ((p3 &&& (2147483647 : Int32)) % ((9 : Int32) - ((p2 &&& (2147483647 : Int32)) % (9 : Int32))))) - ((p2 &&& (2147483647 : Int32)) % (9 : Int32))))])) _
    refine XS.iload X24.here hx rfl (hb hby at_147) rfl ?_
    show Steps p.tables e below (T24.setTop (mkF m 149 #[.val (.long q1), .second, .val (.int p2), .val (.int p3), .val (.int p4), .val (.ref b5), .val (.int ((p2 &&& (2147483647 : Int32)) % (9 : Int32))), .val (.int (((p2 &&& (2147483647 : Int32)) % (9 : Int32)) + ((p3 &&& (2147483647 : Int32)) % ((9 : Int32) - ((p2 &&& (2147483647 : Int32)) % (9 : Int32)))))), .val (.ref b22), .val (.ref T23.heap.size), .unset, .unset] [(.int (((p2 &&& (2147483647 : Int32)) % (9 : Int32)) + ((p3 &&& (2147483647 : Int32)) % ((9 : Int32) - ((p2 &&& (2147483647 : Int32)) % (9 : Int32)))))), (.int ((((p2 &&& (2147483647 : Int32)) % (9 : Int32)) + ((p3 &&& (2147483647 : Int32)) % ((9 : Int32) - ((p2 &&& (2147483647 : Int32)) % (9 : Int32))))) - ((p2 &&& (2147483647 : Int32)) % (9 : Int32))))])) _
    refine XS.iload X24.here hx rfl (hb hby at_149) rfl ?_
    show Steps p.tables e below (T24.setTop (mkF m 151 #[.val (.long q1), .second, .val (.int p2), .val (.int p3), .val (.int p4), .val (.ref b5), .val (.int ((p2 &&& (2147483647 : Int32)) % (9 : Int32))), .val (.int (((p2 &&& (2147483647 : Int32)) % (9 : Int32)) + ((p3 &&& (2147483647 : Int32)) % ((9 : Int32) - ((p2 &&& (2147483647 : Int32)) % (9 : Int32)))))), .val (.ref b22), .val (.ref T23.heap.size), .unset, .unset] [(.int ((p2 &&& (2147483647 : Int32)) % (9 : Int32))), (.int (((p2 &&& (2147483647 : Int32)) % (9 : Int32)) + ((p3 &&& (2147483647 : Int32)) % ((9 : Int32) - ((p2 &&& (2147483647 : Int32)) % (9 : Int32)))))), (.int ((((p2 &&& (2147483647 : Int32)) % (9 : Int32)) + ((p3 &&& (2147483647 : Int32)) % ((9 : Int32) - ((p2 &&& (2147483647 : Int32)) % (9 : Int32))))) - ((p2 &&& (2147483647 : Int32)) % (9 : Int32))))])) _
    refine XS.isub X24.here hx rfl (hb hby at_151) rfl ?_
    show Steps p.tables e below (T24.setTop (mkF m 152 #[.val (.long q1), .second, .val (.int p2), .val (.int p3), .val (.int p4), .val (.ref b5), .val (.int ((p2 &&& (2147483647 : Int32)) % (9 : Int32))), .val (.int (((p2 &&& (2147483647 : Int32)) % (9 : Int32)) + ((p3 &&& (2147483647 : Int32)) % ((9 : Int32) - ((p2 &&& (2147483647 : Int32)) % (9 : Int32)))))), .val (.ref b22), .val (.ref T23.heap.size), .unset, .unset] [(.int ((((p2 &&& (2147483647 : Int32)) % (9 : Int32)) + ((p3 &&& (2147483647 : Int32)) % ((9 : Int32) - ((p2 &&& (2147483647 : Int32)) % (9 : Int32))))) - ((p2 &&& (2147483647 : Int32)) % (9 : Int32)))), (.int ((((p2 &&& (2147483647 : Int32)) % (9 : Int32)) + ((p3 &&& (2147483647 : Int32)) % ((9 : Int32) - ((p2 &&& (2147483647 : Int32)) % (9 : Int32))))) - ((p2 &&& (2147483647 : Int32)) % (9 : Int32))))])) _
    refine XS.icmpYes X24.here hx rfl (pc0 := 152) (pc' := 157) rfl (hb hby at_152) rfl (teq (rfl : ((((p2 &&& (2147483647 : Int32)) % (9 : Int32)) + ((p3 &&& (2147483647 : Int32)) % ((9 : Int32) - ((p2 &&& (2147483647 : Int32)) % (9 : Int32))))) - ((p2 &&& (2147483647 : Int32)) % (9 : Int32))) = ((((p2 &&& (2147483647 : Int32)) % (9 : Int32)) + ((p3 &&& (2147483647 : Int32)) % ((9 : Int32) - ((p2 &&& (2147483647 : Int32)) % (9 : Int32))))) - ((p2 &&& (2147483647 : Int32)) % (9 : Int32))))).1 (by decide) (by decide) ?_
    show Steps p.tables e below (T24.setTop (mkF m 157 #[.val (.long q1), .second, .val (.int p2), .val (.int p3), .val (.int p4), .val (.ref b5), .val (.int ((p2 &&& (2147483647 : Int32)) % (9 : Int32))), .val (.int (((p2 &&& (2147483647 : Int32)) % (9 : Int32)) + ((p3 &&& (2147483647 : Int32)) % ((9 : Int32) - ((p2 &&& (2147483647 : Int32)) % (9 : Int32)))))), .val (.ref b22), .val (.ref T23.heap.size), .unset, .unset] [])) _
    refine XS.aload X24.here hx rfl (hb hby at_157) rfl rfl ?_
    show Steps p.tables e below (T24.setTop (mkF m 159 #[.val (.long q1), .second, .val (.int p2), .val (.int p3), .val (.int p4), .val (.ref b5), .val (.int ((p2 &&& (2147483647 : Int32)) % (9 : Int32))), .val (.int (((p2 &&& (2147483647 : Int32)) % (9 : Int32)) + ((p3 &&& (2147483647 : Int32)) % ((9 : Int32) - ((p2 &&& (2147483647 : Int32)) % (9 : Int32)))))), .val (.ref b22), .val (.ref T23.heap.size), .unset, .unset] [(.ref T23.heap.size)])) _
    refine XS.iconst X24.here hx rfl (hb hby at_159) ?_
    show Steps p.tables e below (T24.setTop (mkF m 160 #[.val (.long q1), .second, .val (.int p2), .val (.int p3), .val (.int p4), .val (.ref b5), .val (.int ((p2 &&& (2147483647 : Int32)) % (9 : Int32))), .val (.int (((p2 &&& (2147483647 : Int32)) % (9 : Int32)) + ((p3 &&& (2147483647 : Int32)) % ((9 : Int32) - ((p2 &&& (2147483647 : Int32)) % (9 : Int32)))))), .val (.ref b22), .val (.ref T23.heap.size), .unset, .unset] [(.int (0 : Int32)), (.ref T23.heap.size)])) _
    refine XS.lloadN X24.here hx rfl (hb hby at_160) rfl ?_
    show Steps p.tables e below (T24.setTop (mkF m 161 #[.val (.long q1), .second, .val (.int p2), .val (.int p3), .val (.int p4), .val (.ref b5), .val (.int ((p2 &&& (2147483647 : Int32)) % (9 : Int32))), .val (.int (((p2 &&& (2147483647 : Int32)) % (9 : Int32)) + ((p3 &&& (2147483647 : Int32)) % ((9 : Int32) - ((p2 &&& (2147483647 : Int32)) % (9 : Int32)))))), .val (.ref b22), .val (.ref T23.heap.size), .unset, .unset] [(.long q1), (.int (0 : Int32)), (.ref T23.heap.size)])) _
    refine XS.iload X24.here hx rfl (hb hby at_161) rfl ?_
    show Steps p.tables e below (T24.setTop (mkF m 163 #[.val (.long q1), .second, .val (.int p2), .val (.int p3), .val (.int p4), .val (.ref b5), .val (.int ((p2 &&& (2147483647 : Int32)) % (9 : Int32))), .val (.int (((p2 &&& (2147483647 : Int32)) % (9 : Int32)) + ((p3 &&& (2147483647 : Int32)) % ((9 : Int32) - ((p2 &&& (2147483647 : Int32)) % (9 : Int32)))))), .val (.ref b22), .val (.ref T23.heap.size), .unset, .unset] [(.int ((p2 &&& (2147483647 : Int32)) % (9 : Int32))), (.long q1), (.int (0 : Int32)), (.ref T23.heap.size)])) _
    refine st25 _ ?_
    show Steps p.tables e below (T25.setTop (mkF m 166 #[.val (.long q1), .second, .val (.int p2), .val (.int p3), .val (.int p4), .val (.ref b5), .val (.int ((p2 &&& (2147483647 : Int32)) % (9 : Int32))), .val (.int (((p2 &&& (2147483647 : Int32)) % (9 : Int32)) + ((p3 &&& (2147483647 : Int32)) % ((9 : Int32) - ((p2 &&& (2147483647 : Int32)) % (9 : Int32)))))), .val (.ref b22), .val (.ref T23.heap.size), .unset, .unset] [(.int (1 : Int32))])) _
    refine XS.ifNo X25.here hx rfl (hb hby at_166) rfl ((if0 _ _).trans (feq (by decide : ¬ ((1 : Int32) = (0 : Int32)))).1) ?_
    show Steps p.tables e below (T25.setTop (mkF m 169 #[.val (.long q1), .second, .val (.int p2), .val (.int p3), .val (.int p4), .val (.ref b5), .val (.int ((p2 &&& (2147483647 : Int32)) % (9 : Int32))), .val (.int (((p2 &&& (2147483647 : Int32)) % (9 : Int32)) + ((p3 &&& (2147483647 : Int32)) % ((9 : Int32) - ((p2 &&& (2147483647 : Int32)) % (9 : Int32)))))), .val (.ref b22), .val (.ref T23.heap.size), .unset, .unset] [])) _
    refine XS.aload X25.here hx rfl (hb hby at_169) rfl rfl ?_
    show Steps p.tables e below (T25.setTop (mkF m 171 #[.val (.long q1), .second, .val (.int p2), .val (.int p3), .val (.int p4), .val (.ref b5), .val (.int ((p2 &&& (2147483647 : Int32)) % (9 : Int32))), .val (.int (((p2 &&& (2147483647 : Int32)) % (9 : Int32)) + ((p3 &&& (2147483647 : Int32)) % ((9 : Int32) - ((p2 &&& (2147483647 : Int32)) % (9 : Int32)))))), .val (.ref b22), .val (.ref T23.heap.size), .unset, .unset] [(.ref T23.heap.size)])) _
    refine XS.iconst X25.here hx rfl (hb hby at_171) ?_
    show Steps p.tables e below (T25.setTop (mkF m 172 #[.val (.long q1), .second, .val (.int p2), .val (.int p3), .val (.int p4), .val (.ref b5), .val (.int ((p2 &&& (2147483647 : Int32)) % (9 : Int32))), .val (.int (((p2 &&& (2147483647 : Int32)) % (9 : Int32)) + ((p3 &&& (2147483647 : Int32)) % ((9 : Int32) - ((p2 &&& (2147483647 : Int32)) % (9 : Int32)))))), .val (.ref b22), .val (.ref T23.heap.size), .unset, .unset] [(.int (1 : Int32)), (.ref T23.heap.size)])) _
    refine XS.lloadN X25.here hx rfl (hb hby at_172) rfl ?_
    show Steps p.tables e below (T25.setTop (mkF m 173 #[.val (.long q1), .second, .val (.int p2), .val (.int p3), .val (.int p4), .val (.ref b5), .val (.int ((p2 &&& (2147483647 : Int32)) % (9 : Int32))), .val (.int (((p2 &&& (2147483647 : Int32)) % (9 : Int32)) + ((p3 &&& (2147483647 : Int32)) % ((9 : Int32) - ((p2 &&& (2147483647 : Int32)) % (9 : Int32)))))), .val (.ref b22), .val (.ref T23.heap.size), .unset, .unset] [(.long q1), (.int (1 : Int32)), (.ref T23.heap.size)])) _
    refine XS.iload X25.here hx rfl (hb hby at_173) rfl ?_
    show Steps p.tables e below (T25.setTop (mkF m 175 #[.val (.long q1), .second, .val (.int p2), .val (.int p3), .val (.int p4), .val (.ref b5), .val (.int ((p2 &&& (2147483647 : Int32)) % (9 : Int32))), .val (.int (((p2 &&& (2147483647 : Int32)) % (9 : Int32)) + ((p3 &&& (2147483647 : Int32)) % ((9 : Int32) - ((p2 &&& (2147483647 : Int32)) % (9 : Int32)))))), .val (.ref b22), .val (.ref T23.heap.size), .unset, .unset] [(.int ((p2 &&& (2147483647 : Int32)) % (9 : Int32))), (.long q1), (.int (1 : Int32)), (.ref T23.heap.size)])) _
    refine st26 _ ?_
    show Steps p.tables e below (T26.setTop (mkF m 178 #[.val (.long q1), .second, .val (.int p2), .val (.int p3), .val (.int p4), .val (.ref b5), .val (.int ((p2 &&& (2147483647 : Int32)) % (9 : Int32))), .val (.int (((p2 &&& (2147483647 : Int32)) % (9 : Int32)) + ((p3 &&& (2147483647 : Int32)) % ((9 : Int32) - ((p2 &&& (2147483647 : Int32)) % (9 : Int32)))))), .val (.ref b22), .val (.ref T23.heap.size), .unset, .unset] [(.int (1 : Int32))])) _
    refine XS.ifNo X26.here hx rfl (hb hby at_178) rfl ((if0 _ _).trans (feq (by decide : ¬ ((1 : Int32) = (0 : Int32)))).1) ?_
    show Steps p.tables e below (T26.setTop (mkF m 181 #[.val (.long q1), .second, .val (.int p2), .val (.int p3), .val (.int p4), .val (.ref b5), .val (.int ((p2 &&& (2147483647 : Int32)) % (9 : Int32))), .val (.int (((p2 &&& (2147483647 : Int32)) % (9 : Int32)) + ((p3 &&& (2147483647 : Int32)) % ((9 : Int32) - ((p2 &&& (2147483647 : Int32)) % (9 : Int32)))))), .val (.ref b22), .val (.ref T23.heap.size), .unset, .unset] [])) _
    refine XS.aload X26.here hx rfl (hb hby at_181) rfl rfl ?_
    show Steps p.tables e below (T26.setTop (mkF m 183 #[.val (.long q1), .second, .val (.int p2), .val (.int p3), .val (.int p4), .val (.ref b5), .val (.int ((p2 &&& (2147483647 : Int32)) % (9 : Int32))), .val (.int (((p2 &&& (2147483647 : Int32)) % (9 : Int32)) + ((p3 &&& (2147483647 : Int32)) % ((9 : Int32) - ((p2 &&& (2147483647 : Int32)) % (9 : Int32)))))), .val (.ref b22), .val (.ref T23.heap.size), .unset, .unset] [(.ref T23.heap.size)])) _
    refine XS.iconst X26.here hx rfl (hb hby at_183) ?_
    show Steps p.tables e below (T26.setTop (mkF m 184 #[.val (.long q1), .second, .val (.int p2), .val (.int p3), .val (.int p4), .val (.ref b5), .val (.int ((p2 &&& (2147483647 : Int32)) % (9 : Int32))), .val (.int (((p2 &&& (2147483647 : Int32)) % (9 : Int32)) + ((p3 &&& (2147483647 : Int32)) % ((9 : Int32) - ((p2 &&& (2147483647 : Int32)) % (9 : Int32)))))), .val (.ref b22), .val (.ref T23.heap.size), .unset, .unset] [(.int (2 : Int32)), (.ref T23.heap.size)])) _
    refine XS.lloadN X26.here hx rfl (hb hby at_184) rfl ?_
    show Steps p.tables e below (T26.setTop (mkF m 185 #[.val (.long q1), .second, .val (.int p2), .val (.int p3), .val (.int p4), .val (.ref b5), .val (.int ((p2 &&& (2147483647 : Int32)) % (9 : Int32))), .val (.int (((p2 &&& (2147483647 : Int32)) % (9 : Int32)) + ((p3 &&& (2147483647 : Int32)) % ((9 : Int32) - ((p2 &&& (2147483647 : Int32)) % (9 : Int32)))))), .val (.ref b22), .val (.ref T23.heap.size), .unset, .unset] [(.long q1), (.int (2 : Int32)), (.ref T23.heap.size)])) _
    refine XS.iload X26.here hx rfl (hb hby at_185) rfl ?_
    show Steps p.tables e below (T26.setTop (mkF m 187 #[.val (.long q1), .second, .val (.int p2), .val (.int p3), .val (.int p4), .val (.ref b5), .val (.int ((p2 &&& (2147483647 : Int32)) % (9 : Int32))), .val (.int (((p2 &&& (2147483647 : Int32)) % (9 : Int32)) + ((p3 &&& (2147483647 : Int32)) % ((9 : Int32) - ((p2 &&& (2147483647 : Int32)) % (9 : Int32)))))), .val (.ref b22), .val (.ref T23.heap.size), .unset, .unset] [(.int ((p2 &&& (2147483647 : Int32)) % (9 : Int32))), (.long q1), (.int (2 : Int32)), (.ref T23.heap.size)])) _
    refine st27 _ ?_
    show Steps p.tables e below (T27.setTop (mkF m 190 #[.val (.long q1), .second, .val (.int p2), .val (.int p3), .val (.int p4), .val (.ref b5), .val (.int ((p2 &&& (2147483647 : Int32)) % (9 : Int32))), .val (.int (((p2 &&& (2147483647 : Int32)) % (9 : Int32)) + ((p3 &&& (2147483647 : Int32)) % ((9 : Int32) - ((p2 &&& (2147483647 : Int32)) % (9 : Int32)))))), .val (.ref b22), .val (.ref T23.heap.size), .unset, .unset] [(.int (1 : Int32))])) _
    refine XS.ifNo X27.here hx rfl (hb hby at_190) rfl ((if0 _ _).trans (feq (by decide : ¬ ((1 : Int32) = (0 : Int32)))).1) ?_
    show Steps p.tables e below (T27.setTop (mkF m 193 #[.val (.long q1), .second, .val (.int p2), .val (.int p3), .val (.int p4), .val (.ref b5), .val (.int ((p2 &&& (2147483647 : Int32)) % (9 : Int32))), .val (.int (((p2 &&& (2147483647 : Int32)) % (9 : Int32)) + ((p3 &&& (2147483647 : Int32)) % ((9 : Int32) - ((p2 &&& (2147483647 : Int32)) % (9 : Int32)))))), .val (.ref b22), .val (.ref T23.heap.size), .unset, .unset] [])) _
    refine XS.aload X27.here hx rfl (hb hby at_193) rfl rfl ?_
    show Steps p.tables e below (T27.setTop (mkF m 195 #[.val (.long q1), .second, .val (.int p2), .val (.int p3), .val (.int p4), .val (.ref b5), .val (.int ((p2 &&& (2147483647 : Int32)) % (9 : Int32))), .val (.int (((p2 &&& (2147483647 : Int32)) % (9 : Int32)) + ((p3 &&& (2147483647 : Int32)) % ((9 : Int32) - ((p2 &&& (2147483647 : Int32)) % (9 : Int32)))))), .val (.ref b22), .val (.ref T23.heap.size), .unset, .unset] [(.ref T23.heap.size)])) _
    refine XS.iconst X27.here hx rfl (hb hby at_195) ?_
    show Steps p.tables e below (T27.setTop (mkF m 196 #[.val (.long q1), .second, .val (.int p2), .val (.int p3), .val (.int p4), .val (.ref b5), .val (.int ((p2 &&& (2147483647 : Int32)) % (9 : Int32))), .val (.int (((p2 &&& (2147483647 : Int32)) % (9 : Int32)) + ((p3 &&& (2147483647 : Int32)) % ((9 : Int32) - ((p2 &&& (2147483647 : Int32)) % (9 : Int32)))))), .val (.ref b22), .val (.ref T23.heap.size), .unset, .unset] [(.int (3 : Int32)), (.ref T23.heap.size)])) _
    refine XS.lloadN X27.here hx rfl (hb hby at_196) rfl ?_
    show Steps p.tables e below (T27.setTop (mkF m 197 #[.val (.long q1), .second, .val (.int p2), .val (.int p3), .val (.int p4), .val (.ref b5), .val (.int ((p2 &&& (2147483647 : Int32)) % (9 : Int32))), .val (.int (((p2 &&& (2147483647 : Int32)) % (9 : Int32)) + ((p3 &&& (2147483647 : Int32)) % ((9 : Int32) - ((p2 &&& (2147483647 : Int32)) % (9 : Int32)))))), .val (.ref b22), .val (.ref T23.heap.size), .unset, .unset] [(.long q1), (.int (3 : Int32)), (.ref T23.heap.size)])) _
    refine XS.iload X27.here hx rfl (hb hby at_197) rfl ?_
    show Steps p.tables e below (T27.setTop (mkF m 199 #[.val (.long q1), .second, .val (.int p2), .val (.int p3), .val (.int p4), .val (.ref b5), .val (.int ((p2 &&& (2147483647 : Int32)) % (9 : Int32))), .val (.int (((p2 &&& (2147483647 : Int32)) % (9 : Int32)) + ((p3 &&& (2147483647 : Int32)) % ((9 : Int32) - ((p2 &&& (2147483647 : Int32)) % (9 : Int32)))))), .val (.ref b22), .val (.ref T23.heap.size), .unset, .unset] [(.int ((p2 &&& (2147483647 : Int32)) % (9 : Int32))), (.long q1), (.int (3 : Int32)), (.ref T23.heap.size)])) _
    refine st28 _ ?_
    show Steps p.tables e below (T28.setTop (mkF m 202 #[.val (.long q1), .second, .val (.int p2), .val (.int p3), .val (.int p4), .val (.ref b5), .val (.int ((p2 &&& (2147483647 : Int32)) % (9 : Int32))), .val (.int (((p2 &&& (2147483647 : Int32)) % (9 : Int32)) + ((p3 &&& (2147483647 : Int32)) % ((9 : Int32) - ((p2 &&& (2147483647 : Int32)) % (9 : Int32)))))), .val (.ref b22), .val (.ref T23.heap.size), .unset, .unset] [(.int (1 : Int32))])) _
    refine XS.ifNo X28.here hx rfl (hb hby at_202) rfl ((if0 _ _).trans (feq (by decide : ¬ ((1 : Int32) = (0 : Int32)))).1) ?_
    show Steps p.tables e below (T28.setTop (mkF m 205 #[.val (.long q1), .second, .val (.int p2), .val (.int p3), .val (.int p4), .val (.ref b5), .val (.int ((p2 &&& (2147483647 : Int32)) % (9 : Int32))), .val (.int (((p2 &&& (2147483647 : Int32)) % (9 : Int32)) + ((p3 &&& (2147483647 : Int32)) % ((9 : Int32) - ((p2 &&& (2147483647 : Int32)) % (9 : Int32)))))), .val (.ref b22), .val (.ref T23.heap.size), .unset, .unset] [])) _
    refine XS.aload X28.here hx rfl (hb hby at_205) rfl rfl ?_
    show Steps p.tables e below (T28.setTop (mkF m 207 #[.val (.long q1), .second, .val (.int p2), .val (.int p3), .val (.int p4), .val (.ref b5), .val (.int ((p2 &&& (2147483647 : Int32)) % (9 : Int32))), .val (.int (((p2 &&& (2147483647 : Int32)) % (9 : Int32)) + ((p3 &&& (2147483647 : Int32)) % ((9 : Int32) - ((p2 &&& (2147483647 : Int32)) % (9 : Int32)))))), .val (.ref b22), .val (.ref T23.heap.size), .unset, .unset] [(.ref T23.heap.size)])) _
    refine XS.iconst X28.here hx rfl (hb hby at_207) ?_
    show Steps p.tables e below (T28.setTop (mkF m 208 #[.val (.long q1), .second, .val (.int p2), .val (.int p3), .val (.int p4), .val (.ref b5), .val (.int ((p2 &&& (2147483647 : Int32)) % (9 : Int32))), .val (.int (((p2 &&& (2147483647 : Int32)) % (9 : Int32)) + ((p3 &&& (2147483647 : Int32)) % ((9 : Int32) - ((p2 &&& (2147483647 : Int32)) % (9 : Int32)))))), .val (.ref b22), .val (.ref T23.heap.size), .unset, .unset] [(.int (4 : Int32)), (.ref T23.heap.size)])) _
    refine XS.lloadN X28.here hx rfl (hb hby at_208) rfl ?_
    show Steps p.tables e below (T28.setTop (mkF m 209 #[.val (.long q1), .second, .val (.int p2), .val (.int p3), .val (.int p4), .val (.ref b5), .val (.int ((p2 &&& (2147483647 : Int32)) % (9 : Int32))), .val (.int (((p2 &&& (2147483647 : Int32)) % (9 : Int32)) + ((p3 &&& (2147483647 : Int32)) % ((9 : Int32) - ((p2 &&& (2147483647 : Int32)) % (9 : Int32)))))), .val (.ref b22), .val (.ref T23.heap.size), .unset, .unset] [(.long q1), (.int (4 : Int32)), (.ref T23.heap.size)])) _
    refine XS.iload X28.here hx rfl (hb hby at_209) rfl ?_
    show Steps p.tables e below (T28.setTop (mkF m 211 #[.val (.long q1), .second, .val (.int p2), .val (.int p3), .val (.int p4), .val (.ref b5), .val (.int ((p2 &&& (2147483647 : Int32)) % (9 : Int32))), .val (.int (((p2 &&& (2147483647 : Int32)) % (9 : Int32)) + ((p3 &&& (2147483647 : Int32)) % ((9 : Int32) - ((p2 &&& (2147483647 : Int32)) % (9 : Int32)))))), .val (.ref b22), .val (.ref T23.heap.size), .unset, .unset] [(.int ((p2 &&& (2147483647 : Int32)) % (9 : Int32))), (.long q1), (.int (4 : Int32)), (.ref T23.heap.size)])) _
    refine st29 _ ?_
    show Steps p.tables e below (T29.setTop (mkF m 214 #[.val (.long q1), .second, .val (.int p2), .val (.int p3), .val (.int p4), .val (.ref b5), .val (.int ((p2 &&& (2147483647 : Int32)) % (9 : Int32))), .val (.int (((p2 &&& (2147483647 : Int32)) % (9 : Int32)) + ((p3 &&& (2147483647 : Int32)) % ((9 : Int32) - ((p2 &&& (2147483647 : Int32)) % (9 : Int32)))))), .val (.ref b22), .val (.ref T23.heap.size), .unset, .unset] [(.int (1 : Int32))])) _
    refine XS.ifNo X29.here hx rfl (hb hby at_214) rfl ((if0 _ _).trans (feq (by decide : ¬ ((1 : Int32) = (0 : Int32)))).1) ?_
    show Steps p.tables e below (T29.setTop (mkF m 217 #[.val (.long q1), .second, .val (.int p2), .val (.int p3), .val (.int p4), .val (.ref b5), .val (.int ((p2 &&& (2147483647 : Int32)) % (9 : Int32))), .val (.int (((p2 &&& (2147483647 : Int32)) % (9 : Int32)) + ((p3 &&& (2147483647 : Int32)) % ((9 : Int32) - ((p2 &&& (2147483647 : Int32)) % (9 : Int32)))))), .val (.ref b22), .val (.ref T23.heap.size), .unset, .unset] [])) _
    refine XS.aload X29.here hx rfl (hb hby at_217) rfl rfl ?_
    show Steps p.tables e below (T29.setTop (mkF m 219 #[.val (.long q1), .second, .val (.int p2), .val (.int p3), .val (.int p4), .val (.ref b5), .val (.int ((p2 &&& (2147483647 : Int32)) % (9 : Int32))), .val (.int (((p2 &&& (2147483647 : Int32)) % (9 : Int32)) + ((p3 &&& (2147483647 : Int32)) % ((9 : Int32) - ((p2 &&& (2147483647 : Int32)) % (9 : Int32)))))), .val (.ref b22), .val (.ref T23.heap.size), .unset, .unset] [(.ref T23.heap.size)])) _
    refine XS.iconst X29.here hx rfl (hb hby at_219) ?_
    show Steps p.tables e below (T29.setTop (mkF m 220 #[.val (.long q1), .second, .val (.int p2), .val (.int p3), .val (.int p4), .val (.ref b5), .val (.int ((p2 &&& (2147483647 : Int32)) % (9 : Int32))), .val (.int (((p2 &&& (2147483647 : Int32)) % (9 : Int32)) + ((p3 &&& (2147483647 : Int32)) % ((9 : Int32) - ((p2 &&& (2147483647 : Int32)) % (9 : Int32)))))), .val (.ref b22), .val (.ref T23.heap.size), .unset, .unset] [(.int (5 : Int32)), (.ref T23.heap.size)])) _
    refine XS.lloadN X29.here hx rfl (hb hby at_220) rfl ?_
    show Steps p.tables e below (T29.setTop (mkF m 221 #[.val (.long q1), .second, .val (.int p2), .val (.int p3), .val (.int p4), .val (.ref b5), .val (.int ((p2 &&& (2147483647 : Int32)) % (9 : Int32))), .val (.int (((p2 &&& (2147483647 : Int32)) % (9 : Int32)) + ((p3 &&& (2147483647 : Int32)) % ((9 : Int32) - ((p2 &&& (2147483647 : Int32)) % (9 : Int32)))))), .val (.ref b22), .val (.ref T23.heap.size), .unset, .unset] [(.long q1), (.int (5 : Int32)), (.ref T23.heap.size)])) _
    refine XS.iload X29.here hx rfl (hb hby at_221) rfl ?_
    show Steps p.tables e below (T29.setTop (mkF m 223 #[.val (.long q1), .second, .val (.int p2), .val (.int p3), .val (.int p4), .val (.ref b5), .val (.int ((p2 &&& (2147483647 : Int32)) % (9 : Int32))), .val (.int (((p2 &&& (2147483647 : Int32)) % (9 : Int32)) + ((p3 &&& (2147483647 : Int32)) % ((9 : Int32) - ((p2 &&& (2147483647 : Int32)) % (9 : Int32)))))), .val (.ref b22), .val (.ref T23.heap.size), .unset, .unset] [(.int ((p2 &&& (2147483647 : Int32)) % (9 : Int32))), (.long q1), (.int (5 : Int32)), (.ref T23.heap.size)])) _
    refine st30 _ ?_
    show Steps p.tables e below (T30.setTop (mkF m 226 #[.val (.long q1), .second, .val (.int p2), .val (.int p3), .val (.int p4), .val (.ref b5), .val (.int ((p2 &&& (2147483647 : Int32)) % (9 : Int32))), .val (.int (((p2 &&& (2147483647 : Int32)) % (9 : Int32)) + ((p3 &&& (2147483647 : Int32)) % ((9 : Int32) - ((p2 &&& (2147483647 : Int32)) % (9 : Int32)))))), .val (.ref b22), .val (.ref T23.heap.size), .unset, .unset] [(.int (1 : Int32))])) _
    refine XS.ifNo X30.here hx rfl (hb hby at_226) rfl ((if0 _ _).trans (feq (by decide : ¬ ((1 : Int32) = (0 : Int32)))).1) ?_
    show Steps p.tables e below (T30.setTop (mkF m 229 #[.val (.long q1), .second, .val (.int p2), .val (.int p3), .val (.int p4), .val (.ref b5), .val (.int ((p2 &&& (2147483647 : Int32)) % (9 : Int32))), .val (.int (((p2 &&& (2147483647 : Int32)) % (9 : Int32)) + ((p3 &&& (2147483647 : Int32)) % ((9 : Int32) - ((p2 &&& (2147483647 : Int32)) % (9 : Int32)))))), .val (.ref b22), .val (.ref T23.heap.size), .unset, .unset] [])) _
    refine XS.aload X30.here hx rfl (hb hby at_229) rfl rfl ?_
    show Steps p.tables e below (T30.setTop (mkF m 231 #[.val (.long q1), .second, .val (.int p2), .val (.int p3), .val (.int p4), .val (.ref b5), .val (.int ((p2 &&& (2147483647 : Int32)) % (9 : Int32))), .val (.int (((p2 &&& (2147483647 : Int32)) % (9 : Int32)) + ((p3 &&& (2147483647 : Int32)) % ((9 : Int32) - ((p2 &&& (2147483647 : Int32)) % (9 : Int32)))))), .val (.ref b22), .val (.ref T23.heap.size), .unset, .unset] [(.ref T23.heap.size)])) _
    refine XS.bipush X30.here hx rfl (hb hby at_231) ?_
    show Steps p.tables e below (T30.setTop (mkF m 233 #[.val (.long q1), .second, .val (.int p2), .val (.int p3), .val (.int p4), .val (.ref b5), .val (.int ((p2 &&& (2147483647 : Int32)) % (9 : Int32))), .val (.int (((p2 &&& (2147483647 : Int32)) % (9 : Int32)) + ((p3 &&& (2147483647 : Int32)) % ((9 : Int32) - ((p2 &&& (2147483647 : Int32)) % (9 : Int32)))))), .val (.ref b22), .val (.ref T23.heap.size), .unset, .unset] [(.int (6 : Int32)), (.ref T23.heap.size)])) _
    refine XS.lloadN X30.here hx rfl (hb hby at_233) rfl ?_
    show Steps p.tables e below (T30.setTop (mkF m 234 #[.val (.long q1), .second, .val (.int p2), .val (.int p3), .val (.int p4), .val (.ref b5), .val (.int ((p2 &&& (2147483647 : Int32)) % (9 : Int32))), .val (.int (((p2 &&& (2147483647 : Int32)) % (9 : Int32)) + ((p3 &&& (2147483647 : Int32)) % ((9 : Int32) - ((p2 &&& (2147483647 : Int32)) % (9 : Int32)))))), .val (.ref b22), .val (.ref T23.heap.size), .unset, .unset] [(.long q1), (.int (6 : Int32)), (.ref T23.heap.size)])) _
    refine XS.iload X30.here hx rfl (hb hby at_234) rfl ?_
    show Steps p.tables e below (T30.setTop (mkF m 236 #[.val (.long q1), .second, .val (.int p2), .val (.int p3), .val (.int p4), .val (.ref b5), .val (.int ((p2 &&& (2147483647 : Int32)) % (9 : Int32))), .val (.int (((p2 &&& (2147483647 : Int32)) % (9 : Int32)) + ((p3 &&& (2147483647 : Int32)) % ((9 : Int32) - ((p2 &&& (2147483647 : Int32)) % (9 : Int32)))))), .val (.ref b22), .val (.ref T23.heap.size), .unset, .unset] [(.int ((p2 &&& (2147483647 : Int32)) % (9 : Int32))), (.long q1), (.int (6 : Int32)), (.ref T23.heap.size)])) _
    refine st31 _ ?_
    show Steps p.tables e below (T31.setTop (mkF m 239 #[.val (.long q1), .second, .val (.int p2), .val (.int p3), .val (.int p4), .val (.ref b5), .val (.int ((p2 &&& (2147483647 : Int32)) % (9 : Int32))), .val (.int (((p2 &&& (2147483647 : Int32)) % (9 : Int32)) + ((p3 &&& (2147483647 : Int32)) % ((9 : Int32) - ((p2 &&& (2147483647 : Int32)) % (9 : Int32)))))), .val (.ref b22), .val (.ref T23.heap.size), .unset, .unset] [(.int (1 : Int32))])) _
    refine XS.ifNo X31.here hx rfl (hb hby at_239) rfl ((if0 _ _).trans (feq (by decide : ¬ ((1 : Int32) = (0 : Int32)))).1) ?_
    show Steps p.tables e below (T31.setTop (mkF m 242 #[.val (.long q1), .second, .val (.int p2), .val (.int p3), .val (.int p4), .val (.ref b5), .val (.int ((p2 &&& (2147483647 : Int32)) % (9 : Int32))), .val (.int (((p2 &&& (2147483647 : Int32)) % (9 : Int32)) + ((p3 &&& (2147483647 : Int32)) % ((9 : Int32) - ((p2 &&& (2147483647 : Int32)) % (9 : Int32)))))), .val (.ref b22), .val (.ref T23.heap.size), .unset, .unset] [])) _
    refine XS.aload X31.here hx rfl (hb hby at_242) rfl rfl ?_
    show Steps p.tables e below (T31.setTop (mkF m 244 #[.val (.long q1), .second, .val (.int p2), .val (.int p3), .val (.int p4), .val (.ref b5), .val (.int ((p2 &&& (2147483647 : Int32)) % (9 : Int32))), .val (.int (((p2 &&& (2147483647 : Int32)) % (9 : Int32)) + ((p3 &&& (2147483647 : Int32)) % ((9 : Int32) - ((p2 &&& (2147483647 : Int32)) % (9 : Int32)))))), .val (.ref b22), .val (.ref T23.heap.size), .unset, .unset] [(.ref T23.heap.size)])) _
    refine XS.bipush X31.here hx rfl (hb hby at_244) ?_
    show Steps p.tables e below (T31.setTop (mkF m 246 #[.val (.long q1), .second, .val (.int p2), .val (.int p3), .val (.int p4), .val (.ref b5), .val (.int ((p2 &&& (2147483647 : Int32)) % (9 : Int32))), .val (.int (((p2 &&& (2147483647 : Int32)) % (9 : Int32)) + ((p3 &&& (2147483647 : Int32)) % ((9 : Int32) - ((p2 &&& (2147483647 : Int32)) % (9 : Int32)))))), .val (.ref b22), .val (.ref T23.heap.size), .unset, .unset] [(.int (7 : Int32)), (.ref T23.heap.size)])) _
    refine XS.lloadN X31.here hx rfl (hb hby at_246) rfl ?_
    show Steps p.tables e below (T31.setTop (mkF m 247 #[.val (.long q1), .second, .val (.int p2), .val (.int p3), .val (.int p4), .val (.ref b5), .val (.int ((p2 &&& (2147483647 : Int32)) % (9 : Int32))), .val (.int (((p2 &&& (2147483647 : Int32)) % (9 : Int32)) + ((p3 &&& (2147483647 : Int32)) % ((9 : Int32) - ((p2 &&& (2147483647 : Int32)) % (9 : Int32)))))), .val (.ref b22), .val (.ref T23.heap.size), .unset, .unset] [(.long q1), (.int (7 : Int32)), (.ref T23.heap.size)])) _
    refine XS.iload X31.here hx rfl (hb hby at_247) rfl ?_
    show Steps p.tables e below (T31.setTop (mkF m 249 #[.val (.long q1), .second, .val (.int p2), .val (.int p3), .val (.int p4), .val (.ref b5), .val (.int ((p2 &&& (2147483647 : Int32)) % (9 : Int32))), .val (.int (((p2 &&& (2147483647 : Int32)) % (9 : Int32)) + ((p3 &&& (2147483647 : Int32)) % ((9 : Int32) - ((p2 &&& (2147483647 : Int32)) % (9 : Int32)))))), .val (.ref b22), .val (.ref T23.heap.size), .unset, .unset] [(.int ((p2 &&& (2147483647 : Int32)) % (9 : Int32))), (.long q1), (.int (7 : Int32)), (.ref T23.heap.size)])) _
    refine st32 _ ?_
    show Steps p.tables e below (T32.setTop (mkF m 252 #[.val (.long q1), .second, .val (.int p2), .val (.int p3), .val (.int p4), .val (.ref b5), .val (.int ((p2 &&& (2147483647 : Int32)) % (9 : Int32))), .val (.int (((p2 &&& (2147483647 : Int32)) % (9 : Int32)) + ((p3 &&& (2147483647 : Int32)) % ((9 : Int32) - ((p2 &&& (2147483647 : Int32)) % (9 : Int32)))))), .val (.ref b22), .val (.ref T23.heap.size), .unset, .unset] [(.int (1 : Int32))])) _
    refine XS.ifNo X32.here hx rfl (hb hby at_252) rfl ((if0 _ _).trans (feq (by decide : ¬ ((1 : Int32) = (0 : Int32)))).1) ?_
    show Steps p.tables e below (T32.setTop (mkF m 255 #[.val (.long q1), .second, .val (.int p2), .val (.int p3), .val (.int p4), .val (.ref b5), .val (.int ((p2 &&& (2147483647 : Int32)) % (9 : Int32))), .val (.int (((p2 &&& (2147483647 : Int32)) % (9 : Int32)) + ((p3 &&& (2147483647 : Int32)) % ((9 : Int32) - ((p2 &&& (2147483647 : Int32)) % (9 : Int32)))))), .val (.ref b22), .val (.ref T23.heap.size), .unset, .unset] [])) _
    refine XS.iconst X32.here hx rfl (hb hby at_255) ?_
    show Steps p.tables e below (T32.setTop (mkF m 256 #[.val (.long q1), .second, .val (.int p2), .val (.int p3), .val (.int p4), .val (.ref b5), .val (.int ((p2 &&& (2147483647 : Int32)) % (9 : Int32))), .val (.int (((p2 &&& (2147483647 : Int32)) % (9 : Int32)) + ((p3 &&& (2147483647 : Int32)) % ((9 : Int32) - ((p2 &&& (2147483647 : Int32)) % (9 : Int32)))))), .val (.ref b22), .val (.ref T23.heap.size), .unset, .unset] [(.int (1 : Int32))])) _
    refine XS.goto X32.here hx rfl (pc0 := 256) (pc' := 260) rfl (hb hby at_256) (by decide) (by decide) ?_
    show Steps p.tables e below (T32.setTop (mkF m 260 #[.val (.long q1), .second, .val (.int p2), .val (.int p3), .val (.int p4), .val (.ref b5), .val (.int ((p2 &&& (2147483647 : Int32)) % (9 : Int32))), .val (.int (((p2 &&& (2147483647 : Int32)) % (9 : Int32)) + ((p3 &&& (2147483647 : Int32)) % ((9 : Int32) - ((p2 &&& (2147483647 : Int32)) % (9 : Int32)))))), .val (.ref b22), .val (.ref T23.heap.size), .unset, .unset] [(.int (1 : Int32))])) _
    refine XS.istore X32.here hx rfl (hb hby at_260) rfl (l' := #[.val (.long q1), .second, .val (.int p2), .val (.int p3), .val (.int p4), .val (.ref b5), .val (.int ((p2 &&& (2147483647 : Int32)) % (9 : Int32))), .val (.int (((p2 &&& (2147483647 : Int32)) % (9 : Int32)) + ((p3 &&& (2147483647 : Int32)) % ((9 : Int32) - ((p2 &&& (2147483647 : Int32)) % (9 : Int32)))))), .val (.ref b22), .val (.ref T23.heap.size), .val (.int (1 : Int32)), .unset]) rfl ?_
    show Steps p.tables e below (T32.setTop (mkF m 262 #[.val (.long q1), .second, .val (.int p2), .val (.int p3), .val (.int p4), .val (.ref b5), .val (.int ((p2 &&& (2147483647 : Int32)) % (9 : Int32))), .val (.int (((p2 &&& (2147483647 : Int32)) % (9 : Int32)) + ((p3 &&& (2147483647 : Int32)) % ((9 : Int32) - ((p2 &&& (2147483647 : Int32)) % (9 : Int32)))))), .val (.ref b22), .val (.ref T23.heap.size), .val (.int (1 : Int32)), .unset] [])) _
    refine XS.iload X32.here hx rfl (hb hby at_262) rfl ?_
    show Steps p.tables e below (T32.setTop (mkF m 264 #[.val (.long q1), .second, .val (.int p2), .val (.int p3), .val (.int p4), .val (.ref b5), .val (.int ((p2 &&& (2147483647 : Int32)) % (9 : Int32))), .val (.int (((p2 &&& (2147483647 : Int32)) % (9 : Int32)) + ((p3 &&& (2147483647 : Int32)) % ((9 : Int32) - ((p2 &&& (2147483647 : Int32)) % (9 : Int32)))))), .val (.ref b22), .val (.ref T23.heap.size), .val (.int (1 : Int32)), .unset] [(.int (1 : Int32))])) _
    refine XS.ifYes X32.here hx rfl (pc0 := 264) (pc' := 269) rfl (hb hby at_264) rfl ((if0 _ _).trans (feq hc264).2) (by decide) (by decide) ?_
    show Steps p.tables e below (T32.setTop (mkF m 269 #[.val (.long q1), .second, .val (.int p2), .val (.int p3), .val (.int p4), .val (.ref b5), .val (.int ((p2 &&& (2147483647 : Int32)) % (9 : Int32))), .val (.int (((p2 &&& (2147483647 : Int32)) % (9 : Int32)) + ((p3 &&& (2147483647 : Int32)) % ((9 : Int32) - ((p2 &&& (2147483647 : Int32)) % (9 : Int32)))))), .val (.ref b22), .val (.ref T23.heap.size), .val (.int (1 : Int32)), .unset] [])) _
    refine XS.aload X32.here hx rfl (hb hby at_269) rfl rfl ?_
    show Steps p.tables e below (T32.setTop (mkF m 271 #[.val (.long q1), .second, .val (.int p2), .val (.int p3), .val (.int p4), .val (.ref b5), .val (.int ((p2 &&& (2147483647 : Int32)) % (9 : Int32))), .val (.int (((p2 &&& (2147483647 : Int32)) % (9 : Int32)) + ((p3 &&& (2147483647 : Int32)) % ((9 : Int32) - ((p2 &&& (2147483647 : Int32)) % (9 : Int32)))))), .val (.ref b22), .val (.ref T23.heap.size), .val (.int (1 : Int32)), .unset] [(.ref T23.heap.size)])) _
    refine X32.arraylength hx Ar_r_32.1 (State.isArrayOf_alike hZ.alike Ar_r_32.2.1) (g := (mkF m 271 #[.val (.long q1), .second, .val (.int p2), .val (.int p3), .val (.int p4), .val (.ref b5), .val (.int ((p2 &&& (2147483647 : Int32)) % (9 : Int32))), .val (.int (((p2 &&& (2147483647 : Int32)) % (9 : Int32)) + ((p3 &&& (2147483647 : Int32)) % ((9 : Int32) - ((p2 &&& (2147483647 : Int32)) % (9 : Int32)))))), .val (.ref b22), .val (.ref T23.heap.size), .val (.int (1 : Int32)), .unset] [(.ref T23.heap.size)])) rfl rfl (hb hby at_271) _ ?_
    rw [len_of S_r N_r]
    show Steps p.tables e below (T32.setTop (mkF m 272 #[.val (.long q1), .second, .val (.int p2), .val (.int p3), .val (.int p4), .val (.ref b5), .val (.int ((p2 &&& (2147483647 : Int32)) % (9 : Int32))), .val (.int (((p2 &&& (2147483647 : Int32)) % (9 : Int32)) + ((p3 &&& (2147483647 : Int32)) % ((9 : Int32) - ((p2 &&& (2147483647 : Int32)) % (9 : Int32)))))), .val (.ref b22), .val (.ref T23.heap.size), .val (.int (1 : Int32)), .unset] [(.int ((((p2 &&& (2147483647 : Int32)) % (9 : Int32)) + ((p3 &&& (2147483647 : Int32)) % ((9 : Int32) - ((p2 &&& (2147483647 : Int32)) % (9 : Int32))))) - ((p2 &&& (2147483647 : Int32)) % (9 : Int32))))])) _
    refine XS.ifNo X32.here hx rfl (hb hby at_272) rfl ((if0 _ _).trans (tlt hlen).2.2.2) ?_
    show Steps p.tables e below (T32.setTop (mkF m 275 #[.val (.long q1), .second, .val (.int p2), .val (.int p3), .val (.int p4), .val (.ref b5), .val (.int ((p2 &&& (2147483647 : Int32)) % (9 : Int32))), .val (.int (((p2 &&& (2147483647 : Int32)) % (9 : Int32)) + ((p3 &&& (2147483647 : Int32)) % ((9 : Int32) - ((p2 &&& (2147483647 : Int32)) % (9 : Int32)))))), .val (.ref b22), .val (.ref T23.heap.size), .val (.int (1 : Int32)), .unset] [])) _
    refine XS.aload X32.here hx rfl (hb hby at_275) rfl rfl ?_
    show Steps p.tables e below (T32.setTop (mkF m 277 #[.val (.long q1), .second, .val (.int p2), .val (.int p3), .val (.int p4), .val (.ref b5), .val (.int ((p2 &&& (2147483647 : Int32)) % (9 : Int32))), .val (.int (((p2 &&& (2147483647 : Int32)) % (9 : Int32)) + ((p3 &&& (2147483647 : Int32)) % ((9 : Int32) - ((p2 &&& (2147483647 : Int32)) % (9 : Int32)))))), .val (.ref b22), .val (.ref T23.heap.size), .val (.int (1 : Int32)), .unset] [(.ref T23.heap.size)])) _
    refine XS.iconst X32.here hx rfl (hb hby at_277) ?_
    show Steps p.tables e below (T32.setTop (mkF m 278 #[.val (.long q1), .second, .val (.int p2), .val (.int p3), .val (.int p4), .val (.ref b5), .val (.int ((p2 &&& (2147483647 : Int32)) % (9 : Int32))), .val (.int (((p2 &&& (2147483647 : Int32)) % (9 : Int32)) + ((p3 &&& (2147483647 : Int32)) % ((9 : Int32) - ((p2 &&& (2147483647 : Int32)) % (9 : Int32)))))), .val (.ref b22), .val (.ref T23.heap.size), .val (.int (1 : Int32)), .unset] [(.int (0 : Int32)), (.ref T23.heap.size)])) _
    refine XS.aload X32.here hx rfl (hb hby at_278) rfl rfl ?_
    show Steps p.tables e below (T32.setTop (mkF m 280 #[.val (.long q1), .second, .val (.int p2), .val (.int p3), .val (.int p4), .val (.ref b5), .val (.int ((p2 &&& (2147483647 : Int32)) % (9 : Int32))), .val (.int (((p2 &&& (2147483647 : Int32)) % (9 : Int32)) + ((p3 &&& (2147483647 : Int32)) % ((9 : Int32) - ((p2 &&& (2147483647 : Int32)) % (9 : Int32)))))), .val (.ref b22), .val (.ref T23.heap.size), .val (.int (1 : Int32)), .unset] [(.ref T23.heap.size), (.int (0 : Int32)), (.ref T23.heap.size)])) _
    refine XS.iconst X32.here hx rfl (hb hby at_280) ?_
    show Steps p.tables e below (T32.setTop (mkF m 281 #[.val (.long q1), .second, .val (.int p2), .val (.int p3), .val (.int p4), .val (.ref b5), .val (.int ((p2 &&& (2147483647 : Int32)) % (9 : Int32))), .val (.int (((p2 &&& (2147483647 : Int32)) % (9 : Int32)) + ((p3 &&& (2147483647 : Int32)) % ((9 : Int32) - ((p2 &&& (2147483647 : Int32)) % (9 : Int32)))))), .val (.ref b22), .val (.ref T23.heap.size), .val (.int (1 : Int32)), .unset] [(.int (0 : Int32)), (.ref T23.heap.size), (.int (0 : Int32)), (.ref T23.heap.size)])) _
    refine X32.baloadBytes hx (j := (0 : Int32)) (v := (.int (bA q1 ((p2 &&& (2147483647 : Int32)) % (9 : Int32))))) Ar_r_32.1 (State.isArrayOf_alike hZ.alike Ar_r_32.2.1) Ar_r_32.2.2 hin281 hat281 (g := (mkF m 281 #[.val (.long q1), .second, .val (.int p2), .val (.int p3), .val (.int p4), .val (.ref b5), .val (.int ((p2 &&& (2147483647 : Int32)) % (9 : Int32))), .val (.int (((p2 &&& (2147483647 : Int32)) % (9 : Int32)) + ((p3 &&& (2147483647 : Int32)) % ((9 : Int32) - ((p2 &&& (2147483647 : Int32)) % (9 : Int32)))))), .val (.ref b22), .val (.ref T23.heap.size), .val (.int (1 : Int32)), .unset] [(.int (0 : Int32)), (.ref T23.heap.size), (.int (0 : Int32)), (.ref T23.heap.size)])) rfl rfl (hb hby at_281) _ ?_
    show Steps p.tables e below (T32.setTop (mkF m 282 #[.val (.long q1), .second, .val (.int p2), .val (.int p3), .val (.int p4), .val (.ref b5), .val (.int ((p2 &&& (2147483647 : Int32)) % (9 : Int32))), .val (.int (((p2 &&& (2147483647 : Int32)) % (9 : Int32)) + ((p3 &&& (2147483647 : Int32)) % ((9 : Int32) - ((p2 &&& (2147483647 : Int32)) % (9 : Int32)))))), .val (.ref b22), .val (.ref T23.heap.size), .val (.int (1 : Int32)), .unset] [(.int (bA q1 ((p2 &&& (2147483647 : Int32)) % (9 : Int32)))), (.int (0 : Int32)), (.ref T23.heap.size)])) _
    refine XS.iconst X32.here hx rfl (hb hby at_282) ?_
    show Steps p.tables e below (T32.setTop (mkF m 283 #[.val (.long q1), .second, .val (.int p2), .val (.int p3), .val (.int p4), .val (.ref b5), .val (.int ((p2 &&& (2147483647 : Int32)) % (9 : Int32))), .val (.int (((p2 &&& (2147483647 : Int32)) % (9 : Int32)) + ((p3 &&& (2147483647 : Int32)) % ((9 : Int32) - ((p2 &&& (2147483647 : Int32)) % (9 : Int32)))))), .val (.ref b22), .val (.ref T23.heap.size), .val (.int (1 : Int32)), .unset] [(.int (1 : Int32)), (.int (bA q1 ((p2 &&& (2147483647 : Int32)) % (9 : Int32)))), (.int (0 : Int32)), (.ref T23.heap.size)])) _
    refine XS.ixor X32.here hx rfl (hb hby at_283) rfl ?_
    show Steps p.tables e below (T32.setTop (mkF m 284 #[.val (.long q1), .second, .val (.int p2), .val (.int p3), .val (.int p4), .val (.ref b5), .val (.int ((p2 &&& (2147483647 : Int32)) % (9 : Int32))), .val (.int (((p2 &&& (2147483647 : Int32)) % (9 : Int32)) + ((p3 &&& (2147483647 : Int32)) % ((9 : Int32) - ((p2 &&& (2147483647 : Int32)) % (9 : Int32)))))), .val (.ref b22), .val (.ref T23.heap.size), .val (.int (1 : Int32)), .unset] [(.int ((bA q1 ((p2 &&& (2147483647 : Int32)) % (9 : Int32))) ^^^ (1 : Int32))), (.int (0 : Int32)), (.ref T23.heap.size)])) _
    refine XS.i2b X32.here hx rfl (hb hby at_284) rfl ?_
    show Steps p.tables e below (T32.setTop (mkF m 285 #[.val (.long q1), .second, .val (.int p2), .val (.int p3), .val (.int p4), .val (.ref b5), .val (.int ((p2 &&& (2147483647 : Int32)) % (9 : Int32))), .val (.int (((p2 &&& (2147483647 : Int32)) % (9 : Int32)) + ((p3 &&& (2147483647 : Int32)) % ((9 : Int32) - ((p2 &&& (2147483647 : Int32)) % (9 : Int32)))))), .val (.ref b22), .val (.ref T23.heap.size), .val (.int (1 : Int32)), .unset] [(.int (((bA q1 ((p2 &&& (2147483647 : Int32)) % (9 : Int32))) ^^^ (1 : Int32)).toInt8.toInt32)), (.int (0 : Int32)), (.ref T23.heap.size)])) _
    refine st34 _ ?_
    show Steps p.tables e below (T34.setTop (mkF m 286 #[.val (.long q1), .second, .val (.int p2), .val (.int p3), .val (.int p4), .val (.ref b5), .val (.int ((p2 &&& (2147483647 : Int32)) % (9 : Int32))), .val (.int (((p2 &&& (2147483647 : Int32)) % (9 : Int32)) + ((p3 &&& (2147483647 : Int32)) % ((9 : Int32) - ((p2 &&& (2147483647 : Int32)) % (9 : Int32)))))), .val (.ref b22), .val (.ref T23.heap.size), .val (.int (1 : Int32)), .unset] [])) _
    refine XS.aload X34.here hx rfl (hb hby at_286) rfl rfl ?_
    show Steps p.tables e below (T34.setTop (mkF m 288 #[.val (.long q1), .second, .val (.int p2), .val (.int p3), .val (.int p4), .val (.ref b5), .val (.int ((p2 &&& (2147483647 : Int32)) % (9 : Int32))), .val (.int (((p2 &&& (2147483647 : Int32)) % (9 : Int32)) + ((p3 &&& (2147483647 : Int32)) % ((9 : Int32) - ((p2 &&& (2147483647 : Int32)) % (9 : Int32)))))), .val (.ref b22), .val (.ref T23.heap.size), .val (.int (1 : Int32)), .unset] [(.ref b5)])) _
    refine XS.iload X34.here hx rfl (hb hby at_288) rfl ?_
    show Steps p.tables e below (T34.setTop (mkF m 290 #[.val (.long q1), .second, .val (.int p2), .val (.int p3), .val (.int p4), .val (.ref b5), .val (.int ((p2 &&& (2147483647 : Int32)) % (9 : Int32))), .val (.int (((p2 &&& (2147483647 : Int32)) % (9 : Int32)) + ((p3 &&& (2147483647 : Int32)) % ((9 : Int32) - ((p2 &&& (2147483647 : Int32)) % (9 : Int32)))))), .val (.ref b22), .val (.ref T23.heap.size), .val (.int (1 : Int32)), .unset] [(.int ((p2 &&& (2147483647 : Int32)) % (9 : Int32))), (.ref b5)])) _
    refine X34.baloadBytes hx (j := ((p2 &&& (2147483647 : Int32)) % (9 : Int32))) (v := (.int (bA q1 ((p2 &&& (2147483647 : Int32)) % (9 : Int32))))) (by rw [e34]; exact Ar_b5.1) (State.isArrayOf_alike hZ.alike Ar_b5.2.1) Ar_b5.2.2 hin290 hat290 (g := (mkF m 290 #[.val (.long q1), .second, .val (.int p2), .val (.int p3), .val (.int p4), .val (.ref b5), .val (.int ((p2 &&& (2147483647 : Int32)) % (9 : Int32))), .val (.int (((p2 &&& (2147483647 : Int32)) % (9 : Int32)) + ((p3 &&& (2147483647 : Int32)) % ((9 : Int32) - ((p2 &&& (2147483647 : Int32)) % (9 : Int32)))))), .val (.ref b22), .val (.ref T23.heap.size), .val (.int (1 : Int32)), .unset] [(.int ((p2 &&& (2147483647 : Int32)) % (9 : Int32))), (.ref b5)])) rfl rfl (hb hby at_290) _ ?_
    show Steps p.tables e below (T34.setTop (mkF m 291 #[.val (.long q1), .second, .val (.int p2), .val (.int p3), .val (.int p4), .val (.ref b5), .val (.int ((p2 &&& (2147483647 : Int32)) % (9 : Int32))), .val (.int (((p2 &&& (2147483647 : Int32)) % (9 : Int32)) + ((p3 &&& (2147483647 : Int32)) % ((9 : Int32) - ((p2 &&& (2147483647 : Int32)) % (9 : Int32)))))), .val (.ref b22), .val (.ref T23.heap.size), .val (.int (1 : Int32)), .unset] [(.int (bA q1 ((p2 &&& (2147483647 : Int32)) % (9 : Int32))))])) _
    refine XS.lloadN X34.here hx rfl (hb hby at_291) rfl ?_
    show Steps p.tables e below (T34.setTop (mkF m 292 #[.val (.long q1), .second, .val (.int p2), .val (.int p3), .val (.int p4), .val (.ref b5), .val (.int ((p2 &&& (2147483647 : Int32)) % (9 : Int32))), .val (.int (((p2 &&& (2147483647 : Int32)) % (9 : Int32)) + ((p3 &&& (2147483647 : Int32)) % ((9 : Int32) - ((p2 &&& (2147483647 : Int32)) % (9 : Int32)))))), .val (.ref b22), .val (.ref T23.heap.size), .val (.int (1 : Int32)), .unset] [(.long q1), (.int (bA q1 ((p2 &&& (2147483647 : Int32)) % (9 : Int32))))])) _
    refine XS.iload X34.here hx rfl (hb hby at_292) rfl ?_
    show Steps p.tables e below (T34.setTop (mkF m 294 #[.val (.long q1), .second, .val (.int p2), .val (.int p3), .val (.int p4), .val (.ref b5), .val (.int ((p2 &&& (2147483647 : Int32)) % (9 : Int32))), .val (.int (((p2 &&& (2147483647 : Int32)) % (9 : Int32)) + ((p3 &&& (2147483647 : Int32)) % ((9 : Int32) - ((p2 &&& (2147483647 : Int32)) % (9 : Int32)))))), .val (.ref b22), .val (.ref T23.heap.size), .val (.int (1 : Int32)), .unset] [(.int ((p2 &&& (2147483647 : Int32)) % (9 : Int32))), (.long q1), (.int (bA q1 ((p2 &&& (2147483647 : Int32)) % (9 : Int32))))])) _
    refine st36 _ ?_
    show Steps p.tables e below (T36.setTop (mkF m 297 #[.val (.long q1), .second, .val (.int p2), .val (.int p3), .val (.int p4), .val (.ref b5), .val (.int ((p2 &&& (2147483647 : Int32)) % (9 : Int32))), .val (.int (((p2 &&& (2147483647 : Int32)) % (9 : Int32)) + ((p3 &&& (2147483647 : Int32)) % ((9 : Int32) - ((p2 &&& (2147483647 : Int32)) % (9 : Int32)))))), .val (.ref b22), .val (.ref T23.heap.size), .val (.int (1 : Int32)), .unset] [(.int (bA q1 ((p2 &&& (2147483647 : Int32)) % (9 : Int32)))), (.int (bA q1 ((p2 &&& (2147483647 : Int32)) % (9 : Int32))))])) _
    refine XS.icmpYes X36.here hx rfl (pc0 := 297) (pc' := 302) rfl (hb hby at_297) rfl (teq (rfl : (bA q1 ((p2 &&& (2147483647 : Int32)) % (9 : Int32))) = (bA q1 ((p2 &&& (2147483647 : Int32)) % (9 : Int32))))).1 (by decide) (by decide) ?_
    show Steps p.tables e below (T36.setTop (mkF m 302 #[.val (.long q1), .second, .val (.int p2), .val (.int p3), .val (.int p4), .val (.ref b5), .val (.int ((p2 &&& (2147483647 : Int32)) % (9 : Int32))), .val (.int (((p2 &&& (2147483647 : Int32)) % (9 : Int32)) + ((p3 &&& (2147483647 : Int32)) % ((9 : Int32) - ((p2 &&& (2147483647 : Int32)) % (9 : Int32)))))), .val (.ref b22), .val (.ref T23.heap.size), .val (.int (1 : Int32)), .unset] [])) _
    refine XS.aload X36.here hx rfl (hb hby at_302) rfl rfl ?_
    show Steps p.tables e below (T36.setTop (mkF m 304 #[.val (.long q1), .second, .val (.int p2), .val (.int p3), .val (.int p4), .val (.ref b5), .val (.int ((p2 &&& (2147483647 : Int32)) % (9 : Int32))), .val (.int (((p2 &&& (2147483647 : Int32)) % (9 : Int32)) + ((p3 &&& (2147483647 : Int32)) % ((9 : Int32) - ((p2 &&& (2147483647 : Int32)) % (9 : Int32)))))), .val (.ref b22), .val (.ref T23.heap.size), .val (.int (1 : Int32)), .unset] [(.ref b22)])) _
    refine st37.trans ?_
    show Steps p.tables e below (T37.setTop (mkF m 307 #[.val (.long q1), .second, .val (.int p2), .val (.int p3), .val (.int p4), .val (.ref b5), .val (.int ((p2 &&& (2147483647 : Int32)) % (9 : Int32))), .val (.int (((p2 &&& (2147483647 : Int32)) % (9 : Int32)) + ((p3 &&& (2147483647 : Int32)) % ((9 : Int32) - ((p2 &&& (2147483647 : Int32)) % (9 : Int32)))))), .val (.ref b22), .val (.ref T23.heap.size), .val (.int (1 : Int32)), .unset] [(.ref T36.heap.size)])) _
    refine XS.astore X37.here hx rfl (hb hby at_307) rfl rfl (l' := #[.val (.long q1), .second, .val (.int p2), .val (.int p3), .val (.int p4), .val (.ref b5), .val (.int ((p2 &&& (2147483647 : Int32)) % (9 : Int32))), .val (.int (((p2 &&& (2147483647 : Int32)) % (9 : Int32)) + ((p3 &&& (2147483647 : Int32)) % ((9 : Int32) - ((p2 &&& (2147483647 : Int32)) % (9 : Int32)))))), .val (.ref b22), .val (.ref T23.heap.size), .val (.int (1 : Int32)), .val (.ref T36.heap.size)]) rfl ?_
    show Steps p.tables e below (T37.setTop (mkF m 309 #[.val (.long q1), .second, .val (.int p2), .val (.int p3), .val (.int p4), .val (.ref b5), .val (.int ((p2 &&& (2147483647 : Int32)) % (9 : Int32))), .val (.int (((p2 &&& (2147483647 : Int32)) % (9 : Int32)) + ((p3 &&& (2147483647 : Int32)) % ((9 : Int32) - ((p2 &&& (2147483647 : Int32)) % (9 : Int32)))))), .val (.ref b22), .val (.ref T23.heap.size), .val (.int (1 : Int32)), .val (.ref T36.heap.size)] [])) _
    refine XS.aload X37.here hx rfl (hb hby at_309) rfl rfl ?_
    show Steps p.tables e below (T37.setTop (mkF m 311 #[.val (.long q1), .second, .val (.int p2), .val (.int p3), .val (.int p4), .val (.ref b5), .val (.int ((p2 &&& (2147483647 : Int32)) % (9 : Int32))), .val (.int (((p2 &&& (2147483647 : Int32)) % (9 : Int32)) + ((p3 &&& (2147483647 : Int32)) % ((9 : Int32) - ((p2 &&& (2147483647 : Int32)) % (9 : Int32)))))), .val (.ref b22), .val (.ref T23.heap.size), .val (.int (1 : Int32)), .val (.ref T36.heap.size)] [(.ref T36.heap.size)])) _
    refine XS.ifnullNo X37.here hx rfl (hb hby at_311) rfl ?_
    show Steps p.tables e below (T37.setTop (mkF m 314 #[.val (.long q1), .second, .val (.int p2), .val (.int p3), .val (.int p4), .val (.ref b5), .val (.int ((p2 &&& (2147483647 : Int32)) % (9 : Int32))), .val (.int (((p2 &&& (2147483647 : Int32)) % (9 : Int32)) + ((p3 &&& (2147483647 : Int32)) % ((9 : Int32) - ((p2 &&& (2147483647 : Int32)) % (9 : Int32)))))), .val (.ref b22), .val (.ref T23.heap.size), .val (.int (1 : Int32)), .val (.ref T36.heap.size)] [])) _
    refine XS.aload X37.here hx rfl (hb hby at_314) rfl rfl ?_
    show Steps p.tables e below (T37.setTop (mkF m 316 #[.val (.long q1), .second, .val (.int p2), .val (.int p3), .val (.int p4), .val (.ref b5), .val (.int ((p2 &&& (2147483647 : Int32)) % (9 : Int32))), .val (.int (((p2 &&& (2147483647 : Int32)) % (9 : Int32)) + ((p3 &&& (2147483647 : Int32)) % ((9 : Int32) - ((p2 &&& (2147483647 : Int32)) % (9 : Int32)))))), .val (.ref b22), .val (.ref T23.heap.size), .val (.int (1 : Int32)), .val (.ref T36.heap.size)] [(.ref T36.heap.size)])) _
    refine XS.aload X37.here hx rfl (hb hby at_316) rfl rfl ?_
    show Steps p.tables e below (T37.setTop (mkF m 318 #[.val (.long q1), .second, .val (.int p2), .val (.int p3), .val (.int p4), .val (.ref b5), .val (.int ((p2 &&& (2147483647 : Int32)) % (9 : Int32))), .val (.int (((p2 &&& (2147483647 : Int32)) % (9 : Int32)) + ((p3 &&& (2147483647 : Int32)) % ((9 : Int32) - ((p2 &&& (2147483647 : Int32)) % (9 : Int32)))))), .val (.ref b22), .val (.ref T23.heap.size), .val (.int (1 : Int32)), .val (.ref T36.heap.size)] [(.ref T23.heap.size), (.ref T36.heap.size)])) _
    refine Jvm.RoadKit.acmp (g := (mkF m 318 #[.val (.long q1), .second, .val (.int p2), .val (.int p3), .val (.int p4), .val (.ref b5), .val (.int ((p2 &&& (2147483647 : Int32)) % (9 : Int32))), .val (.int (((p2 &&& (2147483647 : Int32)) % (9 : Int32)) + ((p3 &&& (2147483647 : Int32)) % ((9 : Int32) - ((p2 &&& (2147483647 : Int32)) % (9 : Int32)))))), .val (.ref b22), .val (.ref T23.heap.size), .val (.int (1 : Int32)), .val (.ref T36.heap.size)] [(.ref T23.heap.size), (.ref T36.heap.size)])) X37 hx rfl rfl rfl (pc0 := 318) (pc' := 321) (same := false) rfl (hb hby at_318) rfl (decide_eq_false fun q => ha318 (Value.ref.inj q)) (by decide) (by decide) ?_
    show Steps p.tables e below (T37.setTop (mkF m 321 #[.val (.long q1), .second, .val (.int p2), .val (.int p3), .val (.int p4), .val (.ref b5), .val (.int ((p2 &&& (2147483647 : Int32)) % (9 : Int32))), .val (.int (((p2 &&& (2147483647 : Int32)) % (9 : Int32)) + ((p3 &&& (2147483647 : Int32)) % ((9 : Int32) - ((p2 &&& (2147483647 : Int32)) % (9 : Int32)))))), .val (.ref b22), .val (.ref T23.heap.size), .val (.int (1 : Int32)), .val (.ref T36.heap.size)] [])) _
    refine XS.aload X37.here hx rfl (hb hby at_321) rfl rfl ?_
    show Steps p.tables e below (T37.setTop (mkF m 323 #[.val (.long q1), .second, .val (.int p2), .val (.int p3), .val (.int p4), .val (.ref b5), .val (.int ((p2 &&& (2147483647 : Int32)) % (9 : Int32))), .val (.int (((p2 &&& (2147483647 : Int32)) % (9 : Int32)) + ((p3 &&& (2147483647 : Int32)) % ((9 : Int32) - ((p2 &&& (2147483647 : Int32)) % (9 : Int32)))))), .val (.ref b22), .val (.ref T23.heap.size), .val (.int (1 : Int32)), .val (.ref T36.heap.size)] [(.ref T36.heap.size)])) _
    refine X37.arraylength hx Ar_s.1 (State.isArrayOf_alike hZ.alike Ar_s.2.1) (g := (mkF m 323 #[.val (.long q1), .second, .val (.int p2), .val (.int p3), .val (.int p4), .val (.ref b5), .val (.int ((p2 &&& (2147483647 : Int32)) % (9 : Int32))), .val (.int (((p2 &&& (2147483647 : Int32)) % (9 : Int32)) + ((p3 &&& (2147483647 : Int32)) % ((9 : Int32) - ((p2 &&& (2147483647 : Int32)) % (9 : Int32)))))), .val (.ref b22), .val (.ref T23.heap.size), .val (.int (1 : Int32)), .val (.ref T36.heap.size)] [(.ref T36.heap.size)])) rfl rfl (hb hby at_323) _ ?_
    rw [len_of S_s N_s]
    show Steps p.tables e below (T37.setTop (mkF m 324 #[.val (.long q1), .second, .val (.int p2), .val (.int p3), .val (.int p4), .val (.ref b5), .val (.int ((p2 &&& (2147483647 : Int32)) % (9 : Int32))), .val (.int (((p2 &&& (2147483647 : Int32)) % (9 : Int32)) + ((p3 &&& (2147483647 : Int32)) % ((9 : Int32) - ((p2 &&& (2147483647 : Int32)) % (9 : Int32)))))), .val (.ref b22), .val (.ref T23.heap.size), .val (.int (1 : Int32)), .val (.ref T36.heap.size)] [(.int ((((p2 &&& (2147483647 : Int32)) % (9 : Int32)) + ((p3 &&& (2147483647 : Int32)) % ((9 : Int32) - ((p2 &&& (2147483647 : Int32)) % (9 : Int32))))) - ((p2 &&& (2147483647 : Int32)) % (9 : Int32))))])) _
    refine XS.iload X37.here hx rfl (hb hby at_324) rfl ?_
    show Steps p.tables e below (T37.setTop (mkF m 326 #[.val (.long q1), .second, .val (.int p2), .val (.int p3), .val (.int p4), .val (.ref b5), .val (.int ((p2 &&& (2147483647 : Int32)) % (9 : Int32))), .val (.int (((p2 &&& (2147483647 : Int32)) % (9 : Int32)) + ((p3 &&& (2147483647 : Int32)) % ((9 : Int32) - ((p2 &&& (2147483647 : Int32)) % (9 : Int32)))))), .val (.ref b22), .val (.ref T23.heap.size), .val (.int (1 : Int32)), .val (.ref T36.heap.size)] [(.int (((p2 &&& (2147483647 : Int32)) % (9 : Int32)) + ((p3 &&& (2147483647 : Int32)) % ((9 : Int32) - ((p2 &&& (2147483647 : Int32)) % (9 : Int32)))))), (.int ((((p2 &&& (2147483647 : Int32)) % (9 : Int32)) + ((p3 &&& (2147483647 : Int32)) % ((9 : Int32) - ((p2 &&& (2147483647 : Int32)) % (9 : Int32))))) - ((p2 &&& (2147483647 : Int32)) % (9 : Int32))))])) _
    refine XS.iload X37.here hx rfl (hb hby at_326) rfl ?_
    show Steps p.tables e below (T37.setTop (mkF m 328 #[.val (.long q1), .second, .val (.int p2), .val (.int p3), .val (.int p4), .val (.ref b5), .val (.int ((p2 &&& (2147483647 : Int32)) % (9 : Int32))), .val (.int (((p2 &&& (2147483647 : Int32)) % (9 : Int32)) + ((p3 &&& (2147483647 : Int32)) % ((9 : Int32) - ((p2 &&& (2147483647 : Int32)) % (9 : Int32)))))), .val (.ref b22), .val (.ref T23.heap.size), .val (.int (1 : Int32)), .val (.ref T36.heap.size)] [(.int ((p2 &&& (2147483647 : Int32)) % (9 : Int32))), (.int (((p2 &&& (2147483647 : Int32)) % (9 : Int32)) + ((p3 &&& (2147483647 : Int32)) % ((9 : Int32) - ((p2 &&& (2147483647 : Int32)) % (9 : Int32)))))), (.int ((((p2 &&& (2147483647 : Int32)) % (9 : Int32)) + ((p3 &&& (2147483647 : Int32)) % ((9 : Int32) - ((p2 &&& (2147483647 : Int32)) % (9 : Int32))))) - ((p2 &&& (2147483647 : Int32)) % (9 : Int32))))])) _
    refine XS.isub X37.here hx rfl (hb hby at_328) rfl ?_
    show Steps p.tables e below (T37.setTop (mkF m 329 #[.val (.long q1), .second, .val (.int p2), .val (.int p3), .val (.int p4), .val (.ref b5), .val (.int ((p2 &&& (2147483647 : Int32)) % (9 : Int32))), .val (.int (((p2 &&& (2147483647 : Int32)) % (9 : Int32)) + ((p3 &&& (2147483647 : Int32)) % ((9 : Int32) - ((p2 &&& (2147483647 : Int32)) % (9 : Int32)))))), .val (.ref b22), .val (.ref T23.heap.size), .val (.int (1 : Int32)), .val (.ref T36.heap.size)] [(.int ((((p2 &&& (2147483647 : Int32)) % (9 : Int32)) + ((p3 &&& (2147483647 : Int32)) % ((9 : Int32) - ((p2 &&& (2147483647 : Int32)) % (9 : Int32))))) - ((p2 &&& (2147483647 : Int32)) % (9 : Int32)))), (.int ((((p2 &&& (2147483647 : Int32)) % (9 : Int32)) + ((p3 &&& (2147483647 : Int32)) % ((9 : Int32) - ((p2 &&& (2147483647 : Int32)) % (9 : Int32))))) - ((p2 &&& (2147483647 : Int32)) % (9 : Int32))))])) _
    refine XS.icmpNo X37.here hx rfl (hb hby at_329) rfl (teq (rfl : ((((p2 &&& (2147483647 : Int32)) % (9 : Int32)) + ((p3 &&& (2147483647 : Int32)) % ((9 : Int32) - ((p2 &&& (2147483647 : Int32)) % (9 : Int32))))) - ((p2 &&& (2147483647 : Int32)) % (9 : Int32))) = ((((p2 &&& (2147483647 : Int32)) % (9 : Int32)) + ((p3 &&& (2147483647 : Int32)) % ((9 : Int32) - ((p2 &&& (2147483647 : Int32)) % (9 : Int32))))) - ((p2 &&& (2147483647 : Int32)) % (9 : Int32))))).2 ?_
    show Steps p.tables e below (T37.setTop (mkF m 332 #[.val (.long q1), .second, .val (.int p2), .val (.int p3), .val (.int p4), .val (.ref b5), .val (.int ((p2 &&& (2147483647 : Int32)) % (9 : Int32))), .val (.int (((p2 &&& (2147483647 : Int32)) % (9 : Int32)) + ((p3 &&& (2147483647 : Int32)) % ((9 : Int32) - ((p2 &&& (2147483647 : Int32)) % (9 : Int32)))))), .val (.ref b22), .val (.ref T23.heap.size), .val (.int (1 : Int32)), .val (.ref T36.heap.size)] [])) _
    refine XS.aload X37.here hx rfl (hb hby at_332) rfl rfl ?_
    show Steps p.tables e below (T37.setTop (mkF m 334 #[.val (.long q1), .second, .val (.int p2), .val (.int p3), .val (.int p4), .val (.ref b5), .val (.int ((p2 &&& (2147483647 : Int32)) % (9 : Int32))), .val (.int (((p2 &&& (2147483647 : Int32)) % (9 : Int32)) + ((p3 &&& (2147483647 : Int32)) % ((9 : Int32) - ((p2 &&& (2147483647 : Int32)) % (9 : Int32)))))), .val (.ref b22), .val (.ref T23.heap.size), .val (.int (1 : Int32)), .val (.ref T36.heap.size)] [(.ref T36.heap.size)])) _
    refine XS.iconst X37.here hx rfl (hb hby at_334) ?_
    show Steps p.tables e below (T37.setTop (mkF m 335 #[.val (.long q1), .second, .val (.int p2), .val (.int p3), .val (.int p4), .val (.ref b5), .val (.int ((p2 &&& (2147483647 : Int32)) % (9 : Int32))), .val (.int (((p2 &&& (2147483647 : Int32)) % (9 : Int32)) + ((p3 &&& (2147483647 : Int32)) % ((9 : Int32) - ((p2 &&& (2147483647 : Int32)) % (9 : Int32)))))), .val (.ref b22), .val (.ref T23.heap.size), .val (.int (1 : Int32)), .val (.ref T36.heap.size)] [(.int (0 : Int32)), (.ref T36.heap.size)])) _
    refine X37.baloadBytes hx (j := (0 : Int32)) (v := (.int (bA q1 ((p2 &&& (2147483647 : Int32)) % (9 : Int32))))) Ar_s.1 (State.isArrayOf_alike hZ.alike Ar_s.2.1) Ar_s.2.2 hin335 hat335 (g := (mkF m 335 #[.val (.long q1), .second, .val (.int p2), .val (.int p3), .val (.int p4), .val (.ref b5), .val (.int ((p2 &&& (2147483647 : Int32)) % (9 : Int32))), .val (.int (((p2 &&& (2147483647 : Int32)) % (9 : Int32)) + ((p3 &&& (2147483647 : Int32)) % ((9 : Int32) - ((p2 &&& (2147483647 : Int32)) % (9 : Int32)))))), .val (.ref b22), .val (.ref T23.heap.size), .val (.int (1 : Int32)), .val (.ref T36.heap.size)] [(.int (0 : Int32)), (.ref T36.heap.size)])) rfl rfl (hb hby at_335) _ ?_
    show Steps p.tables e below (T37.setTop (mkF m 336 #[.val (.long q1), .second, .val (.int p2), .val (.int p3), .val (.int p4), .val (.ref b5), .val (.int ((p2 &&& (2147483647 : Int32)) % (9 : Int32))), .val (.int (((p2 &&& (2147483647 : Int32)) % (9 : Int32)) + ((p3 &&& (2147483647 : Int32)) % ((9 : Int32) - ((p2 &&& (2147483647 : Int32)) % (9 : Int32)))))), .val (.ref b22), .val (.ref T23.heap.size), .val (.int (1 : Int32)), .val (.ref T36.heap.size)] [(.int (bA q1 ((p2 &&& (2147483647 : Int32)) % (9 : Int32))))])) _
    refine XS.lloadN X37.here hx rfl (hb hby at_336) rfl ?_
    show Steps p.tables e below (T37.setTop (mkF m 337 #[.val (.long q1), .second, .val (.int p2), .val (.int p3), .val (.int p4), .val (.ref b5), .val (.int ((p2 &&& (2147483647 : Int32)) % (9 : Int32))), .val (.int (((p2 &&& (2147483647 : Int32)) % (9 : Int32)) + ((p3 &&& (2147483647 : Int32)) % ((9 : Int32) - ((p2 &&& (2147483647 : Int32)) % (9 : Int32)))))), .val (.ref b22), .val (.ref T23.heap.size), .val (.int (1 : Int32)), .val (.ref T36.heap.size)] [(.long q1), (.int (bA q1 ((p2 &&& (2147483647 : Int32)) % (9 : Int32))))])) _
    refine XS.iload X37.here hx rfl (hb hby at_337) rfl ?_
    show Steps p.tables e below (T37.setTop (mkF m 339 #[.val (.long q1), .second, .val (.int p2), .val (.int p3), .val (.int p4), .val (.ref b5), .val (.int ((p2 &&& (2147483647 : Int32)) % (9 : Int32))), .val (.int (((p2 &&& (2147483647 : Int32)) % (9 : Int32)) + ((p3 &&& (2147483647 : Int32)) % ((9 : Int32) - ((p2 &&& (2147483647 : Int32)) % (9 : Int32)))))), .val (.ref b22), .val (.ref T23.heap.size), .val (.int (1 : Int32)), .val (.ref T36.heap.size)] [(.int ((p2 &&& (2147483647 : Int32)) % (9 : Int32))), (.long q1), (.int (bA q1 ((p2 &&& (2147483647 : Int32)) % (9 : Int32))))])) _
    refine st39 _ ?_
    show Steps p.tables e below (T39.setTop (mkF m 342 #[.val (.long q1), .second, .val (.int p2), .val (.int p3), .val (.int p4), .val (.ref b5), .val (.int ((p2 &&& (2147483647 : Int32)) % (9 : Int32))), .val (.int (((p2 &&& (2147483647 : Int32)) % (9 : Int32)) + ((p3 &&& (2147483647 : Int32)) % ((9 : Int32) - ((p2 &&& (2147483647 : Int32)) % (9 : Int32)))))), .val (.ref b22), .val (.ref T23.heap.size), .val (.int (1 : Int32)), .val (.ref T36.heap.size)] [(.int (bA q1 ((p2 &&& (2147483647 : Int32)) % (9 : Int32)))), (.int (bA q1 ((p2 &&& (2147483647 : Int32)) % (9 : Int32))))])) _
    refine XS.icmpYes X39.here hx rfl (pc0 := 342) (pc' := 347) rfl (hb hby at_342) rfl (teq (rfl : (bA q1 ((p2 &&& (2147483647 : Int32)) % (9 : Int32))) = (bA q1 ((p2 &&& (2147483647 : Int32)) % (9 : Int32))))).1 (by decide) (by decide) ?_
    show Steps p.tables e below (T39.setTop (mkF m 347 #[.val (.long q1), .second, .val (.int p2), .val (.int p3), .val (.int p4), .val (.ref b5), .val (.int ((p2 &&& (2147483647 : Int32)) % (9 : Int32))), .val (.int (((p2 &&& (2147483647 : Int32)) % (9 : Int32)) + ((p3 &&& (2147483647 : Int32)) % ((9 : Int32) - ((p2 &&& (2147483647 : Int32)) % (9 : Int32)))))), .val (.ref b22), .val (.ref T23.heap.size), .val (.int (1 : Int32)), .val (.ref T36.heap.size)] [])) _
    refine XS.iconst X39.here hx rfl (hb hby at_347) ?_
    show Steps p.tables e below (T39.setTop (mkF m 348 #[.val (.long q1), .second, .val (.int p2), .val (.int p3), .val (.int p4), .val (.ref b5), .val (.int ((p2 &&& (2147483647 : Int32)) % (9 : Int32))), .val (.int (((p2 &&& (2147483647 : Int32)) % (9 : Int32)) + ((p3 &&& (2147483647 : Int32)) % ((9 : Int32) - ((p2 &&& (2147483647 : Int32)) % (9 : Int32)))))), .val (.ref b22), .val (.ref T23.heap.size), .val (.int (1 : Int32)), .val (.ref T36.heap.size)] [(.int (1 : Int32))])) _
    exact retN X39 hx (t := .boolean) Bd.returns (by simp) (hb hby at_348) hr
  · show Q0 Z q1 p2 p3 p4 h0 n0 _ T39.heap _
    exact ⟨rfl, N39⟩
theorem rm0 (l : Launch) (Z : State) (a0 : Array Value) (hw : ∀ d ∈ tables_1, d.before a0 Z = true) (ws : List Jvm.Cond) (q1 : Int64) (p2 : Int32) (p3 : Int32) (p4 : Int32) (h0 : Heap) (n0 : Nat) (Z0 : n0 ≤ h0.size) :
    MetFree l x (head1 (Jvm.Cond.code x code maxLocals ret :: ws) room_1) (fun a U => a = #[(.long q1), (.int p2), (.int p3), (.int p4)] ∧ Z.Warmed39 U.vm ∧ U.heap = h0) (fun _ _ _ _ _ => True) (fun _ U o U' => ∃ v L, o = .returned v ∧ Q0 Z q1 p2 p3 p4 h0 n0 v U'.heap L ∧ FrameEnd U o U' L room_1.cells room_1.slots) := by
  by_cases hlen : (0 : Int32) < ((((p2 &&& (2147483647 : Int32)) % (9 : Int32)) + ((p3 &&& (2147483647 : Int32)) % ((9 : Int32) - ((p2 &&& (2147483647 : Int32)) % (9 : Int32))))) - ((p2 &&& (2147483647 : Int32)) % (9 : Int32)))
  · exact rm0_B l Z a0 hw ws q1 p2 p3 p4 h0 n0 Z0 hlen
  · exact rm0_A l Z a0 hw ws q1 p2 p3 p4 h0 n0 Z0 hlen
set_option maxRecDepth 65536 in
set_option maxHeartbeats 40000000 in
theorem comes_1 {Post : Tables → Env → Array Value → State → Outcome → State → Prop} (hpost : ∀ tb e args s v u, (limb_1_1.after args s (.returned v) u = true ∧ limb_1_2.after args s (.returned v) u = true ∧ True) → FrameEnd s (.returned v) u (Jvm.fieldLocs frame_1_writes args s ++ Jvm.arrayLocs frame_1_arrays args s ++ Jvm.staticLocs frame_1_statics s) 16 128 → Post tb e args s (.returned v) u) :
    ArmFor flags0 classFile x code maxLocals ret World_1 tables_1 room_1 Calls_1 rest_1 Pre_1 Post := by
  intro l hfl _ _ p e ha hc hk s m args below hf hA hF happ hP
  obtain ⟨hcalls, hrest, hpre⟩ := hP
  obtain ⟨-, -, -, hnamed, -, -, -, hat⟩ := (Spec.applies_iff hf).mp happ
  obtain ⟨hg, hn⟩ := and_e (Cond.before_iff.mp (show (Jvm.Cond.and given_1 narrow_1).before args s = true from hpre))
  obtain ⟨g40, g41⟩ := and_e hg
  obtain ⟨g42, g43⟩ := and_e g41
  obtain ⟨g44, g45⟩ := and_e g43
  obtain ⟨g46, g47⟩ := and_e g45
  obtain ⟨w0, w1, w2, w3, rfl⟩ : ∃ w0 w1 w2 w3 : Value, args = #[w0, w1, w2, w3] := by
    have hs : args.size = 4 := by simpa [Cond.value, given_1] using g40
    obtain ⟨L⟩ := args
    match L, hs with
    | [w0, w1, w2, w3], _ => exact ⟨w0, w1, w2, w3, rfl⟩
  have hw := fun d (hd : d ∈ tables_1) => atoms_spec (ws := Jvm.Cond.code x code maxLocals ret :: tables_1) hat d (List.mem_cons_of_mem _ hd)
  have hfit : Fit s := fun {y c} hc i hi => by
    obtain ⟨ha, rfl⟩ := Array.getElem?_eq_some_iff.mp hc
    have q := List.all_eq_true.mp ((Array.all_eq_true_iff_forall_mem.mp hF) _ (Array.getElem_mem ha)) i (List.mem_range.mpr hi)
    simpa [Array.getElem?_eq_getElem hi] using q
  obtain ⟨i0, ei0⟩ := isL_v g42
  obtain rfl : w0 = (.long i0) := Option.some.inj ei0
  obtain ⟨i1, ei1⟩ := is_v g44
  obtain rfl : w1 = (.int i1) := Option.some.inj ei1
  obtain ⟨i2, ei2⟩ := is_v g46
  obtain rfl : w2 = (.int i2) := Option.some.inj ei2
  obtain ⟨i3, ei3⟩ := is_v g47
  obtain rfl : w3 = (.int i3) := Option.some.inj ei3
  obtain ⟨n, o, h1, h2, h3, _, L, rfl, ⟨rfl, N⟩, hq⟩ := rm0 l s _ hw tables_1 i0 i1 i2 i3 s.heap s.heap.size (Nat.le_refl _) p e ha hc hk s m _ below hf ((Spec.applies_iff_loose hf).mp happ).1 ⟨rfl, State.Warmed39.refl s, rfl⟩ trivial
  refine ⟨n, _, h1, h2, h3, hpost _ _ _ _ _ _ ⟨Cond.after_iff.mpr rfl, Cond.after_iff.mpr (eq_i res_at (Term.int_eval (1)) rfl), trivial⟩ ⟨hq.1, hq.2.1, (hq.2.2.sift fun y hy => Or.inr (N y hy)).mono (by decide) (by decide)⟩⟩
theorem main_1_1 : Claimed_1_1 := comes_1 fun _ _ _ _ _ _ h hF => ⟨h.1, hF⟩
theorem main_1_2 : Claimed_1_2 := comes_1 fun _ _ _ _ _ _ h hF => ⟨h.2.1, hF⟩
end Jvm.Pilot.@@N@@
namespace Jvm.Pilot.@@N@@
open Jvm Jvm.ClassFile Sem Op Lib Jvm.Free Jvm.Stand Jvm.Pilot.@@N@@.Jvm.D
/-! MADE BY PROGRAM (witnessworld.py) out of the Statement's table words and the real class files: 13 classes; the members and pool entries that the words name. The judged class is class 1, her method 1. -/
namespace start1
open Jvm.ClassFile
def u (s : String) : CpInfo := .utf8 (stringToUtf16 s)
/-- a pool by its gaps: so many unusable entries, then the entry; so many at the end -/
def gap : Nat → List CpInfo → List CpInfo
  | 0, r => r
  | n + 1, r => .unusable :: gap n r
def poolList (es : List (Nat × CpInfo)) (last : Nat) : List CpInfo := es.foldr (fun e r => gap e.1 (e.2 :: r)) (gap last [])
def pool (es : List (Nat × CpInfo)) (last : Nat) : Array CpInfo := ⟨poolList es last⟩
def fileOf (pool : Array CpInfo) (this : Nat) (attrs : Array Attribute := #[]) (ms : Array MethodInfo := #[]) (fl : Nat := 33) (sup : Nat := 0) (ifs : Array Nat := #[]) (fds : Array FieldInfo := #[]) : ClassFile where
  minorVersion := 0
  majorVersion := 65
  constantPool := pool
  accessFlags := fl
  thisClass := this
  superClass := sup
  interfaces := ifs
  fields := fds
  methods := ms
  attributes := attrs
def plain (name : String) (sup : Option ClassId) : Class where
  name := name
  kind := .ordinary
  loader := none
  accessFlags := 33
  super := sup
  interfaces := #[]
  cf := none
  fields := #[]
  methods := #[]
  instanceTypes := #[]
  staticTypes := #[]
  resolved := #[]
  callSites := []
  init := .initialized
  statics := none
  mirror := none

def pool0 : Array CpInfo := pool [(5, u "<init>"), (0, u "()V"), (1, .class_ 10), (1, u "java/lang/Object"), (85, u "clone"), (0, u "()Ljava/lang/Object;")] 26

def k0c0 : Code := { maxStack := 0, maxLocals := 1, code := object_method_1_code, exceptionTable := #[], attributes := #[] }
def k0m0 : Method := { name := "<init>", desc := "()V", sig := { parameters := [], returnType := none }, accessFlags := 1, code := some k0c0 }
def k0m1 : Method := { name := "clone", desc := "()Ljava/lang/Object;", sig := { parameters := [], returnType := some (.object "java/lang/Object") }, accessFlags := 260, code := none }
/-- java/lang/Object -/
def k0 : Class := { plain "java/lang/Object" none with
  accessFlags := 33
  interfaces := #[]
  cf := some (fileOf pool0 8 #[] #[{ accessFlags := 1, nameIndex := 5, descriptorIndex := 6, attributes := #[] }, { accessFlags := 260, nameIndex := 96, descriptorIndex := 97, attributes := #[] }] 33 0 #[] #[])
  fields := #[]
  methods := #[k0m0, k0m1]
  instanceTypes := #[]
  staticTypes := #[]
  resolved := Array.replicate 124 none
  statics := none }

def pool1 : Array CpInfo := pool [(2, .class_ 4), (1, u "java/lang/Object"), (0, u "<init>"), (0, u "()V"), (0, .methodref 8 9), (0, .class_ 10), (0, .nameAndType 11 12), (0, u "com/example/ticketbridge/ticketbridge/io/DerContentPinLaw"), (0, u "byteAt"), (0, u "(JI)B"), (0, .integer 2147483647), (0, .class_ 15), (0, u "com/example/ticketbridge/ticketbridge/io/Der"), (0, .methodref 14 17), (0, .nameAndType 5 18), (0, u "([BIII)V"), (0, .methodref 14 20), (0, .nameAndType 21 22), (0, u "content"), (0, u "()[B"), (0, .methodref 8 24), (0, .nameAndType 25 26), (0, u "at"), (0, u "([BIJI)Z"), (2, u "law"), (0, u "(JIII)Z")] 5

def k1m0 : Method := { name := "<init>", desc := "()V", sig := { parameters := [], returnType := none }, accessFlags := 1, code := none }
def k1c1 : Code := { maxStack := 6, maxLocals := 12, code := code, exceptionTable := #[], attributes := #[] }
def k1m1 : Method := { name := "law", desc := "(JIII)Z", sig := { parameters := [.long, .int, .int, .int], returnType := some .boolean }, accessFlags := 9, code := some k1c1 }
def k1c2 : Code := { maxStack := 4, maxLocals := 3, code := method_3_code, exceptionTable := #[], attributes := #[] }
def k1m2 : Method := { name := "byteAt", desc := "(JI)B", sig := { parameters := [.long, .int], returnType := some .byte }, accessFlags := 10, code := some k1c2 }
def k1c3 : Code := { maxStack := 5, maxLocals := 5, code := method_4_code, exceptionTable := #[], attributes := #[] }
def k1m3 : Method := { name := "at", desc := "([BIJI)Z", sig := { parameters := [(.array .byte), .int, .long, .int], returnType := some .boolean }, accessFlags := 10, code := some k1c3 }
/-- com/example/ticketbridge/ticketbridge/io/DerContentPinLaw -/
def k1 : Class := { plain "com/example/ticketbridge/ticketbridge/io/DerContentPinLaw" (some 0) with
  accessFlags := 49
  interfaces := #[]
  cf := some (fileOf pool1 8 #[] #[{ accessFlags := 1, nameIndex := 5, descriptorIndex := 6, attributes := #[] }, { accessFlags := 9, nameIndex := 29, descriptorIndex := 30, attributes := #[] }, { accessFlags := 10, nameIndex := 11, descriptorIndex := 12, attributes := #[] }, { accessFlags := 10, nameIndex := 25, descriptorIndex := 26, attributes := #[] }] 49 2 #[] #[])
  fields := #[]
  methods := #[k1m0, k1m1, k1m2, k1m3]
  instanceTypes := #[]
  staticTypes := #[]
  resolved := Array.replicate 36 none
  statics := none }

def pool2 : Array CpInfo := pool [(1, .methodref 2 3), (0, .class_ 4), (0, .nameAndType 5 6), (0, u "java/lang/Object"), (0, u "<init>"), (0, u "()V"), (0, .class_ 8), (0, u "java/lang/Record")] 13

def k2c0 : Code := { maxStack := 1, maxLocals := 1, code := jdk_30_method_1_code, exceptionTable := #[], attributes := #[] }
def k2m0 : Method := { name := "<init>", desc := "()V", sig := { parameters := [], returnType := none }, accessFlags := 4, code := some k2c0 }
/-- java/lang/Record -/
def k2 : Class := { plain "java/lang/Record" (some 0) with
  accessFlags := 1057
  interfaces := #[]
  cf := some (fileOf pool2 7 #[] #[{ accessFlags := 4, nameIndex := 5, descriptorIndex := 6, attributes := #[] }] 1057 2 #[] #[])
  fields := #[]
  methods := #[k2m0]
  instanceTypes := #[]
  staticTypes := #[]
  resolved := Array.replicate 22 none
  statics := none }

def pool3 : Array CpInfo := pool [(1, .methodref 2 3), (0, .class_ 4), (0, .nameAndType 5 6), (0, u "java/lang/Record"), (0, u "<init>"), (0, u "()V"), (0, .fieldref 8 9), (0, .class_ 10), (0, .nameAndType 11 12), (0, u "com/example/ticketbridge/ticketbridge/io/Der"), (0, u "source"), (0, u "[B"), (0, .fieldref 8 14), (0, .nameAndType 15 16), (0, u "tag"), (0, u "I"), (0, .fieldref 8 18), (0, .nameAndType 19 16), (0, u "start"), (0, .fieldref 8 21), (0, .nameAndType 22 16), (0, u "end"), (74, .methodref 98 99), (0, .class_ 100), (0, .nameAndType 101 102), (0, u "java/util/Arrays"), (0, u "copyOfRange"), (0, u "([BII)[B"), (116, u "()[B"), (25, u "([BIII)V"), (11, u "INTEGER"), (2, u "BIT_STRING"), (1, u "OCTET_STRING"), (1, u "OBJECT_IDENTIFIER"), (1, u "ENUMERATED"), (1, u "GENERALIZED_TIME"), (1, u "GENERAL_STRING"), (1, u "SEQUENCE"), (1, u "CONTEXT"), (1, u "APPLICATION"), (1, u "KERBEROS_TIME_LENGTH"), (16, u "content")] 57

def k3c0 : Code := { maxStack := 2, maxLocals := 5, code := prog_3_method_1_code, exceptionTable := #[], attributes := #[] }
def k3m0 : Method := { name := "<init>", desc := "([BIII)V", sig := { parameters := [(.array .byte), .int, .int, .int], returnType := none }, accessFlags := 1, code := some k3c0 }
def k3c1 : Code := { maxStack := 3, maxLocals := 1, code := prog_3_method_9_code, exceptionTable := #[], attributes := #[] }
def k3m1 : Method := { name := "content", desc := "()[B", sig := { parameters := [], returnType := some (.array .byte) }, accessFlags := 1, code := some k3c1 }
/-- com/example/ticketbridge/ticketbridge/io/Der -/
def k3 : Class := { plain "com/example/ticketbridge/ticketbridge/io/Der" (some 2) with
  accessFlags := 49
  interfaces := #[]
  cf := some (fileOf pool3 8 #[] #[{ accessFlags := 1, nameIndex := 5, descriptorIndex := 245, attributes := #[] }, { accessFlags := 1, nameIndex := 295, descriptorIndex := 219, attributes := #[] }] 49 2 #[] #[{ accessFlags := 18, nameIndex := 11, descriptorIndex := 12, attributes := #[] }, { accessFlags := 18, nameIndex := 15, descriptorIndex := 16, attributes := #[] }, { accessFlags := 18, nameIndex := 19, descriptorIndex := 16, attributes := #[] }, { accessFlags := 18, nameIndex := 22, descriptorIndex := 16, attributes := #[] }, { accessFlags := 25, nameIndex := 257, descriptorIndex := 16, attributes := #[] }, { accessFlags := 25, nameIndex := 260, descriptorIndex := 16, attributes := #[] }, { accessFlags := 25, nameIndex := 262, descriptorIndex := 16, attributes := #[] }, { accessFlags := 25, nameIndex := 264, descriptorIndex := 16, attributes := #[] }, { accessFlags := 25, nameIndex := 266, descriptorIndex := 16, attributes := #[] }, { accessFlags := 25, nameIndex := 268, descriptorIndex := 16, attributes := #[] }, { accessFlags := 25, nameIndex := 270, descriptorIndex := 16, attributes := #[] }, { accessFlags := 25, nameIndex := 272, descriptorIndex := 16, attributes := #[] }, { accessFlags := 25, nameIndex := 274, descriptorIndex := 16, attributes := #[] }, { accessFlags := 25, nameIndex := 276, descriptorIndex := 16, attributes := #[] }, { accessFlags := 26, nameIndex := 278, descriptorIndex := 16, attributes := #[] }])
  fields := #[{ name := "source", type := (.array .byte), accessFlags := 18, slot := 0, constantValue := 0 }, { name := "tag", type := .int, accessFlags := 18, slot := 1, constantValue := 0 }, { name := "start", type := .int, accessFlags := 18, slot := 2, constantValue := 0 }, { name := "end", type := .int, accessFlags := 18, slot := 3, constantValue := 0 }, { name := "INTEGER", type := .int, accessFlags := 25, slot := 0, constantValue := 0 }, { name := "BIT_STRING", type := .int, accessFlags := 25, slot := 1, constantValue := 0 }, { name := "OCTET_STRING", type := .int, accessFlags := 25, slot := 2, constantValue := 0 }, { name := "OBJECT_IDENTIFIER", type := .int, accessFlags := 25, slot := 3, constantValue := 0 }, { name := "ENUMERATED", type := .int, accessFlags := 25, slot := 4, constantValue := 0 }, { name := "GENERALIZED_TIME", type := .int, accessFlags := 25, slot := 5, constantValue := 0 }, { name := "GENERAL_STRING", type := .int, accessFlags := 25, slot := 6, constantValue := 0 }, { name := "SEQUENCE", type := .int, accessFlags := 25, slot := 7, constantValue := 0 }, { name := "CONTEXT", type := .int, accessFlags := 25, slot := 8, constantValue := 0 }, { name := "APPLICATION", type := .int, accessFlags := 25, slot := 9, constantValue := 0 }, { name := "KERBEROS_TIME_LENGTH", type := .int, accessFlags := 26, slot := 10, constantValue := 0 }]
  methods := #[k3m0, k3m1]
  instanceTypes := #[(.array .byte), .int, .int, .int]
  staticTypes := #[.int, .int, .int, .int, .int, .int, .int, .int, .int, .int, .int]
  resolved := Array.replicate 353 none
  statics := none }

def pool4 : Array CpInfo := pool [(2, .class_ 4), (1, u "java/lang/Object"), (0, u "<init>"), (0, u "()V"), (7, .class_ 16), (1, u "java/util/Arrays"), (57, .class_ 76), (1, u "java/util/Arrays$NaturalOrder"), (32, u "()Ljava/lang/Object;"), (3, .class_ 115), (1, u "java/util/Arrays$LegacyMergeSort"), (1, u "Z"), (10, .nameAndType 129 109), (0, u "clone"), (9, u "copyOfRange"), (10, .methodref 151 152), (0, .class_ 153), (0, .nameAndType 154 155), (0, u "java/lang/System"), (0, u "arraycopy"), (0, u "(Ljava/lang/Object;ILjava/lang/Object;II)V"), (148, .methodref 305 306), (0, .class_ 307), (0, .nameAndType 308 309), (0, u "java/lang/Math"), (0, u "min"), (0, u "(II)I"), (0, .methodref 311 128), (0, .class_ 312), (0, u "[B"), (26, .methodref 14 340), (0, .nameAndType 341 342), (0, u "copyOfRangeByte"), (0, u "([BII)[B"), (0, .methodref 14 344), (0, .nameAndType 345 346), (0, u "checkLength"), (0, u "(II)V"), (28, .class_ 376), (0, u "java/util/Arrays$ArrayList"), (68, u "$assertionsDisabled"), (269, u "MIN_ARRAY_SORT_GRAN"), (0, u "I"), (2, u "INSERTIONSORT_THRESHOLD"), (255, .class_ 976), (0, u "java/util/Arrays$ArrayItr")] 52

def k4m0 : Method := { name := "<init>", desc := "()V", sig := { parameters := [], returnType := none }, accessFlags := 2, code := none }
def k4c1 : Code := { maxStack := 4, maxLocals := 2, code := jdk_65_method_131_code, exceptionTable := #[], attributes := #[] }
def k4m1 : Method := { name := "checkLength", desc := "(II)V", sig := { parameters := [.int, .int], returnType := none }, accessFlags := 10, code := some k4c1 }
def k4c2 : Code := { maxStack := 3, maxLocals := 3, code := jdk_65_method_132_code, exceptionTable := #[], attributes := #[] }
def k4m2 : Method := { name := "copyOfRange", desc := "([BII)[B", sig := { parameters := [(.array .byte), .int, .int], returnType := some (.array .byte) }, accessFlags := 9, code := some k4c2 }
def k4c3 : Code := { maxStack := 6, maxLocals := 5, code := jdk_65_method_133_code, exceptionTable := #[], attributes := #[] }
def k4m3 : Method := { name := "copyOfRangeByte", desc := "([BII)[B", sig := { parameters := [(.array .byte), .int, .int], returnType := some (.array .byte) }, accessFlags := 10, code := some k4c3 }
/-- java/util/Arrays -/
def k4 : Class := { plain "java/util/Arrays" (some 0) with
  accessFlags := 49
  interfaces := #[]
  cf := some (fileOf pool4 14 #[.nestMembers #[975, 375, 113, 74]] #[{ accessFlags := 2, nameIndex := 5, descriptorIndex := 6, attributes := #[] }, { accessFlags := 10, nameIndex := 345, descriptorIndex := 346, attributes := #[] }, { accessFlags := 9, nameIndex := 139, descriptorIndex := 342, attributes := #[] }, { accessFlags := 10, nameIndex := 341, descriptorIndex := 342, attributes := #[] }] 49 2 #[] #[{ accessFlags := 26, nameIndex := 715, descriptorIndex := 716, attributes := #[] }, { accessFlags := 26, nameIndex := 719, descriptorIndex := 716, attributes := #[] }, { accessFlags := 4120, nameIndex := 445, descriptorIndex := 117, attributes := #[] }])
  fields := #[{ name := "MIN_ARRAY_SORT_GRAN", type := .int, accessFlags := 26, slot := 0, constantValue := 0 }, { name := "INSERTIONSORT_THRESHOLD", type := .int, accessFlags := 26, slot := 1, constantValue := 0 }, { name := "$assertionsDisabled", type := .boolean, accessFlags := 4120, slot := 2, constantValue := 0 }]
  methods := #[k4m0, k4m1, k4m2, k4m3]
  instanceTypes := #[]
  staticTypes := #[.int, .int, .boolean]
  resolved := Array.replicate 1029 none
  statics := none }

def pool5 : Array CpInfo := pool [(1, .class_ 2), (0, u "java/lang/Math"), (1, .class_ 6), (1, u "java/lang/Object"), (0, u "<init>"), (0, u "()V"), (89, .class_ 100), (1, u "java/lang/Math$RandomNumberGeneratorHolder"), (71, u "negativeZeroFloatBits"), (0, u "J"), (2, u "negativeZeroDoubleBits"), (24, u "min"), (43, u "$assertionsDisabled"), (0, u "Z"), (88, u "(II)I"), (2, u "twoToTheDoubleScaleDown"), (0, u "D"), (4, u "twoToTheDoubleScaleUp"), (9, u "E"), (3, u "PI"), (2, u "TAU"), (2, u "DEGREES_TO_RADIANS"), (0, u "RADIANS_TO_DEGREES")] 94

def k5m0 : Method := { name := "<init>", desc := "()V", sig := { parameters := [], returnType := none }, accessFlags := 2, code := none }
def k5c1 : Code := { maxStack := 2, maxLocals := 2, code := jdk_29_method_69_code, exceptionTable := #[], attributes := #[] }
def k5m1 : Method := { name := "min", desc := "(II)I", sig := { parameters := [.int, .int], returnType := some .int }, accessFlags := 9, code := some k5c1 }
/-- java/lang/Math -/
def k5 : Class := { plain "java/lang/Math" (some 0) with
  accessFlags := 49
  interfaces := #[]
  cf := some (fileOf pool5 1 #[.nestMembers #[98]] #[{ accessFlags := 2, nameIndex := 7, descriptorIndex := 8, attributes := #[] }, { accessFlags := 9, nameIndex := 201, descriptorIndex := 335, attributes := #[] }] 49 4 #[] #[{ accessFlags := 25, nameIndex := 354, descriptorIndex := 339, attributes := #[] }, { accessFlags := 25, nameIndex := 358, descriptorIndex := 339, attributes := #[] }, { accessFlags := 25, nameIndex := 361, descriptorIndex := 339, attributes := #[] }, { accessFlags := 26, nameIndex := 364, descriptorIndex := 339, attributes := #[] }, { accessFlags := 26, nameIndex := 365, descriptorIndex := 339, attributes := #[] }, { accessFlags := 26, nameIndex := 172, descriptorIndex := 173, attributes := #[] }, { accessFlags := 26, nameIndex := 176, descriptorIndex := 173, attributes := #[] }, { accessFlags := 8, nameIndex := 344, descriptorIndex := 339, attributes := #[] }, { accessFlags := 8, nameIndex := 338, descriptorIndex := 339, attributes := #[] }, { accessFlags := 4120, nameIndex := 245, descriptorIndex := 246, attributes := #[] }])
  fields := #[{ name := "E", type := .double, accessFlags := 25, slot := 0, constantValue := 0 }, { name := "PI", type := .double, accessFlags := 25, slot := 1, constantValue := 0 }, { name := "TAU", type := .double, accessFlags := 25, slot := 2, constantValue := 0 }, { name := "DEGREES_TO_RADIANS", type := .double, accessFlags := 26, slot := 3, constantValue := 0 }, { name := "RADIANS_TO_DEGREES", type := .double, accessFlags := 26, slot := 4, constantValue := 0 }, { name := "negativeZeroFloatBits", type := .long, accessFlags := 26, slot := 5, constantValue := 0 }, { name := "negativeZeroDoubleBits", type := .long, accessFlags := 26, slot := 6, constantValue := 0 }, { name := "twoToTheDoubleScaleUp", type := .double, accessFlags := 8, slot := 7, constantValue := 0 }, { name := "twoToTheDoubleScaleDown", type := .double, accessFlags := 8, slot := 8, constantValue := 0 }, { name := "$assertionsDisabled", type := .boolean, accessFlags := 4120, slot := 9, constantValue := 0 }]
  methods := #[k5m0, k5m1]
  instanceTypes := #[]
  staticTypes := #[.double, .double, .double, .double, .double, .long, .long, .double, .double, .boolean]
  resolved := Array.replicate 460 none
  statics := none }

def pool6 : Array CpInfo := pool [(2, .class_ 4), (1, u "java/lang/Object"), (0, u "<init>"), (0, u "()V"), (1, .class_ 10), (1, u "java/lang/System"), (0, u "allowSecurityManager"), (0, u "I"), (16, u "cons"), (0, u "Ljava/io/Console;"), (77, .class_ 110), (1, u "java/lang/System$CallersHolder"), (43, u "initialErrStream"), (0, u "Ljava/io/PrintStream;"), (19, u "security"), (0, u "Ljava/lang/SecurityManager;"), (31, .class_ 209), (0, u "java/lang/System$1"), (7, u "props"), (0, u "Ljava/util/Properties;"), (2, u "lineSeparator"), (0, u "Ljava/lang/String;"), (96, .class_ 321), (1, u "java/lang/System$LoggerFinder"), (5, .class_ 328), (0, u "java/lang/System$Logger"), (67, u "err"), (2, u "out"), (91, u "notSupportedJnuEncoding"), (15, u "in"), (17, u "initialIn"), (0, u "Ljava/io/InputStream;"), (35, u "bootLayer"), (0, u "Ljava/lang/ModuleLayer;"), (99, .class_ 664), (0, u "java/lang/System$2"), (9, u "NEVER"), (2, u "MAYBE"), (49, u "arraycopy"), (0, u "(Ljava/lang/Object;ILjava/lang/Object;II)V"), (72, .class_ 802), (0, u "java/lang/System$Logger$Level")] 31

def k6m0 : Method := { name := "<init>", desc := "()V", sig := { parameters := [], returnType := none }, accessFlags := 2, code := none }
def k6m1 : Method := { name := "arraycopy", desc := "(Ljava/lang/Object;ILjava/lang/Object;II)V", sig := { parameters := [(.object "java/lang/Object"), .int, (.object "java/lang/Object"), .int, .int], returnType := none }, accessFlags := 265, code := none }
/-- java/lang/System -/
def k6 : Class := { plain "java/lang/System" (some 0) with
  accessFlags := 49
  interfaces := #[]
  cf := some (fileOf pool6 8 #[.nestMembers #[319, 327, 801, 108, 663, 208]] #[{ accessFlags := 2, nameIndex := 5, descriptorIndex := 6, attributes := #[] }, { accessFlags := 265, nameIndex := 727, descriptorIndex := 728, attributes := #[] }] 49 2 #[] #[{ accessFlags := 25, nameIndex := 507, descriptorIndex := 526, attributes := #[] }, { accessFlags := 25, nameIndex := 399, descriptorIndex := 155, attributes := #[] }, { accessFlags := 25, nameIndex := 396, descriptorIndex := 155, attributes := #[] }, { accessFlags := 10, nameIndex := 525, descriptorIndex := 526, attributes := #[] }, { accessFlags := 26, nameIndex := 674, descriptorIndex := 12, attributes := #[] }, { accessFlags := 26, nameIndex := 677, descriptorIndex := 12, attributes := #[] }, { accessFlags := 10, nameIndex := 11, descriptorIndex := 12, attributes := #[] }, { accessFlags := 74, nameIndex := 175, descriptorIndex := 176, attributes := #[] }, { accessFlags := 10, nameIndex := 491, descriptorIndex := 222, attributes := #[] }, { accessFlags := 74, nameIndex := 29, descriptorIndex := 30, attributes := #[] }, { accessFlags := 74, nameIndex := 154, descriptorIndex := 155, attributes := #[] }, { accessFlags := 10, nameIndex := 217, descriptorIndex := 218, attributes := #[] }, { accessFlags := 10, nameIndex := 221, descriptorIndex := 222, attributes := #[] }, { accessFlags := 8, nameIndex := 562, descriptorIndex := 563, attributes := #[] }])
  fields := #[{ name := "in", type := (.object "java/io/InputStream"), accessFlags := 25, slot := 0, constantValue := 0 }, { name := "out", type := (.object "java/io/PrintStream"), accessFlags := 25, slot := 1, constantValue := 0 }, { name := "err", type := (.object "java/io/PrintStream"), accessFlags := 25, slot := 2, constantValue := 0 }, { name := "initialIn", type := (.object "java/io/InputStream"), accessFlags := 10, slot := 3, constantValue := 0 }, { name := "NEVER", type := .int, accessFlags := 26, slot := 4, constantValue := 0 }, { name := "MAYBE", type := .int, accessFlags := 26, slot := 5, constantValue := 0 }, { name := "allowSecurityManager", type := .int, accessFlags := 10, slot := 6, constantValue := 0 }, { name := "security", type := (.object "java/lang/SecurityManager"), accessFlags := 74, slot := 7, constantValue := 0 }, { name := "notSupportedJnuEncoding", type := (.object "java/lang/String"), accessFlags := 10, slot := 8, constantValue := 0 }, { name := "cons", type := (.object "java/io/Console"), accessFlags := 74, slot := 9, constantValue := 0 }, { name := "initialErrStream", type := (.object "java/io/PrintStream"), accessFlags := 74, slot := 10, constantValue := 0 }, { name := "props", type := (.object "java/util/Properties"), accessFlags := 10, slot := 11, constantValue := 0 }, { name := "lineSeparator", type := (.object "java/lang/String"), accessFlags := 10, slot := 12, constantValue := 0 }, { name := "bootLayer", type := (.object "java/lang/ModuleLayer"), accessFlags := 8, slot := 13, constantValue := 0 }]
  methods := #[k6m0, k6m1]
  instanceTypes := #[]
  staticTypes := #[(.object "java/io/InputStream"), (.object "java/io/PrintStream"), (.object "java/io/PrintStream"), (.object "java/io/InputStream"), .int, .int, .int, (.object "java/lang/SecurityManager"), (.object "java/lang/String"), (.object "java/io/Console"), (.object "java/io/PrintStream"), (.object "java/util/Properties"), (.object "java/lang/String"), (.object "java/lang/ModuleLayer")]
  resolved := Array.replicate 834 none
  statics := none }

def pool7 : Array CpInfo := pool [(1, .class_ 2), (0, u "java/lang/Cloneable"), (0, .class_ 4), (0, u "java/lang/Object")] 2

/-- java/lang/Cloneable -/
def k7 : Class := { plain "java/lang/Cloneable" (some 0) with
  accessFlags := 1537
  interfaces := #[]
  cf := some (fileOf pool7 1 #[] #[] 1537 3 #[] #[])
  fields := #[]
  methods := #[]
  instanceTypes := #[]
  staticTypes := #[]
  resolved := Array.replicate 7 none
  statics := none }

def pool8 : Array CpInfo := pool [(1, u "java/io/Serializable"), (0, .class_ 1), (0, u "java/lang/Object"), (0, .class_ 3)] 3

/-- java/io/Serializable -/
def k8 : Class := { plain "java/io/Serializable" (some 0) with
  accessFlags := 1537
  interfaces := #[]
  cf := some (fileOf pool8 2 #[] #[] 1537 4 #[] #[])
  fields := #[]
  methods := #[]
  instanceTypes := #[]
  staticTypes := #[]
  resolved := Array.replicate 8 none
  statics := none }

/-- the primitive byte -/
def k9 : Class := { plain "byte" none with kind := .primitive 'B', accessFlags := 0x411 }
/-- [B -/
def k10 : Class := { plain "[B" (some 0) with kind := .array 9 .byte, interfaces := #[7, 8], accessFlags := 1041 }

/-- the primitive int -/
def k11 : Class := { plain "int" none with kind := .primitive 'I', accessFlags := 0x411 }
/-- [I -/
def k12 : Class := { plain "[I" (some 0) with kind := .array 11 .int, interfaces := #[7, 8], accessFlags := 1041 }

def heap : Heap := #[]
def classes : Array Class := #[k0, k1, k2, k3, k4, k5, k6, k7, k8, k9, k10, k11, k12]
def interned : List (Array UInt16 × Addr) := []
def slotsUsed : Nat := 0
def theMethod : MethodId := ⟨1, 1⟩
def args0 : Array Value := #[.long 72623859790382856, .int 2, .int 3, .int 48]
def aboutOver (below : List Frame) : State where
  vm := { classes := classes, interned := interned.toArray }
  heap := heap
  slotsUsed := slotsUsed
  threads := #[{ frames := .invoking theMethod args0 :: below }]
def below0 : List Frame := [.native { method := ⟨0, 0⟩, args := #[] }]
def about1 : State := aboutOver below0
def p0 : Program := .bare "" "" ""
def e0 : Env := launch0.env 0 0 0
theorem w_frames : about1.frames = Frame.invoking theMethod args0 :: below0 := rfl
set_option maxRecDepth 65536 in
theorem w_args : argsFit about1.vm theMethod args0 = true := by decide +kernel
set_option maxRecDepth 65536 in
theorem w_heap : heapFits about1 = true := by decide +kernel
set_option maxRecDepth 65536 in
theorem w_runnable : about1.curStatus? = some .runnable := by decide +kernel
set_option maxRecDepth 65536 in
theorem w_alone : about1.alone = true := by decide +kernel
set_option maxRecDepth 65536 in
theorem w_named : about1.methodNamed? x = some theMethod := by decide +kernel
set_option maxRecDepth 65536 in
theorem w_hears : about1.hears theMethod below0 = true := by decide +kernel
set_option maxRecDepth 65536 in
theorem w_ripe : about1.ripe theMethod args0 below0 = true := by decide +kernel
theorem w_running : about1.status = .running := rfl
set_option maxRecDepth 65536 in
theorem w_room : about1.hasRoom e0.platform room_1 = true :=
  launch0.hasRoom_least _ room_1 (by decide +kernel) (by decide +kernel) (by decide +kernel) (by decide +kernel) (by decide +kernel) (by decide +kernel)
theorem allAtoms_all (ts : List Jvm.Cond) (a : Array Jvm.Value) (st : Jvm.State) : (allAtoms ts).before a st = ts.all (fun c => c.before a st) := by
  induction ts with
  | nil => rfl
  | cons c t ih =>
    show (Jvm.Cond.and c (allAtoms t)).before a st = _
    rw [Jvm.Cond.before_and, ih, List.all_cons]
def words1 : List Jvm.Cond := Jvm.Cond.code x code maxLocals ret :: tables_1
/-- a 'code' word, met by the world's own term for the bytes: nothing is compared byte by byte -/
theorem code_word {y : MethodName} {bytes : ByteArray} {mx : Nat} {rt : Option FieldType} {a : Array Value} {s : State} {m : MethodId} {meth : Method} {c : Code} (h1 : s.methodNamed? y = some m) (h2 : s.vm.method? m = some meth) (h3 : meth.code = some c) (h4 : c.code = bytes)
    (h5 : (c.maxLocals == mx && c.exceptionTable.isEmpty && decide (c.maxStack ≤ mostOperands) && decide (meth.sig.returnType = rt) && !meth.locks && decide (parseMethodDescriptor y.desc = some meth.sig)) = true) : (Jvm.Cond.code y bytes mx rt).before a s = true := by
  simp only [Bool.and_eq_true, beq_iff_eq, Bool.not_eq_true', decide_eq_true_eq] at h5
  obtain ⟨⟨⟨⟨⟨g1, g2⟩, g3⟩, g4⟩, g5⟩, g6⟩ := h5
  simp [Cond.before, Cond.holds, Cond.value, h1, h2, h3, h4, g1, g2, g3, g4, g5, g6]
def isCode : Jvm.Cond → Bool
  | .code _ _ _ _ => true
  | _ => false
theorem all_split {L : List Jvm.Cond} {P : Jvm.Cond → Bool} (h1 : L.all (fun c => isCode c || P c) = true) (h2 : ∀ c ∈ L.filter isCode, P c = true) : L.all P = true := by
  refine List.all_eq_true.mpr fun c hc => ?_
  have h := List.all_eq_true.mp h1 c hc
  rcases Bool.eq_false_or_eq_true (isCode c) with hi | hi
  · exact h2 c (List.mem_filter.mpr ⟨hc, hi⟩)
  · simpa [hi] using h
set_option maxRecDepth 65536 in
theorem w_c0 : (Jvm.Cond.code x code maxLocals ret).before args0 about1 = true := code_word (m := ⟨1, 1⟩) (meth := k1m1) (c := k1c1) (by decide +kernel) rfl rfl rfl (by decide +kernel)
set_option maxRecDepth 65536 in
theorem w_c1 : (Jvm.Cond.code ({ cls := "com/example/ticketbridge/ticketbridge/io/DerContentPinLaw", name := "byteAt", desc := "(JI)B" } : Jvm.MethodName) method_3_code (3 : Nat) (Option.some Jvm.ClassFile.FieldType.byte)).before args0 about1 = true := code_word (m := ⟨1, 2⟩) (meth := k1m2) (c := k1c2) (by decide +kernel) rfl rfl rfl (by decide +kernel)
set_option maxRecDepth 65536 in
theorem w_c2 : (Jvm.Cond.code ({ cls := "com/example/ticketbridge/ticketbridge/io/Der", name := "<init>", desc := "([BIII)V" } : Jvm.MethodName) prog_3_method_1_code (5 : Nat) (Option.none : Option Jvm.ClassFile.FieldType)).before args0 about1 = true := code_word (m := ⟨3, 0⟩) (meth := k3m0) (c := k3c0) (by decide +kernel) rfl rfl rfl (by decide +kernel)
set_option maxRecDepth 65536 in
theorem w_c3 : (Jvm.Cond.code ({ cls := "java/lang/Record", name := "<init>", desc := "()V" } : Jvm.MethodName) jdk_30_method_1_code (1 : Nat) (Option.none : Option Jvm.ClassFile.FieldType)).before args0 about1 = true := code_word (m := ⟨2, 0⟩) (meth := k2m0) (c := k2c0) (by decide +kernel) rfl rfl rfl (by decide +kernel)
set_option maxRecDepth 65536 in
theorem w_c4 : (Jvm.Cond.code ({ cls := "java/lang/Object", name := "<init>", desc := "()V" } : Jvm.MethodName) object_method_1_code (1 : Nat) (Option.none : Option Jvm.ClassFile.FieldType)).before args0 about1 = true := code_word (m := ⟨0, 0⟩) (meth := k0m0) (c := k0c0) (by decide +kernel) rfl rfl rfl (by decide +kernel)
set_option maxRecDepth 65536 in
theorem w_c5 : (Jvm.Cond.code ({ cls := "com/example/ticketbridge/ticketbridge/io/Der", name := "content", desc := "()[B" } : Jvm.MethodName) prog_3_method_9_code (1 : Nat) (Option.some (Jvm.ClassFile.FieldType.array Jvm.ClassFile.FieldType.byte))).before args0 about1 = true := code_word (m := ⟨3, 1⟩) (meth := k3m1) (c := k3c1) (by decide +kernel) rfl rfl rfl (by decide +kernel)
set_option maxRecDepth 65536 in
theorem w_c6 : (Jvm.Cond.code ({ cls := "java/util/Arrays", name := "copyOfRange", desc := "([BII)[B" } : Jvm.MethodName) jdk_65_method_132_code (3 : Nat) (Option.some (Jvm.ClassFile.FieldType.array Jvm.ClassFile.FieldType.byte))).before args0 about1 = true := code_word (m := ⟨4, 2⟩) (meth := k4m2) (c := k4c2) (by decide +kernel) rfl rfl rfl (by decide +kernel)
set_option maxRecDepth 65536 in
theorem w_c7 : (Jvm.Cond.code ({ cls := "java/util/Arrays", name := "copyOfRangeByte", desc := "([BII)[B" } : Jvm.MethodName) jdk_65_method_133_code (5 : Nat) (Option.some (Jvm.ClassFile.FieldType.array Jvm.ClassFile.FieldType.byte))).before args0 about1 = true := code_word (m := ⟨4, 3⟩) (meth := k4m3) (c := k4c3) (by decide +kernel) rfl rfl rfl (by decide +kernel)
set_option maxRecDepth 65536 in
theorem w_c8 : (Jvm.Cond.code ({ cls := "java/util/Arrays", name := "checkLength", desc := "(II)V" } : Jvm.MethodName) jdk_65_method_131_code (2 : Nat) (Option.none : Option Jvm.ClassFile.FieldType)).before args0 about1 = true := code_word (m := ⟨4, 1⟩) (meth := k4m1) (c := k4c1) (by decide +kernel) rfl rfl rfl (by decide +kernel)
set_option maxRecDepth 65536 in
theorem w_c9 : (Jvm.Cond.code ({ cls := "java/lang/Math", name := "min", desc := "(II)I" } : Jvm.MethodName) jdk_29_method_69_code (2 : Nat) (Option.some Jvm.ClassFile.FieldType.int)).before args0 about1 = true := code_word (m := ⟨5, 1⟩) (meth := k5m1) (c := k5c1) (by decide +kernel) rfl rfl rfl (by decide +kernel)
set_option maxRecDepth 65536 in
theorem w_c10 : (Jvm.Cond.code ({ cls := "com/example/ticketbridge/ticketbridge/io/DerContentPinLaw", name := "at", desc := "([BIJI)Z" } : Jvm.MethodName) method_4_code (5 : Nat) (Option.some Jvm.ClassFile.FieldType.boolean)).before args0 about1 = true := code_word (m := ⟨1, 3⟩) (meth := k1m3) (c := k1c3) (by decide +kernel) rfl rfl rfl (by decide +kernel)
def codes1 : List Jvm.Cond := [Jvm.Cond.code x code maxLocals ret, Jvm.Cond.code ({ cls := "com/example/ticketbridge/ticketbridge/io/DerContentPinLaw", name := "byteAt", desc := "(JI)B" } : Jvm.MethodName) method_3_code (3 : Nat) (Option.some Jvm.ClassFile.FieldType.byte), Jvm.Cond.code ({ cls := "com/example/ticketbridge/ticketbridge/io/Der", name := "<init>", desc := "([BIII)V" } : Jvm.MethodName) prog_3_method_1_code (5 : Nat) (Option.none : Option Jvm.ClassFile.FieldType), Jvm.Cond.code ({ cls := "java/lang/Record", name := "<init>", desc := "()V" } : Jvm.MethodName) jdk_30_method_1_code (1 : Nat) (Option.none : Option Jvm.ClassFile.FieldType), Jvm.Cond.code ({ cls := "java/lang/Object", name := "<init>", desc := "()V" } : Jvm.MethodName) object_method_1_code (1 : Nat) (Option.none : Option Jvm.ClassFile.FieldType), Jvm.Cond.code ({ cls := "com/example/ticketbridge/ticketbridge/io/Der", name := "content", desc := "()[B" } : Jvm.MethodName) prog_3_method_9_code (1 : Nat) (Option.some (Jvm.ClassFile.FieldType.array Jvm.ClassFile.FieldType.byte)), Jvm.Cond.code ({ cls := "java/util/Arrays", name := "copyOfRange", desc := "([BII)[B" } : Jvm.MethodName) jdk_65_method_132_code (3 : Nat) (Option.some (Jvm.ClassFile.FieldType.array Jvm.ClassFile.FieldType.byte)), Jvm.Cond.code ({ cls := "java/util/Arrays", name := "copyOfRangeByte", desc := "([BII)[B" } : Jvm.MethodName) jdk_65_method_133_code (5 : Nat) (Option.some (Jvm.ClassFile.FieldType.array Jvm.ClassFile.FieldType.byte)), Jvm.Cond.code ({ cls := "java/util/Arrays", name := "checkLength", desc := "(II)V" } : Jvm.MethodName) jdk_65_method_131_code (2 : Nat) (Option.none : Option Jvm.ClassFile.FieldType), Jvm.Cond.code ({ cls := "java/lang/Math", name := "min", desc := "(II)I" } : Jvm.MethodName) jdk_29_method_69_code (2 : Nat) (Option.some Jvm.ClassFile.FieldType.int), Jvm.Cond.code ({ cls := "com/example/ticketbridge/ticketbridge/io/DerContentPinLaw", name := "at", desc := "([BIJI)Z" } : Jvm.MethodName) method_4_code (5 : Nat) (Option.some Jvm.ClassFile.FieldType.boolean)]
set_option maxRecDepth 65536 in
theorem codes_eq : words1.filter isCode = codes1 := rfl
theorem w_codes : ∀ c ∈ words1.filter isCode, c.before args0 about1 = true := by
  rw [codes_eq]
  intro c hc
  simp only [codes1, List.mem_cons, List.not_mem_nil, or_false] at hc
  rcases hc with rfl | rfl | rfl | rfl | rfl | rfl | rfl | rfl | rfl | rfl | rfl
  · exact w_c0
  · exact w_c1
  · exact w_c2
  · exact w_c3
  · exact w_c4
  · exact w_c5
  · exact w_c6
  · exact w_c7
  · exact w_c8
  · exact w_c9
  · exact w_c10
set_option maxRecDepth 65536 in
theorem w_t1 : (words1.take 24).all (fun c => isCode c || c.before args0 about1) = true := by decide +kernel
set_option maxRecDepth 65536 in
theorem w_t2 : ((words1.drop 24).take 24).all (fun c => isCode c || c.before args0 about1) = true := by decide +kernel
set_option maxRecDepth 65536 in
theorem w_t3 : ((words1.drop 24).drop 24).all (fun c => isCode c || c.before args0 about1) = true := by decide +kernel
theorem w_tables : (allAtoms (Jvm.Cond.code x code maxLocals ret :: tables_1)).before args0 about1 = true := by
  rw [allAtoms_all]
  show words1.all (fun c => c.before args0 about1) = true
  refine all_split ?_ w_codes
  rw [← List.take_append_drop 24 words1, List.all_append, w_t1, ← List.take_append_drop 24 (words1.drop 24), List.all_append, w_t2, w_t3]
  rfl
set_option maxRecDepth 65536 in
theorem w_case : (Jvm.Cond.and given_1 narrow_1).before args0 about1 = true := by decide +kernel
theorem w_applies : (headSpec (Jvm.Cond.code x code maxLocals ret :: tables_1) room_1).applies x e0.platform about1 = true :=
  (Spec.applies_iff w_frames).mpr ⟨w_running, w_runnable, w_alone, w_named, w_hears, w_ripe, w_room, w_tables⟩
theorem atStart : AtStart classFile x code maxLocals ret World_1 tables_1 room_1 Calls_1 rest_1 Pre_1 launch0 p0 e0 about1 theMethod args0 below0 :=
  ⟨lists_1, trivial, launch0.admits_env _ _ _, launch0.least_env, fairChoices_fair.cas, fairChoices_fair.clock, w_frames, w_args, w_heap, w_applies, trivial, trivial, w_case⟩
end start1
theorem witness_1 : WitnessClaimed_1 := ⟨start1.p0, start1.e0, start1.about1, start1.theMethod, start1.args0, start1.below0, start1.atStart⟩
end Jvm.Pilot.@@N@@

import JvmDerived
import JvmDerived.Pilot.@@N@@Statement
import JvmDerived.Pilot.@@N@@Code
set_option linter.unusedVariables false
set_option linter.unusedSimpArgs false
namespace Jvm.RoadKit
open Sem ClassFile Op Lib Jvm.Stand Jvm.Free Jvm.LawKit
section New
variable {p : Program} {l : Launch} {e : Env} {R : Room} {s : State} {m : MethodId} {args : Array Value} {below : List Frame} {meth : Method} {c : Code} {T : State} {locs : List Loc} {cells slots : Nat}
theorem retI (X : Stand p l e R s m args below meth c T locs cells slots) (hx : p.tables.exec = Jvm.exec) {pc : Nat} {Ls : Array Slot} {z : Int32} {rest : List Value} (hret : meth.sig.returnType = some .int) (hd : decode c.code pc = .ok (.ireturn, 1)) {fs : List Frame}
    (hl : ∀ (f : JFrame) (acts : List Action), f.method = m → f.locked = none → f.entered = [] → (doReturn e (T.setTop f) acts (some (.int z))).1 = T.setFrames fs) : Steps p.tables e below (T.setTop (mkF m pc Ls (.int z :: rest))) (T.setFrames fs) := by
  have hm' : T.vm.method? m = some meth := X.method'
  have hn : narrow .int (.int z) = .int z := rfl
  show Steps p.tables e below (T.setTop { method := m, pc := pc, locals := Ls, stack := _ :: rest, locked := none }) _
  jvm_step X.here [X.here.top, hx, hd, hm', hret, hn]
  first | (intro acts; rw [hl _ acts rfl rfl rfl]) | rw [hl _ _ rfl rfl rfl]
  exact Steps.refl _
end New
end Jvm.RoadKit
namespace Jvm.Pilot.@@N@@
open Jvm Jvm.ClassFile Sem Op Lib Jvm.Free Jvm.Stand Jvm.LawKit Jvm.RoadKit Bundle Jvm.Pilot.@@N@@.Jvm.D

theorem own_nb {c : Prop} [Decidable c] : nar .boolean (if c then (1 : Int32) else (0 : Int32)) = (if c then (1 : Int32) else (0 : Int32)) := by
  by_cases h : c
  · rw [if_pos h]; rfl
  · rw [if_neg h]; rfl
theorem own_n1 : nar .boolean (1 : Int32) = (1 : Int32) := rfl
theorem own_n0 : nar .boolean (0 : Int32) = (0 : Int32) := rfl

open Jvm.FP.Core in
theorem own_i2d (a : Int32) (h : a.toInt ≠ 0) : val64 (FP.i2d a) = .fin (decide (a.toInt < 0)) (a.toInt.natAbs * 2 ^ (52 - a.toInt.natAbs.log2)) ((a.toInt.natAbs.log2 : Int) - 52) ∧ a.toInt.natAbs.log2 ≤ 31 ∧ 2 ^ 52 ≤ a.toInt.natAbs * 2 ^ (52 - a.toInt.natAbs.log2) ∧ a.toInt.natAbs * 2 ^ (52 - a.toInt.natAbs.log2) < 2 ^ 53 := by
  have hr := rng32 a
  obtain ⟨n, hn⟩ : ∃ n, n = a.toInt.natAbs := ⟨_, rfl⟩
  have h0 : n ≠ 0 := by omega
  have h1 : n ≤ 2 ^ 31 := by omega
  obtain ⟨L, hL⟩ : ∃ L, L = n.log2 := ⟨_, rfl⟩
  have h2 : 2 ^ L ≤ n := by rw [hL]; exact Nat.log2_self_le h0
  have h3 : n < 2 ^ (L + 1) := by rw [hL]; exact Nat.lt_log2_self
  have h4 : L ≤ 31 := by
    rcases Nat.lt_or_ge 31 L with q | q
    · exfalso
      have : 2 ^ 32 ≤ 2 ^ L := Nat.pow_le_pow_right (by decide) q
      omega
    · exact q
  have h5 : 2 ^ 52 ≤ n * 2 ^ (52 - L) := by
    have : 2 ^ L * 2 ^ (52 - L) = 2 ^ 52 := by rw [← Nat.pow_add]; congr 1; omega
    rw [← this]; exact Nat.mul_le_mul_right _ h2
  have h6 : n * 2 ^ (52 - L) < 2 ^ 53 := by
    have : 2 ^ (L + 1) * 2 ^ (52 - L) = 2 ^ 53 := by rw [← Nat.pow_add]; congr 1; omega
    rw [← this]; exact Nat.mul_lt_mul_of_pos_right h3 (Nat.two_pow_pos _)
  rw [← hn, ← hL]
  refine ⟨?_, h4, h5, h6⟩
  show val64 (i2d a) = _
  rw [val64_i2d]
  show roundRatio b64 (decide (a.toInt < 0)) a.toInt.natAbs 1 0 = _
  rw [← hn]
  refine roundRatio_exact good_b64 (by decide) ⟨h6, ?_, ?_, Or.inr ?_⟩ ?_
  · have : b64.qmin = -1074 := by decide
    omega
  · have : b64.qmax = 971 := by decide
    omega
  · have : b64.tails = 2 ^ 52 := by decide
    omega
  · have e1 : (0 - ((L : Int) - 52)).toNat = 52 - L := by omega
    have e2 : ((L : Int) - 52 - 0).toNat = 0 := by omega
    rw [e1, e2]; simp
theorem own_cmpmul (a b : Int) (F : Nat) (hF : 0 < F) : compare (a * (F : Int)) (b * (F : Int)) = compare a b := by
  have hp : (0 : Int) < (F : Int) := by omega
  rcases Int.lt_trichotomy a b with h | h | h
  · rw [Int.compare_eq_lt.mpr h, Int.compare_eq_lt.mpr (Int.mul_lt_mul_of_pos_right h hp)]
  · rw [h, Int.compare_eq_eq.mpr rfl, Int.compare_eq_eq.mpr rfl]
  · rw [Int.compare_eq_gt.mpr h, Int.compare_eq_gt.mpr (Int.mul_lt_mul_of_pos_right h hp)]
def own_scale (sc : Int32) (k : Nat) : Prop := k ≤ 3 ∧ sc.toInt = ((2 ^ k : Nat) : Int) ∧ FP.Core.val64 (FP.i2d sc) = .fin false (2 ^ 52) ((k : Int) - 52)
open Jvm.FP.Core in
theorem own_quo (s t : Bool) (c d : Nat) (q r : Int) (h : d ≠ 0) : quotient b64 (.fin s c q) (.fin t d r) = roundRatio b64 (s != t) c d (q - r) := by
  unfold quotient
  exact if_neg h
open Jvm.FP.Core in
theorem own_ord (s t : Bool) (c d : Nat) (q r : Int) : order (.fin s c q) (.fin t d r) = some (compare (signed s (inUnits c q (min q r))) (signed t (inUnits d r (min q r)))) := rfl
open Jvm.FP.Core in
theorem own_quot (a sc : Int32) (k : Nat) (hs : own_scale sc k) (t : Bool) (d : Nat) (r : Int) (v : Int) (j : Nat) (b : UInt64) (hb : val64 b = .fin t d r) (hd : signed t d = v * ((2 ^ j : Nat) : Int)) (hr : r = -(j : Int)) (hj : 4 ≤ j) (hj2 : j ≤ 60) :
    FP.dcmp (FP.ddiv (FP.i2d a) (FP.i2d sc)) b = some (compare a.toInt (v * sc.toInt)) := by
  obtain ⟨hk, hsc, hv⟩ := hs
  show order (val64 (ddiv (i2d a) (i2d sc))) (val64 b) = _
  rw [val64_ddiv, hb]
  have hv' : val64 (i2d sc) = .fin false (2 ^ 52) ((k : Int) - 52) := hv
  rw [hv']
  by_cases h0 : a.toInt = 0
  · have e0 : val64 (i2d a) = .fin false 0 b64.qmin := by
      rw [val64_i2d, h0]; rfl
    rw [e0]
    rw [own_quo _ _ _ _ _ _ (by decide)]
    unfold roundRatio
    rw [if_pos rfl]
    have hm : b64.qmin = -1074 := by decide
    rw [hm]
    have hmin : min (-1074 : Int) r = -1074 := by omega
    rw [own_ord]
    rw [hmin]
    have e1 : signed (false != false) (inUnits 0 (-1074) (-1074)) = 0 := by simp [inUnits, signed]
    rw [e1]
    unfold inUnits
    rw [signed_mul, hd, h0]
    obtain ⟨E, hE⟩ : ∃ E, E = (r - -1074).toNat := ⟨_, rfl⟩
    rw [← hE, hsc]
    congr 1
    have e2 := own_cmpmul 0 v (2 ^ j * 2 ^ E) (Nat.mul_pos (Nat.two_pow_pos _) (Nat.two_pow_pos _))
    have e3 := own_cmpmul 0 v (2 ^ k) (Nat.two_pow_pos _)
    rw [Int.zero_mul] at e2 e3
    rw [e3, ← e2]
    congr 1
    rw [Int.mul_assoc]; push_cast; rfl
  · obtain ⟨e1, h4, h5, h6⟩ := own_i2d a h0
    have e1' : val64 (i2d a) = _ := e1
    rw [e1']
    obtain ⟨n, hn⟩ : ∃ n, n = a.toInt.natAbs := ⟨_, rfl⟩
    rw [← hn] at h4 h5 h6 ⊢
    obtain ⟨L, hL⟩ : ∃ L, L = n.log2 := ⟨_, rfl⟩
    rw [← hL] at h4 h5 h6 ⊢
    rw [own_quo _ _ _ _ _ _ (by decide)]
    have e2 : roundRatio b64 (decide (a.toInt < 0) != false) (n * 2 ^ (52 - L)) (2 ^ 52) ((L : Int) - 52 - ((k : Int) - 52)) = .fin (decide (a.toInt < 0) != false) (n * 2 ^ (52 - L)) ((L : Int) - 52 - k) := by
      refine roundRatio_exact good_b64 (by decide) ⟨h6, ?_, ?_, Or.inr ?_⟩ ?_
      · have : b64.qmin = -1074 := by decide
        omega
      · have : b64.qmax = 971 := by decide
        omega
      · have : b64.tails = 2 ^ 52 := by decide
        omega
      · have q1 : ((L : Int) - 52 - ((k : Int) - 52) - ((L : Int) - 52 - k)).toNat = 52 := by omega
        have q2 : ((L : Int) - 52 - k - ((L : Int) - 52 - ((k : Int) - 52))).toNat = 0 := by omega
        rw [q1, q2]; simp
    rw [e2]
    rw [own_ord]
    obtain ⟨m, hm⟩ : ∃ m, m = min ((L : Int) - 52 - k) r := ⟨_, rfl⟩
    simp only [← hm]
    unfold inUnits
    obtain ⟨E, hE⟩ : ∃ E, E = (-(k : Int) - m).toNat := ⟨_, rfl⟩
    have q1 : (52 - L) + ((L : Int) - 52 - k - m).toNat = E := by omega
    have q2 : j + (r - m).toNat = k + E := by omega
    rw [Nat.mul_assoc, ← Nat.pow_add, q1, signed_mul, signed_mul, hd]
    have s1 : signed (decide (a.toInt < 0) != false) n = a.toInt := by
      unfold signed
      by_cases hneg : a.toInt < 0
      · simp [hneg]; omega
      · simp [hneg]; omega
    rw [s1, Int.mul_assoc]
    have s2 : ((2 ^ j : Nat) : Int) * ((2 ^ (r - m).toNat : Nat) : Int) = ((2 ^ k : Nat) : Int) * ((2 ^ E : Nat) : Int) := by
      rw [← Int.natCast_mul, ← Int.natCast_mul, ← Nat.pow_add, ← Nat.pow_add, q2]
    rw [s2, ← Int.mul_assoc, own_cmpmul _ _ _ (Nat.two_pow_pos _), hsc]
theorem own_sc {k sc m : Int32} (hk : k = (m &&& (3 : Int32))) (hs : sc = ((1 : Int32) <<< (k &&& 31))) : ∃ j, own_scale sc j := by
  have h1 := c_mask m 3 2 (by decide) (by decide)
  rw [← hk] at h1
  have h2 : k.toInt = 0 ∨ k.toInt = 1 ∨ k.toInt = 2 ∨ k.toInt = 3 := by omega
  have e : ∀ j : Int32, k.toInt = j.toInt → k = j := fun j q => Int32.toInt_inj.mp q
  rcases h2 with q | q | q | q
  · have := e 0 q; subst this; subst hs; exact ⟨0, by decide, by decide, by decide +kernel⟩
  · have := e 1 q; subst this; subst hs; exact ⟨1, by decide, by decide, by decide +kernel⟩
  · have := e 2 q; subst this; subst hs; exact ⟨2, by decide, by decide, by decide +kernel⟩
  · have := e 3 q; subst this; subst hs; exact ⟨3, by decide, by decide, by decide +kernel⟩
theorem own_nn (a : Int32) {sc : Int32} (h : ∃ j, own_scale sc j) : Jvm.Free.Fl.NoNaN64 (FP.ddiv (FP.i2d a) (FP.i2d sc)) := by
  obtain ⟨j, hk, h1, -⟩ := h
  refine Jvm.Free.Fl.ddiv_out (Jvm.Free.Fl.i2d_fin a).noNaN (Jvm.Free.Fl.i2d_fin sc) ?_
  refine Jvm.Free.Fl.i2d_nz ?_
  intro h0
  rw [h0] at h1
  have : (0 : Int32).toInt = 0 := rfl
  have : 0 < 2 ^ j := Nat.two_pow_pos j
  omega
theorem own_cv (o : Ordering) (z : Jvm.ClassFile.CmpOp) : (cmpValue (some o) z < (0 : Int32) ↔ o = .lt) ∧ ((0 : Int32) < cmpValue (some o) z ↔ o = .gt) := by
  cases o <;> cases z <;> decide
theorem own_plain {a sc r ex : Int32} {lv : UInt64} {lo hi av : Int64} (hs : ∃ j, own_scale sc j) (hl : lv = (FP.ddiv (FP.i2d a) (FP.i2d sc))) (h1 : lo = ((-128 : Int64) * (sc.toInt64))) (h2 : hi = ((127 : Int64) * (sc.toInt64))) (h3 : av = (a.toInt64))
    (he : ex = (if av < lo then (0 : Int32) else (if hi < av then (0 : Int32) else (1 : Int32)))) (hr : r = (if (cmpValue (FP.dcmp lv (13862079653046386688 : UInt64)) .l) < (0 : Int32) then (0 : Int32) else (if (0 : Int32) < (cmpValue (FP.dcmp lv (4638637247447433216 : UInt64)) .g) then (0 : Int32) else (1 : Int32)))) : r = ex := by
  obtain ⟨j, hs⟩ := hs
  have hsc := hs.2.1
  have hj := hs.1
  have p1 := own_quot a sc j hs true (2 ^ 52) (-45) (-128) 45 (13862079653046386688 : UInt64) (by decide +kernel) (by decide) (by decide) (by decide) (by decide)
  have p2 := own_quot a sc j hs false (127 * 2 ^ 46) (-46) 127 46 (4638637247447433216 : UInt64) (by decide +kernel) (by decide) (by decide) (by decide) (by decide)
  rw [← hl] at p1 p2
  rw [p1, p2] at hr
  have hp : (2 : Nat) ^ j ≤ 2 ^ 3 := Nat.pow_le_pow_right (by decide) hj
  have hp0 : 0 < (2 : Nat) ^ j := Nat.two_pow_pos j
  have es : sc.toInt64.toInt = sc.toInt := c_i2l sc
  have ea : av.toInt = a.toInt := by rw [h3]; exact c_i2l a
  have el : lo.toInt = -128 * sc.toInt := by
    rw [h1, XT.mul64 (x := -128) ⟨by show -2 ^ 63 ≤ (-128 : Int) * sc.toInt64.toInt; omega, by show (-128 : Int) * sc.toInt64.toInt < 2 ^ 63; omega⟩]
    show (-128 : Int) * sc.toInt64.toInt = _; omega
  have eh : hi.toInt = 127 * sc.toInt := by
    rw [h2, XT.mul64 (x := 127) ⟨by show -2 ^ 63 ≤ (127 : Int) * sc.toInt64.toInt; omega, by show (127 : Int) * sc.toInt64.toInt < 2 ^ 63; omega⟩]
    show (127 : Int) * sc.toInt64.toInt = _; omega
  have c1 : cmpValue (some (compare a.toInt (-128 * sc.toInt))) .l < (0 : Int32) ↔ av < lo := by
    rw [(own_cv _ _).1, Int.compare_eq_lt, Int64.lt_iff_toInt_lt, ea, el]
  have c2 : (0 : Int32) < cmpValue (some (compare a.toInt (127 * sc.toInt))) .g ↔ hi < av := by
    rw [(own_cv _ _).2, Int.compare_eq_gt, Int64.lt_iff_toInt_lt, ea, eh]
  rw [hr, he]
  by_cases d1 : av < lo
  · rw [if_pos d1, if_pos (c1.mpr d1)]
  · rw [if_neg d1, if_neg (fun z => d1 (c1.mp z))]
    by_cases d2 : hi < av
    · rw [if_pos d2, if_pos (c2.mpr d2)]
    · rw [if_neg d2, if_neg (fun z => d2 (c2.mp z))]

theorem pd_0 : parseMethodDescriptor "(D)Z" = some ⟨[.double], some .boolean⟩ := by decide +kernel
theorem d1_0 : decode prog_86_method_2_code 0 = .ok (.dload_n 0, 1) := by decide +kernel
theorem d1_1 : decode prog_86_method_2_code 1 = .ok (.ldc2_w 9, 3) := by decide +kernel
theorem d1_4 : decode prog_86_method_2_code 4 = .ok (.dcmp .l, 1) := by decide +kernel
theorem d1_5 : decode prog_86_method_2_code 5 = .ok (.ifCond .lt 15, 3) := by decide +kernel
theorem d1_8 : decode prog_86_method_2_code 8 = .ok (.dload_n 0, 1) := by decide +kernel
theorem d1_9 : decode prog_86_method_2_code 9 = .ok (.ldc2_w 11, 3) := by decide +kernel
theorem d1_12 : decode prog_86_method_2_code 12 = .ok (.dcmp .g, 1) := by decide +kernel
theorem d1_13 : decode prog_86_method_2_code 13 = .ok (.ifCond .gt 7, 3) := by decide +kernel
theorem d1_16 : decode prog_86_method_2_code 16 = .ok (.iconst 1, 1) := by decide +kernel
theorem d1_17 : decode prog_86_method_2_code 17 = .ok (.goto 4, 3) := by decide +kernel
theorem d1_20 : decode prog_86_method_2_code 20 = .ok (.iconst 0, 1) := by decide +kernel
theorem d1_21 : decode prog_86_method_2_code 21 = .ok (.ireturn, 1) := by decide +kernel
theorem pn_1 : plainName "com/example/watchful_controller/watchfulcontroller/util/SignalLevels" = true := by first | (simp [plainName, overriddenIn]; done) | decide +kernel
theorem ef_1 (m : MethodId) (x0 : UInt64) : entryFrame m #[(.double x0)] 2 = mkF m 0 #[.val (.double x0), .second] [] := by first | (simp [entryFrame, mkF, argsToLocals, Value.category]; done) | rfl
def Q1 (Z : State) (d1 : UInt64) (h0 : Heap) (n0 : Nat) (v : Option Value) (h : Heap) (L : List Loc) : Prop := v = some (.int (if (cmpValue (FP.dcmp d1 (13862079653046386688 : UInt64)) .l) < (0 : Int32) then (0 : Int32) else (if (0 : Int32) < (cmpValue (FP.dcmp d1 (4638637247447433216 : UInt64)) .g) then (0 : Int32) else (1 : Int32)))) ∧ Fr n0 L ∧ h = h0
set_option maxRecDepth 65536 in
set_option maxHeartbeats 40000000 in
theorem rm1 (l : Launch) (Z : State) (a0 : Array Value) (hw : ∀ d ∈ tables_1, d.before a0 Z = true) (ws : List Jvm.Cond) (d1 : UInt64) (h0 : Heap) (n0 : Nat) (Z0 : n0 ≤ h0.size) :
    MetFree l (⟨"com/example/watchful_controller/watchfulcontroller/util/SignalLevels", "isReportable", "(D)Z"⟩ : MethodName) (head1 (Jvm.Cond.code (⟨"com/example/watchful_controller/watchfulcontroller/util/SignalLevels", "isReportable", "(D)Z"⟩ : MethodName) prog_86_method_2_code 2 (some .boolean) :: ws) ({ frames := 0, cells := 0, slots := 0, locals := 0 } : Room)) (fun a U => a = #[(.double d1)] ∧ Z.Warmed39 U.vm ∧ U.heap = h0) (fun _ _ _ _ _ => True) (fun _ U o U' => ∃ v L, o = .returned v ∧ Q1 Z d1 h0 n0 v U'.heap L ∧ FrameEnd U o U' L ({ frames := 0, cells := 0, slots := 0, locals := 0 } : Room).cells ({ frames := 0, cells := 0, slots := 0, locals := 0 } : Room).slots) := by
  refine MetFree.of_bodySF (plainFor_of_name pn_1) hisR ?_
  intro p e s m args below meth c s₁ Bd hml0 hP hK
  obtain ⟨rfl, hZ, hh⟩ := hP
  have hx := Bd.exec
  have hby := Bd.bytes
  have hml : c.maxLocals = 2 := hml0
  have hown : s.vm.findClass "com/example/watchful_controller/watchfulcontroller/util/SignalLevels" = some m.cls := findClass_of_methodNamed Bd.named
  have hnm := (name_of_methodNamed Bd.named Bd.method).1
  have X0 : Stand p l e ({ frames := 0, cells := 0, slots := 0, locals := 0 } : Room) s m #[(.double d1)] below meth c s₁ [] 0 0 := Stand.of_body Bd
  have e0 : s₁.heap = h0 := by rw [← hh, Bd.state]; rfl
  have N0 := Fr.nil n0
  have K0 : Keep h0 h0 [] := Keep.refl _ _
  have P0 : ∀ t, Steps p.tables e below (s₁.setTop (mkF m 0 #[.val (.double d1), .second] [])) t → Steps p.tables e below (s₁.setTop (entryFrame m #[(.double d1)] 2)) t := fun t k => castTop (ef_1 m d1) k
  have P1 : ∀ t, Steps p.tables e below (s₁.setTop (mkF m 5 #[.val (.double d1), .second] [(.int (cmpValue (FP.dcmp d1 (13862079653046386688 : UInt64)) .l))])) t → Steps p.tables e below (s₁.setTop (entryFrame m #[(.double d1)] 2)) t := by
    intro t k
    refine P0 _ ?_
    jvm_step X0.here [X0.here.top, hx, (hb hby d1_0)]
    show Steps p.tables e below (s₁.setTop (mkF m 1 #[.val (.double d1), .second] [(.double d1)])) _
    refine X0.ldc2DoubleC hx hown (mvT hZ (hw _ (List.mem_of_getElem? (i := 6) rfl))) (g := (mkF m 1 #[.val (.double d1), .second] [(.double d1)])) rfl (hb hby d1_1) _ ?_
    show Steps p.tables e below (s₁.setTop (mkF m 4 #[.val (.double d1), .second] [(.double (13862079653046386688 : UInt64)), (.double d1)])) _
    jvm_step X0.here [X0.here.top, hx, (hb hby d1_4)]
    show Steps p.tables e below (s₁.setTop (mkF m 5 #[.val (.double d1), .second] [(.int (cmpValue (FP.dcmp d1 (13862079653046386688 : UInt64)) .l))])) _
    exact k
  by_cases c5 : (cmpValue (FP.dcmp d1 (13862079653046386688 : UInt64)) .l) < (0 : Int32)
  · have P2 : ∀ t, Steps p.tables e below (s₁.setTop (mkF m 21 #[.val (.double d1), .second] [(.int (0 : Int32))])) t → Steps p.tables e below (s₁.setTop (entryFrame m #[(.double d1)] 2)) t := by
      intro t k
      refine P1 _ ?_
      refine XS.ifYes X0.here hx rfl (pc0 := 5) (pc' := 20) rfl (hb hby d1_5) rfl (XT.i0_lt_t c5) (by decide) (by decide) ?_
      show Steps p.tables e below (s₁.setTop (mkF m 20 #[.val (.double d1), .second] [])) _
      refine XS.iconst X0.here hx rfl (hb hby d1_20) ?_
      show Steps p.tables e below (s₁.setTop (mkF m 21 #[.val (.double d1), .second] [(.int (0 : Int32))])) _
      exact k
    obtain ⟨fs, hr, hrun, hended, hW, hsame⟩ := X0.leave (v := some (.int (0 : Int32))) (fun h => by rw [Bd.returns] at h; cases h)
    refine ⟨_, _, P2 _ ?_, hrun, hended, _, _, rfl, ?_, ⟨_, rfl⟩, hW, hsame.mono (by decide) (by decide)⟩
    · exact retN X0 hx (t := .boolean) Bd.returns (by simp) (hb hby d1_21) hr
    · show Q1 Z d1 h0 n0 _ s₁.heap _
      rw [e0]
      exact ⟨by rw [if_pos c5], N0, rfl⟩
  · have P3 : ∀ t, Steps p.tables e below (s₁.setTop (mkF m 13 #[.val (.double d1), .second] [(.int (cmpValue (FP.dcmp d1 (4638637247447433216 : UInt64)) .g))])) t → Steps p.tables e below (s₁.setTop (entryFrame m #[(.double d1)] 2)) t := by
      intro t k
      refine P1 _ ?_
      refine XS.ifNo X0.here hx rfl (hb hby d1_5) rfl (XT.i0_lt_f c5) ?_
      show Steps p.tables e below (s₁.setTop (mkF m 8 #[.val (.double d1), .second] [])) _
      jvm_step X0.here [X0.here.top, hx, (hb hby d1_8)]
      show Steps p.tables e below (s₁.setTop (mkF m 9 #[.val (.double d1), .second] [(.double d1)])) _
      refine X0.ldc2DoubleC hx hown (mvT hZ (hw _ (List.mem_of_getElem? (i := 7) rfl))) (g := (mkF m 9 #[.val (.double d1), .second] [(.double d1)])) rfl (hb hby d1_9) _ ?_
      show Steps p.tables e below (s₁.setTop (mkF m 12 #[.val (.double d1), .second] [(.double (4638637247447433216 : UInt64)), (.double d1)])) _
      jvm_step X0.here [X0.here.top, hx, (hb hby d1_12)]
      show Steps p.tables e below (s₁.setTop (mkF m 13 #[.val (.double d1), .second] [(.int (cmpValue (FP.dcmp d1 (4638637247447433216 : UInt64)) .g))])) _
      exact k
    by_cases c13 : (0 : Int32) < (cmpValue (FP.dcmp d1 (4638637247447433216 : UInt64)) .g)
    · have P4 : ∀ t, Steps p.tables e below (s₁.setTop (mkF m 21 #[.val (.double d1), .second] [(.int (0 : Int32))])) t → Steps p.tables e below (s₁.setTop (entryFrame m #[(.double d1)] 2)) t := by
        intro t k
        refine P3 _ ?_
        refine XS.ifYes X0.here hx rfl (pc0 := 13) (pc' := 20) rfl (hb hby d1_13) rfl (XT.i0_gt_t c13) (by decide) (by decide) ?_
        show Steps p.tables e below (s₁.setTop (mkF m 20 #[.val (.double d1), .second] [])) _
        refine XS.iconst X0.here hx rfl (hb hby d1_20) ?_
        show Steps p.tables e below (s₁.setTop (mkF m 21 #[.val (.double d1), .second] [(.int (0 : Int32))])) _
        exact k
      obtain ⟨fs, hr, hrun, hended, hW, hsame⟩ := X0.leave (v := some (.int (0 : Int32))) (fun h => by rw [Bd.returns] at h; cases h)
      refine ⟨_, _, P4 _ ?_, hrun, hended, _, _, rfl, ?_, ⟨_, rfl⟩, hW, hsame.mono (by decide) (by decide)⟩
      · exact retN X0 hx (t := .boolean) Bd.returns (by simp) (hb hby d1_21) hr
      · show Q1 Z d1 h0 n0 _ s₁.heap _
        rw [e0]
        exact ⟨by rw [if_neg c5, if_pos c13], N0, rfl⟩
    · have P5 : ∀ t, Steps p.tables e below (s₁.setTop (mkF m 21 #[.val (.double d1), .second] [(.int (1 : Int32))])) t → Steps p.tables e below (s₁.setTop (entryFrame m #[(.double d1)] 2)) t := by
        intro t k
        refine P3 _ ?_
        refine XS.ifNo X0.here hx rfl (hb hby d1_13) rfl (XT.i0_gt_f c13) ?_
        show Steps p.tables e below (s₁.setTop (mkF m 16 #[.val (.double d1), .second] [])) _
        refine XS.iconst X0.here hx rfl (hb hby d1_16) ?_
        show Steps p.tables e below (s₁.setTop (mkF m 17 #[.val (.double d1), .second] [(.int (1 : Int32))])) _
        refine XS.goto X0.here hx rfl (pc0 := 17) (pc' := 21) rfl (hb hby d1_17) (by decide) (by decide) ?_
        show Steps p.tables e below (s₁.setTop (mkF m 21 #[.val (.double d1), .second] [(.int (1 : Int32))])) _
        exact k
      obtain ⟨fs, hr, hrun, hended, hW, hsame⟩ := X0.leave (v := some (.int (1 : Int32))) (fun h => by rw [Bd.returns] at h; cases h)
      refine ⟨_, _, P5 _ ?_, hrun, hended, _, _, rfl, ?_, ⟨_, rfl⟩, hW, hsame.mono (by decide) (by decide)⟩
      · exact retN X0 hx (t := .boolean) Bd.returns (by simp) (hb hby d1_21) hr
      · show Q1 Z d1 h0 n0 _ s₁.heap _
        rw [e0]
        exact ⟨by rw [if_neg c5, if_neg c13], N0, rfl⟩
theorem pn_0 : plainName "com/example/watchful_controller/watchfulcontroller/util/SignalLevelsIsReportablePinLaw" = true := by first | (simp [plainName, overriddenIn]; done) | decide +kernel
theorem ef_0 (m : MethodId) (x0 : Int32) (x1 : Int32) : entryFrame m #[(.int x0), (.int x1)] maxLocals = mkF m 0 #[.val (.int x0), .val (.int x1), .unset, .unset, .unset, .unset, .unset, .unset, .unset, .unset, .unset, .unset, .unset] [] := by first | (simp [entryFrame, mkF, argsToLocals, Value.category, maxLocals]; done) | rfl
def Q0 (Z : State) (p1 : Int32) (p2 : Int32) (h0 : Heap) (n0 : Nat) (v : Option Value) (h : Heap) (L : List Loc) : Prop := v = some (.int 1) ∧ Fr n0 L
set_option maxRecDepth 65536 in
set_option maxHeartbeats 40000000 in
theorem rm0 (l : Launch) (Z : State) (a0 : Array Value) (hw : ∀ d ∈ tables_1, d.before a0 Z = true) (ws : List Jvm.Cond) (p1 : Int32) (p2 : Int32) (h0 : Heap) (n0 : Nat) (Z0 : n0 ≤ h0.size) :
    MetFree l x (head1 (Jvm.Cond.code x code maxLocals ret :: ws) room_1) (fun a U => a = #[(.int p1), (.int p2)] ∧ Z.Warmed39 U.vm ∧ U.heap = h0) (fun _ _ _ _ _ => True) (fun _ U o U' => ∃ v L, o = .returned v ∧ Q0 Z p1 p2 h0 n0 v U'.heap L ∧ FrameEnd U o U' L room_1.cells room_1.slots) := by
  refine MetFree.of_bodySF (plainFor_of_name pn_0) hisR ?_
  intro p e s m args below meth c s₁ Bd hml0 hP hK
  obtain ⟨rfl, hZ, hh⟩ := hP
  have hx := Bd.exec
  have hby := Bd.bytes
  have hml : c.maxLocals = 13 := hml0
  have hown : s.vm.findClass "com/example/watchful_controller/watchfulcontroller/util/SignalLevelsIsReportablePinLaw" = some m.cls := findClass_of_methodNamed Bd.named
  have hnm := (name_of_methodNamed Bd.named Bd.method).1
  have X0 : Stand p l e room_1 s m #[(.int p1), (.int p2)] below meth c s₁ [] 0 0 := Stand.of_body Bd
  have e0 : s₁.heap = h0 := by rw [← hh, Bd.state]; rfl
  have N0 := Fr.nil n0
  have K0 : Keep h0 h0 [] := Keep.refl _ _
  have P0 : ∀ t, Steps p.tables e below (s₁.setTop (mkF m 0 #[.val (.int p1), .val (.int p2), .unset, .unset, .unset, .unset, .unset, .unset, .unset, .unset, .unset, .unset, .unset] [])) t → Steps p.tables e below (s₁.setTop (entryFrame m #[(.int p1), (.int p2)] maxLocals)) t := fun t k => castTop (ef_0 m p1 p2) k
  have P1 : ∀ t, Steps p.tables e below (s₁.setTop (mkF m 4 #[.val (.int p1), .val (.int p2), .val (.int (p2 &&& (3 : Int32))), .unset, .unset, .unset, .unset, .unset, .unset, .unset, .unset, .unset, .unset] [])) t → Steps p.tables e below (s₁.setTop (entryFrame m #[(.int p1), (.int p2)] maxLocals)) t := by
    intro t k
    refine P0 _ ?_
    refine XS.iloadN X0.here hx rfl (hb hby at_0) rfl ?_
    show Steps p.tables e below (s₁.setTop (mkF m 1 #[.val (.int p1), .val (.int p2), .unset, .unset, .unset, .unset, .unset, .unset, .unset, .unset, .unset, .unset, .unset] [(.int p2)])) _
    refine XS.iconst X0.here hx rfl (hb hby at_1) ?_
    show Steps p.tables e below (s₁.setTop (mkF m 2 #[.val (.int p1), .val (.int p2), .unset, .unset, .unset, .unset, .unset, .unset, .unset, .unset, .unset, .unset, .unset] [(.int (3 : Int32)), (.int p2)])) _
    refine XS.iand X0.here hx rfl (hb hby at_2) rfl ?_
    show Steps p.tables e below (s₁.setTop (mkF m 3 #[.val (.int p1), .val (.int p2), .unset, .unset, .unset, .unset, .unset, .unset, .unset, .unset, .unset, .unset, .unset] [(.int (p2 &&& (3 : Int32)))])) _
    refine XS.istoreN X0.here hx rfl (hb hby at_3) rfl (l' := #[.val (.int p1), .val (.int p2), .val (.int (p2 &&& (3 : Int32))), .unset, .unset, .unset, .unset, .unset, .unset, .unset, .unset, .unset, .unset]) rfl ?_
    show Steps p.tables e below (s₁.setTop (mkF m 4 #[.val (.int p1), .val (.int p2), .val (.int (p2 &&& (3 : Int32))), .unset, .unset, .unset, .unset, .unset, .unset, .unset, .unset, .unset, .unset] [])) _
    exact k
  obtain ⟨kx, hkx⟩ : ∃ z : Int32, z = (p2 &&& (3 : Int32)) := ⟨_, rfl⟩
  rw [← hkx] at P1
  have P2 : ∀ t, Steps p.tables e below (s₁.setTop (mkF m 8 #[.val (.int p1), .val (.int p2), .val (.int kx), .val (.int ((1 : Int32) <<< (kx &&& 31))), .unset, .unset, .unset, .unset, .unset, .unset, .unset, .unset, .unset] [])) t → Steps p.tables e below (s₁.setTop (entryFrame m #[(.int p1), (.int p2)] maxLocals)) t := by
    intro t k
    refine P1 _ ?_
    refine XS.iconst X0.here hx rfl (hb hby at_4) ?_
    show Steps p.tables e below (s₁.setTop (mkF m 5 #[.val (.int p1), .val (.int p2), .val (.int kx), .unset, .unset, .unset, .unset, .unset, .unset, .unset, .unset, .unset, .unset] [(.int (1 : Int32))])) _
    refine XS.iloadN X0.here hx rfl (hb hby at_5) rfl ?_
    show Steps p.tables e below (s₁.setTop (mkF m 6 #[.val (.int p1), .val (.int p2), .val (.int kx), .unset, .unset, .unset, .unset, .unset, .unset, .unset, .unset, .unset, .unset] [(.int kx), (.int (1 : Int32))])) _
    refine XT.ishl X0.here hx rfl (hb hby at_6) rfl ?_
    show Steps p.tables e below (s₁.setTop (mkF m 7 #[.val (.int p1), .val (.int p2), .val (.int kx), .unset, .unset, .unset, .unset, .unset, .unset, .unset, .unset, .unset, .unset] [(.int ((1 : Int32) <<< (kx &&& 31)))])) _
    refine XS.istoreN X0.here hx rfl (hb hby at_7) rfl (l' := #[.val (.int p1), .val (.int p2), .val (.int kx), .val (.int ((1 : Int32) <<< (kx &&& 31))), .unset, .unset, .unset, .unset, .unset, .unset, .unset, .unset, .unset]) rfl ?_
    show Steps p.tables e below (s₁.setTop (mkF m 8 #[.val (.int p1), .val (.int p2), .val (.int kx), .val (.int ((1 : Int32) <<< (kx &&& 31))), .unset, .unset, .unset, .unset, .unset, .unset, .unset, .unset, .unset] [])) _
    exact k
  obtain ⟨sc, hsc⟩ : ∃ z : Int32, z = ((1 : Int32) <<< (kx &&& 31)) := ⟨_, rfl⟩
  rw [← hsc] at P2
  have hsk := own_sc hkx hsc
  have P3 : ∀ t, Steps p.tables e below (s₁.setTop (mkF m 13 #[.val (.int p1), .val (.int p2), .val (.int kx), .val (.int sc), .unset, .unset, .unset, .unset, .unset, .unset, .unset, .unset, .unset] [(.double (FP.ddiv (FP.i2d p1) (FP.i2d sc)))])) t → Steps p.tables e below (s₁.setTop (entryFrame m #[(.int p1), (.int p2)] maxLocals)) t := by
    intro t k
    refine P2 _ ?_
    refine XS.iloadN X0.here hx rfl (hb hby at_8) rfl ?_
    show Steps p.tables e below (s₁.setTop (mkF m 9 #[.val (.int p1), .val (.int p2), .val (.int kx), .val (.int sc), .unset, .unset, .unset, .unset, .unset, .unset, .unset, .unset, .unset] [(.int p1)])) _
    jvm_step X0.here [X0.here.top, hx, (hb hby at_9)]
    show Steps p.tables e below (s₁.setTop (mkF m 10 #[.val (.int p1), .val (.int p2), .val (.int kx), .val (.int sc), .unset, .unset, .unset, .unset, .unset, .unset, .unset, .unset, .unset] [(.double (FP.i2d p1))])) _
    refine XS.iloadN X0.here hx rfl (hb hby at_10) rfl ?_
    show Steps p.tables e below (s₁.setTop (mkF m 11 #[.val (.int p1), .val (.int p2), .val (.int kx), .val (.int sc), .unset, .unset, .unset, .unset, .unset, .unset, .unset, .unset, .unset] [(.int sc), (.double (FP.i2d p1))])) _
    jvm_step X0.here [X0.here.top, hx, (hb hby at_11)]
    show Steps p.tables e below (s₁.setTop (mkF m 12 #[.val (.int p1), .val (.int p2), .val (.int kx), .val (.int sc), .unset, .unset, .unset, .unset, .unset, .unset, .unset, .unset, .unset] [(.double (FP.i2d sc)), (.double (FP.i2d p1))])) _
    jvm_step X0.here [X0.here.top, hx, (hb hby at_12), Op.ddiv.at_number X0.here.top (own_nn p1 hsk)]
    show Steps p.tables e below (s₁.setTop (mkF m 13 #[.val (.int p1), .val (.int p2), .val (.int kx), .val (.int sc), .unset, .unset, .unset, .unset, .unset, .unset, .unset, .unset, .unset] [(.double (FP.ddiv (FP.i2d p1) (FP.i2d sc)))])) _
    exact k
  obtain ⟨lv, hlv⟩ : ∃ z : UInt64, z = (FP.ddiv (FP.i2d p1) (FP.i2d sc)) := ⟨_, rfl⟩
  rw [← hlv] at P3
  have P4 : ∀ t, Steps p.tables e below (s₁.setTop (mkF m 23 #[.val (.int p1), .val (.int p2), .val (.int kx), .val (.int sc), .val (.double lv), .second, .val (.long ((-128 : Int64) * (sc.toInt64))), .second, .unset, .unset, .unset, .unset, .unset] [])) t → Steps p.tables e below (s₁.setTop (entryFrame m #[(.int p1), (.int p2)] maxLocals)) t := by
    intro t k
    refine P3 _ ?_
    jvm_step X0.here [X0.here.top, hx, (hb hby at_13)]
    refine ⟨#[.val (.int p1), .val (.int p2), .val (.int kx), .val (.int sc), .val (.double lv), .second, .unset, .unset, .unset, .unset, .unset, .unset, .unset], rfl, ?_⟩
    show Steps p.tables e below (s₁.setTop (mkF m 15 #[.val (.int p1), .val (.int p2), .val (.int kx), .val (.int sc), .val (.double lv), .second, .unset, .unset, .unset, .unset, .unset, .unset, .unset] [])) _
    refine Jvm.Stand.ldc2J X0 hx hown (mvT hZ (hw _ (List.mem_of_getElem? (i := 0) rfl))) rfl (hb hby at_15) ?_
    show Steps p.tables e below (s₁.setTop (mkF m 18 #[.val (.int p1), .val (.int p2), .val (.int kx), .val (.int sc), .val (.double lv), .second, .unset, .unset, .unset, .unset, .unset, .unset, .unset] [(.long (-128 : Int64))])) _
    refine XS.iloadN X0.here hx rfl (hb hby at_18) rfl ?_
    show Steps p.tables e below (s₁.setTop (mkF m 19 #[.val (.int p1), .val (.int p2), .val (.int kx), .val (.int sc), .val (.double lv), .second, .unset, .unset, .unset, .unset, .unset, .unset, .unset] [(.int sc), (.long (-128 : Int64))])) _
    refine XT.i2l X0.here hx rfl (hb hby at_19) rfl ?_
    show Steps p.tables e below (s₁.setTop (mkF m 20 #[.val (.int p1), .val (.int p2), .val (.int kx), .val (.int sc), .val (.double lv), .second, .unset, .unset, .unset, .unset, .unset, .unset, .unset] [(.long (sc.toInt64)), (.long (-128 : Int64))])) _
    refine XT.lmul X0.here hx rfl (hb hby at_20) rfl ?_
    show Steps p.tables e below (s₁.setTop (mkF m 21 #[.val (.int p1), .val (.int p2), .val (.int kx), .val (.int sc), .val (.double lv), .second, .unset, .unset, .unset, .unset, .unset, .unset, .unset] [(.long ((-128 : Int64) * (sc.toInt64)))])) _
    refine XT.lstore X0.here hx rfl (hb hby at_21) rfl (l' := #[.val (.int p1), .val (.int p2), .val (.int kx), .val (.int sc), .val (.double lv), .second, .val (.long ((-128 : Int64) * (sc.toInt64))), .second, .unset, .unset, .unset, .unset, .unset]) rfl ?_
    show Steps p.tables e below (s₁.setTop (mkF m 23 #[.val (.int p1), .val (.int p2), .val (.int kx), .val (.int sc), .val (.double lv), .second, .val (.long ((-128 : Int64) * (sc.toInt64))), .second, .unset, .unset, .unset, .unset, .unset] [])) _
    exact k
  obtain ⟨lo, hlo⟩ : ∃ z : Int64, z = ((-128 : Int64) * (sc.toInt64)) := ⟨_, rfl⟩
  rw [← hlo] at P4
  have P5 : ∀ t, Steps p.tables e below (s₁.setTop (mkF m 31 #[.val (.int p1), .val (.int p2), .val (.int kx), .val (.int sc), .val (.double lv), .second, .val (.long lo), .second, .val (.long ((127 : Int64) * (sc.toInt64))), .second, .unset, .unset, .unset] [])) t → Steps p.tables e below (s₁.setTop (entryFrame m #[(.int p1), (.int p2)] maxLocals)) t := by
    intro t k
    refine P4 _ ?_
    refine Jvm.Stand.ldc2J X0 hx hown (mvT hZ (hw _ (List.mem_of_getElem? (i := 1) rfl))) rfl (hb hby at_23) ?_
    show Steps p.tables e below (s₁.setTop (mkF m 26 #[.val (.int p1), .val (.int p2), .val (.int kx), .val (.int sc), .val (.double lv), .second, .val (.long lo), .second, .unset, .unset, .unset, .unset, .unset] [(.long (127 : Int64))])) _
    refine XS.iloadN X0.here hx rfl (hb hby at_26) rfl ?_
    show Steps p.tables e below (s₁.setTop (mkF m 27 #[.val (.int p1), .val (.int p2), .val (.int kx), .val (.int sc), .val (.double lv), .second, .val (.long lo), .second, .unset, .unset, .unset, .unset, .unset] [(.int sc), (.long (127 : Int64))])) _
    refine XT.i2l X0.here hx rfl (hb hby at_27) rfl ?_
    show Steps p.tables e below (s₁.setTop (mkF m 28 #[.val (.int p1), .val (.int p2), .val (.int kx), .val (.int sc), .val (.double lv), .second, .val (.long lo), .second, .unset, .unset, .unset, .unset, .unset] [(.long (sc.toInt64)), (.long (127 : Int64))])) _
    refine XT.lmul X0.here hx rfl (hb hby at_28) rfl ?_
    show Steps p.tables e below (s₁.setTop (mkF m 29 #[.val (.int p1), .val (.int p2), .val (.int kx), .val (.int sc), .val (.double lv), .second, .val (.long lo), .second, .unset, .unset, .unset, .unset, .unset] [(.long ((127 : Int64) * (sc.toInt64)))])) _
    refine XT.lstore X0.here hx rfl (hb hby at_29) rfl (l' := #[.val (.int p1), .val (.int p2), .val (.int kx), .val (.int sc), .val (.double lv), .second, .val (.long lo), .second, .val (.long ((127 : Int64) * (sc.toInt64))), .second, .unset, .unset, .unset]) rfl ?_
    show Steps p.tables e below (s₁.setTop (mkF m 31 #[.val (.int p1), .val (.int p2), .val (.int kx), .val (.int sc), .val (.double lv), .second, .val (.long lo), .second, .val (.long ((127 : Int64) * (sc.toInt64))), .second, .unset, .unset, .unset] [])) _
    exact k
  obtain ⟨hi, hhi⟩ : ∃ z : Int64, z = ((127 : Int64) * (sc.toInt64)) := ⟨_, rfl⟩
  rw [← hhi] at P5
  have P6 : ∀ t, Steps p.tables e below (s₁.setTop (mkF m 35 #[.val (.int p1), .val (.int p2), .val (.int kx), .val (.int sc), .val (.double lv), .second, .val (.long lo), .second, .val (.long hi), .second, .val (.long (p1.toInt64)), .second, .unset] [])) t → Steps p.tables e below (s₁.setTop (entryFrame m #[(.int p1), (.int p2)] maxLocals)) t := by
    intro t k
    refine P5 _ ?_
    refine XS.iloadN X0.here hx rfl (hb hby at_31) rfl ?_
    show Steps p.tables e below (s₁.setTop (mkF m 32 #[.val (.int p1), .val (.int p2), .val (.int kx), .val (.int sc), .val (.double lv), .second, .val (.long lo), .second, .val (.long hi), .second, .unset, .unset, .unset] [(.int p1)])) _
    refine XT.i2l X0.here hx rfl (hb hby at_32) rfl ?_
    show Steps p.tables e below (s₁.setTop (mkF m 33 #[.val (.int p1), .val (.int p2), .val (.int kx), .val (.int sc), .val (.double lv), .second, .val (.long lo), .second, .val (.long hi), .second, .unset, .unset, .unset] [(.long (p1.toInt64))])) _
    refine XT.lstore X0.here hx rfl (hb hby at_33) rfl (l' := #[.val (.int p1), .val (.int p2), .val (.int kx), .val (.int sc), .val (.double lv), .second, .val (.long lo), .second, .val (.long hi), .second, .val (.long (p1.toInt64)), .second, .unset]) rfl ?_
    show Steps p.tables e below (s₁.setTop (mkF m 35 #[.val (.int p1), .val (.int p2), .val (.int kx), .val (.int sc), .val (.double lv), .second, .val (.long lo), .second, .val (.long hi), .second, .val (.long (p1.toInt64)), .second, .unset] [])) _
    exact k
  obtain ⟨av, hav⟩ : ∃ z : Int64, z = (p1.toInt64) := ⟨_, rfl⟩
  rw [← hav] at P6
  have P7 : ∀ t, Steps p.tables e below (s₁.setTop (mkF m 56 #[.val (.int p1), .val (.int p2), .val (.int kx), .val (.int sc), .val (.double lv), .second, .val (.long lo), .second, .val (.long hi), .second, .val (.long av), .second, .unset] [(.int (if av < lo then (0 : Int32) else (if hi < av then (0 : Int32) else (1 : Int32))))])) t → Steps p.tables e below (s₁.setTop (entryFrame m #[(.int p1), (.int p2)] maxLocals)) t := by
    intro t k
    refine P6 _ ?_
    refine XT.lload X0.here hx rfl (hb hby at_35) rfl ?_
    show Steps p.tables e below (s₁.setTop (mkF m 37 #[.val (.int p1), .val (.int p2), .val (.int kx), .val (.int sc), .val (.double lv), .second, .val (.long lo), .second, .val (.long hi), .second, .val (.long av), .second, .unset] [(.long av)])) _
    refine XT.lload X0.here hx rfl (hb hby at_37) rfl ?_
    show Steps p.tables e below (s₁.setTop (mkF m 39 #[.val (.int p1), .val (.int p2), .val (.int kx), .val (.int sc), .val (.double lv), .second, .val (.long lo), .second, .val (.long hi), .second, .val (.long av), .second, .unset] [(.long lo), (.long av)])) _
    refine XT.lcmp X0.here hx rfl (hb hby at_39) rfl ?_
    show Steps p.tables e below (s₁.setTop (mkF m 40 #[.val (.int p1), .val (.int p2), .val (.int kx), .val (.int sc), .val (.double lv), .second, .val (.long lo), .second, .val (.long hi), .second, .val (.long av), .second, .unset] [(.int (XT.cmpL av lo))])) _
    by_cases c40 : av < lo
    · try simp only [if_pos c40] at k
      refine XS.ifYes X0.here hx rfl (pc0 := 40) (pc' := 55) rfl (hb hby at_40) rfl (XT.ll_lt_t c40) (by decide) (by decide) ?_
      show Steps p.tables e below (s₁.setTop (mkF m 55 #[.val (.int p1), .val (.int p2), .val (.int kx), .val (.int sc), .val (.double lv), .second, .val (.long lo), .second, .val (.long hi), .second, .val (.long av), .second, .unset] [])) _
      refine XS.iconst X0.here hx rfl (hb hby at_55) ?_
      show Steps p.tables e below (s₁.setTop (mkF m 56 #[.val (.int p1), .val (.int p2), .val (.int kx), .val (.int sc), .val (.double lv), .second, .val (.long lo), .second, .val (.long hi), .second, .val (.long av), .second, .unset] [(.int (0 : Int32))])) _
      exact k
    · try simp only [if_neg c40] at k
      refine XS.ifNo X0.here hx rfl (hb hby at_40) rfl (XT.ll_lt_f c40) ?_
      show Steps p.tables e below (s₁.setTop (mkF m 43 #[.val (.int p1), .val (.int p2), .val (.int kx), .val (.int sc), .val (.double lv), .second, .val (.long lo), .second, .val (.long hi), .second, .val (.long av), .second, .unset] [])) _
      refine XT.lload X0.here hx rfl (hb hby at_43) rfl ?_
      show Steps p.tables e below (s₁.setTop (mkF m 45 #[.val (.int p1), .val (.int p2), .val (.int kx), .val (.int sc), .val (.double lv), .second, .val (.long lo), .second, .val (.long hi), .second, .val (.long av), .second, .unset] [(.long av)])) _
      refine XT.lload X0.here hx rfl (hb hby at_45) rfl ?_
      show Steps p.tables e below (s₁.setTop (mkF m 47 #[.val (.int p1), .val (.int p2), .val (.int kx), .val (.int sc), .val (.double lv), .second, .val (.long lo), .second, .val (.long hi), .second, .val (.long av), .second, .unset] [(.long hi), (.long av)])) _
      refine XT.lcmp X0.here hx rfl (hb hby at_47) rfl ?_
      show Steps p.tables e below (s₁.setTop (mkF m 48 #[.val (.int p1), .val (.int p2), .val (.int kx), .val (.int sc), .val (.double lv), .second, .val (.long lo), .second, .val (.long hi), .second, .val (.long av), .second, .unset] [(.int (XT.cmpL av hi))])) _
      by_cases c48 : hi < av
      · try simp only [if_pos c48] at k
        refine XS.ifYes X0.here hx rfl (pc0 := 48) (pc' := 55) rfl (hb hby at_48) rfl (XT.ll_gt_t c48) (by decide) (by decide) ?_
        show Steps p.tables e below (s₁.setTop (mkF m 55 #[.val (.int p1), .val (.int p2), .val (.int kx), .val (.int sc), .val (.double lv), .second, .val (.long lo), .second, .val (.long hi), .second, .val (.long av), .second, .unset] [])) _
        refine XS.iconst X0.here hx rfl (hb hby at_55) ?_
        show Steps p.tables e below (s₁.setTop (mkF m 56 #[.val (.int p1), .val (.int p2), .val (.int kx), .val (.int sc), .val (.double lv), .second, .val (.long lo), .second, .val (.long hi), .second, .val (.long av), .second, .unset] [(.int (0 : Int32))])) _
        exact k
      · try simp only [if_neg c48] at k
        refine XS.ifNo X0.here hx rfl (hb hby at_48) rfl (XT.ll_gt_f c48) ?_
        show Steps p.tables e below (s₁.setTop (mkF m 51 #[.val (.int p1), .val (.int p2), .val (.int kx), .val (.int sc), .val (.double lv), .second, .val (.long lo), .second, .val (.long hi), .second, .val (.long av), .second, .unset] [])) _
        refine XS.iconst X0.here hx rfl (hb hby at_51) ?_
        show Steps p.tables e below (s₁.setTop (mkF m 52 #[.val (.int p1), .val (.int p2), .val (.int kx), .val (.int sc), .val (.double lv), .second, .val (.long lo), .second, .val (.long hi), .second, .val (.long av), .second, .unset] [(.int (1 : Int32))])) _
        refine XS.goto X0.here hx rfl (pc0 := 52) (pc' := 56) rfl (hb hby at_52) (by decide) (by decide) ?_
        show Steps p.tables e below (s₁.setTop (mkF m 56 #[.val (.int p1), .val (.int p2), .val (.int kx), .val (.int sc), .val (.double lv), .second, .val (.long lo), .second, .val (.long hi), .second, .val (.long av), .second, .unset] [(.int (1 : Int32))])) _
        exact k
  obtain ⟨ex, hex⟩ : ∃ z : Int32, z = (if av < lo then (0 : Int32) else (if hi < av then (0 : Int32) else (1 : Int32))) := ⟨_, rfl⟩
  rw [← hex] at P7
  have P8 : ∀ t, Steps p.tables e below (s₁.setTop (mkF m 60 #[.val (.int p1), .val (.int p2), .val (.int kx), .val (.int sc), .val (.double lv), .second, .val (.long lo), .second, .val (.long hi), .second, .val (.long av), .second, .val (.int ex)] [(.double lv)])) t → Steps p.tables e below (s₁.setTop (entryFrame m #[(.int p1), (.int p2)] maxLocals)) t := by
    intro t k
    refine P7 _ ?_
    refine XS.istore X0.here hx rfl (hb hby at_56) rfl (l' := #[.val (.int p1), .val (.int p2), .val (.int kx), .val (.int sc), .val (.double lv), .second, .val (.long lo), .second, .val (.long hi), .second, .val (.long av), .second, .val (.int ex)]) rfl ?_
    show Steps p.tables e below (s₁.setTop (mkF m 58 #[.val (.int p1), .val (.int p2), .val (.int kx), .val (.int sc), .val (.double lv), .second, .val (.long lo), .second, .val (.long hi), .second, .val (.long av), .second, .val (.int ex)] [])) _
    jvm_step X0.here [X0.here.top, hx, (hb hby at_58)]
    show Steps p.tables e below (s₁.setTop (mkF m 60 #[.val (.int p1), .val (.int p2), .val (.int kx), .val (.int sc), .val (.double lv), .second, .val (.long lo), .second, .val (.long hi), .second, .val (.long av), .second, .val (.int ex)] [(.double lv)])) _
    exact k
  obtain ⟨_, _, ⟨T9, L9, k9, n9⟩, -, X9, ⟨Lc9, hQ9, l9, y9, z9⟩, st9⟩ := Jvm.LawKit.callS X0 hx (y := (⟨"com/example/watchful_controller/watchfulcontroller/util/SignalLevels", "isReportable", "(D)Z"⟩ : MethodName)) hown (mvT hZ (hw _ (List.mem_of_getElem? (i := 2) rfl))) (mvT hZ (hw _ (List.mem_of_getElem? (i := 3) rfl))) (mvT hZ (hw _ (List.mem_of_getElem? (i := 4) rfl))) (mvT hZ (hw _ (List.mem_of_getElem? (i := 5) rfl))) (by decide) (backOf (W := 0) (rm1 l Z a0 hw [] lv  h0 n0 Z0 ) hZ (hw _ (List.mem_of_getElem? (i := 5) rfl)) (hw _ (List.mem_of_getElem? (i := 4) rfl)) (by decide) (by decide)) (g := (mkF m 60 #[.val (.int p1), .val (.int p2), .val (.int kx), .val (.int sc), .val (.double lv), .second, .val (.long lo), .second, .val (.long hi), .second, .val (.long av), .second, .val (.int ex)] [(.double lv)])) rfl (by rw [hml]; rfl) (argsL := [(.double lv)]) (rest := []) (lenOf pd_0 rfl) rfl (by show 2 * 0 + _ ≤ _; exact Nat.le_of_eq rfl) (hb hby at_60) (fun _ _ => ⟨rfl, e0, (by decide : 0 + 0 ≤ _), (by decide : 0 + 0 ≤ _)⟩)
  dsimp only [Pt.U, Pt.locs, Pt.cells, Pt.slots] at X9 l9 y9 z9 st9 hQ9
  subst l9 y9 z9
  obtain ⟨rfl, N9q, e9⟩ := hQ9
  have N9 := Fr.app N0 N9q
  have P10 : ∀ t, Steps p.tables e below (T9.setTop (mkF m 63 #[.val (.int p1), .val (.int p2), .val (.int kx), .val (.int sc), .val (.double lv), .second, .val (.long lo), .second, .val (.long hi), .second, .val (.long av), .second, .val (.int ex)] [(.int (if (cmpValue (FP.dcmp lv (13862079653046386688 : UInt64)) .l) < (0 : Int32) then (0 : Int32) else (if (0 : Int32) < (cmpValue (FP.dcmp lv (4638637247447433216 : UInt64)) .g) then (0 : Int32) else (1 : Int32))))])) t → Steps p.tables e below (s₁.setTop (entryFrame m #[(.int p1), (.int p2)] maxLocals)) t := fun t k => P8 _ (st9 _ k)
  obtain ⟨r, hr⟩ : ∃ z : Int32, z = (if (cmpValue (FP.dcmp lv (13862079653046386688 : UInt64)) .l) < (0 : Int32) then (0 : Int32) else (if (0 : Int32) < (cmpValue (FP.dcmp lv (4638637247447433216 : UInt64)) .g) then (0 : Int32) else (1 : Int32))) := ⟨_, rfl⟩
  rw [← hr] at P10
  have re : r = ex := own_plain hsk hlv hlo hhi hav hex hr
  have P11 : ∀ t, Steps p.tables e below (T9.setTop (mkF m 73 #[.val (.int p1), .val (.int p2), .val (.int kx), .val (.int sc), .val (.double lv), .second, .val (.long lo), .second, .val (.long hi), .second, .val (.long av), .second, .val (.int ex)] [(.int (1 : Int32))])) t → Steps p.tables e below (s₁.setTop (entryFrame m #[(.int p1), (.int p2)] maxLocals)) t := by
    intro t k
    refine P10 _ ?_
    refine XS.iload X9.here hx rfl (hb hby at_63) rfl ?_
    show Steps p.tables e below (T9.setTop (mkF m 65 #[.val (.int p1), .val (.int p2), .val (.int kx), .val (.int sc), .val (.double lv), .second, .val (.long lo), .second, .val (.long hi), .second, .val (.long av), .second, .val (.int ex)] [(.int ex), (.int r)])) _
    refine XS.icmpNo X9.here hx rfl (hb hby at_65) rfl (XT.ii_ne_f re) ?_
    show Steps p.tables e below (T9.setTop (mkF m 68 #[.val (.int p1), .val (.int p2), .val (.int kx), .val (.int sc), .val (.double lv), .second, .val (.long lo), .second, .val (.long hi), .second, .val (.long av), .second, .val (.int ex)] [])) _
    refine XS.iconst X9.here hx rfl (hb hby at_68) ?_
    show Steps p.tables e below (T9.setTop (mkF m 69 #[.val (.int p1), .val (.int p2), .val (.int kx), .val (.int sc), .val (.double lv), .second, .val (.long lo), .second, .val (.long hi), .second, .val (.long av), .second, .val (.int ex)] [(.int (1 : Int32))])) _
    refine XS.goto X9.here hx rfl (pc0 := 69) (pc' := 73) rfl (hb hby at_69) (by decide) (by decide) ?_
    show Steps p.tables e below (T9.setTop (mkF m 73 #[.val (.int p1), .val (.int p2), .val (.int kx), .val (.int sc), .val (.double lv), .second, .val (.long lo), .second, .val (.long hi), .second, .val (.long av), .second, .val (.int ex)] [(.int (1 : Int32))])) _
    exact k
  obtain ⟨fs, hr, hrun, hended, hW, hsame⟩ := X9.leave (v := some (.int (1 : Int32))) (fun h => by rw [Bd.returns] at h; cases h)
  refine ⟨_, _, P11 _ ?_, hrun, hended, _, _, rfl, ?_, ⟨_, rfl⟩, hW, hsame.mono (by decide) (by decide)⟩
  · exact retN X9 hx (t := .boolean) Bd.returns (by simp) (hb hby at_73) hr
  · show Q0 Z p1 p2 h0 n0 _ T9.heap _
    rw [e9]
    exact ⟨rfl, N9⟩
set_option maxRecDepth 65536 in
set_option maxHeartbeats 40000000 in
theorem comes_1 {Post : Tables → Env → Array Value → State → Outcome → State → Prop} (hpost : ∀ tb e args s v u, (limb_1_1.after args s (.returned v) u = true ∧ limb_1_2.after args s (.returned v) u = true ∧ True) → FrameEnd s (.returned v) u (Jvm.fieldLocs frame_1_writes args s ++ Jvm.arrayLocs frame_1_arrays args s ++ Jvm.staticLocs frame_1_statics s) 0 0 → Post tb e args s (.returned v) u) :
    ArmFor flags0 classFile x code maxLocals ret World_1 tables_1 room_1 Calls_1 rest_1 Pre_1 Post := by
  intro l hfl _ _ p e ha hc hk s m args below hf hA hF happ hP
  obtain ⟨hcalls, hrest, hpre⟩ := hP
  obtain ⟨-, -, -, hnamed, -, -, -, hat⟩ := (Spec.applies_iff hf).mp happ
  obtain ⟨hg, hn⟩ := and_e (Cond.before_iff.mp (show (Jvm.Cond.and given_1 narrow_1).before args s = true from hpre))
  obtain ⟨g1, g2⟩ := and_e hg
  obtain ⟨g3, g4⟩ := and_e g2
  obtain ⟨w0, w1, rfl⟩ : ∃ w0 w1 : Value, args = #[w0, w1] := by
    have hs : args.size = 2 := by simpa [Cond.value, given_1] using g1
    obtain ⟨L⟩ := args
    match L, hs with
    | [w0, w1], _ => exact ⟨w0, w1, rfl⟩
  have hw := fun d (hd : d ∈ tables_1) => atoms_spec (ws := Jvm.Cond.code x code maxLocals ret :: tables_1) hat d (List.mem_cons_of_mem _ hd)
  have hfit : Fit s := fun {y c} hc i hi => by
    obtain ⟨ha, rfl⟩ := Array.getElem?_eq_some_iff.mp hc
    have q := List.all_eq_true.mp ((Array.all_eq_true_iff_forall_mem.mp hF) _ (Array.getElem_mem ha)) i (List.mem_range.mpr hi)
    simpa [Array.getElem?_eq_getElem hi] using q
  obtain ⟨i0, ei0⟩ := is_v g3
  obtain rfl : w0 = (.int i0) := Option.some.inj ei0
  obtain ⟨i1, ei1⟩ := is_v g4
  obtain rfl : w1 = (.int i1) := Option.some.inj ei1
  obtain ⟨n, o, h1, h2, h3, _, L, rfl, ⟨rfl, N⟩, hq⟩ := rm0 l s _ hw tables_1 i0 i1  s.heap s.heap.size (Nat.le_refl _)  p e ha hc hk s m _ below hf ((Spec.applies_iff_loose hf).mp happ).1 ⟨rfl, State.Warmed39.refl s, rfl⟩ trivial
  refine ⟨n, _, h1, h2, h3, hpost _ _ _ _ _ _ ⟨Cond.after_iff.mpr rfl, Cond.after_iff.mpr (eq_i res_at (Term.int_eval (1)) rfl), trivial⟩ ⟨hq.1, hq.2.1, (hq.2.2.sift fun y hy => Or.inr (N y hy)).mono (by decide) (by decide)⟩⟩
theorem main_1_1 : Claimed_1_1 := comes_1 fun _ _ _ _ _ _ h hF => ⟨h.1, hF⟩
theorem main_1_2 : Claimed_1_2 := comes_1 fun _ _ _ _ _ _ h hF => ⟨h.2.1, hF⟩
end Jvm.Pilot.@@N@@
namespace Jvm.Pilot.@@N@@
open Jvm Jvm.ClassFile Sem Op Lib Jvm.Free Jvm.Stand Jvm.Pilot.@@N@@.Jvm.D
/-! MADE BY PROGRAM (witnessworld.py) out of the Statement's table words and the real class files: 9 classes; the members and pool entries that the words name. The judged class is class 1, her method 1. -/
namespace start1
open Jvm.ClassFile
def u (s : String) : CpInfo := .utf8 (stringToUtf16 s)
/-- a pool by its gaps: so many unusable entries, then the entry; so many at the end -/
def gap : Nat → List CpInfo → List CpInfo
  | 0, r => r
  | n + 1, r => .unusable :: gap n r
def poolList (es : List (Nat × CpInfo)) (last : Nat) : List CpInfo := es.foldr (fun e r => gap e.1 (e.2 :: r)) (gap last [])
def pool (es : List (Nat × CpInfo)) (last : Nat) : Array CpInfo := ⟨poolList es last⟩
def fileOf (pool : Array CpInfo) (this : Nat) (attrs : Array Attribute := #[]) (ms : Array MethodInfo := #[]) (fl : Nat := 33) (sup : Nat := 0) (ifs : Array Nat := #[]) (fds : Array FieldInfo := #[]) : ClassFile where
  minorVersion := 0
  majorVersion := 65
  constantPool := pool
  accessFlags := fl
  thisClass := this
  superClass := sup
  interfaces := ifs
  fields := fds
  methods := ms
  attributes := attrs
def plain (name : String) (sup : Option ClassId) : Class where
  name := name
  kind := .ordinary
  loader := none
  accessFlags := 33
  super := sup
  interfaces := #[]
  cf := none
  fields := #[]
  methods := #[]
  instanceTypes := #[]
  staticTypes := #[]
  resolved := #[]
  callSites := []
  init := .initialized
  statics := none
  mirror := none

def pool0 : Array CpInfo := pool [(5, u "<init>"), (0, u "()V"), (1, .class_ 10), (1, u "java/lang/Object")] 113

def k0m0 : Method := { name := "<init>", desc := "()V", sig := { parameters := [], returnType := none }, accessFlags := 1, code := none }
/-- java/lang/Object -/
def k0 : Class := { plain "java/lang/Object" none with
  accessFlags := 33
  interfaces := #[]
  cf := some (fileOf pool0 8 #[] #[{ accessFlags := 1, nameIndex := 5, descriptorIndex := 6, attributes := #[] }] 33 0 #[] #[])
  fields := #[]
  methods := #[k0m0]
  instanceTypes := #[]
  staticTypes := #[]
  resolved := Array.replicate 124 none
  statics := none }

def pool1 : Array CpInfo := pool [(2, .class_ 4), (1, u "java/lang/Object"), (0, u "<init>"), (0, u "()V"), (0, .long 18446744073709551488), (1, .long 127), (1, .methodref 12 13), (0, .class_ 14), (0, .nameAndType 15 16), (0, u "com/example/watchful_controller/watchfulcontroller/util/SignalLevels"), (0, u "isReportable"), (0, u "(D)Z"), (0, .class_ 18), (0, u "com/example/watchful_controller/watchfulcontroller/util/SignalLevelsIsReportablePinLaw"), (2, u "law"), (0, u "(II)Z")] 3

def k1m0 : Method := { name := "<init>", desc := "()V", sig := { parameters := [], returnType := none }, accessFlags := 2, code := none }
def k1c1 : Code := { maxStack := 4, maxLocals := 13, code := code, exceptionTable := #[], attributes := #[] }
def k1m1 : Method := { name := "law", desc := "(II)Z", sig := { parameters := [.int, .int], returnType := some .boolean }, accessFlags := 9, code := some k1c1 }
/-- com/example/watchful_controller/watchfulcontroller/util/SignalLevelsIsReportablePinLaw -/
def k1 : Class := { plain "com/example/watchful_controller/watchfulcontroller/util/SignalLevelsIsReportablePinLaw" (some 0) with
  accessFlags := 49
  interfaces := #[]
  cf := some (fileOf pool1 17 #[] #[{ accessFlags := 2, nameIndex := 5, descriptorIndex := 6, attributes := #[] }, { accessFlags := 9, nameIndex := 21, descriptorIndex := 22, attributes := #[] }] 49 2 #[] #[])
  fields := #[]
  methods := #[k1m0, k1m1]
  instanceTypes := #[]
  staticTypes := #[]
  resolved := Array.replicate 26 none
  statics := none }

def pool2 : Array CpInfo := pool [(2, .class_ 4), (1, u "java/lang/Object"), (0, u "<init>"), (0, u "()V"), (0, .class_ 8), (0, u "com/example/watchful_controller/watchfulcontroller/util/SignalLevels"), (0, .double 13862079653046386688), (1, .double 4638637247447433216), (6, u "(D)Z"), (34, u "MIN_REPORTED_DBM"), (0, u "D"), (1, u "MAX_REPORTED_DBM"), (2, u "isReportable")] 26

def k2m0 : Method := { name := "<init>", desc := "()V", sig := { parameters := [], returnType := none }, accessFlags := 2, code := none }
def k2c1 : Code := { maxStack := 4, maxLocals := 2, code := prog_86_method_2_code, exceptionTable := #[], attributes := #[] }
def k2m1 : Method := { name := "isReportable", desc := "(D)Z", sig := { parameters := [.double], returnType := some .boolean }, accessFlags := 9, code := some k2c1 }
/-- com/example/watchful_controller/watchfulcontroller/util/SignalLevels -/
def k2 : Class := { plain "com/example/watchful_controller/watchfulcontroller/util/SignalLevels" (some 0) with
  accessFlags := 49
  interfaces := #[]
  cf := some (fileOf pool2 7 #[] #[{ accessFlags := 2, nameIndex := 5, descriptorIndex := 6, attributes := #[] }, { accessFlags := 9, nameIndex := 59, descriptorIndex := 18, attributes := #[] }] 49 2 #[] #[{ accessFlags := 25, nameIndex := 53, descriptorIndex := 54, attributes := #[] }, { accessFlags := 25, nameIndex := 56, descriptorIndex := 54, attributes := #[] }])
  fields := #[{ name := "MIN_REPORTED_DBM", type := .double, accessFlags := 25, slot := 0, constantValue := 0 }, { name := "MAX_REPORTED_DBM", type := .double, accessFlags := 25, slot := 1, constantValue := 0 }]
  methods := #[k2m0, k2m1]
  instanceTypes := #[]
  staticTypes := #[.double, .double]
  resolved := Array.replicate 86 none
  statics := none }

def pool3 : Array CpInfo := pool [(1, u "java/lang/Cloneable"), (0, .class_ 1), (0, u "java/lang/Object"), (0, .class_ 3)] 3

/-- java/lang/Cloneable -/
def k3 : Class := { plain "java/lang/Cloneable" (some 0) with
  accessFlags := 1537
  interfaces := #[]
  cf := some (fileOf pool3 2 #[] #[] 1537 4 #[] #[])
  fields := #[]
  methods := #[]
  instanceTypes := #[]
  staticTypes := #[]
  resolved := Array.replicate 8 none
  statics := none }

def pool4 : Array CpInfo := pool [(1, u "java/io/Serializable"), (0, .class_ 1), (0, u "java/lang/Object"), (0, .class_ 3)] 3

/-- java/io/Serializable -/
def k4 : Class := { plain "java/io/Serializable" (some 0) with
  accessFlags := 1537
  interfaces := #[]
  cf := some (fileOf pool4 2 #[] #[] 1537 4 #[] #[])
  fields := #[]
  methods := #[]
  instanceTypes := #[]
  staticTypes := #[]
  resolved := Array.replicate 8 none
  statics := none }

/-- the primitive byte -/
def k5 : Class := { plain "byte" none with kind := .primitive 'B', accessFlags := 0x411 }
/-- [B -/
def k6 : Class := { plain "[B" (some 0) with kind := .array 5 .byte, interfaces := #[3, 4], accessFlags := 1041 }

/-- the primitive int -/
def k7 : Class := { plain "int" none with kind := .primitive 'I', accessFlags := 0x411 }
/-- [I -/
def k8 : Class := { plain "[I" (some 0) with kind := .array 7 .int, interfaces := #[3, 4], accessFlags := 1041 }

def heap : Heap := #[]
def classes : Array Class := #[k0, k1, k2, k3, k4, k5, k6, k7, k8]
def interned : List (Array UInt16 × Addr) := []
def slotsUsed : Nat := 0
def theMethod : MethodId := ⟨1, 1⟩
def args0 : Array Value := #[.int 1, .int 2]
def aboutOver (below : List Frame) : State where
  vm := { classes := classes, interned := interned.toArray }
  heap := heap
  slotsUsed := slotsUsed
  threads := #[{ frames := .invoking theMethod args0 :: below }]
def below0 : List Frame := [.native { method := ⟨0, 0⟩, args := #[] }]
def about1 : State := aboutOver below0
def p0 : Program := .bare "" "" ""
def e0 : Env := launch0.env 0 0 0
theorem w_frames : about1.frames = Frame.invoking theMethod args0 :: below0 := rfl
set_option maxRecDepth 65536 in
theorem w_args : argsFit about1.vm theMethod args0 = true := by decide +kernel
set_option maxRecDepth 65536 in
theorem w_heap : heapFits about1 = true := by decide +kernel
set_option maxRecDepth 65536 in
theorem w_runnable : about1.curStatus? = some .runnable := by decide +kernel
set_option maxRecDepth 65536 in
theorem w_alone : about1.alone = true := by decide +kernel
set_option maxRecDepth 65536 in
theorem w_named : about1.methodNamed? x = some theMethod := by decide +kernel
set_option maxRecDepth 65536 in
theorem w_hears : about1.hears theMethod below0 = true := by decide +kernel
set_option maxRecDepth 65536 in
theorem w_ripe : about1.ripe theMethod args0 below0 = true := by decide +kernel
theorem w_running : about1.status = .running := rfl
set_option maxRecDepth 65536 in
theorem w_room : about1.hasRoom e0.platform room_1 = true :=
  launch0.hasRoom_least _ room_1 (by decide +kernel) (by decide +kernel) (by decide +kernel) (by decide +kernel) (by decide +kernel) (by decide +kernel)
theorem allAtoms_all (ts : List Jvm.Cond) (a : Array Jvm.Value) (st : Jvm.State) : (allAtoms ts).before a st = ts.all (fun c => c.before a st) := by
  induction ts with
  | nil => rfl
  | cons c t ih =>
    show (Jvm.Cond.and c (allAtoms t)).before a st = _
    rw [Jvm.Cond.before_and, ih, List.all_cons]
def words1 : List Jvm.Cond := Jvm.Cond.code x code maxLocals ret :: tables_1
/-- a 'code' word, met by the world's own term for the bytes: nothing is compared byte by byte -/
theorem code_word {y : MethodName} {bytes : ByteArray} {mx : Nat} {rt : Option FieldType} {a : Array Value} {s : State} {m : MethodId} {meth : Method} {c : Code} (h1 : s.methodNamed? y = some m) (h2 : s.vm.method? m = some meth) (h3 : meth.code = some c) (h4 : c.code = bytes)
    (h5 : (c.maxLocals == mx && c.exceptionTable.isEmpty && decide (c.maxStack ≤ mostOperands) && decide (meth.sig.returnType = rt) && !meth.locks && decide (parseMethodDescriptor y.desc = some meth.sig)) = true) : (Jvm.Cond.code y bytes mx rt).before a s = true := by
  simp only [Bool.and_eq_true, beq_iff_eq, Bool.not_eq_true', decide_eq_true_eq] at h5
  obtain ⟨⟨⟨⟨⟨g1, g2⟩, g3⟩, g4⟩, g5⟩, g6⟩ := h5
  simp [Cond.before, Cond.holds, Cond.value, h1, h2, h3, h4, g1, g2, g3, g4, g5, g6]
def isCode : Jvm.Cond → Bool
  | .code _ _ _ _ => true
  | _ => false
theorem all_split {L : List Jvm.Cond} {P : Jvm.Cond → Bool} (h1 : L.all (fun c => isCode c || P c) = true) (h2 : ∀ c ∈ L.filter isCode, P c = true) : L.all P = true := by
  refine List.all_eq_true.mpr fun c hc => ?_
  have h := List.all_eq_true.mp h1 c hc
  rcases Bool.eq_false_or_eq_true (isCode c) with hi | hi
  · exact h2 c (List.mem_filter.mpr ⟨hc, hi⟩)
  · simpa [hi] using h
set_option maxRecDepth 65536 in
theorem w_c0 : (Jvm.Cond.code x code maxLocals ret).before args0 about1 = true := code_word (m := ⟨1, 1⟩) (meth := k1m1) (c := k1c1) (by decide +kernel) rfl rfl rfl (by decide +kernel)
set_option maxRecDepth 65536 in
theorem w_c1 : (Jvm.Cond.code ({ cls := "com/example/watchful_controller/watchfulcontroller/util/SignalLevels", name := "isReportable", desc := "(D)Z" } : Jvm.MethodName) prog_86_method_2_code (2 : Nat) (Option.some Jvm.ClassFile.FieldType.boolean)).before args0 about1 = true := code_word (m := ⟨2, 1⟩) (meth := k2m1) (c := k2c1) (by decide +kernel) rfl rfl rfl (by decide +kernel)
def codes1 : List Jvm.Cond := [Jvm.Cond.code x code maxLocals ret, Jvm.Cond.code ({ cls := "com/example/watchful_controller/watchfulcontroller/util/SignalLevels", name := "isReportable", desc := "(D)Z" } : Jvm.MethodName) prog_86_method_2_code (2 : Nat) (Option.some Jvm.ClassFile.FieldType.boolean)]
set_option maxRecDepth 65536 in
theorem codes_eq : words1.filter isCode = codes1 := rfl
theorem w_codes : ∀ c ∈ words1.filter isCode, c.before args0 about1 = true := by
  rw [codes_eq]
  intro c hc
  simp only [codes1, List.mem_cons, List.not_mem_nil, or_false] at hc
  rcases hc with rfl | rfl
  · exact w_c0
  · exact w_c1
set_option maxRecDepth 65536 in
theorem w_t1 : words1.all (fun c => isCode c || c.before args0 about1) = true := by decide +kernel
theorem w_tables : (allAtoms (Jvm.Cond.code x code maxLocals ret :: tables_1)).before args0 about1 = true := by
  rw [allAtoms_all]
  show words1.all (fun c => c.before args0 about1) = true
  refine all_split ?_ w_codes
  rw [w_t1]
set_option maxRecDepth 65536 in
theorem w_case : (Jvm.Cond.and given_1 narrow_1).before args0 about1 = true := by decide +kernel
theorem w_applies : (headSpec (Jvm.Cond.code x code maxLocals ret :: tables_1) room_1).applies x e0.platform about1 = true :=
  (Spec.applies_iff w_frames).mpr ⟨w_running, w_runnable, w_alone, w_named, w_hears, w_ripe, w_room, w_tables⟩
theorem atStart : AtStart classFile x code maxLocals ret World_1 tables_1 room_1 Calls_1 rest_1 Pre_1 launch0 p0 e0 about1 theMethod args0 below0 :=
  ⟨lists_1, trivial, launch0.admits_env _ _ _, launch0.least_env, fairChoices_fair.cas, fairChoices_fair.clock, w_frames, w_args, w_heap, w_applies, trivial, trivial, w_case⟩
end start1
theorem witness_1 : WitnessClaimed_1 := ⟨start1.p0, start1.e0, start1.about1, start1.theMethod, start1.args0, start1.below0, start1.atStart⟩
end Jvm.Pilot.@@N@@

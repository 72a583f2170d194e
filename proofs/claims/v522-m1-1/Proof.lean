import JvmDerived
import JvmDerived.Pilot.@@N@@Statement
import JvmDerived.Pilot.@@N@@Code
set_option linter.unusedVariables false
set_option linter.unusedSimpArgs false
namespace Jvm.RoadKit
open Sem ClassFile Op Lib Jvm.Stand Jvm.Free Jvm.LawKit
section New
variable {p : Program} {l : Launch} {e : Env} {R : Room} {s : State} {m : MethodId} {args : Array Value} {below : List Frame} {meth : Method} {c : Code} {T : State} {locs : List Loc} {cells slots : Nat}
theorem retI (X : Stand p l e R s m args below meth c T locs cells slots) (hx : p.tables.exec = Jvm.exec) {pc : Nat} {Ls : Array Slot} {z : Int32} {rest : List Value} (hret : meth.sig.returnType = some .int) (hd : decode c.code pc = .ok (.ireturn, 1)) {fs : List Frame}
    (hl : ∀ (f : JFrame) (acts : List Action), f.method = m → f.locked = none → f.entered = [] → (doReturn e (T.setTop f) acts (some (.int z))).1 = T.setFrames fs) : Steps p.tables e below (T.setTop (mkF m pc Ls (.int z :: rest))) (T.setFrames fs) := by
  have hm' : T.vm.method? m = some meth := X.method'
  have hn : narrow .int (.int z) = .int z := rfl
  show Steps p.tables e below (T.setTop { method := m, pc := pc, locals := Ls, stack := _ :: rest, locked := none }) _
  jvm_step X.here [X.here.top, hx, hd, hm', hret, hn]
  first | (intro acts; rw [hl _ acts rfl rfl rfl]) | rw [hl _ _ rfl rfl rfl]
  exact Steps.refl _
end New
end Jvm.RoadKit
namespace Jvm.Pilot.@@N@@
open Jvm Jvm.ClassFile Sem Op Lib Jvm.Free Jvm.Stand Jvm.LawKit Jvm.RoadKit Bundle Jvm.Pilot.@@N@@.Jvm.D

theorem own_nb {c : Prop} [Decidable c] : nar .boolean (if c then (1 : Int32) else (0 : Int32)) = (if c then (1 : Int32) else (0 : Int32)) := by
  by_cases h : c
  · rw [if_pos h]; rfl
  · rw [if_neg h]; rfl
theorem own_n1 : nar .boolean (1 : Int32) = (1 : Int32) := rfl
theorem own_n0 : nar .boolean (0 : Int32) = (0 : Int32) := rfl

theorem own_pos {x y : Int32} (h : x = y &&& (2147483647 : Int32)) : ¬ x < (0 : Int32) := by
  have := c_mask y 2147483647 31 (by decide) (by decide)
  rw [← h] at this
  rw [Int32.lt_iff_toInt_lt]
  show ¬ x.toInt < 0
  omega
theorem own_rem {x y d : Int32} {D : Int} (h : x = (y &&& (2147483647 : Int32)) % d) (hd : d.toInt = D) (hD : 0 < D) : 0 ≤ x.toInt ∧ x.toInt < D := by
  have h1 := c_mask y 2147483647 31 (by decide) (by decide)
  have h2 := c_iremV (y &&& 2147483647) d
  rw [← h, hd] at h2
  have h3 := h2.1 (by omega) hD
  omega

theorem own_span {sp : Int64} {b : Int32} (h : sp = (((b &&& (2147483647 : Int32)) % (2147483647 : Int32)).toInt64)) : 0 ≤ sp.toInt ∧ sp.toInt < 2147483647 := by
  have h1 := own_rem (x := (b &&& (2147483647 : Int32)) % (2147483647 : Int32)) rfl (by decide : (2147483647 : Int32).toInt = 2147483647) (by decide)
  have h2 : sp.toInt = ((b &&& (2147483647 : Int32)) % (2147483647 : Int32)).toInt := by rw [h]; exact c_i2l _
  omega
theorem own_lo {sp lo0 lo hi : Int64} {a : Int32} (rs : 0 ≤ sp.toInt ∧ sp.toInt < 2147483647) (h0 : lo0 = (a.toInt64)) (h1 : lo = (if (2147483647 : Int64) < (lo0 + sp) then ((2147483647 : Int64) - sp) else lo0)) (h2 : hi = (lo + sp)) :
    -2147483648 ≤ lo.toInt ∧ hi.toInt = lo.toInt + sp.toInt ∧ hi.toInt ≤ 2147483647 := by
  have ra := rng32 a
  have e0 : lo0.toInt = a.toInt := by rw [h0]; exact c_i2l _
  have e1 : (lo0 + sp).toInt = lo0.toInt + sp.toInt := XT.add64 ⟨by omega, by omega⟩
  have e2 : ((2147483647 : Int64) - sp).toInt = 2147483647 - sp.toInt := XT.sub64 (x := 2147483647) ⟨by show -2 ^ 63 ≤ (2147483647 : Int) - sp.toInt; omega, by show (2147483647 : Int) - sp.toInt < 2 ^ 63; omega⟩
  have e3 : (2147483647 : Int64) < (lo0 + sp) ↔ 2147483647 < (lo0 + sp).toInt := by rw [Int64.lt_iff_toInt_lt]; exact Iff.rfl
  have e4 : -2147483648 ≤ lo.toInt ∧ lo.toInt + sp.toInt ≤ 2147483647 := by
    by_cases c : (2147483647 : Int64) < (lo0 + sp)
    · rw [if_pos c] at h1; rw [h1, e2]; omega
    · rw [if_neg c] at h1; rw [e3] at c; rw [h1]; omega
  have e5 : hi.toInt = lo.toInt + sp.toInt := by rw [h2]; exact XT.add64 ⟨by omega, by omega⟩
  omega
theorem own_ok {sp lo hi : Int64} {loI hiI : Int32} (rl : -2147483648 ≤ lo.toInt ∧ hi.toInt = lo.toInt + sp.toInt ∧ hi.toInt ≤ 2147483647) (rs : 0 ≤ sp.toInt ∧ sp.toInt < 2147483647) (h1 : loI = (lo.toInt32)) (h2 : hiI = (hi.toInt32)) :
    (¬ hiI < loI) ∧ ((hiI.toInt64 - loI.toInt64) < (2147483647 : Int64)) ∧ loI.toInt = lo.toInt ∧ hiI.toInt = hi.toInt := by
  have e1 : loI.toInt = lo.toInt := by rw [h1]; exact XT.narrowInt ⟨by omega, by omega⟩
  have e2 : hiI.toInt = hi.toInt := by rw [h2]; exact XT.narrowInt ⟨by omega, by omega⟩
  have e3 := c_i2l loI
  have e4 := c_i2l hiI
  have e5 : (hiI.toInt64 - loI.toInt64).toInt = hiI.toInt64.toInt - loI.toInt64.toInt := XT.sub64 ⟨by omega, by omega⟩
  refine ⟨?_, ?_, e1, e2⟩
  · rw [Int32.lt_iff_toInt_lt]; omega
  · rw [Int64.lt_iff_toInt_lt]; show _ < (2147483647 : Int); omega
theorem own_plain {sp lo hi cand0 cand off : Int64} {loI hiI vv ex r cc : Int32} (rs : 0 ≤ sp.toInt ∧ sp.toInt < 2147483647) (rl : -2147483648 ≤ lo.toInt ∧ hi.toInt = lo.toInt + sp.toInt ∧ hi.toInt ≤ 2147483647) (hl : loI.toInt = lo.toInt) (hh : hiI.toInt = hi.toInt)
    (hc : cand = (if cand0 < (-2147483648 : Int64) then (cc.toInt64) else (if (2147483647 : Int64) < cand0 then (cc.toInt64) else cand0))) (hv : vv = (cand.toInt32)) (ho : off = ((vv.toInt64) - lo))
    (he : ex = (if off < (0 : Int64) then (0 : Int32) else (if sp < off then (0 : Int32) else (1 : Int32)))) (hr : r = (if vv < loI then (0 : Int32) else (if hiI < vv then (0 : Int32) else (1 : Int32)))) : r = ex := by
  have rv := rng32 vv
  have e1 := c_i2l vv
  have e2 : off.toInt = vv.toInt - lo.toInt := by rw [ho, XT.sub64 ⟨by omega, by omega⟩]; omega
  have p1 : off < (0 : Int64) ↔ vv < loI := by rw [Int64.lt_iff_toInt_lt, Int32.lt_iff_toInt_lt]; show off.toInt < 0 ↔ _; omega
  have p2 : sp < off ↔ hiI < vv := by rw [Int64.lt_iff_toInt_lt, Int32.lt_iff_toInt_lt]; omega
  rw [hr, he]
  by_cases c1 : vv < loI
  · rw [if_pos c1, if_pos (p1.mpr c1)]
  · rw [if_neg c1, if_neg (fun z => c1 (p1.mp z))]
    by_cases c2 : hiI < vv
    · rw [if_pos c2, if_pos (p2.mpr c2)]
    · rw [if_neg c2, if_neg (fun z => c2 (p2.mp z))]

theorem pd_0 : parseMethodDescriptor "()V" = some ⟨[], none⟩ := by decide +kernel
theorem pd_1 : parseMethodDescriptor "(II)V" = some ⟨[.int, .int], none⟩ := by decide +kernel
theorem pd_2 : parseMethodDescriptor "(I)Z" = some ⟨[.int], some .boolean⟩ := by decide +kernel
theorem d2_0 : decode jdk_30_method_1_code 0 = .ok (.aload_n 0, 1) := by decide +kernel
theorem d2_1 : decode jdk_30_method_1_code 1 = .ok (.invokespecial 1, 3) := by decide +kernel
theorem d2_4 : decode jdk_30_method_1_code 4 = .ok (.return_, 1) := by decide +kernel
theorem pn_2 : plainName "java/lang/Record" = true := by first | (simp [plainName, overriddenIn]; done) | decide +kernel
theorem ef_2 (m : MethodId) (x0 : Addr) : entryFrame m #[(.ref x0)] 1 = mkF m 0 #[.val (.ref x0)] [] := by first | (simp [entryFrame, mkF, argsToLocals, Value.category]; done) | rfl
def Q2 (Z : State) (a1 : Addr) (h0 : Heap) (n0 : Nat) (v : Option Value) (h : Heap) (L : List Loc) : Prop := v = none ∧ Fr n0 L ∧ h = h0
set_option maxRecDepth 65536 in
set_option maxHeartbeats 40000000 in
theorem rm2 (l : Launch) (Z : State) (a0 : Array Value) (hw : ∀ d ∈ tables_1, d.before a0 Z = true) (ws : List Jvm.Cond) (a1 : Addr) (h0 : Heap) (n0 : Nat) (Z0 : n0 ≤ h0.size) :
    MetFree l (⟨"java/lang/Record", "<init>", "()V"⟩ : MethodName) (head1 (Jvm.Cond.code (⟨"java/lang/Record", "<init>", "()V"⟩ : MethodName) jdk_30_method_1_code 1 none :: ws) ({ frames := 1, cells := 0, slots := 0, locals := 12 } : Room)) (fun a U => a = #[(.ref a1)] ∧ Z.Warmed39 U.vm ∧ U.heap = h0) (fun _ _ _ _ _ => True) (fun _ U o U' => ∃ v L, o = .returned v ∧ Q2 Z a1 h0 n0 v U'.heap L ∧ FrameEnd U o U' L ({ frames := 1, cells := 0, slots := 0, locals := 12 } : Room).cells ({ frames := 1, cells := 0, slots := 0, locals := 12 } : Room).slots) := by
  refine MetFree.of_bodySF (plainFor_of_name pn_2) hisR ?_
  intro p e s m args below meth c s₁ Bd hml0 hP hK
  obtain ⟨rfl, hZ, hh⟩ := hP
  have hx := Bd.exec
  have hby := Bd.bytes
  have hml : c.maxLocals = 1 := hml0
  have hown : s.vm.findClass "java/lang/Record" = some m.cls := findClass_of_methodNamed Bd.named
  have hnm := (name_of_methodNamed Bd.named Bd.method).1
  have X0 : Stand p l e ({ frames := 1, cells := 0, slots := 0, locals := 12 } : Room) s m #[(.ref a1)] below meth c s₁ [] 0 0 := Stand.of_body Bd
  have e0 : s₁.heap = h0 := by rw [← hh, Bd.state]; rfl
  have N0 := Fr.nil n0
  have K0 : Keep h0 h0 [] := Keep.refl _ _
  have P0 : ∀ t, Steps p.tables e below (s₁.setTop (mkF m 0 #[.val (.ref a1)] [])) t → Steps p.tables e below (s₁.setTop (entryFrame m #[(.ref a1)] 1)) t := fun t k => castTop (ef_2 m a1) k
  have P1 : ∀ t, Steps p.tables e below (s₁.setTop (mkF m 1 #[.val (.ref a1)] [(.ref a1)])) t → Steps p.tables e below (s₁.setTop (entryFrame m #[(.ref a1)] 1)) t := by
    intro t k
    refine P0 _ ?_
    refine XS.aloadN X0.here hx rfl (hb hby d2_0) rfl rfl ?_
    show Steps p.tables e below (s₁.setTop (mkF m 1 #[.val (.ref a1)] [(.ref a1)])) _
    exact k
  obtain ⟨T2, X2, e2, st2⟩ := initO X0 hx hZ hown (hw _ (List.mem_of_getElem? (i := 13) rfl)) (hw _ (List.mem_of_getElem? (i := 14) rfl)) (hw _ (List.mem_of_getElem? (i := 15) rfl)) e0 (g := (mkF m 1 #[.val (.ref a1)] [(.ref a1)])) rfl (by rw [hml]; rfl) rfl (hb hby d2_1) (by decide) (W := 0) (by show 2 * 0 + _ ≤ _; exact Nat.le_of_eq rfl) (by decide)
  have P3 : ∀ t, Steps p.tables e below (T2.setTop (mkF m 4 #[.val (.ref a1)] [])) t → Steps p.tables e below (s₁.setTop (entryFrame m #[(.ref a1)] 1)) t := fun t k => P1 _ (st2 _ k)
  obtain ⟨fs, hr, hrun, hended, hW, hsame⟩ := X2.leave (v := none) (fun _ => rfl)
  refine ⟨_, _, P3 _ ?_, hrun, hended, _, _, rfl, ?_, ⟨_, rfl⟩, hW, hsame.mono (by decide) (by decide)⟩
  · exact X2.returnOut hx Bd.returns (hb hby d2_4) hr
  · show Q2 Z a1 h0 n0 _ T2.heap _
    rw [e2]
    exact ⟨rfl, N0, rfl⟩
theorem d1_0 : decode prog_115_method_1_code 0 = .ok (.aload_n 0, 1) := by decide +kernel
theorem d1_1 : decode prog_115_method_1_code 1 = .ok (.invokespecial 1, 3) := by decide +kernel
theorem d1_4 : decode prog_115_method_1_code 4 = .ok (.iload_n 1, 1) := by decide +kernel
theorem d1_5 : decode prog_115_method_1_code 5 = .ok (.iload_n 2, 1) := by decide +kernel
theorem d1_6 : decode prog_115_method_1_code 6 = .ok (.if_icmp .gt 15, 3) := by decide +kernel
theorem d1_9 : decode prog_115_method_1_code 9 = .ok (.iload_n 2, 1) := by decide +kernel
theorem d1_10 : decode prog_115_method_1_code 10 = .ok (.i2l, 1) := by decide +kernel
theorem d1_11 : decode prog_115_method_1_code 11 = .ok (.iload_n 1, 1) := by decide +kernel
theorem d1_12 : decode prog_115_method_1_code 12 = .ok (.i2l, 1) := by decide +kernel
theorem d1_13 : decode prog_115_method_1_code 13 = .ok (.lsub, 1) := by decide +kernel
theorem d1_14 : decode prog_115_method_1_code 14 = .ok (.ldc2_w 9, 3) := by decide +kernel
theorem d1_17 : decode prog_115_method_1_code 17 = .ok (.lcmp, 1) := by decide +kernel
theorem d1_18 : decode prog_115_method_1_code 18 = .ok (.ifCond .lt 18, 3) := by decide +kernel
theorem d1_36 : decode prog_115_method_1_code 36 = .ok (.aload_n 0, 1) := by decide +kernel
theorem d1_37 : decode prog_115_method_1_code 37 = .ok (.iload_n 1, 1) := by decide +kernel
theorem d1_38 : decode prog_115_method_1_code 38 = .ok (.putfield 20, 3) := by decide +kernel
theorem d1_41 : decode prog_115_method_1_code 41 = .ok (.aload_n 0, 1) := by decide +kernel
theorem d1_42 : decode prog_115_method_1_code 42 = .ok (.iload_n 2, 1) := by decide +kernel
theorem d1_43 : decode prog_115_method_1_code 43 = .ok (.putfield 26, 3) := by decide +kernel
theorem d1_46 : decode prog_115_method_1_code 46 = .ok (.return_, 1) := by decide +kernel
theorem pn_1 : plainName "com/example/prudent_checker/prudentchecker/smv/Type$Range" = true := by first | (simp [plainName, overriddenIn]; done) | decide +kernel
theorem ef_1 (m : MethodId) (x0 : Addr) (x1 : Int32) (x2 : Int32) : entryFrame m #[(.ref x0), (.int x1), (.int x2)] 3 = mkF m 0 #[.val (.ref x0), .val (.int x1), .val (.int x2)] [] := by first | (simp [entryFrame, mkF, argsToLocals, Value.category]; done) | rfl
def Q1 (Z : State) (a1 : Addr) (p2 : Int32) (p3 : Int32) (u_low : Value) (u_high : Value) (h0 : Heap) (n0 : Nat) (v : Option Value) (h : Heap) (L : List Loc) : Prop := v = none ∧ Fr n0 L ∧ Keep h0 h [a1] ∧ Exa Z h a1 "com/example/prudent_checker/prudentchecker/smv/Type$Range" ∧ Fld Z h a1 "com/example/prudent_checker/prudentchecker/smv/Type$Range" "low" "I" (.int p2) ∧ Fld Z h a1 "com/example/prudent_checker/prudentchecker/smv/Type$Range" "high" "I" (.int p3)
set_option maxRecDepth 65536 in
set_option maxHeartbeats 40000000 in
theorem rm1 (l : Launch) (Z : State) (a0 : Array Value) (hw : ∀ d ∈ tables_1, d.before a0 Z = true) (ws : List Jvm.Cond) (a1 : Addr) (p2 : Int32) (p3 : Int32) (u_low : Value) (u_high : Value) (h0 : Heap) (n0 : Nat) (Z0 : n0 ≤ h0.size) (E_a : Exa Z h0 a1 "com/example/prudent_checker/prudentchecker/smv/Type$Range") (F_low : Fld Z h0 a1 "com/example/prudent_checker/prudentchecker/smv/Type$Range" "low" "I" u_low) (F_high : Fld Z h0 a1 "com/example/prudent_checker/prudentchecker/smv/Type$Range" "high" "I" u_high) (g_a : n0 ≤ a1) (hle : ¬ p3 < p2) (hsp : (p3.toInt64 - p2.toInt64) < (2147483647 : Int64)) :
    MetFree l (⟨"com/example/prudent_checker/prudentchecker/smv/Type$Range", "<init>", "(II)V"⟩ : MethodName) (head1 (Jvm.Cond.code (⟨"com/example/prudent_checker/prudentchecker/smv/Type$Range", "<init>", "(II)V"⟩ : MethodName) prog_115_method_1_code 3 none :: ws) ({ frames := 2, cells := 0, slots := 0, locals := 24 } : Room)) (fun a U => a = #[(.ref a1), (.int p2), (.int p3)] ∧ Z.Warmed39 U.vm ∧ U.heap = h0) (fun _ _ _ _ _ => True) (fun _ U o U' => ∃ v L, o = .returned v ∧ Q1 Z a1 p2 p3 u_low u_high h0 n0 v U'.heap L ∧ FrameEnd U o U' L ({ frames := 2, cells := 0, slots := 0, locals := 24 } : Room).cells ({ frames := 2, cells := 0, slots := 0, locals := 24 } : Room).slots) := by
  refine MetFree.of_bodySF (plainFor_of_name pn_1) hisR ?_
  intro p e s m args below meth c s₁ Bd hml0 hP hK
  obtain ⟨rfl, hZ, hh⟩ := hP
  have hx := Bd.exec
  have hby := Bd.bytes
  have hml : c.maxLocals = 3 := hml0
  have hown : s.vm.findClass "com/example/prudent_checker/prudentchecker/smv/Type$Range" = some m.cls := findClass_of_methodNamed Bd.named
  have hnm := (name_of_methodNamed Bd.named Bd.method).1
  have X0 : Stand p l e ({ frames := 2, cells := 0, slots := 0, locals := 24 } : Room) s m #[(.ref a1), (.int p2), (.int p3)] below meth c s₁ [] 0 0 := Stand.of_body Bd
  have e0 : s₁.heap = h0 := by rw [← hh, Bd.state]; rfl
  have N0 := Fr.nil n0
  have K0 : Keep h0 h0 [a1] := Keep.refl _ _
  have P0 : ∀ t, Steps p.tables e below (s₁.setTop (mkF m 0 #[.val (.ref a1), .val (.int p2), .val (.int p3)] [])) t → Steps p.tables e below (s₁.setTop (entryFrame m #[(.ref a1), (.int p2), (.int p3)] 3)) t := fun t k => castTop (ef_1 m a1 p2 p3) k
  have P1 : ∀ t, Steps p.tables e below (s₁.setTop (mkF m 1 #[.val (.ref a1), .val (.int p2), .val (.int p3)] [(.ref a1)])) t → Steps p.tables e below (s₁.setTop (entryFrame m #[(.ref a1), (.int p2), (.int p3)] 3)) t := by
    intro t k
    refine P0 _ ?_
    refine XS.aloadN X0.here hx rfl (hb hby d1_0) rfl rfl ?_
    show Steps p.tables e below (s₁.setTop (mkF m 1 #[.val (.ref a1), .val (.int p2), .val (.int p3)] [(.ref a1)])) _
    exact k
  obtain ⟨_, _, ⟨T2, L2, k2, n2⟩, -, X2, ⟨Lc2, hQ2, l2, y2, z2⟩, st2⟩ := X0.specialBack hx (y := (⟨"java/lang/Record", "<init>", "()V"⟩ : MethodName)) rfl hown (mvT hZ (hw _ (List.mem_of_getElem? (i := 8) rfl))) (mvT hZ (hw _ (List.mem_of_getElem? (i := 9) rfl))) (mvT hZ (hw _ (List.mem_of_getElem? (i := 12) rfl))) (by decide) (backOf (W := 0) (rm2 l Z a0 hw [] a1  h0 n0 Z0 ) hZ (hw _ (List.mem_of_getElem? (i := 12) rfl)) (hw _ (List.mem_of_getElem? (i := 11) rfl)) (by decide) (by decide)) (g := (mkF m 1 #[.val (.ref a1), .val (.int p2), .val (.int p3)] [(.ref a1)])) rfl (by rw [hml]; rfl) (Steps.refl _) (a := a1) (argsL := []) (rest := []) (lenOf pd_0 rfl) rfl (by show 2 * 0 + _ ≤ _; exact Nat.le_of_eq rfl) (hb hby d1_1) (fun _ _ => ⟨rfl, e0, (by decide : 0 + 0 ≤ _), (by decide : 0 + 0 ≤ _)⟩)
  dsimp only [Pt.U, Pt.locs, Pt.cells, Pt.slots] at X2 l2 y2 z2 st2 hQ2
  subst l2 y2 z2
  obtain ⟨rfl, N2q, e2⟩ := hQ2
  have N2 := Fr.app N0 N2q
  have P3 : ∀ t, Steps p.tables e below (T2.setTop (mkF m 4 #[.val (.ref a1), .val (.int p2), .val (.int p3)] [])) t → Steps p.tables e below (s₁.setTop (entryFrame m #[(.ref a1), (.int p2), (.int p3)] 3)) t := fun t k => P1 _ (st2.trans k)
  have P4 : ∀ t, Steps p.tables e below (T2.setTop (mkF m 38 #[.val (.ref a1), .val (.int p2), .val (.int p3)] [(.int p2), (.ref a1)])) t → Steps p.tables e below (s₁.setTop (entryFrame m #[(.ref a1), (.int p2), (.int p3)] 3)) t := by
    intro t k
    refine P3 _ ?_
    refine XS.iloadN X2.here hx rfl (hb hby d1_4) rfl ?_
    show Steps p.tables e below (T2.setTop (mkF m 5 #[.val (.ref a1), .val (.int p2), .val (.int p3)] [(.int p2)])) _
    refine XS.iloadN X2.here hx rfl (hb hby d1_5) rfl ?_
    show Steps p.tables e below (T2.setTop (mkF m 6 #[.val (.ref a1), .val (.int p2), .val (.int p3)] [(.int p3), (.int p2)])) _
    refine XS.icmpNo X2.here hx rfl (hb hby d1_6) rfl (XT.ii_gt_f hle) ?_
    show Steps p.tables e below (T2.setTop (mkF m 9 #[.val (.ref a1), .val (.int p2), .val (.int p3)] [])) _
    refine XS.iloadN X2.here hx rfl (hb hby d1_9) rfl ?_
    show Steps p.tables e below (T2.setTop (mkF m 10 #[.val (.ref a1), .val (.int p2), .val (.int p3)] [(.int p3)])) _
    refine XT.i2l X2.here hx rfl (hb hby d1_10) rfl ?_
    show Steps p.tables e below (T2.setTop (mkF m 11 #[.val (.ref a1), .val (.int p2), .val (.int p3)] [(.long (p3.toInt64))])) _
    refine XS.iloadN X2.here hx rfl (hb hby d1_11) rfl ?_
    show Steps p.tables e below (T2.setTop (mkF m 12 #[.val (.ref a1), .val (.int p2), .val (.int p3)] [(.int p2), (.long (p3.toInt64))])) _
    refine XT.i2l X2.here hx rfl (hb hby d1_12) rfl ?_
    show Steps p.tables e below (T2.setTop (mkF m 13 #[.val (.ref a1), .val (.int p2), .val (.int p3)] [(.long (p2.toInt64)), (.long (p3.toInt64))])) _
    refine XT.lsub X2.here hx rfl (hb hby d1_13) rfl ?_
    show Steps p.tables e below (T2.setTop (mkF m 14 #[.val (.ref a1), .val (.int p2), .val (.int p3)] [(.long ((p3.toInt64) - (p2.toInt64)))])) _
    refine Jvm.Stand.ldc2J X2 hx hown (mvT hZ (hw _ (List.mem_of_getElem? (i := 16) rfl))) rfl (hb hby d1_14) ?_
    show Steps p.tables e below (T2.setTop (mkF m 17 #[.val (.ref a1), .val (.int p2), .val (.int p3)] [(.long (2147483647 : Int64)), (.long ((p3.toInt64) - (p2.toInt64)))])) _
    refine XT.lcmp X2.here hx rfl (hb hby d1_17) rfl ?_
    show Steps p.tables e below (T2.setTop (mkF m 18 #[.val (.ref a1), .val (.int p2), .val (.int p3)] [(.int (XT.cmpL ((p3.toInt64) - (p2.toInt64)) (2147483647 : Int64)))])) _
    refine XS.ifYes X2.here hx rfl (pc0 := 18) (pc' := 36) rfl (hb hby d1_18) rfl (XT.ll_lt_t hsp) (by decide) (by decide) ?_
    show Steps p.tables e below (T2.setTop (mkF m 36 #[.val (.ref a1), .val (.int p2), .val (.int p3)] [])) _
    refine XS.aloadN X2.here hx rfl (hb hby d1_36) rfl rfl ?_
    show Steps p.tables e below (T2.setTop (mkF m 37 #[.val (.ref a1), .val (.int p2), .val (.int p3)] [(.ref a1)])) _
    refine XS.iloadN X2.here hx rfl (hb hby d1_37) rfl ?_
    show Steps p.tables e below (T2.setTop (mkF m 38 #[.val (.ref a1), .val (.int p2), .val (.int p3)] [(.int p2), (.ref a1)])) _
    exact k
  obtain ⟨T5, h5, X5, e5, W5, st5⟩ := putF X2 hx hZ hown (host := "") (Or.inl (hw _ (List.mem_of_getElem? (i := 17) rfl))) Via.refl e2 F_low E_a (Or.inr ⟨(hw _ (List.mem_of_getElem? (i := 18) rfl)), rfl, hnm⟩) (hw _ (List.mem_of_getElem? (i := 3) rfl)) (ty := .int) (by decide) rfl rfl (g := (mkF m 38 #[.val (.ref a1), .val (.int p2), .val (.int p3)] [(.int p2), (.ref a1)])) rfl rfl (hb hby d1_38)
  have F6 : Exa Z h5 a1 "com/example/prudent_checker/prudentchecker/smv/Type$Range" := E_a.wr W5
  have F7 : Fld Z h5 a1 "com/example/prudent_checker/prudentchecker/smv/Type$Range" "high" "I" u_high := F_high.other W5 (Or.inr (slot_ne (Or.inr (hw _ (List.mem_of_getElem? (i := 20) rfl))) (Or.inr (hw _ (List.mem_of_getElem? (i := 18) rfl))) (by decide) (t := .int) (t' := .int) (by decide) (by decide)))
  have F8 : Fld Z h5 a1 "com/example/prudent_checker/prudentchecker/smv/Type$Range" "low" "I" (.int p2) := F_low.same W5
  have Z9 : n0 ≤ h5.size := Nat.le_trans Z0 (Keep.of_wr W5).1
  have K10 : Keep h0 h5 [a1] := K0.wr W5 (Or.inl (List.mem_of_getElem? (i := 0) rfl))
  have N5 := Fr.snoc X5 N2 g_a
  have P11 : ∀ t, Steps p.tables e below (T5.setTop (mkF m 41 #[.val (.ref a1), .val (.int p2), .val (.int p3)] [])) t → Steps p.tables e below (s₁.setTop (entryFrame m #[(.ref a1), (.int p2), (.int p3)] 3)) t := fun t k => P4 _ (st5 _ k)
  have P12 : ∀ t, Steps p.tables e below (T5.setTop (mkF m 43 #[.val (.ref a1), .val (.int p2), .val (.int p3)] [(.int p3), (.ref a1)])) t → Steps p.tables e below (s₁.setTop (entryFrame m #[(.ref a1), (.int p2), (.int p3)] 3)) t := by
    intro t k
    refine P11 _ ?_
    refine XS.aloadN X5.here hx rfl (hb hby d1_41) rfl rfl ?_
    show Steps p.tables e below (T5.setTop (mkF m 42 #[.val (.ref a1), .val (.int p2), .val (.int p3)] [(.ref a1)])) _
    refine XS.iloadN X5.here hx rfl (hb hby d1_42) rfl ?_
    show Steps p.tables e below (T5.setTop (mkF m 43 #[.val (.ref a1), .val (.int p2), .val (.int p3)] [(.int p3), (.ref a1)])) _
    exact k
  obtain ⟨T13, h13, X13, e13, W13, st13⟩ := putF X5 hx hZ hown (host := "") (Or.inl (hw _ (List.mem_of_getElem? (i := 19) rfl))) Via.refl e5 F7 F6 (Or.inr ⟨(hw _ (List.mem_of_getElem? (i := 20) rfl)), rfl, hnm⟩) (hw _ (List.mem_of_getElem? (i := 3) rfl)) (ty := .int) (by decide) rfl rfl (g := (mkF m 43 #[.val (.ref a1), .val (.int p2), .val (.int p3)] [(.int p3), (.ref a1)])) rfl rfl (hb hby d1_43)
  have F14 : Exa Z h13 a1 "com/example/prudent_checker/prudentchecker/smv/Type$Range" := F6.wr W13
  have F15 : Fld Z h13 a1 "com/example/prudent_checker/prudentchecker/smv/Type$Range" "low" "I" (.int p2) := F8.other W13 (Or.inr (slot_ne (Or.inr (hw _ (List.mem_of_getElem? (i := 18) rfl))) (Or.inr (hw _ (List.mem_of_getElem? (i := 20) rfl))) (by decide) (t := .int) (t' := .int) (by decide) (by decide)))
  have F16 : Fld Z h13 a1 "com/example/prudent_checker/prudentchecker/smv/Type$Range" "high" "I" (.int p3) := F7.same W13
  have Z17 : n0 ≤ h13.size := Nat.le_trans Z9 (Keep.of_wr W13).1
  have K18 : Keep h0 h13 [a1] := K10.wr W13 (Or.inl (List.mem_of_getElem? (i := 0) rfl))
  have N13 := Fr.snoc X13 N5 g_a
  have P19 : ∀ t, Steps p.tables e below (T13.setTop (mkF m 46 #[.val (.ref a1), .val (.int p2), .val (.int p3)] [])) t → Steps p.tables e below (s₁.setTop (entryFrame m #[(.ref a1), (.int p2), (.int p3)] 3)) t := fun t k => P12 _ (st13 _ k)
  obtain ⟨fs, hr, hrun, hended, hW, hsame⟩ := X13.leave (v := none) (fun _ => rfl)
  refine ⟨_, _, P19 _ ?_, hrun, hended, _, _, rfl, ?_, ⟨_, rfl⟩, hW, hsame.mono (by decide) (by decide)⟩
  · exact X13.returnOut hx Bd.returns (hb hby d1_46) hr
  · show Q1 Z a1 p2 p3 u_low u_high h0 n0 _ T13.heap _
    rw [e13]
    exact ⟨rfl, N13, K18, F14, F15, F16⟩
theorem d3_0 : decode prog_115_method_4_code 0 = .ok (.iload_n 1, 1) := by decide +kernel
theorem d3_1 : decode prog_115_method_4_code 1 = .ok (.aload_n 0, 1) := by decide +kernel
theorem d3_2 : decode prog_115_method_4_code 2 = .ok (.getfield 20, 3) := by decide +kernel
theorem d3_5 : decode prog_115_method_4_code 5 = .ok (.if_icmp .lt 15, 3) := by decide +kernel
theorem d3_8 : decode prog_115_method_4_code 8 = .ok (.iload_n 1, 1) := by decide +kernel
theorem d3_9 : decode prog_115_method_4_code 9 = .ok (.aload_n 0, 1) := by decide +kernel
theorem d3_10 : decode prog_115_method_4_code 10 = .ok (.getfield 26, 3) := by decide +kernel
theorem d3_13 : decode prog_115_method_4_code 13 = .ok (.if_icmp .gt 7, 3) := by decide +kernel
theorem d3_16 : decode prog_115_method_4_code 16 = .ok (.iconst 1, 1) := by decide +kernel
theorem d3_17 : decode prog_115_method_4_code 17 = .ok (.goto 4, 3) := by decide +kernel
theorem d3_20 : decode prog_115_method_4_code 20 = .ok (.iconst 0, 1) := by decide +kernel
theorem d3_21 : decode prog_115_method_4_code 21 = .ok (.ireturn, 1) := by decide +kernel
theorem pn_3 : plainName "com/example/prudent_checker/prudentchecker/smv/Type$Range" = true := by first | (simp [plainName, overriddenIn]; done) | decide +kernel
theorem ef_3 (m : MethodId) (x0 : Addr) (x1 : Int32) : entryFrame m #[(.ref x0), (.int x1)] 2 = mkF m 0 #[.val (.ref x0), .val (.int x1)] [] := by first | (simp [entryFrame, mkF, argsToLocals, Value.category]; done) | rfl
def Q3 (Z : State) (a1 : Addr) (p2 : Int32) (w1 : Int32) (w2 : Int32) (h0 : Heap) (n0 : Nat) (v : Option Value) (h : Heap) (L : List Loc) : Prop := v = some (.int (if p2 < w1 then (0 : Int32) else (if w2 < p2 then (0 : Int32) else (1 : Int32)))) ∧ Fr n0 L ∧ h = h0
set_option maxRecDepth 65536 in
set_option maxHeartbeats 40000000 in
theorem rm3 (l : Launch) (Z : State) (a0 : Array Value) (hw : ∀ d ∈ tables_1, d.before a0 Z = true) (ws : List Jvm.Cond) (a1 : Addr) (p2 : Int32) (w1 : Int32) (w2 : Int32) (h0 : Heap) (n0 : Nat) (Z0 : n0 ≤ h0.size) (F_low : Fld Z h0 a1 "com/example/prudent_checker/prudentchecker/smv/Type$Range" "low" "I" (.int w1)) (F_high : Fld Z h0 a1 "com/example/prudent_checker/prudentchecker/smv/Type$Range" "high" "I" (.int w2)) :
    MetFree l (⟨"com/example/prudent_checker/prudentchecker/smv/Type$Range", "contains", "(I)Z"⟩ : MethodName) (head1 (Jvm.Cond.code (⟨"com/example/prudent_checker/prudentchecker/smv/Type$Range", "contains", "(I)Z"⟩ : MethodName) prog_115_method_4_code 2 (some .boolean) :: ws) ({ frames := 0, cells := 0, slots := 0, locals := 0 } : Room)) (fun a U => a = #[(.ref a1), (.int p2)] ∧ Z.Warmed39 U.vm ∧ U.heap = h0) (fun _ _ _ _ _ => True) (fun _ U o U' => ∃ v L, o = .returned v ∧ Q3 Z a1 p2 w1 w2 h0 n0 v U'.heap L ∧ FrameEnd U o U' L ({ frames := 0, cells := 0, slots := 0, locals := 0 } : Room).cells ({ frames := 0, cells := 0, slots := 0, locals := 0 } : Room).slots) := by
  refine MetFree.of_bodySF (plainFor_of_name pn_3) hisR ?_
  intro p e s m args below meth c s₁ Bd hml0 hP hK
  obtain ⟨rfl, hZ, hh⟩ := hP
  have hx := Bd.exec
  have hby := Bd.bytes
  have hml : c.maxLocals = 2 := hml0
  have hown : s.vm.findClass "com/example/prudent_checker/prudentchecker/smv/Type$Range" = some m.cls := findClass_of_methodNamed Bd.named
  have hnm := (name_of_methodNamed Bd.named Bd.method).1
  have X0 : Stand p l e ({ frames := 0, cells := 0, slots := 0, locals := 0 } : Room) s m #[(.ref a1), (.int p2)] below meth c s₁ [] 0 0 := Stand.of_body Bd
  have e0 : s₁.heap = h0 := by rw [← hh, Bd.state]; rfl
  have N0 := Fr.nil n0
  have K0 : Keep h0 h0 [] := Keep.refl _ _
  have P0 : ∀ t, Steps p.tables e below (s₁.setTop (mkF m 0 #[.val (.ref a1), .val (.int p2)] [])) t → Steps p.tables e below (s₁.setTop (entryFrame m #[(.ref a1), (.int p2)] 2)) t := fun t k => castTop (ef_3 m a1 p2) k
  have P1 : ∀ t, Steps p.tables e below (s₁.setTop (mkF m 2 #[.val (.ref a1), .val (.int p2)] [(.ref a1), (.int p2)])) t → Steps p.tables e below (s₁.setTop (entryFrame m #[(.ref a1), (.int p2)] 2)) t := by
    intro t k
    refine P0 _ ?_
    refine XS.iloadN X0.here hx rfl (hb hby d3_0) rfl ?_
    show Steps p.tables e below (s₁.setTop (mkF m 1 #[.val (.ref a1), .val (.int p2)] [(.int p2)])) _
    refine XS.aloadN X0.here hx rfl (hb hby d3_1) rfl rfl ?_
    show Steps p.tables e below (s₁.setTop (mkF m 2 #[.val (.ref a1), .val (.int p2)] [(.ref a1), (.int p2)])) _
    exact k
  obtain ⟨T2, X2, e2, st2⟩ := getF X0 hx hZ hown (host := "") (Or.inl (hw _ (List.mem_of_getElem? (i := 17) rfl))) Via.refl e0 F_low (g := (mkF m 2 #[.val (.ref a1), .val (.int p2)] [(.ref a1), (.int p2)])) rfl rfl (hb hby d3_2)
  have P3 : ∀ t, Steps p.tables e below (T2.setTop (mkF m 5 #[.val (.ref a1), .val (.int p2)] [(.int w1), (.int p2)])) t → Steps p.tables e below (s₁.setTop (entryFrame m #[(.ref a1), (.int p2)] 2)) t := fun t k => P1 _ (st2 _ k)
  by_cases c5 : p2 < w1
  · have P4 : ∀ t, Steps p.tables e below (T2.setTop (mkF m 21 #[.val (.ref a1), .val (.int p2)] [(.int (0 : Int32))])) t → Steps p.tables e below (s₁.setTop (entryFrame m #[(.ref a1), (.int p2)] 2)) t := by
      intro t k
      refine P3 _ ?_
      refine XS.icmpYes X2.here hx rfl (pc0 := 5) (pc' := 20) rfl (hb hby d3_5) rfl (XT.ii_lt_t c5) (by decide) (by decide) ?_
      show Steps p.tables e below (T2.setTop (mkF m 20 #[.val (.ref a1), .val (.int p2)] [])) _
      refine XS.iconst X2.here hx rfl (hb hby d3_20) ?_
      show Steps p.tables e below (T2.setTop (mkF m 21 #[.val (.ref a1), .val (.int p2)] [(.int (0 : Int32))])) _
      exact k
    obtain ⟨fs, hr, hrun, hended, hW, hsame⟩ := X2.leave (v := some (.int (0 : Int32))) (fun h => by rw [Bd.returns] at h; cases h)
    refine ⟨_, _, P4 _ ?_, hrun, hended, _, _, rfl, ?_, ⟨_, rfl⟩, hW, hsame.mono (by decide) (by decide)⟩
    · exact retN X2 hx (t := .boolean) Bd.returns (by simp) (hb hby d3_21) hr
    · show Q3 Z a1 p2 w1 w2 h0 n0 _ T2.heap _
      rw [e2]
      exact ⟨by rw [if_pos c5], N0, rfl⟩
  · have P5 : ∀ t, Steps p.tables e below (T2.setTop (mkF m 10 #[.val (.ref a1), .val (.int p2)] [(.ref a1), (.int p2)])) t → Steps p.tables e below (s₁.setTop (entryFrame m #[(.ref a1), (.int p2)] 2)) t := by
      intro t k
      refine P3 _ ?_
      refine XS.icmpNo X2.here hx rfl (hb hby d3_5) rfl (XT.ii_lt_f c5) ?_
      show Steps p.tables e below (T2.setTop (mkF m 8 #[.val (.ref a1), .val (.int p2)] [])) _
      refine XS.iloadN X2.here hx rfl (hb hby d3_8) rfl ?_
      show Steps p.tables e below (T2.setTop (mkF m 9 #[.val (.ref a1), .val (.int p2)] [(.int p2)])) _
      refine XS.aloadN X2.here hx rfl (hb hby d3_9) rfl rfl ?_
      show Steps p.tables e below (T2.setTop (mkF m 10 #[.val (.ref a1), .val (.int p2)] [(.ref a1), (.int p2)])) _
      exact k
    obtain ⟨T6, X6, e6, st6⟩ := getF X2 hx hZ hown (host := "") (Or.inl (hw _ (List.mem_of_getElem? (i := 19) rfl))) Via.refl e2 F_high (g := (mkF m 10 #[.val (.ref a1), .val (.int p2)] [(.ref a1), (.int p2)])) rfl rfl (hb hby d3_10)
    have P7 : ∀ t, Steps p.tables e below (T6.setTop (mkF m 13 #[.val (.ref a1), .val (.int p2)] [(.int w2), (.int p2)])) t → Steps p.tables e below (s₁.setTop (entryFrame m #[(.ref a1), (.int p2)] 2)) t := fun t k => P5 _ (st6 _ k)
    by_cases c13 : w2 < p2
    · have P8 : ∀ t, Steps p.tables e below (T6.setTop (mkF m 21 #[.val (.ref a1), .val (.int p2)] [(.int (0 : Int32))])) t → Steps p.tables e below (s₁.setTop (entryFrame m #[(.ref a1), (.int p2)] 2)) t := by
        intro t k
        refine P7 _ ?_
        refine XS.icmpYes X6.here hx rfl (pc0 := 13) (pc' := 20) rfl (hb hby d3_13) rfl (XT.ii_gt_t c13) (by decide) (by decide) ?_
        show Steps p.tables e below (T6.setTop (mkF m 20 #[.val (.ref a1), .val (.int p2)] [])) _
        refine XS.iconst X6.here hx rfl (hb hby d3_20) ?_
        show Steps p.tables e below (T6.setTop (mkF m 21 #[.val (.ref a1), .val (.int p2)] [(.int (0 : Int32))])) _
        exact k
      obtain ⟨fs, hr, hrun, hended, hW, hsame⟩ := X6.leave (v := some (.int (0 : Int32))) (fun h => by rw [Bd.returns] at h; cases h)
      refine ⟨_, _, P8 _ ?_, hrun, hended, _, _, rfl, ?_, ⟨_, rfl⟩, hW, hsame.mono (by decide) (by decide)⟩
      · exact retN X6 hx (t := .boolean) Bd.returns (by simp) (hb hby d3_21) hr
      · show Q3 Z a1 p2 w1 w2 h0 n0 _ T6.heap _
        rw [e6]
        exact ⟨by rw [if_neg c5, if_pos c13], N0, rfl⟩
    · have P9 : ∀ t, Steps p.tables e below (T6.setTop (mkF m 21 #[.val (.ref a1), .val (.int p2)] [(.int (1 : Int32))])) t → Steps p.tables e below (s₁.setTop (entryFrame m #[(.ref a1), (.int p2)] 2)) t := by
        intro t k
        refine P7 _ ?_
        refine XS.icmpNo X6.here hx rfl (hb hby d3_13) rfl (XT.ii_gt_f c13) ?_
        show Steps p.tables e below (T6.setTop (mkF m 16 #[.val (.ref a1), .val (.int p2)] [])) _
        refine XS.iconst X6.here hx rfl (hb hby d3_16) ?_
        show Steps p.tables e below (T6.setTop (mkF m 17 #[.val (.ref a1), .val (.int p2)] [(.int (1 : Int32))])) _
        refine XS.goto X6.here hx rfl (pc0 := 17) (pc' := 21) rfl (hb hby d3_17) (by decide) (by decide) ?_
        show Steps p.tables e below (T6.setTop (mkF m 21 #[.val (.ref a1), .val (.int p2)] [(.int (1 : Int32))])) _
        exact k
      obtain ⟨fs, hr, hrun, hended, hW, hsame⟩ := X6.leave (v := some (.int (1 : Int32))) (fun h => by rw [Bd.returns] at h; cases h)
      refine ⟨_, _, P9 _ ?_, hrun, hended, _, _, rfl, ?_, ⟨_, rfl⟩, hW, hsame.mono (by decide) (by decide)⟩
      · exact retN X6 hx (t := .boolean) Bd.returns (by simp) (hb hby d3_21) hr
      · show Q3 Z a1 p2 w1 w2 h0 n0 _ T6.heap _
        rw [e6]
        exact ⟨by rw [if_neg c5, if_neg c13], N0, rfl⟩
theorem pn_0 : plainName "com/example/prudent_checker/prudentchecker/smv/RangeContainsPinLaw" = true := by first | (simp [plainName, overriddenIn]; done) | decide +kernel
theorem ef_0 (m : MethodId) (x0 : Int32) (x1 : Int32) (x2 : Int32) (x3 : Int32) : entryFrame m #[(.int x0), (.int x1), (.int x2), (.int x3)] maxLocals = mkF m 0 #[.val (.int x0), .val (.int x1), .val (.int x2), .val (.int x3), .unset, .unset, .unset, .unset, .unset, .unset, .unset, .unset, .unset, .unset, .unset, .unset, .unset, .unset] [] := by first | (simp [entryFrame, mkF, argsToLocals, Value.category, maxLocals]; done) | rfl
def Q0 (Z : State) (p1 : Int32) (p2 : Int32) (p3 : Int32) (p4 : Int32) (h0 : Heap) (n0 : Nat) (v : Option Value) (h : Heap) (L : List Loc) : Prop := v = some (.int 1) ∧ Fr n0 L
set_option maxRecDepth 65536 in
set_option maxHeartbeats 40000000 in
theorem rm0 (l : Launch) (Z : State) (a0 : Array Value) (hw : ∀ d ∈ tables_1, d.before a0 Z = true) (ws : List Jvm.Cond) (p1 : Int32) (p2 : Int32) (p3 : Int32) (p4 : Int32) (h0 : Heap) (n0 : Nat) (Z0 : n0 ≤ h0.size) :
    MetFree l x (head1 (Jvm.Cond.code x code maxLocals ret :: ws) room_1) (fun a U => a = #[(.int p1), (.int p2), (.int p3), (.int p4)] ∧ Z.Warmed39 U.vm ∧ U.heap = h0) (fun _ _ _ _ _ => True) (fun _ U o U' => ∃ v L, o = .returned v ∧ Q0 Z p1 p2 p3 p4 h0 n0 v U'.heap L ∧ FrameEnd U o U' L room_1.cells room_1.slots) := by
  refine MetFree.of_bodySF (plainFor_of_name pn_0) hisR ?_
  intro p e s m args below meth c s₁ Bd hml0 hP hK
  obtain ⟨rfl, hZ, hh⟩ := hP
  have hx := Bd.exec
  have hby := Bd.bytes
  have hml : c.maxLocals = 18 := hml0
  have hown : s.vm.findClass "com/example/prudent_checker/prudentchecker/smv/RangeContainsPinLaw" = some m.cls := findClass_of_methodNamed Bd.named
  have hnm := (name_of_methodNamed Bd.named Bd.method).1
  have X0 : Stand p l e room_1 s m #[(.int p1), (.int p2), (.int p3), (.int p4)] below meth c s₁ [] 0 0 := Stand.of_body Bd
  have e0 : s₁.heap = h0 := by rw [← hh, Bd.state]; rfl
  have N0 := Fr.nil n0
  have K0 : Keep h0 h0 [] := Keep.refl _ _
  have P0 : ∀ t, Steps p.tables e below (s₁.setTop (mkF m 0 #[.val (.int p1), .val (.int p2), .val (.int p3), .val (.int p4), .unset, .unset, .unset, .unset, .unset, .unset, .unset, .unset, .unset, .unset, .unset, .unset, .unset, .unset] [])) t → Steps p.tables e below (s₁.setTop (entryFrame m #[(.int p1), (.int p2), (.int p3), (.int p4)] maxLocals)) t := fun t k => castTop (ef_0 m p1 p2 p3 p4) k
  have P1 : ∀ t, Steps p.tables e below (s₁.setTop (mkF m 10 #[.val (.int p1), .val (.int p2), .val (.int p3), .val (.int p4), .val (.long (((p2 &&& (2147483647 : Int32)) % (2147483647 : Int32)).toInt64)), .second, .unset, .unset, .unset, .unset, .unset, .unset, .unset, .unset, .unset, .unset, .unset, .unset] [])) t → Steps p.tables e below (s₁.setTop (entryFrame m #[(.int p1), (.int p2), (.int p3), (.int p4)] maxLocals)) t := by
    intro t k
    refine P0 _ ?_
    refine XS.iloadN X0.here hx rfl (hb hby at_0) rfl ?_
    show Steps p.tables e below (s₁.setTop (mkF m 1 #[.val (.int p1), .val (.int p2), .val (.int p3), .val (.int p4), .unset, .unset, .unset, .unset, .unset, .unset, .unset, .unset, .unset, .unset, .unset, .unset, .unset, .unset] [(.int p2)])) _
    refine Jvm.Stand.ldcI X0 hx hown (mvT hZ (hw _ (List.mem_of_getElem? (i := 0) rfl))) rfl (hb hby at_1) ?_
    show Steps p.tables e below (s₁.setTop (mkF m 3 #[.val (.int p1), .val (.int p2), .val (.int p3), .val (.int p4), .unset, .unset, .unset, .unset, .unset, .unset, .unset, .unset, .unset, .unset, .unset, .unset, .unset, .unset] [(.int (2147483647 : Int32)), (.int p2)])) _
    refine XS.iand X0.here hx rfl (hb hby at_3) rfl ?_
    show Steps p.tables e below (s₁.setTop (mkF m 4 #[.val (.int p1), .val (.int p2), .val (.int p3), .val (.int p4), .unset, .unset, .unset, .unset, .unset, .unset, .unset, .unset, .unset, .unset, .unset, .unset, .unset, .unset] [(.int (p2 &&& (2147483647 : Int32)))])) _
    refine Jvm.Stand.ldcI X0 hx hown (mvT hZ (hw _ (List.mem_of_getElem? (i := 0) rfl))) rfl (hb hby at_4) ?_
    show Steps p.tables e below (s₁.setTop (mkF m 6 #[.val (.int p1), .val (.int p2), .val (.int p3), .val (.int p4), .unset, .unset, .unset, .unset, .unset, .unset, .unset, .unset, .unset, .unset, .unset, .unset, .unset, .unset] [(.int (2147483647 : Int32)), (.int (p2 &&& (2147483647 : Int32)))])) _
    refine iremM X0 hx rfl (hb hby at_6) rfl (by decide) ?_
    show Steps p.tables e below (s₁.setTop (mkF m 7 #[.val (.int p1), .val (.int p2), .val (.int p3), .val (.int p4), .unset, .unset, .unset, .unset, .unset, .unset, .unset, .unset, .unset, .unset, .unset, .unset, .unset, .unset] [(.int ((p2 &&& (2147483647 : Int32)) % (2147483647 : Int32)))])) _
    refine XT.i2l X0.here hx rfl (hb hby at_7) rfl ?_
    show Steps p.tables e below (s₁.setTop (mkF m 8 #[.val (.int p1), .val (.int p2), .val (.int p3), .val (.int p4), .unset, .unset, .unset, .unset, .unset, .unset, .unset, .unset, .unset, .unset, .unset, .unset, .unset, .unset] [(.long (((p2 &&& (2147483647 : Int32)) % (2147483647 : Int32)).toInt64))])) _
    refine XT.lstore X0.here hx rfl (hb hby at_8) rfl (l' := #[.val (.int p1), .val (.int p2), .val (.int p3), .val (.int p4), .val (.long (((p2 &&& (2147483647 : Int32)) % (2147483647 : Int32)).toInt64)), .second, .unset, .unset, .unset, .unset, .unset, .unset, .unset, .unset, .unset, .unset, .unset, .unset]) rfl ?_
    show Steps p.tables e below (s₁.setTop (mkF m 10 #[.val (.int p1), .val (.int p2), .val (.int p3), .val (.int p4), .val (.long (((p2 &&& (2147483647 : Int32)) % (2147483647 : Int32)).toInt64)), .second, .unset, .unset, .unset, .unset, .unset, .unset, .unset, .unset, .unset, .unset, .unset, .unset] [])) _
    exact k
  obtain ⟨span, hspan⟩ : ∃ z : Int64, z = (((p2 &&& (2147483647 : Int32)) % (2147483647 : Int32)).toInt64) := ⟨_, rfl⟩
  rw [← hspan] at P1
  have rs := own_span hspan
  have P2 : ∀ t, Steps p.tables e below (s₁.setTop (mkF m 14 #[.val (.int p1), .val (.int p2), .val (.int p3), .val (.int p4), .val (.long span), .second, .val (.long (p1.toInt64)), .second, .unset, .unset, .unset, .unset, .unset, .unset, .unset, .unset, .unset, .unset] [])) t → Steps p.tables e below (s₁.setTop (entryFrame m #[(.int p1), (.int p2), (.int p3), (.int p4)] maxLocals)) t := by
    intro t k
    refine P1 _ ?_
    refine XS.iloadN X0.here hx rfl (hb hby at_10) rfl ?_
    show Steps p.tables e below (s₁.setTop (mkF m 11 #[.val (.int p1), .val (.int p2), .val (.int p3), .val (.int p4), .val (.long span), .second, .unset, .unset, .unset, .unset, .unset, .unset, .unset, .unset, .unset, .unset, .unset, .unset] [(.int p1)])) _
    refine XT.i2l X0.here hx rfl (hb hby at_11) rfl ?_
    show Steps p.tables e below (s₁.setTop (mkF m 12 #[.val (.int p1), .val (.int p2), .val (.int p3), .val (.int p4), .val (.long span), .second, .unset, .unset, .unset, .unset, .unset, .unset, .unset, .unset, .unset, .unset, .unset, .unset] [(.long (p1.toInt64))])) _
    refine XT.lstore X0.here hx rfl (hb hby at_12) rfl (l' := #[.val (.int p1), .val (.int p2), .val (.int p3), .val (.int p4), .val (.long span), .second, .val (.long (p1.toInt64)), .second, .unset, .unset, .unset, .unset, .unset, .unset, .unset, .unset, .unset, .unset]) rfl ?_
    show Steps p.tables e below (s₁.setTop (mkF m 14 #[.val (.int p1), .val (.int p2), .val (.int p3), .val (.int p4), .val (.long span), .second, .val (.long (p1.toInt64)), .second, .unset, .unset, .unset, .unset, .unset, .unset, .unset, .unset, .unset, .unset] [])) _
    exact k
  obtain ⟨lo0, hlo0⟩ : ∃ z : Int64, z = (p1.toInt64) := ⟨_, rfl⟩
  rw [← hlo0] at P2
  have P3 : ∀ t, Steps p.tables e below (s₁.setTop (mkF m 34 #[.val (.int p1), .val (.int p2), .val (.int p3), .val (.int p4), .val (.long span), .second, .val (.long (if (2147483647 : Int64) < (lo0 + span) then ((2147483647 : Int64) - span) else lo0)), .second, .unset, .unset, .unset, .unset, .unset, .unset, .unset, .unset, .unset, .unset] [])) t → Steps p.tables e below (s₁.setTop (entryFrame m #[(.int p1), (.int p2), (.int p3), (.int p4)] maxLocals)) t := by
    intro t k
    refine P2 _ ?_
    refine XT.lload X0.here hx rfl (hb hby at_14) rfl ?_
    show Steps p.tables e below (s₁.setTop (mkF m 16 #[.val (.int p1), .val (.int p2), .val (.int p3), .val (.int p4), .val (.long span), .second, .val (.long lo0), .second, .unset, .unset, .unset, .unset, .unset, .unset, .unset, .unset, .unset, .unset] [(.long lo0)])) _
    refine XT.lload X0.here hx rfl (hb hby at_16) rfl ?_
    show Steps p.tables e below (s₁.setTop (mkF m 18 #[.val (.int p1), .val (.int p2), .val (.int p3), .val (.int p4), .val (.long span), .second, .val (.long lo0), .second, .unset, .unset, .unset, .unset, .unset, .unset, .unset, .unset, .unset, .unset] [(.long span), (.long lo0)])) _
    refine XT.ladd X0.here hx rfl (hb hby at_18) rfl ?_
    show Steps p.tables e below (s₁.setTop (mkF m 19 #[.val (.int p1), .val (.int p2), .val (.int p3), .val (.int p4), .val (.long span), .second, .val (.long lo0), .second, .unset, .unset, .unset, .unset, .unset, .unset, .unset, .unset, .unset, .unset] [(.long (lo0 + span))])) _
    refine Jvm.Stand.ldc2J X0 hx hown (mvT hZ (hw _ (List.mem_of_getElem? (i := 1) rfl))) rfl (hb hby at_19) ?_
    show Steps p.tables e below (s₁.setTop (mkF m 22 #[.val (.int p1), .val (.int p2), .val (.int p3), .val (.int p4), .val (.long span), .second, .val (.long lo0), .second, .unset, .unset, .unset, .unset, .unset, .unset, .unset, .unset, .unset, .unset] [(.long (2147483647 : Int64)), (.long (lo0 + span))])) _
    refine XT.lcmp X0.here hx rfl (hb hby at_22) rfl ?_
    show Steps p.tables e below (s₁.setTop (mkF m 23 #[.val (.int p1), .val (.int p2), .val (.int p3), .val (.int p4), .val (.long span), .second, .val (.long lo0), .second, .unset, .unset, .unset, .unset, .unset, .unset, .unset, .unset, .unset, .unset] [(.int (XT.cmpL (lo0 + span) (2147483647 : Int64)))])) _
    by_cases c23 : (2147483647 : Int64) < (lo0 + span)
    · try simp only [if_pos c23] at k
      refine XS.ifNo X0.here hx rfl (hb hby at_23) rfl (XT.ll_le_f c23) ?_
      show Steps p.tables e below (s₁.setTop (mkF m 26 #[.val (.int p1), .val (.int p2), .val (.int p3), .val (.int p4), .val (.long span), .second, .val (.long lo0), .second, .unset, .unset, .unset, .unset, .unset, .unset, .unset, .unset, .unset, .unset] [])) _
      refine Jvm.Stand.ldc2J X0 hx hown (mvT hZ (hw _ (List.mem_of_getElem? (i := 1) rfl))) rfl (hb hby at_26) ?_
      show Steps p.tables e below (s₁.setTop (mkF m 29 #[.val (.int p1), .val (.int p2), .val (.int p3), .val (.int p4), .val (.long span), .second, .val (.long lo0), .second, .unset, .unset, .unset, .unset, .unset, .unset, .unset, .unset, .unset, .unset] [(.long (2147483647 : Int64))])) _
      refine XT.lload X0.here hx rfl (hb hby at_29) rfl ?_
      show Steps p.tables e below (s₁.setTop (mkF m 31 #[.val (.int p1), .val (.int p2), .val (.int p3), .val (.int p4), .val (.long span), .second, .val (.long lo0), .second, .unset, .unset, .unset, .unset, .unset, .unset, .unset, .unset, .unset, .unset] [(.long span), (.long (2147483647 : Int64))])) _
      refine XT.lsub X0.here hx rfl (hb hby at_31) rfl ?_
      show Steps p.tables e below (s₁.setTop (mkF m 32 #[.val (.int p1), .val (.int p2), .val (.int p3), .val (.int p4), .val (.long span), .second, .val (.long lo0), .second, .unset, .unset, .unset, .unset, .unset, .unset, .unset, .unset, .unset, .unset] [(.long ((2147483647 : Int64) - span))])) _
      refine XT.lstore X0.here hx rfl (hb hby at_32) rfl (l' := #[.val (.int p1), .val (.int p2), .val (.int p3), .val (.int p4), .val (.long span), .second, .val (.long ((2147483647 : Int64) - span)), .second, .unset, .unset, .unset, .unset, .unset, .unset, .unset, .unset, .unset, .unset]) rfl ?_
      show Steps p.tables e below (s₁.setTop (mkF m 34 #[.val (.int p1), .val (.int p2), .val (.int p3), .val (.int p4), .val (.long span), .second, .val (.long ((2147483647 : Int64) - span)), .second, .unset, .unset, .unset, .unset, .unset, .unset, .unset, .unset, .unset, .unset] [])) _
      exact k
    · try simp only [if_neg c23] at k
      refine XS.ifYes X0.here hx rfl (pc0 := 23) (pc' := 34) rfl (hb hby at_23) rfl (XT.ll_le_t c23) (by decide) (by decide) ?_
      show Steps p.tables e below (s₁.setTop (mkF m 34 #[.val (.int p1), .val (.int p2), .val (.int p3), .val (.int p4), .val (.long span), .second, .val (.long lo0), .second, .unset, .unset, .unset, .unset, .unset, .unset, .unset, .unset, .unset, .unset] [])) _
      exact k
  obtain ⟨lo, hlo⟩ : ∃ z : Int64, z = (if (2147483647 : Int64) < (lo0 + span) then ((2147483647 : Int64) - span) else lo0) := ⟨_, rfl⟩
  rw [← hlo] at P3
  have P4 : ∀ t, Steps p.tables e below (s₁.setTop (mkF m 41 #[.val (.int p1), .val (.int p2), .val (.int p3), .val (.int p4), .val (.long span), .second, .val (.long lo), .second, .val (.long (lo + span)), .second, .unset, .unset, .unset, .unset, .unset, .unset, .unset, .unset] [])) t → Steps p.tables e below (s₁.setTop (entryFrame m #[(.int p1), (.int p2), (.int p3), (.int p4)] maxLocals)) t := by
    intro t k
    refine P3 _ ?_
    refine XT.lload X0.here hx rfl (hb hby at_34) rfl ?_
    show Steps p.tables e below (s₁.setTop (mkF m 36 #[.val (.int p1), .val (.int p2), .val (.int p3), .val (.int p4), .val (.long span), .second, .val (.long lo), .second, .unset, .unset, .unset, .unset, .unset, .unset, .unset, .unset, .unset, .unset] [(.long lo)])) _
    refine XT.lload X0.here hx rfl (hb hby at_36) rfl ?_
    show Steps p.tables e below (s₁.setTop (mkF m 38 #[.val (.int p1), .val (.int p2), .val (.int p3), .val (.int p4), .val (.long span), .second, .val (.long lo), .second, .unset, .unset, .unset, .unset, .unset, .unset, .unset, .unset, .unset, .unset] [(.long span), (.long lo)])) _
    refine XT.ladd X0.here hx rfl (hb hby at_38) rfl ?_
    show Steps p.tables e below (s₁.setTop (mkF m 39 #[.val (.int p1), .val (.int p2), .val (.int p3), .val (.int p4), .val (.long span), .second, .val (.long lo), .second, .unset, .unset, .unset, .unset, .unset, .unset, .unset, .unset, .unset, .unset] [(.long (lo + span))])) _
    refine XT.lstore X0.here hx rfl (hb hby at_39) rfl (l' := #[.val (.int p1), .val (.int p2), .val (.int p3), .val (.int p4), .val (.long span), .second, .val (.long lo), .second, .val (.long (lo + span)), .second, .unset, .unset, .unset, .unset, .unset, .unset, .unset, .unset]) rfl ?_
    show Steps p.tables e below (s₁.setTop (mkF m 41 #[.val (.int p1), .val (.int p2), .val (.int p3), .val (.int p4), .val (.long span), .second, .val (.long lo), .second, .val (.long (lo + span)), .second, .unset, .unset, .unset, .unset, .unset, .unset, .unset, .unset] [])) _
    exact k
  obtain ⟨hi, hhi⟩ : ∃ z : Int64, z = (lo + span) := ⟨_, rfl⟩
  rw [← hhi] at P4
  have rl := own_lo rs hlo0 hlo hhi
  obtain ⟨T5, h5, X5, e5, E5, A5, D5, -, st5⟩ := newO X0 hx hZ hown (hw _ (List.mem_of_getElem? (i := 2) rfl)) (hw _ (List.mem_of_getElem? (i := 3) rfl)) (hw _ (List.mem_of_getElem? (i := 4) rfl)) e0 (g := (mkF m 41 #[.val (.int p1), .val (.int p2), .val (.int p3), .val (.int p4), .val (.long span), .second, .val (.long lo), .second, .val (.long hi), .second, .unset, .unset, .unset, .unset, .unset, .unset, .unset, .unset] [])) rfl (hb hby at_41) (by decide) (by decide)
  obtain ⟨b5, g5⟩ : ∃ z, z = h0.size := ⟨_, rfl⟩
  rw [← g5] at A5 D5 st5
  have F6 : Fld Z h5 b5 "com/example/prudent_checker/prudentchecker/smv/Type$Range" "low" "I" (.int (0 : Int32)) := D5 (Or.inr (hw _ (List.mem_of_getElem? (i := 18) rfl))) (ty := .int) (by decide)
  have F7 : Fld Z h5 b5 "com/example/prudent_checker/prudentchecker/smv/Type$Range" "high" "I" (.int (0 : Int32)) := D5 (Or.inr (hw _ (List.mem_of_getElem? (i := 20) rfl))) (ty := .int) (by decide)
  have Z8 : n0 ≤ h5.size := Nat.le_trans Z0 E5.1
  have K9 : Keep h0 h5 [] := K0.ext E5
  have g_b5 : n0 ≤ b5 := Nat.le_trans Z0 (Nat.le_of_eq g5.symm)
  have sz_b5 : h0.size ≤ b5 := Nat.le_trans K0.1 (Nat.le_of_eq g5.symm)
  have P10 : ∀ t, Steps p.tables e below (T5.setTop (mkF m 44 #[.val (.int p1), .val (.int p2), .val (.int p3), .val (.int p4), .val (.long span), .second, .val (.long lo), .second, .val (.long hi), .second, .unset, .unset, .unset, .unset, .unset, .unset, .unset, .unset] [(.ref b5)])) t → Steps p.tables e below (s₁.setTop (entryFrame m #[(.int p1), (.int p2), (.int p3), (.int p4)] maxLocals)) t := fun t k => P4 _ (st5 _ k)
  have P11 : ∀ t, Steps p.tables e below (T5.setTop (mkF m 48 #[.val (.int p1), .val (.int p2), .val (.int p3), .val (.int p4), .val (.long span), .second, .val (.long lo), .second, .val (.long hi), .second, .unset, .unset, .unset, .unset, .unset, .unset, .unset, .unset] [(.int (lo.toInt32)), (.ref b5), (.ref b5)])) t → Steps p.tables e below (s₁.setTop (entryFrame m #[(.int p1), (.int p2), (.int p3), (.int p4)] maxLocals)) t := by
    intro t k
    refine P10 _ ?_
    refine XS.dup X5.here hx rfl (hb hby at_44) rfl rfl ?_
    show Steps p.tables e below (T5.setTop (mkF m 45 #[.val (.int p1), .val (.int p2), .val (.int p3), .val (.int p4), .val (.long span), .second, .val (.long lo), .second, .val (.long hi), .second, .unset, .unset, .unset, .unset, .unset, .unset, .unset, .unset] [(.ref b5), (.ref b5)])) _
    refine XT.lload X5.here hx rfl (hb hby at_45) rfl ?_
    show Steps p.tables e below (T5.setTop (mkF m 47 #[.val (.int p1), .val (.int p2), .val (.int p3), .val (.int p4), .val (.long span), .second, .val (.long lo), .second, .val (.long hi), .second, .unset, .unset, .unset, .unset, .unset, .unset, .unset, .unset] [(.long lo), (.ref b5), (.ref b5)])) _
    refine XT.l2i X5.here hx rfl (hb hby at_47) rfl ?_
    show Steps p.tables e below (T5.setTop (mkF m 48 #[.val (.int p1), .val (.int p2), .val (.int p3), .val (.int p4), .val (.long span), .second, .val (.long lo), .second, .val (.long hi), .second, .unset, .unset, .unset, .unset, .unset, .unset, .unset, .unset] [(.int (lo.toInt32)), (.ref b5), (.ref b5)])) _
    exact k
  obtain ⟨loI, hloI⟩ : ∃ z : Int32, z = (lo.toInt32) := ⟨_, rfl⟩
  rw [← hloI] at P11
  have P12 : ∀ t, Steps p.tables e below (T5.setTop (mkF m 51 #[.val (.int p1), .val (.int p2), .val (.int p3), .val (.int p4), .val (.long span), .second, .val (.long lo), .second, .val (.long hi), .second, .unset, .unset, .unset, .unset, .unset, .unset, .unset, .unset] [(.int (hi.toInt32)), (.int loI), (.ref b5), (.ref b5)])) t → Steps p.tables e below (s₁.setTop (entryFrame m #[(.int p1), (.int p2), (.int p3), (.int p4)] maxLocals)) t := by
    intro t k
    refine P11 _ ?_
    refine XT.lload X5.here hx rfl (hb hby at_48) rfl ?_
    show Steps p.tables e below (T5.setTop (mkF m 50 #[.val (.int p1), .val (.int p2), .val (.int p3), .val (.int p4), .val (.long span), .second, .val (.long lo), .second, .val (.long hi), .second, .unset, .unset, .unset, .unset, .unset, .unset, .unset, .unset] [(.long hi), (.int loI), (.ref b5), (.ref b5)])) _
    refine XT.l2i X5.here hx rfl (hb hby at_50) rfl ?_
    show Steps p.tables e below (T5.setTop (mkF m 51 #[.val (.int p1), .val (.int p2), .val (.int p3), .val (.int p4), .val (.long span), .second, .val (.long lo), .second, .val (.long hi), .second, .unset, .unset, .unset, .unset, .unset, .unset, .unset, .unset] [(.int (hi.toInt32)), (.int loI), (.ref b5), (.ref b5)])) _
    exact k
  obtain ⟨hiI, hhiI⟩ : ∃ z : Int32, z = (hi.toInt32) := ⟨_, rfl⟩
  rw [← hhiI] at P12
  obtain ⟨hle, hsp, hlI, hhI⟩ := own_ok rl rs hloI hhiI
  obtain ⟨_, _, ⟨T13, L13, k13, n13⟩, -, X13, ⟨Lc13, hQ13, l13, y13, z13⟩, st13⟩ := X5.specialBack hx (y := (⟨"com/example/prudent_checker/prudentchecker/smv/Type$Range", "<init>", "(II)V"⟩ : MethodName)) rfl hown (mvT hZ (hw _ (List.mem_of_getElem? (i := 5) rfl))) (mvT hZ (hw _ (List.mem_of_getElem? (i := 6) rfl))) (mvT hZ (hw _ (List.mem_of_getElem? (i := 7) rfl))) (by decide) (backOf (W := 1) (rm1 l Z a0 hw [] b5 loI hiI (.int (0 : Int32)) (.int (0 : Int32)) h5 n0 Z8 A5 F6 F7 g_b5 hle hsp) hZ (hw _ (List.mem_of_getElem? (i := 7) rfl)) (hw _ (List.mem_of_getElem? (i := 4) rfl)) (by decide) (by decide)) (g := (mkF m 51 #[.val (.int p1), .val (.int p2), .val (.int p3), .val (.int p4), .val (.long span), .second, .val (.long lo), .second, .val (.long hi), .second, .unset, .unset, .unset, .unset, .unset, .unset, .unset, .unset] [(.int hiI), (.int loI), (.ref b5), (.ref b5)])) rfl (by rw [hml]; rfl) (Steps.refl _) (a := b5) (argsL := [(.int loI), (.int hiI)]) (rest := [(.ref b5)]) (lenOf pd_1 rfl) rfl (by show 2 * 0 + _ ≤ _; exact Nat.le_of_eq rfl) (hb hby at_51) (fun _ _ => ⟨rfl, e5, (by decide : 1 + 0 ≤ _), (by decide : 2 + 0 ≤ _)⟩)
  dsimp only [Pt.U, Pt.locs, Pt.cells, Pt.slots] at X13 l13 y13 z13 st13 hQ13
  subst l13 y13 z13
  obtain ⟨rfl, N13q, K13, E13, Q13_low, Q13_high⟩ := hQ13
  have F14 : Exa Z T13.heap b5 "com/example/prudent_checker/prudentchecker/smv/Type$Range" := A5.keep K13
  have Z15 : n0 ≤ T13.heap.size := Nat.le_trans Z8 K13.1
  have K16 : Keep h0 T13.heap [] := K9.trans K13 (allS (Or.inr sz_b5) all0)
  have N13 := Fr.app N0 N13q
  have P17 : ∀ t, Steps p.tables e below (T13.setTop (mkF m 54 #[.val (.int p1), .val (.int p2), .val (.int p3), .val (.int p4), .val (.long span), .second, .val (.long lo), .second, .val (.long hi), .second, .unset, .unset, .unset, .unset, .unset, .unset, .unset, .unset] [(.ref b5)])) t → Steps p.tables e below (s₁.setTop (entryFrame m #[(.int p1), (.int p2), (.int p3), (.int p4)] maxLocals)) t := fun t k => P12 _ (st13.trans k)
  have P18 : ∀ t, Steps p.tables e below (T13.setTop (mkF m 61 #[.val (.int p1), .val (.int p2), .val (.int p3), .val (.int p4), .val (.long span), .second, .val (.long lo), .second, .val (.long hi), .second, .val (.ref b5), .val (.int (p4 &&& (3 : Int32))), .unset, .unset, .unset, .unset, .unset, .unset] [])) t → Steps p.tables e below (s₁.setTop (entryFrame m #[(.int p1), (.int p2), (.int p3), (.int p4)] maxLocals)) t := by
    intro t k
    refine P17 _ ?_
    refine XS.astore X13.here hx rfl (hb hby at_54) rfl rfl (l' := #[.val (.int p1), .val (.int p2), .val (.int p3), .val (.int p4), .val (.long span), .second, .val (.long lo), .second, .val (.long hi), .second, .val (.ref b5), .unset, .unset, .unset, .unset, .unset, .unset, .unset]) rfl ?_
    show Steps p.tables e below (T13.setTop (mkF m 56 #[.val (.int p1), .val (.int p2), .val (.int p3), .val (.int p4), .val (.long span), .second, .val (.long lo), .second, .val (.long hi), .second, .val (.ref b5), .unset, .unset, .unset, .unset, .unset, .unset, .unset] [])) _
    refine XS.iloadN X13.here hx rfl (hb hby at_56) rfl ?_
    show Steps p.tables e below (T13.setTop (mkF m 57 #[.val (.int p1), .val (.int p2), .val (.int p3), .val (.int p4), .val (.long span), .second, .val (.long lo), .second, .val (.long hi), .second, .val (.ref b5), .unset, .unset, .unset, .unset, .unset, .unset, .unset] [(.int p4)])) _
    refine XS.iconst X13.here hx rfl (hb hby at_57) ?_
    show Steps p.tables e below (T13.setTop (mkF m 58 #[.val (.int p1), .val (.int p2), .val (.int p3), .val (.int p4), .val (.long span), .second, .val (.long lo), .second, .val (.long hi), .second, .val (.ref b5), .unset, .unset, .unset, .unset, .unset, .unset, .unset] [(.int (3 : Int32)), (.int p4)])) _
    refine XS.iand X13.here hx rfl (hb hby at_58) rfl ?_
    show Steps p.tables e below (T13.setTop (mkF m 59 #[.val (.int p1), .val (.int p2), .val (.int p3), .val (.int p4), .val (.long span), .second, .val (.long lo), .second, .val (.long hi), .second, .val (.ref b5), .unset, .unset, .unset, .unset, .unset, .unset, .unset] [(.int (p4 &&& (3 : Int32)))])) _
    refine XS.istore X13.here hx rfl (hb hby at_59) rfl (l' := #[.val (.int p1), .val (.int p2), .val (.int p3), .val (.int p4), .val (.long span), .second, .val (.long lo), .second, .val (.long hi), .second, .val (.ref b5), .val (.int (p4 &&& (3 : Int32))), .unset, .unset, .unset, .unset, .unset, .unset]) rfl ?_
    show Steps p.tables e below (T13.setTop (mkF m 61 #[.val (.int p1), .val (.int p2), .val (.int p3), .val (.int p4), .val (.long span), .second, .val (.long lo), .second, .val (.long hi), .second, .val (.ref b5), .val (.int (p4 &&& (3 : Int32))), .unset, .unset, .unset, .unset, .unset, .unset] [])) _
    exact k
  obtain ⟨mode, hmode⟩ : ∃ z : Int32, z = (p4 &&& (3 : Int32)) := ⟨_, rfl⟩
  rw [← hmode] at P18
  have P19 : ∀ t, Steps p.tables e below (T13.setTop (mkF m 106 #[.val (.int p1), .val (.int p2), .val (.int p3), .val (.int p4), .val (.long span), .second, .val (.long lo), .second, .val (.long hi), .second, .val (.ref b5), .val (.int mode), .val (.long (if mode = (0 : Int32) then (p3.toInt64) else (if mode = (1 : Int32) then ((lo - (1 : Int64)) + ((p3 &&& (3 : Int32)).toInt64)) else ((hi - (2 : Int64)) + ((p3 &&& (3 : Int32)).toInt64))))), .second, .unset, .unset, .unset, .unset] [])) t → Steps p.tables e below (s₁.setTop (entryFrame m #[(.int p1), (.int p2), (.int p3), (.int p4)] maxLocals)) t := by
    intro t k
    refine P18 _ ?_
    refine XS.iload X13.here hx rfl (hb hby at_61) rfl ?_
    show Steps p.tables e below (T13.setTop (mkF m 63 #[.val (.int p1), .val (.int p2), .val (.int p3), .val (.int p4), .val (.long span), .second, .val (.long lo), .second, .val (.long hi), .second, .val (.ref b5), .val (.int mode), .unset, .unset, .unset, .unset, .unset, .unset] [(.int mode)])) _
    by_cases c63 : mode = (0 : Int32)
    · try simp only [if_pos c63] at k
      refine XS.ifNo X13.here hx rfl (hb hby at_63) rfl (XT.i0_ne_f c63) ?_
      show Steps p.tables e below (T13.setTop (mkF m 66 #[.val (.int p1), .val (.int p2), .val (.int p3), .val (.int p4), .val (.long span), .second, .val (.long lo), .second, .val (.long hi), .second, .val (.ref b5), .val (.int mode), .unset, .unset, .unset, .unset, .unset, .unset] [])) _
      refine XS.iloadN X13.here hx rfl (hb hby at_66) rfl ?_
      show Steps p.tables e below (T13.setTop (mkF m 67 #[.val (.int p1), .val (.int p2), .val (.int p3), .val (.int p4), .val (.long span), .second, .val (.long lo), .second, .val (.long hi), .second, .val (.ref b5), .val (.int mode), .unset, .unset, .unset, .unset, .unset, .unset] [(.int p3)])) _
      refine XT.i2l X13.here hx rfl (hb hby at_67) rfl ?_
      show Steps p.tables e below (T13.setTop (mkF m 68 #[.val (.int p1), .val (.int p2), .val (.int p3), .val (.int p4), .val (.long span), .second, .val (.long lo), .second, .val (.long hi), .second, .val (.ref b5), .val (.int mode), .unset, .unset, .unset, .unset, .unset, .unset] [(.long (p3.toInt64))])) _
      refine XT.lstore X13.here hx rfl (hb hby at_68) rfl (l' := #[.val (.int p1), .val (.int p2), .val (.int p3), .val (.int p4), .val (.long span), .second, .val (.long lo), .second, .val (.long hi), .second, .val (.ref b5), .val (.int mode), .val (.long (p3.toInt64)), .second, .unset, .unset, .unset, .unset]) rfl ?_
      show Steps p.tables e below (T13.setTop (mkF m 70 #[.val (.int p1), .val (.int p2), .val (.int p3), .val (.int p4), .val (.long span), .second, .val (.long lo), .second, .val (.long hi), .second, .val (.ref b5), .val (.int mode), .val (.long (p3.toInt64)), .second, .unset, .unset, .unset, .unset] [])) _
      refine XS.goto X13.here hx rfl (pc0 := 70) (pc' := 106) rfl (hb hby at_70) (by decide) (by decide) ?_
      show Steps p.tables e below (T13.setTop (mkF m 106 #[.val (.int p1), .val (.int p2), .val (.int p3), .val (.int p4), .val (.long span), .second, .val (.long lo), .second, .val (.long hi), .second, .val (.ref b5), .val (.int mode), .val (.long (p3.toInt64)), .second, .unset, .unset, .unset, .unset] [])) _
      exact k
    · try simp only [if_neg c63] at k
      refine XS.ifYes X13.here hx rfl (pc0 := 63) (pc' := 73) rfl (hb hby at_63) rfl (XT.i0_ne_t c63) (by decide) (by decide) ?_
      show Steps p.tables e below (T13.setTop (mkF m 73 #[.val (.int p1), .val (.int p2), .val (.int p3), .val (.int p4), .val (.long span), .second, .val (.long lo), .second, .val (.long hi), .second, .val (.ref b5), .val (.int mode), .unset, .unset, .unset, .unset, .unset, .unset] [])) _
      refine XS.iload X13.here hx rfl (hb hby at_73) rfl ?_
      show Steps p.tables e below (T13.setTop (mkF m 75 #[.val (.int p1), .val (.int p2), .val (.int p3), .val (.int p4), .val (.long span), .second, .val (.long lo), .second, .val (.long hi), .second, .val (.ref b5), .val (.int mode), .unset, .unset, .unset, .unset, .unset, .unset] [(.int mode)])) _
      refine XS.iconst X13.here hx rfl (hb hby at_75) ?_
      show Steps p.tables e below (T13.setTop (mkF m 76 #[.val (.int p1), .val (.int p2), .val (.int p3), .val (.int p4), .val (.long span), .second, .val (.long lo), .second, .val (.long hi), .second, .val (.ref b5), .val (.int mode), .unset, .unset, .unset, .unset, .unset, .unset] [(.int (1 : Int32)), (.int mode)])) _
      by_cases c76 : mode = (1 : Int32)
      · try simp only [if_pos c76] at k
        refine XS.icmpNo X13.here hx rfl (hb hby at_76) rfl (XT.ii_ne_f c76) ?_
        show Steps p.tables e below (T13.setTop (mkF m 79 #[.val (.int p1), .val (.int p2), .val (.int p3), .val (.int p4), .val (.long span), .second, .val (.long lo), .second, .val (.long hi), .second, .val (.ref b5), .val (.int mode), .unset, .unset, .unset, .unset, .unset, .unset] [])) _
        refine XT.lload X13.here hx rfl (hb hby at_79) rfl ?_
        show Steps p.tables e below (T13.setTop (mkF m 81 #[.val (.int p1), .val (.int p2), .val (.int p3), .val (.int p4), .val (.long span), .second, .val (.long lo), .second, .val (.long hi), .second, .val (.ref b5), .val (.int mode), .unset, .unset, .unset, .unset, .unset, .unset] [(.long lo)])) _
        refine XT.lconst X13.here hx rfl (hb hby at_81) ?_
        show Steps p.tables e below (T13.setTop (mkF m 82 #[.val (.int p1), .val (.int p2), .val (.int p3), .val (.int p4), .val (.long span), .second, .val (.long lo), .second, .val (.long hi), .second, .val (.ref b5), .val (.int mode), .unset, .unset, .unset, .unset, .unset, .unset] [(.long (1 : Int64)), (.long lo)])) _
        refine XT.lsub X13.here hx rfl (hb hby at_82) rfl ?_
        show Steps p.tables e below (T13.setTop (mkF m 83 #[.val (.int p1), .val (.int p2), .val (.int p3), .val (.int p4), .val (.long span), .second, .val (.long lo), .second, .val (.long hi), .second, .val (.ref b5), .val (.int mode), .unset, .unset, .unset, .unset, .unset, .unset] [(.long (lo - (1 : Int64)))])) _
        refine XS.iloadN X13.here hx rfl (hb hby at_83) rfl ?_
        show Steps p.tables e below (T13.setTop (mkF m 84 #[.val (.int p1), .val (.int p2), .val (.int p3), .val (.int p4), .val (.long span), .second, .val (.long lo), .second, .val (.long hi), .second, .val (.ref b5), .val (.int mode), .unset, .unset, .unset, .unset, .unset, .unset] [(.int p3), (.long (lo - (1 : Int64)))])) _
        refine XS.iconst X13.here hx rfl (hb hby at_84) ?_
        show Steps p.tables e below (T13.setTop (mkF m 85 #[.val (.int p1), .val (.int p2), .val (.int p3), .val (.int p4), .val (.long span), .second, .val (.long lo), .second, .val (.long hi), .second, .val (.ref b5), .val (.int mode), .unset, .unset, .unset, .unset, .unset, .unset] [(.int (3 : Int32)), (.int p3), (.long (lo - (1 : Int64)))])) _
        refine XS.iand X13.here hx rfl (hb hby at_85) rfl ?_
        show Steps p.tables e below (T13.setTop (mkF m 86 #[.val (.int p1), .val (.int p2), .val (.int p3), .val (.int p4), .val (.long span), .second, .val (.long lo), .second, .val (.long hi), .second, .val (.ref b5), .val (.int mode), .unset, .unset, .unset, .unset, .unset, .unset] [(.int (p3 &&& (3 : Int32))), (.long (lo - (1 : Int64)))])) _
        refine XT.i2l X13.here hx rfl (hb hby at_86) rfl ?_
        show Steps p.tables e below (T13.setTop (mkF m 87 #[.val (.int p1), .val (.int p2), .val (.int p3), .val (.int p4), .val (.long span), .second, .val (.long lo), .second, .val (.long hi), .second, .val (.ref b5), .val (.int mode), .unset, .unset, .unset, .unset, .unset, .unset] [(.long ((p3 &&& (3 : Int32)).toInt64)), (.long (lo - (1 : Int64)))])) _
        refine XT.ladd X13.here hx rfl (hb hby at_87) rfl ?_
        show Steps p.tables e below (T13.setTop (mkF m 88 #[.val (.int p1), .val (.int p2), .val (.int p3), .val (.int p4), .val (.long span), .second, .val (.long lo), .second, .val (.long hi), .second, .val (.ref b5), .val (.int mode), .unset, .unset, .unset, .unset, .unset, .unset] [(.long ((lo - (1 : Int64)) + ((p3 &&& (3 : Int32)).toInt64)))])) _
        refine XT.lstore X13.here hx rfl (hb hby at_88) rfl (l' := #[.val (.int p1), .val (.int p2), .val (.int p3), .val (.int p4), .val (.long span), .second, .val (.long lo), .second, .val (.long hi), .second, .val (.ref b5), .val (.int mode), .val (.long ((lo - (1 : Int64)) + ((p3 &&& (3 : Int32)).toInt64))), .second, .unset, .unset, .unset, .unset]) rfl ?_
        show Steps p.tables e below (T13.setTop (mkF m 90 #[.val (.int p1), .val (.int p2), .val (.int p3), .val (.int p4), .val (.long span), .second, .val (.long lo), .second, .val (.long hi), .second, .val (.ref b5), .val (.int mode), .val (.long ((lo - (1 : Int64)) + ((p3 &&& (3 : Int32)).toInt64))), .second, .unset, .unset, .unset, .unset] [])) _
        refine XS.goto X13.here hx rfl (pc0 := 90) (pc' := 106) rfl (hb hby at_90) (by decide) (by decide) ?_
        show Steps p.tables e below (T13.setTop (mkF m 106 #[.val (.int p1), .val (.int p2), .val (.int p3), .val (.int p4), .val (.long span), .second, .val (.long lo), .second, .val (.long hi), .second, .val (.ref b5), .val (.int mode), .val (.long ((lo - (1 : Int64)) + ((p3 &&& (3 : Int32)).toInt64))), .second, .unset, .unset, .unset, .unset] [])) _
        exact k
      · try simp only [if_neg c76] at k
        refine XS.icmpYes X13.here hx rfl (pc0 := 76) (pc' := 93) rfl (hb hby at_76) rfl (XT.ii_ne_t c76) (by decide) (by decide) ?_
        show Steps p.tables e below (T13.setTop (mkF m 93 #[.val (.int p1), .val (.int p2), .val (.int p3), .val (.int p4), .val (.long span), .second, .val (.long lo), .second, .val (.long hi), .second, .val (.ref b5), .val (.int mode), .unset, .unset, .unset, .unset, .unset, .unset] [])) _
        refine XT.lload X13.here hx rfl (hb hby at_93) rfl ?_
        show Steps p.tables e below (T13.setTop (mkF m 95 #[.val (.int p1), .val (.int p2), .val (.int p3), .val (.int p4), .val (.long span), .second, .val (.long lo), .second, .val (.long hi), .second, .val (.ref b5), .val (.int mode), .unset, .unset, .unset, .unset, .unset, .unset] [(.long hi)])) _
        refine Jvm.Stand.ldc2J X13 hx hown (mvT hZ (hw _ (List.mem_of_getElem? (i := 27) rfl))) rfl (hb hby at_95) ?_
        show Steps p.tables e below (T13.setTop (mkF m 98 #[.val (.int p1), .val (.int p2), .val (.int p3), .val (.int p4), .val (.long span), .second, .val (.long lo), .second, .val (.long hi), .second, .val (.ref b5), .val (.int mode), .unset, .unset, .unset, .unset, .unset, .unset] [(.long (2 : Int64)), (.long hi)])) _
        refine XT.lsub X13.here hx rfl (hb hby at_98) rfl ?_
        show Steps p.tables e below (T13.setTop (mkF m 99 #[.val (.int p1), .val (.int p2), .val (.int p3), .val (.int p4), .val (.long span), .second, .val (.long lo), .second, .val (.long hi), .second, .val (.ref b5), .val (.int mode), .unset, .unset, .unset, .unset, .unset, .unset] [(.long (hi - (2 : Int64)))])) _
        refine XS.iloadN X13.here hx rfl (hb hby at_99) rfl ?_
        show Steps p.tables e below (T13.setTop (mkF m 100 #[.val (.int p1), .val (.int p2), .val (.int p3), .val (.int p4), .val (.long span), .second, .val (.long lo), .second, .val (.long hi), .second, .val (.ref b5), .val (.int mode), .unset, .unset, .unset, .unset, .unset, .unset] [(.int p3), (.long (hi - (2 : Int64)))])) _
        refine XS.iconst X13.here hx rfl (hb hby at_100) ?_
        show Steps p.tables e below (T13.setTop (mkF m 101 #[.val (.int p1), .val (.int p2), .val (.int p3), .val (.int p4), .val (.long span), .second, .val (.long lo), .second, .val (.long hi), .second, .val (.ref b5), .val (.int mode), .unset, .unset, .unset, .unset, .unset, .unset] [(.int (3 : Int32)), (.int p3), (.long (hi - (2 : Int64)))])) _
        refine XS.iand X13.here hx rfl (hb hby at_101) rfl ?_
        show Steps p.tables e below (T13.setTop (mkF m 102 #[.val (.int p1), .val (.int p2), .val (.int p3), .val (.int p4), .val (.long span), .second, .val (.long lo), .second, .val (.long hi), .second, .val (.ref b5), .val (.int mode), .unset, .unset, .unset, .unset, .unset, .unset] [(.int (p3 &&& (3 : Int32))), (.long (hi - (2 : Int64)))])) _
        refine XT.i2l X13.here hx rfl (hb hby at_102) rfl ?_
        show Steps p.tables e below (T13.setTop (mkF m 103 #[.val (.int p1), .val (.int p2), .val (.int p3), .val (.int p4), .val (.long span), .second, .val (.long lo), .second, .val (.long hi), .second, .val (.ref b5), .val (.int mode), .unset, .unset, .unset, .unset, .unset, .unset] [(.long ((p3 &&& (3 : Int32)).toInt64)), (.long (hi - (2 : Int64)))])) _
        refine XT.ladd X13.here hx rfl (hb hby at_103) rfl ?_
        show Steps p.tables e below (T13.setTop (mkF m 104 #[.val (.int p1), .val (.int p2), .val (.int p3), .val (.int p4), .val (.long span), .second, .val (.long lo), .second, .val (.long hi), .second, .val (.ref b5), .val (.int mode), .unset, .unset, .unset, .unset, .unset, .unset] [(.long ((hi - (2 : Int64)) + ((p3 &&& (3 : Int32)).toInt64)))])) _
        refine XT.lstore X13.here hx rfl (hb hby at_104) rfl (l' := #[.val (.int p1), .val (.int p2), .val (.int p3), .val (.int p4), .val (.long span), .second, .val (.long lo), .second, .val (.long hi), .second, .val (.ref b5), .val (.int mode), .val (.long ((hi - (2 : Int64)) + ((p3 &&& (3 : Int32)).toInt64))), .second, .unset, .unset, .unset, .unset]) rfl ?_
        show Steps p.tables e below (T13.setTop (mkF m 106 #[.val (.int p1), .val (.int p2), .val (.int p3), .val (.int p4), .val (.long span), .second, .val (.long lo), .second, .val (.long hi), .second, .val (.ref b5), .val (.int mode), .val (.long ((hi - (2 : Int64)) + ((p3 &&& (3 : Int32)).toInt64))), .second, .unset, .unset, .unset, .unset] [])) _
        exact k
  obtain ⟨cand0, hcand0⟩ : ∃ z : Int64, z = (if mode = (0 : Int32) then (p3.toInt64) else (if mode = (1 : Int32) then ((lo - (1 : Int64)) + ((p3 &&& (3 : Int32)).toInt64)) else ((hi - (2 : Int64)) + ((p3 &&& (3 : Int32)).toInt64)))) := ⟨_, rfl⟩
  rw [← hcand0] at P19
  have P20 : ∀ t, Steps p.tables e below (T13.setTop (mkF m 128 #[.val (.int p1), .val (.int p2), .val (.int p3), .val (.int p4), .val (.long span), .second, .val (.long lo), .second, .val (.long hi), .second, .val (.ref b5), .val (.int mode), .val (.long (if cand0 < (-2147483648 : Int64) then (p3.toInt64) else (if (2147483647 : Int64) < cand0 then (p3.toInt64) else cand0))), .second, .unset, .unset, .unset, .unset] [])) t → Steps p.tables e below (s₁.setTop (entryFrame m #[(.int p1), (.int p2), (.int p3), (.int p4)] maxLocals)) t := by
    intro t k
    refine P19 _ ?_
    refine XT.lload X13.here hx rfl (hb hby at_106) rfl ?_
    show Steps p.tables e below (T13.setTop (mkF m 108 #[.val (.int p1), .val (.int p2), .val (.int p3), .val (.int p4), .val (.long span), .second, .val (.long lo), .second, .val (.long hi), .second, .val (.ref b5), .val (.int mode), .val (.long cand0), .second, .unset, .unset, .unset, .unset] [(.long cand0)])) _
    refine Jvm.Stand.ldc2J X13 hx hown (mvT hZ (hw _ (List.mem_of_getElem? (i := 21) rfl))) rfl (hb hby at_108) ?_
    show Steps p.tables e below (T13.setTop (mkF m 111 #[.val (.int p1), .val (.int p2), .val (.int p3), .val (.int p4), .val (.long span), .second, .val (.long lo), .second, .val (.long hi), .second, .val (.ref b5), .val (.int mode), .val (.long cand0), .second, .unset, .unset, .unset, .unset] [(.long (-2147483648 : Int64)), (.long cand0)])) _
    refine XT.lcmp X13.here hx rfl (hb hby at_111) rfl ?_
    show Steps p.tables e below (T13.setTop (mkF m 112 #[.val (.int p1), .val (.int p2), .val (.int p3), .val (.int p4), .val (.long span), .second, .val (.long lo), .second, .val (.long hi), .second, .val (.ref b5), .val (.int mode), .val (.long cand0), .second, .unset, .unset, .unset, .unset] [(.int (XT.cmpL cand0 (-2147483648 : Int64)))])) _
    by_cases c112 : cand0 < (-2147483648 : Int64)
    · try simp only [if_pos c112] at k
      refine XS.ifYes X13.here hx rfl (pc0 := 112) (pc' := 124) rfl (hb hby at_112) rfl (XT.ll_lt_t c112) (by decide) (by decide) ?_
      show Steps p.tables e below (T13.setTop (mkF m 124 #[.val (.int p1), .val (.int p2), .val (.int p3), .val (.int p4), .val (.long span), .second, .val (.long lo), .second, .val (.long hi), .second, .val (.ref b5), .val (.int mode), .val (.long cand0), .second, .unset, .unset, .unset, .unset] [])) _
      refine XS.iloadN X13.here hx rfl (hb hby at_124) rfl ?_
      show Steps p.tables e below (T13.setTop (mkF m 125 #[.val (.int p1), .val (.int p2), .val (.int p3), .val (.int p4), .val (.long span), .second, .val (.long lo), .second, .val (.long hi), .second, .val (.ref b5), .val (.int mode), .val (.long cand0), .second, .unset, .unset, .unset, .unset] [(.int p3)])) _
      refine XT.i2l X13.here hx rfl (hb hby at_125) rfl ?_
      show Steps p.tables e below (T13.setTop (mkF m 126 #[.val (.int p1), .val (.int p2), .val (.int p3), .val (.int p4), .val (.long span), .second, .val (.long lo), .second, .val (.long hi), .second, .val (.ref b5), .val (.int mode), .val (.long cand0), .second, .unset, .unset, .unset, .unset] [(.long (p3.toInt64))])) _
      refine XT.lstore X13.here hx rfl (hb hby at_126) rfl (l' := #[.val (.int p1), .val (.int p2), .val (.int p3), .val (.int p4), .val (.long span), .second, .val (.long lo), .second, .val (.long hi), .second, .val (.ref b5), .val (.int mode), .val (.long (p3.toInt64)), .second, .unset, .unset, .unset, .unset]) rfl ?_
      show Steps p.tables e below (T13.setTop (mkF m 128 #[.val (.int p1), .val (.int p2), .val (.int p3), .val (.int p4), .val (.long span), .second, .val (.long lo), .second, .val (.long hi), .second, .val (.ref b5), .val (.int mode), .val (.long (p3.toInt64)), .second, .unset, .unset, .unset, .unset] [])) _
      exact k
    · try simp only [if_neg c112] at k
      refine XS.ifNo X13.here hx rfl (hb hby at_112) rfl (XT.ll_lt_f c112) ?_
      show Steps p.tables e below (T13.setTop (mkF m 115 #[.val (.int p1), .val (.int p2), .val (.int p3), .val (.int p4), .val (.long span), .second, .val (.long lo), .second, .val (.long hi), .second, .val (.ref b5), .val (.int mode), .val (.long cand0), .second, .unset, .unset, .unset, .unset] [])) _
      refine XT.lload X13.here hx rfl (hb hby at_115) rfl ?_
      show Steps p.tables e below (T13.setTop (mkF m 117 #[.val (.int p1), .val (.int p2), .val (.int p3), .val (.int p4), .val (.long span), .second, .val (.long lo), .second, .val (.long hi), .second, .val (.ref b5), .val (.int mode), .val (.long cand0), .second, .unset, .unset, .unset, .unset] [(.long cand0)])) _
      refine Jvm.Stand.ldc2J X13 hx hown (mvT hZ (hw _ (List.mem_of_getElem? (i := 1) rfl))) rfl (hb hby at_117) ?_
      show Steps p.tables e below (T13.setTop (mkF m 120 #[.val (.int p1), .val (.int p2), .val (.int p3), .val (.int p4), .val (.long span), .second, .val (.long lo), .second, .val (.long hi), .second, .val (.ref b5), .val (.int mode), .val (.long cand0), .second, .unset, .unset, .unset, .unset] [(.long (2147483647 : Int64)), (.long cand0)])) _
      refine XT.lcmp X13.here hx rfl (hb hby at_120) rfl ?_
      show Steps p.tables e below (T13.setTop (mkF m 121 #[.val (.int p1), .val (.int p2), .val (.int p3), .val (.int p4), .val (.long span), .second, .val (.long lo), .second, .val (.long hi), .second, .val (.ref b5), .val (.int mode), .val (.long cand0), .second, .unset, .unset, .unset, .unset] [(.int (XT.cmpL cand0 (2147483647 : Int64)))])) _
      by_cases c121 : (2147483647 : Int64) < cand0
      · try simp only [if_pos c121] at k
        refine XS.ifNo X13.here hx rfl (hb hby at_121) rfl (XT.ll_le_f c121) ?_
        show Steps p.tables e below (T13.setTop (mkF m 124 #[.val (.int p1), .val (.int p2), .val (.int p3), .val (.int p4), .val (.long span), .second, .val (.long lo), .second, .val (.long hi), .second, .val (.ref b5), .val (.int mode), .val (.long cand0), .second, .unset, .unset, .unset, .unset] [])) _
        refine XS.iloadN X13.here hx rfl (hb hby at_124) rfl ?_
        show Steps p.tables e below (T13.setTop (mkF m 125 #[.val (.int p1), .val (.int p2), .val (.int p3), .val (.int p4), .val (.long span), .second, .val (.long lo), .second, .val (.long hi), .second, .val (.ref b5), .val (.int mode), .val (.long cand0), .second, .unset, .unset, .unset, .unset] [(.int p3)])) _
        refine XT.i2l X13.here hx rfl (hb hby at_125) rfl ?_
        show Steps p.tables e below (T13.setTop (mkF m 126 #[.val (.int p1), .val (.int p2), .val (.int p3), .val (.int p4), .val (.long span), .second, .val (.long lo), .second, .val (.long hi), .second, .val (.ref b5), .val (.int mode), .val (.long cand0), .second, .unset, .unset, .unset, .unset] [(.long (p3.toInt64))])) _
        refine XT.lstore X13.here hx rfl (hb hby at_126) rfl (l' := #[.val (.int p1), .val (.int p2), .val (.int p3), .val (.int p4), .val (.long span), .second, .val (.long lo), .second, .val (.long hi), .second, .val (.ref b5), .val (.int mode), .val (.long (p3.toInt64)), .second, .unset, .unset, .unset, .unset]) rfl ?_
        show Steps p.tables e below (T13.setTop (mkF m 128 #[.val (.int p1), .val (.int p2), .val (.int p3), .val (.int p4), .val (.long span), .second, .val (.long lo), .second, .val (.long hi), .second, .val (.ref b5), .val (.int mode), .val (.long (p3.toInt64)), .second, .unset, .unset, .unset, .unset] [])) _
        exact k
      · try simp only [if_neg c121] at k
        refine XS.ifYes X13.here hx rfl (pc0 := 121) (pc' := 128) rfl (hb hby at_121) rfl (XT.ll_le_t c121) (by decide) (by decide) ?_
        show Steps p.tables e below (T13.setTop (mkF m 128 #[.val (.int p1), .val (.int p2), .val (.int p3), .val (.int p4), .val (.long span), .second, .val (.long lo), .second, .val (.long hi), .second, .val (.ref b5), .val (.int mode), .val (.long cand0), .second, .unset, .unset, .unset, .unset] [])) _
        exact k
  obtain ⟨cand, hcand⟩ : ∃ z : Int64, z = (if cand0 < (-2147483648 : Int64) then (p3.toInt64) else (if (2147483647 : Int64) < cand0 then (p3.toInt64) else cand0)) := ⟨_, rfl⟩
  rw [← hcand] at P20
  have P21 : ∀ t, Steps p.tables e below (T13.setTop (mkF m 133 #[.val (.int p1), .val (.int p2), .val (.int p3), .val (.int p4), .val (.long span), .second, .val (.long lo), .second, .val (.long hi), .second, .val (.ref b5), .val (.int mode), .val (.long cand), .second, .val (.int (cand.toInt32)), .unset, .unset, .unset] [])) t → Steps p.tables e below (s₁.setTop (entryFrame m #[(.int p1), (.int p2), (.int p3), (.int p4)] maxLocals)) t := by
    intro t k
    refine P20 _ ?_
    refine XT.lload X13.here hx rfl (hb hby at_128) rfl ?_
    show Steps p.tables e below (T13.setTop (mkF m 130 #[.val (.int p1), .val (.int p2), .val (.int p3), .val (.int p4), .val (.long span), .second, .val (.long lo), .second, .val (.long hi), .second, .val (.ref b5), .val (.int mode), .val (.long cand), .second, .unset, .unset, .unset, .unset] [(.long cand)])) _
    refine XT.l2i X13.here hx rfl (hb hby at_130) rfl ?_
    show Steps p.tables e below (T13.setTop (mkF m 131 #[.val (.int p1), .val (.int p2), .val (.int p3), .val (.int p4), .val (.long span), .second, .val (.long lo), .second, .val (.long hi), .second, .val (.ref b5), .val (.int mode), .val (.long cand), .second, .unset, .unset, .unset, .unset] [(.int (cand.toInt32))])) _
    refine XS.istore X13.here hx rfl (hb hby at_131) rfl (l' := #[.val (.int p1), .val (.int p2), .val (.int p3), .val (.int p4), .val (.long span), .second, .val (.long lo), .second, .val (.long hi), .second, .val (.ref b5), .val (.int mode), .val (.long cand), .second, .val (.int (cand.toInt32)), .unset, .unset, .unset]) rfl ?_
    show Steps p.tables e below (T13.setTop (mkF m 133 #[.val (.int p1), .val (.int p2), .val (.int p3), .val (.int p4), .val (.long span), .second, .val (.long lo), .second, .val (.long hi), .second, .val (.ref b5), .val (.int mode), .val (.long cand), .second, .val (.int (cand.toInt32)), .unset, .unset, .unset] [])) _
    exact k
  obtain ⟨vv, hvv⟩ : ∃ z : Int32, z = (cand.toInt32) := ⟨_, rfl⟩
  rw [← hvv] at P21
  have P22 : ∀ t, Steps p.tables e below (T13.setTop (mkF m 141 #[.val (.int p1), .val (.int p2), .val (.int p3), .val (.int p4), .val (.long span), .second, .val (.long lo), .second, .val (.long hi), .second, .val (.ref b5), .val (.int mode), .val (.long cand), .second, .val (.int vv), .val (.long ((vv.toInt64) - lo)), .second, .unset] [])) t → Steps p.tables e below (s₁.setTop (entryFrame m #[(.int p1), (.int p2), (.int p3), (.int p4)] maxLocals)) t := by
    intro t k
    refine P21 _ ?_
    refine XS.iload X13.here hx rfl (hb hby at_133) rfl ?_
    show Steps p.tables e below (T13.setTop (mkF m 135 #[.val (.int p1), .val (.int p2), .val (.int p3), .val (.int p4), .val (.long span), .second, .val (.long lo), .second, .val (.long hi), .second, .val (.ref b5), .val (.int mode), .val (.long cand), .second, .val (.int vv), .unset, .unset, .unset] [(.int vv)])) _
    refine XT.i2l X13.here hx rfl (hb hby at_135) rfl ?_
    show Steps p.tables e below (T13.setTop (mkF m 136 #[.val (.int p1), .val (.int p2), .val (.int p3), .val (.int p4), .val (.long span), .second, .val (.long lo), .second, .val (.long hi), .second, .val (.ref b5), .val (.int mode), .val (.long cand), .second, .val (.int vv), .unset, .unset, .unset] [(.long (vv.toInt64))])) _
    refine XT.lload X13.here hx rfl (hb hby at_136) rfl ?_
    show Steps p.tables e below (T13.setTop (mkF m 138 #[.val (.int p1), .val (.int p2), .val (.int p3), .val (.int p4), .val (.long span), .second, .val (.long lo), .second, .val (.long hi), .second, .val (.ref b5), .val (.int mode), .val (.long cand), .second, .val (.int vv), .unset, .unset, .unset] [(.long lo), (.long (vv.toInt64))])) _
    refine XT.lsub X13.here hx rfl (hb hby at_138) rfl ?_
    show Steps p.tables e below (T13.setTop (mkF m 139 #[.val (.int p1), .val (.int p2), .val (.int p3), .val (.int p4), .val (.long span), .second, .val (.long lo), .second, .val (.long hi), .second, .val (.ref b5), .val (.int mode), .val (.long cand), .second, .val (.int vv), .unset, .unset, .unset] [(.long ((vv.toInt64) - lo))])) _
    refine XT.lstore X13.here hx rfl (hb hby at_139) rfl (l' := #[.val (.int p1), .val (.int p2), .val (.int p3), .val (.int p4), .val (.long span), .second, .val (.long lo), .second, .val (.long hi), .second, .val (.ref b5), .val (.int mode), .val (.long cand), .second, .val (.int vv), .val (.long ((vv.toInt64) - lo)), .second, .unset]) rfl ?_
    show Steps p.tables e below (T13.setTop (mkF m 141 #[.val (.int p1), .val (.int p2), .val (.int p3), .val (.int p4), .val (.long span), .second, .val (.long lo), .second, .val (.long hi), .second, .val (.ref b5), .val (.int mode), .val (.long cand), .second, .val (.int vv), .val (.long ((vv.toInt64) - lo)), .second, .unset] [])) _
    exact k
  obtain ⟨off, hoff⟩ : ∃ z : Int64, z = ((vv.toInt64) - lo) := ⟨_, rfl⟩
  rw [← hoff] at P22
  have P23 : ∀ t, Steps p.tables e below (T13.setTop (mkF m 161 #[.val (.int p1), .val (.int p2), .val (.int p3), .val (.int p4), .val (.long span), .second, .val (.long lo), .second, .val (.long hi), .second, .val (.ref b5), .val (.int mode), .val (.long cand), .second, .val (.int vv), .val (.long off), .second, .unset] [(.int (if off < (0 : Int64) then (0 : Int32) else (if span < off then (0 : Int32) else (1 : Int32))))])) t → Steps p.tables e below (s₁.setTop (entryFrame m #[(.int p1), (.int p2), (.int p3), (.int p4)] maxLocals)) t := by
    intro t k
    refine P22 _ ?_
    refine XT.lload X13.here hx rfl (hb hby at_141) rfl ?_
    show Steps p.tables e below (T13.setTop (mkF m 143 #[.val (.int p1), .val (.int p2), .val (.int p3), .val (.int p4), .val (.long span), .second, .val (.long lo), .second, .val (.long hi), .second, .val (.ref b5), .val (.int mode), .val (.long cand), .second, .val (.int vv), .val (.long off), .second, .unset] [(.long off)])) _
    refine XT.lconst X13.here hx rfl (hb hby at_143) ?_
    show Steps p.tables e below (T13.setTop (mkF m 144 #[.val (.int p1), .val (.int p2), .val (.int p3), .val (.int p4), .val (.long span), .second, .val (.long lo), .second, .val (.long hi), .second, .val (.ref b5), .val (.int mode), .val (.long cand), .second, .val (.int vv), .val (.long off), .second, .unset] [(.long (0 : Int64)), (.long off)])) _
    refine XT.lcmp X13.here hx rfl (hb hby at_144) rfl ?_
    show Steps p.tables e below (T13.setTop (mkF m 145 #[.val (.int p1), .val (.int p2), .val (.int p3), .val (.int p4), .val (.long span), .second, .val (.long lo), .second, .val (.long hi), .second, .val (.ref b5), .val (.int mode), .val (.long cand), .second, .val (.int vv), .val (.long off), .second, .unset] [(.int (XT.cmpL off (0 : Int64)))])) _
    by_cases c145 : off < (0 : Int64)
    · try simp only [if_pos c145] at k
      refine XS.ifYes X13.here hx rfl (pc0 := 145) (pc' := 160) rfl (hb hby at_145) rfl (XT.ll_lt_t c145) (by decide) (by decide) ?_
      show Steps p.tables e below (T13.setTop (mkF m 160 #[.val (.int p1), .val (.int p2), .val (.int p3), .val (.int p4), .val (.long span), .second, .val (.long lo), .second, .val (.long hi), .second, .val (.ref b5), .val (.int mode), .val (.long cand), .second, .val (.int vv), .val (.long off), .second, .unset] [])) _
      refine XS.iconst X13.here hx rfl (hb hby at_160) ?_
      show Steps p.tables e below (T13.setTop (mkF m 161 #[.val (.int p1), .val (.int p2), .val (.int p3), .val (.int p4), .val (.long span), .second, .val (.long lo), .second, .val (.long hi), .second, .val (.ref b5), .val (.int mode), .val (.long cand), .second, .val (.int vv), .val (.long off), .second, .unset] [(.int (0 : Int32))])) _
      exact k
    · try simp only [if_neg c145] at k
      refine XS.ifNo X13.here hx rfl (hb hby at_145) rfl (XT.ll_lt_f c145) ?_
      show Steps p.tables e below (T13.setTop (mkF m 148 #[.val (.int p1), .val (.int p2), .val (.int p3), .val (.int p4), .val (.long span), .second, .val (.long lo), .second, .val (.long hi), .second, .val (.ref b5), .val (.int mode), .val (.long cand), .second, .val (.int vv), .val (.long off), .second, .unset] [])) _
      refine XT.lload X13.here hx rfl (hb hby at_148) rfl ?_
      show Steps p.tables e below (T13.setTop (mkF m 150 #[.val (.int p1), .val (.int p2), .val (.int p3), .val (.int p4), .val (.long span), .second, .val (.long lo), .second, .val (.long hi), .second, .val (.ref b5), .val (.int mode), .val (.long cand), .second, .val (.int vv), .val (.long off), .second, .unset] [(.long off)])) _
      refine XT.lload X13.here hx rfl (hb hby at_150) rfl ?_
      show Steps p.tables e below (T13.setTop (mkF m 152 #[.val (.int p1), .val (.int p2), .val (.int p3), .val (.int p4), .val (.long span), .second, .val (.long lo), .second, .val (.long hi), .second, .val (.ref b5), .val (.int mode), .val (.long cand), .second, .val (.int vv), .val (.long off), .second, .unset] [(.long span), (.long off)])) _
      refine XT.lcmp X13.here hx rfl (hb hby at_152) rfl ?_
      show Steps p.tables e below (T13.setTop (mkF m 153 #[.val (.int p1), .val (.int p2), .val (.int p3), .val (.int p4), .val (.long span), .second, .val (.long lo), .second, .val (.long hi), .second, .val (.ref b5), .val (.int mode), .val (.long cand), .second, .val (.int vv), .val (.long off), .second, .unset] [(.int (XT.cmpL off span))])) _
      by_cases c153 : span < off
      · try simp only [if_pos c153] at k
        refine XS.ifYes X13.here hx rfl (pc0 := 153) (pc' := 160) rfl (hb hby at_153) rfl (XT.ll_gt_t c153) (by decide) (by decide) ?_
        show Steps p.tables e below (T13.setTop (mkF m 160 #[.val (.int p1), .val (.int p2), .val (.int p3), .val (.int p4), .val (.long span), .second, .val (.long lo), .second, .val (.long hi), .second, .val (.ref b5), .val (.int mode), .val (.long cand), .second, .val (.int vv), .val (.long off), .second, .unset] [])) _
        refine XS.iconst X13.here hx rfl (hb hby at_160) ?_
        show Steps p.tables e below (T13.setTop (mkF m 161 #[.val (.int p1), .val (.int p2), .val (.int p3), .val (.int p4), .val (.long span), .second, .val (.long lo), .second, .val (.long hi), .second, .val (.ref b5), .val (.int mode), .val (.long cand), .second, .val (.int vv), .val (.long off), .second, .unset] [(.int (0 : Int32))])) _
        exact k
      · try simp only [if_neg c153] at k
        refine XS.ifNo X13.here hx rfl (hb hby at_153) rfl (XT.ll_gt_f c153) ?_
        show Steps p.tables e below (T13.setTop (mkF m 156 #[.val (.int p1), .val (.int p2), .val (.int p3), .val (.int p4), .val (.long span), .second, .val (.long lo), .second, .val (.long hi), .second, .val (.ref b5), .val (.int mode), .val (.long cand), .second, .val (.int vv), .val (.long off), .second, .unset] [])) _
        refine XS.iconst X13.here hx rfl (hb hby at_156) ?_
        show Steps p.tables e below (T13.setTop (mkF m 157 #[.val (.int p1), .val (.int p2), .val (.int p3), .val (.int p4), .val (.long span), .second, .val (.long lo), .second, .val (.long hi), .second, .val (.ref b5), .val (.int mode), .val (.long cand), .second, .val (.int vv), .val (.long off), .second, .unset] [(.int (1 : Int32))])) _
        refine XS.goto X13.here hx rfl (pc0 := 157) (pc' := 161) rfl (hb hby at_157) (by decide) (by decide) ?_
        show Steps p.tables e below (T13.setTop (mkF m 161 #[.val (.int p1), .val (.int p2), .val (.int p3), .val (.int p4), .val (.long span), .second, .val (.long lo), .second, .val (.long hi), .second, .val (.ref b5), .val (.int mode), .val (.long cand), .second, .val (.int vv), .val (.long off), .second, .unset] [(.int (1 : Int32))])) _
        exact k
  obtain ⟨ex, hex⟩ : ∃ z : Int32, z = (if off < (0 : Int64) then (0 : Int32) else (if span < off then (0 : Int32) else (1 : Int32))) := ⟨_, rfl⟩
  rw [← hex] at P23
  have P24 : ∀ t, Steps p.tables e below (T13.setTop (mkF m 167 #[.val (.int p1), .val (.int p2), .val (.int p3), .val (.int p4), .val (.long span), .second, .val (.long lo), .second, .val (.long hi), .second, .val (.ref b5), .val (.int mode), .val (.long cand), .second, .val (.int vv), .val (.long off), .second, .val (.int ex)] [(.int vv), (.ref b5)])) t → Steps p.tables e below (s₁.setTop (entryFrame m #[(.int p1), (.int p2), (.int p3), (.int p4)] maxLocals)) t := by
    intro t k
    refine P23 _ ?_
    refine XS.istore X13.here hx rfl (hb hby at_161) rfl (l' := #[.val (.int p1), .val (.int p2), .val (.int p3), .val (.int p4), .val (.long span), .second, .val (.long lo), .second, .val (.long hi), .second, .val (.ref b5), .val (.int mode), .val (.long cand), .second, .val (.int vv), .val (.long off), .second, .val (.int ex)]) rfl ?_
    show Steps p.tables e below (T13.setTop (mkF m 163 #[.val (.int p1), .val (.int p2), .val (.int p3), .val (.int p4), .val (.long span), .second, .val (.long lo), .second, .val (.long hi), .second, .val (.ref b5), .val (.int mode), .val (.long cand), .second, .val (.int vv), .val (.long off), .second, .val (.int ex)] [])) _
    refine XS.aload X13.here hx rfl (hb hby at_163) rfl rfl ?_
    show Steps p.tables e below (T13.setTop (mkF m 165 #[.val (.int p1), .val (.int p2), .val (.int p3), .val (.int p4), .val (.long span), .second, .val (.long lo), .second, .val (.long hi), .second, .val (.ref b5), .val (.int mode), .val (.long cand), .second, .val (.int vv), .val (.long off), .second, .val (.int ex)] [(.ref b5)])) _
    refine XS.iload X13.here hx rfl (hb hby at_165) rfl ?_
    show Steps p.tables e below (T13.setTop (mkF m 167 #[.val (.int p1), .val (.int p2), .val (.int p3), .val (.int p4), .val (.long span), .second, .val (.long lo), .second, .val (.long hi), .second, .val (.ref b5), .val (.int mode), .val (.long cand), .second, .val (.int vv), .val (.long off), .second, .val (.int ex)] [(.int vv), (.ref b5)])) _
    exact k
  obtain ⟨cq25, kq25, qa25, qb25, qc25⟩ := isOf hZ rfl E13
  obtain ⟨_, _, ⟨T25, L25, k25, n25⟩, -, X25, ⟨Lc25, hQ25, l25, y25, z25⟩, st25⟩ := X13.virtualBack hx (y := (⟨"com/example/prudent_checker/prudentchecker/smv/Type$Range", "contains", "(I)Z"⟩ : MethodName)) (z := (⟨"com/example/prudent_checker/prudentchecker/smv/Type$Range", "contains", "(I)Z"⟩ : MethodName)) hown (mvT hZ (hw _ (List.mem_of_getElem? (i := 22) rfl))) (mvT hZ (hw _ (List.mem_of_getElem? (i := 23) rfl))) (notFace_of_selects (args := #[]) (mvT hZ (hw _ (List.mem_of_getElem? (i := 25) rfl)))) (mvT hZ (hw _ (List.mem_of_getElem? (i := 25) rfl))) (mvT hZ (hw _ (List.mem_of_getElem? (i := 24) rfl))) (by decide) (backOf (W := 0) (rm3 l Z a0 hw [] b5 vv loI hiI T13.heap n0 Z15 Q13_low Q13_high) hZ (hw _ (List.mem_of_getElem? (i := 26) rfl)) (hw _ (List.mem_of_getElem? (i := 4) rfl)) (by decide) (by decide)) qa25 qc25 (g := (mkF m 167 #[.val (.int p1), .val (.int p2), .val (.int p3), .val (.int p4), .val (.long span), .second, .val (.long lo), .second, .val (.long hi), .second, .val (.ref b5), .val (.int mode), .val (.long cand), .second, .val (.int vv), .val (.long off), .second, .val (.int ex)] [(.int vv), (.ref b5)])) rfl (by rw [hml]; rfl) (Steps.refl _) (argsL := [(.int vv)]) (rest := []) (lenOf pd_2 rfl) rfl (by show 2 * 0 + _ ≤ _; exact Nat.le_of_eq rfl) (hb hby at_167) (fun _ _ => ⟨rfl, rfl, (by decide : 1 + 0 ≤ _), (by decide : 2 + 0 ≤ _)⟩)
  dsimp only [Pt.U, Pt.locs, Pt.cells, Pt.slots] at X25 l25 y25 z25 st25 hQ25
  subst l25 y25 z25
  obtain ⟨rfl, N25q, e25⟩ := hQ25
  have N25 := Fr.app N13 N25q
  have P26 : ∀ t, Steps p.tables e below (T25.setTop (mkF m 170 #[.val (.int p1), .val (.int p2), .val (.int p3), .val (.int p4), .val (.long span), .second, .val (.long lo), .second, .val (.long hi), .second, .val (.ref b5), .val (.int mode), .val (.long cand), .second, .val (.int vv), .val (.long off), .second, .val (.int ex)] [(.int (if vv < loI then (0 : Int32) else (if hiI < vv then (0 : Int32) else (1 : Int32))))])) t → Steps p.tables e below (s₁.setTop (entryFrame m #[(.int p1), (.int p2), (.int p3), (.int p4)] maxLocals)) t := fun t k => P24 _ (st25.trans k)
  obtain ⟨r, hr⟩ : ∃ z : Int32, z = (if vv < loI then (0 : Int32) else (if hiI < vv then (0 : Int32) else (1 : Int32))) := ⟨_, rfl⟩
  rw [← hr] at P26
  have re : r = ex := own_plain rs rl hlI hhI hcand hvv hoff hex hr
  have P27 : ∀ t, Steps p.tables e below (T25.setTop (mkF m 180 #[.val (.int p1), .val (.int p2), .val (.int p3), .val (.int p4), .val (.long span), .second, .val (.long lo), .second, .val (.long hi), .second, .val (.ref b5), .val (.int mode), .val (.long cand), .second, .val (.int vv), .val (.long off), .second, .val (.int ex)] [(.int (1 : Int32))])) t → Steps p.tables e below (s₁.setTop (entryFrame m #[(.int p1), (.int p2), (.int p3), (.int p4)] maxLocals)) t := by
    intro t k
    refine P26 _ ?_
    refine XS.iload X25.here hx rfl (hb hby at_170) rfl ?_
    show Steps p.tables e below (T25.setTop (mkF m 172 #[.val (.int p1), .val (.int p2), .val (.int p3), .val (.int p4), .val (.long span), .second, .val (.long lo), .second, .val (.long hi), .second, .val (.ref b5), .val (.int mode), .val (.long cand), .second, .val (.int vv), .val (.long off), .second, .val (.int ex)] [(.int ex), (.int r)])) _
    refine XS.icmpNo X25.here hx rfl (hb hby at_172) rfl (XT.ii_ne_f re) ?_
    show Steps p.tables e below (T25.setTop (mkF m 175 #[.val (.int p1), .val (.int p2), .val (.int p3), .val (.int p4), .val (.long span), .second, .val (.long lo), .second, .val (.long hi), .second, .val (.ref b5), .val (.int mode), .val (.long cand), .second, .val (.int vv), .val (.long off), .second, .val (.int ex)] [])) _
    refine XS.iconst X25.here hx rfl (hb hby at_175) ?_
    show Steps p.tables e below (T25.setTop (mkF m 176 #[.val (.int p1), .val (.int p2), .val (.int p3), .val (.int p4), .val (.long span), .second, .val (.long lo), .second, .val (.long hi), .second, .val (.ref b5), .val (.int mode), .val (.long cand), .second, .val (.int vv), .val (.long off), .second, .val (.int ex)] [(.int (1 : Int32))])) _
    refine XS.goto X25.here hx rfl (pc0 := 176) (pc' := 180) rfl (hb hby at_176) (by decide) (by decide) ?_
    show Steps p.tables e below (T25.setTop (mkF m 180 #[.val (.int p1), .val (.int p2), .val (.int p3), .val (.int p4), .val (.long span), .second, .val (.long lo), .second, .val (.long hi), .second, .val (.ref b5), .val (.int mode), .val (.long cand), .second, .val (.int vv), .val (.long off), .second, .val (.int ex)] [(.int (1 : Int32))])) _
    exact k
  obtain ⟨fs, hr, hrun, hended, hW, hsame⟩ := X25.leave (v := some (.int (1 : Int32))) (fun h => by rw [Bd.returns] at h; cases h)
  refine ⟨_, _, P27 _ ?_, hrun, hended, _, _, rfl, ?_, ⟨_, rfl⟩, hW, hsame.mono (by decide) (by decide)⟩
  · exact retN X25 hx (t := .boolean) Bd.returns (by simp) (hb hby at_180) hr
  · show Q0 Z p1 p2 p3 p4 h0 n0 _ T25.heap _
    rw [e25]
    exact ⟨rfl, N25⟩
set_option maxRecDepth 65536 in
set_option maxHeartbeats 40000000 in
theorem comes_1 {Post : Tables → Env → Array Value → State → Outcome → State → Prop} (hpost : ∀ tb e args s v u, (limb_1_1.after args s (.returned v) u = true ∧ limb_1_2.after args s (.returned v) u = true ∧ True) → FrameEnd s (.returned v) u (Jvm.fieldLocs frame_1_writes args s ++ Jvm.arrayLocs frame_1_arrays args s ++ Jvm.staticLocs frame_1_statics s) 16 128 → Post tb e args s (.returned v) u) :
    ArmFor flags0 classFile x code maxLocals ret World_1 tables_1 room_1 Calls_1 rest_1 Pre_1 Post := by
  intro l hfl _ _ p e ha hc hk s m args below hf hA hF happ hP
  obtain ⟨hcalls, hrest, hpre⟩ := hP
  obtain ⟨-, -, -, hnamed, -, -, -, hat⟩ := (Spec.applies_iff hf).mp happ
  obtain ⟨hg, hn⟩ := and_e (Cond.before_iff.mp (show (Jvm.Cond.and given_1 narrow_1).before args s = true from hpre))
  obtain ⟨g1, g2⟩ := and_e hg
  obtain ⟨g3, g4⟩ := and_e g2
  obtain ⟨g5, g6⟩ := and_e g4
  obtain ⟨g7, g8⟩ := and_e g6
  obtain ⟨w0, w1, w2, w3, rfl⟩ : ∃ w0 w1 w2 w3 : Value, args = #[w0, w1, w2, w3] := by
    have hs : args.size = 4 := by simpa [Cond.value, given_1] using g1
    obtain ⟨L⟩ := args
    match L, hs with
    | [w0, w1, w2, w3], _ => exact ⟨w0, w1, w2, w3, rfl⟩
  have hw := fun d (hd : d ∈ tables_1) => atoms_spec (ws := Jvm.Cond.code x code maxLocals ret :: tables_1) hat d (List.mem_cons_of_mem _ hd)
  have hfit : Fit s := fun {y c} hc i hi => by
    obtain ⟨ha, rfl⟩ := Array.getElem?_eq_some_iff.mp hc
    have q := List.all_eq_true.mp ((Array.all_eq_true_iff_forall_mem.mp hF) _ (Array.getElem_mem ha)) i (List.mem_range.mpr hi)
    simpa [Array.getElem?_eq_getElem hi] using q
  obtain ⟨i0, ei0⟩ := is_v g3
  obtain rfl : w0 = (.int i0) := Option.some.inj ei0
  obtain ⟨i1, ei1⟩ := is_v g5
  obtain rfl : w1 = (.int i1) := Option.some.inj ei1
  obtain ⟨i2, ei2⟩ := is_v g7
  obtain rfl : w2 = (.int i2) := Option.some.inj ei2
  obtain ⟨i3, ei3⟩ := is_v g8
  obtain rfl : w3 = (.int i3) := Option.some.inj ei3
  obtain ⟨n, o, h1, h2, h3, _, L, rfl, ⟨rfl, N⟩, hq⟩ := rm0 l s _ hw tables_1 i0 i1 i2 i3  s.heap s.heap.size (Nat.le_refl _)  p e ha hc hk s m _ below hf ((Spec.applies_iff_loose hf).mp happ).1 ⟨rfl, State.Warmed39.refl s, rfl⟩ trivial
  refine ⟨n, _, h1, h2, h3, hpost _ _ _ _ _ _ ⟨Cond.after_iff.mpr rfl, Cond.after_iff.mpr (eq_i res_at (Term.int_eval (1)) rfl), trivial⟩ ⟨hq.1, hq.2.1, (hq.2.2.sift fun y hy => Or.inr (N y hy)).mono (by decide) (by decide)⟩⟩
theorem main_1_1 : Claimed_1_1 := comes_1 fun _ _ _ _ _ _ h hF => ⟨h.1, hF⟩
theorem main_1_2 : Claimed_1_2 := comes_1 fun _ _ _ _ _ _ h hF => ⟨h.2.1, hF⟩
end Jvm.Pilot.@@N@@
namespace Jvm.Pilot.@@N@@
open Jvm Jvm.ClassFile Sem Op Lib Jvm.Free Jvm.Stand Jvm.Pilot.@@N@@.Jvm.D
/-! MADE BY PROGRAM (witnessworld.py) out of the Statement's table words and the real class files: 11 classes; the members and pool entries that the words name. The judged class is class 1, her method 1. -/
namespace start1
open Jvm.ClassFile
def u (s : String) : CpInfo := .utf8 (stringToUtf16 s)
/-- a pool by its gaps: so many unusable entries, then the entry; so many at the end -/
def gap : Nat → List CpInfo → List CpInfo
  | 0, r => r
  | n + 1, r => .unusable :: gap n r
def poolList (es : List (Nat × CpInfo)) (last : Nat) : List CpInfo := es.foldr (fun e r => gap e.1 (e.2 :: r)) (gap last [])
def pool (es : List (Nat × CpInfo)) (last : Nat) : Array CpInfo := ⟨poolList es last⟩
def fileOf (pool : Array CpInfo) (this : Nat) (attrs : Array Attribute := #[]) (ms : Array MethodInfo := #[]) (fl : Nat := 33) (sup : Nat := 0) (ifs : Array Nat := #[]) (fds : Array FieldInfo := #[]) : ClassFile where
  minorVersion := 0
  majorVersion := 65
  constantPool := pool
  accessFlags := fl
  thisClass := this
  superClass := sup
  interfaces := ifs
  fields := fds
  methods := ms
  attributes := attrs
def plain (name : String) (sup : Option ClassId) : Class where
  name := name
  kind := .ordinary
  loader := none
  accessFlags := 33
  super := sup
  interfaces := #[]
  cf := none
  fields := #[]
  methods := #[]
  instanceTypes := #[]
  staticTypes := #[]
  resolved := #[]
  callSites := []
  init := .initialized
  statics := none
  mirror := none

def pool0 : Array CpInfo := pool [(5, u "<init>"), (0, u "()V"), (1, .class_ 10), (1, u "java/lang/Object")] 113

def k0c0 : Code := { maxStack := 0, maxLocals := 1, code := object_method_1_code, exceptionTable := #[], attributes := #[] }
def k0m0 : Method := { name := "<init>", desc := "()V", sig := { parameters := [], returnType := none }, accessFlags := 1, code := some k0c0 }
/-- java/lang/Object -/
def k0 : Class := { plain "java/lang/Object" none with
  accessFlags := 33
  interfaces := #[]
  cf := some (fileOf pool0 8 #[] #[{ accessFlags := 1, nameIndex := 5, descriptorIndex := 6, attributes := #[] }] 33 0 #[] #[])
  fields := #[]
  methods := #[k0m0]
  instanceTypes := #[]
  staticTypes := #[]
  resolved := Array.replicate 124 none
  statics := none }

def pool1 : Array CpInfo := pool [(2, .class_ 4), (1, u "java/lang/Object"), (0, u "<init>"), (0, u "()V"), (0, .integer 2147483647), (2, .long 2147483647), (1, .class_ 13), (0, u "com/example/prudent_checker/prudentchecker/smv/Type$Range"), (0, .methodref 12 15), (0, .nameAndType 5 16), (0, u "(II)V"), (0, .long 2), (1, .long 18446744071562067968), (1, .methodref 12 22), (0, .nameAndType 23 24), (0, u "contains"), (0, u "(I)Z"), (0, .class_ 26), (0, u "com/example/prudent_checker/prudentchecker/smv/RangeContainsPinLaw"), (2, u "law"), (0, u "(IIII)Z")] 7

def k1m0 : Method := { name := "<init>", desc := "()V", sig := { parameters := [], returnType := none }, accessFlags := 1, code := none }
def k1c1 : Code := { maxStack := 5, maxLocals := 18, code := code, exceptionTable := #[], attributes := #[] }
def k1m1 : Method := { name := "law", desc := "(IIII)Z", sig := { parameters := [.int, .int, .int, .int], returnType := some .boolean }, accessFlags := 9, code := some k1c1 }
/-- com/example/prudent_checker/prudentchecker/smv/RangeContainsPinLaw -/
def k1 : Class := { plain "com/example/prudent_checker/prudentchecker/smv/RangeContainsPinLaw" (some 0) with
  accessFlags := 49
  interfaces := #[]
  cf := some (fileOf pool1 25 #[] #[{ accessFlags := 1, nameIndex := 5, descriptorIndex := 6, attributes := #[] }, { accessFlags := 9, nameIndex := 29, descriptorIndex := 30, attributes := #[] }] 49 2 #[] #[])
  fields := #[]
  methods := #[k1m0, k1m1]
  instanceTypes := #[]
  staticTypes := #[]
  resolved := Array.replicate 38 none
  statics := none }

def pool2 : Array CpInfo := pool [(1, .methodref 2 3), (0, .class_ 4), (0, .nameAndType 5 6), (0, u "java/lang/Object"), (0, u "<init>"), (0, u "()V"), (0, .class_ 8), (0, u "java/lang/Record")] 13

def k2c0 : Code := { maxStack := 1, maxLocals := 1, code := jdk_30_method_1_code, exceptionTable := #[], attributes := #[] }
def k2m0 : Method := { name := "<init>", desc := "()V", sig := { parameters := [], returnType := none }, accessFlags := 4, code := some k2c0 }
/-- java/lang/Record -/
def k2 : Class := { plain "java/lang/Record" (some 0) with
  accessFlags := 1057
  interfaces := #[]
  cf := some (fileOf pool2 7 #[] #[{ accessFlags := 4, nameIndex := 5, descriptorIndex := 6, attributes := #[] }] 1057 2 #[] #[])
  fields := #[]
  methods := #[k2m0]
  instanceTypes := #[]
  staticTypes := #[]
  resolved := Array.replicate 22 none
  statics := none }

def pool3 : Array CpInfo := pool [(1, .class_ 2), (0, u "com/example/prudent_checker/prudentchecker/smv/Type$Booleans"), (5, .class_ 10), (1, u "com/example/prudent_checker/prudentchecker/smv/Type"), (0, u "BOOLEAN"), (0, u "Lcom/example/prudent_checker/prudentchecker/smv/Type;"), (0, .class_ 14), (0, u "java/lang/Object"), (10, .class_ 26), (0, u "com/example/prudent_checker/prudentchecker/smv/Type$Enumeration"), (0, .class_ 28), (0, u "com/example/prudent_checker/prudentchecker/smv/Type$Range")] 5

/-- com/example/prudent_checker/prudentchecker/smv/Type -/
def k3 : Class := { plain "com/example/prudent_checker/prudentchecker/smv/Type" (some 0) with
  accessFlags := 1537
  interfaces := #[]
  cf := some (fileOf pool3 8 #[.nestMembers #[25, 27, 1]] #[] 1537 13 #[] #[{ accessFlags := 25, nameIndex := 11, descriptorIndex := 12, attributes := #[] }])
  fields := #[{ name := "BOOLEAN", type := (.object "com/example/prudent_checker/prudentchecker/smv/Type"), accessFlags := 25, slot := 0, constantValue := 0 }]
  methods := #[]
  instanceTypes := #[]
  staticTypes := #[(.object "com/example/prudent_checker/prudentchecker/smv/Type")]
  resolved := Array.replicate 34 none
  statics := none }

def pool4 : Array CpInfo := pool [(1, .methodref 2 3), (0, .class_ 4), (0, .nameAndType 5 6), (0, u "java/lang/Record"), (0, u "<init>"), (0, u "()V"), (2, .long 2147483647), (10, .fieldref 21 22), (0, .class_ 23), (0, .nameAndType 24 25), (0, u "com/example/prudent_checker/prudentchecker/smv/Type$Range"), (0, u "low"), (0, u "I"), (0, .fieldref 21 27), (0, .nameAndType 28 25), (0, u "high"), (25, .class_ 55), (0, u "com/example/prudent_checker/prudentchecker/smv/Type"), (0, u "(II)V"), (5, u "contains"), (0, u "(I)Z")] 33

def k4c0 : Code := { maxStack := 4, maxLocals := 3, code := prog_115_method_1_code, exceptionTable := #[], attributes := #[] }
def k4m0 : Method := { name := "<init>", desc := "(II)V", sig := { parameters := [.int, .int], returnType := none }, accessFlags := 1, code := some k4c0 }
def k4c1 : Code := { maxStack := 2, maxLocals := 2, code := prog_115_method_4_code, exceptionTable := #[], attributes := #[] }
def k4m1 : Method := { name := "contains", desc := "(I)Z", sig := { parameters := [.int], returnType := some .boolean }, accessFlags := 1, code := some k4c1 }
/-- com/example/prudent_checker/prudentchecker/smv/Type$Range -/
def k4 : Class := { plain "com/example/prudent_checker/prudentchecker/smv/Type$Range" (some 2) with
  accessFlags := 49
  interfaces := #[3]
  cf := some (fileOf pool4 21 #[.nestHost 54] #[{ accessFlags := 1, nameIndex := 5, descriptorIndex := 56, attributes := #[] }, { accessFlags := 1, nameIndex := 62, descriptorIndex := 63, attributes := #[] }] 49 2 #[54] #[{ accessFlags := 18, nameIndex := 24, descriptorIndex := 25, attributes := #[] }, { accessFlags := 18, nameIndex := 28, descriptorIndex := 25, attributes := #[] }])
  fields := #[{ name := "low", type := .int, accessFlags := 18, slot := 0, constantValue := 0 }, { name := "high", type := .int, accessFlags := 18, slot := 1, constantValue := 0 }]
  methods := #[k4m0, k4m1]
  instanceTypes := #[.int, .int]
  staticTypes := #[]
  resolved := Array.replicate 97 none
  statics := none }

def pool5 : Array CpInfo := pool [(1, u "java/lang/Cloneable"), (0, .class_ 1), (0, u "java/lang/Object"), (0, .class_ 3)] 3

/-- java/lang/Cloneable -/
def k5 : Class := { plain "java/lang/Cloneable" (some 0) with
  accessFlags := 1537
  interfaces := #[]
  cf := some (fileOf pool5 2 #[] #[] 1537 4 #[] #[])
  fields := #[]
  methods := #[]
  instanceTypes := #[]
  staticTypes := #[]
  resolved := Array.replicate 8 none
  statics := none }

def pool6 : Array CpInfo := pool [(1, u "java/io/Serializable"), (0, .class_ 1), (0, u "java/lang/Object"), (0, .class_ 3)] 3

/-- java/io/Serializable -/
def k6 : Class := { plain "java/io/Serializable" (some 0) with
  accessFlags := 1537
  interfaces := #[]
  cf := some (fileOf pool6 2 #[] #[] 1537 4 #[] #[])
  fields := #[]
  methods := #[]
  instanceTypes := #[]
  staticTypes := #[]
  resolved := Array.replicate 8 none
  statics := none }

/-- the primitive byte -/
def k7 : Class := { plain "byte" none with kind := .primitive 'B', accessFlags := 0x411 }
/-- [B -/
def k8 : Class := { plain "[B" (some 0) with kind := .array 7 .byte, interfaces := #[5, 6], accessFlags := 1041 }

/-- the primitive int -/
def k9 : Class := { plain "int" none with kind := .primitive 'I', accessFlags := 0x411 }
/-- [I -/
def k10 : Class := { plain "[I" (some 0) with kind := .array 9 .int, interfaces := #[5, 6], accessFlags := 1041 }

def heap : Heap := #[]
def classes : Array Class := #[k0, k1, k2, k3, k4, k5, k6, k7, k8, k9, k10]
def interned : List (Array UInt16 × Addr) := []
def slotsUsed : Nat := 0
def theMethod : MethodId := ⟨1, 1⟩
def args0 : Array Value := #[.int 1, .int 2, .int 3, .int 4]
def aboutOver (below : List Frame) : State where
  vm := { classes := classes, interned := interned.toArray }
  heap := heap
  slotsUsed := slotsUsed
  threads := #[{ frames := .invoking theMethod args0 :: below }]
def below0 : List Frame := [.native { method := ⟨0, 0⟩, args := #[] }]
def about1 : State := aboutOver below0
def p0 : Program := .bare "" "" ""
def e0 : Env := launch0.env 0 0 0
theorem w_frames : about1.frames = Frame.invoking theMethod args0 :: below0 := rfl
set_option maxRecDepth 65536 in
theorem w_args : argsFit about1.vm theMethod args0 = true := by decide +kernel
set_option maxRecDepth 65536 in
theorem w_heap : heapFits about1 = true := by decide +kernel
set_option maxRecDepth 65536 in
theorem w_runnable : about1.curStatus? = some .runnable := by decide +kernel
set_option maxRecDepth 65536 in
theorem w_alone : about1.alone = true := by decide +kernel
set_option maxRecDepth 65536 in
theorem w_named : about1.methodNamed? x = some theMethod := by decide +kernel
set_option maxRecDepth 65536 in
theorem w_hears : about1.hears theMethod below0 = true := by decide +kernel
set_option maxRecDepth 65536 in
theorem w_ripe : about1.ripe theMethod args0 below0 = true := by decide +kernel
theorem w_running : about1.status = .running := rfl
set_option maxRecDepth 65536 in
theorem w_room : about1.hasRoom e0.platform room_1 = true :=
  launch0.hasRoom_least _ room_1 (by decide +kernel) (by decide +kernel) (by decide +kernel) (by decide +kernel) (by decide +kernel) (by decide +kernel)
theorem allAtoms_all (ts : List Jvm.Cond) (a : Array Jvm.Value) (st : Jvm.State) : (allAtoms ts).before a st = ts.all (fun c => c.before a st) := by
  induction ts with
  | nil => rfl
  | cons c t ih =>
    show (Jvm.Cond.and c (allAtoms t)).before a st = _
    rw [Jvm.Cond.before_and, ih, List.all_cons]
def words1 : List Jvm.Cond := Jvm.Cond.code x code maxLocals ret :: tables_1
/-- a 'code' word, met by the world's own term for the bytes: nothing is compared byte by byte -/
theorem code_word {y : MethodName} {bytes : ByteArray} {mx : Nat} {rt : Option FieldType} {a : Array Value} {s : State} {m : MethodId} {meth : Method} {c : Code} (h1 : s.methodNamed? y = some m) (h2 : s.vm.method? m = some meth) (h3 : meth.code = some c) (h4 : c.code = bytes)
    (h5 : (c.maxLocals == mx && c.exceptionTable.isEmpty && decide (c.maxStack ≤ mostOperands) && decide (meth.sig.returnType = rt) && !meth.locks && decide (parseMethodDescriptor y.desc = some meth.sig)) = true) : (Jvm.Cond.code y bytes mx rt).before a s = true := by
  simp only [Bool.and_eq_true, beq_iff_eq, Bool.not_eq_true', decide_eq_true_eq] at h5
  obtain ⟨⟨⟨⟨⟨g1, g2⟩, g3⟩, g4⟩, g5⟩, g6⟩ := h5
  simp [Cond.before, Cond.holds, Cond.value, h1, h2, h3, h4, g1, g2, g3, g4, g5, g6]
def isCode : Jvm.Cond → Bool
  | .code _ _ _ _ => true
  | _ => false
theorem all_split {L : List Jvm.Cond} {P : Jvm.Cond → Bool} (h1 : L.all (fun c => isCode c || P c) = true) (h2 : ∀ c ∈ L.filter isCode, P c = true) : L.all P = true := by
  refine List.all_eq_true.mpr fun c hc => ?_
  have h := List.all_eq_true.mp h1 c hc
  rcases Bool.eq_false_or_eq_true (isCode c) with hi | hi
  · exact h2 c (List.mem_filter.mpr ⟨hc, hi⟩)
  · simpa [hi] using h
set_option maxRecDepth 65536 in
theorem w_c0 : (Jvm.Cond.code x code maxLocals ret).before args0 about1 = true := code_word (m := ⟨1, 1⟩) (meth := k1m1) (c := k1c1) (by decide +kernel) rfl rfl rfl (by decide +kernel)
set_option maxRecDepth 65536 in
theorem w_c1 : (Jvm.Cond.code ({ cls := "com/example/prudent_checker/prudentchecker/smv/Type$Range", name := "<init>", desc := "(II)V" } : Jvm.MethodName) prog_115_method_1_code (3 : Nat) (Option.none : Option Jvm.ClassFile.FieldType)).before args0 about1 = true := code_word (m := ⟨4, 0⟩) (meth := k4m0) (c := k4c0) (by decide +kernel) rfl rfl rfl (by decide +kernel)
set_option maxRecDepth 65536 in
theorem w_c2 : (Jvm.Cond.code ({ cls := "java/lang/Record", name := "<init>", desc := "()V" } : Jvm.MethodName) jdk_30_method_1_code (1 : Nat) (Option.none : Option Jvm.ClassFile.FieldType)).before args0 about1 = true := code_word (m := ⟨2, 0⟩) (meth := k2m0) (c := k2c0) (by decide +kernel) rfl rfl rfl (by decide +kernel)
set_option maxRecDepth 65536 in
theorem w_c3 : (Jvm.Cond.code ({ cls := "java/lang/Object", name := "<init>", desc := "()V" } : Jvm.MethodName) object_method_1_code (1 : Nat) (Option.none : Option Jvm.ClassFile.FieldType)).before args0 about1 = true := code_word (m := ⟨0, 0⟩) (meth := k0m0) (c := k0c0) (by decide +kernel) rfl rfl rfl (by decide +kernel)
set_option maxRecDepth 65536 in
theorem w_c4 : (Jvm.Cond.code ({ cls := "com/example/prudent_checker/prudentchecker/smv/Type$Range", name := "contains", desc := "(I)Z" } : Jvm.MethodName) prog_115_method_4_code (2 : Nat) (Option.some Jvm.ClassFile.FieldType.boolean)).before args0 about1 = true := code_word (m := ⟨4, 1⟩) (meth := k4m1) (c := k4c1) (by decide +kernel) rfl rfl rfl (by decide +kernel)
def codes1 : List Jvm.Cond := [Jvm.Cond.code x code maxLocals ret, Jvm.Cond.code ({ cls := "com/example/prudent_checker/prudentchecker/smv/Type$Range", name := "<init>", desc := "(II)V" } : Jvm.MethodName) prog_115_method_1_code (3 : Nat) (Option.none : Option Jvm.ClassFile.FieldType), Jvm.Cond.code ({ cls := "java/lang/Record", name := "<init>", desc := "()V" } : Jvm.MethodName) jdk_30_method_1_code (1 : Nat) (Option.none : Option Jvm.ClassFile.FieldType), Jvm.Cond.code ({ cls := "java/lang/Object", name := "<init>", desc := "()V" } : Jvm.MethodName) object_method_1_code (1 : Nat) (Option.none : Option Jvm.ClassFile.FieldType), Jvm.Cond.code ({ cls := "com/example/prudent_checker/prudentchecker/smv/Type$Range", name := "contains", desc := "(I)Z" } : Jvm.MethodName) prog_115_method_4_code (2 : Nat) (Option.some Jvm.ClassFile.FieldType.boolean)]
set_option maxRecDepth 65536 in
theorem codes_eq : words1.filter isCode = codes1 := rfl
theorem w_codes : ∀ c ∈ words1.filter isCode, c.before args0 about1 = true := by
  rw [codes_eq]
  intro c hc
  simp only [codes1, List.mem_cons, List.not_mem_nil, or_false] at hc
  rcases hc with rfl | rfl | rfl | rfl | rfl
  · exact w_c0
  · exact w_c1
  · exact w_c2
  · exact w_c3
  · exact w_c4
set_option maxRecDepth 65536 in
theorem w_t1 : (words1.take 24).all (fun c => isCode c || c.before args0 about1) = true := by decide +kernel
set_option maxRecDepth 65536 in
theorem w_t2 : (words1.drop 24).all (fun c => isCode c || c.before args0 about1) = true := by decide +kernel
theorem w_tables : (allAtoms (Jvm.Cond.code x code maxLocals ret :: tables_1)).before args0 about1 = true := by
  rw [allAtoms_all]
  show words1.all (fun c => c.before args0 about1) = true
  refine all_split ?_ w_codes
  rw [← List.take_append_drop 24 words1, List.all_append, w_t1, w_t2]
  rfl
set_option maxRecDepth 65536 in
theorem w_case : (Jvm.Cond.and given_1 narrow_1).before args0 about1 = true := by decide +kernel
theorem w_applies : (headSpec (Jvm.Cond.code x code maxLocals ret :: tables_1) room_1).applies x e0.platform about1 = true :=
  (Spec.applies_iff w_frames).mpr ⟨w_running, w_runnable, w_alone, w_named, w_hears, w_ripe, w_room, w_tables⟩
theorem atStart : AtStart classFile x code maxLocals ret World_1 tables_1 room_1 Calls_1 rest_1 Pre_1 launch0 p0 e0 about1 theMethod args0 below0 :=
  ⟨lists_1, trivial, launch0.admits_env _ _ _, launch0.least_env, fairChoices_fair.cas, fairChoices_fair.clock, w_frames, w_args, w_heap, w_applies, trivial, trivial, w_case⟩
end start1
theorem witness_1 : WitnessClaimed_1 := ⟨start1.p0, start1.e0, start1.about1, start1.theMethod, start1.args0, start1.below0, start1.atStart⟩
end Jvm.Pilot.@@N@@

import JvmDerived
import JvmDerived.Pilot.@@N@@Statement
import JvmDerived.Pilot.@@N@@Code
set_option linter.unusedVariables false
set_option linter.unusedSimpArgs false
namespace Jvm.RoadKit
open Sem ClassFile Op Lib Jvm.Stand Jvm.Free Jvm.LawKit
section New
variable {p : Program} {l : Launch} {e : Env} {R : Room} {s : State} {m : MethodId} {args : Array Value} {below : List Frame} {meth : Method} {c : Code} {T : State} {locs : List Loc} {cells slots : Nat}
theorem retI (X : Stand p l e R s m args below meth c T locs cells slots) (hx : p.tables.exec = Jvm.exec) {pc : Nat} {Ls : Array Slot} {z : Int32} {rest : List Value} (hret : meth.sig.returnType = some .int) (hd : decode c.code pc = .ok (.ireturn, 1)) {fs : List Frame}
    (hl : ∀ (f : JFrame) (acts : List Action), f.method = m → f.locked = none → f.entered = [] → (doReturn e (T.setTop f) acts (some (.int z))).1 = T.setFrames fs) : Steps p.tables e below (T.setTop (mkF m pc Ls (.int z :: rest))) (T.setFrames fs) := by
  have hm' : T.vm.method? m = some meth := X.method'
  have hn : narrow .int (.int z) = .int z := rfl
  show Steps p.tables e below (T.setTop { method := m, pc := pc, locals := Ls, stack := _ :: rest, locked := none }) _
  jvm_step X.here [X.here.top, hx, hd, hm', hret, hn]
  first | (intro acts; rw [hl _ acts rfl rfl rfl]) | rw [hl _ _ rfl rfl rfl]
  exact Steps.refl _
end New
end Jvm.RoadKit
namespace Jvm.Pilot.@@N@@
open Jvm Jvm.ClassFile Sem Op Lib Jvm.Free Jvm.Stand Jvm.LawKit Jvm.RoadKit Bundle Jvm.Pilot.@@N@@.Jvm.D

theorem own_nb {c : Prop} [Decidable c] : nar .boolean (if c then (1 : Int32) else (0 : Int32)) = (if c then (1 : Int32) else (0 : Int32)) := by
  by_cases h : c
  · rw [if_pos h]; rfl
  · rw [if_neg h]; rfl
theorem own_n1 : nar .boolean (1 : Int32) = (1 : Int32) := rfl
theorem own_n0 : nar .boolean (0 : Int32) = (0 : Int32) := rfl

theorem own_pos {x y : Int32} (h : x = y &&& (2147483647 : Int32)) : ¬ x < (0 : Int32) := by
  have := c_mask y 2147483647 31 (by decide) (by decide)
  rw [← h] at this
  rw [Int32.lt_iff_toInt_lt]
  show ¬ x.toInt < 0
  omega
theorem own_rem {x y d : Int32} {D : Int} (h : x = (y &&& (2147483647 : Int32)) % d) (hd : d.toInt = D) (hD : 0 < D) : 0 ≤ x.toInt ∧ x.toInt < D := by
  have h1 := c_mask y 2147483647 31 (by decide) (by decide)
  have h2 := c_iremV (y &&& 2147483647) d
  rw [← h, hd] at h2
  have h3 := h2.1 (by omega) hD
  omega

theorem own_fldI {args : Array Value} {s : State} {t : Jvm.Term} {x : Addr} {C n d : String} {k : Int32} (ht : t.eval args s none [] s = some (.ref x)) (h : (Jvm.Cond.eq (Jvm.Term.field t C n d) (Jvm.Term.int k)).value args s none s [] = some true) : Fld s s.heap x C n d (.int k) := by
  have e1 := fld_at (C := C) (n := n) (dd := d) ht
  cases hf : s.fieldOf? x C n d with
  | none => rw [hf] at e1; simp [Jvm.Cond.value, e1] at h
  | some u =>
    rw [hf] at e1
    have e2 : (Jvm.Term.int k).eval args s none [] s = some (.int k) := rfl
    cases u <;> simp [Jvm.Cond.value, e1, e2] at h
    subst h
    exact Fld.start hf
theorem own_fldN {args : Array Value} {s : State} {t : Jvm.Term} {x : Addr} {C n d : String} (ht : t.eval args s none [] s = some (.ref x)) (h : (Jvm.Cond.eq (Jvm.Term.field t C n d) Jvm.Term.null).value args s none s [] = some true) : Fld s s.heap x C n d .null := by
  have e1 := fld_at (C := C) (n := n) (dd := d) ht
  have e2 := null_v h
  exact Fld.start (e1.symm.trans e2)
theorem own_fldR {args : Array Value} {s : State} {t u : Jvm.Term} {x y : Addr} {C n d : String} (ht : t.eval args s none [] s = some (.ref x)) (hu : u.eval args s none [] s = some (.ref y)) (h : (Jvm.Cond.eq (Jvm.Term.field t C n d) u).value args s none s [] = some true) : Fld s s.heap x C n d (.ref y) := by
  have e1 := fld_at (C := C) (n := n) (dd := d) ht
  cases hf : s.fieldOf? x C n d with
  | none => rw [hf] at e1; simp [Jvm.Cond.value, e1] at h
  | some w =>
    rw [hf] at e1
    cases w <;> simp [Jvm.Cond.value, e1, hu] at h
    subst h
    exact Fld.start hf
theorem own_fldJ {args : Array Value} {s : State} {t : Jvm.Term} {x : Addr} {C n d : String} {k : Int64} (ht : t.eval args s none [] s = some (.ref x)) (h : (Jvm.Cond.eq (Jvm.Term.field t C n d) (Jvm.Term.long k)).value args s none s [] = some true) : Fld s s.heap x C n d (.long k) := by
  have e1 := fld_at (C := C) (n := n) (dd := d) ht
  cases hf : s.fieldOf? x C n d with
  | none => rw [hf] at e1; simp [Jvm.Cond.value, e1] at h
  | some u =>
    rw [hf] at e1
    have e2 : (Jvm.Term.long k).eval args s none [] s = some (.long k) := rfl
    cases u <;> simp [Jvm.Cond.value, e1, e2] at h
    subst h
    exact Fld.start hf

theorem own_hi (x : Int64) : XT.ushrL x (63 : Int32) = (1 : Int64) ↔ x < (0 : Int64) := by
  have h0 : ((63 : Int32).toInt64.toUInt64 &&& Int64.toUInt64 63) = ((63 : Int32) &&& 0x3f).toInt64.toUInt64 := by decide
  have h1 : (XT.ushrL x (63 : Int32)).toInt = (x.toInt % 18446744073709551616) / (2 ^ 63 : Nat) := by
    unfold XT.ushrL
    rw [h0]
    exact c_lushr x 63 63 (by decide) (by decide)
  have h2 := rng64 x
  rw [← Int64.toInt_inj, h1, Int64.lt_iff_toInt_lt]
  show _ = (1 : Int) ↔ x.toInt < 0
  omega
theorem own_bit {s e : Int32} (h : s = e.toInt16.toInt32) : (s &&& (32768 : Int32)) = (0 : Int32) ↔ ¬ s < (0 : Int32) := by
  have h1 := c_i2s e
  rw [← h] at h1
  have h2 : s.toBitVec &&& 32768#32 = if s.toBitVec.getLsbD 15 then BitVec.twoPow 32 15 else 0#32 := BitVec.and_twoPow s.toBitVec 15
  have h3 : s.toBitVec.getLsbD 15 = decide (s.toBitVec.toNat / 2 ^ 15 % 2 = 1) := by
    rw [← BitVec.testBit_toNat, Nat.testBit_eq_decide_div_mod_eq]
  have h4 : s.toInt = if 2 * s.toBitVec.toNat < 2 ^ 32 then (s.toBitVec.toNat : Int) else (s.toBitVec.toNat : Int) - (2 ^ 32 : Nat) := BitVec.toInt_eq_toNat_cond s.toBitVec
  have h5 := s.toBitVec.isLt
  have h6 : (s &&& (32768 : Int32)) = (0 : Int32) ↔ s.toBitVec &&& 32768#32 = 0#32 := by
    rw [← Int32.toBitVec_inj]; exact Iff.rfl
  rw [h6, h2, h3, Int32.lt_iff_toInt_lt]
  show _ ↔ ¬ s.toInt < 0
  by_cases hc : s.toBitVec.toNat / 2 ^ 15 % 2 = 1
  · rw [if_pos (decide_eq_true hc)]
    have : ¬ (BitVec.twoPow 32 15 = 0#32) := by decide
    simp only [this, false_iff, Classical.not_not]
    split at h4 <;> omega
  · rw [if_neg (by simpa using hc)]
    simp only [true_iff]
    split at h4 <;> omega
theorem own_nars {s e : Int32} (h : s = e.toInt16.toInt32) : nar .short s = s := by
  have h1 := c_i2s e
  have h2 := c_i2s s
  rw [← h] at h1
  apply Int32.toInt_inj.mp
  show s.toInt16.toInt32.toInt = s.toInt
  omega
theorem own_plain {q : Int64} {s e yi ye yx r : Int32} (hs : s = e.toInt16.toInt32) (h1 : yi = (if (XT.ushrL q (63 : Int32)) = (1 : Int64) then (1 : Int32) else (0 : Int32)))
    (h2 : ye = (if (s &&& (32768 : Int32)) = (0 : Int32) then (0 : Int32) else (1 : Int32))) (h3 : yx = (if yi = (0 : Int32) then (if ye = (0 : Int32) then (0 : Int32) else (1 : Int32)) else (1 : Int32)))
    (h4 : r = (if q < (0 : Int64) then (1 : Int32) else (if (nar .short s) < (0 : Int32) then (1 : Int32) else (0 : Int32)))) : r = yx := by
  rw [own_nars hs] at h4
  have a1 := own_hi q
  have a2 := own_bit hs
  by_cases c1 : q < (0 : Int64)
  · rw [if_pos c1] at h4; rw [if_pos (a1.mpr c1)] at h1; subst h1; rw [if_neg (by decide)] at h3; rw [h4, h3]
  · rw [if_neg c1] at h4; rw [if_neg (fun z => c1 (a1.mp z))] at h1; subst h1; rw [if_pos rfl] at h3
    by_cases c2 : s < (0 : Int32)
    · rw [if_pos c2] at h4; rw [if_neg (fun z => (a2.mp z) c2)] at h2; subst h2; rw [if_neg (by decide)] at h3; rw [h4, h3]
    · rw [if_neg c2] at h4; rw [if_pos (a2.mpr c2)] at h2; subst h2; rw [if_pos rfl] at h3; rw [h4, h3]

theorem pd_0 : parseMethodDescriptor "()V" = some ⟨[], none⟩ := by decide +kernel
theorem pd_1 : parseMethodDescriptor "(JS)V" = some ⟨[.long, .short], none⟩ := by decide +kernel
theorem pd_2 : parseMethodDescriptor "()Z" = some ⟨[], some .boolean⟩ := by decide +kernel
theorem d2_0 : decode jdk_30_method_1_code 0 = .ok (.aload_n 0, 1) := by decide +kernel
theorem d2_1 : decode jdk_30_method_1_code 1 = .ok (.invokespecial 1, 3) := by decide +kernel
theorem d2_4 : decode jdk_30_method_1_code 4 = .ok (.return_, 1) := by decide +kernel
theorem pn_2 : plainName "java/lang/Record" = true := by first | (simp [plainName, overriddenIn]; done) | decide +kernel
theorem ef_2 (m : MethodId) (x0 : Addr) : entryFrame m #[(.ref x0)] 1 = mkF m 0 #[.val (.ref x0)] [] := by first | (simp [entryFrame, mkF, argsToLocals, Value.category]; done) | rfl
def Q2 (Z : State) (a1 : Addr) (h0 : Heap) (n0 : Nat) (v : Option Value) (h : Heap) (L : List Loc) : Prop := v = none ∧ Fr n0 L ∧ h = h0
set_option maxRecDepth 65536 in
set_option maxHeartbeats 40000000 in
theorem rm2 (l : Launch) (Z : State) (a0 : Array Value) (hw : ∀ d ∈ tables_1, d.before a0 Z = true) (ws : List Jvm.Cond) (a1 : Addr) (h0 : Heap) (n0 : Nat) (Z0 : n0 ≤ h0.size) :
    MetFree l (⟨"java/lang/Record", "<init>", "()V"⟩ : MethodName) (head1 (Jvm.Cond.code (⟨"java/lang/Record", "<init>", "()V"⟩ : MethodName) jdk_30_method_1_code 1 none :: ws) ({ frames := 1, cells := 0, slots := 0, locals := 12 } : Room)) (fun a U => a = #[(.ref a1)] ∧ Z.Warmed39 U.vm ∧ U.heap = h0) (fun _ _ _ _ _ => True) (fun _ U o U' => ∃ v L, o = .returned v ∧ Q2 Z a1 h0 n0 v U'.heap L ∧ FrameEnd U o U' L ({ frames := 1, cells := 0, slots := 0, locals := 12 } : Room).cells ({ frames := 1, cells := 0, slots := 0, locals := 12 } : Room).slots) := by
  refine MetFree.of_bodySF (plainFor_of_name pn_2) hisR ?_
  intro p e s m args below meth c s₁ Bd hml0 hP hK
  obtain ⟨rfl, hZ, hh⟩ := hP
  have hx := Bd.exec
  have hby := Bd.bytes
  have hml : c.maxLocals = 1 := hml0
  have hown : s.vm.findClass "java/lang/Record" = some m.cls := findClass_of_methodNamed Bd.named
  have hnm := (name_of_methodNamed Bd.named Bd.method).1
  have X0 : Stand p l e ({ frames := 1, cells := 0, slots := 0, locals := 12 } : Room) s m #[(.ref a1)] below meth c s₁ [] 0 0 := Stand.of_body Bd
  have e0 : s₁.heap = h0 := by rw [← hh, Bd.state]; rfl
  have N0 := Fr.nil n0
  have K0 : Keep h0 h0 [] := Keep.refl _ _
  have P0 : ∀ t, Steps p.tables e below (s₁.setTop (mkF m 0 #[.val (.ref a1)] [])) t → Steps p.tables e below (s₁.setTop (entryFrame m #[(.ref a1)] 1)) t := fun t k => castTop (ef_2 m a1) k
  have P1 : ∀ t, Steps p.tables e below (s₁.setTop (mkF m 1 #[.val (.ref a1)] [(.ref a1)])) t → Steps p.tables e below (s₁.setTop (entryFrame m #[(.ref a1)] 1)) t := by
    intro t k
    refine P0 _ ?_
    refine XS.aloadN X0.here hx rfl (hb hby d2_0) rfl rfl ?_
    show Steps p.tables e below (s₁.setTop (mkF m 1 #[.val (.ref a1)] [(.ref a1)])) _
    exact k
  obtain ⟨T2, X2, e2, st2⟩ := initO X0 hx hZ hown (hw _ (List.mem_of_getElem? (i := 11) rfl)) (hw _ (List.mem_of_getElem? (i := 12) rfl)) (hw _ (List.mem_of_getElem? (i := 13) rfl)) e0 (g := (mkF m 1 #[.val (.ref a1)] [(.ref a1)])) rfl (by rw [hml]; rfl) rfl (hb hby d2_1) (by decide) (W := 0) (by show 2 * 0 + _ ≤ _; exact Nat.le_of_eq rfl) (by decide)
  have P3 : ∀ t, Steps p.tables e below (T2.setTop (mkF m 4 #[.val (.ref a1)] [])) t → Steps p.tables e below (s₁.setTop (entryFrame m #[(.ref a1)] 1)) t := fun t k => P1 _ (st2 _ k)
  obtain ⟨fs, hr, hrun, hended, hW, hsame⟩ := X2.leave (v := none) (fun _ => rfl)
  refine ⟨_, _, P3 _ ?_, hrun, hended, _, _, rfl, ?_, ⟨_, rfl⟩, hW, hsame.mono (by decide) (by decide)⟩
  · exact X2.returnOut hx Bd.returns (hb hby d2_4) hr
  · show Q2 Z a1 h0 n0 _ T2.heap _
    rw [e2]
    exact ⟨rfl, N0, rfl⟩
theorem d1_0 : decode prog_138_method_1_code 0 = .ok (.aload_n 0, 1) := by decide +kernel
theorem d1_1 : decode prog_138_method_1_code 1 = .ok (.invokespecial 1, 3) := by decide +kernel
theorem d1_4 : decode prog_138_method_1_code 4 = .ok (.aload_n 0, 1) := by decide +kernel
theorem d1_5 : decode prog_138_method_1_code 5 = .ok (.lload_n 1, 1) := by decide +kernel
theorem d1_6 : decode prog_138_method_1_code 6 = .ok (.putfield 7, 3) := by decide +kernel
theorem d1_9 : decode prog_138_method_1_code 9 = .ok (.aload_n 0, 1) := by decide +kernel
theorem d1_10 : decode prog_138_method_1_code 10 = .ok (.iload_n 3, 1) := by decide +kernel
theorem d1_11 : decode prog_138_method_1_code 11 = .ok (.putfield 13, 3) := by decide +kernel
theorem d1_14 : decode prog_138_method_1_code 14 = .ok (.return_, 1) := by decide +kernel
theorem pn_1 : plainName "ledgerline/record/ProducerEpoch" = true := by first | (simp [plainName, overriddenIn]; done) | decide +kernel
theorem ef_1 (m : MethodId) (x0 : Addr) (x1 : Int64) (x2 : Int32) : entryFrame m #[(.ref x0), (.long x1), (.int x2)] 4 = mkF m 0 #[.val (.ref x0), .val (.long x1), .second, .val (.int x2)] [] := by first | (simp [entryFrame, mkF, argsToLocals, Value.category]; done) | rfl
def Q1 (Z : State) (a1 : Addr) (q2 : Int64) (p3 : Int32) (u_producerId : Value) (u_epoch : Value) (h0 : Heap) (n0 : Nat) (v : Option Value) (h : Heap) (L : List Loc) : Prop := v = none ∧ Fr n0 L ∧ Keep h0 h [a1] ∧ Exa Z h a1 "ledgerline/record/ProducerEpoch" ∧ Fld Z h a1 "ledgerline/record/ProducerEpoch" "producerId" "J" (.long q2) ∧ Fld Z h a1 "ledgerline/record/ProducerEpoch" "epoch" "S" (.int (nar .short p3))
set_option maxRecDepth 65536 in
set_option maxHeartbeats 40000000 in
theorem rm1 (l : Launch) (Z : State) (a0 : Array Value) (hw : ∀ d ∈ tables_1, d.before a0 Z = true) (ws : List Jvm.Cond) (a1 : Addr) (q2 : Int64) (p3 : Int32) (u_producerId : Value) (u_epoch : Value) (h0 : Heap) (n0 : Nat) (Z0 : n0 ≤ h0.size) (E_a : Exa Z h0 a1 "ledgerline/record/ProducerEpoch") (F_producerId : Fld Z h0 a1 "ledgerline/record/ProducerEpoch" "producerId" "J" u_producerId) (F_epoch : Fld Z h0 a1 "ledgerline/record/ProducerEpoch" "epoch" "S" u_epoch) (g_a : n0 ≤ a1) :
    MetFree l (⟨"ledgerline/record/ProducerEpoch", "<init>", "(JS)V"⟩ : MethodName) (head1 (Jvm.Cond.code (⟨"ledgerline/record/ProducerEpoch", "<init>", "(JS)V"⟩ : MethodName) prog_138_method_1_code 4 none :: ws) ({ frames := 2, cells := 0, slots := 0, locals := 24 } : Room)) (fun a U => a = #[(.ref a1), (.long q2), (.int p3)] ∧ Z.Warmed39 U.vm ∧ U.heap = h0) (fun _ _ _ _ _ => True) (fun _ U o U' => ∃ v L, o = .returned v ∧ Q1 Z a1 q2 p3 u_producerId u_epoch h0 n0 v U'.heap L ∧ FrameEnd U o U' L ({ frames := 2, cells := 0, slots := 0, locals := 24 } : Room).cells ({ frames := 2, cells := 0, slots := 0, locals := 24 } : Room).slots) := by
  refine MetFree.of_bodySF (plainFor_of_name pn_1) hisR ?_
  intro p e s m args below meth c s₁ Bd hml0 hP hK
  obtain ⟨rfl, hZ, hh⟩ := hP
  have hx := Bd.exec
  have hby := Bd.bytes
  have hml : c.maxLocals = 4 := hml0
  have hown : s.vm.findClass "ledgerline/record/ProducerEpoch" = some m.cls := findClass_of_methodNamed Bd.named
  have hnm := (name_of_methodNamed Bd.named Bd.method).1
  have X0 : Stand p l e ({ frames := 2, cells := 0, slots := 0, locals := 24 } : Room) s m #[(.ref a1), (.long q2), (.int p3)] below meth c s₁ [] 0 0 := Stand.of_body Bd
  have e0 : s₁.heap = h0 := by rw [← hh, Bd.state]; rfl
  have N0 := Fr.nil n0
  have K0 : Keep h0 h0 [a1] := Keep.refl _ _
  have P0 : ∀ t, Steps p.tables e below (s₁.setTop (mkF m 0 #[.val (.ref a1), .val (.long q2), .second, .val (.int p3)] [])) t → Steps p.tables e below (s₁.setTop (entryFrame m #[(.ref a1), (.long q2), (.int p3)] 4)) t := fun t k => castTop (ef_1 m a1 q2 p3) k
  have P1 : ∀ t, Steps p.tables e below (s₁.setTop (mkF m 1 #[.val (.ref a1), .val (.long q2), .second, .val (.int p3)] [(.ref a1)])) t → Steps p.tables e below (s₁.setTop (entryFrame m #[(.ref a1), (.long q2), (.int p3)] 4)) t := by
    intro t k
    refine P0 _ ?_
    refine XS.aloadN X0.here hx rfl (hb hby d1_0) rfl rfl ?_
    show Steps p.tables e below (s₁.setTop (mkF m 1 #[.val (.ref a1), .val (.long q2), .second, .val (.int p3)] [(.ref a1)])) _
    exact k
  obtain ⟨_, _, ⟨T2, L2, k2, n2⟩, -, X2, ⟨Lc2, hQ2, l2, y2, z2⟩, st2⟩ := X0.specialBack hx (y := (⟨"java/lang/Record", "<init>", "()V"⟩ : MethodName)) rfl hown (mvT hZ (hw _ (List.mem_of_getElem? (i := 6) rfl))) (mvT hZ (hw _ (List.mem_of_getElem? (i := 7) rfl))) (mvT hZ (hw _ (List.mem_of_getElem? (i := 10) rfl))) (by decide) (backOf (W := 0) (rm2 l Z a0 hw [] a1  h0 n0 Z0 ) hZ (hw _ (List.mem_of_getElem? (i := 10) rfl)) (hw _ (List.mem_of_getElem? (i := 9) rfl)) (by decide) (by decide)) (g := (mkF m 1 #[.val (.ref a1), .val (.long q2), .second, .val (.int p3)] [(.ref a1)])) rfl (by rw [hml]; rfl) (Steps.refl _) (a := a1) (argsL := []) (rest := []) (lenOf pd_0 rfl) rfl (by show 2 * 0 + _ ≤ _; exact Nat.le_of_eq rfl) (hb hby d1_1) (fun _ _ => ⟨rfl, e0, (by decide : 0 + 0 ≤ _), (by decide : 0 + 0 ≤ _)⟩)
  dsimp only [Pt.U, Pt.locs, Pt.cells, Pt.slots] at X2 l2 y2 z2 st2 hQ2
  subst l2 y2 z2
  obtain ⟨rfl, N2q, e2⟩ := hQ2
  have N2 := Fr.app N0 N2q
  have P3 : ∀ t, Steps p.tables e below (T2.setTop (mkF m 4 #[.val (.ref a1), .val (.long q2), .second, .val (.int p3)] [])) t → Steps p.tables e below (s₁.setTop (entryFrame m #[(.ref a1), (.long q2), (.int p3)] 4)) t := fun t k => P1 _ (st2.trans k)
  have P4 : ∀ t, Steps p.tables e below (T2.setTop (mkF m 6 #[.val (.ref a1), .val (.long q2), .second, .val (.int p3)] [(.long q2), (.ref a1)])) t → Steps p.tables e below (s₁.setTop (entryFrame m #[(.ref a1), (.long q2), (.int p3)] 4)) t := by
    intro t k
    refine P3 _ ?_
    refine XS.aloadN X2.here hx rfl (hb hby d1_4) rfl rfl ?_
    show Steps p.tables e below (T2.setTop (mkF m 5 #[.val (.ref a1), .val (.long q2), .second, .val (.int p3)] [(.ref a1)])) _
    refine XT.lloadN X2.here hx rfl (hb hby d1_5) rfl ?_
    show Steps p.tables e below (T2.setTop (mkF m 6 #[.val (.ref a1), .val (.long q2), .second, .val (.int p3)] [(.long q2), (.ref a1)])) _
    exact k
  obtain ⟨T5, h5, X5, e5, W5, st5⟩ := putF X2 hx hZ hown (host := "") (Or.inl (hw _ (List.mem_of_getElem? (i := 14) rfl))) Via.refl e2 F_producerId E_a (Or.inr ⟨(hw _ (List.mem_of_getElem? (i := 15) rfl)), rfl, hnm⟩) (hw _ (List.mem_of_getElem? (i := 1) rfl)) (ty := .long) (by decide) rfl rfl (g := (mkF m 6 #[.val (.ref a1), .val (.long q2), .second, .val (.int p3)] [(.long q2), (.ref a1)])) rfl rfl (hb hby d1_6)
  have F6 : Exa Z h5 a1 "ledgerline/record/ProducerEpoch" := E_a.wr W5
  have F7 : Fld Z h5 a1 "ledgerline/record/ProducerEpoch" "epoch" "S" u_epoch := F_epoch.other W5 (Or.inr (slot_ne (Or.inr (hw _ (List.mem_of_getElem? (i := 17) rfl))) (Or.inr (hw _ (List.mem_of_getElem? (i := 15) rfl))) (by decide) (t := .short) (t' := .long) (by decide) (by decide)))
  have F8 : Fld Z h5 a1 "ledgerline/record/ProducerEpoch" "producerId" "J" (.long q2) := F_producerId.same W5
  have Z9 : n0 ≤ h5.size := Nat.le_trans Z0 (Keep.of_wr W5).1
  have K10 : Keep h0 h5 [a1] := K0.wr W5 (Or.inl (List.mem_of_getElem? (i := 0) rfl))
  have N5 := Fr.snoc X5 N2 g_a
  have P11 : ∀ t, Steps p.tables e below (T5.setTop (mkF m 9 #[.val (.ref a1), .val (.long q2), .second, .val (.int p3)] [])) t → Steps p.tables e below (s₁.setTop (entryFrame m #[(.ref a1), (.long q2), (.int p3)] 4)) t := fun t k => P4 _ (st5 _ k)
  have P12 : ∀ t, Steps p.tables e below (T5.setTop (mkF m 11 #[.val (.ref a1), .val (.long q2), .second, .val (.int p3)] [(.int p3), (.ref a1)])) t → Steps p.tables e below (s₁.setTop (entryFrame m #[(.ref a1), (.long q2), (.int p3)] 4)) t := by
    intro t k
    refine P11 _ ?_
    refine XS.aloadN X5.here hx rfl (hb hby d1_9) rfl rfl ?_
    show Steps p.tables e below (T5.setTop (mkF m 10 #[.val (.ref a1), .val (.long q2), .second, .val (.int p3)] [(.ref a1)])) _
    refine XS.iloadN X5.here hx rfl (hb hby d1_10) rfl ?_
    show Steps p.tables e below (T5.setTop (mkF m 11 #[.val (.ref a1), .val (.long q2), .second, .val (.int p3)] [(.int p3), (.ref a1)])) _
    exact k
  obtain ⟨T13, h13, X13, e13, W13, st13⟩ := putFN X5 hx hZ hown (hw _ (List.mem_of_getElem? (i := 16) rfl)) Via.refl e5 F7 F6 (Or.inr ⟨(hw _ (List.mem_of_getElem? (i := 17) rfl)), rfl, hnm⟩) (hw _ (List.mem_of_getElem? (i := 1) rfl)) (ty := .short) (v' := (.int (nar .short p3))) (by decide) rfl (fits_nar_short _) (g := (mkF m 11 #[.val (.ref a1), .val (.long q2), .second, .val (.int p3)] [(.int p3), (.ref a1)])) rfl rfl (hb hby d1_11)
  have F14 : Exa Z h13 a1 "ledgerline/record/ProducerEpoch" := F6.wr W13
  have F15 : Fld Z h13 a1 "ledgerline/record/ProducerEpoch" "producerId" "J" (.long q2) := F8.other W13 (Or.inr (slot_ne (Or.inr (hw _ (List.mem_of_getElem? (i := 15) rfl))) (Or.inr (hw _ (List.mem_of_getElem? (i := 17) rfl))) (by decide) (t := .long) (t' := .short) (by decide) (by decide)))
  have F16 : Fld Z h13 a1 "ledgerline/record/ProducerEpoch" "epoch" "S" (.int (nar .short p3)) := F7.same W13
  have Z17 : n0 ≤ h13.size := Nat.le_trans Z9 (Keep.of_wr W13).1
  have K18 : Keep h0 h13 [a1] := K10.wr W13 (Or.inl (List.mem_of_getElem? (i := 0) rfl))
  have N13 := Fr.snoc X13 N5 g_a
  have P19 : ∀ t, Steps p.tables e below (T13.setTop (mkF m 14 #[.val (.ref a1), .val (.long q2), .second, .val (.int p3)] [])) t → Steps p.tables e below (s₁.setTop (entryFrame m #[(.ref a1), (.long q2), (.int p3)] 4)) t := fun t k => P12 _ (st13 _ k)
  obtain ⟨fs, hr, hrun, hended, hW, hsame⟩ := X13.leave (v := none) (fun _ => rfl)
  refine ⟨_, _, P19 _ ?_, hrun, hended, _, _, rfl, ?_, ⟨_, rfl⟩, hW, hsame.mono (by decide) (by decide)⟩
  · exact X13.returnOut hx Bd.returns (hb hby d1_14) hr
  · show Q1 Z a1 q2 p3 u_producerId u_epoch h0 n0 _ T13.heap _
    rw [e13]
    exact ⟨rfl, N13, K18, F14, F15, F16⟩
theorem d3_0 : decode prog_138_method_2_code 0 = .ok (.aload_n 0, 1) := by decide +kernel
theorem d3_1 : decode prog_138_method_2_code 1 = .ok (.getfield 7, 3) := by decide +kernel
theorem d3_4 : decode prog_138_method_2_code 4 = .ok (.lconst 0, 1) := by decide +kernel
theorem d3_5 : decode prog_138_method_2_code 5 = .ok (.lcmp, 1) := by decide +kernel
theorem d3_6 : decode prog_138_method_2_code 6 = .ok (.ifCond .lt 10, 3) := by decide +kernel
theorem d3_9 : decode prog_138_method_2_code 9 = .ok (.aload_n 0, 1) := by decide +kernel
theorem d3_10 : decode prog_138_method_2_code 10 = .ok (.getfield 13, 3) := by decide +kernel
theorem d3_13 : decode prog_138_method_2_code 13 = .ok (.ifCond .ge 7, 3) := by decide +kernel
theorem d3_16 : decode prog_138_method_2_code 16 = .ok (.iconst 1, 1) := by decide +kernel
theorem d3_17 : decode prog_138_method_2_code 17 = .ok (.goto 4, 3) := by decide +kernel
theorem d3_20 : decode prog_138_method_2_code 20 = .ok (.iconst 0, 1) := by decide +kernel
theorem d3_21 : decode prog_138_method_2_code 21 = .ok (.ireturn, 1) := by decide +kernel
theorem pn_3 : plainName "ledgerline/record/ProducerEpoch" = true := by first | (simp [plainName, overriddenIn]; done) | decide +kernel
theorem ef_3 (m : MethodId) (x0 : Addr) : entryFrame m #[(.ref x0)] 1 = mkF m 0 #[.val (.ref x0)] [] := by first | (simp [entryFrame, mkF, argsToLocals, Value.category]; done) | rfl
def Q3 (Z : State) (a1 : Addr) (w1 : Int64) (w2 : Int32) (h0 : Heap) (n0 : Nat) (v : Option Value) (h : Heap) (L : List Loc) : Prop := v = some (.int (if w1 < (0 : Int64) then (1 : Int32) else (if w2 < (0 : Int32) then (1 : Int32) else (0 : Int32)))) ∧ Fr n0 L ∧ h = h0
set_option maxRecDepth 65536 in
set_option maxHeartbeats 40000000 in
theorem rm3 (l : Launch) (Z : State) (a0 : Array Value) (hw : ∀ d ∈ tables_1, d.before a0 Z = true) (ws : List Jvm.Cond) (a1 : Addr) (w1 : Int64) (w2 : Int32) (h0 : Heap) (n0 : Nat) (Z0 : n0 ≤ h0.size) (F_id : Fld Z h0 a1 "ledgerline/record/ProducerEpoch" "producerId" "J" (.long w1)) (F_ep : Fld Z h0 a1 "ledgerline/record/ProducerEpoch" "epoch" "S" (.int w2)) :
    MetFree l (⟨"ledgerline/record/ProducerEpoch", "isNone", "()Z"⟩ : MethodName) (head1 (Jvm.Cond.code (⟨"ledgerline/record/ProducerEpoch", "isNone", "()Z"⟩ : MethodName) prog_138_method_2_code 1 (some .boolean) :: ws) ({ frames := 0, cells := 0, slots := 0, locals := 0 } : Room)) (fun a U => a = #[(.ref a1)] ∧ Z.Warmed39 U.vm ∧ U.heap = h0) (fun _ _ _ _ _ => True) (fun _ U o U' => ∃ v L, o = .returned v ∧ Q3 Z a1 w1 w2 h0 n0 v U'.heap L ∧ FrameEnd U o U' L ({ frames := 0, cells := 0, slots := 0, locals := 0 } : Room).cells ({ frames := 0, cells := 0, slots := 0, locals := 0 } : Room).slots) := by
  refine MetFree.of_bodySF (plainFor_of_name pn_3) hisR ?_
  intro p e s m args below meth c s₁ Bd hml0 hP hK
  obtain ⟨rfl, hZ, hh⟩ := hP
  have hx := Bd.exec
  have hby := Bd.bytes
  have hml : c.maxLocals = 1 := hml0
  have hown : s.vm.findClass "ledgerline/record/ProducerEpoch" = some m.cls := findClass_of_methodNamed Bd.named
  have hnm := (name_of_methodNamed Bd.named Bd.method).1
  have X0 : Stand p l e ({ frames := 0, cells := 0, slots := 0, locals := 0 } : Room) s m #[(.ref a1)] below meth c s₁ [] 0 0 := Stand.of_body Bd
  have e0 : s₁.heap = h0 := by rw [← hh, Bd.state]; rfl
  have N0 := Fr.nil n0
  have K0 : Keep h0 h0 [] := Keep.refl _ _
  have P0 : ∀ t, Steps p.tables e below (s₁.setTop (mkF m 0 #[.val (.ref a1)] [])) t → Steps p.tables e below (s₁.setTop (entryFrame m #[(.ref a1)] 1)) t := fun t k => castTop (ef_3 m a1) k
  have P1 : ∀ t, Steps p.tables e below (s₁.setTop (mkF m 1 #[.val (.ref a1)] [(.ref a1)])) t → Steps p.tables e below (s₁.setTop (entryFrame m #[(.ref a1)] 1)) t := by
    intro t k
    refine P0 _ ?_
    refine XS.aloadN X0.here hx rfl (hb hby d3_0) rfl rfl ?_
    show Steps p.tables e below (s₁.setTop (mkF m 1 #[.val (.ref a1)] [(.ref a1)])) _
    exact k
  obtain ⟨T2, X2, e2, st2⟩ := getF X0 hx hZ hown (host := "") (Or.inl (hw _ (List.mem_of_getElem? (i := 14) rfl))) Via.refl e0 F_id (g := (mkF m 1 #[.val (.ref a1)] [(.ref a1)])) rfl rfl (hb hby d3_1)
  have P3 : ∀ t, Steps p.tables e below (T2.setTop (mkF m 4 #[.val (.ref a1)] [(.long w1)])) t → Steps p.tables e below (s₁.setTop (entryFrame m #[(.ref a1)] 1)) t := fun t k => P1 _ (st2 _ k)
  have P4 : ∀ t, Steps p.tables e below (T2.setTop (mkF m 6 #[.val (.ref a1)] [(.int (XT.cmpL w1 (0 : Int64)))])) t → Steps p.tables e below (s₁.setTop (entryFrame m #[(.ref a1)] 1)) t := by
    intro t k
    refine P3 _ ?_
    refine XT.lconst X2.here hx rfl (hb hby d3_4) ?_
    show Steps p.tables e below (T2.setTop (mkF m 5 #[.val (.ref a1)] [(.long (0 : Int64)), (.long w1)])) _
    refine XT.lcmp X2.here hx rfl (hb hby d3_5) rfl ?_
    show Steps p.tables e below (T2.setTop (mkF m 6 #[.val (.ref a1)] [(.int (XT.cmpL w1 (0 : Int64)))])) _
    exact k
  by_cases c6 : w1 < (0 : Int64)
  · have P5 : ∀ t, Steps p.tables e below (T2.setTop (mkF m 21 #[.val (.ref a1)] [(.int (1 : Int32))])) t → Steps p.tables e below (s₁.setTop (entryFrame m #[(.ref a1)] 1)) t := by
      intro t k
      refine P4 _ ?_
      refine XS.ifYes X2.here hx rfl (pc0 := 6) (pc' := 16) rfl (hb hby d3_6) rfl (XT.ll_lt_t c6) (by decide) (by decide) ?_
      show Steps p.tables e below (T2.setTop (mkF m 16 #[.val (.ref a1)] [])) _
      refine XS.iconst X2.here hx rfl (hb hby d3_16) ?_
      show Steps p.tables e below (T2.setTop (mkF m 17 #[.val (.ref a1)] [(.int (1 : Int32))])) _
      refine XS.goto X2.here hx rfl (pc0 := 17) (pc' := 21) rfl (hb hby d3_17) (by decide) (by decide) ?_
      show Steps p.tables e below (T2.setTop (mkF m 21 #[.val (.ref a1)] [(.int (1 : Int32))])) _
      exact k
    obtain ⟨fs, hr, hrun, hended, hW, hsame⟩ := X2.leave (v := some (.int (1 : Int32))) (fun h => by rw [Bd.returns] at h; cases h)
    refine ⟨_, _, P5 _ ?_, hrun, hended, _, _, rfl, ?_, ⟨_, rfl⟩, hW, hsame.mono (by decide) (by decide)⟩
    · exact retN X2 hx (t := .boolean) Bd.returns (by simp) (hb hby d3_21) hr
    · show Q3 Z a1 w1 w2 h0 n0 _ T2.heap _
      rw [e2]
      exact ⟨by rw [if_pos c6], N0, rfl⟩
  · have P6 : ∀ t, Steps p.tables e below (T2.setTop (mkF m 10 #[.val (.ref a1)] [(.ref a1)])) t → Steps p.tables e below (s₁.setTop (entryFrame m #[(.ref a1)] 1)) t := by
      intro t k
      refine P4 _ ?_
      refine XS.ifNo X2.here hx rfl (hb hby d3_6) rfl (XT.ll_lt_f c6) ?_
      show Steps p.tables e below (T2.setTop (mkF m 9 #[.val (.ref a1)] [])) _
      refine XS.aloadN X2.here hx rfl (hb hby d3_9) rfl rfl ?_
      show Steps p.tables e below (T2.setTop (mkF m 10 #[.val (.ref a1)] [(.ref a1)])) _
      exact k
    obtain ⟨T7, X7, e7, st7⟩ := getF X2 hx hZ hown (host := "") (Or.inl (hw _ (List.mem_of_getElem? (i := 16) rfl))) Via.refl e2 F_ep (g := (mkF m 10 #[.val (.ref a1)] [(.ref a1)])) rfl rfl (hb hby d3_10)
    have P8 : ∀ t, Steps p.tables e below (T7.setTop (mkF m 13 #[.val (.ref a1)] [(.int w2)])) t → Steps p.tables e below (s₁.setTop (entryFrame m #[(.ref a1)] 1)) t := fun t k => P6 _ (st7 _ k)
    by_cases c13 : w2 < (0 : Int32)
    · have P9 : ∀ t, Steps p.tables e below (T7.setTop (mkF m 21 #[.val (.ref a1)] [(.int (1 : Int32))])) t → Steps p.tables e below (s₁.setTop (entryFrame m #[(.ref a1)] 1)) t := by
        intro t k
        refine P8 _ ?_
        refine XS.ifNo X7.here hx rfl (hb hby d3_13) rfl (XT.i0_ge_f c13) ?_
        show Steps p.tables e below (T7.setTop (mkF m 16 #[.val (.ref a1)] [])) _
        refine XS.iconst X7.here hx rfl (hb hby d3_16) ?_
        show Steps p.tables e below (T7.setTop (mkF m 17 #[.val (.ref a1)] [(.int (1 : Int32))])) _
        refine XS.goto X7.here hx rfl (pc0 := 17) (pc' := 21) rfl (hb hby d3_17) (by decide) (by decide) ?_
        show Steps p.tables e below (T7.setTop (mkF m 21 #[.val (.ref a1)] [(.int (1 : Int32))])) _
        exact k
      obtain ⟨fs, hr, hrun, hended, hW, hsame⟩ := X7.leave (v := some (.int (1 : Int32))) (fun h => by rw [Bd.returns] at h; cases h)
      refine ⟨_, _, P9 _ ?_, hrun, hended, _, _, rfl, ?_, ⟨_, rfl⟩, hW, hsame.mono (by decide) (by decide)⟩
      · exact retN X7 hx (t := .boolean) Bd.returns (by simp) (hb hby d3_21) hr
      · show Q3 Z a1 w1 w2 h0 n0 _ T7.heap _
        rw [e7]
        exact ⟨by rw [if_neg c6, if_pos c13], N0, rfl⟩
    · have P10 : ∀ t, Steps p.tables e below (T7.setTop (mkF m 21 #[.val (.ref a1)] [(.int (0 : Int32))])) t → Steps p.tables e below (s₁.setTop (entryFrame m #[(.ref a1)] 1)) t := by
        intro t k
        refine P8 _ ?_
        refine XS.ifYes X7.here hx rfl (pc0 := 13) (pc' := 20) rfl (hb hby d3_13) rfl (XT.i0_ge_t c13) (by decide) (by decide) ?_
        show Steps p.tables e below (T7.setTop (mkF m 20 #[.val (.ref a1)] [])) _
        refine XS.iconst X7.here hx rfl (hb hby d3_20) ?_
        show Steps p.tables e below (T7.setTop (mkF m 21 #[.val (.ref a1)] [(.int (0 : Int32))])) _
        exact k
      obtain ⟨fs, hr, hrun, hended, hW, hsame⟩ := X7.leave (v := some (.int (0 : Int32))) (fun h => by rw [Bd.returns] at h; cases h)
      refine ⟨_, _, P10 _ ?_, hrun, hended, _, _, rfl, ?_, ⟨_, rfl⟩, hW, hsame.mono (by decide) (by decide)⟩
      · exact retN X7 hx (t := .boolean) Bd.returns (by simp) (hb hby d3_21) hr
      · show Q3 Z a1 w1 w2 h0 n0 _ T7.heap _
        rw [e7]
        exact ⟨by rw [if_neg c6, if_neg c13], N0, rfl⟩
theorem d4_0 : decode prog_138_method_2_code 0 = .ok (.aload_n 0, 1) := by decide +kernel
theorem d4_1 : decode prog_138_method_2_code 1 = .ok (.getfield 7, 3) := by decide +kernel
theorem d4_4 : decode prog_138_method_2_code 4 = .ok (.lconst 0, 1) := by decide +kernel
theorem d4_5 : decode prog_138_method_2_code 5 = .ok (.lcmp, 1) := by decide +kernel
theorem d4_6 : decode prog_138_method_2_code 6 = .ok (.ifCond .lt 10, 3) := by decide +kernel
theorem d4_16 : decode prog_138_method_2_code 16 = .ok (.iconst 1, 1) := by decide +kernel
theorem d4_17 : decode prog_138_method_2_code 17 = .ok (.goto 4, 3) := by decide +kernel
theorem d4_21 : decode prog_138_method_2_code 21 = .ok (.ireturn, 1) := by decide +kernel
theorem pn_4 : plainName "ledgerline/record/ProducerEpoch" = true := by first | (simp [plainName, overriddenIn]; done) | decide +kernel
theorem ef_4 (m : MethodId) (x0 : Addr) : entryFrame m #[(.ref x0)] 1 = mkF m 0 #[.val (.ref x0)] [] := by first | (simp [entryFrame, mkF, argsToLocals, Value.category]; done) | rfl
def Q4 (Z : State) (a1 : Addr) (w1 : Int64) (h0 : Heap) (n0 : Nat) (v : Option Value) (h : Heap) (L : List Loc) : Prop := v = some (.int 1) ∧ Fr n0 L ∧ h = h0
set_option maxRecDepth 65536 in
set_option maxHeartbeats 40000000 in
theorem rm4 (l : Launch) (Z : State) (a0 : Array Value) (hw : ∀ d ∈ tables_1, d.before a0 Z = true) (ws : List Jvm.Cond) (a1 : Addr) (w1 : Int64) (h0 : Heap) (n0 : Nat) (Z0 : n0 ≤ h0.size) (F_id : Fld Z h0 a1 "ledgerline/record/ProducerEpoch" "producerId" "J" (.long w1)) (hneg : w1 < (0 : Int64)) :
    MetFree l (⟨"ledgerline/record/ProducerEpoch", "isNone", "()Z"⟩ : MethodName) (head1 (Jvm.Cond.code (⟨"ledgerline/record/ProducerEpoch", "isNone", "()Z"⟩ : MethodName) prog_138_method_2_code 1 (some .boolean) :: ws) ({ frames := 0, cells := 0, slots := 0, locals := 0 } : Room)) (fun a U => a = #[(.ref a1)] ∧ Z.Warmed39 U.vm ∧ U.heap = h0) (fun _ _ _ _ _ => True) (fun _ U o U' => ∃ v L, o = .returned v ∧ Q4 Z a1 w1 h0 n0 v U'.heap L ∧ FrameEnd U o U' L ({ frames := 0, cells := 0, slots := 0, locals := 0 } : Room).cells ({ frames := 0, cells := 0, slots := 0, locals := 0 } : Room).slots) := by
  refine MetFree.of_bodySF (plainFor_of_name pn_4) hisR ?_
  intro p e s m args below meth c s₁ Bd hml0 hP hK
  obtain ⟨rfl, hZ, hh⟩ := hP
  have hx := Bd.exec
  have hby := Bd.bytes
  have hml : c.maxLocals = 1 := hml0
  have hown : s.vm.findClass "ledgerline/record/ProducerEpoch" = some m.cls := findClass_of_methodNamed Bd.named
  have hnm := (name_of_methodNamed Bd.named Bd.method).1
  have X0 : Stand p l e ({ frames := 0, cells := 0, slots := 0, locals := 0 } : Room) s m #[(.ref a1)] below meth c s₁ [] 0 0 := Stand.of_body Bd
  have e0 : s₁.heap = h0 := by rw [← hh, Bd.state]; rfl
  have N0 := Fr.nil n0
  have K0 : Keep h0 h0 [] := Keep.refl _ _
  have P0 : ∀ t, Steps p.tables e below (s₁.setTop (mkF m 0 #[.val (.ref a1)] [])) t → Steps p.tables e below (s₁.setTop (entryFrame m #[(.ref a1)] 1)) t := fun t k => castTop (ef_4 m a1) k
  have P1 : ∀ t, Steps p.tables e below (s₁.setTop (mkF m 1 #[.val (.ref a1)] [(.ref a1)])) t → Steps p.tables e below (s₁.setTop (entryFrame m #[(.ref a1)] 1)) t := by
    intro t k
    refine P0 _ ?_
    refine XS.aloadN X0.here hx rfl (hb hby d4_0) rfl rfl ?_
    show Steps p.tables e below (s₁.setTop (mkF m 1 #[.val (.ref a1)] [(.ref a1)])) _
    exact k
  obtain ⟨T2, X2, e2, st2⟩ := getF X0 hx hZ hown (host := "") (Or.inl (hw _ (List.mem_of_getElem? (i := 14) rfl))) Via.refl e0 F_id (g := (mkF m 1 #[.val (.ref a1)] [(.ref a1)])) rfl rfl (hb hby d4_1)
  have P3 : ∀ t, Steps p.tables e below (T2.setTop (mkF m 4 #[.val (.ref a1)] [(.long w1)])) t → Steps p.tables e below (s₁.setTop (entryFrame m #[(.ref a1)] 1)) t := fun t k => P1 _ (st2 _ k)
  have P4 : ∀ t, Steps p.tables e below (T2.setTop (mkF m 21 #[.val (.ref a1)] [(.int (1 : Int32))])) t → Steps p.tables e below (s₁.setTop (entryFrame m #[(.ref a1)] 1)) t := by
    intro t k
    refine P3 _ ?_
    refine XT.lconst X2.here hx rfl (hb hby d4_4) ?_
    show Steps p.tables e below (T2.setTop (mkF m 5 #[.val (.ref a1)] [(.long (0 : Int64)), (.long w1)])) _
    refine XT.lcmp X2.here hx rfl (hb hby d4_5) rfl ?_
    show Steps p.tables e below (T2.setTop (mkF m 6 #[.val (.ref a1)] [(.int (XT.cmpL w1 (0 : Int64)))])) _
    refine XS.ifYes X2.here hx rfl (pc0 := 6) (pc' := 16) rfl (hb hby d4_6) rfl (XT.ll_lt_t hneg) (by decide) (by decide) ?_
    show Steps p.tables e below (T2.setTop (mkF m 16 #[.val (.ref a1)] [])) _
    refine XS.iconst X2.here hx rfl (hb hby d4_16) ?_
    show Steps p.tables e below (T2.setTop (mkF m 17 #[.val (.ref a1)] [(.int (1 : Int32))])) _
    refine XS.goto X2.here hx rfl (pc0 := 17) (pc' := 21) rfl (hb hby d4_17) (by decide) (by decide) ?_
    show Steps p.tables e below (T2.setTop (mkF m 21 #[.val (.ref a1)] [(.int (1 : Int32))])) _
    exact k
  obtain ⟨fs, hr, hrun, hended, hW, hsame⟩ := X2.leave (v := some (.int (1 : Int32))) (fun h => by rw [Bd.returns] at h; cases h)
  refine ⟨_, _, P4 _ ?_, hrun, hended, _, _, rfl, ?_, ⟨_, rfl⟩, hW, hsame.mono (by decide) (by decide)⟩
  · exact retN X2 hx (t := .boolean) Bd.returns (by simp) (hb hby d4_21) hr
  · show Q4 Z a1 w1 h0 n0 _ T2.heap _
    rw [e2]
    exact ⟨rfl, N0, rfl⟩
theorem pn_0 : plainName "ledgerline/record/ProducerEpochIsNonePinLaw" = true := by first | (simp [plainName, overriddenIn]; done) | decide +kernel
theorem ef_0 (m : MethodId) (x0 : Int64) (x1 : Int32) : entryFrame m #[(.long x0), (.int x1)] maxLocals = mkF m 0 #[.val (.long x0), .second, .val (.int x1), .unset, .unset, .unset, .unset, .unset] [] := by first | (simp [entryFrame, mkF, argsToLocals, Value.category, maxLocals]; done) | rfl
def Q0 (Z : State) (q1 : Int64) (p2 : Int32) (w_NONE : Addr) (h0 : Heap) (n0 : Nat) (v : Option Value) (h : Heap) (L : List Loc) : Prop := v = some (.int 1) ∧ Fr n0 L
set_option maxRecDepth 65536 in
set_option maxHeartbeats 40000000 in
theorem rm0 (l : Launch) (Z : State) (a0 : Array Value) (hw : ∀ d ∈ tables_1, d.before a0 Z = true) (ws : List Jvm.Cond) (q1 : Int64) (p2 : Int32) (w_NONE : Addr) (h0 : Heap) (n0 : Nat) (Z0 : n0 ≤ h0.size) (O0 : Old Z n0 h0) (S_NONE : Sta Z Z.heap "ledgerline/record/ProducerEpoch" "NONE" "Lledgerline/record/ProducerEpoch;" (.ref w_NONE)) (E_NONE : Exa Z Z.heap w_NONE "ledgerline/record/ProducerEpoch") (F_NONE : Fld Z Z.heap w_NONE "ledgerline/record/ProducerEpoch" "producerId" "J" (.long (-1 : Int64))) :
    MetFree l x (head1 (Jvm.Cond.code x code maxLocals ret :: ws) room_1) (fun a U => a = #[(.long q1), (.int p2)] ∧ Z.Warmed39 U.vm ∧ U.heap = h0) (fun _ _ _ _ _ => True) (fun _ U o U' => ∃ v L, o = .returned v ∧ Q0 Z q1 p2 w_NONE h0 n0 v U'.heap L ∧ FrameEnd U o U' L room_1.cells room_1.slots) := by
  refine MetFree.of_bodySF (plainFor_of_name pn_0) hisR ?_
  intro p e s m args below meth c s₁ Bd hml0 hP hK
  obtain ⟨rfl, hZ, hh⟩ := hP
  have hx := Bd.exec
  have hby := Bd.bytes
  have hml : c.maxLocals = 8 := hml0
  have hown : s.vm.findClass "ledgerline/record/ProducerEpochIsNonePinLaw" = some m.cls := findClass_of_methodNamed Bd.named
  have hnm := (name_of_methodNamed Bd.named Bd.method).1
  have X0 : Stand p l e room_1 s m #[(.long q1), (.int p2)] below meth c s₁ [] 0 0 := Stand.of_body Bd
  have e0 : s₁.heap = h0 := by rw [← hh, Bd.state]; rfl
  have N0 := Fr.nil n0
  have K0 : Keep h0 h0 [] := Keep.refl _ _
  have P0 : ∀ t, Steps p.tables e below (s₁.setTop (mkF m 0 #[.val (.long q1), .second, .val (.int p2), .unset, .unset, .unset, .unset, .unset] [])) t → Steps p.tables e below (s₁.setTop (entryFrame m #[(.long q1), (.int p2)] maxLocals)) t := fun t k => castTop (ef_0 m q1 p2) k
  have P1 : ∀ t, Steps p.tables e below (s₁.setTop (mkF m 3 #[.val (.long q1), .second, .val (.int p2), .val (.int (p2.toInt16.toInt32)), .unset, .unset, .unset, .unset] [])) t → Steps p.tables e below (s₁.setTop (entryFrame m #[(.long q1), (.int p2)] maxLocals)) t := by
    intro t k
    refine P0 _ ?_
    refine XS.iloadN X0.here hx rfl (hb hby at_0) rfl ?_
    show Steps p.tables e below (s₁.setTop (mkF m 1 #[.val (.long q1), .second, .val (.int p2), .unset, .unset, .unset, .unset, .unset] [(.int p2)])) _
    refine XT.i2s X0.here hx rfl (hb hby at_1) rfl ?_
    show Steps p.tables e below (s₁.setTop (mkF m 2 #[.val (.long q1), .second, .val (.int p2), .unset, .unset, .unset, .unset, .unset] [(.int (p2.toInt16.toInt32))])) _
    refine XS.istoreN X0.here hx rfl (hb hby at_2) rfl (l' := #[.val (.long q1), .second, .val (.int p2), .val (.int (p2.toInt16.toInt32)), .unset, .unset, .unset, .unset]) rfl ?_
    show Steps p.tables e below (s₁.setTop (mkF m 3 #[.val (.long q1), .second, .val (.int p2), .val (.int (p2.toInt16.toInt32)), .unset, .unset, .unset, .unset] [])) _
    exact k
  obtain ⟨sv, hsv⟩ : ∃ z : Int32, z = (p2.toInt16.toInt32) := ⟨_, rfl⟩
  rw [← hsv] at P1
  obtain ⟨T2, h2, X2, e2, E2, A2, D2, -, st2⟩ := newO X0 hx hZ hown (hw _ (List.mem_of_getElem? (i := 0) rfl)) (hw _ (List.mem_of_getElem? (i := 1) rfl)) (hw _ (List.mem_of_getElem? (i := 2) rfl)) e0 (g := (mkF m 3 #[.val (.long q1), .second, .val (.int p2), .val (.int sv), .unset, .unset, .unset, .unset] [])) rfl (hb hby at_3) (by decide) (by decide)
  obtain ⟨b2, g2⟩ : ∃ z, z = h0.size := ⟨_, rfl⟩
  rw [← g2] at A2 D2 st2
  have F3 : Old Z n0 h2 := O0.ext E2
  have F4 : Fld Z h2 b2 "ledgerline/record/ProducerEpoch" "producerId" "J" (.long (0 : Int64)) := D2 (Or.inr (hw _ (List.mem_of_getElem? (i := 15) rfl))) (ty := .long) (by decide)
  have F5 : Fld Z h2 b2 "ledgerline/record/ProducerEpoch" "epoch" "S" (.int (0 : Int32)) := D2 (Or.inr (hw _ (List.mem_of_getElem? (i := 17) rfl))) (ty := .short) (by decide)
  have Z6 : n0 ≤ h2.size := Nat.le_trans Z0 E2.1
  have K7 : Keep h0 h2 [] := K0.ext E2
  have g_b2 : n0 ≤ b2 := Nat.le_trans Z0 (Nat.le_of_eq g2.symm)
  have sz_b2 : h0.size ≤ b2 := Nat.le_trans K0.1 (Nat.le_of_eq g2.symm)
  have P8 : ∀ t, Steps p.tables e below (T2.setTop (mkF m 6 #[.val (.long q1), .second, .val (.int p2), .val (.int sv), .unset, .unset, .unset, .unset] [(.ref b2)])) t → Steps p.tables e below (s₁.setTop (entryFrame m #[(.long q1), (.int p2)] maxLocals)) t := fun t k => P1 _ (st2 _ k)
  have P9 : ∀ t, Steps p.tables e below (T2.setTop (mkF m 9 #[.val (.long q1), .second, .val (.int p2), .val (.int sv), .unset, .unset, .unset, .unset] [(.int sv), (.long q1), (.ref b2), (.ref b2)])) t → Steps p.tables e below (s₁.setTop (entryFrame m #[(.long q1), (.int p2)] maxLocals)) t := by
    intro t k
    refine P8 _ ?_
    refine XS.dup X2.here hx rfl (hb hby at_6) rfl rfl ?_
    show Steps p.tables e below (T2.setTop (mkF m 7 #[.val (.long q1), .second, .val (.int p2), .val (.int sv), .unset, .unset, .unset, .unset] [(.ref b2), (.ref b2)])) _
    refine XT.lloadN X2.here hx rfl (hb hby at_7) rfl ?_
    show Steps p.tables e below (T2.setTop (mkF m 8 #[.val (.long q1), .second, .val (.int p2), .val (.int sv), .unset, .unset, .unset, .unset] [(.long q1), (.ref b2), (.ref b2)])) _
    refine XS.iloadN X2.here hx rfl (hb hby at_8) rfl ?_
    show Steps p.tables e below (T2.setTop (mkF m 9 #[.val (.long q1), .second, .val (.int p2), .val (.int sv), .unset, .unset, .unset, .unset] [(.int sv), (.long q1), (.ref b2), (.ref b2)])) _
    exact k
  obtain ⟨_, _, ⟨T10, L10, k10, n10⟩, -, X10, ⟨Lc10, hQ10, l10, y10, z10⟩, st10⟩ := X2.specialBack hx (y := (⟨"ledgerline/record/ProducerEpoch", "<init>", "(JS)V"⟩ : MethodName)) rfl hown (mvT hZ (hw _ (List.mem_of_getElem? (i := 3) rfl))) (mvT hZ (hw _ (List.mem_of_getElem? (i := 4) rfl))) (mvT hZ (hw _ (List.mem_of_getElem? (i := 5) rfl))) (by decide) (backOf (W := 1) (rm1 l Z a0 hw [] b2 q1 sv (.long (0 : Int64)) (.int (0 : Int32)) h2 n0 Z6 A2 F4 F5 g_b2) hZ (hw _ (List.mem_of_getElem? (i := 5) rfl)) (hw _ (List.mem_of_getElem? (i := 2) rfl)) (by decide) (by decide)) (g := (mkF m 9 #[.val (.long q1), .second, .val (.int p2), .val (.int sv), .unset, .unset, .unset, .unset] [(.int sv), (.long q1), (.ref b2), (.ref b2)])) rfl (by rw [hml]; rfl) (Steps.refl _) (a := b2) (argsL := [(.long q1), (.int sv)]) (rest := [(.ref b2)]) (lenOf pd_1 rfl) rfl (by show 2 * 0 + _ ≤ _; exact Nat.le_of_eq rfl) (hb hby at_9) (fun _ _ => ⟨rfl, e2, (by decide : 1 + 0 ≤ _), (by decide : 2 + 0 ≤ _)⟩)
  dsimp only [Pt.U, Pt.locs, Pt.cells, Pt.slots] at X10 l10 y10 z10 st10 hQ10
  subst l10 y10 z10
  obtain ⟨rfl, N10q, K10, E10, Q10_producerId, Q10_epoch⟩ := hQ10
  have F11 : Old Z n0 T10.heap := F3.keep K10 (allS g_b2 all0)
  have F12 : Exa Z T10.heap b2 "ledgerline/record/ProducerEpoch" := A2.keep K10
  have Z13 : n0 ≤ T10.heap.size := Nat.le_trans Z6 K10.1
  have K14 : Keep h0 T10.heap [] := K7.trans K10 (allS (Or.inr sz_b2) all0)
  have N10 := Fr.app N0 N10q
  have P15 : ∀ t, Steps p.tables e below (T10.setTop (mkF m 12 #[.val (.long q1), .second, .val (.int p2), .val (.int sv), .unset, .unset, .unset, .unset] [(.ref b2)])) t → Steps p.tables e below (s₁.setTop (entryFrame m #[(.long q1), (.int p2)] maxLocals)) t := fun t k => P9 _ (st10.trans k)
  have P16 : ∀ t, Steps p.tables e below (T10.setTop (mkF m 28 #[.val (.long q1), .second, .val (.int p2), .val (.int sv), .val (.ref b2), .unset, .unset, .unset] [(.int (if (XT.ushrL q1 (63 : Int32)) = (1 : Int64) then (1 : Int32) else (0 : Int32)))])) t → Steps p.tables e below (s₁.setTop (entryFrame m #[(.long q1), (.int p2)] maxLocals)) t := by
    intro t k
    refine P15 _ ?_
    refine XS.astore X10.here hx rfl (hb hby at_12) rfl rfl (l' := #[.val (.long q1), .second, .val (.int p2), .val (.int sv), .val (.ref b2), .unset, .unset, .unset]) rfl ?_
    show Steps p.tables e below (T10.setTop (mkF m 14 #[.val (.long q1), .second, .val (.int p2), .val (.int sv), .val (.ref b2), .unset, .unset, .unset] [])) _
    refine XT.lloadN X10.here hx rfl (hb hby at_14) rfl ?_
    show Steps p.tables e below (T10.setTop (mkF m 15 #[.val (.long q1), .second, .val (.int p2), .val (.int sv), .val (.ref b2), .unset, .unset, .unset] [(.long q1)])) _
    refine XS.bipush X10.here hx rfl (hb hby at_15) ?_
    show Steps p.tables e below (T10.setTop (mkF m 17 #[.val (.long q1), .second, .val (.int p2), .val (.int sv), .val (.ref b2), .unset, .unset, .unset] [(.int (63 : Int32)), (.long q1)])) _
    refine XT.lushr X10.here hx rfl (hb hby at_17) rfl ?_
    show Steps p.tables e below (T10.setTop (mkF m 18 #[.val (.long q1), .second, .val (.int p2), .val (.int sv), .val (.ref b2), .unset, .unset, .unset] [(.long (XT.ushrL q1 (63 : Int32)))])) _
    refine XT.lconst X10.here hx rfl (hb hby at_18) ?_
    show Steps p.tables e below (T10.setTop (mkF m 19 #[.val (.long q1), .second, .val (.int p2), .val (.int sv), .val (.ref b2), .unset, .unset, .unset] [(.long (1 : Int64)), (.long (XT.ushrL q1 (63 : Int32)))])) _
    refine XT.lcmp X10.here hx rfl (hb hby at_19) rfl ?_
    show Steps p.tables e below (T10.setTop (mkF m 20 #[.val (.long q1), .second, .val (.int p2), .val (.int sv), .val (.ref b2), .unset, .unset, .unset] [(.int (XT.cmpL (XT.ushrL q1 (63 : Int32)) (1 : Int64)))])) _
    by_cases c20 : (XT.ushrL q1 (63 : Int32)) = (1 : Int64)
    · try simp only [if_pos c20] at k
      refine XS.ifNo X10.here hx rfl (hb hby at_20) rfl (XT.ll_ne_f c20) ?_
      show Steps p.tables e below (T10.setTop (mkF m 23 #[.val (.long q1), .second, .val (.int p2), .val (.int sv), .val (.ref b2), .unset, .unset, .unset] [])) _
      refine XS.iconst X10.here hx rfl (hb hby at_23) ?_
      show Steps p.tables e below (T10.setTop (mkF m 24 #[.val (.long q1), .second, .val (.int p2), .val (.int sv), .val (.ref b2), .unset, .unset, .unset] [(.int (1 : Int32))])) _
      refine XS.goto X10.here hx rfl (pc0 := 24) (pc' := 28) rfl (hb hby at_24) (by decide) (by decide) ?_
      show Steps p.tables e below (T10.setTop (mkF m 28 #[.val (.long q1), .second, .val (.int p2), .val (.int sv), .val (.ref b2), .unset, .unset, .unset] [(.int (1 : Int32))])) _
      exact k
    · try simp only [if_neg c20] at k
      refine XS.ifYes X10.here hx rfl (pc0 := 20) (pc' := 27) rfl (hb hby at_20) rfl (XT.ll_ne_t c20) (by decide) (by decide) ?_
      show Steps p.tables e below (T10.setTop (mkF m 27 #[.val (.long q1), .second, .val (.int p2), .val (.int sv), .val (.ref b2), .unset, .unset, .unset] [])) _
      refine XS.iconst X10.here hx rfl (hb hby at_27) ?_
      show Steps p.tables e below (T10.setTop (mkF m 28 #[.val (.long q1), .second, .val (.int p2), .val (.int sv), .val (.ref b2), .unset, .unset, .unset] [(.int (0 : Int32))])) _
      exact k
  obtain ⟨yi, hyi⟩ : ∃ z : Int32, z = (if (XT.ushrL q1 (63 : Int32)) = (1 : Int64) then (1 : Int32) else (0 : Int32)) := ⟨_, rfl⟩
  rw [← hyi] at P16
  have P17 : ∀ t, Steps p.tables e below (T10.setTop (mkF m 42 #[.val (.long q1), .second, .val (.int p2), .val (.int sv), .val (.ref b2), .val (.int yi), .unset, .unset] [(.int (if (sv &&& (32768 : Int32)) = (0 : Int32) then (0 : Int32) else (1 : Int32)))])) t → Steps p.tables e below (s₁.setTop (entryFrame m #[(.long q1), (.int p2)] maxLocals)) t := by
    intro t k
    refine P16 _ ?_
    refine XS.istore X10.here hx rfl (hb hby at_28) rfl (l' := #[.val (.long q1), .second, .val (.int p2), .val (.int sv), .val (.ref b2), .val (.int yi), .unset, .unset]) rfl ?_
    show Steps p.tables e below (T10.setTop (mkF m 30 #[.val (.long q1), .second, .val (.int p2), .val (.int sv), .val (.ref b2), .val (.int yi), .unset, .unset] [])) _
    refine XS.iloadN X10.here hx rfl (hb hby at_30) rfl ?_
    show Steps p.tables e below (T10.setTop (mkF m 31 #[.val (.long q1), .second, .val (.int p2), .val (.int sv), .val (.ref b2), .val (.int yi), .unset, .unset] [(.int sv)])) _
    refine Jvm.Stand.ldcI X10 hx hown (mvT hZ (hw _ (List.mem_of_getElem? (i := 18) rfl))) rfl (hb hby at_31) ?_
    show Steps p.tables e below (T10.setTop (mkF m 33 #[.val (.long q1), .second, .val (.int p2), .val (.int sv), .val (.ref b2), .val (.int yi), .unset, .unset] [(.int (32768 : Int32)), (.int sv)])) _
    refine XS.iand X10.here hx rfl (hb hby at_33) rfl ?_
    show Steps p.tables e below (T10.setTop (mkF m 34 #[.val (.long q1), .second, .val (.int p2), .val (.int sv), .val (.ref b2), .val (.int yi), .unset, .unset] [(.int (sv &&& (32768 : Int32)))])) _
    by_cases c34 : (sv &&& (32768 : Int32)) = (0 : Int32)
    · try simp only [if_pos c34] at k
      refine XS.ifYes X10.here hx rfl (pc0 := 34) (pc' := 41) rfl (hb hby at_34) rfl (XT.i0_eq_t c34) (by decide) (by decide) ?_
      show Steps p.tables e below (T10.setTop (mkF m 41 #[.val (.long q1), .second, .val (.int p2), .val (.int sv), .val (.ref b2), .val (.int yi), .unset, .unset] [])) _
      refine XS.iconst X10.here hx rfl (hb hby at_41) ?_
      show Steps p.tables e below (T10.setTop (mkF m 42 #[.val (.long q1), .second, .val (.int p2), .val (.int sv), .val (.ref b2), .val (.int yi), .unset, .unset] [(.int (0 : Int32))])) _
      exact k
    · try simp only [if_neg c34] at k
      refine XS.ifNo X10.here hx rfl (hb hby at_34) rfl (XT.i0_eq_f c34) ?_
      show Steps p.tables e below (T10.setTop (mkF m 37 #[.val (.long q1), .second, .val (.int p2), .val (.int sv), .val (.ref b2), .val (.int yi), .unset, .unset] [])) _
      refine XS.iconst X10.here hx rfl (hb hby at_37) ?_
      show Steps p.tables e below (T10.setTop (mkF m 38 #[.val (.long q1), .second, .val (.int p2), .val (.int sv), .val (.ref b2), .val (.int yi), .unset, .unset] [(.int (1 : Int32))])) _
      refine XS.goto X10.here hx rfl (pc0 := 38) (pc' := 42) rfl (hb hby at_38) (by decide) (by decide) ?_
      show Steps p.tables e below (T10.setTop (mkF m 42 #[.val (.long q1), .second, .val (.int p2), .val (.int sv), .val (.ref b2), .val (.int yi), .unset, .unset] [(.int (1 : Int32))])) _
      exact k
  obtain ⟨ye, hye⟩ : ∃ z : Int32, z = (if (sv &&& (32768 : Int32)) = (0 : Int32) then (0 : Int32) else (1 : Int32)) := ⟨_, rfl⟩
  rw [← hye] at P17
  have P18 : ∀ t, Steps p.tables e below (T10.setTop (mkF m 59 #[.val (.long q1), .second, .val (.int p2), .val (.int sv), .val (.ref b2), .val (.int yi), .val (.int ye), .unset] [(.int (if yi = (0 : Int32) then (if ye = (0 : Int32) then (0 : Int32) else (1 : Int32)) else (1 : Int32)))])) t → Steps p.tables e below (s₁.setTop (entryFrame m #[(.long q1), (.int p2)] maxLocals)) t := by
    intro t k
    refine P17 _ ?_
    refine XS.istore X10.here hx rfl (hb hby at_42) rfl (l' := #[.val (.long q1), .second, .val (.int p2), .val (.int sv), .val (.ref b2), .val (.int yi), .val (.int ye), .unset]) rfl ?_
    show Steps p.tables e below (T10.setTop (mkF m 44 #[.val (.long q1), .second, .val (.int p2), .val (.int sv), .val (.ref b2), .val (.int yi), .val (.int ye), .unset] [])) _
    refine XS.iload X10.here hx rfl (hb hby at_44) rfl ?_
    show Steps p.tables e below (T10.setTop (mkF m 46 #[.val (.long q1), .second, .val (.int p2), .val (.int sv), .val (.ref b2), .val (.int yi), .val (.int ye), .unset] [(.int yi)])) _
    by_cases c46 : yi = (0 : Int32)
    · try simp only [if_pos c46] at k
      refine XS.ifNo X10.here hx rfl (hb hby at_46) rfl (XT.i0_ne_f c46) ?_
      show Steps p.tables e below (T10.setTop (mkF m 49 #[.val (.long q1), .second, .val (.int p2), .val (.int sv), .val (.ref b2), .val (.int yi), .val (.int ye), .unset] [])) _
      refine XS.iload X10.here hx rfl (hb hby at_49) rfl ?_
      show Steps p.tables e below (T10.setTop (mkF m 51 #[.val (.long q1), .second, .val (.int p2), .val (.int sv), .val (.ref b2), .val (.int yi), .val (.int ye), .unset] [(.int ye)])) _
      by_cases c51 : ye = (0 : Int32)
      · try simp only [if_pos c51] at k
        refine XS.ifYes X10.here hx rfl (pc0 := 51) (pc' := 58) rfl (hb hby at_51) rfl (XT.i0_eq_t c51) (by decide) (by decide) ?_
        show Steps p.tables e below (T10.setTop (mkF m 58 #[.val (.long q1), .second, .val (.int p2), .val (.int sv), .val (.ref b2), .val (.int yi), .val (.int ye), .unset] [])) _
        refine XS.iconst X10.here hx rfl (hb hby at_58) ?_
        show Steps p.tables e below (T10.setTop (mkF m 59 #[.val (.long q1), .second, .val (.int p2), .val (.int sv), .val (.ref b2), .val (.int yi), .val (.int ye), .unset] [(.int (0 : Int32))])) _
        exact k
      · try simp only [if_neg c51] at k
        refine XS.ifNo X10.here hx rfl (hb hby at_51) rfl (XT.i0_eq_f c51) ?_
        show Steps p.tables e below (T10.setTop (mkF m 54 #[.val (.long q1), .second, .val (.int p2), .val (.int sv), .val (.ref b2), .val (.int yi), .val (.int ye), .unset] [])) _
        refine XS.iconst X10.here hx rfl (hb hby at_54) ?_
        show Steps p.tables e below (T10.setTop (mkF m 55 #[.val (.long q1), .second, .val (.int p2), .val (.int sv), .val (.ref b2), .val (.int yi), .val (.int ye), .unset] [(.int (1 : Int32))])) _
        refine XS.goto X10.here hx rfl (pc0 := 55) (pc' := 59) rfl (hb hby at_55) (by decide) (by decide) ?_
        show Steps p.tables e below (T10.setTop (mkF m 59 #[.val (.long q1), .second, .val (.int p2), .val (.int sv), .val (.ref b2), .val (.int yi), .val (.int ye), .unset] [(.int (1 : Int32))])) _
        exact k
    · try simp only [if_neg c46] at k
      refine XS.ifYes X10.here hx rfl (pc0 := 46) (pc' := 54) rfl (hb hby at_46) rfl (XT.i0_ne_t c46) (by decide) (by decide) ?_
      show Steps p.tables e below (T10.setTop (mkF m 54 #[.val (.long q1), .second, .val (.int p2), .val (.int sv), .val (.ref b2), .val (.int yi), .val (.int ye), .unset] [])) _
      refine XS.iconst X10.here hx rfl (hb hby at_54) ?_
      show Steps p.tables e below (T10.setTop (mkF m 55 #[.val (.long q1), .second, .val (.int p2), .val (.int sv), .val (.ref b2), .val (.int yi), .val (.int ye), .unset] [(.int (1 : Int32))])) _
      refine XS.goto X10.here hx rfl (pc0 := 55) (pc' := 59) rfl (hb hby at_55) (by decide) (by decide) ?_
      show Steps p.tables e below (T10.setTop (mkF m 59 #[.val (.long q1), .second, .val (.int p2), .val (.int sv), .val (.ref b2), .val (.int yi), .val (.int ye), .unset] [(.int (1 : Int32))])) _
      exact k
  obtain ⟨yx, hyx⟩ : ∃ z : Int32, z = (if yi = (0 : Int32) then (if ye = (0 : Int32) then (0 : Int32) else (1 : Int32)) else (1 : Int32)) := ⟨_, rfl⟩
  rw [← hyx] at P18
  have P19 : ∀ t, Steps p.tables e below (T10.setTop (mkF m 63 #[.val (.long q1), .second, .val (.int p2), .val (.int sv), .val (.ref b2), .val (.int yi), .val (.int ye), .val (.int yx)] [(.ref b2)])) t → Steps p.tables e below (s₁.setTop (entryFrame m #[(.long q1), (.int p2)] maxLocals)) t := by
    intro t k
    refine P18 _ ?_
    refine XS.istore X10.here hx rfl (hb hby at_59) rfl (l' := #[.val (.long q1), .second, .val (.int p2), .val (.int sv), .val (.ref b2), .val (.int yi), .val (.int ye), .val (.int yx)]) rfl ?_
    show Steps p.tables e below (T10.setTop (mkF m 61 #[.val (.long q1), .second, .val (.int p2), .val (.int sv), .val (.ref b2), .val (.int yi), .val (.int ye), .val (.int yx)] [])) _
    refine XS.aload X10.here hx rfl (hb hby at_61) rfl rfl ?_
    show Steps p.tables e below (T10.setTop (mkF m 63 #[.val (.long q1), .second, .val (.int p2), .val (.int sv), .val (.ref b2), .val (.int yi), .val (.int ye), .val (.int yx)] [(.ref b2)])) _
    exact k
  obtain ⟨cq20, kq20, qa20, qb20, qc20⟩ := isOf hZ rfl E10
  obtain ⟨_, _, ⟨T20, L20, k20, n20⟩, -, X20, ⟨Lc20, hQ20, l20, y20, z20⟩, st20⟩ := X10.virtualBack hx (y := (⟨"ledgerline/record/ProducerEpoch", "isNone", "()Z"⟩ : MethodName)) (z := (⟨"ledgerline/record/ProducerEpoch", "isNone", "()Z"⟩ : MethodName)) hown (mvT hZ (hw _ (List.mem_of_getElem? (i := 19) rfl))) (mvT hZ (hw _ (List.mem_of_getElem? (i := 20) rfl))) (notFace_of_selects (args := #[]) (mvT hZ (hw _ (List.mem_of_getElem? (i := 22) rfl)))) (mvT hZ (hw _ (List.mem_of_getElem? (i := 22) rfl))) (mvT hZ (hw _ (List.mem_of_getElem? (i := 21) rfl))) (by decide) (backOf (W := 0) (rm3 l Z a0 hw [] b2 q1 (nar .short sv) T10.heap n0 Z13 Q10_producerId Q10_epoch) hZ (hw _ (List.mem_of_getElem? (i := 23) rfl)) (hw _ (List.mem_of_getElem? (i := 2) rfl)) (by decide) (by decide)) qa20 qc20 (g := (mkF m 63 #[.val (.long q1), .second, .val (.int p2), .val (.int sv), .val (.ref b2), .val (.int yi), .val (.int ye), .val (.int yx)] [(.ref b2)])) rfl (by rw [hml]; rfl) (Steps.refl _) (argsL := []) (rest := []) (lenOf pd_2 rfl) rfl (by show 2 * 0 + _ ≤ _; exact Nat.le_of_eq rfl) (hb hby at_63) (fun _ _ => ⟨rfl, rfl, (by decide : 1 + 0 ≤ _), (by decide : 2 + 0 ≤ _)⟩)
  dsimp only [Pt.U, Pt.locs, Pt.cells, Pt.slots] at X20 l20 y20 z20 st20 hQ20
  subst l20 y20 z20
  obtain ⟨rfl, N20q, e20⟩ := hQ20
  have N20 := Fr.app N10 N20q
  have P21 : ∀ t, Steps p.tables e below (T20.setTop (mkF m 66 #[.val (.long q1), .second, .val (.int p2), .val (.int sv), .val (.ref b2), .val (.int yi), .val (.int ye), .val (.int yx)] [(.int (if q1 < (0 : Int64) then (1 : Int32) else (if (nar .short sv) < (0 : Int32) then (1 : Int32) else (0 : Int32))))])) t → Steps p.tables e below (s₁.setTop (entryFrame m #[(.long q1), (.int p2)] maxLocals)) t := fun t k => P19 _ (st20.trans k)
  obtain ⟨r, hr⟩ : ∃ z : Int32, z = (if q1 < (0 : Int64) then (1 : Int32) else (if (nar .short sv) < (0 : Int32) then (1 : Int32) else (0 : Int32))) := ⟨_, rfl⟩
  rw [← hr] at P21
  have re : r = yx := own_plain hsv hyi hye hyx hr
  have P22 : ∀ t, Steps p.tables e below (T20.setTop (mkF m 71 #[.val (.long q1), .second, .val (.int p2), .val (.int sv), .val (.ref b2), .val (.int yi), .val (.int ye), .val (.int yx)] [])) t → Steps p.tables e below (s₁.setTop (entryFrame m #[(.long q1), (.int p2)] maxLocals)) t := by
    intro t k
    refine P21 _ ?_
    refine XS.iload X20.here hx rfl (hb hby at_66) rfl ?_
    show Steps p.tables e below (T20.setTop (mkF m 68 #[.val (.long q1), .second, .val (.int p2), .val (.int sv), .val (.ref b2), .val (.int yi), .val (.int ye), .val (.int yx)] [(.int yx), (.int r)])) _
    refine XS.icmpNo X20.here hx rfl (hb hby at_68) rfl (XT.ii_ne_f re) ?_
    show Steps p.tables e below (T20.setTop (mkF m 71 #[.val (.long q1), .second, .val (.int p2), .val (.int sv), .val (.ref b2), .val (.int yi), .val (.int ye), .val (.int yx)] [])) _
    exact k
  obtain ⟨T23, X23, e23, st23⟩ := getS2 X20 hx hZ hown (host := "") (Or.inl (hw _ (List.mem_of_getElem? (i := 24) rfl))) Via.refl e20 (S_NONE.ext F11.2) (g := (mkF m 71 #[.val (.long q1), .second, .val (.int p2), .val (.int sv), .val (.ref b2), .val (.int yi), .val (.int ye), .val (.int yx)] [])) rfl (hb hby at_71)
  have P24 : ∀ t, Steps p.tables e below (T23.setTop (mkF m 74 #[.val (.long q1), .second, .val (.int p2), .val (.int sv), .val (.ref b2), .val (.int yi), .val (.int ye), .val (.int yx)] [(.ref w_NONE)])) t → Steps p.tables e below (s₁.setTop (entryFrame m #[(.long q1), (.int p2)] maxLocals)) t := fun t k => P22 _ (st23 _ k)
  obtain ⟨cq25, kq25, qa25, qb25, qc25⟩ := isOf hZ e23 (E_NONE.ext F11.2)
  obtain ⟨_, _, ⟨T25, L25, k25, n25⟩, -, X25, ⟨Lc25, hQ25, l25, y25, z25⟩, st25⟩ := X23.virtualBack hx (y := (⟨"ledgerline/record/ProducerEpoch", "isNone", "()Z"⟩ : MethodName)) (z := (⟨"ledgerline/record/ProducerEpoch", "isNone", "()Z"⟩ : MethodName)) hown (mvT hZ (hw _ (List.mem_of_getElem? (i := 19) rfl))) (mvT hZ (hw _ (List.mem_of_getElem? (i := 20) rfl))) (notFace_of_selects (args := #[]) (mvT hZ (hw _ (List.mem_of_getElem? (i := 22) rfl)))) (mvT hZ (hw _ (List.mem_of_getElem? (i := 22) rfl))) (mvT hZ (hw _ (List.mem_of_getElem? (i := 21) rfl))) (by decide) (backOf (W := 0) (rm4 l Z a0 hw [] w_NONE (-1 : Int64) T10.heap n0 Z13 (F_NONE.ext F11.2) (by decide)) hZ (hw _ (List.mem_of_getElem? (i := 23) rfl)) (hw _ (List.mem_of_getElem? (i := 2) rfl)) (by decide) (by decide)) qa25 qc25 (g := (mkF m 74 #[.val (.long q1), .second, .val (.int p2), .val (.int sv), .val (.ref b2), .val (.int yi), .val (.int ye), .val (.int yx)] [(.ref w_NONE)])) rfl (by rw [hml]; rfl) (Steps.refl _) (argsL := []) (rest := []) (lenOf pd_2 rfl) rfl (by show 2 * 0 + _ ≤ _; exact Nat.le_of_eq rfl) (hb hby at_74) (fun _ _ => ⟨rfl, e23, (by decide : 1 + 0 ≤ _), (by decide : 2 + 0 ≤ _)⟩)
  dsimp only [Pt.U, Pt.locs, Pt.cells, Pt.slots] at X25 l25 y25 z25 st25 hQ25
  subst l25 y25 z25
  obtain ⟨rfl, N25q, e25⟩ := hQ25
  have N25 := Fr.app N20 N25q
  have P26 : ∀ t, Steps p.tables e below (T25.setTop (mkF m 77 #[.val (.long q1), .second, .val (.int p2), .val (.int sv), .val (.ref b2), .val (.int yi), .val (.int ye), .val (.int yx)] [(.int (1 : Int32))])) t → Steps p.tables e below (s₁.setTop (entryFrame m #[(.long q1), (.int p2)] maxLocals)) t := fun t k => P24 _ (st25.trans k)
  have P27 : ∀ t, Steps p.tables e below (T25.setTop (mkF m 85 #[.val (.long q1), .second, .val (.int p2), .val (.int sv), .val (.ref b2), .val (.int yi), .val (.int ye), .val (.int yx)] [(.int (1 : Int32))])) t → Steps p.tables e below (s₁.setTop (entryFrame m #[(.long q1), (.int p2)] maxLocals)) t := by
    intro t k
    refine P26 _ ?_
    refine XS.ifNo X25.here hx rfl (hb hby at_77) rfl (XT.i0_eq_f (by decide)) ?_
    show Steps p.tables e below (T25.setTop (mkF m 80 #[.val (.long q1), .second, .val (.int p2), .val (.int sv), .val (.ref b2), .val (.int yi), .val (.int ye), .val (.int yx)] [])) _
    refine XS.iconst X25.here hx rfl (hb hby at_80) ?_
    show Steps p.tables e below (T25.setTop (mkF m 81 #[.val (.long q1), .second, .val (.int p2), .val (.int sv), .val (.ref b2), .val (.int yi), .val (.int ye), .val (.int yx)] [(.int (1 : Int32))])) _
    refine XS.goto X25.here hx rfl (pc0 := 81) (pc' := 85) rfl (hb hby at_81) (by decide) (by decide) ?_
    show Steps p.tables e below (T25.setTop (mkF m 85 #[.val (.long q1), .second, .val (.int p2), .val (.int sv), .val (.ref b2), .val (.int yi), .val (.int ye), .val (.int yx)] [(.int (1 : Int32))])) _
    exact k
  obtain ⟨fs, hr, hrun, hended, hW, hsame⟩ := X25.leave (v := some (.int (1 : Int32))) (fun h => by rw [Bd.returns] at h; cases h)
  refine ⟨_, _, P27 _ ?_, hrun, hended, _, _, rfl, ?_, ⟨_, rfl⟩, hW, hsame.mono (by decide) (by decide)⟩
  · exact retN X25 hx (t := .boolean) Bd.returns (by simp) (hb hby at_85) hr
  · show Q0 Z q1 p2 w_NONE h0 n0 _ T25.heap _
    rw [e25]
    exact ⟨rfl, N25⟩
set_option maxRecDepth 65536 in
set_option maxHeartbeats 40000000 in
theorem comes_1 {Post : Tables → Env → Array Value → State → Outcome → State → Prop} (hpost : ∀ tb e args s v u, (limb_1_1.after args s (.returned v) u = true ∧ limb_1_2.after args s (.returned v) u = true ∧ True) → FrameEnd s (.returned v) u (Jvm.fieldLocs frame_1_writes args s ++ Jvm.arrayLocs frame_1_arrays args s ++ Jvm.staticLocs frame_1_statics s) 16 128 → Post tb e args s (.returned v) u) :
    ArmFor flags0 classFile x code maxLocals ret World_1 tables_1 room_1 Calls_1 rest_1 Pre_1 Post := by
  intro l hfl _ _ p e ha hc hk s m args below hf hA hF happ hP
  obtain ⟨hcalls, hrest, hpre⟩ := hP
  obtain ⟨-, -, -, hnamed, -, -, -, hat⟩ := (Spec.applies_iff hf).mp happ
  obtain ⟨hg, hn⟩ := and_e (Cond.before_iff.mp (show (Jvm.Cond.and given_1 narrow_1).before args s = true from hpre))
  obtain ⟨g1, g2⟩ := and_e hg
  obtain ⟨g3, g4⟩ := and_e g2
  obtain ⟨w0, w1, rfl⟩ : ∃ w0 w1 : Value, args = #[w0, w1] := by
    have hs : args.size = 2 := by simpa [Cond.value, given_1] using g1
    obtain ⟨L⟩ := args
    match L, hs with
    | [w0, w1], _ => exact ⟨w0, w1, rfl⟩
  have hw := fun d (hd : d ∈ tables_1) => atoms_spec (ws := Jvm.Cond.code x code maxLocals ret :: tables_1) hat d (List.mem_cons_of_mem _ hd)
  have hfit : Fit s := fun {y c} hc i hi => by
    obtain ⟨ha, rfl⟩ := Array.getElem?_eq_some_iff.mp hc
    have q := List.all_eq_true.mp ((Array.all_eq_true_iff_forall_mem.mp hF) _ (Array.getElem_mem ha)) i (List.mem_range.mpr hi)
    simpa [Array.getElem?_eq_getElem hi] using q
  obtain ⟨i0, ei0⟩ := isL_v g3
  obtain rfl : w0 = (.long i0) := Option.some.inj ei0
  obtain ⟨i1, ei1⟩ := is_v g4
  obtain rfl : w1 = (.int i1) := Option.some.inj ei1
  obtain ⟨t1, u1⟩ := and_e hn
  obtain ⟨w_NONE, ev_NONE⟩ := exa_v t1
  have E_NONE := Exa.start ev_NONE t1
  have S_NONE := Sta.start ev_NONE (Or.inr ⟨(hw _ (List.mem_of_getElem? (i := 2) rfl)), (hw _ (List.mem_of_getElem? (i := 25) rfl))⟩)
  have F_NONE_producerId := own_fldJ ev_NONE u1
  obtain ⟨n, o, h1, h2, h3, _, L, rfl, ⟨rfl, N⟩, hq⟩ := rm0 l s _ hw tables_1 i0 i1 w_NONE s.heap s.heap.size (Nat.le_refl _) (Old.start s) S_NONE E_NONE F_NONE_producerId p e ha hc hk s m _ below hf ((Spec.applies_iff_loose hf).mp happ).1 ⟨rfl, State.Warmed39.refl s, rfl⟩ trivial
  refine ⟨n, _, h1, h2, h3, hpost _ _ _ _ _ _ ⟨Cond.after_iff.mpr rfl, Cond.after_iff.mpr (eq_i res_at (Term.int_eval (1)) rfl), trivial⟩ ⟨hq.1, hq.2.1, (hq.2.2.sift fun y hy => Or.inr (N y hy)).mono (by decide) (by decide)⟩⟩
theorem main_1_1 : Claimed_1_1 := comes_1 fun _ _ _ _ _ _ h hF => ⟨h.1, hF⟩
theorem main_1_2 : Claimed_1_2 := comes_1 fun _ _ _ _ _ _ h hF => ⟨h.2.1, hF⟩
end Jvm.Pilot.@@N@@
namespace Jvm.Pilot.@@N@@
open Jvm Jvm.ClassFile Sem Op Lib Jvm.Free Jvm.Stand Jvm.Pilot.@@N@@.Jvm.D
/-! MADE BY PROGRAM (witnessworld.py) out of the Statement's table words and the real class files: 10 classes; the members and pool entries that the words name. The judged class is class 1, her method 1. -/
namespace start1
open Jvm.ClassFile
def u (s : String) : CpInfo := .utf8 (stringToUtf16 s)
/-- a pool by its gaps: so many unusable entries, then the entry; so many at the end -/
def gap : Nat → List CpInfo → List CpInfo
  | 0, r => r
  | n + 1, r => .unusable :: gap n r
def poolList (es : List (Nat × CpInfo)) (last : Nat) : List CpInfo := es.foldr (fun e r => gap e.1 (e.2 :: r)) (gap last [])
def pool (es : List (Nat × CpInfo)) (last : Nat) : Array CpInfo := ⟨poolList es last⟩
def fileOf (pool : Array CpInfo) (this : Nat) (attrs : Array Attribute := #[]) (ms : Array MethodInfo := #[]) (fl : Nat := 33) (sup : Nat := 0) (ifs : Array Nat := #[]) (fds : Array FieldInfo := #[]) : ClassFile where
  minorVersion := 0
  majorVersion := 65
  constantPool := pool
  accessFlags := fl
  thisClass := this
  superClass := sup
  interfaces := ifs
  fields := fds
  methods := ms
  attributes := attrs
def plain (name : String) (sup : Option ClassId) : Class where
  name := name
  kind := .ordinary
  loader := none
  accessFlags := 33
  super := sup
  interfaces := #[]
  cf := none
  fields := #[]
  methods := #[]
  instanceTypes := #[]
  staticTypes := #[]
  resolved := #[]
  callSites := []
  init := .initialized
  statics := none
  mirror := none

def pool0 : Array CpInfo := pool [(5, u "<init>"), (0, u "()V"), (1, .class_ 10), (1, u "java/lang/Object")] 113

def k0c0 : Code := { maxStack := 0, maxLocals := 1, code := object_method_1_code, exceptionTable := #[], attributes := #[] }
def k0m0 : Method := { name := "<init>", desc := "()V", sig := { parameters := [], returnType := none }, accessFlags := 1, code := some k0c0 }
/-- java/lang/Object -/
def k0 : Class := { plain "java/lang/Object" none with
  accessFlags := 33
  interfaces := #[]
  cf := some (fileOf pool0 8 #[] #[{ accessFlags := 1, nameIndex := 5, descriptorIndex := 6, attributes := #[] }] 33 0 #[] #[])
  fields := #[]
  methods := #[k0m0]
  instanceTypes := #[]
  staticTypes := #[]
  resolved := Array.replicate 124 none
  statics := none }

def pool1 : Array CpInfo := pool [(2, .class_ 4), (1, u "java/lang/Object"), (0, u "<init>"), (0, u "()V"), (0, .class_ 8), (0, u "ledgerline/record/ProducerEpoch"), (0, .methodref 7 10), (0, .nameAndType 5 11), (0, u "(JS)V"), (0, .integer 32768), (0, .methodref 7 14), (0, .nameAndType 15 16), (0, u "isNone"), (0, u "()Z"), (0, .fieldref 7 18), (0, .nameAndType 19 20), (0, u "NONE"), (0, u "Lledgerline/record/ProducerEpoch;"), (0, .class_ 22), (0, u "ledgerline/record/ProducerEpochIsNonePinLaw"), (2, u "law"), (0, u "(JI)Z")] 3

def k1m0 : Method := { name := "<init>", desc := "()V", sig := { parameters := [], returnType := none }, accessFlags := 2, code := none }
def k1c1 : Code := { maxStack := 5, maxLocals := 8, code := code, exceptionTable := #[], attributes := #[] }
def k1m1 : Method := { name := "law", desc := "(JI)Z", sig := { parameters := [.long, .int], returnType := some .boolean }, accessFlags := 9, code := some k1c1 }
/-- ledgerline/record/ProducerEpochIsNonePinLaw -/
def k1 : Class := { plain "ledgerline/record/ProducerEpochIsNonePinLaw" (some 0) with
  accessFlags := 49
  interfaces := #[]
  cf := some (fileOf pool1 21 #[] #[{ accessFlags := 2, nameIndex := 5, descriptorIndex := 6, attributes := #[] }, { accessFlags := 9, nameIndex := 25, descriptorIndex := 26, attributes := #[] }] 49 2 #[] #[])
  fields := #[]
  methods := #[k1m0, k1m1]
  instanceTypes := #[]
  staticTypes := #[]
  resolved := Array.replicate 30 none
  statics := none }

def pool2 : Array CpInfo := pool [(1, .methodref 2 3), (0, .class_ 4), (0, .nameAndType 5 6), (0, u "java/lang/Object"), (0, u "<init>"), (0, u "()V"), (0, .class_ 8), (0, u "java/lang/Record")] 13

def k2c0 : Code := { maxStack := 1, maxLocals := 1, code := jdk_30_method_1_code, exceptionTable := #[], attributes := #[] }
def k2m0 : Method := { name := "<init>", desc := "()V", sig := { parameters := [], returnType := none }, accessFlags := 4, code := some k2c0 }
/-- java/lang/Record -/
def k2 : Class := { plain "java/lang/Record" (some 0) with
  accessFlags := 1057
  interfaces := #[]
  cf := some (fileOf pool2 7 #[] #[{ accessFlags := 4, nameIndex := 5, descriptorIndex := 6, attributes := #[] }] 1057 2 #[] #[])
  fields := #[]
  methods := #[k2m0]
  instanceTypes := #[]
  staticTypes := #[]
  resolved := Array.replicate 22 none
  statics := none }

def pool3 : Array CpInfo := pool [(1, .methodref 2 3), (0, .class_ 4), (0, .nameAndType 5 6), (0, u "java/lang/Record"), (0, u "<init>"), (0, u "()V"), (0, .fieldref 8 9), (0, .class_ 10), (0, .nameAndType 11 12), (0, u "ledgerline/record/ProducerEpoch"), (0, u "producerId"), (0, u "J"), (0, .fieldref 8 14), (0, .nameAndType 15 16), (0, u "epoch"), (0, u "S"), (16, u "(JS)V"), (2, u "NONE"), (0, u "Lledgerline/record/ProducerEpoch;"), (3, u "isNone"), (0, u "()Z")] 37

def k3c0 : Code := { maxStack := 3, maxLocals := 4, code := prog_138_method_1_code, exceptionTable := #[], attributes := #[] }
def k3m0 : Method := { name := "<init>", desc := "(JS)V", sig := { parameters := [.long, .short], returnType := none }, accessFlags := 1, code := some k3c0 }
def k3c1 : Code := { maxStack := 4, maxLocals := 1, code := prog_138_method_2_code, exceptionTable := #[], attributes := #[] }
def k3m1 : Method := { name := "isNone", desc := "()Z", sig := { parameters := [], returnType := some .boolean }, accessFlags := 1, code := some k3c1 }
/-- ledgerline/record/ProducerEpoch -/
def k3 : Class := { plain "ledgerline/record/ProducerEpoch" (some 2) with
  accessFlags := 49
  interfaces := #[]
  cf := some (fileOf pool3 8 #[] #[{ accessFlags := 1, nameIndex := 5, descriptorIndex := 33, attributes := #[] }, { accessFlags := 1, nameIndex := 41, descriptorIndex := 42, attributes := #[] }] 49 2 #[] #[{ accessFlags := 18, nameIndex := 11, descriptorIndex := 12, attributes := #[] }, { accessFlags := 18, nameIndex := 15, descriptorIndex := 16, attributes := #[] }, { accessFlags := 25, nameIndex := 36, descriptorIndex := 37, attributes := #[] }])
  fields := #[{ name := "producerId", type := .long, accessFlags := 18, slot := 0, constantValue := 0 }, { name := "epoch", type := .short, accessFlags := 18, slot := 1, constantValue := 0 }, { name := "NONE", type := (.object "ledgerline/record/ProducerEpoch"), accessFlags := 25, slot := 0, constantValue := 0 }]
  methods := #[k3m0, k3m1]
  instanceTypes := #[.long, .short]
  staticTypes := #[(.object "ledgerline/record/ProducerEpoch")]
  resolved := Array.replicate 80 none
  statics := some 0 }

def pool4 : Array CpInfo := pool [(1, u "java/lang/Cloneable"), (0, .class_ 1), (0, u "java/lang/Object"), (0, .class_ 3)] 3

/-- java/lang/Cloneable -/
def k4 : Class := { plain "java/lang/Cloneable" (some 0) with
  accessFlags := 1537
  interfaces := #[]
  cf := some (fileOf pool4 2 #[] #[] 1537 4 #[] #[])
  fields := #[]
  methods := #[]
  instanceTypes := #[]
  staticTypes := #[]
  resolved := Array.replicate 8 none
  statics := none }

def pool5 : Array CpInfo := pool [(1, u "java/io/Serializable"), (0, .class_ 1), (0, u "java/lang/Object"), (0, .class_ 3)] 3

/-- java/io/Serializable -/
def k5 : Class := { plain "java/io/Serializable" (some 0) with
  accessFlags := 1537
  interfaces := #[]
  cf := some (fileOf pool5 2 #[] #[] 1537 4 #[] #[])
  fields := #[]
  methods := #[]
  instanceTypes := #[]
  staticTypes := #[]
  resolved := Array.replicate 8 none
  statics := none }

/-- the primitive byte -/
def k6 : Class := { plain "byte" none with kind := .primitive 'B', accessFlags := 0x411 }
/-- [B -/
def k7 : Class := { plain "[B" (some 0) with kind := .array 6 .byte, interfaces := #[4, 5], accessFlags := 1041 }

/-- the primitive int -/
def k8 : Class := { plain "int" none with kind := .primitive 'I', accessFlags := 0x411 }
/-- [I -/
def k9 : Class := { plain "[I" (some 0) with kind := .array 8 .int, interfaces := #[4, 5], accessFlags := 1041 }

def heap : Heap := #[{ cls := 3, slots := #[.ref 1], vm := .statics 3 },
  { cls := 3, slots := #[.long (-1), .int (-1)], vm := .none }]
def classes : Array Class := #[k0, k1, k2, k3, k4, k5, k6, k7, k8, k9]
def interned : List (Array UInt16 × Addr) := []
def slotsUsed : Nat := 3
def theMethod : MethodId := ⟨1, 1⟩
def args0 : Array Value := #[.long 5, .int 7]
def aboutOver (below : List Frame) : State where
  vm := { classes := classes, interned := interned.toArray }
  heap := heap
  slotsUsed := slotsUsed
  threads := #[{ frames := .invoking theMethod args0 :: below }]
def below0 : List Frame := [.native { method := ⟨0, 0⟩, args := #[] }]
def about1 : State := aboutOver below0
def p0 : Program := .bare "" "" ""
def e0 : Env := launch0.env 0 0 0
theorem w_frames : about1.frames = Frame.invoking theMethod args0 :: below0 := rfl
set_option maxRecDepth 65536 in
theorem w_args : argsFit about1.vm theMethod args0 = true := by decide +kernel
set_option maxRecDepth 65536 in
theorem w_heap : heapFits about1 = true := by decide +kernel
set_option maxRecDepth 65536 in
theorem w_runnable : about1.curStatus? = some .runnable := by decide +kernel
set_option maxRecDepth 65536 in
theorem w_alone : about1.alone = true := by decide +kernel
set_option maxRecDepth 65536 in
theorem w_named : about1.methodNamed? x = some theMethod := by decide +kernel
set_option maxRecDepth 65536 in
theorem w_hears : about1.hears theMethod below0 = true := by decide +kernel
set_option maxRecDepth 65536 in
theorem w_ripe : about1.ripe theMethod args0 below0 = true := by decide +kernel
theorem w_running : about1.status = .running := rfl
set_option maxRecDepth 65536 in
theorem w_room : about1.hasRoom e0.platform room_1 = true :=
  launch0.hasRoom_least _ room_1 (by decide +kernel) (by decide +kernel) (by decide +kernel) (by decide +kernel) (by decide +kernel) (by decide +kernel)
theorem allAtoms_all (ts : List Jvm.Cond) (a : Array Jvm.Value) (st : Jvm.State) : (allAtoms ts).before a st = ts.all (fun c => c.before a st) := by
  induction ts with
  | nil => rfl
  | cons c t ih =>
    show (Jvm.Cond.and c (allAtoms t)).before a st = _
    rw [Jvm.Cond.before_and, ih, List.all_cons]
def words1 : List Jvm.Cond := Jvm.Cond.code x code maxLocals ret :: tables_1
/-- a 'code' word, met by the world's own term for the bytes: nothing is compared byte by byte -/
theorem code_word {y : MethodName} {bytes : ByteArray} {mx : Nat} {rt : Option FieldType} {a : Array Value} {s : State} {m : MethodId} {meth : Method} {c : Code} (h1 : s.methodNamed? y = some m) (h2 : s.vm.method? m = some meth) (h3 : meth.code = some c) (h4 : c.code = bytes)
    (h5 : (c.maxLocals == mx && c.exceptionTable.isEmpty && decide (c.maxStack ≤ mostOperands) && decide (meth.sig.returnType = rt) && !meth.locks && decide (parseMethodDescriptor y.desc = some meth.sig)) = true) : (Jvm.Cond.code y bytes mx rt).before a s = true := by
  simp only [Bool.and_eq_true, beq_iff_eq, Bool.not_eq_true', decide_eq_true_eq] at h5
  obtain ⟨⟨⟨⟨⟨g1, g2⟩, g3⟩, g4⟩, g5⟩, g6⟩ := h5
  simp [Cond.before, Cond.holds, Cond.value, h1, h2, h3, h4, g1, g2, g3, g4, g5, g6]
def isCode : Jvm.Cond → Bool
  | .code _ _ _ _ => true
  | _ => false
theorem all_split {L : List Jvm.Cond} {P : Jvm.Cond → Bool} (h1 : L.all (fun c => isCode c || P c) = true) (h2 : ∀ c ∈ L.filter isCode, P c = true) : L.all P = true := by
  refine List.all_eq_true.mpr fun c hc => ?_
  have h := List.all_eq_true.mp h1 c hc
  rcases Bool.eq_false_or_eq_true (isCode c) with hi | hi
  · exact h2 c (List.mem_filter.mpr ⟨hc, hi⟩)
  · simpa [hi] using h
set_option maxRecDepth 65536 in
theorem w_c0 : (Jvm.Cond.code x code maxLocals ret).before args0 about1 = true := code_word (m := ⟨1, 1⟩) (meth := k1m1) (c := k1c1) (by decide +kernel) rfl rfl rfl (by decide +kernel)
set_option maxRecDepth 65536 in
theorem w_c1 : (Jvm.Cond.code ({ cls := "ledgerline/record/ProducerEpoch", name := "<init>", desc := "(JS)V" } : Jvm.MethodName) prog_138_method_1_code (4 : Nat) (Option.none : Option Jvm.ClassFile.FieldType)).before args0 about1 = true := code_word (m := ⟨3, 0⟩) (meth := k3m0) (c := k3c0) (by decide +kernel) rfl rfl rfl (by decide +kernel)
set_option maxRecDepth 65536 in
theorem w_c2 : (Jvm.Cond.code ({ cls := "java/lang/Record", name := "<init>", desc := "()V" } : Jvm.MethodName) jdk_30_method_1_code (1 : Nat) (Option.none : Option Jvm.ClassFile.FieldType)).before args0 about1 = true := code_word (m := ⟨2, 0⟩) (meth := k2m0) (c := k2c0) (by decide +kernel) rfl rfl rfl (by decide +kernel)
set_option maxRecDepth 65536 in
theorem w_c3 : (Jvm.Cond.code ({ cls := "java/lang/Object", name := "<init>", desc := "()V" } : Jvm.MethodName) object_method_1_code (1 : Nat) (Option.none : Option Jvm.ClassFile.FieldType)).before args0 about1 = true := code_word (m := ⟨0, 0⟩) (meth := k0m0) (c := k0c0) (by decide +kernel) rfl rfl rfl (by decide +kernel)
set_option maxRecDepth 65536 in
theorem w_c4 : (Jvm.Cond.code ({ cls := "ledgerline/record/ProducerEpoch", name := "isNone", desc := "()Z" } : Jvm.MethodName) prog_138_method_2_code (1 : Nat) (Option.some Jvm.ClassFile.FieldType.boolean)).before args0 about1 = true := code_word (m := ⟨3, 1⟩) (meth := k3m1) (c := k3c1) (by decide +kernel) rfl rfl rfl (by decide +kernel)
def codes1 : List Jvm.Cond := [Jvm.Cond.code x code maxLocals ret, Jvm.Cond.code ({ cls := "ledgerline/record/ProducerEpoch", name := "<init>", desc := "(JS)V" } : Jvm.MethodName) prog_138_method_1_code (4 : Nat) (Option.none : Option Jvm.ClassFile.FieldType), Jvm.Cond.code ({ cls := "java/lang/Record", name := "<init>", desc := "()V" } : Jvm.MethodName) jdk_30_method_1_code (1 : Nat) (Option.none : Option Jvm.ClassFile.FieldType), Jvm.Cond.code ({ cls := "java/lang/Object", name := "<init>", desc := "()V" } : Jvm.MethodName) object_method_1_code (1 : Nat) (Option.none : Option Jvm.ClassFile.FieldType), Jvm.Cond.code ({ cls := "ledgerline/record/ProducerEpoch", name := "isNone", desc := "()Z" } : Jvm.MethodName) prog_138_method_2_code (1 : Nat) (Option.some Jvm.ClassFile.FieldType.boolean)]
set_option maxRecDepth 65536 in
theorem codes_eq : words1.filter isCode = codes1 := rfl
theorem w_codes : ∀ c ∈ words1.filter isCode, c.before args0 about1 = true := by
  rw [codes_eq]
  intro c hc
  simp only [codes1, List.mem_cons, List.not_mem_nil, or_false] at hc
  rcases hc with rfl | rfl | rfl | rfl | rfl
  · exact w_c0
  · exact w_c1
  · exact w_c2
  · exact w_c3
  · exact w_c4
set_option maxRecDepth 65536 in
theorem w_t1 : (words1.take 24).all (fun c => isCode c || c.before args0 about1) = true := by decide +kernel
set_option maxRecDepth 65536 in
theorem w_t2 : (words1.drop 24).all (fun c => isCode c || c.before args0 about1) = true := by decide +kernel
theorem w_tables : (allAtoms (Jvm.Cond.code x code maxLocals ret :: tables_1)).before args0 about1 = true := by
  rw [allAtoms_all]
  show words1.all (fun c => c.before args0 about1) = true
  refine all_split ?_ w_codes
  rw [← List.take_append_drop 24 words1, List.all_append, w_t1, w_t2]
  rfl
set_option maxRecDepth 65536 in
theorem w_case : (Jvm.Cond.and given_1 narrow_1).before args0 about1 = true := by decide +kernel
theorem w_applies : (headSpec (Jvm.Cond.code x code maxLocals ret :: tables_1) room_1).applies x e0.platform about1 = true :=
  (Spec.applies_iff w_frames).mpr ⟨w_running, w_runnable, w_alone, w_named, w_hears, w_ripe, w_room, w_tables⟩
theorem atStart : AtStart classFile x code maxLocals ret World_1 tables_1 room_1 Calls_1 rest_1 Pre_1 launch0 p0 e0 about1 theMethod args0 below0 :=
  ⟨lists_1, trivial, launch0.admits_env _ _ _, launch0.least_env, fairChoices_fair.cas, fairChoices_fair.clock, w_frames, w_args, w_heap, w_applies, trivial, trivial, w_case⟩
end start1
theorem witness_1 : WitnessClaimed_1 := ⟨start1.p0, start1.e0, start1.about1, start1.theMethod, start1.args0, start1.below0, start1.atStart⟩
end Jvm.Pilot.@@N@@

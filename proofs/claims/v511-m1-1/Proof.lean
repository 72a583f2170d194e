import JvmDerived
import JvmDerived.Pilot.@@N@@Statement
import JvmDerived.Pilot.@@N@@Code
set_option linter.unusedVariables false
set_option linter.unusedSimpArgs false
namespace Jvm.RoadKit
open Sem ClassFile Op Lib Jvm.Stand Jvm.Free Jvm.LawKit
section New
variable {p : Program} {l : Launch} {e : Env} {R : Room} {s : State} {m : MethodId} {args : Array Value} {below : List Frame} {meth : Method} {c : Code} {T : State} {locs : List Loc} {cells slots : Nat}
theorem retI (X : Stand p l e R s m args below meth c T locs cells slots) (hx : p.tables.exec = Jvm.exec) {pc : Nat} {Ls : Array Slot} {z : Int32} {rest : List Value} (hret : meth.sig.returnType = some .int) (hd : decode c.code pc = .ok (.ireturn, 1)) {fs : List Frame}
    (hl : ∀ (f : JFrame) (acts : List Action), f.method = m → f.locked = none → f.entered = [] → (doReturn e (T.setTop f) acts (some (.int z))).1 = T.setFrames fs) : Steps p.tables e below (T.setTop (mkF m pc Ls (.int z :: rest))) (T.setFrames fs) := by
  have hm' : T.vm.method? m = some meth := X.method'
  have hn : narrow .int (.int z) = .int z := rfl
  show Steps p.tables e below (T.setTop { method := m, pc := pc, locals := Ls, stack := _ :: rest, locked := none }) _
  jvm_step X.here [X.here.top, hx, hd, hm', hret, hn]
  first | (intro acts; rw [hl _ acts rfl rfl rfl]) | rw [hl _ _ rfl rfl rfl]
  exact Steps.refl _
end New
end Jvm.RoadKit
namespace Jvm.Pilot.@@N@@
open Jvm Jvm.ClassFile Sem Op Lib Jvm.Free Jvm.Stand Jvm.LawKit Jvm.RoadKit Bundle Jvm.Pilot.@@N@@.Jvm.D

theorem own_nb {c : Prop} [Decidable c] : nar .boolean (if c then (1 : Int32) else (0 : Int32)) = (if c then (1 : Int32) else (0 : Int32)) := by
  by_cases h : c
  · rw [if_pos h]; rfl
  · rw [if_neg h]; rfl
theorem own_n1 : nar .boolean (1 : Int32) = (1 : Int32) := rfl
theorem own_n0 : nar .boolean (0 : Int32) = (0 : Int32) := rfl

theorem own_pos {x y : Int32} (h : x = y &&& (2147483647 : Int32)) : ¬ x < (0 : Int32) := by
  have := c_mask y 2147483647 31 (by decide) (by decide)
  rw [← h] at this
  rw [Int32.lt_iff_toInt_lt]
  show ¬ x.toInt < 0
  omega
theorem own_rem {x y d : Int32} {D : Int} (h : x = (y &&& (2147483647 : Int32)) % d) (hd : d.toInt = D) (hD : 0 < D) : 0 ≤ x.toInt ∧ x.toInt < D := by
  have h1 := c_mask y 2147483647 31 (by decide) (by decide)
  have h2 := c_iremV (y &&& 2147483647) d
  rw [← h, hd] at h2
  have h3 := h2.1 (by omega) hD
  omega

theorem own_fldI {args : Array Value} {s : State} {t : Jvm.Term} {x : Addr} {C n d : String} {k : Int32} (ht : t.eval args s none [] s = some (.ref x)) (h : (Jvm.Cond.eq (Jvm.Term.field t C n d) (Jvm.Term.int k)).value args s none s [] = some true) : Fld s s.heap x C n d (.int k) := by
  have e1 := fld_at (C := C) (n := n) (dd := d) ht
  cases hf : s.fieldOf? x C n d with
  | none => rw [hf] at e1; simp [Jvm.Cond.value, e1] at h
  | some u =>
    rw [hf] at e1
    have e2 : (Jvm.Term.int k).eval args s none [] s = some (.int k) := rfl
    cases u <;> simp [Jvm.Cond.value, e1, e2] at h
    subst h
    exact Fld.start hf
theorem own_fldN {args : Array Value} {s : State} {t : Jvm.Term} {x : Addr} {C n d : String} (ht : t.eval args s none [] s = some (.ref x)) (h : (Jvm.Cond.eq (Jvm.Term.field t C n d) Jvm.Term.null).value args s none s [] = some true) : Fld s s.heap x C n d .null := by
  have e1 := fld_at (C := C) (n := n) (dd := d) ht
  have e2 := null_v h
  exact Fld.start (e1.symm.trans e2)
theorem own_fldR {args : Array Value} {s : State} {t u : Jvm.Term} {x y : Addr} {C n d : String} (ht : t.eval args s none [] s = some (.ref x)) (hu : u.eval args s none [] s = some (.ref y)) (h : (Jvm.Cond.eq (Jvm.Term.field t C n d) u).value args s none s [] = some true) : Fld s s.heap x C n d (.ref y) := by
  have e1 := fld_at (C := C) (n := n) (dd := d) ht
  cases hf : s.fieldOf? x C n d with
  | none => rw [hf] at e1; simp [Jvm.Cond.value, e1] at h
  | some w =>
    rw [hf] at e1
    cases w <;> simp [Jvm.Cond.value, e1, hu] at h
    subst h
    exact Fld.start hf
theorem own_fldJ {args : Array Value} {s : State} {t : Jvm.Term} {x : Addr} {C n d : String} {k : Int64} (ht : t.eval args s none [] s = some (.ref x)) (h : (Jvm.Cond.eq (Jvm.Term.field t C n d) (Jvm.Term.long k)).value args s none s [] = some true) : Fld s s.heap x C n d (.long k) := by
  have e1 := fld_at (C := C) (n := n) (dd := d) ht
  cases hf : s.fieldOf? x C n d with
  | none => rw [hf] at e1; simp [Jvm.Cond.value, e1] at h
  | some u =>
    rw [hf] at e1
    have e2 : (Jvm.Term.long k).eval args s none [] s = some (.long k) := rfl
    cases u <;> simp [Jvm.Cond.value, e1, e2] at h
    subst h
    exact Fld.start hf

theorem pd_0 : parseMethodDescriptor "()Z" = some ⟨[], some .boolean⟩ := by decide +kernel
theorem d1_0 : decode prog_12_method_5_code 0 = .ok (.aload_n 0, 1) := by decide +kernel
theorem d1_1 : decode prog_12_method_5_code 1 = .ok (.getstatic 3, 3) := by decide +kernel
theorem d1_4 : decode prog_12_method_5_code 4 = .ok (.if_acmp .eq 17, 3) := by decide +kernel
theorem d1_7 : decode prog_12_method_5_code 7 = .ok (.aload_n 0, 1) := by decide +kernel
theorem d1_8 : decode prog_12_method_5_code 8 = .ok (.getstatic 7, 3) := by decide +kernel
theorem d1_11 : decode prog_12_method_5_code 11 = .ok (.if_acmp .eq 10, 3) := by decide +kernel
theorem d1_14 : decode prog_12_method_5_code 14 = .ok (.aload_n 0, 1) := by decide +kernel
theorem d1_15 : decode prog_12_method_5_code 15 = .ok (.getstatic 19, 3) := by decide +kernel
theorem d1_18 : decode prog_12_method_5_code 18 = .ok (.if_acmp .ne 7, 3) := by decide +kernel
theorem d1_21 : decode prog_12_method_5_code 21 = .ok (.iconst 1, 1) := by decide +kernel
theorem d1_22 : decode prog_12_method_5_code 22 = .ok (.goto 4, 3) := by decide +kernel
theorem d1_25 : decode prog_12_method_5_code 25 = .ok (.iconst 0, 1) := by decide +kernel
theorem d1_26 : decode prog_12_method_5_code 26 = .ok (.ireturn, 1) := by decide +kernel
theorem pn_1 : plainName "com/example/millrace/millrace/Type" = true := by first | (simp [plainName, overriddenIn]; done) | decide +kernel
theorem ef_1 (m : MethodId) (x0 : Addr) : entryFrame m #[(.ref x0)] 1 = mkF m 0 #[.val (.ref x0)] [] := by first | (simp [entryFrame, mkF, argsToLocals, Value.category]; done) | rfl
def Q1 (Z : State) (a1 : Addr) (w_BIGINT : Addr) (w_DOUBLE : Addr) (w_NULL : Addr) (h0 : Heap) (n0 : Nat) (v : Option Value) (h : Heap) (L : List Loc) : Prop := v = some (.int (if a1 = w_BIGINT then (1 : Int32) else (if a1 = w_DOUBLE then (1 : Int32) else (if a1 = w_NULL then (1 : Int32) else (0 : Int32))))) ∧ Fr n0 L ∧ h = h0
set_option maxRecDepth 65536 in
set_option maxHeartbeats 40000000 in
theorem rm1 (l : Launch) (Z : State) (a0 : Array Value) (hw : ∀ d ∈ tables_1, d.before a0 Z = true) (ws : List Jvm.Cond) (a1 : Addr) (w_BIGINT : Addr) (w_DOUBLE : Addr) (w_NULL : Addr) (h0 : Heap) (n0 : Nat) (Z0 : n0 ≤ h0.size) (S_BIGINT : Sta Z h0 "com/example/millrace/millrace/Type" "BIGINT" "Lcom/example/millrace/millrace/Type;" (.ref w_BIGINT)) (S_DOUBLE : Sta Z h0 "com/example/millrace/millrace/Type" "DOUBLE" "Lcom/example/millrace/millrace/Type;" (.ref w_DOUBLE)) (S_NULL : Sta Z h0 "com/example/millrace/millrace/Type" "NULL" "Lcom/example/millrace/millrace/Type;" (.ref w_NULL)) :
    MetFree l (⟨"com/example/millrace/millrace/Type", "isNumeric", "()Z"⟩ : MethodName) (head1 (Jvm.Cond.code (⟨"com/example/millrace/millrace/Type", "isNumeric", "()Z"⟩ : MethodName) prog_12_method_5_code 1 (some .boolean) :: ws) ({ frames := 0, cells := 0, slots := 0, locals := 0 } : Room)) (fun a U => a = #[(.ref a1)] ∧ Z.Warmed39 U.vm ∧ U.heap = h0) (fun _ _ _ _ _ => True) (fun _ U o U' => ∃ v L, o = .returned v ∧ Q1 Z a1 w_BIGINT w_DOUBLE w_NULL h0 n0 v U'.heap L ∧ FrameEnd U o U' L ({ frames := 0, cells := 0, slots := 0, locals := 0 } : Room).cells ({ frames := 0, cells := 0, slots := 0, locals := 0 } : Room).slots) := by
  refine MetFree.of_bodySF (plainFor_of_name pn_1) hisR ?_
  intro p e s m args below meth c s₁ Bd hml0 hP hK
  obtain ⟨rfl, hZ, hh⟩ := hP
  have hx := Bd.exec
  have hby := Bd.bytes
  have hml : c.maxLocals = 1 := hml0
  have hown : s.vm.findClass "com/example/millrace/millrace/Type" = some m.cls := findClass_of_methodNamed Bd.named
  have hnm := (name_of_methodNamed Bd.named Bd.method).1
  have X0 : Stand p l e ({ frames := 0, cells := 0, slots := 0, locals := 0 } : Room) s m #[(.ref a1)] below meth c s₁ [] 0 0 := Stand.of_body Bd
  have e0 : s₁.heap = h0 := by rw [← hh, Bd.state]; rfl
  have N0 := Fr.nil n0
  have K0 : Keep h0 h0 [] := Keep.refl _ _
  have P0 : ∀ t, Steps p.tables e below (s₁.setTop (mkF m 0 #[.val (.ref a1)] [])) t → Steps p.tables e below (s₁.setTop (entryFrame m #[(.ref a1)] 1)) t := fun t k => castTop (ef_1 m a1) k
  have P1 : ∀ t, Steps p.tables e below (s₁.setTop (mkF m 1 #[.val (.ref a1)] [(.ref a1)])) t → Steps p.tables e below (s₁.setTop (entryFrame m #[(.ref a1)] 1)) t := by
    intro t k
    refine P0 _ ?_
    refine XS.aloadN X0.here hx rfl (hb hby d1_0) rfl rfl ?_
    show Steps p.tables e below (s₁.setTop (mkF m 1 #[.val (.ref a1)] [(.ref a1)])) _
    exact k
  obtain ⟨T2, X2, e2, st2⟩ := getS2 X0 hx hZ hown (host := "") (Or.inl (hw _ (List.mem_of_getElem? (i := 9) rfl))) Via.refl e0 S_BIGINT (g := (mkF m 1 #[.val (.ref a1)] [(.ref a1)])) rfl (hb hby d1_1)
  have P3 : ∀ t, Steps p.tables e below (T2.setTop (mkF m 4 #[.val (.ref a1)] [(.ref w_BIGINT), (.ref a1)])) t → Steps p.tables e below (s₁.setTop (entryFrame m #[(.ref a1)] 1)) t := fun t k => P1 _ (st2 _ k)
  by_cases c4 : a1 = w_BIGINT
  · have P4 : ∀ t, Steps p.tables e below (T2.setTop (mkF m 26 #[.val (.ref a1)] [(.int (1 : Int32))])) t → Steps p.tables e below (s₁.setTop (entryFrame m #[(.ref a1)] 1)) t := by
      intro t k
      refine P3 _ ?_
      refine XT.acmpYes X2.here hx rfl (pc0 := 4) (pc' := 21) rfl (hb hby d1_4) rfl rfl rfl (XT.aa_eq_t (congrArg Value.ref c4)) (by decide) (by decide) ?_
      show Steps p.tables e below (T2.setTop (mkF m 21 #[.val (.ref a1)] [])) _
      refine XS.iconst X2.here hx rfl (hb hby d1_21) ?_
      show Steps p.tables e below (T2.setTop (mkF m 22 #[.val (.ref a1)] [(.int (1 : Int32))])) _
      refine XS.goto X2.here hx rfl (pc0 := 22) (pc' := 26) rfl (hb hby d1_22) (by decide) (by decide) ?_
      show Steps p.tables e below (T2.setTop (mkF m 26 #[.val (.ref a1)] [(.int (1 : Int32))])) _
      exact k
    obtain ⟨fs, hr, hrun, hended, hW, hsame⟩ := X2.leave (v := some (.int (1 : Int32))) (fun h => by rw [Bd.returns] at h; cases h)
    refine ⟨_, _, P4 _ ?_, hrun, hended, _, _, rfl, ?_, ⟨_, rfl⟩, hW, hsame.mono (by decide) (by decide)⟩
    · exact retN X2 hx (t := .boolean) Bd.returns (by simp) (hb hby d1_26) hr
    · show Q1 Z a1 w_BIGINT w_DOUBLE w_NULL h0 n0 _ T2.heap _
      rw [e2]
      exact ⟨by rw [if_pos c4], N0, rfl⟩
  · have P5 : ∀ t, Steps p.tables e below (T2.setTop (mkF m 8 #[.val (.ref a1)] [(.ref a1)])) t → Steps p.tables e below (s₁.setTop (entryFrame m #[(.ref a1)] 1)) t := by
      intro t k
      refine P3 _ ?_
      refine XT.acmpNo X2.here hx rfl (hb hby d1_4) rfl rfl rfl (XT.aa_eq_f (fun q => c4 (Value.ref.inj q))) ?_
      show Steps p.tables e below (T2.setTop (mkF m 7 #[.val (.ref a1)] [])) _
      refine XS.aloadN X2.here hx rfl (hb hby d1_7) rfl rfl ?_
      show Steps p.tables e below (T2.setTop (mkF m 8 #[.val (.ref a1)] [(.ref a1)])) _
      exact k
    obtain ⟨T6, X6, e6, st6⟩ := getS2 X2 hx hZ hown (host := "") (Or.inl (hw _ (List.mem_of_getElem? (i := 12) rfl))) Via.refl e2 S_DOUBLE (g := (mkF m 8 #[.val (.ref a1)] [(.ref a1)])) rfl (hb hby d1_8)
    have P7 : ∀ t, Steps p.tables e below (T6.setTop (mkF m 11 #[.val (.ref a1)] [(.ref w_DOUBLE), (.ref a1)])) t → Steps p.tables e below (s₁.setTop (entryFrame m #[(.ref a1)] 1)) t := fun t k => P5 _ (st6 _ k)
    by_cases c11 : a1 = w_DOUBLE
    · have P8 : ∀ t, Steps p.tables e below (T6.setTop (mkF m 26 #[.val (.ref a1)] [(.int (1 : Int32))])) t → Steps p.tables e below (s₁.setTop (entryFrame m #[(.ref a1)] 1)) t := by
        intro t k
        refine P7 _ ?_
        refine XT.acmpYes X6.here hx rfl (pc0 := 11) (pc' := 21) rfl (hb hby d1_11) rfl rfl rfl (XT.aa_eq_t (congrArg Value.ref c11)) (by decide) (by decide) ?_
        show Steps p.tables e below (T6.setTop (mkF m 21 #[.val (.ref a1)] [])) _
        refine XS.iconst X6.here hx rfl (hb hby d1_21) ?_
        show Steps p.tables e below (T6.setTop (mkF m 22 #[.val (.ref a1)] [(.int (1 : Int32))])) _
        refine XS.goto X6.here hx rfl (pc0 := 22) (pc' := 26) rfl (hb hby d1_22) (by decide) (by decide) ?_
        show Steps p.tables e below (T6.setTop (mkF m 26 #[.val (.ref a1)] [(.int (1 : Int32))])) _
        exact k
      obtain ⟨fs, hr, hrun, hended, hW, hsame⟩ := X6.leave (v := some (.int (1 : Int32))) (fun h => by rw [Bd.returns] at h; cases h)
      refine ⟨_, _, P8 _ ?_, hrun, hended, _, _, rfl, ?_, ⟨_, rfl⟩, hW, hsame.mono (by decide) (by decide)⟩
      · exact retN X6 hx (t := .boolean) Bd.returns (by simp) (hb hby d1_26) hr
      · show Q1 Z a1 w_BIGINT w_DOUBLE w_NULL h0 n0 _ T6.heap _
        rw [e6]
        exact ⟨by rw [if_neg c4, if_pos c11], N0, rfl⟩
    · have P9 : ∀ t, Steps p.tables e below (T6.setTop (mkF m 15 #[.val (.ref a1)] [(.ref a1)])) t → Steps p.tables e below (s₁.setTop (entryFrame m #[(.ref a1)] 1)) t := by
        intro t k
        refine P7 _ ?_
        refine XT.acmpNo X6.here hx rfl (hb hby d1_11) rfl rfl rfl (XT.aa_eq_f (fun q => c11 (Value.ref.inj q))) ?_
        show Steps p.tables e below (T6.setTop (mkF m 14 #[.val (.ref a1)] [])) _
        refine XS.aloadN X6.here hx rfl (hb hby d1_14) rfl rfl ?_
        show Steps p.tables e below (T6.setTop (mkF m 15 #[.val (.ref a1)] [(.ref a1)])) _
        exact k
      obtain ⟨T10, X10, e10, st10⟩ := getS2 X6 hx hZ hown (host := "") (Or.inl (hw _ (List.mem_of_getElem? (i := 14) rfl))) Via.refl e6 S_NULL (g := (mkF m 15 #[.val (.ref a1)] [(.ref a1)])) rfl (hb hby d1_15)
      have P11 : ∀ t, Steps p.tables e below (T10.setTop (mkF m 18 #[.val (.ref a1)] [(.ref w_NULL), (.ref a1)])) t → Steps p.tables e below (s₁.setTop (entryFrame m #[(.ref a1)] 1)) t := fun t k => P9 _ (st10 _ k)
      by_cases c18 : a1 = w_NULL
      · have P12 : ∀ t, Steps p.tables e below (T10.setTop (mkF m 26 #[.val (.ref a1)] [(.int (1 : Int32))])) t → Steps p.tables e below (s₁.setTop (entryFrame m #[(.ref a1)] 1)) t := by
          intro t k
          refine P11 _ ?_
          refine XT.acmpNo X10.here hx rfl (hb hby d1_18) rfl rfl rfl (XT.aa_ne_f (congrArg Value.ref c18)) ?_
          show Steps p.tables e below (T10.setTop (mkF m 21 #[.val (.ref a1)] [])) _
          refine XS.iconst X10.here hx rfl (hb hby d1_21) ?_
          show Steps p.tables e below (T10.setTop (mkF m 22 #[.val (.ref a1)] [(.int (1 : Int32))])) _
          refine XS.goto X10.here hx rfl (pc0 := 22) (pc' := 26) rfl (hb hby d1_22) (by decide) (by decide) ?_
          show Steps p.tables e below (T10.setTop (mkF m 26 #[.val (.ref a1)] [(.int (1 : Int32))])) _
          exact k
        obtain ⟨fs, hr, hrun, hended, hW, hsame⟩ := X10.leave (v := some (.int (1 : Int32))) (fun h => by rw [Bd.returns] at h; cases h)
        refine ⟨_, _, P12 _ ?_, hrun, hended, _, _, rfl, ?_, ⟨_, rfl⟩, hW, hsame.mono (by decide) (by decide)⟩
        · exact retN X10 hx (t := .boolean) Bd.returns (by simp) (hb hby d1_26) hr
        · show Q1 Z a1 w_BIGINT w_DOUBLE w_NULL h0 n0 _ T10.heap _
          rw [e10]
          exact ⟨by rw [if_neg c4, if_neg c11, if_pos c18], N0, rfl⟩
      · have P13 : ∀ t, Steps p.tables e below (T10.setTop (mkF m 26 #[.val (.ref a1)] [(.int (0 : Int32))])) t → Steps p.tables e below (s₁.setTop (entryFrame m #[(.ref a1)] 1)) t := by
          intro t k
          refine P11 _ ?_
          refine XT.acmpYes X10.here hx rfl (pc0 := 18) (pc' := 25) rfl (hb hby d1_18) rfl rfl rfl (XT.aa_ne_t (fun q => c18 (Value.ref.inj q))) (by decide) (by decide) ?_
          show Steps p.tables e below (T10.setTop (mkF m 25 #[.val (.ref a1)] [])) _
          refine XS.iconst X10.here hx rfl (hb hby d1_25) ?_
          show Steps p.tables e below (T10.setTop (mkF m 26 #[.val (.ref a1)] [(.int (0 : Int32))])) _
          exact k
        obtain ⟨fs, hr, hrun, hended, hW, hsame⟩ := X10.leave (v := some (.int (0 : Int32))) (fun h => by rw [Bd.returns] at h; cases h)
        refine ⟨_, _, P13 _ ?_, hrun, hended, _, _, rfl, ?_, ⟨_, rfl⟩, hW, hsame.mono (by decide) (by decide)⟩
        · exact retN X10 hx (t := .boolean) Bd.returns (by simp) (hb hby d1_26) hr
        · show Q1 Z a1 w_BIGINT w_DOUBLE w_NULL h0 n0 _ T10.heap _
          rw [e10]
          exact ⟨by rw [if_neg c4, if_neg c11, if_neg c18], N0, rfl⟩
theorem pn_0 : plainName "com/example/millrace/millrace/TypeIsNumericPinLaw" = true := by first | (simp [plainName, overriddenIn]; done) | decide +kernel
theorem ef_0 (m : MethodId) (x0 : Int32) : entryFrame m #[(.int x0)] maxLocals = mkF m 0 #[.val (.int x0), .unset, .unset, .unset] [] := by first | (simp [entryFrame, mkF, argsToLocals, Value.category, maxLocals]; done) | rfl
def Q0 (Z : State) (p1 : Int32) (w_BIGINT : Addr) (w_DOUBLE : Addr) (w_VARCHAR : Addr) (w_BOOLEAN : Addr) (w_TIMESTAMP : Addr) (w_NULL : Addr) (h0 : Heap) (n0 : Nat) (v : Option Value) (h : Heap) (L : List Loc) : Prop := v = some (.int 1) ∧ Fr n0 L
set_option maxRecDepth 65536 in
set_option maxHeartbeats 40000000 in
theorem rm0 (l : Launch) (Z : State) (a0 : Array Value) (hw : ∀ d ∈ tables_1, d.before a0 Z = true) (ws : List Jvm.Cond) (p1 : Int32) (w_BIGINT : Addr) (w_DOUBLE : Addr) (w_VARCHAR : Addr) (w_BOOLEAN : Addr) (w_TIMESTAMP : Addr) (w_NULL : Addr) (h0 : Heap) (n0 : Nat) (Z0 : n0 ≤ h0.size) (S_BIGINT : Sta Z h0 "com/example/millrace/millrace/Type" "BIGINT" "Lcom/example/millrace/millrace/Type;" (.ref w_BIGINT)) (S_DOUBLE : Sta Z h0 "com/example/millrace/millrace/Type" "DOUBLE" "Lcom/example/millrace/millrace/Type;" (.ref w_DOUBLE)) (S_VARCHAR : Sta Z h0 "com/example/millrace/millrace/Type" "VARCHAR" "Lcom/example/millrace/millrace/Type;" (.ref w_VARCHAR)) (S_BOOLEAN : Sta Z h0 "com/example/millrace/millrace/Type" "BOOLEAN" "Lcom/example/millrace/millrace/Type;" (.ref w_BOOLEAN)) (S_TIMESTAMP : Sta Z h0 "com/example/millrace/millrace/Type" "TIMESTAMP" "Lcom/example/millrace/millrace/Type;" (.ref w_TIMESTAMP)) (S_NULL : Sta Z h0 "com/example/millrace/millrace/Type" "NULL" "Lcom/example/millrace/millrace/Type;" (.ref w_NULL)) (E_BIGINT : Exa Z h0 w_BIGINT "com/example/millrace/millrace/Type") (E_DOUBLE : Exa Z h0 w_DOUBLE "com/example/millrace/millrace/Type") (E_VARCHAR : Exa Z h0 w_VARCHAR "com/example/millrace/millrace/Type") (E_BOOLEAN : Exa Z h0 w_BOOLEAN "com/example/millrace/millrace/Type") (E_TIMESTAMP : Exa Z h0 w_TIMESTAMP "com/example/millrace/millrace/Type") (E_NULL : Exa Z h0 w_NULL "com/example/millrace/millrace/Type") (O_BIGINT : Fld Z h0 w_BIGINT "java/lang/Enum" "ordinal" "I" (.int (0 : Int32))) (O_DOUBLE : Fld Z h0 w_DOUBLE "java/lang/Enum" "ordinal" "I" (.int (1 : Int32))) (O_VARCHAR : Fld Z h0 w_VARCHAR "java/lang/Enum" "ordinal" "I" (.int (2 : Int32))) (O_BOOLEAN : Fld Z h0 w_BOOLEAN "java/lang/Enum" "ordinal" "I" (.int (3 : Int32))) (O_TIMESTAMP : Fld Z h0 w_TIMESTAMP "java/lang/Enum" "ordinal" "I" (.int (4 : Int32))) (O_NULL : Fld Z h0 w_NULL "java/lang/Enum" "ordinal" "I" (.int (5 : Int32))) :
    MetFree l x (head1 (Jvm.Cond.code x code maxLocals ret :: ws) room_1) (fun a U => a = #[(.int p1)] ∧ Z.Warmed39 U.vm ∧ U.heap = h0) (fun _ _ _ _ _ => True) (fun _ U o U' => ∃ v L, o = .returned v ∧ Q0 Z p1 w_BIGINT w_DOUBLE w_VARCHAR w_BOOLEAN w_TIMESTAMP w_NULL h0 n0 v U'.heap L ∧ FrameEnd U o U' L room_1.cells room_1.slots) := by
  refine MetFree.of_bodySF (plainFor_of_name pn_0) hisR ?_
  intro p e s m args below meth c s₁ Bd hml0 hP hK
  obtain ⟨rfl, hZ, hh⟩ := hP
  have hx := Bd.exec
  have hby := Bd.bytes
  have hml : c.maxLocals = 4 := hml0
  have hown : s.vm.findClass "com/example/millrace/millrace/TypeIsNumericPinLaw" = some m.cls := findClass_of_methodNamed Bd.named
  have hnm := (name_of_methodNamed Bd.named Bd.method).1
  have X0 : Stand p l e room_1 s m #[(.int p1)] below meth c s₁ [] 0 0 := Stand.of_body Bd
  have e0 : s₁.heap = h0 := by rw [← hh, Bd.state]; rfl
  have N0 := Fr.nil n0
  have K0 : Keep h0 h0 [] := Keep.refl _ _
  have P0 : ∀ t, Steps p.tables e below (s₁.setTop (mkF m 0 #[.val (.int p1), .unset, .unset, .unset] [])) t → Steps p.tables e below (s₁.setTop (entryFrame m #[(.int p1)] maxLocals)) t := fun t k => castTop (ef_0 m p1) k
  have P1 : ∀ t, Steps p.tables e below (s₁.setTop (mkF m 8 #[.val (.int p1), .val (.int ((p1 &&& (2147483647 : Int32)) % (6 : Int32))), .unset, .unset] [])) t → Steps p.tables e below (s₁.setTop (entryFrame m #[(.int p1)] maxLocals)) t := by
    intro t k
    refine P0 _ ?_
    refine XS.iloadN X0.here hx rfl (hb hby at_0) rfl ?_
    show Steps p.tables e below (s₁.setTop (mkF m 1 #[.val (.int p1), .unset, .unset, .unset] [(.int p1)])) _
    refine Jvm.Stand.ldcI X0 hx hown (mvT hZ (hw _ (List.mem_of_getElem? (i := 0) rfl))) rfl (hb hby at_1) ?_
    show Steps p.tables e below (s₁.setTop (mkF m 3 #[.val (.int p1), .unset, .unset, .unset] [(.int (2147483647 : Int32)), (.int p1)])) _
    refine XS.iand X0.here hx rfl (hb hby at_3) rfl ?_
    show Steps p.tables e below (s₁.setTop (mkF m 4 #[.val (.int p1), .unset, .unset, .unset] [(.int (p1 &&& (2147483647 : Int32)))])) _
    refine XS.bipush X0.here hx rfl (hb hby at_4) ?_
    show Steps p.tables e below (s₁.setTop (mkF m 6 #[.val (.int p1), .unset, .unset, .unset] [(.int (6 : Int32)), (.int (p1 &&& (2147483647 : Int32)))])) _
    refine iremM X0 hx rfl (hb hby at_6) rfl (by decide) ?_
    show Steps p.tables e below (s₁.setTop (mkF m 7 #[.val (.int p1), .unset, .unset, .unset] [(.int ((p1 &&& (2147483647 : Int32)) % (6 : Int32)))])) _
    refine XS.istoreN X0.here hx rfl (hb hby at_7) rfl (l' := #[.val (.int p1), .val (.int ((p1 &&& (2147483647 : Int32)) % (6 : Int32))), .unset, .unset]) rfl ?_
    show Steps p.tables e below (s₁.setTop (mkF m 8 #[.val (.int p1), .val (.int ((p1 &&& (2147483647 : Int32)) % (6 : Int32))), .unset, .unset] [])) _
    exact k
  obtain ⟨kx, hkx⟩ : ∃ z : Int32, z = ((p1 &&& (2147483647 : Int32)) % (6 : Int32)) := ⟨_, rfl⟩
  rw [← hkx] at P1
  have P2 : ∀ t, Steps p.tables e below (s₁.setTop (mkF m 9 #[.val (.int p1), .val (.int kx), .unset, .unset] [(.int kx)])) t → Steps p.tables e below (s₁.setTop (entryFrame m #[(.int p1)] maxLocals)) t := by
    intro t k
    refine P1 _ ?_
    refine XS.iloadN X0.here hx rfl (hb hby at_8) rfl ?_
    show Steps p.tables e below (s₁.setTop (mkF m 9 #[.val (.int p1), .val (.int kx), .unset, .unset] [(.int kx)])) _
    exact k
  by_cases c9 : kx = (0 : Int32)
  · have P3 : ∀ t, Steps p.tables e below (s₁.setTop (mkF m 12 #[.val (.int p1), .val (.int kx), .unset, .unset] [])) t → Steps p.tables e below (s₁.setTop (entryFrame m #[(.int p1)] maxLocals)) t := by
      intro t k
      refine P2 _ ?_
      refine XS.ifNo X0.here hx rfl (hb hby at_9) rfl (XT.i0_ne_f c9) ?_
      show Steps p.tables e below (s₁.setTop (mkF m 12 #[.val (.int p1), .val (.int kx), .unset, .unset] [])) _
      exact k
    obtain ⟨T4, X4, e4, st4⟩ := getS2 X0 hx hZ hown (host := "") (Or.inl (hw _ (List.mem_of_getElem? (i := 1) rfl))) Via.refl e0 S_BIGINT (g := (mkF m 12 #[.val (.int p1), .val (.int kx), .unset, .unset] [])) rfl (hb hby at_12)
    have P5 : ∀ t, Steps p.tables e below (T4.setTop (mkF m 15 #[.val (.int p1), .val (.int kx), .unset, .unset] [(.ref w_BIGINT)])) t → Steps p.tables e below (s₁.setTop (entryFrame m #[(.int p1)] maxLocals)) t := fun t k => P3 _ (st4 _ k)
    have P6 : ∀ t, Steps p.tables e below (T4.setTop (mkF m 84 #[.val (.int p1), .val (.int kx), .val (.ref w_BIGINT), .val (.int (1 : Int32))] [(.ref w_BIGINT)])) t → Steps p.tables e below (s₁.setTop (entryFrame m #[(.int p1)] maxLocals)) t := by
      intro t k
      refine P5 _ ?_
      refine XS.astoreN X4.here hx rfl (hb hby at_15) rfl rfl (l' := #[.val (.int p1), .val (.int kx), .val (.ref w_BIGINT), .unset]) rfl ?_
      show Steps p.tables e below (T4.setTop (mkF m 16 #[.val (.int p1), .val (.int kx), .val (.ref w_BIGINT), .unset] [])) _
      refine XS.iconst X4.here hx rfl (hb hby at_16) ?_
      show Steps p.tables e below (T4.setTop (mkF m 17 #[.val (.int p1), .val (.int kx), .val (.ref w_BIGINT), .unset] [(.int (1 : Int32))])) _
      refine XS.istoreN X4.here hx rfl (hb hby at_17) rfl (l' := #[.val (.int p1), .val (.int kx), .val (.ref w_BIGINT), .val (.int (1 : Int32))]) rfl ?_
      show Steps p.tables e below (T4.setTop (mkF m 18 #[.val (.int p1), .val (.int kx), .val (.ref w_BIGINT), .val (.int (1 : Int32))] [])) _
      refine XS.goto X4.here hx rfl (pc0 := 18) (pc' := 83) rfl (hb hby at_18) (by decide) (by decide) ?_
      show Steps p.tables e below (T4.setTop (mkF m 83 #[.val (.int p1), .val (.int kx), .val (.ref w_BIGINT), .val (.int (1 : Int32))] [])) _
      refine XS.aloadN X4.here hx rfl (hb hby at_83) rfl rfl ?_
      show Steps p.tables e below (T4.setTop (mkF m 84 #[.val (.int p1), .val (.int kx), .val (.ref w_BIGINT), .val (.int (1 : Int32))] [(.ref w_BIGINT)])) _
      exact k
    obtain ⟨cq7, kq7, qa7, qb7, qc7⟩ := isOf hZ e4 E_BIGINT
    obtain ⟨_, _, ⟨T7, L7, k7, n7⟩, -, X7, ⟨Lc7, hQ7, l7, y7, z7⟩, st7⟩ := X4.virtualBack hx (y := (⟨"com/example/millrace/millrace/Type", "isNumeric", "()Z"⟩ : MethodName)) (z := (⟨"com/example/millrace/millrace/Type", "isNumeric", "()Z"⟩ : MethodName)) hown (mvT hZ (hw _ (List.mem_of_getElem? (i := 4) rfl))) (mvT hZ (hw _ (List.mem_of_getElem? (i := 5) rfl))) (notFace_of_selects (args := #[]) (mvT hZ (hw _ (List.mem_of_getElem? (i := 7) rfl)))) (mvT hZ (hw _ (List.mem_of_getElem? (i := 7) rfl))) (mvT hZ (hw _ (List.mem_of_getElem? (i := 6) rfl))) (by decide) (backOf (W := 0) (rm1 l Z a0 hw [] w_BIGINT w_BIGINT w_DOUBLE w_NULL h0 n0 Z0 S_BIGINT S_DOUBLE S_NULL) hZ (hw _ (List.mem_of_getElem? (i := 8) rfl)) (hw _ (List.mem_of_getElem? (i := 2) rfl)) (by decide) (by decide)) qa7 qc7 (g := (mkF m 84 #[.val (.int p1), .val (.int kx), .val (.ref w_BIGINT), .val (.int (1 : Int32))] [(.ref w_BIGINT)])) rfl (by rw [hml]; rfl) (Steps.refl _) (argsL := []) (rest := []) (lenOf pd_0 rfl) rfl (by show 2 * 0 + _ ≤ _; exact Nat.le_of_eq rfl) (hb hby at_84) (fun _ _ => ⟨rfl, e4, (by decide : 0 + 0 ≤ _), (by decide : 0 + 0 ≤ _)⟩)
    dsimp only [Pt.U, Pt.locs, Pt.cells, Pt.slots] at X7 l7 y7 z7 st7 hQ7
    subst l7 y7 z7
    obtain ⟨rfl, N7q, e7⟩ := hQ7
    have N7 := Fr.app N0 N7q
    have P8 : ∀ t, Steps p.tables e below (T7.setTop (mkF m 87 #[.val (.int p1), .val (.int kx), .val (.ref w_BIGINT), .val (.int (1 : Int32))] [(.int (if w_BIGINT = w_BIGINT then (1 : Int32) else (if w_BIGINT = w_DOUBLE then (1 : Int32) else (if w_BIGINT = w_NULL then (1 : Int32) else (0 : Int32)))))])) t → Steps p.tables e below (s₁.setTop (entryFrame m #[(.int p1)] maxLocals)) t := fun t k => P6 _ (st7.trans k)
    obtain ⟨r, hr⟩ : ∃ z : Int32, z = (if w_BIGINT = w_BIGINT then (1 : Int32) else (if w_BIGINT = w_DOUBLE then (1 : Int32) else (if w_BIGINT = w_NULL then (1 : Int32) else (0 : Int32)))) := ⟨_, rfl⟩
    rw [← hr] at P8
    have re : r = (1 : Int32) := by rw [hr, if_pos rfl]
    have P9 : ∀ t, Steps p.tables e below (T7.setTop (mkF m 96 #[.val (.int p1), .val (.int kx), .val (.ref w_BIGINT), .val (.int (1 : Int32))] [(.int (1 : Int32))])) t → Steps p.tables e below (s₁.setTop (entryFrame m #[(.int p1)] maxLocals)) t := by
      intro t k
      refine P8 _ ?_
      refine XS.iloadN X7.here hx rfl (hb hby at_87) rfl ?_
      show Steps p.tables e below (T7.setTop (mkF m 88 #[.val (.int p1), .val (.int kx), .val (.ref w_BIGINT), .val (.int (1 : Int32))] [(.int (1 : Int32)), (.int r)])) _
      refine XS.icmpNo X7.here hx rfl (hb hby at_88) rfl (XT.ii_ne_f re) ?_
      show Steps p.tables e below (T7.setTop (mkF m 91 #[.val (.int p1), .val (.int kx), .val (.ref w_BIGINT), .val (.int (1 : Int32))] [])) _
      refine XS.iconst X7.here hx rfl (hb hby at_91) ?_
      show Steps p.tables e below (T7.setTop (mkF m 92 #[.val (.int p1), .val (.int kx), .val (.ref w_BIGINT), .val (.int (1 : Int32))] [(.int (1 : Int32))])) _
      refine XS.goto X7.here hx rfl (pc0 := 92) (pc' := 96) rfl (hb hby at_92) (by decide) (by decide) ?_
      show Steps p.tables e below (T7.setTop (mkF m 96 #[.val (.int p1), .val (.int kx), .val (.ref w_BIGINT), .val (.int (1 : Int32))] [(.int (1 : Int32))])) _
      exact k
    obtain ⟨fs, hr, hrun, hended, hW, hsame⟩ := X7.leave (v := some (.int (1 : Int32))) (fun h => by rw [Bd.returns] at h; cases h)
    refine ⟨_, _, P9 _ ?_, hrun, hended, _, _, rfl, ?_, ⟨_, rfl⟩, hW, hsame.mono (by decide) (by decide)⟩
    · exact retN X7 hx (t := .boolean) Bd.returns (by simp) (hb hby at_96) hr
    · show Q0 Z p1 w_BIGINT w_DOUBLE w_VARCHAR w_BOOLEAN w_TIMESTAMP w_NULL h0 n0 _ T7.heap _
      rw [e7]
      exact ⟨rfl, N7⟩
  · have P10 : ∀ t, Steps p.tables e below (s₁.setTop (mkF m 23 #[.val (.int p1), .val (.int kx), .unset, .unset] [(.int (1 : Int32)), (.int kx)])) t → Steps p.tables e below (s₁.setTop (entryFrame m #[(.int p1)] maxLocals)) t := by
      intro t k
      refine P2 _ ?_
      refine XS.ifYes X0.here hx rfl (pc0 := 9) (pc' := 21) rfl (hb hby at_9) rfl (XT.i0_ne_t c9) (by decide) (by decide) ?_
      show Steps p.tables e below (s₁.setTop (mkF m 21 #[.val (.int p1), .val (.int kx), .unset, .unset] [])) _
      refine XS.iloadN X0.here hx rfl (hb hby at_21) rfl ?_
      show Steps p.tables e below (s₁.setTop (mkF m 22 #[.val (.int p1), .val (.int kx), .unset, .unset] [(.int kx)])) _
      refine XS.iconst X0.here hx rfl (hb hby at_22) ?_
      show Steps p.tables e below (s₁.setTop (mkF m 23 #[.val (.int p1), .val (.int kx), .unset, .unset] [(.int (1 : Int32)), (.int kx)])) _
      exact k
    by_cases c23 : kx = (1 : Int32)
    · have P11 : ∀ t, Steps p.tables e below (s₁.setTop (mkF m 26 #[.val (.int p1), .val (.int kx), .unset, .unset] [])) t → Steps p.tables e below (s₁.setTop (entryFrame m #[(.int p1)] maxLocals)) t := by
        intro t k
        refine P10 _ ?_
        refine XS.icmpNo X0.here hx rfl (hb hby at_23) rfl (XT.ii_ne_f c23) ?_
        show Steps p.tables e below (s₁.setTop (mkF m 26 #[.val (.int p1), .val (.int kx), .unset, .unset] [])) _
        exact k
      obtain ⟨T12, X12, e12, st12⟩ := getS2 X0 hx hZ hown (host := "") (Or.inl (hw _ (List.mem_of_getElem? (i := 18) rfl))) Via.refl e0 S_DOUBLE (g := (mkF m 26 #[.val (.int p1), .val (.int kx), .unset, .unset] [])) rfl (hb hby at_26)
      have P13 : ∀ t, Steps p.tables e below (T12.setTop (mkF m 29 #[.val (.int p1), .val (.int kx), .unset, .unset] [(.ref w_DOUBLE)])) t → Steps p.tables e below (s₁.setTop (entryFrame m #[(.int p1)] maxLocals)) t := fun t k => P11 _ (st12 _ k)
      have P14 : ∀ t, Steps p.tables e below (T12.setTop (mkF m 84 #[.val (.int p1), .val (.int kx), .val (.ref w_DOUBLE), .val (.int (1 : Int32))] [(.ref w_DOUBLE)])) t → Steps p.tables e below (s₁.setTop (entryFrame m #[(.int p1)] maxLocals)) t := by
        intro t k
        refine P13 _ ?_
        refine XS.astoreN X12.here hx rfl (hb hby at_29) rfl rfl (l' := #[.val (.int p1), .val (.int kx), .val (.ref w_DOUBLE), .unset]) rfl ?_
        show Steps p.tables e below (T12.setTop (mkF m 30 #[.val (.int p1), .val (.int kx), .val (.ref w_DOUBLE), .unset] [])) _
        refine XS.iconst X12.here hx rfl (hb hby at_30) ?_
        show Steps p.tables e below (T12.setTop (mkF m 31 #[.val (.int p1), .val (.int kx), .val (.ref w_DOUBLE), .unset] [(.int (1 : Int32))])) _
        refine XS.istoreN X12.here hx rfl (hb hby at_31) rfl (l' := #[.val (.int p1), .val (.int kx), .val (.ref w_DOUBLE), .val (.int (1 : Int32))]) rfl ?_
        show Steps p.tables e below (T12.setTop (mkF m 32 #[.val (.int p1), .val (.int kx), .val (.ref w_DOUBLE), .val (.int (1 : Int32))] [])) _
        refine XS.goto X12.here hx rfl (pc0 := 32) (pc' := 83) rfl (hb hby at_32) (by decide) (by decide) ?_
        show Steps p.tables e below (T12.setTop (mkF m 83 #[.val (.int p1), .val (.int kx), .val (.ref w_DOUBLE), .val (.int (1 : Int32))] [])) _
        refine XS.aloadN X12.here hx rfl (hb hby at_83) rfl rfl ?_
        show Steps p.tables e below (T12.setTop (mkF m 84 #[.val (.int p1), .val (.int kx), .val (.ref w_DOUBLE), .val (.int (1 : Int32))] [(.ref w_DOUBLE)])) _
        exact k
      obtain ⟨cq15, kq15, qa15, qb15, qc15⟩ := isOf hZ e12 E_DOUBLE
      obtain ⟨_, _, ⟨T15, L15, k15, n15⟩, -, X15, ⟨Lc15, hQ15, l15, y15, z15⟩, st15⟩ := X12.virtualBack hx (y := (⟨"com/example/millrace/millrace/Type", "isNumeric", "()Z"⟩ : MethodName)) (z := (⟨"com/example/millrace/millrace/Type", "isNumeric", "()Z"⟩ : MethodName)) hown (mvT hZ (hw _ (List.mem_of_getElem? (i := 4) rfl))) (mvT hZ (hw _ (List.mem_of_getElem? (i := 5) rfl))) (notFace_of_selects (args := #[]) (mvT hZ (hw _ (List.mem_of_getElem? (i := 7) rfl)))) (mvT hZ (hw _ (List.mem_of_getElem? (i := 7) rfl))) (mvT hZ (hw _ (List.mem_of_getElem? (i := 6) rfl))) (by decide) (backOf (W := 0) (rm1 l Z a0 hw [] w_DOUBLE w_BIGINT w_DOUBLE w_NULL h0 n0 Z0 S_BIGINT S_DOUBLE S_NULL) hZ (hw _ (List.mem_of_getElem? (i := 8) rfl)) (hw _ (List.mem_of_getElem? (i := 2) rfl)) (by decide) (by decide)) qa15 qc15 (g := (mkF m 84 #[.val (.int p1), .val (.int kx), .val (.ref w_DOUBLE), .val (.int (1 : Int32))] [(.ref w_DOUBLE)])) rfl (by rw [hml]; rfl) (Steps.refl _) (argsL := []) (rest := []) (lenOf pd_0 rfl) rfl (by show 2 * 0 + _ ≤ _; exact Nat.le_of_eq rfl) (hb hby at_84) (fun _ _ => ⟨rfl, e12, (by decide : 0 + 0 ≤ _), (by decide : 0 + 0 ≤ _)⟩)
      dsimp only [Pt.U, Pt.locs, Pt.cells, Pt.slots] at X15 l15 y15 z15 st15 hQ15
      subst l15 y15 z15
      obtain ⟨rfl, N15q, e15⟩ := hQ15
      have N15 := Fr.app N0 N15q
      have P16 : ∀ t, Steps p.tables e below (T15.setTop (mkF m 87 #[.val (.int p1), .val (.int kx), .val (.ref w_DOUBLE), .val (.int (1 : Int32))] [(.int (if w_DOUBLE = w_BIGINT then (1 : Int32) else (if w_DOUBLE = w_DOUBLE then (1 : Int32) else (if w_DOUBLE = w_NULL then (1 : Int32) else (0 : Int32)))))])) t → Steps p.tables e below (s₁.setTop (entryFrame m #[(.int p1)] maxLocals)) t := fun t k => P14 _ (st15.trans k)
      obtain ⟨r, hr⟩ : ∃ z : Int32, z = (if w_DOUBLE = w_BIGINT then (1 : Int32) else (if w_DOUBLE = w_DOUBLE then (1 : Int32) else (if w_DOUBLE = w_NULL then (1 : Int32) else (0 : Int32)))) := ⟨_, rfl⟩
      rw [← hr] at P16
      have re : r = (1 : Int32) := by rw [hr, if_neg (Fld.ne O_DOUBLE O_BIGINT (by decide)), if_pos rfl]
      have P17 : ∀ t, Steps p.tables e below (T15.setTop (mkF m 96 #[.val (.int p1), .val (.int kx), .val (.ref w_DOUBLE), .val (.int (1 : Int32))] [(.int (1 : Int32))])) t → Steps p.tables e below (s₁.setTop (entryFrame m #[(.int p1)] maxLocals)) t := by
        intro t k
        refine P16 _ ?_
        refine XS.iloadN X15.here hx rfl (hb hby at_87) rfl ?_
        show Steps p.tables e below (T15.setTop (mkF m 88 #[.val (.int p1), .val (.int kx), .val (.ref w_DOUBLE), .val (.int (1 : Int32))] [(.int (1 : Int32)), (.int r)])) _
        refine XS.icmpNo X15.here hx rfl (hb hby at_88) rfl (XT.ii_ne_f re) ?_
        show Steps p.tables e below (T15.setTop (mkF m 91 #[.val (.int p1), .val (.int kx), .val (.ref w_DOUBLE), .val (.int (1 : Int32))] [])) _
        refine XS.iconst X15.here hx rfl (hb hby at_91) ?_
        show Steps p.tables e below (T15.setTop (mkF m 92 #[.val (.int p1), .val (.int kx), .val (.ref w_DOUBLE), .val (.int (1 : Int32))] [(.int (1 : Int32))])) _
        refine XS.goto X15.here hx rfl (pc0 := 92) (pc' := 96) rfl (hb hby at_92) (by decide) (by decide) ?_
        show Steps p.tables e below (T15.setTop (mkF m 96 #[.val (.int p1), .val (.int kx), .val (.ref w_DOUBLE), .val (.int (1 : Int32))] [(.int (1 : Int32))])) _
        exact k
      obtain ⟨fs, hr, hrun, hended, hW, hsame⟩ := X15.leave (v := some (.int (1 : Int32))) (fun h => by rw [Bd.returns] at h; cases h)
      refine ⟨_, _, P17 _ ?_, hrun, hended, _, _, rfl, ?_, ⟨_, rfl⟩, hW, hsame.mono (by decide) (by decide)⟩
      · exact retN X15 hx (t := .boolean) Bd.returns (by simp) (hb hby at_96) hr
      · show Q0 Z p1 w_BIGINT w_DOUBLE w_VARCHAR w_BOOLEAN w_TIMESTAMP w_NULL h0 n0 _ T15.heap _
        rw [e15]
        exact ⟨rfl, N15⟩
    · have P18 : ∀ t, Steps p.tables e below (s₁.setTop (mkF m 37 #[.val (.int p1), .val (.int kx), .unset, .unset] [(.int (2 : Int32)), (.int kx)])) t → Steps p.tables e below (s₁.setTop (entryFrame m #[(.int p1)] maxLocals)) t := by
        intro t k
        refine P10 _ ?_
        refine XS.icmpYes X0.here hx rfl (pc0 := 23) (pc' := 35) rfl (hb hby at_23) rfl (XT.ii_ne_t c23) (by decide) (by decide) ?_
        show Steps p.tables e below (s₁.setTop (mkF m 35 #[.val (.int p1), .val (.int kx), .unset, .unset] [])) _
        refine XS.iloadN X0.here hx rfl (hb hby at_35) rfl ?_
        show Steps p.tables e below (s₁.setTop (mkF m 36 #[.val (.int p1), .val (.int kx), .unset, .unset] [(.int kx)])) _
        refine XS.iconst X0.here hx rfl (hb hby at_36) ?_
        show Steps p.tables e below (s₁.setTop (mkF m 37 #[.val (.int p1), .val (.int kx), .unset, .unset] [(.int (2 : Int32)), (.int kx)])) _
        exact k
      by_cases c37 : kx = (2 : Int32)
      · have P19 : ∀ t, Steps p.tables e below (s₁.setTop (mkF m 40 #[.val (.int p1), .val (.int kx), .unset, .unset] [])) t → Steps p.tables e below (s₁.setTop (entryFrame m #[(.int p1)] maxLocals)) t := by
          intro t k
          refine P18 _ ?_
          refine XS.icmpNo X0.here hx rfl (hb hby at_37) rfl (XT.ii_ne_f c37) ?_
          show Steps p.tables e below (s₁.setTop (mkF m 40 #[.val (.int p1), .val (.int kx), .unset, .unset] [])) _
          exact k
        obtain ⟨T20, X20, e20, st20⟩ := getS2 X0 hx hZ hown (host := "") (Or.inl (hw _ (List.mem_of_getElem? (i := 16) rfl))) Via.refl e0 S_VARCHAR (g := (mkF m 40 #[.val (.int p1), .val (.int kx), .unset, .unset] [])) rfl (hb hby at_40)
        have P21 : ∀ t, Steps p.tables e below (T20.setTop (mkF m 43 #[.val (.int p1), .val (.int kx), .unset, .unset] [(.ref w_VARCHAR)])) t → Steps p.tables e below (s₁.setTop (entryFrame m #[(.int p1)] maxLocals)) t := fun t k => P19 _ (st20 _ k)
        have P22 : ∀ t, Steps p.tables e below (T20.setTop (mkF m 84 #[.val (.int p1), .val (.int kx), .val (.ref w_VARCHAR), .val (.int (0 : Int32))] [(.ref w_VARCHAR)])) t → Steps p.tables e below (s₁.setTop (entryFrame m #[(.int p1)] maxLocals)) t := by
          intro t k
          refine P21 _ ?_
          refine XS.astoreN X20.here hx rfl (hb hby at_43) rfl rfl (l' := #[.val (.int p1), .val (.int kx), .val (.ref w_VARCHAR), .unset]) rfl ?_
          show Steps p.tables e below (T20.setTop (mkF m 44 #[.val (.int p1), .val (.int kx), .val (.ref w_VARCHAR), .unset] [])) _
          refine XS.iconst X20.here hx rfl (hb hby at_44) ?_
          show Steps p.tables e below (T20.setTop (mkF m 45 #[.val (.int p1), .val (.int kx), .val (.ref w_VARCHAR), .unset] [(.int (0 : Int32))])) _
          refine XS.istoreN X20.here hx rfl (hb hby at_45) rfl (l' := #[.val (.int p1), .val (.int kx), .val (.ref w_VARCHAR), .val (.int (0 : Int32))]) rfl ?_
          show Steps p.tables e below (T20.setTop (mkF m 46 #[.val (.int p1), .val (.int kx), .val (.ref w_VARCHAR), .val (.int (0 : Int32))] [])) _
          refine XS.goto X20.here hx rfl (pc0 := 46) (pc' := 83) rfl (hb hby at_46) (by decide) (by decide) ?_
          show Steps p.tables e below (T20.setTop (mkF m 83 #[.val (.int p1), .val (.int kx), .val (.ref w_VARCHAR), .val (.int (0 : Int32))] [])) _
          refine XS.aloadN X20.here hx rfl (hb hby at_83) rfl rfl ?_
          show Steps p.tables e below (T20.setTop (mkF m 84 #[.val (.int p1), .val (.int kx), .val (.ref w_VARCHAR), .val (.int (0 : Int32))] [(.ref w_VARCHAR)])) _
          exact k
        obtain ⟨cq23, kq23, qa23, qb23, qc23⟩ := isOf hZ e20 E_VARCHAR
        obtain ⟨_, _, ⟨T23, L23, k23, n23⟩, -, X23, ⟨Lc23, hQ23, l23, y23, z23⟩, st23⟩ := X20.virtualBack hx (y := (⟨"com/example/millrace/millrace/Type", "isNumeric", "()Z"⟩ : MethodName)) (z := (⟨"com/example/millrace/millrace/Type", "isNumeric", "()Z"⟩ : MethodName)) hown (mvT hZ (hw _ (List.mem_of_getElem? (i := 4) rfl))) (mvT hZ (hw _ (List.mem_of_getElem? (i := 5) rfl))) (notFace_of_selects (args := #[]) (mvT hZ (hw _ (List.mem_of_getElem? (i := 7) rfl)))) (mvT hZ (hw _ (List.mem_of_getElem? (i := 7) rfl))) (mvT hZ (hw _ (List.mem_of_getElem? (i := 6) rfl))) (by decide) (backOf (W := 0) (rm1 l Z a0 hw [] w_VARCHAR w_BIGINT w_DOUBLE w_NULL h0 n0 Z0 S_BIGINT S_DOUBLE S_NULL) hZ (hw _ (List.mem_of_getElem? (i := 8) rfl)) (hw _ (List.mem_of_getElem? (i := 2) rfl)) (by decide) (by decide)) qa23 qc23 (g := (mkF m 84 #[.val (.int p1), .val (.int kx), .val (.ref w_VARCHAR), .val (.int (0 : Int32))] [(.ref w_VARCHAR)])) rfl (by rw [hml]; rfl) (Steps.refl _) (argsL := []) (rest := []) (lenOf pd_0 rfl) rfl (by show 2 * 0 + _ ≤ _; exact Nat.le_of_eq rfl) (hb hby at_84) (fun _ _ => ⟨rfl, e20, (by decide : 0 + 0 ≤ _), (by decide : 0 + 0 ≤ _)⟩)
        dsimp only [Pt.U, Pt.locs, Pt.cells, Pt.slots] at X23 l23 y23 z23 st23 hQ23
        subst l23 y23 z23
        obtain ⟨rfl, N23q, e23⟩ := hQ23
        have N23 := Fr.app N0 N23q
        have P24 : ∀ t, Steps p.tables e below (T23.setTop (mkF m 87 #[.val (.int p1), .val (.int kx), .val (.ref w_VARCHAR), .val (.int (0 : Int32))] [(.int (if w_VARCHAR = w_BIGINT then (1 : Int32) else (if w_VARCHAR = w_DOUBLE then (1 : Int32) else (if w_VARCHAR = w_NULL then (1 : Int32) else (0 : Int32)))))])) t → Steps p.tables e below (s₁.setTop (entryFrame m #[(.int p1)] maxLocals)) t := fun t k => P22 _ (st23.trans k)
        obtain ⟨r, hr⟩ : ∃ z : Int32, z = (if w_VARCHAR = w_BIGINT then (1 : Int32) else (if w_VARCHAR = w_DOUBLE then (1 : Int32) else (if w_VARCHAR = w_NULL then (1 : Int32) else (0 : Int32)))) := ⟨_, rfl⟩
        rw [← hr] at P24
        have re : r = (0 : Int32) := by rw [hr, if_neg (Fld.ne O_VARCHAR O_BIGINT (by decide)), if_neg (Fld.ne O_VARCHAR O_DOUBLE (by decide)), if_neg (Fld.ne O_VARCHAR O_NULL (by decide))]
        have P25 : ∀ t, Steps p.tables e below (T23.setTop (mkF m 96 #[.val (.int p1), .val (.int kx), .val (.ref w_VARCHAR), .val (.int (0 : Int32))] [(.int (1 : Int32))])) t → Steps p.tables e below (s₁.setTop (entryFrame m #[(.int p1)] maxLocals)) t := by
          intro t k
          refine P24 _ ?_
          refine XS.iloadN X23.here hx rfl (hb hby at_87) rfl ?_
          show Steps p.tables e below (T23.setTop (mkF m 88 #[.val (.int p1), .val (.int kx), .val (.ref w_VARCHAR), .val (.int (0 : Int32))] [(.int (0 : Int32)), (.int r)])) _
          refine XS.icmpNo X23.here hx rfl (hb hby at_88) rfl (XT.ii_ne_f re) ?_
          show Steps p.tables e below (T23.setTop (mkF m 91 #[.val (.int p1), .val (.int kx), .val (.ref w_VARCHAR), .val (.int (0 : Int32))] [])) _
          refine XS.iconst X23.here hx rfl (hb hby at_91) ?_
          show Steps p.tables e below (T23.setTop (mkF m 92 #[.val (.int p1), .val (.int kx), .val (.ref w_VARCHAR), .val (.int (0 : Int32))] [(.int (1 : Int32))])) _
          refine XS.goto X23.here hx rfl (pc0 := 92) (pc' := 96) rfl (hb hby at_92) (by decide) (by decide) ?_
          show Steps p.tables e below (T23.setTop (mkF m 96 #[.val (.int p1), .val (.int kx), .val (.ref w_VARCHAR), .val (.int (0 : Int32))] [(.int (1 : Int32))])) _
          exact k
        obtain ⟨fs, hr, hrun, hended, hW, hsame⟩ := X23.leave (v := some (.int (1 : Int32))) (fun h => by rw [Bd.returns] at h; cases h)
        refine ⟨_, _, P25 _ ?_, hrun, hended, _, _, rfl, ?_, ⟨_, rfl⟩, hW, hsame.mono (by decide) (by decide)⟩
        · exact retN X23 hx (t := .boolean) Bd.returns (by simp) (hb hby at_96) hr
        · show Q0 Z p1 w_BIGINT w_DOUBLE w_VARCHAR w_BOOLEAN w_TIMESTAMP w_NULL h0 n0 _ T23.heap _
          rw [e23]
          exact ⟨rfl, N23⟩
      · have P26 : ∀ t, Steps p.tables e below (s₁.setTop (mkF m 51 #[.val (.int p1), .val (.int kx), .unset, .unset] [(.int (3 : Int32)), (.int kx)])) t → Steps p.tables e below (s₁.setTop (entryFrame m #[(.int p1)] maxLocals)) t := by
          intro t k
          refine P18 _ ?_
          refine XS.icmpYes X0.here hx rfl (pc0 := 37) (pc' := 49) rfl (hb hby at_37) rfl (XT.ii_ne_t c37) (by decide) (by decide) ?_
          show Steps p.tables e below (s₁.setTop (mkF m 49 #[.val (.int p1), .val (.int kx), .unset, .unset] [])) _
          refine XS.iloadN X0.here hx rfl (hb hby at_49) rfl ?_
          show Steps p.tables e below (s₁.setTop (mkF m 50 #[.val (.int p1), .val (.int kx), .unset, .unset] [(.int kx)])) _
          refine XS.iconst X0.here hx rfl (hb hby at_50) ?_
          show Steps p.tables e below (s₁.setTop (mkF m 51 #[.val (.int p1), .val (.int kx), .unset, .unset] [(.int (3 : Int32)), (.int kx)])) _
          exact k
        by_cases c51 : kx = (3 : Int32)
        · have P27 : ∀ t, Steps p.tables e below (s₁.setTop (mkF m 54 #[.val (.int p1), .val (.int kx), .unset, .unset] [])) t → Steps p.tables e below (s₁.setTop (entryFrame m #[(.int p1)] maxLocals)) t := by
            intro t k
            refine P26 _ ?_
            refine XS.icmpNo X0.here hx rfl (hb hby at_51) rfl (XT.ii_ne_f c51) ?_
            show Steps p.tables e below (s₁.setTop (mkF m 54 #[.val (.int p1), .val (.int kx), .unset, .unset] [])) _
            exact k
          obtain ⟨T28, X28, e28, st28⟩ := getS2 X0 hx hZ hown (host := "") (Or.inl (hw _ (List.mem_of_getElem? (i := 10) rfl))) Via.refl e0 S_BOOLEAN (g := (mkF m 54 #[.val (.int p1), .val (.int kx), .unset, .unset] [])) rfl (hb hby at_54)
          have P29 : ∀ t, Steps p.tables e below (T28.setTop (mkF m 57 #[.val (.int p1), .val (.int kx), .unset, .unset] [(.ref w_BOOLEAN)])) t → Steps p.tables e below (s₁.setTop (entryFrame m #[(.int p1)] maxLocals)) t := fun t k => P27 _ (st28 _ k)
          have P30 : ∀ t, Steps p.tables e below (T28.setTop (mkF m 84 #[.val (.int p1), .val (.int kx), .val (.ref w_BOOLEAN), .val (.int (0 : Int32))] [(.ref w_BOOLEAN)])) t → Steps p.tables e below (s₁.setTop (entryFrame m #[(.int p1)] maxLocals)) t := by
            intro t k
            refine P29 _ ?_
            refine XS.astoreN X28.here hx rfl (hb hby at_57) rfl rfl (l' := #[.val (.int p1), .val (.int kx), .val (.ref w_BOOLEAN), .unset]) rfl ?_
            show Steps p.tables e below (T28.setTop (mkF m 58 #[.val (.int p1), .val (.int kx), .val (.ref w_BOOLEAN), .unset] [])) _
            refine XS.iconst X28.here hx rfl (hb hby at_58) ?_
            show Steps p.tables e below (T28.setTop (mkF m 59 #[.val (.int p1), .val (.int kx), .val (.ref w_BOOLEAN), .unset] [(.int (0 : Int32))])) _
            refine XS.istoreN X28.here hx rfl (hb hby at_59) rfl (l' := #[.val (.int p1), .val (.int kx), .val (.ref w_BOOLEAN), .val (.int (0 : Int32))]) rfl ?_
            show Steps p.tables e below (T28.setTop (mkF m 60 #[.val (.int p1), .val (.int kx), .val (.ref w_BOOLEAN), .val (.int (0 : Int32))] [])) _
            refine XS.goto X28.here hx rfl (pc0 := 60) (pc' := 83) rfl (hb hby at_60) (by decide) (by decide) ?_
            show Steps p.tables e below (T28.setTop (mkF m 83 #[.val (.int p1), .val (.int kx), .val (.ref w_BOOLEAN), .val (.int (0 : Int32))] [])) _
            refine XS.aloadN X28.here hx rfl (hb hby at_83) rfl rfl ?_
            show Steps p.tables e below (T28.setTop (mkF m 84 #[.val (.int p1), .val (.int kx), .val (.ref w_BOOLEAN), .val (.int (0 : Int32))] [(.ref w_BOOLEAN)])) _
            exact k
          obtain ⟨cq31, kq31, qa31, qb31, qc31⟩ := isOf hZ e28 E_BOOLEAN
          obtain ⟨_, _, ⟨T31, L31, k31, n31⟩, -, X31, ⟨Lc31, hQ31, l31, y31, z31⟩, st31⟩ := X28.virtualBack hx (y := (⟨"com/example/millrace/millrace/Type", "isNumeric", "()Z"⟩ : MethodName)) (z := (⟨"com/example/millrace/millrace/Type", "isNumeric", "()Z"⟩ : MethodName)) hown (mvT hZ (hw _ (List.mem_of_getElem? (i := 4) rfl))) (mvT hZ (hw _ (List.mem_of_getElem? (i := 5) rfl))) (notFace_of_selects (args := #[]) (mvT hZ (hw _ (List.mem_of_getElem? (i := 7) rfl)))) (mvT hZ (hw _ (List.mem_of_getElem? (i := 7) rfl))) (mvT hZ (hw _ (List.mem_of_getElem? (i := 6) rfl))) (by decide) (backOf (W := 0) (rm1 l Z a0 hw [] w_BOOLEAN w_BIGINT w_DOUBLE w_NULL h0 n0 Z0 S_BIGINT S_DOUBLE S_NULL) hZ (hw _ (List.mem_of_getElem? (i := 8) rfl)) (hw _ (List.mem_of_getElem? (i := 2) rfl)) (by decide) (by decide)) qa31 qc31 (g := (mkF m 84 #[.val (.int p1), .val (.int kx), .val (.ref w_BOOLEAN), .val (.int (0 : Int32))] [(.ref w_BOOLEAN)])) rfl (by rw [hml]; rfl) (Steps.refl _) (argsL := []) (rest := []) (lenOf pd_0 rfl) rfl (by show 2 * 0 + _ ≤ _; exact Nat.le_of_eq rfl) (hb hby at_84) (fun _ _ => ⟨rfl, e28, (by decide : 0 + 0 ≤ _), (by decide : 0 + 0 ≤ _)⟩)
          dsimp only [Pt.U, Pt.locs, Pt.cells, Pt.slots] at X31 l31 y31 z31 st31 hQ31
          subst l31 y31 z31
          obtain ⟨rfl, N31q, e31⟩ := hQ31
          have N31 := Fr.app N0 N31q
          have P32 : ∀ t, Steps p.tables e below (T31.setTop (mkF m 87 #[.val (.int p1), .val (.int kx), .val (.ref w_BOOLEAN), .val (.int (0 : Int32))] [(.int (if w_BOOLEAN = w_BIGINT then (1 : Int32) else (if w_BOOLEAN = w_DOUBLE then (1 : Int32) else (if w_BOOLEAN = w_NULL then (1 : Int32) else (0 : Int32)))))])) t → Steps p.tables e below (s₁.setTop (entryFrame m #[(.int p1)] maxLocals)) t := fun t k => P30 _ (st31.trans k)
          obtain ⟨r, hr⟩ : ∃ z : Int32, z = (if w_BOOLEAN = w_BIGINT then (1 : Int32) else (if w_BOOLEAN = w_DOUBLE then (1 : Int32) else (if w_BOOLEAN = w_NULL then (1 : Int32) else (0 : Int32)))) := ⟨_, rfl⟩
          rw [← hr] at P32
          have re : r = (0 : Int32) := by rw [hr, if_neg (Fld.ne O_BOOLEAN O_BIGINT (by decide)), if_neg (Fld.ne O_BOOLEAN O_DOUBLE (by decide)), if_neg (Fld.ne O_BOOLEAN O_NULL (by decide))]
          have P33 : ∀ t, Steps p.tables e below (T31.setTop (mkF m 96 #[.val (.int p1), .val (.int kx), .val (.ref w_BOOLEAN), .val (.int (0 : Int32))] [(.int (1 : Int32))])) t → Steps p.tables e below (s₁.setTop (entryFrame m #[(.int p1)] maxLocals)) t := by
            intro t k
            refine P32 _ ?_
            refine XS.iloadN X31.here hx rfl (hb hby at_87) rfl ?_
            show Steps p.tables e below (T31.setTop (mkF m 88 #[.val (.int p1), .val (.int kx), .val (.ref w_BOOLEAN), .val (.int (0 : Int32))] [(.int (0 : Int32)), (.int r)])) _
            refine XS.icmpNo X31.here hx rfl (hb hby at_88) rfl (XT.ii_ne_f re) ?_
            show Steps p.tables e below (T31.setTop (mkF m 91 #[.val (.int p1), .val (.int kx), .val (.ref w_BOOLEAN), .val (.int (0 : Int32))] [])) _
            refine XS.iconst X31.here hx rfl (hb hby at_91) ?_
            show Steps p.tables e below (T31.setTop (mkF m 92 #[.val (.int p1), .val (.int kx), .val (.ref w_BOOLEAN), .val (.int (0 : Int32))] [(.int (1 : Int32))])) _
            refine XS.goto X31.here hx rfl (pc0 := 92) (pc' := 96) rfl (hb hby at_92) (by decide) (by decide) ?_
            show Steps p.tables e below (T31.setTop (mkF m 96 #[.val (.int p1), .val (.int kx), .val (.ref w_BOOLEAN), .val (.int (0 : Int32))] [(.int (1 : Int32))])) _
            exact k
          obtain ⟨fs, hr, hrun, hended, hW, hsame⟩ := X31.leave (v := some (.int (1 : Int32))) (fun h => by rw [Bd.returns] at h; cases h)
          refine ⟨_, _, P33 _ ?_, hrun, hended, _, _, rfl, ?_, ⟨_, rfl⟩, hW, hsame.mono (by decide) (by decide)⟩
          · exact retN X31 hx (t := .boolean) Bd.returns (by simp) (hb hby at_96) hr
          · show Q0 Z p1 w_BIGINT w_DOUBLE w_VARCHAR w_BOOLEAN w_TIMESTAMP w_NULL h0 n0 _ T31.heap _
            rw [e31]
            exact ⟨rfl, N31⟩
        · have P34 : ∀ t, Steps p.tables e below (s₁.setTop (mkF m 65 #[.val (.int p1), .val (.int kx), .unset, .unset] [(.int (4 : Int32)), (.int kx)])) t → Steps p.tables e below (s₁.setTop (entryFrame m #[(.int p1)] maxLocals)) t := by
            intro t k
            refine P26 _ ?_
            refine XS.icmpYes X0.here hx rfl (pc0 := 51) (pc' := 63) rfl (hb hby at_51) rfl (XT.ii_ne_t c51) (by decide) (by decide) ?_
            show Steps p.tables e below (s₁.setTop (mkF m 63 #[.val (.int p1), .val (.int kx), .unset, .unset] [])) _
            refine XS.iloadN X0.here hx rfl (hb hby at_63) rfl ?_
            show Steps p.tables e below (s₁.setTop (mkF m 64 #[.val (.int p1), .val (.int kx), .unset, .unset] [(.int kx)])) _
            refine XS.iconst X0.here hx rfl (hb hby at_64) ?_
            show Steps p.tables e below (s₁.setTop (mkF m 65 #[.val (.int p1), .val (.int kx), .unset, .unset] [(.int (4 : Int32)), (.int kx)])) _
            exact k
          by_cases c65 : kx = (4 : Int32)
          · have P35 : ∀ t, Steps p.tables e below (s₁.setTop (mkF m 68 #[.val (.int p1), .val (.int kx), .unset, .unset] [])) t → Steps p.tables e below (s₁.setTop (entryFrame m #[(.int p1)] maxLocals)) t := by
              intro t k
              refine P34 _ ?_
              refine XS.icmpNo X0.here hx rfl (hb hby at_65) rfl (XT.ii_ne_f c65) ?_
              show Steps p.tables e below (s₁.setTop (mkF m 68 #[.val (.int p1), .val (.int kx), .unset, .unset] [])) _
              exact k
            obtain ⟨T36, X36, e36, st36⟩ := getS2 X0 hx hZ hown (host := "") (Or.inl (hw _ (List.mem_of_getElem? (i := 20) rfl))) Via.refl e0 S_TIMESTAMP (g := (mkF m 68 #[.val (.int p1), .val (.int kx), .unset, .unset] [])) rfl (hb hby at_68)
            have P37 : ∀ t, Steps p.tables e below (T36.setTop (mkF m 71 #[.val (.int p1), .val (.int kx), .unset, .unset] [(.ref w_TIMESTAMP)])) t → Steps p.tables e below (s₁.setTop (entryFrame m #[(.int p1)] maxLocals)) t := fun t k => P35 _ (st36 _ k)
            have P38 : ∀ t, Steps p.tables e below (T36.setTop (mkF m 84 #[.val (.int p1), .val (.int kx), .val (.ref w_TIMESTAMP), .val (.int (0 : Int32))] [(.ref w_TIMESTAMP)])) t → Steps p.tables e below (s₁.setTop (entryFrame m #[(.int p1)] maxLocals)) t := by
              intro t k
              refine P37 _ ?_
              refine XS.astoreN X36.here hx rfl (hb hby at_71) rfl rfl (l' := #[.val (.int p1), .val (.int kx), .val (.ref w_TIMESTAMP), .unset]) rfl ?_
              show Steps p.tables e below (T36.setTop (mkF m 72 #[.val (.int p1), .val (.int kx), .val (.ref w_TIMESTAMP), .unset] [])) _
              refine XS.iconst X36.here hx rfl (hb hby at_72) ?_
              show Steps p.tables e below (T36.setTop (mkF m 73 #[.val (.int p1), .val (.int kx), .val (.ref w_TIMESTAMP), .unset] [(.int (0 : Int32))])) _
              refine XS.istoreN X36.here hx rfl (hb hby at_73) rfl (l' := #[.val (.int p1), .val (.int kx), .val (.ref w_TIMESTAMP), .val (.int (0 : Int32))]) rfl ?_
              show Steps p.tables e below (T36.setTop (mkF m 74 #[.val (.int p1), .val (.int kx), .val (.ref w_TIMESTAMP), .val (.int (0 : Int32))] [])) _
              refine XS.goto X36.here hx rfl (pc0 := 74) (pc' := 83) rfl (hb hby at_74) (by decide) (by decide) ?_
              show Steps p.tables e below (T36.setTop (mkF m 83 #[.val (.int p1), .val (.int kx), .val (.ref w_TIMESTAMP), .val (.int (0 : Int32))] [])) _
              refine XS.aloadN X36.here hx rfl (hb hby at_83) rfl rfl ?_
              show Steps p.tables e below (T36.setTop (mkF m 84 #[.val (.int p1), .val (.int kx), .val (.ref w_TIMESTAMP), .val (.int (0 : Int32))] [(.ref w_TIMESTAMP)])) _
              exact k
            obtain ⟨cq39, kq39, qa39, qb39, qc39⟩ := isOf hZ e36 E_TIMESTAMP
            obtain ⟨_, _, ⟨T39, L39, k39, n39⟩, -, X39, ⟨Lc39, hQ39, l39, y39, z39⟩, st39⟩ := X36.virtualBack hx (y := (⟨"com/example/millrace/millrace/Type", "isNumeric", "()Z"⟩ : MethodName)) (z := (⟨"com/example/millrace/millrace/Type", "isNumeric", "()Z"⟩ : MethodName)) hown (mvT hZ (hw _ (List.mem_of_getElem? (i := 4) rfl))) (mvT hZ (hw _ (List.mem_of_getElem? (i := 5) rfl))) (notFace_of_selects (args := #[]) (mvT hZ (hw _ (List.mem_of_getElem? (i := 7) rfl)))) (mvT hZ (hw _ (List.mem_of_getElem? (i := 7) rfl))) (mvT hZ (hw _ (List.mem_of_getElem? (i := 6) rfl))) (by decide) (backOf (W := 0) (rm1 l Z a0 hw [] w_TIMESTAMP w_BIGINT w_DOUBLE w_NULL h0 n0 Z0 S_BIGINT S_DOUBLE S_NULL) hZ (hw _ (List.mem_of_getElem? (i := 8) rfl)) (hw _ (List.mem_of_getElem? (i := 2) rfl)) (by decide) (by decide)) qa39 qc39 (g := (mkF m 84 #[.val (.int p1), .val (.int kx), .val (.ref w_TIMESTAMP), .val (.int (0 : Int32))] [(.ref w_TIMESTAMP)])) rfl (by rw [hml]; rfl) (Steps.refl _) (argsL := []) (rest := []) (lenOf pd_0 rfl) rfl (by show 2 * 0 + _ ≤ _; exact Nat.le_of_eq rfl) (hb hby at_84) (fun _ _ => ⟨rfl, e36, (by decide : 0 + 0 ≤ _), (by decide : 0 + 0 ≤ _)⟩)
            dsimp only [Pt.U, Pt.locs, Pt.cells, Pt.slots] at X39 l39 y39 z39 st39 hQ39
            subst l39 y39 z39
            obtain ⟨rfl, N39q, e39⟩ := hQ39
            have N39 := Fr.app N0 N39q
            have P40 : ∀ t, Steps p.tables e below (T39.setTop (mkF m 87 #[.val (.int p1), .val (.int kx), .val (.ref w_TIMESTAMP), .val (.int (0 : Int32))] [(.int (if w_TIMESTAMP = w_BIGINT then (1 : Int32) else (if w_TIMESTAMP = w_DOUBLE then (1 : Int32) else (if w_TIMESTAMP = w_NULL then (1 : Int32) else (0 : Int32)))))])) t → Steps p.tables e below (s₁.setTop (entryFrame m #[(.int p1)] maxLocals)) t := fun t k => P38 _ (st39.trans k)
            obtain ⟨r, hr⟩ : ∃ z : Int32, z = (if w_TIMESTAMP = w_BIGINT then (1 : Int32) else (if w_TIMESTAMP = w_DOUBLE then (1 : Int32) else (if w_TIMESTAMP = w_NULL then (1 : Int32) else (0 : Int32)))) := ⟨_, rfl⟩
            rw [← hr] at P40
            have re : r = (0 : Int32) := by rw [hr, if_neg (Fld.ne O_TIMESTAMP O_BIGINT (by decide)), if_neg (Fld.ne O_TIMESTAMP O_DOUBLE (by decide)), if_neg (Fld.ne O_TIMESTAMP O_NULL (by decide))]
            have P41 : ∀ t, Steps p.tables e below (T39.setTop (mkF m 96 #[.val (.int p1), .val (.int kx), .val (.ref w_TIMESTAMP), .val (.int (0 : Int32))] [(.int (1 : Int32))])) t → Steps p.tables e below (s₁.setTop (entryFrame m #[(.int p1)] maxLocals)) t := by
              intro t k
              refine P40 _ ?_
              refine XS.iloadN X39.here hx rfl (hb hby at_87) rfl ?_
              show Steps p.tables e below (T39.setTop (mkF m 88 #[.val (.int p1), .val (.int kx), .val (.ref w_TIMESTAMP), .val (.int (0 : Int32))] [(.int (0 : Int32)), (.int r)])) _
              refine XS.icmpNo X39.here hx rfl (hb hby at_88) rfl (XT.ii_ne_f re) ?_
              show Steps p.tables e below (T39.setTop (mkF m 91 #[.val (.int p1), .val (.int kx), .val (.ref w_TIMESTAMP), .val (.int (0 : Int32))] [])) _
              refine XS.iconst X39.here hx rfl (hb hby at_91) ?_
              show Steps p.tables e below (T39.setTop (mkF m 92 #[.val (.int p1), .val (.int kx), .val (.ref w_TIMESTAMP), .val (.int (0 : Int32))] [(.int (1 : Int32))])) _
              refine XS.goto X39.here hx rfl (pc0 := 92) (pc' := 96) rfl (hb hby at_92) (by decide) (by decide) ?_
              show Steps p.tables e below (T39.setTop (mkF m 96 #[.val (.int p1), .val (.int kx), .val (.ref w_TIMESTAMP), .val (.int (0 : Int32))] [(.int (1 : Int32))])) _
              exact k
            obtain ⟨fs, hr, hrun, hended, hW, hsame⟩ := X39.leave (v := some (.int (1 : Int32))) (fun h => by rw [Bd.returns] at h; cases h)
            refine ⟨_, _, P41 _ ?_, hrun, hended, _, _, rfl, ?_, ⟨_, rfl⟩, hW, hsame.mono (by decide) (by decide)⟩
            · exact retN X39 hx (t := .boolean) Bd.returns (by simp) (hb hby at_96) hr
            · show Q0 Z p1 w_BIGINT w_DOUBLE w_VARCHAR w_BOOLEAN w_TIMESTAMP w_NULL h0 n0 _ T39.heap _
              rw [e39]
              exact ⟨rfl, N39⟩
          · have P42 : ∀ t, Steps p.tables e below (s₁.setTop (mkF m 77 #[.val (.int p1), .val (.int kx), .unset, .unset] [])) t → Steps p.tables e below (s₁.setTop (entryFrame m #[(.int p1)] maxLocals)) t := by
              intro t k
              refine P34 _ ?_
              refine XS.icmpYes X0.here hx rfl (pc0 := 65) (pc' := 77) rfl (hb hby at_65) rfl (XT.ii_ne_t c65) (by decide) (by decide) ?_
              show Steps p.tables e below (s₁.setTop (mkF m 77 #[.val (.int p1), .val (.int kx), .unset, .unset] [])) _
              exact k
            obtain ⟨T43, X43, e43, st43⟩ := getS2 X0 hx hZ hown (host := "") (Or.inl (hw _ (List.mem_of_getElem? (i := 19) rfl))) Via.refl e0 S_NULL (g := (mkF m 77 #[.val (.int p1), .val (.int kx), .unset, .unset] [])) rfl (hb hby at_77)
            have P44 : ∀ t, Steps p.tables e below (T43.setTop (mkF m 80 #[.val (.int p1), .val (.int kx), .unset, .unset] [(.ref w_NULL)])) t → Steps p.tables e below (s₁.setTop (entryFrame m #[(.int p1)] maxLocals)) t := fun t k => P42 _ (st43 _ k)
            have P45 : ∀ t, Steps p.tables e below (T43.setTop (mkF m 84 #[.val (.int p1), .val (.int kx), .val (.ref w_NULL), .val (.int (1 : Int32))] [(.ref w_NULL)])) t → Steps p.tables e below (s₁.setTop (entryFrame m #[(.int p1)] maxLocals)) t := by
              intro t k
              refine P44 _ ?_
              refine XS.astoreN X43.here hx rfl (hb hby at_80) rfl rfl (l' := #[.val (.int p1), .val (.int kx), .val (.ref w_NULL), .unset]) rfl ?_
              show Steps p.tables e below (T43.setTop (mkF m 81 #[.val (.int p1), .val (.int kx), .val (.ref w_NULL), .unset] [])) _
              refine XS.iconst X43.here hx rfl (hb hby at_81) ?_
              show Steps p.tables e below (T43.setTop (mkF m 82 #[.val (.int p1), .val (.int kx), .val (.ref w_NULL), .unset] [(.int (1 : Int32))])) _
              refine XS.istoreN X43.here hx rfl (hb hby at_82) rfl (l' := #[.val (.int p1), .val (.int kx), .val (.ref w_NULL), .val (.int (1 : Int32))]) rfl ?_
              show Steps p.tables e below (T43.setTop (mkF m 83 #[.val (.int p1), .val (.int kx), .val (.ref w_NULL), .val (.int (1 : Int32))] [])) _
              refine XS.aloadN X43.here hx rfl (hb hby at_83) rfl rfl ?_
              show Steps p.tables e below (T43.setTop (mkF m 84 #[.val (.int p1), .val (.int kx), .val (.ref w_NULL), .val (.int (1 : Int32))] [(.ref w_NULL)])) _
              exact k
            obtain ⟨cq46, kq46, qa46, qb46, qc46⟩ := isOf hZ e43 E_NULL
            obtain ⟨_, _, ⟨T46, L46, k46, n46⟩, -, X46, ⟨Lc46, hQ46, l46, y46, z46⟩, st46⟩ := X43.virtualBack hx (y := (⟨"com/example/millrace/millrace/Type", "isNumeric", "()Z"⟩ : MethodName)) (z := (⟨"com/example/millrace/millrace/Type", "isNumeric", "()Z"⟩ : MethodName)) hown (mvT hZ (hw _ (List.mem_of_getElem? (i := 4) rfl))) (mvT hZ (hw _ (List.mem_of_getElem? (i := 5) rfl))) (notFace_of_selects (args := #[]) (mvT hZ (hw _ (List.mem_of_getElem? (i := 7) rfl)))) (mvT hZ (hw _ (List.mem_of_getElem? (i := 7) rfl))) (mvT hZ (hw _ (List.mem_of_getElem? (i := 6) rfl))) (by decide) (backOf (W := 0) (rm1 l Z a0 hw [] w_NULL w_BIGINT w_DOUBLE w_NULL h0 n0 Z0 S_BIGINT S_DOUBLE S_NULL) hZ (hw _ (List.mem_of_getElem? (i := 8) rfl)) (hw _ (List.mem_of_getElem? (i := 2) rfl)) (by decide) (by decide)) qa46 qc46 (g := (mkF m 84 #[.val (.int p1), .val (.int kx), .val (.ref w_NULL), .val (.int (1 : Int32))] [(.ref w_NULL)])) rfl (by rw [hml]; rfl) (Steps.refl _) (argsL := []) (rest := []) (lenOf pd_0 rfl) rfl (by show 2 * 0 + _ ≤ _; exact Nat.le_of_eq rfl) (hb hby at_84) (fun _ _ => ⟨rfl, e43, (by decide : 0 + 0 ≤ _), (by decide : 0 + 0 ≤ _)⟩)
            dsimp only [Pt.U, Pt.locs, Pt.cells, Pt.slots] at X46 l46 y46 z46 st46 hQ46
            subst l46 y46 z46
            obtain ⟨rfl, N46q, e46⟩ := hQ46
            have N46 := Fr.app N0 N46q
            have P47 : ∀ t, Steps p.tables e below (T46.setTop (mkF m 87 #[.val (.int p1), .val (.int kx), .val (.ref w_NULL), .val (.int (1 : Int32))] [(.int (if w_NULL = w_BIGINT then (1 : Int32) else (if w_NULL = w_DOUBLE then (1 : Int32) else (if w_NULL = w_NULL then (1 : Int32) else (0 : Int32)))))])) t → Steps p.tables e below (s₁.setTop (entryFrame m #[(.int p1)] maxLocals)) t := fun t k => P45 _ (st46.trans k)
            obtain ⟨r, hr⟩ : ∃ z : Int32, z = (if w_NULL = w_BIGINT then (1 : Int32) else (if w_NULL = w_DOUBLE then (1 : Int32) else (if w_NULL = w_NULL then (1 : Int32) else (0 : Int32)))) := ⟨_, rfl⟩
            rw [← hr] at P47
            have re : r = (1 : Int32) := by rw [hr, if_neg (Fld.ne O_NULL O_BIGINT (by decide)), if_neg (Fld.ne O_NULL O_DOUBLE (by decide)), if_pos rfl]
            have P48 : ∀ t, Steps p.tables e below (T46.setTop (mkF m 96 #[.val (.int p1), .val (.int kx), .val (.ref w_NULL), .val (.int (1 : Int32))] [(.int (1 : Int32))])) t → Steps p.tables e below (s₁.setTop (entryFrame m #[(.int p1)] maxLocals)) t := by
              intro t k
              refine P47 _ ?_
              refine XS.iloadN X46.here hx rfl (hb hby at_87) rfl ?_
              show Steps p.tables e below (T46.setTop (mkF m 88 #[.val (.int p1), .val (.int kx), .val (.ref w_NULL), .val (.int (1 : Int32))] [(.int (1 : Int32)), (.int r)])) _
              refine XS.icmpNo X46.here hx rfl (hb hby at_88) rfl (XT.ii_ne_f re) ?_
              show Steps p.tables e below (T46.setTop (mkF m 91 #[.val (.int p1), .val (.int kx), .val (.ref w_NULL), .val (.int (1 : Int32))] [])) _
              refine XS.iconst X46.here hx rfl (hb hby at_91) ?_
              show Steps p.tables e below (T46.setTop (mkF m 92 #[.val (.int p1), .val (.int kx), .val (.ref w_NULL), .val (.int (1 : Int32))] [(.int (1 : Int32))])) _
              refine XS.goto X46.here hx rfl (pc0 := 92) (pc' := 96) rfl (hb hby at_92) (by decide) (by decide) ?_
              show Steps p.tables e below (T46.setTop (mkF m 96 #[.val (.int p1), .val (.int kx), .val (.ref w_NULL), .val (.int (1 : Int32))] [(.int (1 : Int32))])) _
              exact k
            obtain ⟨fs, hr, hrun, hended, hW, hsame⟩ := X46.leave (v := some (.int (1 : Int32))) (fun h => by rw [Bd.returns] at h; cases h)
            refine ⟨_, _, P48 _ ?_, hrun, hended, _, _, rfl, ?_, ⟨_, rfl⟩, hW, hsame.mono (by decide) (by decide)⟩
            · exact retN X46 hx (t := .boolean) Bd.returns (by simp) (hb hby at_96) hr
            · show Q0 Z p1 w_BIGINT w_DOUBLE w_VARCHAR w_BOOLEAN w_TIMESTAMP w_NULL h0 n0 _ T46.heap _
              rw [e46]
              exact ⟨rfl, N46⟩
set_option maxRecDepth 65536 in
set_option maxHeartbeats 40000000 in
theorem comes_1 {Post : Tables → Env → Array Value → State → Outcome → State → Prop} (hpost : ∀ tb e args s v u, (limb_1_1.after args s (.returned v) u = true ∧ limb_1_2.after args s (.returned v) u = true ∧ True) → FrameEnd s (.returned v) u (Jvm.fieldLocs frame_1_writes args s ++ Jvm.arrayLocs frame_1_arrays args s ++ Jvm.staticLocs frame_1_statics s) 0 0 → Post tb e args s (.returned v) u) :
    ArmFor flags0 classFile x code maxLocals ret World_1 tables_1 room_1 Calls_1 rest_1 Pre_1 Post := by
  intro l hfl _ _ p e ha hc hk s m args below hf hA hF happ hP
  obtain ⟨hcalls, hrest, hpre⟩ := hP
  obtain ⟨-, -, -, hnamed, -, -, -, hat⟩ := (Spec.applies_iff hf).mp happ
  obtain ⟨hg, hn⟩ := and_e (Cond.before_iff.mp (show (Jvm.Cond.and given_1 narrow_1).before args s = true from hpre))
  obtain ⟨g1, g2⟩ := and_e hg
  obtain ⟨w0, rfl⟩ : ∃ w0 : Value, args = #[w0] := by
    have hs : args.size = 1 := by simpa [Cond.value, given_1] using g1
    obtain ⟨L⟩ := args
    match L, hs with
    | [w0], _ => exact ⟨w0, rfl⟩
  have hw := fun d (hd : d ∈ tables_1) => atoms_spec (ws := Jvm.Cond.code x code maxLocals ret :: tables_1) hat d (List.mem_cons_of_mem _ hd)
  have hfit : Fit s := fun {y c} hc i hi => by
    obtain ⟨ha, rfl⟩ := Array.getElem?_eq_some_iff.mp hc
    have q := List.all_eq_true.mp ((Array.all_eq_true_iff_forall_mem.mp hF) _ (Array.getElem_mem ha)) i (List.mem_range.mpr hi)
    simpa [Array.getElem?_eq_getElem hi] using q
  obtain ⟨i0, ei0⟩ := is_v g2
  obtain rfl : w0 = (.int i0) := Option.some.inj ei0
  obtain ⟨t1, u1⟩ := and_e hn
  obtain ⟨t2, u2⟩ := and_e u1
  obtain ⟨t3, u3⟩ := and_e u2
  obtain ⟨t4, u4⟩ := and_e u3
  obtain ⟨t5, u5⟩ := and_e u4
  obtain ⟨t6, u6⟩ := and_e u5
  obtain ⟨t7, u7⟩ := and_e u6
  obtain ⟨t8, u8⟩ := and_e u7
  obtain ⟨t9, u9⟩ := and_e u8
  obtain ⟨t10, u10⟩ := and_e u9
  obtain ⟨t11, u11⟩ := and_e u10
  obtain ⟨w_BIGINT, ev_BIGINT⟩ := exa_v t1
  have E_BIGINT := Exa.start ev_BIGINT t1
  have S_BIGINT := Sta.start ev_BIGINT (Or.inr ⟨(hw _ (List.mem_of_getElem? (i := 2) rfl)), (hw _ (List.mem_of_getElem? (i := 3) rfl))⟩)
  have F_BIGINT_ordinal := own_fldI ev_BIGINT t4
  obtain ⟨w_DOUBLE, ev_DOUBLE⟩ := exa_v t5
  have E_DOUBLE := Exa.start ev_DOUBLE t5
  have S_DOUBLE := Sta.start ev_DOUBLE (Or.inr ⟨(hw _ (List.mem_of_getElem? (i := 2) rfl)), (hw _ (List.mem_of_getElem? (i := 13) rfl))⟩)
  have F_DOUBLE_ordinal := own_fldI ev_DOUBLE t6
  obtain ⟨w_VARCHAR, ev_VARCHAR⟩ := exa_v t9
  have E_VARCHAR := Exa.start ev_VARCHAR t9
  have S_VARCHAR := Sta.start ev_VARCHAR (Or.inr ⟨(hw _ (List.mem_of_getElem? (i := 2) rfl)), (hw _ (List.mem_of_getElem? (i := 17) rfl))⟩)
  have F_VARCHAR_ordinal := own_fldI ev_VARCHAR t10
  obtain ⟨w_BOOLEAN, ev_BOOLEAN⟩ := exa_v t2
  have E_BOOLEAN := Exa.start ev_BOOLEAN t2
  have S_BOOLEAN := Sta.start ev_BOOLEAN (Or.inr ⟨(hw _ (List.mem_of_getElem? (i := 2) rfl)), (hw _ (List.mem_of_getElem? (i := 11) rfl))⟩)
  have F_BOOLEAN_ordinal := own_fldI ev_BOOLEAN t3
  obtain ⟨w_TIMESTAMP, ev_TIMESTAMP⟩ := exa_v t11
  have E_TIMESTAMP := Exa.start ev_TIMESTAMP t11
  have S_TIMESTAMP := Sta.start ev_TIMESTAMP (Or.inr ⟨(hw _ (List.mem_of_getElem? (i := 2) rfl)), (hw _ (List.mem_of_getElem? (i := 21) rfl))⟩)
  have F_TIMESTAMP_ordinal := own_fldI ev_TIMESTAMP u11
  obtain ⟨w_NULL, ev_NULL⟩ := exa_v t7
  have E_NULL := Exa.start ev_NULL t7
  have S_NULL := Sta.start ev_NULL (Or.inr ⟨(hw _ (List.mem_of_getElem? (i := 2) rfl)), (hw _ (List.mem_of_getElem? (i := 15) rfl))⟩)
  have F_NULL_ordinal := own_fldI ev_NULL t8
  obtain ⟨n, o, h1, h2, h3, _, L, rfl, ⟨rfl, N⟩, hq⟩ := rm0 l s _ hw tables_1 i0 w_BIGINT w_DOUBLE w_VARCHAR w_BOOLEAN w_TIMESTAMP w_NULL s.heap s.heap.size (Nat.le_refl _) S_BIGINT S_DOUBLE S_VARCHAR S_BOOLEAN S_TIMESTAMP S_NULL E_BIGINT E_DOUBLE E_VARCHAR E_BOOLEAN E_TIMESTAMP E_NULL F_BIGINT_ordinal F_DOUBLE_ordinal F_VARCHAR_ordinal F_BOOLEAN_ordinal F_TIMESTAMP_ordinal F_NULL_ordinal p e ha hc hk s m _ below hf ((Spec.applies_iff_loose hf).mp happ).1 ⟨rfl, State.Warmed39.refl s, rfl⟩ trivial
  refine ⟨n, _, h1, h2, h3, hpost _ _ _ _ _ _ ⟨Cond.after_iff.mpr rfl, Cond.after_iff.mpr (eq_i res_at (Term.int_eval (1)) rfl), trivial⟩ ⟨hq.1, hq.2.1, (hq.2.2.sift fun y hy => Or.inr (N y hy)).mono (by decide) (by decide)⟩⟩
theorem main_1_1 : Claimed_1_1 := comes_1 fun _ _ _ _ _ _ h hF => ⟨h.1, hF⟩
theorem main_1_2 : Claimed_1_2 := comes_1 fun _ _ _ _ _ _ h hF => ⟨h.2.1, hF⟩
end Jvm.Pilot.@@N@@
namespace Jvm.Pilot.@@N@@
open Jvm Jvm.ClassFile Sem Op Lib Jvm.Free Jvm.Stand Jvm.Pilot.@@N@@.Jvm.D
/-! MADE BY PROGRAM (witnessworld.py) out of the Statement's table words and the real class files: 12 classes; the members and pool entries that the words name. The judged class is class 1, her method 1. -/
namespace start1
open Jvm.ClassFile
def u (s : String) : CpInfo := .utf8 (stringToUtf16 s)
/-- a pool by its gaps: so many unusable entries, then the entry; so many at the end -/
def gap : Nat → List CpInfo → List CpInfo
  | 0, r => r
  | n + 1, r => .unusable :: gap n r
def poolList (es : List (Nat × CpInfo)) (last : Nat) : List CpInfo := es.foldr (fun e r => gap e.1 (e.2 :: r)) (gap last [])
def pool (es : List (Nat × CpInfo)) (last : Nat) : Array CpInfo := ⟨poolList es last⟩
def fileOf (pool : Array CpInfo) (this : Nat) (attrs : Array Attribute := #[]) (ms : Array MethodInfo := #[]) (fl : Nat := 33) (sup : Nat := 0) (ifs : Array Nat := #[]) (fds : Array FieldInfo := #[]) : ClassFile where
  minorVersion := 0
  majorVersion := 65
  constantPool := pool
  accessFlags := fl
  thisClass := this
  superClass := sup
  interfaces := ifs
  fields := fds
  methods := ms
  attributes := attrs
def plain (name : String) (sup : Option ClassId) : Class where
  name := name
  kind := .ordinary
  loader := none
  accessFlags := 33
  super := sup
  interfaces := #[]
  cf := none
  fields := #[]
  methods := #[]
  instanceTypes := #[]
  staticTypes := #[]
  resolved := #[]
  callSites := []
  init := .initialized
  statics := none
  mirror := none

def pool0 : Array CpInfo := pool [(5, u "<init>"), (0, u "()V"), (1, .class_ 10), (1, u "java/lang/Object")] 113

def k0m0 : Method := { name := "<init>", desc := "()V", sig := { parameters := [], returnType := none }, accessFlags := 1, code := none }
/-- java/lang/Object -/
def k0 : Class := { plain "java/lang/Object" none with
  accessFlags := 33
  interfaces := #[]
  cf := some (fileOf pool0 8 #[] #[{ accessFlags := 1, nameIndex := 5, descriptorIndex := 6, attributes := #[] }] 33 0 #[] #[])
  fields := #[]
  methods := #[k0m0]
  instanceTypes := #[]
  staticTypes := #[]
  resolved := Array.replicate 124 none
  statics := none }

def pool1 : Array CpInfo := pool [(2, .class_ 4), (1, u "java/lang/Object"), (0, u "<init>"), (0, u "()V"), (0, .integer 2147483647), (0, .fieldref 9 10), (0, .class_ 11), (0, .nameAndType 12 13), (0, u "com/example/millrace/millrace/Type"), (0, u "BIGINT"), (0, u "Lcom/example/millrace/millrace/Type;"), (0, .fieldref 9 15), (0, .nameAndType 16 13), (0, u "DOUBLE"), (0, .fieldref 9 18), (0, .nameAndType 19 13), (0, u "VARCHAR"), (0, .fieldref 9 21), (0, .nameAndType 22 13), (0, u "BOOLEAN"), (0, .fieldref 9 24), (0, .nameAndType 25 13), (0, u "TIMESTAMP"), (0, .fieldref 9 27), (0, .nameAndType 28 13), (0, u "NULL"), (0, .methodref 9 30), (0, .nameAndType 31 32), (0, u "isNumeric"), (0, u "()Z"), (0, .class_ 34), (0, u "com/example/millrace/millrace/TypeIsNumericPinLaw"), (2, u "law"), (0, u "(I)Z")] 3

def k1m0 : Method := { name := "<init>", desc := "()V", sig := { parameters := [], returnType := none }, accessFlags := 1, code := none }
def k1c1 : Code := { maxStack := 2, maxLocals := 4, code := code, exceptionTable := #[], attributes := #[] }
def k1m1 : Method := { name := "law", desc := "(I)Z", sig := { parameters := [.int], returnType := some .boolean }, accessFlags := 9, code := some k1c1 }
/-- com/example/millrace/millrace/TypeIsNumericPinLaw -/
def k1 : Class := { plain "com/example/millrace/millrace/TypeIsNumericPinLaw" (some 0) with
  accessFlags := 49
  interfaces := #[]
  cf := some (fileOf pool1 33 #[] #[{ accessFlags := 1, nameIndex := 5, descriptorIndex := 6, attributes := #[] }, { accessFlags := 9, nameIndex := 37, descriptorIndex := 38, attributes := #[] }] 49 2 #[] #[])
  fields := #[]
  methods := #[k1m0, k1m1]
  instanceTypes := #[]
  staticTypes := #[]
  resolved := Array.replicate 42 none
  statics := none }

def pool2 : Array CpInfo := pool [(1, .class_ 2), (0, u "java/lang/constant/Constable"), (0, .class_ 4), (0, u "java/lang/Object")] 6

/-- java/lang/constant/Constable -/
def k2 : Class := { plain "java/lang/constant/Constable" (some 0) with
  accessFlags := 1537
  interfaces := #[]
  cf := some (fileOf pool2 1 #[] #[] 1537 3 #[] #[])
  fields := #[]
  methods := #[]
  instanceTypes := #[]
  staticTypes := #[]
  resolved := Array.replicate 11 none
  statics := none }

def pool3 : Array CpInfo := pool [(1, .class_ 2), (0, u "java/lang/Comparable"), (0, .class_ 4), (0, u "java/lang/Object")] 7

/-- java/lang/Comparable -/
def k3 : Class := { plain "java/lang/Comparable" (some 0) with
  accessFlags := 1537
  interfaces := #[]
  cf := some (fileOf pool3 1 #[] #[] 1537 3 #[] #[])
  fields := #[]
  methods := #[]
  instanceTypes := #[]
  staticTypes := #[]
  resolved := Array.replicate 12 none
  statics := none }

def pool4 : Array CpInfo := pool [(1, .class_ 2), (0, u "java/io/Serializable"), (0, .class_ 4), (0, u "java/lang/Object")] 2

/-- java/io/Serializable -/
def k4 : Class := { plain "java/io/Serializable" (some 0) with
  accessFlags := 1537
  interfaces := #[]
  cf := some (fileOf pool4 1 #[] #[] 1537 3 #[] #[])
  fields := #[]
  methods := #[]
  instanceTypes := #[]
  staticTypes := #[]
  resolved := Array.replicate 7 none
  statics := none }

def pool5 : Array CpInfo := pool [(2, .class_ 4), (1, u "java/lang/Enum"), (0, u "name"), (0, u "Ljava/lang/String;"), (2, u "ordinal"), (0, u "I"), (1, .class_ 14), (1, u "java/lang/Object"), (4, u "hash"), (86, .class_ 108), (1, u "java/lang/Enum$EnumDesc"), (2, .class_ 112), (0, u "java/lang/constant/Constable"), (0, .class_ 114), (0, u "java/lang/Comparable"), (0, .class_ 116), (0, u "java/io/Serializable")] 87

/-- java/lang/Enum -/
def k5 : Class := { plain "java/lang/Enum" (some 0) with
  accessFlags := 1057
  interfaces := #[2, 3, 4]
  cf := some (fileOf pool5 2 #[.nestMembers #[106]] #[] 1057 12 #[111, 113, 115] #[{ accessFlags := 18, nameIndex := 5, descriptorIndex := 6, attributes := #[] }, { accessFlags := 18, nameIndex := 9, descriptorIndex := 10, attributes := #[] }, { accessFlags := 2, nameIndex := 19, descriptorIndex := 10, attributes := #[] }])
  fields := #[{ name := "name", type := (.object "java/lang/String"), accessFlags := 18, slot := 0, constantValue := 0 }, { name := "ordinal", type := .int, accessFlags := 18, slot := 1, constantValue := 0 }, { name := "hash", type := .int, accessFlags := 2, slot := 2, constantValue := 0 }]
  methods := #[]
  instanceTypes := #[(.object "java/lang/String"), .int, .int]
  staticTypes := #[]
  resolved := Array.replicate 204 none
  statics := none }

def pool6 : Array CpInfo := pool [(1, .class_ 2), (0, u "com/example/millrace/millrace/Type"), (0, .fieldref 1 4), (0, .nameAndType 5 6), (0, u "BIGINT"), (0, u "Lcom/example/millrace/millrace/Type;"), (0, .fieldref 1 8), (0, .nameAndType 9 6), (0, u "DOUBLE"), (2, u "VARCHAR"), (2, u "BOOLEAN"), (2, u "TIMESTAMP"), (0, .fieldref 1 20), (0, .nameAndType 21 6), (0, u "NULL"), (2, u "$VALUES"), (0, u "[Lcom/example/millrace/millrace/Type;"), (6, .class_ 34), (1, u "java/lang/Enum"), (8, u "javaClass"), (0, u "Ljava/lang/Class;"), (35, u "isNumeric"), (0, u "()Z")] 6

def k6c0 : Code := { maxStack := 2, maxLocals := 1, code := prog_12_method_5_code, exceptionTable := #[], attributes := #[] }
def k6m0 : Method := { name := "isNumeric", desc := "()Z", sig := { parameters := [], returnType := some .boolean }, accessFlags := 1, code := some k6c0 }
/-- com/example/millrace/millrace/Type -/
def k6 : Class := { plain "com/example/millrace/millrace/Type" (some 5) with
  accessFlags := 16433
  interfaces := #[]
  cf := some (fileOf pool6 1 #[] #[{ accessFlags := 1, nameIndex := 80, descriptorIndex := 81, attributes := #[] }] 16433 32 #[] #[{ accessFlags := 16409, nameIndex := 5, descriptorIndex := 6, attributes := #[] }, { accessFlags := 16409, nameIndex := 9, descriptorIndex := 6, attributes := #[] }, { accessFlags := 16409, nameIndex := 12, descriptorIndex := 6, attributes := #[] }, { accessFlags := 16409, nameIndex := 15, descriptorIndex := 6, attributes := #[] }, { accessFlags := 16409, nameIndex := 18, descriptorIndex := 6, attributes := #[] }, { accessFlags := 16409, nameIndex := 21, descriptorIndex := 6, attributes := #[] }, { accessFlags := 18, nameIndex := 43, descriptorIndex := 44, attributes := #[] }, { accessFlags := 4122, nameIndex := 24, descriptorIndex := 25, attributes := #[] }])
  fields := #[{ name := "BIGINT", type := (.object "com/example/millrace/millrace/Type"), accessFlags := 16409, slot := 0, constantValue := 0 }, { name := "DOUBLE", type := (.object "com/example/millrace/millrace/Type"), accessFlags := 16409, slot := 1, constantValue := 0 }, { name := "VARCHAR", type := (.object "com/example/millrace/millrace/Type"), accessFlags := 16409, slot := 2, constantValue := 0 }, { name := "BOOLEAN", type := (.object "com/example/millrace/millrace/Type"), accessFlags := 16409, slot := 3, constantValue := 0 }, { name := "TIMESTAMP", type := (.object "com/example/millrace/millrace/Type"), accessFlags := 16409, slot := 4, constantValue := 0 }, { name := "NULL", type := (.object "com/example/millrace/millrace/Type"), accessFlags := 16409, slot := 5, constantValue := 0 }, { name := "javaClass", type := (.object "java/lang/Class"), accessFlags := 18, slot := 3, constantValue := 0 }, { name := "$VALUES", type := (.array (.object "com/example/millrace/millrace/Type")), accessFlags := 4122, slot := 6, constantValue := 0 }]
  methods := #[k6m0]
  instanceTypes := #[(.object "java/lang/String"), .int, .int, (.object "java/lang/Class")]
  staticTypes := #[(.object "com/example/millrace/millrace/Type"), (.object "com/example/millrace/millrace/Type"), (.object "com/example/millrace/millrace/Type"), (.object "com/example/millrace/millrace/Type"), (.object "com/example/millrace/millrace/Type"), (.object "com/example/millrace/millrace/Type"), (.array (.object "com/example/millrace/millrace/Type"))]
  resolved := Array.replicate 88 none
  statics := some 0 }

def pool7 : Array CpInfo := pool [(1, u "java/lang/Cloneable"), (0, .class_ 1), (0, u "java/lang/Object"), (0, .class_ 3)] 3

/-- java/lang/Cloneable -/
def k7 : Class := { plain "java/lang/Cloneable" (some 0) with
  accessFlags := 1537
  interfaces := #[]
  cf := some (fileOf pool7 2 #[] #[] 1537 4 #[] #[])
  fields := #[]
  methods := #[]
  instanceTypes := #[]
  staticTypes := #[]
  resolved := Array.replicate 8 none
  statics := none }

/-- the primitive byte -/
def k8 : Class := { plain "byte" none with kind := .primitive 'B', accessFlags := 0x411 }
/-- [B -/
def k9 : Class := { plain "[B" (some 0) with kind := .array 8 .byte, interfaces := #[7, 4], accessFlags := 1041 }

/-- the primitive int -/
def k10 : Class := { plain "int" none with kind := .primitive 'I', accessFlags := 0x411 }
/-- [I -/
def k11 : Class := { plain "[I" (some 0) with kind := .array 10 .int, interfaces := #[7, 4], accessFlags := 1041 }

def heap : Heap := #[{ cls := 6, slots := #[.ref 1, .ref 2, .ref 3, .ref 4, .ref 5, .ref 6, .null], vm := .statics 6 },
  { cls := 6, slots := #[.null, .int 0, .int 0, .null], vm := .none },
  { cls := 6, slots := #[.null, .int 1, .int 0, .null], vm := .none },
  { cls := 6, slots := #[.null, .int 2, .int 0, .null], vm := .none },
  { cls := 6, slots := #[.null, .int 3, .int 0, .null], vm := .none },
  { cls := 6, slots := #[.null, .int 4, .int 0, .null], vm := .none },
  { cls := 6, slots := #[.null, .int 5, .int 0, .null], vm := .none }]
def classes : Array Class := #[k0, k1, k2, k3, k4, k5, k6, k7, k8, k9, k10, k11]
def interned : List (Array UInt16 × Addr) := []
def slotsUsed : Nat := 31
def theMethod : MethodId := ⟨1, 1⟩
def args0 : Array Value := #[.int 5]
def aboutOver (below : List Frame) : State where
  vm := { classes := classes, interned := interned.toArray }
  heap := heap
  slotsUsed := slotsUsed
  threads := #[{ frames := .invoking theMethod args0 :: below }]
def below0 : List Frame := [.native { method := ⟨0, 0⟩, args := #[] }]
def about1 : State := aboutOver below0
def p0 : Program := .bare "" "" ""
def e0 : Env := launch0.env 0 0 0
theorem w_frames : about1.frames = Frame.invoking theMethod args0 :: below0 := rfl
set_option maxRecDepth 65536 in
theorem w_args : argsFit about1.vm theMethod args0 = true := by decide +kernel
set_option maxRecDepth 65536 in
theorem w_heap : heapFits about1 = true := by decide +kernel
set_option maxRecDepth 65536 in
theorem w_runnable : about1.curStatus? = some .runnable := by decide +kernel
set_option maxRecDepth 65536 in
theorem w_alone : about1.alone = true := by decide +kernel
set_option maxRecDepth 65536 in
theorem w_named : about1.methodNamed? x = some theMethod := by decide +kernel
set_option maxRecDepth 65536 in
theorem w_hears : about1.hears theMethod below0 = true := by decide +kernel
set_option maxRecDepth 65536 in
theorem w_ripe : about1.ripe theMethod args0 below0 = true := by decide +kernel
theorem w_running : about1.status = .running := rfl
set_option maxRecDepth 65536 in
theorem w_room : about1.hasRoom e0.platform room_1 = true :=
  launch0.hasRoom_least _ room_1 (by decide +kernel) (by decide +kernel) (by decide +kernel) (by decide +kernel) (by decide +kernel) (by decide +kernel)
theorem allAtoms_all (ts : List Jvm.Cond) (a : Array Jvm.Value) (st : Jvm.State) : (allAtoms ts).before a st = ts.all (fun c => c.before a st) := by
  induction ts with
  | nil => rfl
  | cons c t ih =>
    show (Jvm.Cond.and c (allAtoms t)).before a st = _
    rw [Jvm.Cond.before_and, ih, List.all_cons]
def words1 : List Jvm.Cond := Jvm.Cond.code x code maxLocals ret :: tables_1
/-- a 'code' word, met by the world's own term for the bytes: nothing is compared byte by byte -/
theorem code_word {y : MethodName} {bytes : ByteArray} {mx : Nat} {rt : Option FieldType} {a : Array Value} {s : State} {m : MethodId} {meth : Method} {c : Code} (h1 : s.methodNamed? y = some m) (h2 : s.vm.method? m = some meth) (h3 : meth.code = some c) (h4 : c.code = bytes)
    (h5 : (c.maxLocals == mx && c.exceptionTable.isEmpty && decide (c.maxStack ≤ mostOperands) && decide (meth.sig.returnType = rt) && !meth.locks && decide (parseMethodDescriptor y.desc = some meth.sig)) = true) : (Jvm.Cond.code y bytes mx rt).before a s = true := by
  simp only [Bool.and_eq_true, beq_iff_eq, Bool.not_eq_true', decide_eq_true_eq] at h5
  obtain ⟨⟨⟨⟨⟨g1, g2⟩, g3⟩, g4⟩, g5⟩, g6⟩ := h5
  simp [Cond.before, Cond.holds, Cond.value, h1, h2, h3, h4, g1, g2, g3, g4, g5, g6]
def isCode : Jvm.Cond → Bool
  | .code _ _ _ _ => true
  | _ => false
theorem all_split {L : List Jvm.Cond} {P : Jvm.Cond → Bool} (h1 : L.all (fun c => isCode c || P c) = true) (h2 : ∀ c ∈ L.filter isCode, P c = true) : L.all P = true := by
  refine List.all_eq_true.mpr fun c hc => ?_
  have h := List.all_eq_true.mp h1 c hc
  rcases Bool.eq_false_or_eq_true (isCode c) with hi | hi
  · exact h2 c (List.mem_filter.mpr ⟨hc, hi⟩)
  · simpa [hi] using h
set_option maxRecDepth 65536 in
theorem w_c0 : (Jvm.Cond.code x code maxLocals ret).before args0 about1 = true := code_word (m := ⟨1, 1⟩) (meth := k1m1) (c := k1c1) (by decide +kernel) rfl rfl rfl (by decide +kernel)
set_option maxRecDepth 65536 in
theorem w_c1 : (Jvm.Cond.code ({ cls := "com/example/millrace/millrace/Type", name := "isNumeric", desc := "()Z" } : Jvm.MethodName) prog_12_method_5_code (1 : Nat) (Option.some Jvm.ClassFile.FieldType.boolean)).before args0 about1 = true := code_word (m := ⟨6, 0⟩) (meth := k6m0) (c := k6c0) (by decide +kernel) rfl rfl rfl (by decide +kernel)
def codes1 : List Jvm.Cond := [Jvm.Cond.code x code maxLocals ret, Jvm.Cond.code ({ cls := "com/example/millrace/millrace/Type", name := "isNumeric", desc := "()Z" } : Jvm.MethodName) prog_12_method_5_code (1 : Nat) (Option.some Jvm.ClassFile.FieldType.boolean)]
set_option maxRecDepth 65536 in
theorem codes_eq : words1.filter isCode = codes1 := rfl
theorem w_codes : ∀ c ∈ words1.filter isCode, c.before args0 about1 = true := by
  rw [codes_eq]
  intro c hc
  simp only [codes1, List.mem_cons, List.not_mem_nil, or_false] at hc
  rcases hc with rfl | rfl
  · exact w_c0
  · exact w_c1
set_option maxRecDepth 65536 in
theorem w_t1 : words1.all (fun c => isCode c || c.before args0 about1) = true := by decide +kernel
theorem w_tables : (allAtoms (Jvm.Cond.code x code maxLocals ret :: tables_1)).before args0 about1 = true := by
  rw [allAtoms_all]
  show words1.all (fun c => c.before args0 about1) = true
  refine all_split ?_ w_codes
  rw [w_t1]
set_option maxRecDepth 65536 in
theorem w_case : (Jvm.Cond.and given_1 narrow_1).before args0 about1 = true := by decide +kernel
theorem w_applies : (headSpec (Jvm.Cond.code x code maxLocals ret :: tables_1) room_1).applies x e0.platform about1 = true :=
  (Spec.applies_iff w_frames).mpr ⟨w_running, w_runnable, w_alone, w_named, w_hears, w_ripe, w_room, w_tables⟩
theorem atStart : AtStart classFile x code maxLocals ret World_1 tables_1 room_1 Calls_1 rest_1 Pre_1 launch0 p0 e0 about1 theMethod args0 below0 :=
  ⟨lists_1, trivial, launch0.admits_env _ _ _, launch0.least_env, fairChoices_fair.cas, fairChoices_fair.clock, w_frames, w_args, w_heap, w_applies, trivial, trivial, w_case⟩
end start1
theorem witness_1 : WitnessClaimed_1 := ⟨start1.p0, start1.e0, start1.about1, start1.theMethod, start1.args0, start1.below0, start1.atStart⟩
end Jvm.Pilot.@@N@@

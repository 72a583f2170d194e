import JvmDerived
import JvmDerived.Pilot.@@N@@Statement
import JvmDerived.Pilot.@@N@@Code
set_option linter.unusedVariables false
set_option linter.unusedSimpArgs false
namespace Jvm.RoadKit
open Sem ClassFile Op Lib Jvm.Stand Jvm.Free Jvm.LawKit
section New
variable {p : Program} {l : Launch} {e : Env} {R : Room} {s : State} {m : MethodId} {args : Array Value} {below : List Frame} {meth : Method} {c : Code} {T : State} {locs : List Loc} {cells slots : Nat}
theorem retI (X : Stand p l e R s m args below meth c T locs cells slots) (hx : p.tables.exec = Jvm.exec) {pc : Nat} {Ls : Array Slot} {z : Int32} {rest : List Value} (hret : meth.sig.returnType = some .int) (hd : decode c.code pc = .ok (.ireturn, 1)) {fs : List Frame}
    (hl : ∀ (f : JFrame) (acts : List Action), f.method = m → f.locked = none → f.entered = [] → (doReturn e (T.setTop f) acts (some (.int z))).1 = T.setFrames fs) : Steps p.tables e below (T.setTop (mkF m pc Ls (.int z :: rest))) (T.setFrames fs) := by
  have hm' : T.vm.method? m = some meth := X.method'
  have hn : narrow .int (.int z) = .int z := rfl
  show Steps p.tables e below (T.setTop { method := m, pc := pc, locals := Ls, stack := _ :: rest, locked := none }) _
  jvm_step X.here [X.here.top, hx, hd, hm', hret, hn]
  first | (intro acts; rw [hl _ acts rfl rfl rfl]) | rw [hl _ _ rfl rfl rfl]
  exact Steps.refl _
end New
end Jvm.RoadKit
namespace Jvm.Pilot.@@N@@
open Jvm Jvm.ClassFile Sem Op Lib Jvm.Free Jvm.Stand Jvm.LawKit Jvm.RoadKit Bundle Jvm.Pilot.@@N@@.Jvm.D

theorem own_nb {c : Prop} [Decidable c] : nar .boolean (if c then (1 : Int32) else (0 : Int32)) = (if c then (1 : Int32) else (0 : Int32)) := by
  by_cases h : c
  · rw [if_pos h]; rfl
  · rw [if_neg h]; rfl
theorem own_n1 : nar .boolean (1 : Int32) = (1 : Int32) := rfl
theorem own_n0 : nar .boolean (0 : Int32) = (0 : Int32) := rfl

theorem own_pos {x y : Int32} (h : x = y &&& (2147483647 : Int32)) : ¬ x < (0 : Int32) := by
  have := c_mask y 2147483647 31 (by decide) (by decide)
  rw [← h] at this
  rw [Int32.lt_iff_toInt_lt]
  show ¬ x.toInt < 0
  omega
theorem own_rem {x y d : Int32} {D : Int} (h : x = (y &&& (2147483647 : Int32)) % d) (hd : d.toInt = D) (hD : 0 < D) : 0 ≤ x.toInt ∧ x.toInt < D := by
  have h1 := c_mask y 2147483647 31 (by decide) (by decide)
  have h2 := c_iremV (y &&& 2147483647) d
  rw [← h, hd] at h2
  have h3 := h2.1 (by omega) hD
  omega

theorem own_fldI {args : Array Value} {s : State} {t : Jvm.Term} {x : Addr} {C n d : String} {k : Int32} (ht : t.eval args s none [] s = some (.ref x)) (h : (Jvm.Cond.eq (Jvm.Term.field t C n d) (Jvm.Term.int k)).value args s none s [] = some true) : Fld s s.heap x C n d (.int k) := by
  have e1 := fld_at (C := C) (n := n) (dd := d) ht
  cases hf : s.fieldOf? x C n d with
  | none => rw [hf] at e1; simp [Jvm.Cond.value, e1] at h
  | some u =>
    rw [hf] at e1
    have e2 : (Jvm.Term.int k).eval args s none [] s = some (.int k) := rfl
    cases u <;> simp [Jvm.Cond.value, e1, e2] at h
    subst h
    exact Fld.start hf
theorem own_fldN {args : Array Value} {s : State} {t : Jvm.Term} {x : Addr} {C n d : String} (ht : t.eval args s none [] s = some (.ref x)) (h : (Jvm.Cond.eq (Jvm.Term.field t C n d) Jvm.Term.null).value args s none s [] = some true) : Fld s s.heap x C n d .null := by
  have e1 := fld_at (C := C) (n := n) (dd := d) ht
  have e2 := null_v h
  exact Fld.start (e1.symm.trans e2)
theorem own_fldR {args : Array Value} {s : State} {t u : Jvm.Term} {x y : Addr} {C n d : String} (ht : t.eval args s none [] s = some (.ref x)) (hu : u.eval args s none [] s = some (.ref y)) (h : (Jvm.Cond.eq (Jvm.Term.field t C n d) u).value args s none s [] = some true) : Fld s s.heap x C n d (.ref y) := by
  have e1 := fld_at (C := C) (n := n) (dd := d) ht
  cases hf : s.fieldOf? x C n d with
  | none => rw [hf] at e1; simp [Jvm.Cond.value, e1] at h
  | some w =>
    rw [hf] at e1
    cases w <;> simp [Jvm.Cond.value, e1, hu] at h
    subst h
    exact Fld.start hf
theorem own_fldJ {args : Array Value} {s : State} {t : Jvm.Term} {x : Addr} {C n d : String} {k : Int64} (ht : t.eval args s none [] s = some (.ref x)) (h : (Jvm.Cond.eq (Jvm.Term.field t C n d) (Jvm.Term.long k)).value args s none s [] = some true) : Fld s s.heap x C n d (.long k) := by
  have e1 := fld_at (C := C) (n := n) (dd := d) ht
  cases hf : s.fieldOf? x C n d with
  | none => rw [hf] at e1; simp [Jvm.Cond.value, e1] at h
  | some u =>
    rw [hf] at e1
    have e2 : (Jvm.Term.long k).eval args s none [] s = some (.long k) := rfl
    cases u <;> simp [Jvm.Cond.value, e1, e2] at h
    subst h
    exact Fld.start hf

theorem pd_0 : parseMethodDescriptor "(I)Lcom/example/prudent_checker/prudentchecker/smv/Operator$Binding;" = some ⟨[.int], some (.object "com/example/prudent_checker/prudentchecker/smv/Operator$Binding")⟩ := by decide +kernel
theorem pd_1 : parseMethodDescriptor "()Z" = some ⟨[], some .boolean⟩ := by decide +kernel
theorem d2_0 : decode method_2_code 0 = .ok (.iload_n 0, 1) := by decide +kernel
theorem d2_1 : decode method_2_code 1 = .ok (.ifCond .ne 7, 3) := by decide +kernel
theorem d2_4 : decode method_2_code 4 = .ok (.getstatic 7, 3) := by decide +kernel
theorem d2_7 : decode method_2_code 7 = .ok (.areturn, 1) := by decide +kernel
theorem d2_8 : decode method_2_code 8 = .ok (.iload_n 0, 1) := by decide +kernel
theorem d2_9 : decode method_2_code 9 = .ok (.iconst 1, 1) := by decide +kernel
theorem d2_10 : decode method_2_code 10 = .ok (.if_icmp .ne 7, 3) := by decide +kernel
theorem d2_13 : decode method_2_code 13 = .ok (.getstatic 13, 3) := by decide +kernel
theorem d2_16 : decode method_2_code 16 = .ok (.areturn, 1) := by decide +kernel
theorem d2_17 : decode method_2_code 17 = .ok (.iload_n 0, 1) := by decide +kernel
theorem d2_18 : decode method_2_code 18 = .ok (.iconst 2, 1) := by decide +kernel
theorem d2_19 : decode method_2_code 19 = .ok (.if_icmp .ne 7, 3) := by decide +kernel
theorem d2_22 : decode method_2_code 22 = .ok (.getstatic 16, 3) := by decide +kernel
theorem d2_25 : decode method_2_code 25 = .ok (.areturn, 1) := by decide +kernel
theorem d2_26 : decode method_2_code 26 = .ok (.iload_n 0, 1) := by decide +kernel
theorem d2_27 : decode method_2_code 27 = .ok (.iconst 3, 1) := by decide +kernel
theorem d2_28 : decode method_2_code 28 = .ok (.if_icmp .ne 7, 3) := by decide +kernel
theorem d2_31 : decode method_2_code 31 = .ok (.getstatic 19, 3) := by decide +kernel
theorem d2_34 : decode method_2_code 34 = .ok (.areturn, 1) := by decide +kernel
theorem d2_35 : decode method_2_code 35 = .ok (.iload_n 0, 1) := by decide +kernel
theorem d2_36 : decode method_2_code 36 = .ok (.iconst 4, 1) := by decide +kernel
theorem d2_37 : decode method_2_code 37 = .ok (.if_icmp .ne 7, 3) := by decide +kernel
theorem d2_40 : decode method_2_code 40 = .ok (.getstatic 22, 3) := by decide +kernel
theorem d2_43 : decode method_2_code 43 = .ok (.areturn, 1) := by decide +kernel
theorem d2_44 : decode method_2_code 44 = .ok (.iload_n 0, 1) := by decide +kernel
theorem d2_45 : decode method_2_code 45 = .ok (.iconst 5, 1) := by decide +kernel
theorem d2_46 : decode method_2_code 46 = .ok (.if_icmp .ne 7, 3) := by decide +kernel
theorem d2_49 : decode method_2_code 49 = .ok (.getstatic 25, 3) := by decide +kernel
theorem d2_52 : decode method_2_code 52 = .ok (.areturn, 1) := by decide +kernel
theorem d2_53 : decode method_2_code 53 = .ok (.iload_n 0, 1) := by decide +kernel
theorem d2_54 : decode method_2_code 54 = .ok (.bipush 6, 2) := by decide +kernel
theorem d2_56 : decode method_2_code 56 = .ok (.if_icmp .ne 7, 3) := by decide +kernel
theorem d2_59 : decode method_2_code 59 = .ok (.getstatic 28, 3) := by decide +kernel
theorem d2_62 : decode method_2_code 62 = .ok (.areturn, 1) := by decide +kernel
theorem d2_63 : decode method_2_code 63 = .ok (.iload_n 0, 1) := by decide +kernel
theorem d2_64 : decode method_2_code 64 = .ok (.bipush 7, 2) := by decide +kernel
theorem d2_66 : decode method_2_code 66 = .ok (.if_icmp .ne 7, 3) := by decide +kernel
theorem d2_69 : decode method_2_code 69 = .ok (.getstatic 31, 3) := by decide +kernel
theorem d2_72 : decode method_2_code 72 = .ok (.areturn, 1) := by decide +kernel
theorem d2_73 : decode method_2_code 73 = .ok (.iload_n 0, 1) := by decide +kernel
theorem d2_74 : decode method_2_code 74 = .ok (.bipush 8, 2) := by decide +kernel
theorem d2_76 : decode method_2_code 76 = .ok (.if_icmp .ne 7, 3) := by decide +kernel
theorem d2_79 : decode method_2_code 79 = .ok (.getstatic 34, 3) := by decide +kernel
theorem d2_82 : decode method_2_code 82 = .ok (.areturn, 1) := by decide +kernel
theorem d2_83 : decode method_2_code 83 = .ok (.getstatic 37, 3) := by decide +kernel
theorem d2_86 : decode method_2_code 86 = .ok (.areturn, 1) := by decide +kernel
theorem pn_2 : plainName "com/example/prudent_checker/prudentchecker/smv/BindingGroupsRightPinLaw" = true := by first | (simp [plainName, overriddenIn]; done) | decide +kernel
theorem ef_2 (m : MethodId) (x0 : Int32) : entryFrame m #[(.int x0)] 1 = mkF m 0 #[.val (.int x0)] [] := by first | (simp [entryFrame, mkF, argsToLocals, Value.category]; done) | rfl
def Q2 (Z : State) (p1 : Int32) (w_IMPLICATION : Addr) (w_EQUIVALENCE : Addr) (w_DISJUNCTION : Addr) (w_CONJUNCTION : Addr) (w_UNTIL : Addr) (w_TEMPORAL : Addr) (w_COMPARISON : Addr) (w_SUM : Addr) (w_PRODUCT : Addr) (w_NEGATION : Addr) (h0 : Heap) (n0 : Nat) (v : Option Value) (h : Heap) (L : List Loc) : Prop := ∃ b : Addr, v = some (.ref b) ∧ Fr n0 L ∧ h = h0 ∧ Exa Z h0 b "com/example/prudent_checker/prudentchecker/smv/Operator$Binding" ∧ ((p1 = (0 : Int32) ∧ b = w_IMPLICATION) ∨ (¬ p1 = (0 : Int32) ∧ ¬ b = w_IMPLICATION))
set_option maxRecDepth 65536 in
set_option maxHeartbeats 40000000 in
theorem rm2 (l : Launch) (Z : State) (a0 : Array Value) (hw : ∀ d ∈ tables_1, d.before a0 Z = true) (ws : List Jvm.Cond) (p1 : Int32) (w_IMPLICATION : Addr) (w_EQUIVALENCE : Addr) (w_DISJUNCTION : Addr) (w_CONJUNCTION : Addr) (w_UNTIL : Addr) (w_TEMPORAL : Addr) (w_COMPARISON : Addr) (w_SUM : Addr) (w_PRODUCT : Addr) (w_NEGATION : Addr) (h0 : Heap) (n0 : Nat) (Z0 : n0 ≤ h0.size) (S_IMPLICATION : Sta Z h0 "com/example/prudent_checker/prudentchecker/smv/Operator$Binding" "IMPLICATION" "Lcom/example/prudent_checker/prudentchecker/smv/Operator$Binding;" (.ref w_IMPLICATION)) (S_EQUIVALENCE : Sta Z h0 "com/example/prudent_checker/prudentchecker/smv/Operator$Binding" "EQUIVALENCE" "Lcom/example/prudent_checker/prudentchecker/smv/Operator$Binding;" (.ref w_EQUIVALENCE)) (S_DISJUNCTION : Sta Z h0 "com/example/prudent_checker/prudentchecker/smv/Operator$Binding" "DISJUNCTION" "Lcom/example/prudent_checker/prudentchecker/smv/Operator$Binding;" (.ref w_DISJUNCTION)) (S_CONJUNCTION : Sta Z h0 "com/example/prudent_checker/prudentchecker/smv/Operator$Binding" "CONJUNCTION" "Lcom/example/prudent_checker/prudentchecker/smv/Operator$Binding;" (.ref w_CONJUNCTION)) (S_UNTIL : Sta Z h0 "com/example/prudent_checker/prudentchecker/smv/Operator$Binding" "UNTIL" "Lcom/example/prudent_checker/prudentchecker/smv/Operator$Binding;" (.ref w_UNTIL)) (S_TEMPORAL : Sta Z h0 "com/example/prudent_checker/prudentchecker/smv/Operator$Binding" "TEMPORAL" "Lcom/example/prudent_checker/prudentchecker/smv/Operator$Binding;" (.ref w_TEMPORAL)) (S_COMPARISON : Sta Z h0 "com/example/prudent_checker/prudentchecker/smv/Operator$Binding" "COMPARISON" "Lcom/example/prudent_checker/prudentchecker/smv/Operator$Binding;" (.ref w_COMPARISON)) (S_SUM : Sta Z h0 "com/example/prudent_checker/prudentchecker/smv/Operator$Binding" "SUM" "Lcom/example/prudent_checker/prudentchecker/smv/Operator$Binding;" (.ref w_SUM)) (S_PRODUCT : Sta Z h0 "com/example/prudent_checker/prudentchecker/smv/Operator$Binding" "PRODUCT" "Lcom/example/prudent_checker/prudentchecker/smv/Operator$Binding;" (.ref w_PRODUCT)) (S_NEGATION : Sta Z h0 "com/example/prudent_checker/prudentchecker/smv/Operator$Binding" "NEGATION" "Lcom/example/prudent_checker/prudentchecker/smv/Operator$Binding;" (.ref w_NEGATION)) (E_IMPLICATION : Exa Z h0 w_IMPLICATION "com/example/prudent_checker/prudentchecker/smv/Operator$Binding") (E_EQUIVALENCE : Exa Z h0 w_EQUIVALENCE "com/example/prudent_checker/prudentchecker/smv/Operator$Binding") (E_DISJUNCTION : Exa Z h0 w_DISJUNCTION "com/example/prudent_checker/prudentchecker/smv/Operator$Binding") (E_CONJUNCTION : Exa Z h0 w_CONJUNCTION "com/example/prudent_checker/prudentchecker/smv/Operator$Binding") (E_UNTIL : Exa Z h0 w_UNTIL "com/example/prudent_checker/prudentchecker/smv/Operator$Binding") (E_TEMPORAL : Exa Z h0 w_TEMPORAL "com/example/prudent_checker/prudentchecker/smv/Operator$Binding") (E_COMPARISON : Exa Z h0 w_COMPARISON "com/example/prudent_checker/prudentchecker/smv/Operator$Binding") (E_SUM : Exa Z h0 w_SUM "com/example/prudent_checker/prudentchecker/smv/Operator$Binding") (E_PRODUCT : Exa Z h0 w_PRODUCT "com/example/prudent_checker/prudentchecker/smv/Operator$Binding") (E_NEGATION : Exa Z h0 w_NEGATION "com/example/prudent_checker/prudentchecker/smv/Operator$Binding") (O_IMPLICATION : Fld Z h0 w_IMPLICATION "java/lang/Enum" "ordinal" "I" (.int (0 : Int32))) (O_EQUIVALENCE : Fld Z h0 w_EQUIVALENCE "java/lang/Enum" "ordinal" "I" (.int (1 : Int32))) (O_DISJUNCTION : Fld Z h0 w_DISJUNCTION "java/lang/Enum" "ordinal" "I" (.int (2 : Int32))) (O_CONJUNCTION : Fld Z h0 w_CONJUNCTION "java/lang/Enum" "ordinal" "I" (.int (3 : Int32))) (O_UNTIL : Fld Z h0 w_UNTIL "java/lang/Enum" "ordinal" "I" (.int (4 : Int32))) (O_TEMPORAL : Fld Z h0 w_TEMPORAL "java/lang/Enum" "ordinal" "I" (.int (5 : Int32))) (O_COMPARISON : Fld Z h0 w_COMPARISON "java/lang/Enum" "ordinal" "I" (.int (6 : Int32))) (O_SUM : Fld Z h0 w_SUM "java/lang/Enum" "ordinal" "I" (.int (7 : Int32))) (O_PRODUCT : Fld Z h0 w_PRODUCT "java/lang/Enum" "ordinal" "I" (.int (8 : Int32))) (O_NEGATION : Fld Z h0 w_NEGATION "java/lang/Enum" "ordinal" "I" (.int (9 : Int32))) :
    MetFree l (⟨"com/example/prudent_checker/prudentchecker/smv/BindingGroupsRightPinLaw", "pick", "(I)Lcom/example/prudent_checker/prudentchecker/smv/Operator$Binding;"⟩ : MethodName) (head1 (Jvm.Cond.code (⟨"com/example/prudent_checker/prudentchecker/smv/BindingGroupsRightPinLaw", "pick", "(I)Lcom/example/prudent_checker/prudentchecker/smv/Operator$Binding;"⟩ : MethodName) method_2_code 1 (some (.object "com/example/prudent_checker/prudentchecker/smv/Operator$Binding")) :: ws) ({ frames := 0, cells := 0, slots := 0, locals := 0 } : Room)) (fun a U => a = #[(.int p1)] ∧ Z.Warmed39 U.vm ∧ U.heap = h0) (fun _ _ _ _ _ => True) (fun _ U o U' => ∃ v L, o = .returned v ∧ Q2 Z p1 w_IMPLICATION w_EQUIVALENCE w_DISJUNCTION w_CONJUNCTION w_UNTIL w_TEMPORAL w_COMPARISON w_SUM w_PRODUCT w_NEGATION h0 n0 v U'.heap L ∧ FrameEnd U o U' L ({ frames := 0, cells := 0, slots := 0, locals := 0 } : Room).cells ({ frames := 0, cells := 0, slots := 0, locals := 0 } : Room).slots) := by
  refine MetFree.of_bodySF (plainFor_of_name pn_2) hisR ?_
  intro p e s m args below meth c s₁ Bd hml0 hP hK
  obtain ⟨rfl, hZ, hh⟩ := hP
  have hx := Bd.exec
  have hby := Bd.bytes
  have hml : c.maxLocals = 1 := hml0
  have hown : s.vm.findClass "com/example/prudent_checker/prudentchecker/smv/BindingGroupsRightPinLaw" = some m.cls := findClass_of_methodNamed Bd.named
  have hnm := (name_of_methodNamed Bd.named Bd.method).1
  have X0 : Stand p l e ({ frames := 0, cells := 0, slots := 0, locals := 0 } : Room) s m #[(.int p1)] below meth c s₁ [] 0 0 := Stand.of_body Bd
  have e0 : s₁.heap = h0 := by rw [← hh, Bd.state]; rfl
  have N0 := Fr.nil n0
  have K0 : Keep h0 h0 [] := Keep.refl _ _
  have P0 : ∀ t, Steps p.tables e below (s₁.setTop (mkF m 0 #[.val (.int p1)] [])) t → Steps p.tables e below (s₁.setTop (entryFrame m #[(.int p1)] 1)) t := fun t k => castTop (ef_2 m p1) k
  have P1 : ∀ t, Steps p.tables e below (s₁.setTop (mkF m 1 #[.val (.int p1)] [(.int p1)])) t → Steps p.tables e below (s₁.setTop (entryFrame m #[(.int p1)] 1)) t := by
    intro t k
    refine P0 _ ?_
    refine XS.iloadN X0.here hx rfl (hb hby d2_0) rfl ?_
    show Steps p.tables e below (s₁.setTop (mkF m 1 #[.val (.int p1)] [(.int p1)])) _
    exact k
  by_cases c1 : p1 = (0 : Int32)
  · have P2 : ∀ t, Steps p.tables e below (s₁.setTop (mkF m 4 #[.val (.int p1)] [])) t → Steps p.tables e below (s₁.setTop (entryFrame m #[(.int p1)] 1)) t := by
      intro t k
      refine P1 _ ?_
      refine XS.ifNo X0.here hx rfl (hb hby d2_1) rfl (XT.i0_ne_f c1) ?_
      show Steps p.tables e below (s₁.setTop (mkF m 4 #[.val (.int p1)] [])) _
      exact k
    obtain ⟨T3, X3, e3, st3⟩ := getS2 X0 hx hZ hown (host := "") (Or.inl (hw _ (List.mem_of_getElem? (i := 5) rfl))) Via.refl e0 S_IMPLICATION (g := (mkF m 4 #[.val (.int p1)] [])) rfl (hb hby d2_4)
    have P4 : ∀ t, Steps p.tables e below (T3.setTop (mkF m 7 #[.val (.int p1)] [(.ref w_IMPLICATION)])) t → Steps p.tables e below (s₁.setTop (entryFrame m #[(.int p1)] 1)) t := fun t k => P2 _ (st3 _ k)
    obtain ⟨fs, hr, hrun, hended, hW, hsame⟩ := X3.leave (v := some (.ref w_IMPLICATION)) (fun h => by rw [Bd.returns] at h; cases h)
    refine ⟨_, _, P4 _ ?_, hrun, hended, _, _, rfl, ?_, ⟨_, rfl⟩, hW, hsame.mono (by decide) (by decide)⟩
    · jvm_step X3.here [X3.here.top, hx, (hb hby d2_7), X3.method', Bd.returns, Value.isRef, FieldType.isReference]
      first | (intro acts; rw [hr _ acts rfl rfl rfl]) | rw [hr _ _ rfl rfl rfl]
      exact Steps.refl _
    · show Q2 Z p1 w_IMPLICATION w_EQUIVALENCE w_DISJUNCTION w_CONJUNCTION w_UNTIL w_TEMPORAL w_COMPARISON w_SUM w_PRODUCT w_NEGATION h0 n0 _ T3.heap _
      rw [e3]
      exact ⟨w_IMPLICATION, rfl, N0, rfl, E_IMPLICATION, Or.inl ⟨c1, rfl⟩⟩
  · have P5 : ∀ t, Steps p.tables e below (s₁.setTop (mkF m 10 #[.val (.int p1)] [(.int (1 : Int32)), (.int p1)])) t → Steps p.tables e below (s₁.setTop (entryFrame m #[(.int p1)] 1)) t := by
      intro t k
      refine P1 _ ?_
      refine XS.ifYes X0.here hx rfl (pc0 := 1) (pc' := 8) rfl (hb hby d2_1) rfl (XT.i0_ne_t c1) (by decide) (by decide) ?_
      show Steps p.tables e below (s₁.setTop (mkF m 8 #[.val (.int p1)] [])) _
      refine XS.iloadN X0.here hx rfl (hb hby d2_8) rfl ?_
      show Steps p.tables e below (s₁.setTop (mkF m 9 #[.val (.int p1)] [(.int p1)])) _
      refine XS.iconst X0.here hx rfl (hb hby d2_9) ?_
      show Steps p.tables e below (s₁.setTop (mkF m 10 #[.val (.int p1)] [(.int (1 : Int32)), (.int p1)])) _
      exact k
    by_cases c10 : p1 = (1 : Int32)
    · have P6 : ∀ t, Steps p.tables e below (s₁.setTop (mkF m 13 #[.val (.int p1)] [])) t → Steps p.tables e below (s₁.setTop (entryFrame m #[(.int p1)] 1)) t := by
        intro t k
        refine P5 _ ?_
        refine XS.icmpNo X0.here hx rfl (hb hby d2_10) rfl (XT.ii_ne_f c10) ?_
        show Steps p.tables e below (s₁.setTop (mkF m 13 #[.val (.int p1)] [])) _
        exact k
      obtain ⟨T7, X7, e7, st7⟩ := getS2 X0 hx hZ hown (host := "") (Or.inl (hw _ (List.mem_of_getElem? (i := 16) rfl))) Via.refl e0 S_EQUIVALENCE (g := (mkF m 13 #[.val (.int p1)] [])) rfl (hb hby d2_13)
      have P8 : ∀ t, Steps p.tables e below (T7.setTop (mkF m 16 #[.val (.int p1)] [(.ref w_EQUIVALENCE)])) t → Steps p.tables e below (s₁.setTop (entryFrame m #[(.int p1)] 1)) t := fun t k => P6 _ (st7 _ k)
      obtain ⟨fs, hr, hrun, hended, hW, hsame⟩ := X7.leave (v := some (.ref w_EQUIVALENCE)) (fun h => by rw [Bd.returns] at h; cases h)
      refine ⟨_, _, P8 _ ?_, hrun, hended, _, _, rfl, ?_, ⟨_, rfl⟩, hW, hsame.mono (by decide) (by decide)⟩
      · jvm_step X7.here [X7.here.top, hx, (hb hby d2_16), X7.method', Bd.returns, Value.isRef, FieldType.isReference]
        first | (intro acts; rw [hr _ acts rfl rfl rfl]) | rw [hr _ _ rfl rfl rfl]
        exact Steps.refl _
      · show Q2 Z p1 w_IMPLICATION w_EQUIVALENCE w_DISJUNCTION w_CONJUNCTION w_UNTIL w_TEMPORAL w_COMPARISON w_SUM w_PRODUCT w_NEGATION h0 n0 _ T7.heap _
        rw [e7]
        exact ⟨w_EQUIVALENCE, rfl, N0, rfl, E_EQUIVALENCE, Or.inr ⟨c1, Fld.ne O_EQUIVALENCE O_IMPLICATION (by decide)⟩⟩
    · have P9 : ∀ t, Steps p.tables e below (s₁.setTop (mkF m 19 #[.val (.int p1)] [(.int (2 : Int32)), (.int p1)])) t → Steps p.tables e below (s₁.setTop (entryFrame m #[(.int p1)] 1)) t := by
        intro t k
        refine P5 _ ?_
        refine XS.icmpYes X0.here hx rfl (pc0 := 10) (pc' := 17) rfl (hb hby d2_10) rfl (XT.ii_ne_t c10) (by decide) (by decide) ?_
        show Steps p.tables e below (s₁.setTop (mkF m 17 #[.val (.int p1)] [])) _
        refine XS.iloadN X0.here hx rfl (hb hby d2_17) rfl ?_
        show Steps p.tables e below (s₁.setTop (mkF m 18 #[.val (.int p1)] [(.int p1)])) _
        refine XS.iconst X0.here hx rfl (hb hby d2_18) ?_
        show Steps p.tables e below (s₁.setTop (mkF m 19 #[.val (.int p1)] [(.int (2 : Int32)), (.int p1)])) _
        exact k
      by_cases c19 : p1 = (2 : Int32)
      · have P10 : ∀ t, Steps p.tables e below (s₁.setTop (mkF m 22 #[.val (.int p1)] [])) t → Steps p.tables e below (s₁.setTop (entryFrame m #[(.int p1)] 1)) t := by
          intro t k
          refine P9 _ ?_
          refine XS.icmpNo X0.here hx rfl (hb hby d2_19) rfl (XT.ii_ne_f c19) ?_
          show Steps p.tables e below (s₁.setTop (mkF m 22 #[.val (.int p1)] [])) _
          exact k
        obtain ⟨T11, X11, e11, st11⟩ := getS2 X0 hx hZ hown (host := "") (Or.inl (hw _ (List.mem_of_getElem? (i := 22) rfl))) Via.refl e0 S_DISJUNCTION (g := (mkF m 22 #[.val (.int p1)] [])) rfl (hb hby d2_22)
        have P12 : ∀ t, Steps p.tables e below (T11.setTop (mkF m 25 #[.val (.int p1)] [(.ref w_DISJUNCTION)])) t → Steps p.tables e below (s₁.setTop (entryFrame m #[(.int p1)] 1)) t := fun t k => P10 _ (st11 _ k)
        obtain ⟨fs, hr, hrun, hended, hW, hsame⟩ := X11.leave (v := some (.ref w_DISJUNCTION)) (fun h => by rw [Bd.returns] at h; cases h)
        refine ⟨_, _, P12 _ ?_, hrun, hended, _, _, rfl, ?_, ⟨_, rfl⟩, hW, hsame.mono (by decide) (by decide)⟩
        · jvm_step X11.here [X11.here.top, hx, (hb hby d2_25), X11.method', Bd.returns, Value.isRef, FieldType.isReference]
          first | (intro acts; rw [hr _ acts rfl rfl rfl]) | rw [hr _ _ rfl rfl rfl]
          exact Steps.refl _
        · show Q2 Z p1 w_IMPLICATION w_EQUIVALENCE w_DISJUNCTION w_CONJUNCTION w_UNTIL w_TEMPORAL w_COMPARISON w_SUM w_PRODUCT w_NEGATION h0 n0 _ T11.heap _
          rw [e11]
          exact ⟨w_DISJUNCTION, rfl, N0, rfl, E_DISJUNCTION, Or.inr ⟨c1, Fld.ne O_DISJUNCTION O_IMPLICATION (by decide)⟩⟩
      · have P13 : ∀ t, Steps p.tables e below (s₁.setTop (mkF m 28 #[.val (.int p1)] [(.int (3 : Int32)), (.int p1)])) t → Steps p.tables e below (s₁.setTop (entryFrame m #[(.int p1)] 1)) t := by
          intro t k
          refine P9 _ ?_
          refine XS.icmpYes X0.here hx rfl (pc0 := 19) (pc' := 26) rfl (hb hby d2_19) rfl (XT.ii_ne_t c19) (by decide) (by decide) ?_
          show Steps p.tables e below (s₁.setTop (mkF m 26 #[.val (.int p1)] [])) _
          refine XS.iloadN X0.here hx rfl (hb hby d2_26) rfl ?_
          show Steps p.tables e below (s₁.setTop (mkF m 27 #[.val (.int p1)] [(.int p1)])) _
          refine XS.iconst X0.here hx rfl (hb hby d2_27) ?_
          show Steps p.tables e below (s₁.setTop (mkF m 28 #[.val (.int p1)] [(.int (3 : Int32)), (.int p1)])) _
          exact k
        by_cases c28 : p1 = (3 : Int32)
        · have P14 : ∀ t, Steps p.tables e below (s₁.setTop (mkF m 31 #[.val (.int p1)] [])) t → Steps p.tables e below (s₁.setTop (entryFrame m #[(.int p1)] 1)) t := by
            intro t k
            refine P13 _ ?_
            refine XS.icmpNo X0.here hx rfl (hb hby d2_28) rfl (XT.ii_ne_f c28) ?_
            show Steps p.tables e below (s₁.setTop (mkF m 31 #[.val (.int p1)] [])) _
            exact k
          obtain ⟨T15, X15, e15, st15⟩ := getS2 X0 hx hZ hown (host := "") (Or.inl (hw _ (List.mem_of_getElem? (i := 14) rfl))) Via.refl e0 S_CONJUNCTION (g := (mkF m 31 #[.val (.int p1)] [])) rfl (hb hby d2_31)
          have P16 : ∀ t, Steps p.tables e below (T15.setTop (mkF m 34 #[.val (.int p1)] [(.ref w_CONJUNCTION)])) t → Steps p.tables e below (s₁.setTop (entryFrame m #[(.int p1)] 1)) t := fun t k => P14 _ (st15 _ k)
          obtain ⟨fs, hr, hrun, hended, hW, hsame⟩ := X15.leave (v := some (.ref w_CONJUNCTION)) (fun h => by rw [Bd.returns] at h; cases h)
          refine ⟨_, _, P16 _ ?_, hrun, hended, _, _, rfl, ?_, ⟨_, rfl⟩, hW, hsame.mono (by decide) (by decide)⟩
          · jvm_step X15.here [X15.here.top, hx, (hb hby d2_34), X15.method', Bd.returns, Value.isRef, FieldType.isReference]
            first | (intro acts; rw [hr _ acts rfl rfl rfl]) | rw [hr _ _ rfl rfl rfl]
            exact Steps.refl _
          · show Q2 Z p1 w_IMPLICATION w_EQUIVALENCE w_DISJUNCTION w_CONJUNCTION w_UNTIL w_TEMPORAL w_COMPARISON w_SUM w_PRODUCT w_NEGATION h0 n0 _ T15.heap _
            rw [e15]
            exact ⟨w_CONJUNCTION, rfl, N0, rfl, E_CONJUNCTION, Or.inr ⟨c1, Fld.ne O_CONJUNCTION O_IMPLICATION (by decide)⟩⟩
        · have P17 : ∀ t, Steps p.tables e below (s₁.setTop (mkF m 37 #[.val (.int p1)] [(.int (4 : Int32)), (.int p1)])) t → Steps p.tables e below (s₁.setTop (entryFrame m #[(.int p1)] 1)) t := by
            intro t k
            refine P13 _ ?_
            refine XS.icmpYes X0.here hx rfl (pc0 := 28) (pc' := 35) rfl (hb hby d2_28) rfl (XT.ii_ne_t c28) (by decide) (by decide) ?_
            show Steps p.tables e below (s₁.setTop (mkF m 35 #[.val (.int p1)] [])) _
            refine XS.iloadN X0.here hx rfl (hb hby d2_35) rfl ?_
            show Steps p.tables e below (s₁.setTop (mkF m 36 #[.val (.int p1)] [(.int p1)])) _
            refine XS.iconst X0.here hx rfl (hb hby d2_36) ?_
            show Steps p.tables e below (s₁.setTop (mkF m 37 #[.val (.int p1)] [(.int (4 : Int32)), (.int p1)])) _
            exact k
          by_cases c37 : p1 = (4 : Int32)
          · have P18 : ∀ t, Steps p.tables e below (s₁.setTop (mkF m 40 #[.val (.int p1)] [])) t → Steps p.tables e below (s₁.setTop (entryFrame m #[(.int p1)] 1)) t := by
              intro t k
              refine P17 _ ?_
              refine XS.icmpNo X0.here hx rfl (hb hby d2_37) rfl (XT.ii_ne_f c37) ?_
              show Steps p.tables e below (s₁.setTop (mkF m 40 #[.val (.int p1)] [])) _
              exact k
            obtain ⟨T19, X19, e19, st19⟩ := getS2 X0 hx hZ hown (host := "") (Or.inl (hw _ (List.mem_of_getElem? (i := 18) rfl))) Via.refl e0 S_UNTIL (g := (mkF m 40 #[.val (.int p1)] [])) rfl (hb hby d2_40)
            have P20 : ∀ t, Steps p.tables e below (T19.setTop (mkF m 43 #[.val (.int p1)] [(.ref w_UNTIL)])) t → Steps p.tables e below (s₁.setTop (entryFrame m #[(.int p1)] 1)) t := fun t k => P18 _ (st19 _ k)
            obtain ⟨fs, hr, hrun, hended, hW, hsame⟩ := X19.leave (v := some (.ref w_UNTIL)) (fun h => by rw [Bd.returns] at h; cases h)
            refine ⟨_, _, P20 _ ?_, hrun, hended, _, _, rfl, ?_, ⟨_, rfl⟩, hW, hsame.mono (by decide) (by decide)⟩
            · jvm_step X19.here [X19.here.top, hx, (hb hby d2_43), X19.method', Bd.returns, Value.isRef, FieldType.isReference]
              first | (intro acts; rw [hr _ acts rfl rfl rfl]) | rw [hr _ _ rfl rfl rfl]
              exact Steps.refl _
            · show Q2 Z p1 w_IMPLICATION w_EQUIVALENCE w_DISJUNCTION w_CONJUNCTION w_UNTIL w_TEMPORAL w_COMPARISON w_SUM w_PRODUCT w_NEGATION h0 n0 _ T19.heap _
              rw [e19]
              exact ⟨w_UNTIL, rfl, N0, rfl, E_UNTIL, Or.inr ⟨c1, Fld.ne O_UNTIL O_IMPLICATION (by decide)⟩⟩
          · have P21 : ∀ t, Steps p.tables e below (s₁.setTop (mkF m 46 #[.val (.int p1)] [(.int (5 : Int32)), (.int p1)])) t → Steps p.tables e below (s₁.setTop (entryFrame m #[(.int p1)] 1)) t := by
              intro t k
              refine P17 _ ?_
              refine XS.icmpYes X0.here hx rfl (pc0 := 37) (pc' := 44) rfl (hb hby d2_37) rfl (XT.ii_ne_t c37) (by decide) (by decide) ?_
              show Steps p.tables e below (s₁.setTop (mkF m 44 #[.val (.int p1)] [])) _
              refine XS.iloadN X0.here hx rfl (hb hby d2_44) rfl ?_
              show Steps p.tables e below (s₁.setTop (mkF m 45 #[.val (.int p1)] [(.int p1)])) _
              refine XS.iconst X0.here hx rfl (hb hby d2_45) ?_
              show Steps p.tables e below (s₁.setTop (mkF m 46 #[.val (.int p1)] [(.int (5 : Int32)), (.int p1)])) _
              exact k
            by_cases c46 : p1 = (5 : Int32)
            · have P22 : ∀ t, Steps p.tables e below (s₁.setTop (mkF m 49 #[.val (.int p1)] [])) t → Steps p.tables e below (s₁.setTop (entryFrame m #[(.int p1)] 1)) t := by
                intro t k
                refine P21 _ ?_
                refine XS.icmpNo X0.here hx rfl (hb hby d2_46) rfl (XT.ii_ne_f c46) ?_
                show Steps p.tables e below (s₁.setTop (mkF m 49 #[.val (.int p1)] [])) _
                exact k
              obtain ⟨T23, X23, e23, st23⟩ := getS2 X0 hx hZ hown (host := "") (Or.inl (hw _ (List.mem_of_getElem? (i := 28) rfl))) Via.refl e0 S_TEMPORAL (g := (mkF m 49 #[.val (.int p1)] [])) rfl (hb hby d2_49)
              have P24 : ∀ t, Steps p.tables e below (T23.setTop (mkF m 52 #[.val (.int p1)] [(.ref w_TEMPORAL)])) t → Steps p.tables e below (s₁.setTop (entryFrame m #[(.int p1)] 1)) t := fun t k => P22 _ (st23 _ k)
              obtain ⟨fs, hr, hrun, hended, hW, hsame⟩ := X23.leave (v := some (.ref w_TEMPORAL)) (fun h => by rw [Bd.returns] at h; cases h)
              refine ⟨_, _, P24 _ ?_, hrun, hended, _, _, rfl, ?_, ⟨_, rfl⟩, hW, hsame.mono (by decide) (by decide)⟩
              · jvm_step X23.here [X23.here.top, hx, (hb hby d2_52), X23.method', Bd.returns, Value.isRef, FieldType.isReference]
                first | (intro acts; rw [hr _ acts rfl rfl rfl]) | rw [hr _ _ rfl rfl rfl]
                exact Steps.refl _
              · show Q2 Z p1 w_IMPLICATION w_EQUIVALENCE w_DISJUNCTION w_CONJUNCTION w_UNTIL w_TEMPORAL w_COMPARISON w_SUM w_PRODUCT w_NEGATION h0 n0 _ T23.heap _
                rw [e23]
                exact ⟨w_TEMPORAL, rfl, N0, rfl, E_TEMPORAL, Or.inr ⟨c1, Fld.ne O_TEMPORAL O_IMPLICATION (by decide)⟩⟩
            · have P25 : ∀ t, Steps p.tables e below (s₁.setTop (mkF m 56 #[.val (.int p1)] [(.int (6 : Int32)), (.int p1)])) t → Steps p.tables e below (s₁.setTop (entryFrame m #[(.int p1)] 1)) t := by
                intro t k
                refine P21 _ ?_
                refine XS.icmpYes X0.here hx rfl (pc0 := 46) (pc' := 53) rfl (hb hby d2_46) rfl (XT.ii_ne_t c46) (by decide) (by decide) ?_
                show Steps p.tables e below (s₁.setTop (mkF m 53 #[.val (.int p1)] [])) _
                refine XS.iloadN X0.here hx rfl (hb hby d2_53) rfl ?_
                show Steps p.tables e below (s₁.setTop (mkF m 54 #[.val (.int p1)] [(.int p1)])) _
                refine XS.bipush X0.here hx rfl (hb hby d2_54) ?_
                show Steps p.tables e below (s₁.setTop (mkF m 56 #[.val (.int p1)] [(.int (6 : Int32)), (.int p1)])) _
                exact k
              by_cases c56 : p1 = (6 : Int32)
              · have P26 : ∀ t, Steps p.tables e below (s₁.setTop (mkF m 59 #[.val (.int p1)] [])) t → Steps p.tables e below (s₁.setTop (entryFrame m #[(.int p1)] 1)) t := by
                  intro t k
                  refine P25 _ ?_
                  refine XS.icmpNo X0.here hx rfl (hb hby d2_56) rfl (XT.ii_ne_f c56) ?_
                  show Steps p.tables e below (s₁.setTop (mkF m 59 #[.val (.int p1)] [])) _
                  exact k
                obtain ⟨T27, X27, e27, st27⟩ := getS2 X0 hx hZ hown (host := "") (Or.inl (hw _ (List.mem_of_getElem? (i := 30) rfl))) Via.refl e0 S_COMPARISON (g := (mkF m 59 #[.val (.int p1)] [])) rfl (hb hby d2_59)
                have P28 : ∀ t, Steps p.tables e below (T27.setTop (mkF m 62 #[.val (.int p1)] [(.ref w_COMPARISON)])) t → Steps p.tables e below (s₁.setTop (entryFrame m #[(.int p1)] 1)) t := fun t k => P26 _ (st27 _ k)
                obtain ⟨fs, hr, hrun, hended, hW, hsame⟩ := X27.leave (v := some (.ref w_COMPARISON)) (fun h => by rw [Bd.returns] at h; cases h)
                refine ⟨_, _, P28 _ ?_, hrun, hended, _, _, rfl, ?_, ⟨_, rfl⟩, hW, hsame.mono (by decide) (by decide)⟩
                · jvm_step X27.here [X27.here.top, hx, (hb hby d2_62), X27.method', Bd.returns, Value.isRef, FieldType.isReference]
                  first | (intro acts; rw [hr _ acts rfl rfl rfl]) | rw [hr _ _ rfl rfl rfl]
                  exact Steps.refl _
                · show Q2 Z p1 w_IMPLICATION w_EQUIVALENCE w_DISJUNCTION w_CONJUNCTION w_UNTIL w_TEMPORAL w_COMPARISON w_SUM w_PRODUCT w_NEGATION h0 n0 _ T27.heap _
                  rw [e27]
                  exact ⟨w_COMPARISON, rfl, N0, rfl, E_COMPARISON, Or.inr ⟨c1, Fld.ne O_COMPARISON O_IMPLICATION (by decide)⟩⟩
              · have P29 : ∀ t, Steps p.tables e below (s₁.setTop (mkF m 66 #[.val (.int p1)] [(.int (7 : Int32)), (.int p1)])) t → Steps p.tables e below (s₁.setTop (entryFrame m #[(.int p1)] 1)) t := by
                  intro t k
                  refine P25 _ ?_
                  refine XS.icmpYes X0.here hx rfl (pc0 := 56) (pc' := 63) rfl (hb hby d2_56) rfl (XT.ii_ne_t c56) (by decide) (by decide) ?_
                  show Steps p.tables e below (s₁.setTop (mkF m 63 #[.val (.int p1)] [])) _
                  refine XS.iloadN X0.here hx rfl (hb hby d2_63) rfl ?_
                  show Steps p.tables e below (s₁.setTop (mkF m 64 #[.val (.int p1)] [(.int p1)])) _
                  refine XS.bipush X0.here hx rfl (hb hby d2_64) ?_
                  show Steps p.tables e below (s₁.setTop (mkF m 66 #[.val (.int p1)] [(.int (7 : Int32)), (.int p1)])) _
                  exact k
                by_cases c66 : p1 = (7 : Int32)
                · have P30 : ∀ t, Steps p.tables e below (s₁.setTop (mkF m 69 #[.val (.int p1)] [])) t → Steps p.tables e below (s₁.setTop (entryFrame m #[(.int p1)] 1)) t := by
                    intro t k
                    refine P29 _ ?_
                    refine XS.icmpNo X0.here hx rfl (hb hby d2_66) rfl (XT.ii_ne_f c66) ?_
                    show Steps p.tables e below (s₁.setTop (mkF m 69 #[.val (.int p1)] [])) _
                    exact k
                  obtain ⟨T31, X31, e31, st31⟩ := getS2 X0 hx hZ hown (host := "") (Or.inl (hw _ (List.mem_of_getElem? (i := 20) rfl))) Via.refl e0 S_SUM (g := (mkF m 69 #[.val (.int p1)] [])) rfl (hb hby d2_69)
                  have P32 : ∀ t, Steps p.tables e below (T31.setTop (mkF m 72 #[.val (.int p1)] [(.ref w_SUM)])) t → Steps p.tables e below (s₁.setTop (entryFrame m #[(.int p1)] 1)) t := fun t k => P30 _ (st31 _ k)
                  obtain ⟨fs, hr, hrun, hended, hW, hsame⟩ := X31.leave (v := some (.ref w_SUM)) (fun h => by rw [Bd.returns] at h; cases h)
                  refine ⟨_, _, P32 _ ?_, hrun, hended, _, _, rfl, ?_, ⟨_, rfl⟩, hW, hsame.mono (by decide) (by decide)⟩
                  · jvm_step X31.here [X31.here.top, hx, (hb hby d2_72), X31.method', Bd.returns, Value.isRef, FieldType.isReference]
                    first | (intro acts; rw [hr _ acts rfl rfl rfl]) | rw [hr _ _ rfl rfl rfl]
                    exact Steps.refl _
                  · show Q2 Z p1 w_IMPLICATION w_EQUIVALENCE w_DISJUNCTION w_CONJUNCTION w_UNTIL w_TEMPORAL w_COMPARISON w_SUM w_PRODUCT w_NEGATION h0 n0 _ T31.heap _
                    rw [e31]
                    exact ⟨w_SUM, rfl, N0, rfl, E_SUM, Or.inr ⟨c1, Fld.ne O_SUM O_IMPLICATION (by decide)⟩⟩
                · have P33 : ∀ t, Steps p.tables e below (s₁.setTop (mkF m 76 #[.val (.int p1)] [(.int (8 : Int32)), (.int p1)])) t → Steps p.tables e below (s₁.setTop (entryFrame m #[(.int p1)] 1)) t := by
                    intro t k
                    refine P29 _ ?_
                    refine XS.icmpYes X0.here hx rfl (pc0 := 66) (pc' := 73) rfl (hb hby d2_66) rfl (XT.ii_ne_t c66) (by decide) (by decide) ?_
                    show Steps p.tables e below (s₁.setTop (mkF m 73 #[.val (.int p1)] [])) _
                    refine XS.iloadN X0.here hx rfl (hb hby d2_73) rfl ?_
                    show Steps p.tables e below (s₁.setTop (mkF m 74 #[.val (.int p1)] [(.int p1)])) _
                    refine XS.bipush X0.here hx rfl (hb hby d2_74) ?_
                    show Steps p.tables e below (s₁.setTop (mkF m 76 #[.val (.int p1)] [(.int (8 : Int32)), (.int p1)])) _
                    exact k
                  by_cases c76 : p1 = (8 : Int32)
                  · have P34 : ∀ t, Steps p.tables e below (s₁.setTop (mkF m 79 #[.val (.int p1)] [])) t → Steps p.tables e below (s₁.setTop (entryFrame m #[(.int p1)] 1)) t := by
                      intro t k
                      refine P33 _ ?_
                      refine XS.icmpNo X0.here hx rfl (hb hby d2_76) rfl (XT.ii_ne_f c76) ?_
                      show Steps p.tables e below (s₁.setTop (mkF m 79 #[.val (.int p1)] [])) _
                      exact k
                    obtain ⟨T35, X35, e35, st35⟩ := getS2 X0 hx hZ hown (host := "") (Or.inl (hw _ (List.mem_of_getElem? (i := 24) rfl))) Via.refl e0 S_PRODUCT (g := (mkF m 79 #[.val (.int p1)] [])) rfl (hb hby d2_79)
                    have P36 : ∀ t, Steps p.tables e below (T35.setTop (mkF m 82 #[.val (.int p1)] [(.ref w_PRODUCT)])) t → Steps p.tables e below (s₁.setTop (entryFrame m #[(.int p1)] 1)) t := fun t k => P34 _ (st35 _ k)
                    obtain ⟨fs, hr, hrun, hended, hW, hsame⟩ := X35.leave (v := some (.ref w_PRODUCT)) (fun h => by rw [Bd.returns] at h; cases h)
                    refine ⟨_, _, P36 _ ?_, hrun, hended, _, _, rfl, ?_, ⟨_, rfl⟩, hW, hsame.mono (by decide) (by decide)⟩
                    · jvm_step X35.here [X35.here.top, hx, (hb hby d2_82), X35.method', Bd.returns, Value.isRef, FieldType.isReference]
                      first | (intro acts; rw [hr _ acts rfl rfl rfl]) | rw [hr _ _ rfl rfl rfl]
                      exact Steps.refl _
                    · show Q2 Z p1 w_IMPLICATION w_EQUIVALENCE w_DISJUNCTION w_CONJUNCTION w_UNTIL w_TEMPORAL w_COMPARISON w_SUM w_PRODUCT w_NEGATION h0 n0 _ T35.heap _
                      rw [e35]
                      exact ⟨w_PRODUCT, rfl, N0, rfl, E_PRODUCT, Or.inr ⟨c1, Fld.ne O_PRODUCT O_IMPLICATION (by decide)⟩⟩
                  · have P37 : ∀ t, Steps p.tables e below (s₁.setTop (mkF m 83 #[.val (.int p1)] [])) t → Steps p.tables e below (s₁.setTop (entryFrame m #[(.int p1)] 1)) t := by
                      intro t k
                      refine P33 _ ?_
                      refine XS.icmpYes X0.here hx rfl (pc0 := 76) (pc' := 83) rfl (hb hby d2_76) rfl (XT.ii_ne_t c76) (by decide) (by decide) ?_
                      show Steps p.tables e below (s₁.setTop (mkF m 83 #[.val (.int p1)] [])) _
                      exact k
                    obtain ⟨T38, X38, e38, st38⟩ := getS2 X0 hx hZ hown (host := "") (Or.inl (hw _ (List.mem_of_getElem? (i := 26) rfl))) Via.refl e0 S_NEGATION (g := (mkF m 83 #[.val (.int p1)] [])) rfl (hb hby d2_83)
                    have P39 : ∀ t, Steps p.tables e below (T38.setTop (mkF m 86 #[.val (.int p1)] [(.ref w_NEGATION)])) t → Steps p.tables e below (s₁.setTop (entryFrame m #[(.int p1)] 1)) t := fun t k => P37 _ (st38 _ k)
                    obtain ⟨fs, hr, hrun, hended, hW, hsame⟩ := X38.leave (v := some (.ref w_NEGATION)) (fun h => by rw [Bd.returns] at h; cases h)
                    refine ⟨_, _, P39 _ ?_, hrun, hended, _, _, rfl, ?_, ⟨_, rfl⟩, hW, hsame.mono (by decide) (by decide)⟩
                    · jvm_step X38.here [X38.here.top, hx, (hb hby d2_86), X38.method', Bd.returns, Value.isRef, FieldType.isReference]
                      first | (intro acts; rw [hr _ acts rfl rfl rfl]) | rw [hr _ _ rfl rfl rfl]
                      exact Steps.refl _
                    · show Q2 Z p1 w_IMPLICATION w_EQUIVALENCE w_DISJUNCTION w_CONJUNCTION w_UNTIL w_TEMPORAL w_COMPARISON w_SUM w_PRODUCT w_NEGATION h0 n0 _ T38.heap _
                      rw [e38]
                      exact ⟨w_NEGATION, rfl, N0, rfl, E_NEGATION, Or.inr ⟨c1, Fld.ne O_NEGATION O_IMPLICATION (by decide)⟩⟩
theorem d1_0 : decode prog_97_method_4_code 0 = .ok (.aload_n 0, 1) := by decide +kernel
theorem d1_1 : decode prog_97_method_4_code 1 = .ok (.getstatic 3, 3) := by decide +kernel
theorem d1_4 : decode prog_97_method_4_code 4 = .ok (.if_acmp .ne 7, 3) := by decide +kernel
theorem d1_7 : decode prog_97_method_4_code 7 = .ok (.iconst 1, 1) := by decide +kernel
theorem d1_8 : decode prog_97_method_4_code 8 = .ok (.goto 4, 3) := by decide +kernel
theorem d1_11 : decode prog_97_method_4_code 11 = .ok (.iconst 0, 1) := by decide +kernel
theorem d1_12 : decode prog_97_method_4_code 12 = .ok (.ireturn, 1) := by decide +kernel
theorem pn_1 : plainName "com/example/prudent_checker/prudentchecker/smv/Operator$Binding" = true := by first | (simp [plainName, overriddenIn]; done) | decide +kernel
theorem ef_1 (m : MethodId) (x0 : Addr) : entryFrame m #[(.ref x0)] 1 = mkF m 0 #[.val (.ref x0)] [] := by first | (simp [entryFrame, mkF, argsToLocals, Value.category]; done) | rfl
def Q1 (Z : State) (a1 : Addr) (w_IMPLICATION : Addr) (h0 : Heap) (n0 : Nat) (v : Option Value) (h : Heap) (L : List Loc) : Prop := v = some (.int (if a1 = w_IMPLICATION then (1 : Int32) else (0 : Int32))) ∧ Fr n0 L ∧ h = h0
set_option maxRecDepth 65536 in
set_option maxHeartbeats 40000000 in
theorem rm1 (l : Launch) (Z : State) (a0 : Array Value) (hw : ∀ d ∈ tables_1, d.before a0 Z = true) (ws : List Jvm.Cond) (a1 : Addr) (w_IMPLICATION : Addr) (h0 : Heap) (n0 : Nat) (Z0 : n0 ≤ h0.size) (S_IMPLICATION : Sta Z h0 "com/example/prudent_checker/prudentchecker/smv/Operator$Binding" "IMPLICATION" "Lcom/example/prudent_checker/prudentchecker/smv/Operator$Binding;" (.ref w_IMPLICATION)) :
    MetFree l (⟨"com/example/prudent_checker/prudentchecker/smv/Operator$Binding", "groupsRight", "()Z"⟩ : MethodName) (head1 (Jvm.Cond.code (⟨"com/example/prudent_checker/prudentchecker/smv/Operator$Binding", "groupsRight", "()Z"⟩ : MethodName) prog_97_method_4_code 1 (some .boolean) :: ws) ({ frames := 0, cells := 0, slots := 0, locals := 0 } : Room)) (fun a U => a = #[(.ref a1)] ∧ Z.Warmed39 U.vm ∧ U.heap = h0) (fun _ _ _ _ _ => True) (fun _ U o U' => ∃ v L, o = .returned v ∧ Q1 Z a1 w_IMPLICATION h0 n0 v U'.heap L ∧ FrameEnd U o U' L ({ frames := 0, cells := 0, slots := 0, locals := 0 } : Room).cells ({ frames := 0, cells := 0, slots := 0, locals := 0 } : Room).slots) := by
  refine MetFree.of_bodySF (plainFor_of_name pn_1) hisR ?_
  intro p e s m args below meth c s₁ Bd hml0 hP hK
  obtain ⟨rfl, hZ, hh⟩ := hP
  have hx := Bd.exec
  have hby := Bd.bytes
  have hml : c.maxLocals = 1 := hml0
  have hown : s.vm.findClass "com/example/prudent_checker/prudentchecker/smv/Operator$Binding" = some m.cls := findClass_of_methodNamed Bd.named
  have hnm := (name_of_methodNamed Bd.named Bd.method).1
  have X0 : Stand p l e ({ frames := 0, cells := 0, slots := 0, locals := 0 } : Room) s m #[(.ref a1)] below meth c s₁ [] 0 0 := Stand.of_body Bd
  have e0 : s₁.heap = h0 := by rw [← hh, Bd.state]; rfl
  have N0 := Fr.nil n0
  have K0 : Keep h0 h0 [] := Keep.refl _ _
  have P0 : ∀ t, Steps p.tables e below (s₁.setTop (mkF m 0 #[.val (.ref a1)] [])) t → Steps p.tables e below (s₁.setTop (entryFrame m #[(.ref a1)] 1)) t := fun t k => castTop (ef_1 m a1) k
  have P1 : ∀ t, Steps p.tables e below (s₁.setTop (mkF m 1 #[.val (.ref a1)] [(.ref a1)])) t → Steps p.tables e below (s₁.setTop (entryFrame m #[(.ref a1)] 1)) t := by
    intro t k
    refine P0 _ ?_
    refine XS.aloadN X0.here hx rfl (hb hby d1_0) rfl rfl ?_
    show Steps p.tables e below (s₁.setTop (mkF m 1 #[.val (.ref a1)] [(.ref a1)])) _
    exact k
  obtain ⟨T2, X2, e2, st2⟩ := getS2 X0 hx hZ hown (host := "") (Or.inl (hw _ (List.mem_of_getElem? (i := 13) rfl))) Via.refl e0 S_IMPLICATION (g := (mkF m 1 #[.val (.ref a1)] [(.ref a1)])) rfl (hb hby d1_1)
  have P3 : ∀ t, Steps p.tables e below (T2.setTop (mkF m 4 #[.val (.ref a1)] [(.ref w_IMPLICATION), (.ref a1)])) t → Steps p.tables e below (s₁.setTop (entryFrame m #[(.ref a1)] 1)) t := fun t k => P1 _ (st2 _ k)
  have P4 : ∀ t, Steps p.tables e below (T2.setTop (mkF m 12 #[.val (.ref a1)] [(.int (if a1 = w_IMPLICATION then (1 : Int32) else (0 : Int32)))])) t → Steps p.tables e below (s₁.setTop (entryFrame m #[(.ref a1)] 1)) t := by
    intro t k
    refine P3 _ ?_
    by_cases c4 : a1 = w_IMPLICATION
    · try simp only [if_pos c4] at k
      refine XT.acmpNo X2.here hx rfl (hb hby d1_4) rfl rfl rfl (XT.aa_ne_f (congrArg Value.ref c4)) ?_
      show Steps p.tables e below (T2.setTop (mkF m 7 #[.val (.ref a1)] [])) _
      refine XS.iconst X2.here hx rfl (hb hby d1_7) ?_
      show Steps p.tables e below (T2.setTop (mkF m 8 #[.val (.ref a1)] [(.int (1 : Int32))])) _
      refine XS.goto X2.here hx rfl (pc0 := 8) (pc' := 12) rfl (hb hby d1_8) (by decide) (by decide) ?_
      show Steps p.tables e below (T2.setTop (mkF m 12 #[.val (.ref a1)] [(.int (1 : Int32))])) _
      exact k
    · try simp only [if_neg c4] at k
      refine XT.acmpYes X2.here hx rfl (pc0 := 4) (pc' := 11) rfl (hb hby d1_4) rfl rfl rfl (XT.aa_ne_t (fun q => c4 (Value.ref.inj q))) (by decide) (by decide) ?_
      show Steps p.tables e below (T2.setTop (mkF m 11 #[.val (.ref a1)] [])) _
      refine XS.iconst X2.here hx rfl (hb hby d1_11) ?_
      show Steps p.tables e below (T2.setTop (mkF m 12 #[.val (.ref a1)] [(.int (0 : Int32))])) _
      exact k
  obtain ⟨y4, hy4⟩ : ∃ z : Int32, z = (if a1 = w_IMPLICATION then (1 : Int32) else (0 : Int32)) := ⟨_, rfl⟩
  rw [← hy4] at P4
  obtain ⟨fs, hr, hrun, hended, hW, hsame⟩ := X2.leave (v := some (.int (nar .boolean y4))) (fun h => by rw [Bd.returns] at h; cases h)
  refine ⟨_, _, P4 _ ?_, hrun, hended, _, _, rfl, ?_, ⟨_, rfl⟩, hW, hsame.mono (by decide) (by decide)⟩
  · exact retN X2 hx (t := .boolean) Bd.returns (by simp) (hb hby d1_12) hr
  · show Q1 Z a1 w_IMPLICATION h0 n0 _ T2.heap _
    rw [e2]
    exact ⟨by rw [hy4, own_nb], N0, rfl⟩
theorem pn_0 : plainName "com/example/prudent_checker/prudentchecker/smv/BindingGroupsRightPinLaw" = true := by first | (simp [plainName, overriddenIn]; done) | decide +kernel
theorem ef_0 (m : MethodId) (x0 : Int32) : entryFrame m #[(.int x0)] maxLocals = mkF m 0 #[.val (.int x0), .unset, .unset, .unset] [] := by first | (simp [entryFrame, mkF, argsToLocals, Value.category, maxLocals]; done) | rfl
def Q0 (Z : State) (p1 : Int32) (w_IMPLICATION : Addr) (w_EQUIVALENCE : Addr) (w_DISJUNCTION : Addr) (w_CONJUNCTION : Addr) (w_UNTIL : Addr) (w_TEMPORAL : Addr) (w_COMPARISON : Addr) (w_SUM : Addr) (w_PRODUCT : Addr) (w_NEGATION : Addr) (h0 : Heap) (n0 : Nat) (v : Option Value) (h : Heap) (L : List Loc) : Prop := v = some (.int 1) ∧ Fr n0 L
set_option maxRecDepth 65536 in
set_option maxHeartbeats 40000000 in
theorem rm0 (l : Launch) (Z : State) (a0 : Array Value) (hw : ∀ d ∈ tables_1, d.before a0 Z = true) (ws : List Jvm.Cond) (p1 : Int32) (w_IMPLICATION : Addr) (w_EQUIVALENCE : Addr) (w_DISJUNCTION : Addr) (w_CONJUNCTION : Addr) (w_UNTIL : Addr) (w_TEMPORAL : Addr) (w_COMPARISON : Addr) (w_SUM : Addr) (w_PRODUCT : Addr) (w_NEGATION : Addr) (h0 : Heap) (n0 : Nat) (Z0 : n0 ≤ h0.size) (S_IMPLICATION : Sta Z h0 "com/example/prudent_checker/prudentchecker/smv/Operator$Binding" "IMPLICATION" "Lcom/example/prudent_checker/prudentchecker/smv/Operator$Binding;" (.ref w_IMPLICATION)) (S_EQUIVALENCE : Sta Z h0 "com/example/prudent_checker/prudentchecker/smv/Operator$Binding" "EQUIVALENCE" "Lcom/example/prudent_checker/prudentchecker/smv/Operator$Binding;" (.ref w_EQUIVALENCE)) (S_DISJUNCTION : Sta Z h0 "com/example/prudent_checker/prudentchecker/smv/Operator$Binding" "DISJUNCTION" "Lcom/example/prudent_checker/prudentchecker/smv/Operator$Binding;" (.ref w_DISJUNCTION)) (S_CONJUNCTION : Sta Z h0 "com/example/prudent_checker/prudentchecker/smv/Operator$Binding" "CONJUNCTION" "Lcom/example/prudent_checker/prudentchecker/smv/Operator$Binding;" (.ref w_CONJUNCTION)) (S_UNTIL : Sta Z h0 "com/example/prudent_checker/prudentchecker/smv/Operator$Binding" "UNTIL" "Lcom/example/prudent_checker/prudentchecker/smv/Operator$Binding;" (.ref w_UNTIL)) (S_TEMPORAL : Sta Z h0 "com/example/prudent_checker/prudentchecker/smv/Operator$Binding" "TEMPORAL" "Lcom/example/prudent_checker/prudentchecker/smv/Operator$Binding;" (.ref w_TEMPORAL)) (S_COMPARISON : Sta Z h0 "com/example/prudent_checker/prudentchecker/smv/Operator$Binding" "COMPARISON" "Lcom/example/prudent_checker/prudentchecker/smv/Operator$Binding;" (.ref w_COMPARISON)) (S_SUM : Sta Z h0 "com/example/prudent_checker/prudentchecker/smv/Operator$Binding" "SUM" "Lcom/example/prudent_checker/prudentchecker/smv/Operator$Binding;" (.ref w_SUM)) (S_PRODUCT : Sta Z h0 "com/example/prudent_checker/prudentchecker/smv/Operator$Binding" "PRODUCT" "Lcom/example/prudent_checker/prudentchecker/smv/Operator$Binding;" (.ref w_PRODUCT)) (S_NEGATION : Sta Z h0 "com/example/prudent_checker/prudentchecker/smv/Operator$Binding" "NEGATION" "Lcom/example/prudent_checker/prudentchecker/smv/Operator$Binding;" (.ref w_NEGATION)) (E_IMPLICATION : Exa Z h0 w_IMPLICATION "com/example/prudent_checker/prudentchecker/smv/Operator$Binding") (E_EQUIVALENCE : Exa Z h0 w_EQUIVALENCE "com/example/prudent_checker/prudentchecker/smv/Operator$Binding") (E_DISJUNCTION : Exa Z h0 w_DISJUNCTION "com/example/prudent_checker/prudentchecker/smv/Operator$Binding") (E_CONJUNCTION : Exa Z h0 w_CONJUNCTION "com/example/prudent_checker/prudentchecker/smv/Operator$Binding") (E_UNTIL : Exa Z h0 w_UNTIL "com/example/prudent_checker/prudentchecker/smv/Operator$Binding") (E_TEMPORAL : Exa Z h0 w_TEMPORAL "com/example/prudent_checker/prudentchecker/smv/Operator$Binding") (E_COMPARISON : Exa Z h0 w_COMPARISON "com/example/prudent_checker/prudentchecker/smv/Operator$Binding") (E_SUM : Exa Z h0 w_SUM "com/example/prudent_checker/prudentchecker/smv/Operator$Binding") (E_PRODUCT : Exa Z h0 w_PRODUCT "com/example/prudent_checker/prudentchecker/smv/Operator$Binding") (E_NEGATION : Exa Z h0 w_NEGATION "com/example/prudent_checker/prudentchecker/smv/Operator$Binding") (O_IMPLICATION : Fld Z h0 w_IMPLICATION "java/lang/Enum" "ordinal" "I" (.int (0 : Int32))) (O_EQUIVALENCE : Fld Z h0 w_EQUIVALENCE "java/lang/Enum" "ordinal" "I" (.int (1 : Int32))) (O_DISJUNCTION : Fld Z h0 w_DISJUNCTION "java/lang/Enum" "ordinal" "I" (.int (2 : Int32))) (O_CONJUNCTION : Fld Z h0 w_CONJUNCTION "java/lang/Enum" "ordinal" "I" (.int (3 : Int32))) (O_UNTIL : Fld Z h0 w_UNTIL "java/lang/Enum" "ordinal" "I" (.int (4 : Int32))) (O_TEMPORAL : Fld Z h0 w_TEMPORAL "java/lang/Enum" "ordinal" "I" (.int (5 : Int32))) (O_COMPARISON : Fld Z h0 w_COMPARISON "java/lang/Enum" "ordinal" "I" (.int (6 : Int32))) (O_SUM : Fld Z h0 w_SUM "java/lang/Enum" "ordinal" "I" (.int (7 : Int32))) (O_PRODUCT : Fld Z h0 w_PRODUCT "java/lang/Enum" "ordinal" "I" (.int (8 : Int32))) (O_NEGATION : Fld Z h0 w_NEGATION "java/lang/Enum" "ordinal" "I" (.int (9 : Int32))) :
    MetFree l x (head1 (Jvm.Cond.code x code maxLocals ret :: ws) room_1) (fun a U => a = #[(.int p1)] ∧ Z.Warmed39 U.vm ∧ U.heap = h0) (fun _ _ _ _ _ => True) (fun _ U o U' => ∃ v L, o = .returned v ∧ Q0 Z p1 w_IMPLICATION w_EQUIVALENCE w_DISJUNCTION w_CONJUNCTION w_UNTIL w_TEMPORAL w_COMPARISON w_SUM w_PRODUCT w_NEGATION h0 n0 v U'.heap L ∧ FrameEnd U o U' L room_1.cells room_1.slots) := by
  refine MetFree.of_bodySF (plainFor_of_name pn_0) hisR ?_
  intro p e s m args below meth c s₁ Bd hml0 hP hK
  obtain ⟨rfl, hZ, hh⟩ := hP
  have hx := Bd.exec
  have hby := Bd.bytes
  have hml : c.maxLocals = 4 := hml0
  have hown : s.vm.findClass "com/example/prudent_checker/prudentchecker/smv/BindingGroupsRightPinLaw" = some m.cls := findClass_of_methodNamed Bd.named
  have hnm := (name_of_methodNamed Bd.named Bd.method).1
  have X0 : Stand p l e room_1 s m #[(.int p1)] below meth c s₁ [] 0 0 := Stand.of_body Bd
  have e0 : s₁.heap = h0 := by rw [← hh, Bd.state]; rfl
  have N0 := Fr.nil n0
  have K0 : Keep h0 h0 [] := Keep.refl _ _
  have P0 : ∀ t, Steps p.tables e below (s₁.setTop (mkF m 0 #[.val (.int p1), .unset, .unset, .unset] [])) t → Steps p.tables e below (s₁.setTop (entryFrame m #[(.int p1)] maxLocals)) t := fun t k => castTop (ef_0 m p1) k
  have P1 : ∀ t, Steps p.tables e below (s₁.setTop (mkF m 8 #[.val (.int p1), .val (.int ((p1 &&& (2147483647 : Int32)) % (10 : Int32))), .unset, .unset] [])) t → Steps p.tables e below (s₁.setTop (entryFrame m #[(.int p1)] maxLocals)) t := by
    intro t k
    refine P0 _ ?_
    refine XS.iloadN X0.here hx rfl (hb hby at_0) rfl ?_
    show Steps p.tables e below (s₁.setTop (mkF m 1 #[.val (.int p1), .unset, .unset, .unset] [(.int p1)])) _
    refine Jvm.Stand.ldcI X0 hx hown (mvT hZ (hw _ (List.mem_of_getElem? (i := 0) rfl))) rfl (hb hby at_1) ?_
    show Steps p.tables e below (s₁.setTop (mkF m 3 #[.val (.int p1), .unset, .unset, .unset] [(.int (2147483647 : Int32)), (.int p1)])) _
    refine XS.iand X0.here hx rfl (hb hby at_3) rfl ?_
    show Steps p.tables e below (s₁.setTop (mkF m 4 #[.val (.int p1), .unset, .unset, .unset] [(.int (p1 &&& (2147483647 : Int32)))])) _
    refine XS.bipush X0.here hx rfl (hb hby at_4) ?_
    show Steps p.tables e below (s₁.setTop (mkF m 6 #[.val (.int p1), .unset, .unset, .unset] [(.int (10 : Int32)), (.int (p1 &&& (2147483647 : Int32)))])) _
    refine iremM X0 hx rfl (hb hby at_6) rfl (by decide) ?_
    show Steps p.tables e below (s₁.setTop (mkF m 7 #[.val (.int p1), .unset, .unset, .unset] [(.int ((p1 &&& (2147483647 : Int32)) % (10 : Int32)))])) _
    refine XS.istoreN X0.here hx rfl (hb hby at_7) rfl (l' := #[.val (.int p1), .val (.int ((p1 &&& (2147483647 : Int32)) % (10 : Int32))), .unset, .unset]) rfl ?_
    show Steps p.tables e below (s₁.setTop (mkF m 8 #[.val (.int p1), .val (.int ((p1 &&& (2147483647 : Int32)) % (10 : Int32))), .unset, .unset] [])) _
    exact k
  obtain ⟨kx, hkx⟩ : ∃ z : Int32, z = ((p1 &&& (2147483647 : Int32)) % (10 : Int32)) := ⟨_, rfl⟩
  rw [← hkx] at P1
  have P2 : ∀ t, Steps p.tables e below (s₁.setTop (mkF m 9 #[.val (.int p1), .val (.int kx), .unset, .unset] [(.int kx)])) t → Steps p.tables e below (s₁.setTop (entryFrame m #[(.int p1)] maxLocals)) t := by
    intro t k
    refine P1 _ ?_
    refine XS.iloadN X0.here hx rfl (hb hby at_8) rfl ?_
    show Steps p.tables e below (s₁.setTop (mkF m 9 #[.val (.int p1), .val (.int kx), .unset, .unset] [(.int kx)])) _
    exact k
  obtain ⟨_, _, ⟨T3, L3, k3, n3⟩, -, X3, ⟨Lc3, hQ3, l3, y3, z3⟩, st3⟩ := Jvm.LawKit.callS X0 hx (y := (⟨"com/example/prudent_checker/prudentchecker/smv/BindingGroupsRightPinLaw", "pick", "(I)Lcom/example/prudent_checker/prudentchecker/smv/Operator$Binding;"⟩ : MethodName)) hown (mvT hZ (hw _ (List.mem_of_getElem? (i := 1) rfl))) (mvT hZ (hw _ (List.mem_of_getElem? (i := 2) rfl))) (mvT hZ (hw _ (List.mem_of_getElem? (i := 3) rfl))) (mvT hZ (hw _ (List.mem_of_getElem? (i := 4) rfl))) (by decide) (backOf (W := 0) (rm2 l Z a0 hw [] kx w_IMPLICATION w_EQUIVALENCE w_DISJUNCTION w_CONJUNCTION w_UNTIL w_TEMPORAL w_COMPARISON w_SUM w_PRODUCT w_NEGATION h0 n0 Z0 S_IMPLICATION S_EQUIVALENCE S_DISJUNCTION S_CONJUNCTION S_UNTIL S_TEMPORAL S_COMPARISON S_SUM S_PRODUCT S_NEGATION E_IMPLICATION E_EQUIVALENCE E_DISJUNCTION E_CONJUNCTION E_UNTIL E_TEMPORAL E_COMPARISON E_SUM E_PRODUCT E_NEGATION O_IMPLICATION O_EQUIVALENCE O_DISJUNCTION O_CONJUNCTION O_UNTIL O_TEMPORAL O_COMPARISON O_SUM O_PRODUCT O_NEGATION) hZ (hw _ (List.mem_of_getElem? (i := 4) rfl)) (hw _ (List.mem_of_getElem? (i := 3) rfl)) (by decide) (by decide)) (g := (mkF m 9 #[.val (.int p1), .val (.int kx), .unset, .unset] [(.int kx)])) rfl (by rw [hml]; rfl) (argsL := [(.int kx)]) (rest := []) (lenOf pd_0 rfl) rfl (by show 2 * 0 + _ ≤ _; exact Nat.le_of_eq rfl) (hb hby at_9) (fun _ _ => ⟨rfl, e0, (by decide : 0 + 0 ≤ _), (by decide : 0 + 0 ≤ _)⟩)
  dsimp only [Pt.U, Pt.locs, Pt.cells, Pt.slots] at X3 l3 y3 z3 st3 hQ3
  subst l3 y3 z3
  obtain ⟨bp, rfl, N3q, e3, Ebp, hpk⟩ := hQ3
  have N3 := Fr.app N0 N3q
  have P4 : ∀ t, Steps p.tables e below (T3.setTop (mkF m 12 #[.val (.int p1), .val (.int kx), .unset, .unset] [(.ref bp)])) t → Steps p.tables e below (s₁.setTop (entryFrame m #[(.int p1)] maxLocals)) t := fun t k => P2 _ (st3 _ k)
  have P5 : ∀ t, Steps p.tables e below (T3.setTop (mkF m 22 #[.val (.int p1), .val (.int kx), .val (.ref bp), .unset] [(.int (if kx = (0 : Int32) then (1 : Int32) else (0 : Int32)))])) t → Steps p.tables e below (s₁.setTop (entryFrame m #[(.int p1)] maxLocals)) t := by
    intro t k
    refine P4 _ ?_
    refine XS.astoreN X3.here hx rfl (hb hby at_12) rfl rfl (l' := #[.val (.int p1), .val (.int kx), .val (.ref bp), .unset]) rfl ?_
    show Steps p.tables e below (T3.setTop (mkF m 13 #[.val (.int p1), .val (.int kx), .val (.ref bp), .unset] [])) _
    refine XS.iloadN X3.here hx rfl (hb hby at_13) rfl ?_
    show Steps p.tables e below (T3.setTop (mkF m 14 #[.val (.int p1), .val (.int kx), .val (.ref bp), .unset] [(.int kx)])) _
    by_cases c14 : kx = (0 : Int32)
    · try simp only [if_pos c14] at k
      refine XS.ifNo X3.here hx rfl (hb hby at_14) rfl (XT.i0_ne_f c14) ?_
      show Steps p.tables e below (T3.setTop (mkF m 17 #[.val (.int p1), .val (.int kx), .val (.ref bp), .unset] [])) _
      refine XS.iconst X3.here hx rfl (hb hby at_17) ?_
      show Steps p.tables e below (T3.setTop (mkF m 18 #[.val (.int p1), .val (.int kx), .val (.ref bp), .unset] [(.int (1 : Int32))])) _
      refine XS.goto X3.here hx rfl (pc0 := 18) (pc' := 22) rfl (hb hby at_18) (by decide) (by decide) ?_
      show Steps p.tables e below (T3.setTop (mkF m 22 #[.val (.int p1), .val (.int kx), .val (.ref bp), .unset] [(.int (1 : Int32))])) _
      exact k
    · try simp only [if_neg c14] at k
      refine XS.ifYes X3.here hx rfl (pc0 := 14) (pc' := 21) rfl (hb hby at_14) rfl (XT.i0_ne_t c14) (by decide) (by decide) ?_
      show Steps p.tables e below (T3.setTop (mkF m 21 #[.val (.int p1), .val (.int kx), .val (.ref bp), .unset] [])) _
      refine XS.iconst X3.here hx rfl (hb hby at_21) ?_
      show Steps p.tables e below (T3.setTop (mkF m 22 #[.val (.int p1), .val (.int kx), .val (.ref bp), .unset] [(.int (0 : Int32))])) _
      exact k
  obtain ⟨y14, hy14⟩ : ∃ z : Int32, z = (if kx = (0 : Int32) then (1 : Int32) else (0 : Int32)) := ⟨_, rfl⟩
  rw [← hy14] at P5
  have P6 : ∀ t, Steps p.tables e below (T3.setTop (mkF m 24 #[.val (.int p1), .val (.int kx), .val (.ref bp), .val (.int y14)] [(.ref bp)])) t → Steps p.tables e below (s₁.setTop (entryFrame m #[(.int p1)] maxLocals)) t := by
    intro t k
    refine P5 _ ?_
    refine XS.istoreN X3.here hx rfl (hb hby at_22) rfl (l' := #[.val (.int p1), .val (.int kx), .val (.ref bp), .val (.int y14)]) rfl ?_
    show Steps p.tables e below (T3.setTop (mkF m 23 #[.val (.int p1), .val (.int kx), .val (.ref bp), .val (.int y14)] [])) _
    refine XS.aloadN X3.here hx rfl (hb hby at_23) rfl rfl ?_
    show Steps p.tables e below (T3.setTop (mkF m 24 #[.val (.int p1), .val (.int kx), .val (.ref bp), .val (.int y14)] [(.ref bp)])) _
    exact k
  obtain ⟨cq7, kq7, qa7, qb7, qc7⟩ := isOf hZ e3 Ebp
  obtain ⟨_, _, ⟨T7, L7, k7, n7⟩, -, X7, ⟨Lc7, hQ7, l7, y7, z7⟩, st7⟩ := X3.virtualBack hx (y := (⟨"com/example/prudent_checker/prudentchecker/smv/Operator$Binding", "groupsRight", "()Z"⟩ : MethodName)) (z := (⟨"com/example/prudent_checker/prudentchecker/smv/Operator$Binding", "groupsRight", "()Z"⟩ : MethodName)) hown (mvT hZ (hw _ (List.mem_of_getElem? (i := 8) rfl))) (mvT hZ (hw _ (List.mem_of_getElem? (i := 9) rfl))) (notFace_of_selects (args := #[]) (mvT hZ (hw _ (List.mem_of_getElem? (i := 11) rfl)))) (mvT hZ (hw _ (List.mem_of_getElem? (i := 11) rfl))) (mvT hZ (hw _ (List.mem_of_getElem? (i := 10) rfl))) (by decide) (backOf (W := 0) (rm1 l Z a0 hw [] bp w_IMPLICATION h0 n0 Z0 S_IMPLICATION) hZ (hw _ (List.mem_of_getElem? (i := 12) rfl)) (hw _ (List.mem_of_getElem? (i := 6) rfl)) (by decide) (by decide)) qa7 qc7 (g := (mkF m 24 #[.val (.int p1), .val (.int kx), .val (.ref bp), .val (.int y14)] [(.ref bp)])) rfl (by rw [hml]; rfl) (Steps.refl _) (argsL := []) (rest := []) (lenOf pd_1 rfl) rfl (by show 2 * 0 + _ ≤ _; exact Nat.le_of_eq rfl) (hb hby at_24) (fun _ _ => ⟨rfl, e3, (by decide : 0 + 0 ≤ _), (by decide : 0 + 0 ≤ _)⟩)
  dsimp only [Pt.U, Pt.locs, Pt.cells, Pt.slots] at X7 l7 y7 z7 st7 hQ7
  subst l7 y7 z7
  obtain ⟨rfl, N7q, e7⟩ := hQ7
  have N7 := Fr.app N3 N7q
  have P8 : ∀ t, Steps p.tables e below (T7.setTop (mkF m 27 #[.val (.int p1), .val (.int kx), .val (.ref bp), .val (.int y14)] [(.int (if bp = w_IMPLICATION then (1 : Int32) else (0 : Int32)))])) t → Steps p.tables e below (s₁.setTop (entryFrame m #[(.int p1)] maxLocals)) t := fun t k => P6 _ (st7.trans k)
  obtain ⟨r, hr⟩ : ∃ z : Int32, z = (if bp = w_IMPLICATION then (1 : Int32) else (0 : Int32)) := ⟨_, rfl⟩
  rw [← hr] at P8
  have re : r = y14 := by
    rw [hr, hy14]
    rcases hpk with ⟨h1, h2⟩ | ⟨h1, h2⟩
    · rw [if_pos h1, if_pos h2]
    · rw [if_neg h1, if_neg h2]
  have P9 : ∀ t, Steps p.tables e below (T7.setTop (mkF m 36 #[.val (.int p1), .val (.int kx), .val (.ref bp), .val (.int y14)] [(.int (1 : Int32))])) t → Steps p.tables e below (s₁.setTop (entryFrame m #[(.int p1)] maxLocals)) t := by
    intro t k
    refine P8 _ ?_
    refine XS.iloadN X7.here hx rfl (hb hby at_27) rfl ?_
    show Steps p.tables e below (T7.setTop (mkF m 28 #[.val (.int p1), .val (.int kx), .val (.ref bp), .val (.int y14)] [(.int y14), (.int r)])) _
    refine XS.icmpNo X7.here hx rfl (hb hby at_28) rfl (XT.ii_ne_f re) ?_
    show Steps p.tables e below (T7.setTop (mkF m 31 #[.val (.int p1), .val (.int kx), .val (.ref bp), .val (.int y14)] [])) _
    refine XS.iconst X7.here hx rfl (hb hby at_31) ?_
    show Steps p.tables e below (T7.setTop (mkF m 32 #[.val (.int p1), .val (.int kx), .val (.ref bp), .val (.int y14)] [(.int (1 : Int32))])) _
    refine XS.goto X7.here hx rfl (pc0 := 32) (pc' := 36) rfl (hb hby at_32) (by decide) (by decide) ?_
    show Steps p.tables e below (T7.setTop (mkF m 36 #[.val (.int p1), .val (.int kx), .val (.ref bp), .val (.int y14)] [(.int (1 : Int32))])) _
    exact k
  obtain ⟨fs, hr, hrun, hended, hW, hsame⟩ := X7.leave (v := some (.int (1 : Int32))) (fun h => by rw [Bd.returns] at h; cases h)
  refine ⟨_, _, P9 _ ?_, hrun, hended, _, _, rfl, ?_, ⟨_, rfl⟩, hW, hsame.mono (by decide) (by decide)⟩
  · exact retN X7 hx (t := .boolean) Bd.returns (by simp) (hb hby at_36) hr
  · show Q0 Z p1 w_IMPLICATION w_EQUIVALENCE w_DISJUNCTION w_CONJUNCTION w_UNTIL w_TEMPORAL w_COMPARISON w_SUM w_PRODUCT w_NEGATION h0 n0 _ T7.heap _
    rw [e7]
    exact ⟨rfl, N7⟩
set_option maxRecDepth 65536 in
set_option maxHeartbeats 40000000 in
theorem comes_1 {Post : Tables → Env → Array Value → State → Outcome → State → Prop} (hpost : ∀ tb e args s v u, (limb_1_1.after args s (.returned v) u = true ∧ limb_1_2.after args s (.returned v) u = true ∧ True) → FrameEnd s (.returned v) u (Jvm.fieldLocs frame_1_writes args s ++ Jvm.arrayLocs frame_1_arrays args s ++ Jvm.staticLocs frame_1_statics s) 0 0 → Post tb e args s (.returned v) u) :
    ArmFor flags0 classFile x code maxLocals ret World_1 tables_1 room_1 Calls_1 rest_1 Pre_1 Post := by
  intro l hfl _ _ p e ha hc hk s m args below hf hA hF happ hP
  obtain ⟨hcalls, hrest, hpre⟩ := hP
  obtain ⟨-, -, -, hnamed, -, -, -, hat⟩ := (Spec.applies_iff hf).mp happ
  obtain ⟨hg, hn⟩ := and_e (Cond.before_iff.mp (show (Jvm.Cond.and given_1 narrow_1).before args s = true from hpre))
  obtain ⟨g1, g2⟩ := and_e hg
  obtain ⟨w0, rfl⟩ : ∃ w0 : Value, args = #[w0] := by
    have hs : args.size = 1 := by simpa [Cond.value, given_1] using g1
    obtain ⟨L⟩ := args
    match L, hs with
    | [w0], _ => exact ⟨w0, rfl⟩
  have hw := fun d (hd : d ∈ tables_1) => atoms_spec (ws := Jvm.Cond.code x code maxLocals ret :: tables_1) hat d (List.mem_cons_of_mem _ hd)
  have hfit : Fit s := fun {y c} hc i hi => by
    obtain ⟨ha, rfl⟩ := Array.getElem?_eq_some_iff.mp hc
    have q := List.all_eq_true.mp ((Array.all_eq_true_iff_forall_mem.mp hF) _ (Array.getElem_mem ha)) i (List.mem_range.mpr hi)
    simpa [Array.getElem?_eq_getElem hi] using q
  obtain ⟨i0, ei0⟩ := is_v g2
  obtain rfl : w0 = (.int i0) := Option.some.inj ei0
  obtain ⟨t1, u1⟩ := and_e hn
  obtain ⟨t2, u2⟩ := and_e u1
  obtain ⟨t3, u3⟩ := and_e u2
  obtain ⟨t4, u4⟩ := and_e u3
  obtain ⟨t5, u5⟩ := and_e u4
  obtain ⟨t6, u6⟩ := and_e u5
  obtain ⟨t7, u7⟩ := and_e u6
  obtain ⟨t8, u8⟩ := and_e u7
  obtain ⟨t9, u9⟩ := and_e u8
  obtain ⟨t10, u10⟩ := and_e u9
  obtain ⟨t11, u11⟩ := and_e u10
  obtain ⟨t12, u12⟩ := and_e u11
  obtain ⟨t13, u13⟩ := and_e u12
  obtain ⟨t14, u14⟩ := and_e u13
  obtain ⟨t15, u15⟩ := and_e u14
  obtain ⟨t16, u16⟩ := and_e u15
  obtain ⟨t17, u17⟩ := and_e u16
  obtain ⟨t18, u18⟩ := and_e u17
  obtain ⟨t19, u19⟩ := and_e u18
  obtain ⟨w_IMPLICATION, ev_IMPLICATION⟩ := exa_v t1
  have E_IMPLICATION := Exa.start ev_IMPLICATION t1
  have S_IMPLICATION := Sta.start ev_IMPLICATION (Or.inr ⟨(hw _ (List.mem_of_getElem? (i := 6) rfl)), (hw _ (List.mem_of_getElem? (i := 7) rfl))⟩)
  have F_IMPLICATION_ordinal := own_fldI ev_IMPLICATION t4
  obtain ⟨w_EQUIVALENCE, ev_EQUIVALENCE⟩ := exa_v t5
  have E_EQUIVALENCE := Exa.start ev_EQUIVALENCE t5
  have S_EQUIVALENCE := Sta.start ev_EQUIVALENCE (Or.inr ⟨(hw _ (List.mem_of_getElem? (i := 6) rfl)), (hw _ (List.mem_of_getElem? (i := 17) rfl))⟩)
  have F_EQUIVALENCE_ordinal := own_fldI ev_EQUIVALENCE t6
  obtain ⟨w_DISJUNCTION, ev_DISJUNCTION⟩ := exa_v t11
  have E_DISJUNCTION := Exa.start ev_DISJUNCTION t11
  have S_DISJUNCTION := Sta.start ev_DISJUNCTION (Or.inr ⟨(hw _ (List.mem_of_getElem? (i := 6) rfl)), (hw _ (List.mem_of_getElem? (i := 23) rfl))⟩)
  have F_DISJUNCTION_ordinal := own_fldI ev_DISJUNCTION t12
  obtain ⟨w_CONJUNCTION, ev_CONJUNCTION⟩ := exa_v t2
  have E_CONJUNCTION := Exa.start ev_CONJUNCTION t2
  have S_CONJUNCTION := Sta.start ev_CONJUNCTION (Or.inr ⟨(hw _ (List.mem_of_getElem? (i := 6) rfl)), (hw _ (List.mem_of_getElem? (i := 15) rfl))⟩)
  have F_CONJUNCTION_ordinal := own_fldI ev_CONJUNCTION t3
  obtain ⟨w_UNTIL, ev_UNTIL⟩ := exa_v t7
  have E_UNTIL := Exa.start ev_UNTIL t7
  have S_UNTIL := Sta.start ev_UNTIL (Or.inr ⟨(hw _ (List.mem_of_getElem? (i := 6) rfl)), (hw _ (List.mem_of_getElem? (i := 19) rfl))⟩)
  have F_UNTIL_ordinal := own_fldI ev_UNTIL t8
  obtain ⟨w_TEMPORAL, ev_TEMPORAL⟩ := exa_v t17
  have E_TEMPORAL := Exa.start ev_TEMPORAL t17
  have S_TEMPORAL := Sta.start ev_TEMPORAL (Or.inr ⟨(hw _ (List.mem_of_getElem? (i := 6) rfl)), (hw _ (List.mem_of_getElem? (i := 29) rfl))⟩)
  have F_TEMPORAL_ordinal := own_fldI ev_TEMPORAL t18
  obtain ⟨w_COMPARISON, ev_COMPARISON⟩ := exa_v t19
  have E_COMPARISON := Exa.start ev_COMPARISON t19
  have S_COMPARISON := Sta.start ev_COMPARISON (Or.inr ⟨(hw _ (List.mem_of_getElem? (i := 6) rfl)), (hw _ (List.mem_of_getElem? (i := 31) rfl))⟩)
  have F_COMPARISON_ordinal := own_fldI ev_COMPARISON u19
  obtain ⟨w_SUM, ev_SUM⟩ := exa_v t9
  have E_SUM := Exa.start ev_SUM t9
  have S_SUM := Sta.start ev_SUM (Or.inr ⟨(hw _ (List.mem_of_getElem? (i := 6) rfl)), (hw _ (List.mem_of_getElem? (i := 21) rfl))⟩)
  have F_SUM_ordinal := own_fldI ev_SUM t10
  obtain ⟨w_PRODUCT, ev_PRODUCT⟩ := exa_v t13
  have E_PRODUCT := Exa.start ev_PRODUCT t13
  have S_PRODUCT := Sta.start ev_PRODUCT (Or.inr ⟨(hw _ (List.mem_of_getElem? (i := 6) rfl)), (hw _ (List.mem_of_getElem? (i := 25) rfl))⟩)
  have F_PRODUCT_ordinal := own_fldI ev_PRODUCT t14
  obtain ⟨w_NEGATION, ev_NEGATION⟩ := exa_v t15
  have E_NEGATION := Exa.start ev_NEGATION t15
  have S_NEGATION := Sta.start ev_NEGATION (Or.inr ⟨(hw _ (List.mem_of_getElem? (i := 6) rfl)), (hw _ (List.mem_of_getElem? (i := 27) rfl))⟩)
  have F_NEGATION_ordinal := own_fldI ev_NEGATION t16
  obtain ⟨n, o, h1, h2, h3, _, L, rfl, ⟨rfl, N⟩, hq⟩ := rm0 l s _ hw tables_1 i0 w_IMPLICATION w_EQUIVALENCE w_DISJUNCTION w_CONJUNCTION w_UNTIL w_TEMPORAL w_COMPARISON w_SUM w_PRODUCT w_NEGATION s.heap s.heap.size (Nat.le_refl _) S_IMPLICATION S_EQUIVALENCE S_DISJUNCTION S_CONJUNCTION S_UNTIL S_TEMPORAL S_COMPARISON S_SUM S_PRODUCT S_NEGATION E_IMPLICATION E_EQUIVALENCE E_DISJUNCTION E_CONJUNCTION E_UNTIL E_TEMPORAL E_COMPARISON E_SUM E_PRODUCT E_NEGATION F_IMPLICATION_ordinal F_EQUIVALENCE_ordinal F_DISJUNCTION_ordinal F_CONJUNCTION_ordinal F_UNTIL_ordinal F_TEMPORAL_ordinal F_COMPARISON_ordinal F_SUM_ordinal F_PRODUCT_ordinal F_NEGATION_ordinal p e ha hc hk s m _ below hf ((Spec.applies_iff_loose hf).mp happ).1 ⟨rfl, State.Warmed39.refl s, rfl⟩ trivial
  refine ⟨n, _, h1, h2, h3, hpost _ _ _ _ _ _ ⟨Cond.after_iff.mpr rfl, Cond.after_iff.mpr (eq_i res_at (Term.int_eval (1)) rfl), trivial⟩ ⟨hq.1, hq.2.1, (hq.2.2.sift fun y hy => Or.inr (N y hy)).mono (by decide) (by decide)⟩⟩
theorem main_1_1 : Claimed_1_1 := comes_1 fun _ _ _ _ _ _ h hF => ⟨h.1, hF⟩
theorem main_1_2 : Claimed_1_2 := comes_1 fun _ _ _ _ _ _ h hF => ⟨h.2.1, hF⟩
end Jvm.Pilot.@@N@@
namespace Jvm.Pilot.@@N@@
open Jvm Jvm.ClassFile Sem Op Lib Jvm.Free Jvm.Stand Jvm.Pilot.@@N@@.Jvm.D
/-! MADE BY PROGRAM (witnessworld.py) out of the Statement's table words and the real class files: 12 classes; the members and pool entries that the words name. The judged class is class 1, her method 2. -/
namespace start1
open Jvm.ClassFile
def u (s : String) : CpInfo := .utf8 (stringToUtf16 s)
/-- a pool by its gaps: so many unusable entries, then the entry; so many at the end -/
def gap : Nat → List CpInfo → List CpInfo
  | 0, r => r
  | n + 1, r => .unusable :: gap n r
def poolList (es : List (Nat × CpInfo)) (last : Nat) : List CpInfo := es.foldr (fun e r => gap e.1 (e.2 :: r)) (gap last [])
def pool (es : List (Nat × CpInfo)) (last : Nat) : Array CpInfo := ⟨poolList es last⟩
def fileOf (pool : Array CpInfo) (this : Nat) (attrs : Array Attribute := #[]) (ms : Array MethodInfo := #[]) (fl : Nat := 33) (sup : Nat := 0) (ifs : Array Nat := #[]) (fds : Array FieldInfo := #[]) : ClassFile where
  minorVersion := 0
  majorVersion := 65
  constantPool := pool
  accessFlags := fl
  thisClass := this
  superClass := sup
  interfaces := ifs
  fields := fds
  methods := ms
  attributes := attrs
def plain (name : String) (sup : Option ClassId) : Class where
  name := name
  kind := .ordinary
  loader := none
  accessFlags := 33
  super := sup
  interfaces := #[]
  cf := none
  fields := #[]
  methods := #[]
  instanceTypes := #[]
  staticTypes := #[]
  resolved := #[]
  callSites := []
  init := .initialized
  statics := none
  mirror := none

def pool0 : Array CpInfo := pool [(5, u "<init>"), (0, u "()V"), (1, .class_ 10), (1, u "java/lang/Object")] 113

def k0m0 : Method := { name := "<init>", desc := "()V", sig := { parameters := [], returnType := none }, accessFlags := 1, code := none }
/-- java/lang/Object -/
def k0 : Class := { plain "java/lang/Object" none with
  accessFlags := 33
  interfaces := #[]
  cf := some (fileOf pool0 8 #[] #[{ accessFlags := 1, nameIndex := 5, descriptorIndex := 6, attributes := #[] }] 33 0 #[] #[])
  fields := #[]
  methods := #[k0m0]
  instanceTypes := #[]
  staticTypes := #[]
  resolved := Array.replicate 124 none
  statics := none }

def pool1 : Array CpInfo := pool [(2, .class_ 4), (1, u "java/lang/Object"), (0, u "<init>"), (0, u "()V"), (0, .fieldref 8 9), (0, .class_ 10), (0, .nameAndType 11 12), (0, u "com/example/prudent_checker/prudentchecker/smv/Operator$Binding"), (0, u "IMPLICATION"), (0, u "Lcom/example/prudent_checker/prudentchecker/smv/Operator$Binding;"), (0, .fieldref 8 14), (0, .nameAndType 15 12), (0, u "EQUIVALENCE"), (0, .fieldref 8 17), (0, .nameAndType 18 12), (0, u "DISJUNCTION"), (0, .fieldref 8 20), (0, .nameAndType 21 12), (0, u "CONJUNCTION"), (0, .fieldref 8 23), (0, .nameAndType 24 12), (0, u "UNTIL"), (0, .fieldref 8 26), (0, .nameAndType 27 12), (0, u "TEMPORAL"), (0, .fieldref 8 29), (0, .nameAndType 30 12), (0, u "COMPARISON"), (0, .fieldref 8 32), (0, .nameAndType 33 12), (0, u "SUM"), (0, .fieldref 8 35), (0, .nameAndType 36 12), (0, u "PRODUCT"), (0, .fieldref 8 38), (0, .nameAndType 39 12), (0, u "NEGATION"), (0, .integer 2147483647), (0, .methodref 42 43), (0, .class_ 44), (0, .nameAndType 45 46), (0, u "com/example/prudent_checker/prudentchecker/smv/BindingGroupsRightPinLaw"), (0, u "pick"), (0, u "(I)Lcom/example/prudent_checker/prudentchecker/smv/Operator$Binding;"), (0, .methodref 8 48), (0, .nameAndType 49 50), (0, u "groupsRight"), (0, u "()Z"), (3, u "law"), (0, u "(I)Z")] 6

def k1m0 : Method := { name := "<init>", desc := "()V", sig := { parameters := [], returnType := none }, accessFlags := 1, code := none }
def k1c1 : Code := { maxStack := 2, maxLocals := 1, code := method_2_code, exceptionTable := #[], attributes := #[] }
def k1m1 : Method := { name := "pick", desc := "(I)Lcom/example/prudent_checker/prudentchecker/smv/Operator$Binding;", sig := { parameters := [.int], returnType := some (.object "com/example/prudent_checker/prudentchecker/smv/Operator$Binding") }, accessFlags := 10, code := some k1c1 }
def k1c2 : Code := { maxStack := 2, maxLocals := 4, code := code, exceptionTable := #[], attributes := #[] }
def k1m2 : Method := { name := "law", desc := "(I)Z", sig := { parameters := [.int], returnType := some .boolean }, accessFlags := 9, code := some k1c2 }
/-- com/example/prudent_checker/prudentchecker/smv/BindingGroupsRightPinLaw -/
def k1 : Class := { plain "com/example/prudent_checker/prudentchecker/smv/BindingGroupsRightPinLaw" (some 0) with
  accessFlags := 49
  interfaces := #[]
  cf := some (fileOf pool1 42 #[] #[{ accessFlags := 1, nameIndex := 5, descriptorIndex := 6, attributes := #[] }, { accessFlags := 10, nameIndex := 45, descriptorIndex := 46, attributes := #[] }, { accessFlags := 9, nameIndex := 54, descriptorIndex := 55, attributes := #[] }] 49 2 #[] #[])
  fields := #[]
  methods := #[k1m0, k1m1, k1m2]
  instanceTypes := #[]
  staticTypes := #[]
  resolved := Array.replicate 62 none
  statics := none }

def pool2 : Array CpInfo := pool [(1, .class_ 2), (0, u "java/lang/constant/Constable"), (0, .class_ 4), (0, u "java/lang/Object")] 6

/-- java/lang/constant/Constable -/
def k2 : Class := { plain "java/lang/constant/Constable" (some 0) with
  accessFlags := 1537
  interfaces := #[]
  cf := some (fileOf pool2 1 #[] #[] 1537 3 #[] #[])
  fields := #[]
  methods := #[]
  instanceTypes := #[]
  staticTypes := #[]
  resolved := Array.replicate 11 none
  statics := none }

def pool3 : Array CpInfo := pool [(1, .class_ 2), (0, u "java/lang/Comparable"), (0, .class_ 4), (0, u "java/lang/Object")] 7

/-- java/lang/Comparable -/
def k3 : Class := { plain "java/lang/Comparable" (some 0) with
  accessFlags := 1537
  interfaces := #[]
  cf := some (fileOf pool3 1 #[] #[] 1537 3 #[] #[])
  fields := #[]
  methods := #[]
  instanceTypes := #[]
  staticTypes := #[]
  resolved := Array.replicate 12 none
  statics := none }

def pool4 : Array CpInfo := pool [(1, .class_ 2), (0, u "java/io/Serializable"), (0, .class_ 4), (0, u "java/lang/Object")] 2

/-- java/io/Serializable -/
def k4 : Class := { plain "java/io/Serializable" (some 0) with
  accessFlags := 1537
  interfaces := #[]
  cf := some (fileOf pool4 1 #[] #[] 1537 3 #[] #[])
  fields := #[]
  methods := #[]
  instanceTypes := #[]
  staticTypes := #[]
  resolved := Array.replicate 7 none
  statics := none }

def pool5 : Array CpInfo := pool [(2, .class_ 4), (1, u "java/lang/Enum"), (0, u "name"), (0, u "Ljava/lang/String;"), (2, u "ordinal"), (0, u "I"), (1, .class_ 14), (1, u "java/lang/Object"), (4, u "hash"), (86, .class_ 108), (1, u "java/lang/Enum$EnumDesc"), (2, .class_ 112), (0, u "java/lang/constant/Constable"), (0, .class_ 114), (0, u "java/lang/Comparable"), (0, .class_ 116), (0, u "java/io/Serializable")] 87

/-- java/lang/Enum -/
def k5 : Class := { plain "java/lang/Enum" (some 0) with
  accessFlags := 1057
  interfaces := #[2, 3, 4]
  cf := some (fileOf pool5 2 #[.nestMembers #[106]] #[] 1057 12 #[111, 113, 115] #[{ accessFlags := 18, nameIndex := 5, descriptorIndex := 6, attributes := #[] }, { accessFlags := 18, nameIndex := 9, descriptorIndex := 10, attributes := #[] }, { accessFlags := 2, nameIndex := 19, descriptorIndex := 10, attributes := #[] }])
  fields := #[{ name := "name", type := (.object "java/lang/String"), accessFlags := 18, slot := 0, constantValue := 0 }, { name := "ordinal", type := .int, accessFlags := 18, slot := 1, constantValue := 0 }, { name := "hash", type := .int, accessFlags := 2, slot := 2, constantValue := 0 }]
  methods := #[]
  instanceTypes := #[(.object "java/lang/String"), .int, .int]
  staticTypes := #[]
  resolved := Array.replicate 204 none
  statics := none }

def pool6 : Array CpInfo := pool [(1, .class_ 2), (0, u "com/example/prudent_checker/prudentchecker/smv/Operator$Binding"), (0, .fieldref 1 4), (0, .nameAndType 5 6), (0, u "IMPLICATION"), (0, u "Lcom/example/prudent_checker/prudentchecker/smv/Operator$Binding;"), (2, u "EQUIVALENCE"), (2, u "DISJUNCTION"), (2, u "CONJUNCTION"), (2, u "UNTIL"), (2, u "TEMPORAL"), (2, u "COMPARISON"), (2, u "SUM"), (2, u "PRODUCT"), (2, u "NEGATION"), (2, u "$VALUES"), (0, u "[Lcom/example/prudent_checker/prudentchecker/smv/Operator$Binding;"), (6, .class_ 46), (1, u "java/lang/Enum"), (32, u "groupsRight"), (0, u "()Z"), (8, .class_ 90), (0, u "com/example/prudent_checker/prudentchecker/smv/Operator")] 2

def k6c0 : Code := { maxStack := 2, maxLocals := 1, code := prog_97_method_4_code, exceptionTable := #[], attributes := #[] }
def k6m0 : Method := { name := "groupsRight", desc := "()Z", sig := { parameters := [], returnType := some .boolean }, accessFlags := 1, code := some k6c0 }
/-- com/example/prudent_checker/prudentchecker/smv/Operator$Binding -/
def k6 : Class := { plain "com/example/prudent_checker/prudentchecker/smv/Operator$Binding" (some 5) with
  accessFlags := 16433
  interfaces := #[]
  cf := some (fileOf pool6 1 #[.nestHost 89] #[{ accessFlags := 1, nameIndex := 79, descriptorIndex := 80, attributes := #[] }] 16433 44 #[] #[{ accessFlags := 16409, nameIndex := 5, descriptorIndex := 6, attributes := #[] }, { accessFlags := 16409, nameIndex := 9, descriptorIndex := 6, attributes := #[] }, { accessFlags := 16409, nameIndex := 12, descriptorIndex := 6, attributes := #[] }, { accessFlags := 16409, nameIndex := 15, descriptorIndex := 6, attributes := #[] }, { accessFlags := 16409, nameIndex := 18, descriptorIndex := 6, attributes := #[] }, { accessFlags := 16409, nameIndex := 21, descriptorIndex := 6, attributes := #[] }, { accessFlags := 16409, nameIndex := 24, descriptorIndex := 6, attributes := #[] }, { accessFlags := 16409, nameIndex := 27, descriptorIndex := 6, attributes := #[] }, { accessFlags := 16409, nameIndex := 30, descriptorIndex := 6, attributes := #[] }, { accessFlags := 16409, nameIndex := 33, descriptorIndex := 6, attributes := #[] }, { accessFlags := 4122, nameIndex := 36, descriptorIndex := 37, attributes := #[] }])
  fields := #[{ name := "IMPLICATION", type := (.object "com/example/prudent_checker/prudentchecker/smv/Operator$Binding"), accessFlags := 16409, slot := 0, constantValue := 0 }, { name := "EQUIVALENCE", type := (.object "com/example/prudent_checker/prudentchecker/smv/Operator$Binding"), accessFlags := 16409, slot := 1, constantValue := 0 }, { name := "DISJUNCTION", type := (.object "com/example/prudent_checker/prudentchecker/smv/Operator$Binding"), accessFlags := 16409, slot := 2, constantValue := 0 }, { name := "CONJUNCTION", type := (.object "com/example/prudent_checker/prudentchecker/smv/Operator$Binding"), accessFlags := 16409, slot := 3, constantValue := 0 }, { name := "UNTIL", type := (.object "com/example/prudent_checker/prudentchecker/smv/Operator$Binding"), accessFlags := 16409, slot := 4, constantValue := 0 }, { name := "TEMPORAL", type := (.object "com/example/prudent_checker/prudentchecker/smv/Operator$Binding"), accessFlags := 16409, slot := 5, constantValue := 0 }, { name := "COMPARISON", type := (.object "com/example/prudent_checker/prudentchecker/smv/Operator$Binding"), accessFlags := 16409, slot := 6, constantValue := 0 }, { name := "SUM", type := (.object "com/example/prudent_checker/prudentchecker/smv/Operator$Binding"), accessFlags := 16409, slot := 7, constantValue := 0 }, { name := "PRODUCT", type := (.object "com/example/prudent_checker/prudentchecker/smv/Operator$Binding"), accessFlags := 16409, slot := 8, constantValue := 0 }, { name := "NEGATION", type := (.object "com/example/prudent_checker/prudentchecker/smv/Operator$Binding"), accessFlags := 16409, slot := 9, constantValue := 0 }, { name := "$VALUES", type := (.array (.object "com/example/prudent_checker/prudentchecker/smv/Operator$Binding")), accessFlags := 4122, slot := 10, constantValue := 0 }]
  methods := #[k6m0]
  instanceTypes := #[(.object "java/lang/String"), .int, .int]
  staticTypes := #[(.object "com/example/prudent_checker/prudentchecker/smv/Operator$Binding"), (.object "com/example/prudent_checker/prudentchecker/smv/Operator$Binding"), (.object "com/example/prudent_checker/prudentchecker/smv/Operator$Binding"), (.object "com/example/prudent_checker/prudentchecker/smv/Operator$Binding"), (.object "com/example/prudent_checker/prudentchecker/smv/Operator$Binding"), (.object "com/example/prudent_checker/prudentchecker/smv/Operator$Binding"), (.object "com/example/prudent_checker/prudentchecker/smv/Operator$Binding"), (.object "com/example/prudent_checker/prudentchecker/smv/Operator$Binding"), (.object "com/example/prudent_checker/prudentchecker/smv/Operator$Binding"), (.object "com/example/prudent_checker/prudentchecker/smv/Operator$Binding"), (.array (.object "com/example/prudent_checker/prudentchecker/smv/Operator$Binding"))]
  resolved := Array.replicate 93 none
  statics := some 0 }

def pool7 : Array CpInfo := pool [(1, u "java/lang/Cloneable"), (0, .class_ 1), (0, u "java/lang/Object"), (0, .class_ 3)] 3

/-- java/lang/Cloneable -/
def k7 : Class := { plain "java/lang/Cloneable" (some 0) with
  accessFlags := 1537
  interfaces := #[]
  cf := some (fileOf pool7 2 #[] #[] 1537 4 #[] #[])
  fields := #[]
  methods := #[]
  instanceTypes := #[]
  staticTypes := #[]
  resolved := Array.replicate 8 none
  statics := none }

/-- the primitive byte -/
def k8 : Class := { plain "byte" none with kind := .primitive 'B', accessFlags := 0x411 }
/-- [B -/
def k9 : Class := { plain "[B" (some 0) with kind := .array 8 .byte, interfaces := #[7, 4], accessFlags := 1041 }

/-- the primitive int -/
def k10 : Class := { plain "int" none with kind := .primitive 'I', accessFlags := 0x411 }
/-- [I -/
def k11 : Class := { plain "[I" (some 0) with kind := .array 10 .int, interfaces := #[7, 4], accessFlags := 1041 }

def heap : Heap := #[{ cls := 6, slots := #[.ref 1, .ref 2, .ref 3, .ref 4, .ref 5, .ref 6, .ref 7, .ref 8, .ref 9, .ref 10, .null], vm := .statics 6 },
  { cls := 6, slots := #[.null, .int 0, .int 0], vm := .none },
  { cls := 6, slots := #[.null, .int 1, .int 0], vm := .none },
  { cls := 6, slots := #[.null, .int 2, .int 0], vm := .none },
  { cls := 6, slots := #[.null, .int 3, .int 0], vm := .none },
  { cls := 6, slots := #[.null, .int 4, .int 0], vm := .none },
  { cls := 6, slots := #[.null, .int 5, .int 0], vm := .none },
  { cls := 6, slots := #[.null, .int 6, .int 0], vm := .none },
  { cls := 6, slots := #[.null, .int 7, .int 0], vm := .none },
  { cls := 6, slots := #[.null, .int 8, .int 0], vm := .none },
  { cls := 6, slots := #[.null, .int 9, .int 0], vm := .none }]
def classes : Array Class := #[k0, k1, k2, k3, k4, k5, k6, k7, k8, k9, k10, k11]
def interned : List (Array UInt16 × Addr) := []
def slotsUsed : Nat := 41
def theMethod : MethodId := ⟨1, 2⟩
def args0 : Array Value := #[.int 5]
def aboutOver (below : List Frame) : State where
  vm := { classes := classes, interned := interned.toArray }
  heap := heap
  slotsUsed := slotsUsed
  threads := #[{ frames := .invoking theMethod args0 :: below }]
def below0 : List Frame := [.native { method := ⟨0, 0⟩, args := #[] }]
def about1 : State := aboutOver below0
def p0 : Program := .bare "" "" ""
def e0 : Env := launch0.env 0 0 0
theorem w_frames : about1.frames = Frame.invoking theMethod args0 :: below0 := rfl
set_option maxRecDepth 65536 in
theorem w_args : argsFit about1.vm theMethod args0 = true := by decide +kernel
set_option maxRecDepth 65536 in
theorem w_heap : heapFits about1 = true := by decide +kernel
set_option maxRecDepth 65536 in
theorem w_runnable : about1.curStatus? = some .runnable := by decide +kernel
set_option maxRecDepth 65536 in
theorem w_alone : about1.alone = true := by decide +kernel
set_option maxRecDepth 65536 in
theorem w_named : about1.methodNamed? x = some theMethod := by decide +kernel
set_option maxRecDepth 65536 in
theorem w_hears : about1.hears theMethod below0 = true := by decide +kernel
set_option maxRecDepth 65536 in
theorem w_ripe : about1.ripe theMethod args0 below0 = true := by decide +kernel
theorem w_running : about1.status = .running := rfl
set_option maxRecDepth 65536 in
theorem w_room : about1.hasRoom e0.platform room_1 = true :=
  launch0.hasRoom_least _ room_1 (by decide +kernel) (by decide +kernel) (by decide +kernel) (by decide +kernel) (by decide +kernel) (by decide +kernel)
theorem allAtoms_all (ts : List Jvm.Cond) (a : Array Jvm.Value) (st : Jvm.State) : (allAtoms ts).before a st = ts.all (fun c => c.before a st) := by
  induction ts with
  | nil => rfl
  | cons c t ih =>
    show (Jvm.Cond.and c (allAtoms t)).before a st = _
    rw [Jvm.Cond.before_and, ih, List.all_cons]
def words1 : List Jvm.Cond := Jvm.Cond.code x code maxLocals ret :: tables_1
/-- a 'code' word, met by the world's own term for the bytes: nothing is compared byte by byte -/
theorem code_word {y : MethodName} {bytes : ByteArray} {mx : Nat} {rt : Option FieldType} {a : Array Value} {s : State} {m : MethodId} {meth : Method} {c : Code} (h1 : s.methodNamed? y = some m) (h2 : s.vm.method? m = some meth) (h3 : meth.code = some c) (h4 : c.code = bytes)
    (h5 : (c.maxLocals == mx && c.exceptionTable.isEmpty && decide (c.maxStack ≤ mostOperands) && decide (meth.sig.returnType = rt) && !meth.locks && decide (parseMethodDescriptor y.desc = some meth.sig)) = true) : (Jvm.Cond.code y bytes mx rt).before a s = true := by
  simp only [Bool.and_eq_true, beq_iff_eq, Bool.not_eq_true', decide_eq_true_eq] at h5
  obtain ⟨⟨⟨⟨⟨g1, g2⟩, g3⟩, g4⟩, g5⟩, g6⟩ := h5
  simp [Cond.before, Cond.holds, Cond.value, h1, h2, h3, h4, g1, g2, g3, g4, g5, g6]
def isCode : Jvm.Cond → Bool
  | .code _ _ _ _ => true
  | _ => false
theorem all_split {L : List Jvm.Cond} {P : Jvm.Cond → Bool} (h1 : L.all (fun c => isCode c || P c) = true) (h2 : ∀ c ∈ L.filter isCode, P c = true) : L.all P = true := by
  refine List.all_eq_true.mpr fun c hc => ?_
  have h := List.all_eq_true.mp h1 c hc
  rcases Bool.eq_false_or_eq_true (isCode c) with hi | hi
  · exact h2 c (List.mem_filter.mpr ⟨hc, hi⟩)
  · simpa [hi] using h
set_option maxRecDepth 65536 in
theorem w_c0 : (Jvm.Cond.code x code maxLocals ret).before args0 about1 = true := code_word (m := ⟨1, 2⟩) (meth := k1m2) (c := k1c2) (by decide +kernel) rfl rfl rfl (by decide +kernel)
set_option maxRecDepth 65536 in
theorem w_c1 : (Jvm.Cond.code ({ cls := "com/example/prudent_checker/prudentchecker/smv/BindingGroupsRightPinLaw", name := "pick", desc := "(I)Lcom/example/prudent_checker/prudentchecker/smv/Operator$Binding;" } : Jvm.MethodName) method_2_code (1 : Nat) (Option.some (Jvm.ClassFile.FieldType.object "com/example/prudent_checker/prudentchecker/smv/Operator$Binding"))).before args0 about1 = true := code_word (m := ⟨1, 1⟩) (meth := k1m1) (c := k1c1) (by decide +kernel) rfl rfl rfl (by decide +kernel)
set_option maxRecDepth 65536 in
theorem w_c2 : (Jvm.Cond.code ({ cls := "com/example/prudent_checker/prudentchecker/smv/Operator$Binding", name := "groupsRight", desc := "()Z" } : Jvm.MethodName) prog_97_method_4_code (1 : Nat) (Option.some Jvm.ClassFile.FieldType.boolean)).before args0 about1 = true := code_word (m := ⟨6, 0⟩) (meth := k6m0) (c := k6c0) (by decide +kernel) rfl rfl rfl (by decide +kernel)
def codes1 : List Jvm.Cond := [Jvm.Cond.code x code maxLocals ret, Jvm.Cond.code ({ cls := "com/example/prudent_checker/prudentchecker/smv/BindingGroupsRightPinLaw", name := "pick", desc := "(I)Lcom/example/prudent_checker/prudentchecker/smv/Operator$Binding;" } : Jvm.MethodName) method_2_code (1 : Nat) (Option.some (Jvm.ClassFile.FieldType.object "com/example/prudent_checker/prudentchecker/smv/Operator$Binding")), Jvm.Cond.code ({ cls := "com/example/prudent_checker/prudentchecker/smv/Operator$Binding", name := "groupsRight", desc := "()Z" } : Jvm.MethodName) prog_97_method_4_code (1 : Nat) (Option.some Jvm.ClassFile.FieldType.boolean)]
set_option maxRecDepth 65536 in
theorem codes_eq : words1.filter isCode = codes1 := rfl
theorem w_codes : ∀ c ∈ words1.filter isCode, c.before args0 about1 = true := by
  rw [codes_eq]
  intro c hc
  simp only [codes1, List.mem_cons, List.not_mem_nil, or_false] at hc
  rcases hc with rfl | rfl | rfl
  · exact w_c0
  · exact w_c1
  · exact w_c2
set_option maxRecDepth 65536 in
theorem w_t1 : (words1.take 24).all (fun c => isCode c || c.before args0 about1) = true := by decide +kernel
set_option maxRecDepth 65536 in
theorem w_t2 : (words1.drop 24).all (fun c => isCode c || c.before args0 about1) = true := by decide +kernel
theorem w_tables : (allAtoms (Jvm.Cond.code x code maxLocals ret :: tables_1)).before args0 about1 = true := by
  rw [allAtoms_all]
  show words1.all (fun c => c.before args0 about1) = true
  refine all_split ?_ w_codes
  rw [← List.take_append_drop 24 words1, List.all_append, w_t1, w_t2]
  rfl
set_option maxRecDepth 65536 in
theorem w_case : (Jvm.Cond.and given_1 narrow_1).before args0 about1 = true := by decide +kernel
theorem w_applies : (headSpec (Jvm.Cond.code x code maxLocals ret :: tables_1) room_1).applies x e0.platform about1 = true :=
  (Spec.applies_iff w_frames).mpr ⟨w_running, w_runnable, w_alone, w_named, w_hears, w_ripe, w_room, w_tables⟩
theorem atStart : AtStart classFile x code maxLocals ret World_1 tables_1 room_1 Calls_1 rest_1 Pre_1 launch0 p0 e0 about1 theMethod args0 below0 :=
  ⟨lists_1, trivial, launch0.admits_env _ _ _, launch0.least_env, fairChoices_fair.cas, fairChoices_fair.clock, w_frames, w_args, w_heap, w_applies, trivial, trivial, w_case⟩
end start1
theorem witness_1 : WitnessClaimed_1 := ⟨start1.p0, start1.e0, start1.about1, start1.theMethod, start1.args0, start1.below0, start1.atStart⟩
end Jvm.Pilot.@@N@@

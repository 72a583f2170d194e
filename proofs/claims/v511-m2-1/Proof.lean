import JvmDerived
import JvmDerived.Pilot.@@N@@Statement
import JvmDerived.Pilot.@@N@@Code
set_option linter.unusedVariables false
set_option linter.unusedSimpArgs false
namespace Jvm.RoadKit
open Sem ClassFile Op Lib Jvm.Stand Jvm.Free Jvm.LawKit
section New
variable {p : Program} {l : Launch} {e : Env} {R : Room} {s : State} {m : MethodId} {args : Array Value} {below : List Frame} {meth : Method} {c : Code} {T : State} {locs : List Loc} {cells slots : Nat}
theorem retI (X : Stand p l e R s m args below meth c T locs cells slots) (hx : p.tables.exec = Jvm.exec) {pc : Nat} {Ls : Array Slot} {z : Int32} {rest : List Value} (hret : meth.sig.returnType = some .int) (hd : decode c.code pc = .ok (.ireturn, 1)) {fs : List Frame}
    (hl : ∀ (f : JFrame) (acts : List Action), f.method = m → f.locked = none → f.entered = [] → (doReturn e (T.setTop f) acts (some (.int z))).1 = T.setFrames fs) : Steps p.tables e below (T.setTop (mkF m pc Ls (.int z :: rest))) (T.setFrames fs) := by
  have hm' : T.vm.method? m = some meth := X.method'
  have hn : narrow .int (.int z) = .int z := rfl
  show Steps p.tables e below (T.setTop { method := m, pc := pc, locals := Ls, stack := _ :: rest, locked := none }) _
  jvm_step X.here [X.here.top, hx, hd, hm', hret, hn]
  first | (intro acts; rw [hl _ acts rfl rfl rfl]) | rw [hl _ _ rfl rfl rfl]
  exact Steps.refl _
end New
end Jvm.RoadKit
namespace Jvm.Pilot.@@N@@
open Jvm Jvm.ClassFile Sem Op Lib Jvm.Free Jvm.Stand Jvm.LawKit Jvm.RoadKit Bundle Jvm.Pilot.@@N@@.Jvm.D

theorem own_nb {c : Prop} [Decidable c] : nar .boolean (if c then (1 : Int32) else (0 : Int32)) = (if c then (1 : Int32) else (0 : Int32)) := by
  by_cases h : c
  · rw [if_pos h]; rfl
  · rw [if_neg h]; rfl
theorem own_n1 : nar .boolean (1 : Int32) = (1 : Int32) := rfl
theorem own_n0 : nar .boolean (0 : Int32) = (0 : Int32) := rfl

theorem own_pos {x y : Int32} (h : x = y &&& (2147483647 : Int32)) : ¬ x < (0 : Int32) := by
  have := c_mask y 2147483647 31 (by decide) (by decide)
  rw [← h] at this
  rw [Int32.lt_iff_toInt_lt]
  show ¬ x.toInt < 0
  omega
theorem own_rem {x y d : Int32} {D : Int} (h : x = (y &&& (2147483647 : Int32)) % d) (hd : d.toInt = D) (hD : 0 < D) : 0 ≤ x.toInt ∧ x.toInt < D := by
  have h1 := c_mask y 2147483647 31 (by decide) (by decide)
  have h2 := c_iremV (y &&& 2147483647) d
  rw [← h, hd] at h2
  have h3 := h2.1 (by omega) hD
  omega

theorem own_fldI {args : Array Value} {s : State} {t : Jvm.Term} {x : Addr} {C n d : String} {k : Int32} (ht : t.eval args s none [] s = some (.ref x)) (h : (Jvm.Cond.eq (Jvm.Term.field t C n d) (Jvm.Term.int k)).value args s none s [] = some true) : Fld s s.heap x C n d (.int k) := by
  have e1 := fld_at (C := C) (n := n) (dd := d) ht
  cases hf : s.fieldOf? x C n d with
  | none => rw [hf] at e1; simp [Jvm.Cond.value, e1] at h
  | some u =>
    rw [hf] at e1
    have e2 : (Jvm.Term.int k).eval args s none [] s = some (.int k) := rfl
    cases u <;> simp [Jvm.Cond.value, e1, e2] at h
    subst h
    exact Fld.start hf
theorem own_fldN {args : Array Value} {s : State} {t : Jvm.Term} {x : Addr} {C n d : String} (ht : t.eval args s none [] s = some (.ref x)) (h : (Jvm.Cond.eq (Jvm.Term.field t C n d) Jvm.Term.null).value args s none s [] = some true) : Fld s s.heap x C n d .null := by
  have e1 := fld_at (C := C) (n := n) (dd := d) ht
  have e2 := null_v h
  exact Fld.start (e1.symm.trans e2)
theorem own_fldR {args : Array Value} {s : State} {t u : Jvm.Term} {x y : Addr} {C n d : String} (ht : t.eval args s none [] s = some (.ref x)) (hu : u.eval args s none [] s = some (.ref y)) (h : (Jvm.Cond.eq (Jvm.Term.field t C n d) u).value args s none s [] = some true) : Fld s s.heap x C n d (.ref y) := by
  have e1 := fld_at (C := C) (n := n) (dd := d) ht
  cases hf : s.fieldOf? x C n d with
  | none => rw [hf] at e1; simp [Jvm.Cond.value, e1] at h
  | some w =>
    rw [hf] at e1
    cases w <;> simp [Jvm.Cond.value, e1, hu] at h
    subst h
    exact Fld.start hf
theorem own_fldJ {args : Array Value} {s : State} {t : Jvm.Term} {x : Addr} {C n d : String} {k : Int64} (ht : t.eval args s none [] s = some (.ref x)) (h : (Jvm.Cond.eq (Jvm.Term.field t C n d) (Jvm.Term.long k)).value args s none s [] = some true) : Fld s s.heap x C n d (.long k) := by
  have e1 := fld_at (C := C) (n := n) (dd := d) ht
  cases hf : s.fieldOf? x C n d with
  | none => rw [hf] at e1; simp [Jvm.Cond.value, e1] at h
  | some u =>
    rw [hf] at e1
    have e2 : (Jvm.Term.long k).eval args s none [] s = some (.long k) := rfl
    cases u <;> simp [Jvm.Cond.value, e1, e2] at h
    subst h
    exact Fld.start hf

section OwnArr
variable {p : Program} {l : Launch} {e : Env} {R : Room} {s : State} {m : MethodId} {args : Array Value} {below : List Frame} {meth : Method} {c : Code} {T : State} {locs : List Loc} {cells slots : Nat} {Z : State} {h : Heap} {a : Addr} {k : ClassId} {n : Int32} {vs : List Value} {d : Value}
theorem own_len {ty : FieldType} {g : JFrame} {target : State} (X : Stand p l e R s m args below meth c T locs cells slots) (hx : p.tables.exec = Jvm.exec) (hZ : Z.Warmed39 s.vm) (eT : T.heap = h) (A : Arv Z h a k ty n vs d) (hg : g.method = m) {rest : List Value} (hs : g.stack = .ref a :: rest) (hd : decode c.code g.pc = .ok (.arraylength, 1))
    (hr : Steps p.tables e below (T.setTop { g with pc := g.pc + 1, stack := .int n :: rest }) target) : Steps p.tables e below (T.setTop g) target := by
  obtain ⟨cl, Ar, -, S, M, -, -⟩ := A
  refine X.arraylength hx (by rw [eT]; exact Ar.1) (State.isArrayOf_alike hZ.alike Ar.2.1) hg hs hd _ ?_
  rw [len_of S M]
  exact hr
theorem own_aal {O : String} {g : JFrame} {target : State} (X : Stand p l e R s m args below meth c T locs cells slots) (hx : p.tables.exec = Jvm.exec) (hZ : Z.Warmed39 s.vm) (eT : T.heap = h) (A : Arv Z h a k (.object O) n vs d) {j : Int32} (hj : ¬ j < 0 ∧ j < n) {v : Value} (hv : vs.getD j.toNatClampNeg d = v) (hg : g.method = m) {rest : List Value} (hs : g.stack = .int j :: .ref a :: rest) (hd : decode c.code g.pc = .ok (.aaload, 1))
    (hr : Steps p.tables e below (T.setTop { g with pc := g.pc + 1, stack := v :: rest }) target) : Steps p.tables e below (T.setTop g) target := by
  obtain ⟨cl, Ar, -, S, M, H, -⟩ := A
  have hin := inb_of S hj
  exact X.aaload hx (by rw [eT]; exact Ar.1) (State.isArrayOf_alike hZ.alike Ar.2.1) rfl Ar.2.2 hin (Has.at H hin hv) hg hs hd _ hr
end OwnArr
theorem own_5 {k : Int32} (h : 0 ≤ k.toInt ∧ k.toInt < 5) : k = (0 : Int32) ∨ k = (1 : Int32) ∨ k = (2 : Int32) ∨ k = (3 : Int32) ∨ k = (4 : Int32) := by
  have e : ∀ j : Int32, k.toInt = j.toInt → k = j := fun j q => Int32.toInt_inj.mp q
  have q : k.toInt = 0 ∨ k.toInt = 1 ∨ k.toInt = 2 ∨ k.toInt = 3 ∨ k.toInt = 4 := by omega
  rcases q with q | q | q | q | q
  · exact Or.inl (e 0 q)
  · exact Or.inr (Or.inl (e 1 q))
  · exact Or.inr (Or.inr (Or.inl (e 2 q)))
  · exact Or.inr (Or.inr (Or.inr (Or.inl (e 3 q))))
  · exact Or.inr (Or.inr (Or.inr (Or.inr (e 4 q))))
theorem own_nn {x y : Int64} (h : x = (y &&& (9223372036854775807 : Int64))) : 0 ≤ x.toInt := by
  have h1 := c_maskL y 9223372036854775807 63 (by decide) (by decide)
  rw [← h] at h1
  omega
theorem own_l (x y : Int64) : (if x < y then x else y).toInt = if x.toInt < y.toInt then x.toInt else y.toInt := by
  by_cases h : x < y
  · rw [if_pos h, if_pos (Int64.lt_iff_toInt_lt.mp h)]
  · rw [if_neg h, if_neg (fun z => h (Int64.lt_iff_toInt_lt.mpr z))]
theorem own_eq {x y : Int64} (h : x.toInt = y.toInt) : x = y := Int64.toInt_inj.mp h
theorem own_one : (1 : Int64).toInt = 1 := rfl
theorem own_zero : (0 : Int64).toInt = 0 := rfl

theorem own_pl0 {lf rg ml mr cv cw : Int64} (h1 : 0 ≤ lf.toInt) (h2 : 0 ≤ rg.toInt) (h3 : ml = (if (1 : Int64) < lf then (1 : Int64) else lf)) (h4 : mr = (if (1 : Int64) < rg then (1 : Int64) else rg)) (h5 : cv = (if (1 : Int64) < lf then (1 : Int64) else lf)) (h6 : cw = (if (1 : Int64) < ml then (1 : Int64) else ml)) : cv = cw ∧ ¬ cv < (0 : Int64) ∧ ¬ (1 : Int64) < cv := by
  have e3 := congrArg Int64.toInt h3
  have e4 := congrArg Int64.toInt h4
  have e5 := congrArg Int64.toInt h5
  have e6 := congrArg Int64.toInt h6
  simp only [own_l, own_one] at e3 e4 e5 e6
  have q : cv.toInt = cw.toInt ∧ 0 ≤ cv.toInt ∧ cv.toInt ≤ 1 := by
    repeat' split at e3
    all_goals repeat' split at e4
    all_goals repeat' split at e5
    all_goals repeat' split at e6
    all_goals omega
  refine ⟨own_eq q.1, ?_, ?_⟩
  · rw [Int64.lt_iff_toInt_lt, own_zero]; omega
  · rw [Int64.lt_iff_toInt_lt, own_one]; omega
theorem own_pl1 {lf rg ml mr cv cw : Int64} (h1 : 0 ≤ lf.toInt) (h2 : 0 ≤ rg.toInt) (h3 : ml = (if (1 : Int64) < lf then (1 : Int64) else lf)) (h4 : mr = (if (1 : Int64) < rg then (1 : Int64) else rg)) (h5 : cv = (if (0 : Int64) < lf then (if rg = (0 : Int64) then (1 : Int64) else (0 : Int64)) else (0 : Int64))) (h6 : cw = (if (0 : Int64) < ml then (if mr = (0 : Int64) then (1 : Int64) else (0 : Int64)) else (0 : Int64))) : cv = cw ∧ ¬ cv < (0 : Int64) ∧ ¬ (1 : Int64) < cv := by
  have e3 := congrArg Int64.toInt h3
  have e4 := congrArg Int64.toInt h4
  rw [own_l, own_one] at e3 e4
  have p1 : (0 : Int64) < lf ↔ (0 : Int64) < ml := by
    rw [Int64.lt_iff_toInt_lt, Int64.lt_iff_toInt_lt, own_zero]; split at e3 <;> omega
  have p2 : rg = (0 : Int64) ↔ mr = (0 : Int64) := by
    rw [← Int64.toInt_inj, ← Int64.toInt_inj, own_zero]; split at e4 <;> omega
  have q1 : cv = cw := by
    rw [h5, h6]
    by_cases c1 : (0 : Int64) < lf
    · rw [if_pos c1, if_pos (p1.mp c1)]
      by_cases c2 : rg = (0 : Int64)
      · rw [if_pos c2, if_pos (p2.mp c2)]
      · rw [if_neg c2, if_neg (fun z => c2 (p2.mpr z))]
    · rw [if_neg c1, if_neg (fun z => c1 (p1.mpr z))]
  refine ⟨q1, ?_, ?_⟩
  · rw [h5]; repeat' split
    all_goals decide
  · rw [h5]; repeat' split
    all_goals decide
theorem own_pl3 {lf rg ml mr cv cw : Int64} (h1 : 0 ≤ lf.toInt) (h2 : 0 ≤ rg.toInt) (h3 : ml = (if (1 : Int64) < lf then (1 : Int64) else lf)) (h4 : mr = (if (1 : Int64) < rg then (1 : Int64) else rg)) (h5 : cv = (if (1 : Int64) < (if rg < lf then rg else lf) then (1 : Int64) else (if rg < lf then rg else lf))) (h6 : cw = (if (1 : Int64) < (if mr < ml then mr else ml) then (1 : Int64) else (if mr < ml then mr else ml))) : cv = cw ∧ ¬ cv < (0 : Int64) ∧ ¬ (1 : Int64) < cv := by
  have e3 := congrArg Int64.toInt h3
  have e4 := congrArg Int64.toInt h4
  have e5 := congrArg Int64.toInt h5
  have e6 := congrArg Int64.toInt h6
  simp only [own_l, own_one] at e3 e4 e5 e6
  have q : cv.toInt = cw.toInt ∧ 0 ≤ cv.toInt ∧ cv.toInt ≤ 1 := by
    repeat' split at e3
    all_goals repeat' split at e4
    all_goals repeat' split at e5
    all_goals repeat' split at e6
    all_goals omega
  refine ⟨own_eq q.1, ?_, ?_⟩
  · rw [Int64.lt_iff_toInt_lt, own_zero]; omega
  · rw [Int64.lt_iff_toInt_lt, own_one]; omega
theorem pd_0 : parseMethodDescriptor "()I" = some ⟨[], some .int⟩ := by decide +kernel
theorem pd_1 : parseMethodDescriptor "(JJ)J" = some ⟨[.long, .long], some .long⟩ := by decide +kernel
theorem pd_2 : parseMethodDescriptor "()Z" = some ⟨[], some .boolean⟩ := by decide +kernel
theorem d1_0 : decode jdk_29_method_70_code 0 = .ok (.lload_n 0, 1) := by decide +kernel
theorem d1_1 : decode jdk_29_method_70_code 1 = .ok (.lload_n 2, 1) := by decide +kernel
theorem d1_2 : decode jdk_29_method_70_code 2 = .ok (.lcmp, 1) := by decide +kernel
theorem d1_3 : decode jdk_29_method_70_code 3 = .ok (.ifCond .gt 7, 3) := by decide +kernel
theorem d1_6 : decode jdk_29_method_70_code 6 = .ok (.lload_n 0, 1) := by decide +kernel
theorem d1_7 : decode jdk_29_method_70_code 7 = .ok (.goto 4, 3) := by decide +kernel
theorem d1_10 : decode jdk_29_method_70_code 10 = .ok (.lload_n 2, 1) := by decide +kernel
theorem d1_11 : decode jdk_29_method_70_code 11 = .ok (.lreturn, 1) := by decide +kernel
theorem ef_1 (m : MethodId) (x0 : Int64) (x1 : Int64) : entryFrame m #[(.long x0), (.long x1)] 4 = mkF m 0 #[.val (.long x0), .second, .val (.long x1), .second] [] := by first | (simp [entryFrame, mkF, argsToLocals, Value.category]; done) | rfl
def Q1 (Z : State) (q1 : Int64) (q2 : Int64) (h0 : Heap) (n0 : Nat) (v : Option Value) (h : Heap) (L : List Loc) : Prop := v = some (.long (if q2 < q1 then q2 else q1)) ∧ Fr n0 L ∧ h = h0
set_option maxRecDepth 65536 in
set_option maxHeartbeats 40000000 in
theorem rm1 (l : Launch) (Z : State) (a0 : Array Value) (hw : ∀ d ∈ tables_1, d.before a0 Z = true) (ws : List Jvm.Cond) (q1 : Int64) (q2 : Int64) (h0 : Heap) (n0 : Nat) (Z0 : n0 ≤ h0.size) :
    MetFree l (⟨"java/lang/Math", "min", "(JJ)J"⟩ : MethodName) (head1 (Jvm.Cond.code (⟨"java/lang/Math", "min", "(JJ)J"⟩ : MethodName) jdk_29_method_70_code 4 (some .long) :: ws) ({ frames := 0, cells := 0, slots := 0, locals := 0 } : Room)) (fun a U => a = #[(.long q1), (.long q2)] ∧ Z.Warmed39 U.vm ∧ U.heap = h0) (fun _ _ _ _ _ => True) (fun _ U o U' => ∃ v L, o = .returned v ∧ Q1 Z q1 q2 h0 n0 v U'.heap L ∧ FrameEnd U o U' L ({ frames := 0, cells := 0, slots := 0, locals := 0 } : Room).cells ({ frames := 0, cells := 0, slots := 0, locals := 0 } : Room).slots) := by
  refine MetFree.of_bodySF (Jvm.Free.JP.mathPlain rfl (by decide +kernel)) hisR ?_
  intro p e s m args below meth c s₁ Bd hml0 hP hK
  obtain ⟨rfl, hZ, hh⟩ := hP
  have hx := Bd.exec
  have hby := Bd.bytes
  have hml : c.maxLocals = 4 := hml0
  have hown : s.vm.findClass "java/lang/Math" = some m.cls := findClass_of_methodNamed Bd.named
  have hnm := (name_of_methodNamed Bd.named Bd.method).1
  have X0 : Stand p l e ({ frames := 0, cells := 0, slots := 0, locals := 0 } : Room) s m #[(.long q1), (.long q2)] below meth c s₁ [] 0 0 := Stand.of_body Bd
  have e0 : s₁.heap = h0 := by rw [← hh, Bd.state]; rfl
  have N0 := Fr.nil n0
  have K0 : Keep h0 h0 [] := Keep.refl _ _
  have P0 : ∀ t, Steps p.tables e below (s₁.setTop (mkF m 0 #[.val (.long q1), .second, .val (.long q2), .second] [])) t → Steps p.tables e below (s₁.setTop (entryFrame m #[(.long q1), (.long q2)] 4)) t := fun t k => castTop (ef_1 m q1 q2) k
  have P1 : ∀ t, Steps p.tables e below (s₁.setTop (mkF m 11 #[.val (.long q1), .second, .val (.long q2), .second] [(.long (if q2 < q1 then q2 else q1))])) t → Steps p.tables e below (s₁.setTop (entryFrame m #[(.long q1), (.long q2)] 4)) t := by
    intro t k
    refine P0 _ ?_
    refine XT.lloadN X0.here hx rfl (hb hby d1_0) rfl ?_
    show Steps p.tables e below (s₁.setTop (mkF m 1 #[.val (.long q1), .second, .val (.long q2), .second] [(.long q1)])) _
    refine XT.lloadN X0.here hx rfl (hb hby d1_1) rfl ?_
    show Steps p.tables e below (s₁.setTop (mkF m 2 #[.val (.long q1), .second, .val (.long q2), .second] [(.long q2), (.long q1)])) _
    refine XT.lcmp X0.here hx rfl (hb hby d1_2) rfl ?_
    show Steps p.tables e below (s₁.setTop (mkF m 3 #[.val (.long q1), .second, .val (.long q2), .second] [(.int (XT.cmpL q1 q2))])) _
    by_cases c3 : q2 < q1
    · try simp only [if_pos c3] at k
      refine XS.ifYes X0.here hx rfl (pc0 := 3) (pc' := 10) rfl (hb hby d1_3) rfl (XT.ll_gt_t c3) (by decide) (by decide) ?_
      show Steps p.tables e below (s₁.setTop (mkF m 10 #[.val (.long q1), .second, .val (.long q2), .second] [])) _
      refine XT.lloadN X0.here hx rfl (hb hby d1_10) rfl ?_
      show Steps p.tables e below (s₁.setTop (mkF m 11 #[.val (.long q1), .second, .val (.long q2), .second] [(.long q2)])) _
      exact k
    · try simp only [if_neg c3] at k
      refine XS.ifNo X0.here hx rfl (hb hby d1_3) rfl (XT.ll_gt_f c3) ?_
      show Steps p.tables e below (s₁.setTop (mkF m 6 #[.val (.long q1), .second, .val (.long q2), .second] [])) _
      refine XT.lloadN X0.here hx rfl (hb hby d1_6) rfl ?_
      show Steps p.tables e below (s₁.setTop (mkF m 7 #[.val (.long q1), .second, .val (.long q2), .second] [(.long q1)])) _
      refine XS.goto X0.here hx rfl (pc0 := 7) (pc' := 11) rfl (hb hby d1_7) (by decide) (by decide) ?_
      show Steps p.tables e below (s₁.setTop (mkF m 11 #[.val (.long q1), .second, .val (.long q2), .second] [(.long q1)])) _
      exact k
  obtain ⟨y3, hy3⟩ : ∃ z : Int64, z = (if q2 < q1 then q2 else q1) := ⟨_, rfl⟩
  rw [← hy3] at P1
  obtain ⟨fs, hr, hrun, hended, hW, hsame⟩ := X0.leave (v := some (.long y3)) (fun h => by rw [Bd.returns] at h; cases h)
  refine ⟨_, _, P1 _ ?_, hrun, hended, _, _, rfl, ?_, ⟨_, rfl⟩, hW, hsame.mono (by decide) (by decide)⟩
  · exact X0.lreturnOut hx Bd.returns (hb hby d1_11) hr
  · show Q1 Z q1 q2 h0 n0 _ s₁.heap _
    rw [e0]
    exact ⟨by rw [hy3], N0, rfl⟩
theorem d2_0 : decode jdk_29_method_66_code 0 = .ok (.lload_n 0, 1) := by decide +kernel
theorem d2_1 : decode jdk_29_method_66_code 1 = .ok (.lload_n 2, 1) := by decide +kernel
theorem d2_2 : decode jdk_29_method_66_code 2 = .ok (.lcmp, 1) := by decide +kernel
theorem d2_3 : decode jdk_29_method_66_code 3 = .ok (.ifCond .lt 7, 3) := by decide +kernel
theorem d2_6 : decode jdk_29_method_66_code 6 = .ok (.lload_n 0, 1) := by decide +kernel
theorem d2_7 : decode jdk_29_method_66_code 7 = .ok (.goto 4, 3) := by decide +kernel
theorem d2_10 : decode jdk_29_method_66_code 10 = .ok (.lload_n 2, 1) := by decide +kernel
theorem d2_11 : decode jdk_29_method_66_code 11 = .ok (.lreturn, 1) := by decide +kernel
theorem ef_2 (m : MethodId) (x0 : Int64) (x1 : Int64) : entryFrame m #[(.long x0), (.long x1)] 4 = mkF m 0 #[.val (.long x0), .second, .val (.long x1), .second] [] := by first | (simp [entryFrame, mkF, argsToLocals, Value.category]; done) | rfl
def Q2 (Z : State) (q1 : Int64) (q2 : Int64) (h0 : Heap) (n0 : Nat) (v : Option Value) (h : Heap) (L : List Loc) : Prop := v = some (.long (if q1 < q2 then q2 else q1)) ∧ Fr n0 L ∧ h = h0
set_option maxRecDepth 65536 in
set_option maxHeartbeats 40000000 in
theorem rm2 (l : Launch) (Z : State) (a0 : Array Value) (hw : ∀ d ∈ tables_1, d.before a0 Z = true) (ws : List Jvm.Cond) (q1 : Int64) (q2 : Int64) (h0 : Heap) (n0 : Nat) (Z0 : n0 ≤ h0.size) :
    MetFree l (⟨"java/lang/Math", "max", "(JJ)J"⟩ : MethodName) (head1 (Jvm.Cond.code (⟨"java/lang/Math", "max", "(JJ)J"⟩ : MethodName) jdk_29_method_66_code 4 (some .long) :: ws) ({ frames := 0, cells := 0, slots := 0, locals := 0 } : Room)) (fun a U => a = #[(.long q1), (.long q2)] ∧ Z.Warmed39 U.vm ∧ U.heap = h0) (fun _ _ _ _ _ => True) (fun _ U o U' => ∃ v L, o = .returned v ∧ Q2 Z q1 q2 h0 n0 v U'.heap L ∧ FrameEnd U o U' L ({ frames := 0, cells := 0, slots := 0, locals := 0 } : Room).cells ({ frames := 0, cells := 0, slots := 0, locals := 0 } : Room).slots) := by
  refine MetFree.of_bodySF (Jvm.Free.JP.mathPlain rfl (by decide +kernel)) hisR ?_
  intro p e s m args below meth c s₁ Bd hml0 hP hK
  obtain ⟨rfl, hZ, hh⟩ := hP
  have hx := Bd.exec
  have hby := Bd.bytes
  have hml : c.maxLocals = 4 := hml0
  have hown : s.vm.findClass "java/lang/Math" = some m.cls := findClass_of_methodNamed Bd.named
  have hnm := (name_of_methodNamed Bd.named Bd.method).1
  have X0 : Stand p l e ({ frames := 0, cells := 0, slots := 0, locals := 0 } : Room) s m #[(.long q1), (.long q2)] below meth c s₁ [] 0 0 := Stand.of_body Bd
  have e0 : s₁.heap = h0 := by rw [← hh, Bd.state]; rfl
  have N0 := Fr.nil n0
  have K0 : Keep h0 h0 [] := Keep.refl _ _
  have P0 : ∀ t, Steps p.tables e below (s₁.setTop (mkF m 0 #[.val (.long q1), .second, .val (.long q2), .second] [])) t → Steps p.tables e below (s₁.setTop (entryFrame m #[(.long q1), (.long q2)] 4)) t := fun t k => castTop (ef_2 m q1 q2) k
  have P1 : ∀ t, Steps p.tables e below (s₁.setTop (mkF m 11 #[.val (.long q1), .second, .val (.long q2), .second] [(.long (if q1 < q2 then q2 else q1))])) t → Steps p.tables e below (s₁.setTop (entryFrame m #[(.long q1), (.long q2)] 4)) t := by
    intro t k
    refine P0 _ ?_
    refine XT.lloadN X0.here hx rfl (hb hby d2_0) rfl ?_
    show Steps p.tables e below (s₁.setTop (mkF m 1 #[.val (.long q1), .second, .val (.long q2), .second] [(.long q1)])) _
    refine XT.lloadN X0.here hx rfl (hb hby d2_1) rfl ?_
    show Steps p.tables e below (s₁.setTop (mkF m 2 #[.val (.long q1), .second, .val (.long q2), .second] [(.long q2), (.long q1)])) _
    refine XT.lcmp X0.here hx rfl (hb hby d2_2) rfl ?_
    show Steps p.tables e below (s₁.setTop (mkF m 3 #[.val (.long q1), .second, .val (.long q2), .second] [(.int (XT.cmpL q1 q2))])) _
    by_cases c3 : q1 < q2
    · try simp only [if_pos c3] at k
      refine XS.ifYes X0.here hx rfl (pc0 := 3) (pc' := 10) rfl (hb hby d2_3) rfl (XT.ll_lt_t c3) (by decide) (by decide) ?_
      show Steps p.tables e below (s₁.setTop (mkF m 10 #[.val (.long q1), .second, .val (.long q2), .second] [])) _
      refine XT.lloadN X0.here hx rfl (hb hby d2_10) rfl ?_
      show Steps p.tables e below (s₁.setTop (mkF m 11 #[.val (.long q1), .second, .val (.long q2), .second] [(.long q2)])) _
      exact k
    · try simp only [if_neg c3] at k
      refine XS.ifNo X0.here hx rfl (hb hby d2_3) rfl (XT.ll_lt_f c3) ?_
      show Steps p.tables e below (s₁.setTop (mkF m 6 #[.val (.long q1), .second, .val (.long q2), .second] [])) _
      refine XT.lloadN X0.here hx rfl (hb hby d2_6) rfl ?_
      show Steps p.tables e below (s₁.setTop (mkF m 7 #[.val (.long q1), .second, .val (.long q2), .second] [(.long q1)])) _
      refine XS.goto X0.here hx rfl (pc0 := 7) (pc' := 11) rfl (hb hby d2_7) (by decide) (by decide) ?_
      show Steps p.tables e below (s₁.setTop (mkF m 11 #[.val (.long q1), .second, .val (.long q2), .second] [(.long q1)])) _
      exact k
  obtain ⟨y3, hy3⟩ : ∃ z : Int64, z = (if q1 < q2 then q2 else q1) := ⟨_, rfl⟩
  rw [← hy3] at P1
  obtain ⟨fs, hr, hrun, hended, hW, hsame⟩ := X0.leave (v := some (.long y3)) (fun h => by rw [Bd.returns] at h; cases h)
  refine ⟨_, _, P1 _ ?_, hrun, hended, _, _, rfl, ?_, ⟨_, rfl⟩, hW, hsame.mono (by decide) (by decide)⟩
  · exact X0.lreturnOut hx Bd.returns (hb hby d2_11) hr
  · show Q2 Z q1 q2 h0 n0 _ s₁.heap _
    rw [e0]
    exact ⟨by rw [hy3], N0, rfl⟩
theorem d3_0 : decode jdk_37_method_2_code 0 = .ok (.aload_n 0, 1) := by decide +kernel
theorem d3_1 : decode jdk_37_method_2_code 1 = .ok (.getfield 7, 3) := by decide +kernel
theorem d3_4 : decode jdk_37_method_2_code 4 = .ok (.ireturn, 1) := by decide +kernel
theorem pn_3 : plainName "java/lang/Enum" = true := by first | (simp [plainName, overriddenIn]; done) | decide +kernel
theorem ef_3 (m : MethodId) (x0 : Addr) : entryFrame m #[(.ref x0)] 1 = mkF m 0 #[.val (.ref x0)] [] := by first | (simp [entryFrame, mkF, argsToLocals, Value.category]; done) | rfl
def Q3 (Z : State) (a1 : Addr) (w1 : Int32) (h0 : Heap) (n0 : Nat) (v : Option Value) (h : Heap) (L : List Loc) : Prop := v = some (.int w1) ∧ Fr n0 L ∧ h = h0
set_option maxRecDepth 65536 in
set_option maxHeartbeats 40000000 in
theorem rm3 (l : Launch) (Z : State) (a0 : Array Value) (hw : ∀ d ∈ tables_1, d.before a0 Z = true) (ws : List Jvm.Cond) (a1 : Addr) (w1 : Int32) (h0 : Heap) (n0 : Nat) (Z0 : n0 ≤ h0.size) (F_o : Fld Z h0 a1 "java/lang/Enum" "ordinal" "I" (.int w1)) :
    MetFree l (⟨"java/lang/Enum", "ordinal", "()I"⟩ : MethodName) (head1 (Jvm.Cond.code (⟨"java/lang/Enum", "ordinal", "()I"⟩ : MethodName) jdk_37_method_2_code 1 (some .int) :: ws) ({ frames := 0, cells := 0, slots := 0, locals := 0 } : Room)) (fun a U => a = #[(.ref a1)] ∧ Z.Warmed39 U.vm ∧ U.heap = h0) (fun _ _ _ _ _ => True) (fun _ U o U' => ∃ v L, o = .returned v ∧ Q3 Z a1 w1 h0 n0 v U'.heap L ∧ FrameEnd U o U' L ({ frames := 0, cells := 0, slots := 0, locals := 0 } : Room).cells ({ frames := 0, cells := 0, slots := 0, locals := 0 } : Room).slots) := by
  refine MetFree.of_bodySF (plainFor_of_name pn_3) hisR ?_
  intro p e s m args below meth c s₁ Bd hml0 hP hK
  obtain ⟨rfl, hZ, hh⟩ := hP
  have hx := Bd.exec
  have hby := Bd.bytes
  have hml : c.maxLocals = 1 := hml0
  have hown : s.vm.findClass "java/lang/Enum" = some m.cls := findClass_of_methodNamed Bd.named
  have hnm := (name_of_methodNamed Bd.named Bd.method).1
  have X0 : Stand p l e ({ frames := 0, cells := 0, slots := 0, locals := 0 } : Room) s m #[(.ref a1)] below meth c s₁ [] 0 0 := Stand.of_body Bd
  have e0 : s₁.heap = h0 := by rw [← hh, Bd.state]; rfl
  have N0 := Fr.nil n0
  have K0 : Keep h0 h0 [] := Keep.refl _ _
  have P0 : ∀ t, Steps p.tables e below (s₁.setTop (mkF m 0 #[.val (.ref a1)] [])) t → Steps p.tables e below (s₁.setTop (entryFrame m #[(.ref a1)] 1)) t := fun t k => castTop (ef_3 m a1) k
  have P1 : ∀ t, Steps p.tables e below (s₁.setTop (mkF m 1 #[.val (.ref a1)] [(.ref a1)])) t → Steps p.tables e below (s₁.setTop (entryFrame m #[(.ref a1)] 1)) t := by
    intro t k
    refine P0 _ ?_
    refine XS.aloadN X0.here hx rfl (hb hby d3_0) rfl rfl ?_
    show Steps p.tables e below (s₁.setTop (mkF m 1 #[.val (.ref a1)] [(.ref a1)])) _
    exact k
  obtain ⟨T2, X2, e2, st2⟩ := getF X0 hx hZ hown (host := "") (Or.inl (hw _ (List.mem_of_getElem? (i := 35) rfl))) Via.refl e0 F_o (g := (mkF m 1 #[.val (.ref a1)] [(.ref a1)])) rfl rfl (hb hby d3_1)
  have P3 : ∀ t, Steps p.tables e below (T2.setTop (mkF m 4 #[.val (.ref a1)] [(.int w1)])) t → Steps p.tables e below (s₁.setTop (entryFrame m #[(.ref a1)] 1)) t := fun t k => P1 _ (st2 _ k)
  obtain ⟨fs, hr, hrun, hended, hW, hsame⟩ := X2.leave (v := some (.int w1)) (fun h => by rw [Bd.returns] at h; cases h)
  refine ⟨_, _, P3 _ ?_, hrun, hended, _, _, rfl, ?_, ⟨_, rfl⟩, hW, hsame.mono (by decide) (by decide)⟩
  · exact retI X2 hx Bd.returns (hb hby d3_4) hr
  · show Q3 Z a1 w1 h0 n0 _ T2.heap _
    rw [e2]
    exact ⟨rfl, N0, rfl⟩
theorem d4_0 : decode prog_50_method_5_code 0 = .ok (.aload_n 0, 1) := by decide +kernel
theorem d4_1 : decode prog_50_method_5_code 1 = .ok (.getstatic 3, 3) := by decide +kernel
theorem d4_4 : decode prog_50_method_5_code 4 = .ok (.if_acmp .eq 17, 3) := by decide +kernel
theorem d4_7 : decode prog_50_method_5_code 7 = .ok (.aload_n 0, 1) := by decide +kernel
theorem d4_8 : decode prog_50_method_5_code 8 = .ok (.getstatic 7, 3) := by decide +kernel
theorem d4_11 : decode prog_50_method_5_code 11 = .ok (.if_acmp .eq 10, 3) := by decide +kernel
theorem d4_14 : decode prog_50_method_5_code 14 = .ok (.aload_n 0, 1) := by decide +kernel
theorem d4_15 : decode prog_50_method_5_code 15 = .ok (.getstatic 13, 3) := by decide +kernel
theorem d4_18 : decode prog_50_method_5_code 18 = .ok (.if_acmp .ne 7, 3) := by decide +kernel
theorem d4_21 : decode prog_50_method_5_code 21 = .ok (.iconst 1, 1) := by decide +kernel
theorem d4_22 : decode prog_50_method_5_code 22 = .ok (.goto 4, 3) := by decide +kernel
theorem d4_25 : decode prog_50_method_5_code 25 = .ok (.iconst 0, 1) := by decide +kernel
theorem d4_26 : decode prog_50_method_5_code 26 = .ok (.ireturn, 1) := by decide +kernel
theorem pn_4 : plainName "com/example/millrace/millrace/plan/SetOperation$Kind" = true := by first | (simp [plainName, overriddenIn]; done) | decide +kernel
theorem ef_4 (m : MethodId) (x0 : Addr) : entryFrame m #[(.ref x0)] 1 = mkF m 0 #[.val (.ref x0)] [] := by first | (simp [entryFrame, mkF, argsToLocals, Value.category]; done) | rfl
def Q4 (Z : State) (a1 : Addr) (w_DISTINCT : Addr) (w_EXCEPT : Addr) (w_INTERSECT : Addr) (h0 : Heap) (n0 : Nat) (v : Option Value) (h : Heap) (L : List Loc) : Prop := v = some (.int (if a1 = w_DISTINCT then (1 : Int32) else (if a1 = w_EXCEPT then (1 : Int32) else (if a1 = w_INTERSECT then (1 : Int32) else (0 : Int32))))) ∧ Fr n0 L ∧ h = h0
set_option maxRecDepth 65536 in
set_option maxHeartbeats 40000000 in
theorem rm4 (l : Launch) (Z : State) (a0 : Array Value) (hw : ∀ d ∈ tables_1, d.before a0 Z = true) (ws : List Jvm.Cond) (a1 : Addr) (w_DISTINCT : Addr) (w_EXCEPT : Addr) (w_INTERSECT : Addr) (h0 : Heap) (n0 : Nat) (Z0 : n0 ≤ h0.size) (S_DISTINCT : Sta Z h0 "com/example/millrace/millrace/plan/SetOperation$Kind" "DISTINCT" "Lcom/example/millrace/millrace/plan/SetOperation$Kind;" (.ref w_DISTINCT)) (S_EXCEPT : Sta Z h0 "com/example/millrace/millrace/plan/SetOperation$Kind" "EXCEPT" "Lcom/example/millrace/millrace/plan/SetOperation$Kind;" (.ref w_EXCEPT)) (S_INTERSECT : Sta Z h0 "com/example/millrace/millrace/plan/SetOperation$Kind" "INTERSECT" "Lcom/example/millrace/millrace/plan/SetOperation$Kind;" (.ref w_INTERSECT)) :
    MetFree l (⟨"com/example/millrace/millrace/plan/SetOperation$Kind", "isSet", "()Z"⟩ : MethodName) (head1 (Jvm.Cond.code (⟨"com/example/millrace/millrace/plan/SetOperation$Kind", "isSet", "()Z"⟩ : MethodName) prog_50_method_5_code 1 (some .boolean) :: ws) ({ frames := 0, cells := 0, slots := 0, locals := 0 } : Room)) (fun a U => a = #[(.ref a1)] ∧ Z.Warmed39 U.vm ∧ U.heap = h0) (fun _ _ _ _ _ => True) (fun _ U o U' => ∃ v L, o = .returned v ∧ Q4 Z a1 w_DISTINCT w_EXCEPT w_INTERSECT h0 n0 v U'.heap L ∧ FrameEnd U o U' L ({ frames := 0, cells := 0, slots := 0, locals := 0 } : Room).cells ({ frames := 0, cells := 0, slots := 0, locals := 0 } : Room).slots) := by
  refine MetFree.of_bodySF (plainFor_of_name pn_4) hisR ?_
  intro p e s m args below meth c s₁ Bd hml0 hP hK
  obtain ⟨rfl, hZ, hh⟩ := hP
  have hx := Bd.exec
  have hby := Bd.bytes
  have hml : c.maxLocals = 1 := hml0
  have hown : s.vm.findClass "com/example/millrace/millrace/plan/SetOperation$Kind" = some m.cls := findClass_of_methodNamed Bd.named
  have hnm := (name_of_methodNamed Bd.named Bd.method).1
  have X0 : Stand p l e ({ frames := 0, cells := 0, slots := 0, locals := 0 } : Room) s m #[(.ref a1)] below meth c s₁ [] 0 0 := Stand.of_body Bd
  have e0 : s₁.heap = h0 := by rw [← hh, Bd.state]; rfl
  have N0 := Fr.nil n0
  have K0 : Keep h0 h0 [] := Keep.refl _ _
  have P0 : ∀ t, Steps p.tables e below (s₁.setTop (mkF m 0 #[.val (.ref a1)] [])) t → Steps p.tables e below (s₁.setTop (entryFrame m #[(.ref a1)] 1)) t := fun t k => castTop (ef_4 m a1) k
  have P1 : ∀ t, Steps p.tables e below (s₁.setTop (mkF m 1 #[.val (.ref a1)] [(.ref a1)])) t → Steps p.tables e below (s₁.setTop (entryFrame m #[(.ref a1)] 1)) t := by
    intro t k
    refine P0 _ ?_
    refine XS.aloadN X0.here hx rfl (hb hby d4_0) rfl rfl ?_
    show Steps p.tables e below (s₁.setTop (mkF m 1 #[.val (.ref a1)] [(.ref a1)])) _
    exact k
  obtain ⟨T2, X2, e2, st2⟩ := getS2 X0 hx hZ hown (host := "") (Or.inl (hw _ (List.mem_of_getElem? (i := 21) rfl))) Via.refl e0 S_DISTINCT (g := (mkF m 1 #[.val (.ref a1)] [(.ref a1)])) rfl (hb hby d4_1)
  have P3 : ∀ t, Steps p.tables e below (T2.setTop (mkF m 4 #[.val (.ref a1)] [(.ref w_DISTINCT), (.ref a1)])) t → Steps p.tables e below (s₁.setTop (entryFrame m #[(.ref a1)] 1)) t := fun t k => P1 _ (st2 _ k)
  by_cases c4 : a1 = w_DISTINCT
  · have P4 : ∀ t, Steps p.tables e below (T2.setTop (mkF m 26 #[.val (.ref a1)] [(.int (1 : Int32))])) t → Steps p.tables e below (s₁.setTop (entryFrame m #[(.ref a1)] 1)) t := by
      intro t k
      refine P3 _ ?_
      refine XT.acmpYes X2.here hx rfl (pc0 := 4) (pc' := 21) rfl (hb hby d4_4) rfl rfl rfl (XT.aa_eq_t (congrArg Value.ref c4)) (by decide) (by decide) ?_
      show Steps p.tables e below (T2.setTop (mkF m 21 #[.val (.ref a1)] [])) _
      refine XS.iconst X2.here hx rfl (hb hby d4_21) ?_
      show Steps p.tables e below (T2.setTop (mkF m 22 #[.val (.ref a1)] [(.int (1 : Int32))])) _
      refine XS.goto X2.here hx rfl (pc0 := 22) (pc' := 26) rfl (hb hby d4_22) (by decide) (by decide) ?_
      show Steps p.tables e below (T2.setTop (mkF m 26 #[.val (.ref a1)] [(.int (1 : Int32))])) _
      exact k
    obtain ⟨fs, hr, hrun, hended, hW, hsame⟩ := X2.leave (v := some (.int (1 : Int32))) (fun h => by rw [Bd.returns] at h; cases h)
    refine ⟨_, _, P4 _ ?_, hrun, hended, _, _, rfl, ?_, ⟨_, rfl⟩, hW, hsame.mono (by decide) (by decide)⟩
    · exact retN X2 hx (t := .boolean) Bd.returns (by simp) (hb hby d4_26) hr
    · show Q4 Z a1 w_DISTINCT w_EXCEPT w_INTERSECT h0 n0 _ T2.heap _
      rw [e2]
      exact ⟨by rw [if_pos c4], N0, rfl⟩
  · have P5 : ∀ t, Steps p.tables e below (T2.setTop (mkF m 8 #[.val (.ref a1)] [(.ref a1)])) t → Steps p.tables e below (s₁.setTop (entryFrame m #[(.ref a1)] 1)) t := by
      intro t k
      refine P3 _ ?_
      refine XT.acmpNo X2.here hx rfl (hb hby d4_4) rfl rfl rfl (XT.aa_eq_f (fun q => c4 (Value.ref.inj q))) ?_
      show Steps p.tables e below (T2.setTop (mkF m 7 #[.val (.ref a1)] [])) _
      refine XS.aloadN X2.here hx rfl (hb hby d4_7) rfl rfl ?_
      show Steps p.tables e below (T2.setTop (mkF m 8 #[.val (.ref a1)] [(.ref a1)])) _
      exact k
    obtain ⟨T6, X6, e6, st6⟩ := getS2 X2 hx hZ hown (host := "") (Or.inl (hw _ (List.mem_of_getElem? (i := 42) rfl))) Via.refl e2 S_EXCEPT (g := (mkF m 8 #[.val (.ref a1)] [(.ref a1)])) rfl (hb hby d4_8)
    have P7 : ∀ t, Steps p.tables e below (T6.setTop (mkF m 11 #[.val (.ref a1)] [(.ref w_EXCEPT), (.ref a1)])) t → Steps p.tables e below (s₁.setTop (entryFrame m #[(.ref a1)] 1)) t := fun t k => P5 _ (st6 _ k)
    by_cases c11 : a1 = w_EXCEPT
    · have P8 : ∀ t, Steps p.tables e below (T6.setTop (mkF m 26 #[.val (.ref a1)] [(.int (1 : Int32))])) t → Steps p.tables e below (s₁.setTop (entryFrame m #[(.ref a1)] 1)) t := by
        intro t k
        refine P7 _ ?_
        refine XT.acmpYes X6.here hx rfl (pc0 := 11) (pc' := 21) rfl (hb hby d4_11) rfl rfl rfl (XT.aa_eq_t (congrArg Value.ref c11)) (by decide) (by decide) ?_
        show Steps p.tables e below (T6.setTop (mkF m 21 #[.val (.ref a1)] [])) _
        refine XS.iconst X6.here hx rfl (hb hby d4_21) ?_
        show Steps p.tables e below (T6.setTop (mkF m 22 #[.val (.ref a1)] [(.int (1 : Int32))])) _
        refine XS.goto X6.here hx rfl (pc0 := 22) (pc' := 26) rfl (hb hby d4_22) (by decide) (by decide) ?_
        show Steps p.tables e below (T6.setTop (mkF m 26 #[.val (.ref a1)] [(.int (1 : Int32))])) _
        exact k
      obtain ⟨fs, hr, hrun, hended, hW, hsame⟩ := X6.leave (v := some (.int (1 : Int32))) (fun h => by rw [Bd.returns] at h; cases h)
      refine ⟨_, _, P8 _ ?_, hrun, hended, _, _, rfl, ?_, ⟨_, rfl⟩, hW, hsame.mono (by decide) (by decide)⟩
      · exact retN X6 hx (t := .boolean) Bd.returns (by simp) (hb hby d4_26) hr
      · show Q4 Z a1 w_DISTINCT w_EXCEPT w_INTERSECT h0 n0 _ T6.heap _
        rw [e6]
        exact ⟨by rw [if_neg c4, if_pos c11], N0, rfl⟩
    · have P9 : ∀ t, Steps p.tables e below (T6.setTop (mkF m 15 #[.val (.ref a1)] [(.ref a1)])) t → Steps p.tables e below (s₁.setTop (entryFrame m #[(.ref a1)] 1)) t := by
        intro t k
        refine P7 _ ?_
        refine XT.acmpNo X6.here hx rfl (hb hby d4_11) rfl rfl rfl (XT.aa_eq_f (fun q => c11 (Value.ref.inj q))) ?_
        show Steps p.tables e below (T6.setTop (mkF m 14 #[.val (.ref a1)] [])) _
        refine XS.aloadN X6.here hx rfl (hb hby d4_14) rfl rfl ?_
        show Steps p.tables e below (T6.setTop (mkF m 15 #[.val (.ref a1)] [(.ref a1)])) _
        exact k
      obtain ⟨T10, X10, e10, st10⟩ := getS2 X6 hx hZ hown (host := "") (Or.inl (hw _ (List.mem_of_getElem? (i := 43) rfl))) Via.refl e6 S_INTERSECT (g := (mkF m 15 #[.val (.ref a1)] [(.ref a1)])) rfl (hb hby d4_15)
      have P11 : ∀ t, Steps p.tables e below (T10.setTop (mkF m 18 #[.val (.ref a1)] [(.ref w_INTERSECT), (.ref a1)])) t → Steps p.tables e below (s₁.setTop (entryFrame m #[(.ref a1)] 1)) t := fun t k => P9 _ (st10 _ k)
      by_cases c18 : a1 = w_INTERSECT
      · have P12 : ∀ t, Steps p.tables e below (T10.setTop (mkF m 26 #[.val (.ref a1)] [(.int (1 : Int32))])) t → Steps p.tables e below (s₁.setTop (entryFrame m #[(.ref a1)] 1)) t := by
          intro t k
          refine P11 _ ?_
          refine XT.acmpNo X10.here hx rfl (hb hby d4_18) rfl rfl rfl (XT.aa_ne_f (congrArg Value.ref c18)) ?_
          show Steps p.tables e below (T10.setTop (mkF m 21 #[.val (.ref a1)] [])) _
          refine XS.iconst X10.here hx rfl (hb hby d4_21) ?_
          show Steps p.tables e below (T10.setTop (mkF m 22 #[.val (.ref a1)] [(.int (1 : Int32))])) _
          refine XS.goto X10.here hx rfl (pc0 := 22) (pc' := 26) rfl (hb hby d4_22) (by decide) (by decide) ?_
          show Steps p.tables e below (T10.setTop (mkF m 26 #[.val (.ref a1)] [(.int (1 : Int32))])) _
          exact k
        obtain ⟨fs, hr, hrun, hended, hW, hsame⟩ := X10.leave (v := some (.int (1 : Int32))) (fun h => by rw [Bd.returns] at h; cases h)
        refine ⟨_, _, P12 _ ?_, hrun, hended, _, _, rfl, ?_, ⟨_, rfl⟩, hW, hsame.mono (by decide) (by decide)⟩
        · exact retN X10 hx (t := .boolean) Bd.returns (by simp) (hb hby d4_26) hr
        · show Q4 Z a1 w_DISTINCT w_EXCEPT w_INTERSECT h0 n0 _ T10.heap _
          rw [e10]
          exact ⟨by rw [if_neg c4, if_neg c11, if_pos c18], N0, rfl⟩
      · have P13 : ∀ t, Steps p.tables e below (T10.setTop (mkF m 26 #[.val (.ref a1)] [(.int (0 : Int32))])) t → Steps p.tables e below (s₁.setTop (entryFrame m #[(.ref a1)] 1)) t := by
          intro t k
          refine P11 _ ?_
          refine XT.acmpYes X10.here hx rfl (pc0 := 18) (pc' := 25) rfl (hb hby d4_18) rfl rfl rfl (XT.aa_ne_t (fun q => c18 (Value.ref.inj q))) (by decide) (by decide) ?_
          show Steps p.tables e below (T10.setTop (mkF m 25 #[.val (.ref a1)] [])) _
          refine XS.iconst X10.here hx rfl (hb hby d4_25) ?_
          show Steps p.tables e below (T10.setTop (mkF m 26 #[.val (.ref a1)] [(.int (0 : Int32))])) _
          exact k
        obtain ⟨fs, hr, hrun, hended, hW, hsame⟩ := X10.leave (v := some (.int (0 : Int32))) (fun h => by rw [Bd.returns] at h; cases h)
        refine ⟨_, _, P13 _ ?_, hrun, hended, _, _, rfl, ?_, ⟨_, rfl⟩, hW, hsame.mono (by decide) (by decide)⟩
        · exact retN X10 hx (t := .boolean) Bd.returns (by simp) (hb hby d4_26) hr
        · show Q4 Z a1 w_DISTINCT w_EXCEPT w_INTERSECT h0 n0 _ T10.heap _
          rw [e10]
          exact ⟨by rw [if_neg c4, if_neg c11, if_neg c18], N0, rfl⟩
theorem d20_0 : decode prog_50_method_6_code 0 = .ok (.aload_n 0, 1) := by decide +kernel
theorem d20_1 : decode prog_50_method_6_code 1 = .ok (.invokevirtual 46, 3) := by decide +kernel
theorem d20_4 : decode prog_50_method_6_code 4 = .ok (.tableswitch 36 0 4 #[46, 54, 74, 84, 96], 36) := by decide +kernel
theorem d20_50 : decode prog_50_method_6_code 50 = .ok (.lload_n 1, 1) := by decide +kernel
theorem d20_51 : decode prog_50_method_6_code 51 = .ok (.lconst 1, 1) := by decide +kernel
theorem d20_52 : decode prog_50_method_6_code 52 = .ok (.invokestatic 55, 3) := by decide +kernel
theorem d20_55 : decode prog_50_method_6_code 55 = .ok (.goto 50, 3) := by decide +kernel
theorem d20_105 : decode prog_50_method_6_code 105 = .ok (.lreturn, 1) := by decide +kernel
theorem pn_20 : plainName "com/example/millrace/millrace/plan/SetOperation$Kind" = true := by first | (simp [plainName, overriddenIn]; done) | decide +kernel
theorem ef_20 (m : MethodId) (x0 : Addr) (x1 : Int64) (x2 : Int64) : entryFrame m #[(.ref x0), (.long x1), (.long x2)] 5 = mkF m 0 #[.val (.ref x0), .val (.long x1), .second, .val (.long x2), .second] [] := by first | (simp [entryFrame, mkF, argsToLocals, Value.category]; done) | rfl
def Q20 (Z : State) (a1 : Addr) (q2 : Int64) (q3 : Int64) (h0 : Heap) (n0 : Nat) (v : Option Value) (h : Heap) (L : List Loc) : Prop := v = some (.long (if (1 : Int64) < q2 then (1 : Int64) else q2)) ∧ Fr n0 L ∧ h = h0
set_option maxRecDepth 65536 in
set_option maxHeartbeats 40000000 in
theorem rm20 (l : Launch) (Z : State) (a0 : Array Value) (hw : ∀ d ∈ tables_1, d.before a0 Z = true) (ws : List Jvm.Cond) (a1 : Addr) (q2 : Int64) (q3 : Int64) (h0 : Heap) (n0 : Nat) (Z0 : n0 ≤ h0.size) (E_a : Exa Z h0 a1 "com/example/millrace/millrace/plan/SetOperation$Kind") (F_o : Fld Z h0 a1 "java/lang/Enum" "ordinal" "I" (.int (0 : Int32))) :
    MetFree l (⟨"com/example/millrace/millrace/plan/SetOperation$Kind", "copies", "(JJ)J"⟩ : MethodName) (head1 (Jvm.Cond.code (⟨"com/example/millrace/millrace/plan/SetOperation$Kind", "copies", "(JJ)J"⟩ : MethodName) prog_50_method_6_code 5 (some .long) :: ws) ({ frames := 1, cells := 0, slots := 0, locals := 15 } : Room)) (fun a U => a = #[(.ref a1), (.long q2), (.long q3)] ∧ Z.Warmed39 U.vm ∧ U.heap = h0) (fun _ _ _ _ _ => True) (fun _ U o U' => ∃ v L, o = .returned v ∧ Q20 Z a1 q2 q3 h0 n0 v U'.heap L ∧ FrameEnd U o U' L ({ frames := 1, cells := 0, slots := 0, locals := 15 } : Room).cells ({ frames := 1, cells := 0, slots := 0, locals := 15 } : Room).slots) := by
  refine MetFree.of_bodySF (plainFor_of_name pn_20) hisR ?_
  intro p e s m args below meth c s₁ Bd hml0 hP hK
  obtain ⟨rfl, hZ, hh⟩ := hP
  have hx := Bd.exec
  have hby := Bd.bytes
  have hml : c.maxLocals = 5 := hml0
  have hown : s.vm.findClass "com/example/millrace/millrace/plan/SetOperation$Kind" = some m.cls := findClass_of_methodNamed Bd.named
  have hnm := (name_of_methodNamed Bd.named Bd.method).1
  have X0 : Stand p l e ({ frames := 1, cells := 0, slots := 0, locals := 15 } : Room) s m #[(.ref a1), (.long q2), (.long q3)] below meth c s₁ [] 0 0 := Stand.of_body Bd
  have e0 : s₁.heap = h0 := by rw [← hh, Bd.state]; rfl
  have N0 := Fr.nil n0
  have K0 : Keep h0 h0 [] := Keep.refl _ _
  have P0 : ∀ t, Steps p.tables e below (s₁.setTop (mkF m 0 #[.val (.ref a1), .val (.long q2), .second, .val (.long q3), .second] [])) t → Steps p.tables e below (s₁.setTop (entryFrame m #[(.ref a1), (.long q2), (.long q3)] 5)) t := fun t k => castTop (ef_20 m a1 q2 q3) k
  have P1 : ∀ t, Steps p.tables e below (s₁.setTop (mkF m 1 #[.val (.ref a1), .val (.long q2), .second, .val (.long q3), .second] [(.ref a1)])) t → Steps p.tables e below (s₁.setTop (entryFrame m #[(.ref a1), (.long q2), (.long q3)] 5)) t := by
    intro t k
    refine P0 _ ?_
    refine XS.aloadN X0.here hx rfl (hb hby d20_0) rfl rfl ?_
    show Steps p.tables e below (s₁.setTop (mkF m 1 #[.val (.ref a1), .val (.long q2), .second, .val (.long q3), .second] [(.ref a1)])) _
    exact k
  obtain ⟨cq2, kq2, qa2, qb2, qc2⟩ := isOf hZ e0 E_a
  obtain ⟨_, _, ⟨T2, L2, k2, n2⟩, -, X2, ⟨Lc2, hQ2, l2, y2, z2⟩, st2⟩ := X0.virtualBackUp hx (x := (⟨"com/example/millrace/millrace/plan/SetOperation$Kind", "ordinal", "()I"⟩ : MethodName)) (y := (⟨"java/lang/Enum", "ordinal", "()I"⟩ : MethodName)) hown (mvT hZ (hw _ (List.mem_of_getElem? (i := 28) rfl))) (mvT hZ (hw _ (List.mem_of_getElem? (i := 29) rfl))) (mvT hZ (hw _ (List.mem_of_getElem? (i := 30) rfl))) (by decide) (mvT hZ (hw _ (List.mem_of_getElem? (i := 32) rfl))) (mvT hZ (hw _ (List.mem_of_getElem? (i := 31) rfl))) (backOf (W := 0) (rm3 l Z a0 hw [] a1 (0 : Int32) h0 n0 Z0 F_o) hZ (hw _ (List.mem_of_getElem? (i := 34) rfl)) (hw _ (List.mem_of_getElem? (i := 33) rfl)) (by decide) (by decide)) qa2 qc2 (g := (mkF m 1 #[.val (.ref a1), .val (.long q2), .second, .val (.long q3), .second] [(.ref a1)])) rfl (by rw [hml]; rfl) (Steps.refl _) (argsL := []) (rest := []) (lenOf pd_0 rfl) rfl (by show 2 * 0 + _ ≤ _; exact Nat.le_of_eq rfl) (hb hby d20_1) (fun _ _ => ⟨rfl, e0, (by decide : 0 + 0 ≤ _), (by decide : 0 + 0 ≤ _)⟩)
  dsimp only [Pt.U, Pt.locs, Pt.cells, Pt.slots] at X2 l2 y2 z2 st2 hQ2
  subst l2 y2 z2
  obtain ⟨rfl, N2q, e2⟩ := hQ2
  have N2 := Fr.app N0 N2q
  have P3 : ∀ t, Steps p.tables e below (T2.setTop (mkF m 4 #[.val (.ref a1), .val (.long q2), .second, .val (.long q3), .second] [(.int (0 : Int32))])) t → Steps p.tables e below (s₁.setTop (entryFrame m #[(.ref a1), (.long q2), (.long q3)] 5)) t := fun t k => P1 _ (st2.trans k)
  have P4 : ∀ t, Steps p.tables e below (T2.setTop (mkF m 52 #[.val (.ref a1), .val (.long q2), .second, .val (.long q3), .second] [(.long (1 : Int64)), (.long q2)])) t → Steps p.tables e below (s₁.setTop (entryFrame m #[(.ref a1), (.long q2), (.long q3)] 5)) t := by
    intro t k
    refine P3 _ ?_
    refine XS.tswIn X2.here hx rfl (pc0 := 4) (pc' := 50) rfl (hb hby d20_4) rfl (by decide) rfl (by decide) (by decide) ?_
    show Steps p.tables e below (T2.setTop (mkF m 50 #[.val (.ref a1), .val (.long q2), .second, .val (.long q3), .second] [])) _
    refine XT.lloadN X2.here hx rfl (hb hby d20_50) rfl ?_
    show Steps p.tables e below (T2.setTop (mkF m 51 #[.val (.ref a1), .val (.long q2), .second, .val (.long q3), .second] [(.long q2)])) _
    refine XT.lconst X2.here hx rfl (hb hby d20_51) ?_
    show Steps p.tables e below (T2.setTop (mkF m 52 #[.val (.ref a1), .val (.long q2), .second, .val (.long q3), .second] [(.long (1 : Int64)), (.long q2)])) _
    exact k
  obtain ⟨_, _, ⟨T5, L5, k5, n5⟩, -, X5, ⟨Lc5, hQ5, l5, y5, z5⟩, st5⟩ := Jvm.LawKit.callS X2 hx (y := (⟨"java/lang/Math", "min", "(JJ)J"⟩ : MethodName)) hown (mvT hZ (hw _ (List.mem_of_getElem? (i := 37) rfl))) (mvT hZ (hw _ (List.mem_of_getElem? (i := 38) rfl))) (mvT hZ (hw _ (List.mem_of_getElem? (i := 39) rfl))) (mvT hZ (hw _ (List.mem_of_getElem? (i := 40) rfl))) (by decide) (backOf (W := 0) (rm1 l Z a0 hw [] q2 (1 : Int64)  h0 n0 Z0 ) hZ (hw _ (List.mem_of_getElem? (i := 40) rfl)) (hw _ (List.mem_of_getElem? (i := 39) rfl)) (by decide) (by decide)) (g := (mkF m 52 #[.val (.ref a1), .val (.long q2), .second, .val (.long q3), .second] [(.long (1 : Int64)), (.long q2)])) rfl (by rw [hml]; rfl) (argsL := [(.long q2), (.long (1 : Int64))]) (rest := []) (lenOf pd_1 rfl) rfl (by show 2 * 0 + _ ≤ _; exact Nat.le_of_eq rfl) (hb hby d20_52) (fun _ _ => ⟨rfl, e2, (by decide : 0 + 0 ≤ _), (by decide : 0 + 0 ≤ _)⟩)
  dsimp only [Pt.U, Pt.locs, Pt.cells, Pt.slots] at X5 l5 y5 z5 st5 hQ5
  subst l5 y5 z5
  obtain ⟨rfl, N5q, e5⟩ := hQ5
  have N5 := Fr.app N2 N5q
  have P6 : ∀ t, Steps p.tables e below (T5.setTop (mkF m 55 #[.val (.ref a1), .val (.long q2), .second, .val (.long q3), .second] [(.long (if (1 : Int64) < q2 then (1 : Int64) else q2))])) t → Steps p.tables e below (s₁.setTop (entryFrame m #[(.ref a1), (.long q2), (.long q3)] 5)) t := fun t k => P4 _ (st5 _ k)
  have P7 : ∀ t, Steps p.tables e below (T5.setTop (mkF m 105 #[.val (.ref a1), .val (.long q2), .second, .val (.long q3), .second] [(.long (if (1 : Int64) < q2 then (1 : Int64) else q2))])) t → Steps p.tables e below (s₁.setTop (entryFrame m #[(.ref a1), (.long q2), (.long q3)] 5)) t := by
    intro t k
    refine P6 _ ?_
    refine XS.goto X5.here hx rfl (pc0 := 55) (pc' := 105) rfl (hb hby d20_55) (by decide) (by decide) ?_
    show Steps p.tables e below (T5.setTop (mkF m 105 #[.val (.ref a1), .val (.long q2), .second, .val (.long q3), .second] [(.long (if (1 : Int64) < q2 then (1 : Int64) else q2))])) _
    exact k
  obtain ⟨fs, hr, hrun, hended, hW, hsame⟩ := X5.leave (v := some (.long (if (1 : Int64) < q2 then (1 : Int64) else q2))) (fun h => by rw [Bd.returns] at h; cases h)
  refine ⟨_, _, P7 _ ?_, hrun, hended, _, _, rfl, ?_, ⟨_, rfl⟩, hW, hsame.mono (by decide) (by decide)⟩
  · exact X5.lreturnOut hx Bd.returns (hb hby d20_105) hr
  · show Q20 Z a1 q2 q3 h0 n0 _ T5.heap _
    rw [e5]
    exact ⟨rfl, N5, rfl⟩
theorem d21_0 : decode prog_50_method_6_code 0 = .ok (.aload_n 0, 1) := by decide +kernel
theorem d21_1 : decode prog_50_method_6_code 1 = .ok (.invokevirtual 46, 3) := by decide +kernel
theorem d21_4 : decode prog_50_method_6_code 4 = .ok (.tableswitch 36 0 4 #[46, 54, 74, 84, 96], 36) := by decide +kernel
theorem d21_58 : decode prog_50_method_6_code 58 = .ok (.lload_n 1, 1) := by decide +kernel
theorem d21_59 : decode prog_50_method_6_code 59 = .ok (.lconst 0, 1) := by decide +kernel
theorem d21_60 : decode prog_50_method_6_code 60 = .ok (.lcmp, 1) := by decide +kernel
theorem d21_61 : decode prog_50_method_6_code 61 = .ok (.ifCond .le 13, 3) := by decide +kernel
theorem d21_64 : decode prog_50_method_6_code 64 = .ok (.lload_n 3, 1) := by decide +kernel
theorem d21_65 : decode prog_50_method_6_code 65 = .ok (.lconst 0, 1) := by decide +kernel
theorem d21_66 : decode prog_50_method_6_code 66 = .ok (.lcmp, 1) := by decide +kernel
theorem d21_67 : decode prog_50_method_6_code 67 = .ok (.ifCond .ne 7, 3) := by decide +kernel
theorem d21_70 : decode prog_50_method_6_code 70 = .ok (.lconst 1, 1) := by decide +kernel
theorem d21_71 : decode prog_50_method_6_code 71 = .ok (.goto 34, 3) := by decide +kernel
theorem d21_74 : decode prog_50_method_6_code 74 = .ok (.lconst 0, 1) := by decide +kernel
theorem d21_75 : decode prog_50_method_6_code 75 = .ok (.goto 30, 3) := by decide +kernel
theorem d21_105 : decode prog_50_method_6_code 105 = .ok (.lreturn, 1) := by decide +kernel
theorem pn_21 : plainName "com/example/millrace/millrace/plan/SetOperation$Kind" = true := by first | (simp [plainName, overriddenIn]; done) | decide +kernel
theorem ef_21 (m : MethodId) (x0 : Addr) (x1 : Int64) (x2 : Int64) : entryFrame m #[(.ref x0), (.long x1), (.long x2)] 5 = mkF m 0 #[.val (.ref x0), .val (.long x1), .second, .val (.long x2), .second] [] := by first | (simp [entryFrame, mkF, argsToLocals, Value.category]; done) | rfl
def Q21 (Z : State) (a1 : Addr) (q2 : Int64) (q3 : Int64) (h0 : Heap) (n0 : Nat) (v : Option Value) (h : Heap) (L : List Loc) : Prop := v = some (.long (if (0 : Int64) < q2 then (if q3 = (0 : Int64) then (1 : Int64) else (0 : Int64)) else (0 : Int64))) ∧ Fr n0 L ∧ h = h0
set_option maxRecDepth 65536 in
set_option maxHeartbeats 40000000 in
theorem rm21 (l : Launch) (Z : State) (a0 : Array Value) (hw : ∀ d ∈ tables_1, d.before a0 Z = true) (ws : List Jvm.Cond) (a1 : Addr) (q2 : Int64) (q3 : Int64) (h0 : Heap) (n0 : Nat) (Z0 : n0 ≤ h0.size) (E_a : Exa Z h0 a1 "com/example/millrace/millrace/plan/SetOperation$Kind") (F_o : Fld Z h0 a1 "java/lang/Enum" "ordinal" "I" (.int (1 : Int32))) :
    MetFree l (⟨"com/example/millrace/millrace/plan/SetOperation$Kind", "copies", "(JJ)J"⟩ : MethodName) (head1 (Jvm.Cond.code (⟨"com/example/millrace/millrace/plan/SetOperation$Kind", "copies", "(JJ)J"⟩ : MethodName) prog_50_method_6_code 5 (some .long) :: ws) ({ frames := 1, cells := 0, slots := 0, locals := 12 } : Room)) (fun a U => a = #[(.ref a1), (.long q2), (.long q3)] ∧ Z.Warmed39 U.vm ∧ U.heap = h0) (fun _ _ _ _ _ => True) (fun _ U o U' => ∃ v L, o = .returned v ∧ Q21 Z a1 q2 q3 h0 n0 v U'.heap L ∧ FrameEnd U o U' L ({ frames := 1, cells := 0, slots := 0, locals := 12 } : Room).cells ({ frames := 1, cells := 0, slots := 0, locals := 12 } : Room).slots) := by
  refine MetFree.of_bodySF (plainFor_of_name pn_21) hisR ?_
  intro p e s m args below meth c s₁ Bd hml0 hP hK
  obtain ⟨rfl, hZ, hh⟩ := hP
  have hx := Bd.exec
  have hby := Bd.bytes
  have hml : c.maxLocals = 5 := hml0
  have hown : s.vm.findClass "com/example/millrace/millrace/plan/SetOperation$Kind" = some m.cls := findClass_of_methodNamed Bd.named
  have hnm := (name_of_methodNamed Bd.named Bd.method).1
  have X0 : Stand p l e ({ frames := 1, cells := 0, slots := 0, locals := 12 } : Room) s m #[(.ref a1), (.long q2), (.long q3)] below meth c s₁ [] 0 0 := Stand.of_body Bd
  have e0 : s₁.heap = h0 := by rw [← hh, Bd.state]; rfl
  have N0 := Fr.nil n0
  have K0 : Keep h0 h0 [] := Keep.refl _ _
  have P0 : ∀ t, Steps p.tables e below (s₁.setTop (mkF m 0 #[.val (.ref a1), .val (.long q2), .second, .val (.long q3), .second] [])) t → Steps p.tables e below (s₁.setTop (entryFrame m #[(.ref a1), (.long q2), (.long q3)] 5)) t := fun t k => castTop (ef_21 m a1 q2 q3) k
  have P1 : ∀ t, Steps p.tables e below (s₁.setTop (mkF m 1 #[.val (.ref a1), .val (.long q2), .second, .val (.long q3), .second] [(.ref a1)])) t → Steps p.tables e below (s₁.setTop (entryFrame m #[(.ref a1), (.long q2), (.long q3)] 5)) t := by
    intro t k
    refine P0 _ ?_
    refine XS.aloadN X0.here hx rfl (hb hby d21_0) rfl rfl ?_
    show Steps p.tables e below (s₁.setTop (mkF m 1 #[.val (.ref a1), .val (.long q2), .second, .val (.long q3), .second] [(.ref a1)])) _
    exact k
  obtain ⟨cq2, kq2, qa2, qb2, qc2⟩ := isOf hZ e0 E_a
  obtain ⟨_, _, ⟨T2, L2, k2, n2⟩, -, X2, ⟨Lc2, hQ2, l2, y2, z2⟩, st2⟩ := X0.virtualBackUp hx (x := (⟨"com/example/millrace/millrace/plan/SetOperation$Kind", "ordinal", "()I"⟩ : MethodName)) (y := (⟨"java/lang/Enum", "ordinal", "()I"⟩ : MethodName)) hown (mvT hZ (hw _ (List.mem_of_getElem? (i := 28) rfl))) (mvT hZ (hw _ (List.mem_of_getElem? (i := 29) rfl))) (mvT hZ (hw _ (List.mem_of_getElem? (i := 30) rfl))) (by decide) (mvT hZ (hw _ (List.mem_of_getElem? (i := 32) rfl))) (mvT hZ (hw _ (List.mem_of_getElem? (i := 31) rfl))) (backOf (W := 0) (rm3 l Z a0 hw [] a1 (1 : Int32) h0 n0 Z0 F_o) hZ (hw _ (List.mem_of_getElem? (i := 34) rfl)) (hw _ (List.mem_of_getElem? (i := 33) rfl)) (by decide) (by decide)) qa2 qc2 (g := (mkF m 1 #[.val (.ref a1), .val (.long q2), .second, .val (.long q3), .second] [(.ref a1)])) rfl (by rw [hml]; rfl) (Steps.refl _) (argsL := []) (rest := []) (lenOf pd_0 rfl) rfl (by show 2 * 0 + _ ≤ _; exact Nat.le_of_eq rfl) (hb hby d21_1) (fun _ _ => ⟨rfl, e0, (by decide : 0 + 0 ≤ _), (by decide : 0 + 0 ≤ _)⟩)
  dsimp only [Pt.U, Pt.locs, Pt.cells, Pt.slots] at X2 l2 y2 z2 st2 hQ2
  subst l2 y2 z2
  obtain ⟨rfl, N2q, e2⟩ := hQ2
  have N2 := Fr.app N0 N2q
  have P3 : ∀ t, Steps p.tables e below (T2.setTop (mkF m 4 #[.val (.ref a1), .val (.long q2), .second, .val (.long q3), .second] [(.int (1 : Int32))])) t → Steps p.tables e below (s₁.setTop (entryFrame m #[(.ref a1), (.long q2), (.long q3)] 5)) t := fun t k => P1 _ (st2.trans k)
  have P4 : ∀ t, Steps p.tables e below (T2.setTop (mkF m 61 #[.val (.ref a1), .val (.long q2), .second, .val (.long q3), .second] [(.int (XT.cmpL q2 (0 : Int64)))])) t → Steps p.tables e below (s₁.setTop (entryFrame m #[(.ref a1), (.long q2), (.long q3)] 5)) t := by
    intro t k
    refine P3 _ ?_
    refine XS.tswIn X2.here hx rfl (pc0 := 4) (pc' := 58) rfl (hb hby d21_4) rfl (by decide) rfl (by decide) (by decide) ?_
    show Steps p.tables e below (T2.setTop (mkF m 58 #[.val (.ref a1), .val (.long q2), .second, .val (.long q3), .second] [])) _
    refine XT.lloadN X2.here hx rfl (hb hby d21_58) rfl ?_
    show Steps p.tables e below (T2.setTop (mkF m 59 #[.val (.ref a1), .val (.long q2), .second, .val (.long q3), .second] [(.long q2)])) _
    refine XT.lconst X2.here hx rfl (hb hby d21_59) ?_
    show Steps p.tables e below (T2.setTop (mkF m 60 #[.val (.ref a1), .val (.long q2), .second, .val (.long q3), .second] [(.long (0 : Int64)), (.long q2)])) _
    refine XT.lcmp X2.here hx rfl (hb hby d21_60) rfl ?_
    show Steps p.tables e below (T2.setTop (mkF m 61 #[.val (.ref a1), .val (.long q2), .second, .val (.long q3), .second] [(.int (XT.cmpL q2 (0 : Int64)))])) _
    exact k
  by_cases c61 : (0 : Int64) < q2
  · have P5 : ∀ t, Steps p.tables e below (T2.setTop (mkF m 67 #[.val (.ref a1), .val (.long q2), .second, .val (.long q3), .second] [(.int (XT.cmpL q3 (0 : Int64)))])) t → Steps p.tables e below (s₁.setTop (entryFrame m #[(.ref a1), (.long q2), (.long q3)] 5)) t := by
      intro t k
      refine P4 _ ?_
      refine XS.ifNo X2.here hx rfl (hb hby d21_61) rfl (XT.ll_le_f c61) ?_
      show Steps p.tables e below (T2.setTop (mkF m 64 #[.val (.ref a1), .val (.long q2), .second, .val (.long q3), .second] [])) _
      refine XT.lloadN X2.here hx rfl (hb hby d21_64) rfl ?_
      show Steps p.tables e below (T2.setTop (mkF m 65 #[.val (.ref a1), .val (.long q2), .second, .val (.long q3), .second] [(.long q3)])) _
      refine XT.lconst X2.here hx rfl (hb hby d21_65) ?_
      show Steps p.tables e below (T2.setTop (mkF m 66 #[.val (.ref a1), .val (.long q2), .second, .val (.long q3), .second] [(.long (0 : Int64)), (.long q3)])) _
      refine XT.lcmp X2.here hx rfl (hb hby d21_66) rfl ?_
      show Steps p.tables e below (T2.setTop (mkF m 67 #[.val (.ref a1), .val (.long q2), .second, .val (.long q3), .second] [(.int (XT.cmpL q3 (0 : Int64)))])) _
      exact k
    by_cases c67 : q3 = (0 : Int64)
    · have P6 : ∀ t, Steps p.tables e below (T2.setTop (mkF m 105 #[.val (.ref a1), .val (.long q2), .second, .val (.long q3), .second] [(.long (1 : Int64))])) t → Steps p.tables e below (s₁.setTop (entryFrame m #[(.ref a1), (.long q2), (.long q3)] 5)) t := by
        intro t k
        refine P5 _ ?_
        refine XS.ifNo X2.here hx rfl (hb hby d21_67) rfl (XT.ll_ne_f c67) ?_
        show Steps p.tables e below (T2.setTop (mkF m 70 #[.val (.ref a1), .val (.long q2), .second, .val (.long q3), .second] [])) _
        refine XT.lconst X2.here hx rfl (hb hby d21_70) ?_
        show Steps p.tables e below (T2.setTop (mkF m 71 #[.val (.ref a1), .val (.long q2), .second, .val (.long q3), .second] [(.long (1 : Int64))])) _
        refine XS.goto X2.here hx rfl (pc0 := 71) (pc' := 105) rfl (hb hby d21_71) (by decide) (by decide) ?_
        show Steps p.tables e below (T2.setTop (mkF m 105 #[.val (.ref a1), .val (.long q2), .second, .val (.long q3), .second] [(.long (1 : Int64))])) _
        exact k
      obtain ⟨fs, hr, hrun, hended, hW, hsame⟩ := X2.leave (v := some (.long (1 : Int64))) (fun h => by rw [Bd.returns] at h; cases h)
      refine ⟨_, _, P6 _ ?_, hrun, hended, _, _, rfl, ?_, ⟨_, rfl⟩, hW, hsame.mono (by decide) (by decide)⟩
      · exact X2.lreturnOut hx Bd.returns (hb hby d21_105) hr
      · show Q21 Z a1 q2 q3 h0 n0 _ T2.heap _
        rw [e2]
        exact ⟨by rw [if_pos c61, if_pos c67], N2, rfl⟩
    · have P7 : ∀ t, Steps p.tables e below (T2.setTop (mkF m 105 #[.val (.ref a1), .val (.long q2), .second, .val (.long q3), .second] [(.long (0 : Int64))])) t → Steps p.tables e below (s₁.setTop (entryFrame m #[(.ref a1), (.long q2), (.long q3)] 5)) t := by
        intro t k
        refine P5 _ ?_
        refine XS.ifYes X2.here hx rfl (pc0 := 67) (pc' := 74) rfl (hb hby d21_67) rfl (XT.ll_ne_t c67) (by decide) (by decide) ?_
        show Steps p.tables e below (T2.setTop (mkF m 74 #[.val (.ref a1), .val (.long q2), .second, .val (.long q3), .second] [])) _
        refine XT.lconst X2.here hx rfl (hb hby d21_74) ?_
        show Steps p.tables e below (T2.setTop (mkF m 75 #[.val (.ref a1), .val (.long q2), .second, .val (.long q3), .second] [(.long (0 : Int64))])) _
        refine XS.goto X2.here hx rfl (pc0 := 75) (pc' := 105) rfl (hb hby d21_75) (by decide) (by decide) ?_
        show Steps p.tables e below (T2.setTop (mkF m 105 #[.val (.ref a1), .val (.long q2), .second, .val (.long q3), .second] [(.long (0 : Int64))])) _
        exact k
      obtain ⟨fs, hr, hrun, hended, hW, hsame⟩ := X2.leave (v := some (.long (0 : Int64))) (fun h => by rw [Bd.returns] at h; cases h)
      refine ⟨_, _, P7 _ ?_, hrun, hended, _, _, rfl, ?_, ⟨_, rfl⟩, hW, hsame.mono (by decide) (by decide)⟩
      · exact X2.lreturnOut hx Bd.returns (hb hby d21_105) hr
      · show Q21 Z a1 q2 q3 h0 n0 _ T2.heap _
        rw [e2]
        exact ⟨by rw [if_pos c61, if_neg c67], N2, rfl⟩
  · have P8 : ∀ t, Steps p.tables e below (T2.setTop (mkF m 105 #[.val (.ref a1), .val (.long q2), .second, .val (.long q3), .second] [(.long (0 : Int64))])) t → Steps p.tables e below (s₁.setTop (entryFrame m #[(.ref a1), (.long q2), (.long q3)] 5)) t := by
      intro t k
      refine P4 _ ?_
      refine XS.ifYes X2.here hx rfl (pc0 := 61) (pc' := 74) rfl (hb hby d21_61) rfl (XT.ll_le_t c61) (by decide) (by decide) ?_
      show Steps p.tables e below (T2.setTop (mkF m 74 #[.val (.ref a1), .val (.long q2), .second, .val (.long q3), .second] [])) _
      refine XT.lconst X2.here hx rfl (hb hby d21_74) ?_
      show Steps p.tables e below (T2.setTop (mkF m 75 #[.val (.ref a1), .val (.long q2), .second, .val (.long q3), .second] [(.long (0 : Int64))])) _
      refine XS.goto X2.here hx rfl (pc0 := 75) (pc' := 105) rfl (hb hby d21_75) (by decide) (by decide) ?_
      show Steps p.tables e below (T2.setTop (mkF m 105 #[.val (.ref a1), .val (.long q2), .second, .val (.long q3), .second] [(.long (0 : Int64))])) _
      exact k
    obtain ⟨fs, hr, hrun, hended, hW, hsame⟩ := X2.leave (v := some (.long (0 : Int64))) (fun h => by rw [Bd.returns] at h; cases h)
    refine ⟨_, _, P8 _ ?_, hrun, hended, _, _, rfl, ?_, ⟨_, rfl⟩, hW, hsame.mono (by decide) (by decide)⟩
    · exact X2.lreturnOut hx Bd.returns (hb hby d21_105) hr
    · show Q21 Z a1 q2 q3 h0 n0 _ T2.heap _
      rw [e2]
      exact ⟨by rw [if_neg c61], N2, rfl⟩
theorem d22_0 : decode prog_50_method_6_code 0 = .ok (.aload_n 0, 1) := by decide +kernel
theorem d22_1 : decode prog_50_method_6_code 1 = .ok (.invokevirtual 46, 3) := by decide +kernel
theorem d22_4 : decode prog_50_method_6_code 4 = .ok (.tableswitch 36 0 4 #[46, 54, 74, 84, 96], 36) := by decide +kernel
theorem d22_78 : decode prog_50_method_6_code 78 = .ok (.lload_n 1, 1) := by decide +kernel
theorem d22_79 : decode prog_50_method_6_code 79 = .ok (.lload_n 3, 1) := by decide +kernel
theorem d22_80 : decode prog_50_method_6_code 80 = .ok (.lsub, 1) := by decide +kernel
theorem d22_81 : decode prog_50_method_6_code 81 = .ok (.lconst 0, 1) := by decide +kernel
theorem d22_82 : decode prog_50_method_6_code 82 = .ok (.invokestatic 61, 3) := by decide +kernel
theorem d22_85 : decode prog_50_method_6_code 85 = .ok (.goto 20, 3) := by decide +kernel
theorem d22_105 : decode prog_50_method_6_code 105 = .ok (.lreturn, 1) := by decide +kernel
theorem pn_22 : plainName "com/example/millrace/millrace/plan/SetOperation$Kind" = true := by first | (simp [plainName, overriddenIn]; done) | decide +kernel
theorem ef_22 (m : MethodId) (x0 : Addr) (x1 : Int64) (x2 : Int64) : entryFrame m #[(.ref x0), (.long x1), (.long x2)] 5 = mkF m 0 #[.val (.ref x0), .val (.long x1), .second, .val (.long x2), .second] [] := by first | (simp [entryFrame, mkF, argsToLocals, Value.category]; done) | rfl
def Q22 (Z : State) (a1 : Addr) (q2 : Int64) (q3 : Int64) (h0 : Heap) (n0 : Nat) (v : Option Value) (h : Heap) (L : List Loc) : Prop := v = some (.long (if (q2 - q3) < (0 : Int64) then (0 : Int64) else (q2 - q3))) ∧ Fr n0 L ∧ h = h0
set_option maxRecDepth 65536 in
set_option maxHeartbeats 40000000 in
theorem rm22 (l : Launch) (Z : State) (a0 : Array Value) (hw : ∀ d ∈ tables_1, d.before a0 Z = true) (ws : List Jvm.Cond) (a1 : Addr) (q2 : Int64) (q3 : Int64) (h0 : Heap) (n0 : Nat) (Z0 : n0 ≤ h0.size) (E_a : Exa Z h0 a1 "com/example/millrace/millrace/plan/SetOperation$Kind") (F_o : Fld Z h0 a1 "java/lang/Enum" "ordinal" "I" (.int (2 : Int32))) :
    MetFree l (⟨"com/example/millrace/millrace/plan/SetOperation$Kind", "copies", "(JJ)J"⟩ : MethodName) (head1 (Jvm.Cond.code (⟨"com/example/millrace/millrace/plan/SetOperation$Kind", "copies", "(JJ)J"⟩ : MethodName) prog_50_method_6_code 5 (some .long) :: ws) ({ frames := 1, cells := 0, slots := 0, locals := 15 } : Room)) (fun a U => a = #[(.ref a1), (.long q2), (.long q3)] ∧ Z.Warmed39 U.vm ∧ U.heap = h0) (fun _ _ _ _ _ => True) (fun _ U o U' => ∃ v L, o = .returned v ∧ Q22 Z a1 q2 q3 h0 n0 v U'.heap L ∧ FrameEnd U o U' L ({ frames := 1, cells := 0, slots := 0, locals := 15 } : Room).cells ({ frames := 1, cells := 0, slots := 0, locals := 15 } : Room).slots) := by
  refine MetFree.of_bodySF (plainFor_of_name pn_22) hisR ?_
  intro p e s m args below meth c s₁ Bd hml0 hP hK
  obtain ⟨rfl, hZ, hh⟩ := hP
  have hx := Bd.exec
  have hby := Bd.bytes
  have hml : c.maxLocals = 5 := hml0
  have hown : s.vm.findClass "com/example/millrace/millrace/plan/SetOperation$Kind" = some m.cls := findClass_of_methodNamed Bd.named
  have hnm := (name_of_methodNamed Bd.named Bd.method).1
  have X0 : Stand p l e ({ frames := 1, cells := 0, slots := 0, locals := 15 } : Room) s m #[(.ref a1), (.long q2), (.long q3)] below meth c s₁ [] 0 0 := Stand.of_body Bd
  have e0 : s₁.heap = h0 := by rw [← hh, Bd.state]; rfl
  have N0 := Fr.nil n0
  have K0 : Keep h0 h0 [] := Keep.refl _ _
  have P0 : ∀ t, Steps p.tables e below (s₁.setTop (mkF m 0 #[.val (.ref a1), .val (.long q2), .second, .val (.long q3), .second] [])) t → Steps p.tables e below (s₁.setTop (entryFrame m #[(.ref a1), (.long q2), (.long q3)] 5)) t := fun t k => castTop (ef_22 m a1 q2 q3) k
  have P1 : ∀ t, Steps p.tables e below (s₁.setTop (mkF m 1 #[.val (.ref a1), .val (.long q2), .second, .val (.long q3), .second] [(.ref a1)])) t → Steps p.tables e below (s₁.setTop (entryFrame m #[(.ref a1), (.long q2), (.long q3)] 5)) t := by
    intro t k
    refine P0 _ ?_
    refine XS.aloadN X0.here hx rfl (hb hby d22_0) rfl rfl ?_
    show Steps p.tables e below (s₁.setTop (mkF m 1 #[.val (.ref a1), .val (.long q2), .second, .val (.long q3), .second] [(.ref a1)])) _
    exact k
  obtain ⟨cq2, kq2, qa2, qb2, qc2⟩ := isOf hZ e0 E_a
  obtain ⟨_, _, ⟨T2, L2, k2, n2⟩, -, X2, ⟨Lc2, hQ2, l2, y2, z2⟩, st2⟩ := X0.virtualBackUp hx (x := (⟨"com/example/millrace/millrace/plan/SetOperation$Kind", "ordinal", "()I"⟩ : MethodName)) (y := (⟨"java/lang/Enum", "ordinal", "()I"⟩ : MethodName)) hown (mvT hZ (hw _ (List.mem_of_getElem? (i := 28) rfl))) (mvT hZ (hw _ (List.mem_of_getElem? (i := 29) rfl))) (mvT hZ (hw _ (List.mem_of_getElem? (i := 30) rfl))) (by decide) (mvT hZ (hw _ (List.mem_of_getElem? (i := 32) rfl))) (mvT hZ (hw _ (List.mem_of_getElem? (i := 31) rfl))) (backOf (W := 0) (rm3 l Z a0 hw [] a1 (2 : Int32) h0 n0 Z0 F_o) hZ (hw _ (List.mem_of_getElem? (i := 34) rfl)) (hw _ (List.mem_of_getElem? (i := 33) rfl)) (by decide) (by decide)) qa2 qc2 (g := (mkF m 1 #[.val (.ref a1), .val (.long q2), .second, .val (.long q3), .second] [(.ref a1)])) rfl (by rw [hml]; rfl) (Steps.refl _) (argsL := []) (rest := []) (lenOf pd_0 rfl) rfl (by show 2 * 0 + _ ≤ _; exact Nat.le_of_eq rfl) (hb hby d22_1) (fun _ _ => ⟨rfl, e0, (by decide : 0 + 0 ≤ _), (by decide : 0 + 0 ≤ _)⟩)
  dsimp only [Pt.U, Pt.locs, Pt.cells, Pt.slots] at X2 l2 y2 z2 st2 hQ2
  subst l2 y2 z2
  obtain ⟨rfl, N2q, e2⟩ := hQ2
  have N2 := Fr.app N0 N2q
  have P3 : ∀ t, Steps p.tables e below (T2.setTop (mkF m 4 #[.val (.ref a1), .val (.long q2), .second, .val (.long q3), .second] [(.int (2 : Int32))])) t → Steps p.tables e below (s₁.setTop (entryFrame m #[(.ref a1), (.long q2), (.long q3)] 5)) t := fun t k => P1 _ (st2.trans k)
  have P4 : ∀ t, Steps p.tables e below (T2.setTop (mkF m 82 #[.val (.ref a1), .val (.long q2), .second, .val (.long q3), .second] [(.long (0 : Int64)), (.long (q2 - q3))])) t → Steps p.tables e below (s₁.setTop (entryFrame m #[(.ref a1), (.long q2), (.long q3)] 5)) t := by
    intro t k
    refine P3 _ ?_
    refine XS.tswIn X2.here hx rfl (pc0 := 4) (pc' := 78) rfl (hb hby d22_4) rfl (by decide) rfl (by decide) (by decide) ?_
    show Steps p.tables e below (T2.setTop (mkF m 78 #[.val (.ref a1), .val (.long q2), .second, .val (.long q3), .second] [])) _
    refine XT.lloadN X2.here hx rfl (hb hby d22_78) rfl ?_
    show Steps p.tables e below (T2.setTop (mkF m 79 #[.val (.ref a1), .val (.long q2), .second, .val (.long q3), .second] [(.long q2)])) _
    refine XT.lloadN X2.here hx rfl (hb hby d22_79) rfl ?_
    show Steps p.tables e below (T2.setTop (mkF m 80 #[.val (.ref a1), .val (.long q2), .second, .val (.long q3), .second] [(.long q3), (.long q2)])) _
    refine XT.lsub X2.here hx rfl (hb hby d22_80) rfl ?_
    show Steps p.tables e below (T2.setTop (mkF m 81 #[.val (.ref a1), .val (.long q2), .second, .val (.long q3), .second] [(.long (q2 - q3))])) _
    refine XT.lconst X2.here hx rfl (hb hby d22_81) ?_
    show Steps p.tables e below (T2.setTop (mkF m 82 #[.val (.ref a1), .val (.long q2), .second, .val (.long q3), .second] [(.long (0 : Int64)), (.long (q2 - q3))])) _
    exact k
  obtain ⟨_, _, ⟨T5, L5, k5, n5⟩, -, X5, ⟨Lc5, hQ5, l5, y5, z5⟩, st5⟩ := Jvm.LawKit.callS X2 hx (y := (⟨"java/lang/Math", "max", "(JJ)J"⟩ : MethodName)) hown (mvT hZ (hw _ (List.mem_of_getElem? (i := 44) rfl))) (mvT hZ (hw _ (List.mem_of_getElem? (i := 45) rfl))) (mvT hZ (hw _ (List.mem_of_getElem? (i := 39) rfl))) (mvT hZ (hw _ (List.mem_of_getElem? (i := 46) rfl))) (by decide) (backOf (W := 0) (rm2 l Z a0 hw [] (q2 - q3) (0 : Int64)  h0 n0 Z0 ) hZ (hw _ (List.mem_of_getElem? (i := 46) rfl)) (hw _ (List.mem_of_getElem? (i := 39) rfl)) (by decide) (by decide)) (g := (mkF m 82 #[.val (.ref a1), .val (.long q2), .second, .val (.long q3), .second] [(.long (0 : Int64)), (.long (q2 - q3))])) rfl (by rw [hml]; rfl) (argsL := [(.long (q2 - q3)), (.long (0 : Int64))]) (rest := []) (lenOf pd_1 rfl) rfl (by show 2 * 0 + _ ≤ _; exact Nat.le_of_eq rfl) (hb hby d22_82) (fun _ _ => ⟨rfl, e2, (by decide : 0 + 0 ≤ _), (by decide : 0 + 0 ≤ _)⟩)
  dsimp only [Pt.U, Pt.locs, Pt.cells, Pt.slots] at X5 l5 y5 z5 st5 hQ5
  subst l5 y5 z5
  obtain ⟨rfl, N5q, e5⟩ := hQ5
  have N5 := Fr.app N2 N5q
  have P6 : ∀ t, Steps p.tables e below (T5.setTop (mkF m 85 #[.val (.ref a1), .val (.long q2), .second, .val (.long q3), .second] [(.long (if (q2 - q3) < (0 : Int64) then (0 : Int64) else (q2 - q3)))])) t → Steps p.tables e below (s₁.setTop (entryFrame m #[(.ref a1), (.long q2), (.long q3)] 5)) t := fun t k => P4 _ (st5 _ k)
  have P7 : ∀ t, Steps p.tables e below (T5.setTop (mkF m 105 #[.val (.ref a1), .val (.long q2), .second, .val (.long q3), .second] [(.long (if (q2 - q3) < (0 : Int64) then (0 : Int64) else (q2 - q3)))])) t → Steps p.tables e below (s₁.setTop (entryFrame m #[(.ref a1), (.long q2), (.long q3)] 5)) t := by
    intro t k
    refine P6 _ ?_
    refine XS.goto X5.here hx rfl (pc0 := 85) (pc' := 105) rfl (hb hby d22_85) (by decide) (by decide) ?_
    show Steps p.tables e below (T5.setTop (mkF m 105 #[.val (.ref a1), .val (.long q2), .second, .val (.long q3), .second] [(.long (if (q2 - q3) < (0 : Int64) then (0 : Int64) else (q2 - q3)))])) _
    exact k
  obtain ⟨fs, hr, hrun, hended, hW, hsame⟩ := X5.leave (v := some (.long (if (q2 - q3) < (0 : Int64) then (0 : Int64) else (q2 - q3)))) (fun h => by rw [Bd.returns] at h; cases h)
  refine ⟨_, _, P7 _ ?_, hrun, hended, _, _, rfl, ?_, ⟨_, rfl⟩, hW, hsame.mono (by decide) (by decide)⟩
  · exact X5.lreturnOut hx Bd.returns (hb hby d22_105) hr
  · show Q22 Z a1 q2 q3 h0 n0 _ T5.heap _
    rw [e5]
    exact ⟨rfl, N5, rfl⟩
theorem d23_0 : decode prog_50_method_6_code 0 = .ok (.aload_n 0, 1) := by decide +kernel
theorem d23_1 : decode prog_50_method_6_code 1 = .ok (.invokevirtual 46, 3) := by decide +kernel
theorem d23_4 : decode prog_50_method_6_code 4 = .ok (.tableswitch 36 0 4 #[46, 54, 74, 84, 96], 36) := by decide +kernel
theorem d23_88 : decode prog_50_method_6_code 88 = .ok (.lload_n 1, 1) := by decide +kernel
theorem d23_89 : decode prog_50_method_6_code 89 = .ok (.lload_n 3, 1) := by decide +kernel
theorem d23_90 : decode prog_50_method_6_code 90 = .ok (.invokestatic 55, 3) := by decide +kernel
theorem d23_93 : decode prog_50_method_6_code 93 = .ok (.lconst 1, 1) := by decide +kernel
theorem d23_94 : decode prog_50_method_6_code 94 = .ok (.invokestatic 55, 3) := by decide +kernel
theorem d23_97 : decode prog_50_method_6_code 97 = .ok (.goto 8, 3) := by decide +kernel
theorem d23_105 : decode prog_50_method_6_code 105 = .ok (.lreturn, 1) := by decide +kernel
theorem pn_23 : plainName "com/example/millrace/millrace/plan/SetOperation$Kind" = true := by first | (simp [plainName, overriddenIn]; done) | decide +kernel
theorem ef_23 (m : MethodId) (x0 : Addr) (x1 : Int64) (x2 : Int64) : entryFrame m #[(.ref x0), (.long x1), (.long x2)] 5 = mkF m 0 #[.val (.ref x0), .val (.long x1), .second, .val (.long x2), .second] [] := by first | (simp [entryFrame, mkF, argsToLocals, Value.category]; done) | rfl
def Q23 (Z : State) (a1 : Addr) (q2 : Int64) (q3 : Int64) (h0 : Heap) (n0 : Nat) (v : Option Value) (h : Heap) (L : List Loc) : Prop := v = some (.long (if (1 : Int64) < (if q3 < q2 then q3 else q2) then (1 : Int64) else (if q3 < q2 then q3 else q2))) ∧ Fr n0 L ∧ h = h0
set_option maxRecDepth 65536 in
set_option maxHeartbeats 40000000 in
theorem rm23 (l : Launch) (Z : State) (a0 : Array Value) (hw : ∀ d ∈ tables_1, d.before a0 Z = true) (ws : List Jvm.Cond) (a1 : Addr) (q2 : Int64) (q3 : Int64) (h0 : Heap) (n0 : Nat) (Z0 : n0 ≤ h0.size) (E_a : Exa Z h0 a1 "com/example/millrace/millrace/plan/SetOperation$Kind") (F_o : Fld Z h0 a1 "java/lang/Enum" "ordinal" "I" (.int (3 : Int32))) :
    MetFree l (⟨"com/example/millrace/millrace/plan/SetOperation$Kind", "copies", "(JJ)J"⟩ : MethodName) (head1 (Jvm.Cond.code (⟨"com/example/millrace/millrace/plan/SetOperation$Kind", "copies", "(JJ)J"⟩ : MethodName) prog_50_method_6_code 5 (some .long) :: ws) ({ frames := 1, cells := 0, slots := 0, locals := 15 } : Room)) (fun a U => a = #[(.ref a1), (.long q2), (.long q3)] ∧ Z.Warmed39 U.vm ∧ U.heap = h0) (fun _ _ _ _ _ => True) (fun _ U o U' => ∃ v L, o = .returned v ∧ Q23 Z a1 q2 q3 h0 n0 v U'.heap L ∧ FrameEnd U o U' L ({ frames := 1, cells := 0, slots := 0, locals := 15 } : Room).cells ({ frames := 1, cells := 0, slots := 0, locals := 15 } : Room).slots) := by
  refine MetFree.of_bodySF (plainFor_of_name pn_23) hisR ?_
  intro p e s m args below meth c s₁ Bd hml0 hP hK
  obtain ⟨rfl, hZ, hh⟩ := hP
  have hx := Bd.exec
  have hby := Bd.bytes
  have hml : c.maxLocals = 5 := hml0
  have hown : s.vm.findClass "com/example/millrace/millrace/plan/SetOperation$Kind" = some m.cls := findClass_of_methodNamed Bd.named
  have hnm := (name_of_methodNamed Bd.named Bd.method).1
  have X0 : Stand p l e ({ frames := 1, cells := 0, slots := 0, locals := 15 } : Room) s m #[(.ref a1), (.long q2), (.long q3)] below meth c s₁ [] 0 0 := Stand.of_body Bd
  have e0 : s₁.heap = h0 := by rw [← hh, Bd.state]; rfl
  have N0 := Fr.nil n0
  have K0 : Keep h0 h0 [] := Keep.refl _ _
  have P0 : ∀ t, Steps p.tables e below (s₁.setTop (mkF m 0 #[.val (.ref a1), .val (.long q2), .second, .val (.long q3), .second] [])) t → Steps p.tables e below (s₁.setTop (entryFrame m #[(.ref a1), (.long q2), (.long q3)] 5)) t := fun t k => castTop (ef_23 m a1 q2 q3) k
  have P1 : ∀ t, Steps p.tables e below (s₁.setTop (mkF m 1 #[.val (.ref a1), .val (.long q2), .second, .val (.long q3), .second] [(.ref a1)])) t → Steps p.tables e below (s₁.setTop (entryFrame m #[(.ref a1), (.long q2), (.long q3)] 5)) t := by
    intro t k
    refine P0 _ ?_
    refine XS.aloadN X0.here hx rfl (hb hby d23_0) rfl rfl ?_
    show Steps p.tables e below (s₁.setTop (mkF m 1 #[.val (.ref a1), .val (.long q2), .second, .val (.long q3), .second] [(.ref a1)])) _
    exact k
  obtain ⟨cq2, kq2, qa2, qb2, qc2⟩ := isOf hZ e0 E_a
  obtain ⟨_, _, ⟨T2, L2, k2, n2⟩, -, X2, ⟨Lc2, hQ2, l2, y2, z2⟩, st2⟩ := X0.virtualBackUp hx (x := (⟨"com/example/millrace/millrace/plan/SetOperation$Kind", "ordinal", "()I"⟩ : MethodName)) (y := (⟨"java/lang/Enum", "ordinal", "()I"⟩ : MethodName)) hown (mvT hZ (hw _ (List.mem_of_getElem? (i := 28) rfl))) (mvT hZ (hw _ (List.mem_of_getElem? (i := 29) rfl))) (mvT hZ (hw _ (List.mem_of_getElem? (i := 30) rfl))) (by decide) (mvT hZ (hw _ (List.mem_of_getElem? (i := 32) rfl))) (mvT hZ (hw _ (List.mem_of_getElem? (i := 31) rfl))) (backOf (W := 0) (rm3 l Z a0 hw [] a1 (3 : Int32) h0 n0 Z0 F_o) hZ (hw _ (List.mem_of_getElem? (i := 34) rfl)) (hw _ (List.mem_of_getElem? (i := 33) rfl)) (by decide) (by decide)) qa2 qc2 (g := (mkF m 1 #[.val (.ref a1), .val (.long q2), .second, .val (.long q3), .second] [(.ref a1)])) rfl (by rw [hml]; rfl) (Steps.refl _) (argsL := []) (rest := []) (lenOf pd_0 rfl) rfl (by show 2 * 0 + _ ≤ _; exact Nat.le_of_eq rfl) (hb hby d23_1) (fun _ _ => ⟨rfl, e0, (by decide : 0 + 0 ≤ _), (by decide : 0 + 0 ≤ _)⟩)
  dsimp only [Pt.U, Pt.locs, Pt.cells, Pt.slots] at X2 l2 y2 z2 st2 hQ2
  subst l2 y2 z2
  obtain ⟨rfl, N2q, e2⟩ := hQ2
  have N2 := Fr.app N0 N2q
  have P3 : ∀ t, Steps p.tables e below (T2.setTop (mkF m 4 #[.val (.ref a1), .val (.long q2), .second, .val (.long q3), .second] [(.int (3 : Int32))])) t → Steps p.tables e below (s₁.setTop (entryFrame m #[(.ref a1), (.long q2), (.long q3)] 5)) t := fun t k => P1 _ (st2.trans k)
  have P4 : ∀ t, Steps p.tables e below (T2.setTop (mkF m 90 #[.val (.ref a1), .val (.long q2), .second, .val (.long q3), .second] [(.long q3), (.long q2)])) t → Steps p.tables e below (s₁.setTop (entryFrame m #[(.ref a1), (.long q2), (.long q3)] 5)) t := by
    intro t k
    refine P3 _ ?_
    refine XS.tswIn X2.here hx rfl (pc0 := 4) (pc' := 88) rfl (hb hby d23_4) rfl (by decide) rfl (by decide) (by decide) ?_
    show Steps p.tables e below (T2.setTop (mkF m 88 #[.val (.ref a1), .val (.long q2), .second, .val (.long q3), .second] [])) _
    refine XT.lloadN X2.here hx rfl (hb hby d23_88) rfl ?_
    show Steps p.tables e below (T2.setTop (mkF m 89 #[.val (.ref a1), .val (.long q2), .second, .val (.long q3), .second] [(.long q2)])) _
    refine XT.lloadN X2.here hx rfl (hb hby d23_89) rfl ?_
    show Steps p.tables e below (T2.setTop (mkF m 90 #[.val (.ref a1), .val (.long q2), .second, .val (.long q3), .second] [(.long q3), (.long q2)])) _
    exact k
  obtain ⟨_, _, ⟨T5, L5, k5, n5⟩, -, X5, ⟨Lc5, hQ5, l5, y5, z5⟩, st5⟩ := Jvm.LawKit.callS X2 hx (y := (⟨"java/lang/Math", "min", "(JJ)J"⟩ : MethodName)) hown (mvT hZ (hw _ (List.mem_of_getElem? (i := 37) rfl))) (mvT hZ (hw _ (List.mem_of_getElem? (i := 38) rfl))) (mvT hZ (hw _ (List.mem_of_getElem? (i := 39) rfl))) (mvT hZ (hw _ (List.mem_of_getElem? (i := 40) rfl))) (by decide) (backOf (W := 0) (rm1 l Z a0 hw [] q2 q3  h0 n0 Z0 ) hZ (hw _ (List.mem_of_getElem? (i := 40) rfl)) (hw _ (List.mem_of_getElem? (i := 39) rfl)) (by decide) (by decide)) (g := (mkF m 90 #[.val (.ref a1), .val (.long q2), .second, .val (.long q3), .second] [(.long q3), (.long q2)])) rfl (by rw [hml]; rfl) (argsL := [(.long q2), (.long q3)]) (rest := []) (lenOf pd_1 rfl) rfl (by show 2 * 0 + _ ≤ _; exact Nat.le_of_eq rfl) (hb hby d23_90) (fun _ _ => ⟨rfl, e2, (by decide : 0 + 0 ≤ _), (by decide : 0 + 0 ≤ _)⟩)
  dsimp only [Pt.U, Pt.locs, Pt.cells, Pt.slots] at X5 l5 y5 z5 st5 hQ5
  subst l5 y5 z5
  obtain ⟨rfl, N5q, e5⟩ := hQ5
  have N5 := Fr.app N2 N5q
  have P6 : ∀ t, Steps p.tables e below (T5.setTop (mkF m 93 #[.val (.ref a1), .val (.long q2), .second, .val (.long q3), .second] [(.long (if q3 < q2 then q3 else q2))])) t → Steps p.tables e below (s₁.setTop (entryFrame m #[(.ref a1), (.long q2), (.long q3)] 5)) t := fun t k => P4 _ (st5 _ k)
  have P7 : ∀ t, Steps p.tables e below (T5.setTop (mkF m 94 #[.val (.ref a1), .val (.long q2), .second, .val (.long q3), .second] [(.long (1 : Int64)), (.long (if q3 < q2 then q3 else q2))])) t → Steps p.tables e below (s₁.setTop (entryFrame m #[(.ref a1), (.long q2), (.long q3)] 5)) t := by
    intro t k
    refine P6 _ ?_
    refine XT.lconst X5.here hx rfl (hb hby d23_93) ?_
    show Steps p.tables e below (T5.setTop (mkF m 94 #[.val (.ref a1), .val (.long q2), .second, .val (.long q3), .second] [(.long (1 : Int64)), (.long (if q3 < q2 then q3 else q2))])) _
    exact k
  obtain ⟨_, _, ⟨T8, L8, k8, n8⟩, -, X8, ⟨Lc8, hQ8, l8, y8, z8⟩, st8⟩ := Jvm.LawKit.callS X5 hx (y := (⟨"java/lang/Math", "min", "(JJ)J"⟩ : MethodName)) hown (mvT hZ (hw _ (List.mem_of_getElem? (i := 37) rfl))) (mvT hZ (hw _ (List.mem_of_getElem? (i := 38) rfl))) (mvT hZ (hw _ (List.mem_of_getElem? (i := 39) rfl))) (mvT hZ (hw _ (List.mem_of_getElem? (i := 40) rfl))) (by decide) (backOf (W := 0) (rm1 l Z a0 hw [] (if q3 < q2 then q3 else q2) (1 : Int64)  h0 n0 Z0 ) hZ (hw _ (List.mem_of_getElem? (i := 40) rfl)) (hw _ (List.mem_of_getElem? (i := 39) rfl)) (by decide) (by decide)) (g := (mkF m 94 #[.val (.ref a1), .val (.long q2), .second, .val (.long q3), .second] [(.long (1 : Int64)), (.long (if q3 < q2 then q3 else q2))])) rfl (by rw [hml]; rfl) (argsL := [(.long (if q3 < q2 then q3 else q2)), (.long (1 : Int64))]) (rest := []) (lenOf pd_1 rfl) rfl (by show 2 * 0 + _ ≤ _; exact Nat.le_of_eq rfl) (hb hby d23_94) (fun _ _ => ⟨rfl, e5, (by decide : 0 + 0 ≤ _), (by decide : 0 + 0 ≤ _)⟩)
  dsimp only [Pt.U, Pt.locs, Pt.cells, Pt.slots] at X8 l8 y8 z8 st8 hQ8
  subst l8 y8 z8
  obtain ⟨rfl, N8q, e8⟩ := hQ8
  have N8 := Fr.app N5 N8q
  have P9 : ∀ t, Steps p.tables e below (T8.setTop (mkF m 97 #[.val (.ref a1), .val (.long q2), .second, .val (.long q3), .second] [(.long (if (1 : Int64) < (if q3 < q2 then q3 else q2) then (1 : Int64) else (if q3 < q2 then q3 else q2)))])) t → Steps p.tables e below (s₁.setTop (entryFrame m #[(.ref a1), (.long q2), (.long q3)] 5)) t := fun t k => P7 _ (st8 _ k)
  have P10 : ∀ t, Steps p.tables e below (T8.setTop (mkF m 105 #[.val (.ref a1), .val (.long q2), .second, .val (.long q3), .second] [(.long (if (1 : Int64) < (if q3 < q2 then q3 else q2) then (1 : Int64) else (if q3 < q2 then q3 else q2)))])) t → Steps p.tables e below (s₁.setTop (entryFrame m #[(.ref a1), (.long q2), (.long q3)] 5)) t := by
    intro t k
    refine P9 _ ?_
    refine XS.goto X8.here hx rfl (pc0 := 97) (pc' := 105) rfl (hb hby d23_97) (by decide) (by decide) ?_
    show Steps p.tables e below (T8.setTop (mkF m 105 #[.val (.ref a1), .val (.long q2), .second, .val (.long q3), .second] [(.long (if (1 : Int64) < (if q3 < q2 then q3 else q2) then (1 : Int64) else (if q3 < q2 then q3 else q2)))])) _
    exact k
  obtain ⟨fs, hr, hrun, hended, hW, hsame⟩ := X8.leave (v := some (.long (if (1 : Int64) < (if q3 < q2 then q3 else q2) then (1 : Int64) else (if q3 < q2 then q3 else q2)))) (fun h => by rw [Bd.returns] at h; cases h)
  refine ⟨_, _, P10 _ ?_, hrun, hended, _, _, rfl, ?_, ⟨_, rfl⟩, hW, hsame.mono (by decide) (by decide)⟩
  · exact X8.lreturnOut hx Bd.returns (hb hby d23_105) hr
  · show Q23 Z a1 q2 q3 h0 n0 _ T8.heap _
    rw [e8]
    exact ⟨rfl, N8, rfl⟩
theorem d24_0 : decode prog_50_method_6_code 0 = .ok (.aload_n 0, 1) := by decide +kernel
theorem d24_1 : decode prog_50_method_6_code 1 = .ok (.invokevirtual 46, 3) := by decide +kernel
theorem d24_4 : decode prog_50_method_6_code 4 = .ok (.tableswitch 36 0 4 #[46, 54, 74, 84, 96], 36) := by decide +kernel
theorem d24_100 : decode prog_50_method_6_code 100 = .ok (.lload_n 1, 1) := by decide +kernel
theorem d24_101 : decode prog_50_method_6_code 101 = .ok (.lload_n 3, 1) := by decide +kernel
theorem d24_102 : decode prog_50_method_6_code 102 = .ok (.invokestatic 55, 3) := by decide +kernel
theorem d24_105 : decode prog_50_method_6_code 105 = .ok (.lreturn, 1) := by decide +kernel
theorem pn_24 : plainName "com/example/millrace/millrace/plan/SetOperation$Kind" = true := by first | (simp [plainName, overriddenIn]; done) | decide +kernel
theorem ef_24 (m : MethodId) (x0 : Addr) (x1 : Int64) (x2 : Int64) : entryFrame m #[(.ref x0), (.long x1), (.long x2)] 5 = mkF m 0 #[.val (.ref x0), .val (.long x1), .second, .val (.long x2), .second] [] := by first | (simp [entryFrame, mkF, argsToLocals, Value.category]; done) | rfl
def Q24 (Z : State) (a1 : Addr) (q2 : Int64) (q3 : Int64) (h0 : Heap) (n0 : Nat) (v : Option Value) (h : Heap) (L : List Loc) : Prop := v = some (.long (if q3 < q2 then q3 else q2)) ∧ Fr n0 L ∧ h = h0
set_option maxRecDepth 65536 in
set_option maxHeartbeats 40000000 in
theorem rm24 (l : Launch) (Z : State) (a0 : Array Value) (hw : ∀ d ∈ tables_1, d.before a0 Z = true) (ws : List Jvm.Cond) (a1 : Addr) (q2 : Int64) (q3 : Int64) (h0 : Heap) (n0 : Nat) (Z0 : n0 ≤ h0.size) (E_a : Exa Z h0 a1 "com/example/millrace/millrace/plan/SetOperation$Kind") (F_o : Fld Z h0 a1 "java/lang/Enum" "ordinal" "I" (.int (4 : Int32))) :
    MetFree l (⟨"com/example/millrace/millrace/plan/SetOperation$Kind", "copies", "(JJ)J"⟩ : MethodName) (head1 (Jvm.Cond.code (⟨"com/example/millrace/millrace/plan/SetOperation$Kind", "copies", "(JJ)J"⟩ : MethodName) prog_50_method_6_code 5 (some .long) :: ws) ({ frames := 1, cells := 0, slots := 0, locals := 15 } : Room)) (fun a U => a = #[(.ref a1), (.long q2), (.long q3)] ∧ Z.Warmed39 U.vm ∧ U.heap = h0) (fun _ _ _ _ _ => True) (fun _ U o U' => ∃ v L, o = .returned v ∧ Q24 Z a1 q2 q3 h0 n0 v U'.heap L ∧ FrameEnd U o U' L ({ frames := 1, cells := 0, slots := 0, locals := 15 } : Room).cells ({ frames := 1, cells := 0, slots := 0, locals := 15 } : Room).slots) := by
  refine MetFree.of_bodySF (plainFor_of_name pn_24) hisR ?_
  intro p e s m args below meth c s₁ Bd hml0 hP hK
  obtain ⟨rfl, hZ, hh⟩ := hP
  have hx := Bd.exec
  have hby := Bd.bytes
  have hml : c.maxLocals = 5 := hml0
  have hown : s.vm.findClass "com/example/millrace/millrace/plan/SetOperation$Kind" = some m.cls := findClass_of_methodNamed Bd.named
  have hnm := (name_of_methodNamed Bd.named Bd.method).1
  have X0 : Stand p l e ({ frames := 1, cells := 0, slots := 0, locals := 15 } : Room) s m #[(.ref a1), (.long q2), (.long q3)] below meth c s₁ [] 0 0 := Stand.of_body Bd
  have e0 : s₁.heap = h0 := by rw [← hh, Bd.state]; rfl
  have N0 := Fr.nil n0
  have K0 : Keep h0 h0 [] := Keep.refl _ _
  have P0 : ∀ t, Steps p.tables e below (s₁.setTop (mkF m 0 #[.val (.ref a1), .val (.long q2), .second, .val (.long q3), .second] [])) t → Steps p.tables e below (s₁.setTop (entryFrame m #[(.ref a1), (.long q2), (.long q3)] 5)) t := fun t k => castTop (ef_24 m a1 q2 q3) k
  have P1 : ∀ t, Steps p.tables e below (s₁.setTop (mkF m 1 #[.val (.ref a1), .val (.long q2), .second, .val (.long q3), .second] [(.ref a1)])) t → Steps p.tables e below (s₁.setTop (entryFrame m #[(.ref a1), (.long q2), (.long q3)] 5)) t := by
    intro t k
    refine P0 _ ?_
    refine XS.aloadN X0.here hx rfl (hb hby d24_0) rfl rfl ?_
    show Steps p.tables e below (s₁.setTop (mkF m 1 #[.val (.ref a1), .val (.long q2), .second, .val (.long q3), .second] [(.ref a1)])) _
    exact k
  obtain ⟨cq2, kq2, qa2, qb2, qc2⟩ := isOf hZ e0 E_a
  obtain ⟨_, _, ⟨T2, L2, k2, n2⟩, -, X2, ⟨Lc2, hQ2, l2, y2, z2⟩, st2⟩ := X0.virtualBackUp hx (x := (⟨"com/example/millrace/millrace/plan/SetOperation$Kind", "ordinal", "()I"⟩ : MethodName)) (y := (⟨"java/lang/Enum", "ordinal", "()I"⟩ : MethodName)) hown (mvT hZ (hw _ (List.mem_of_getElem? (i := 28) rfl))) (mvT hZ (hw _ (List.mem_of_getElem? (i := 29) rfl))) (mvT hZ (hw _ (List.mem_of_getElem? (i := 30) rfl))) (by decide) (mvT hZ (hw _ (List.mem_of_getElem? (i := 32) rfl))) (mvT hZ (hw _ (List.mem_of_getElem? (i := 31) rfl))) (backOf (W := 0) (rm3 l Z a0 hw [] a1 (4 : Int32) h0 n0 Z0 F_o) hZ (hw _ (List.mem_of_getElem? (i := 34) rfl)) (hw _ (List.mem_of_getElem? (i := 33) rfl)) (by decide) (by decide)) qa2 qc2 (g := (mkF m 1 #[.val (.ref a1), .val (.long q2), .second, .val (.long q3), .second] [(.ref a1)])) rfl (by rw [hml]; rfl) (Steps.refl _) (argsL := []) (rest := []) (lenOf pd_0 rfl) rfl (by show 2 * 0 + _ ≤ _; exact Nat.le_of_eq rfl) (hb hby d24_1) (fun _ _ => ⟨rfl, e0, (by decide : 0 + 0 ≤ _), (by decide : 0 + 0 ≤ _)⟩)
  dsimp only [Pt.U, Pt.locs, Pt.cells, Pt.slots] at X2 l2 y2 z2 st2 hQ2
  subst l2 y2 z2
  obtain ⟨rfl, N2q, e2⟩ := hQ2
  have N2 := Fr.app N0 N2q
  have P3 : ∀ t, Steps p.tables e below (T2.setTop (mkF m 4 #[.val (.ref a1), .val (.long q2), .second, .val (.long q3), .second] [(.int (4 : Int32))])) t → Steps p.tables e below (s₁.setTop (entryFrame m #[(.ref a1), (.long q2), (.long q3)] 5)) t := fun t k => P1 _ (st2.trans k)
  have P4 : ∀ t, Steps p.tables e below (T2.setTop (mkF m 102 #[.val (.ref a1), .val (.long q2), .second, .val (.long q3), .second] [(.long q3), (.long q2)])) t → Steps p.tables e below (s₁.setTop (entryFrame m #[(.ref a1), (.long q2), (.long q3)] 5)) t := by
    intro t k
    refine P3 _ ?_
    refine XS.tswIn X2.here hx rfl (pc0 := 4) (pc' := 100) rfl (hb hby d24_4) rfl (by decide) rfl (by decide) (by decide) ?_
    show Steps p.tables e below (T2.setTop (mkF m 100 #[.val (.ref a1), .val (.long q2), .second, .val (.long q3), .second] [])) _
    refine XT.lloadN X2.here hx rfl (hb hby d24_100) rfl ?_
    show Steps p.tables e below (T2.setTop (mkF m 101 #[.val (.ref a1), .val (.long q2), .second, .val (.long q3), .second] [(.long q2)])) _
    refine XT.lloadN X2.here hx rfl (hb hby d24_101) rfl ?_
    show Steps p.tables e below (T2.setTop (mkF m 102 #[.val (.ref a1), .val (.long q2), .second, .val (.long q3), .second] [(.long q3), (.long q2)])) _
    exact k
  obtain ⟨_, _, ⟨T5, L5, k5, n5⟩, -, X5, ⟨Lc5, hQ5, l5, y5, z5⟩, st5⟩ := Jvm.LawKit.callS X2 hx (y := (⟨"java/lang/Math", "min", "(JJ)J"⟩ : MethodName)) hown (mvT hZ (hw _ (List.mem_of_getElem? (i := 37) rfl))) (mvT hZ (hw _ (List.mem_of_getElem? (i := 38) rfl))) (mvT hZ (hw _ (List.mem_of_getElem? (i := 39) rfl))) (mvT hZ (hw _ (List.mem_of_getElem? (i := 40) rfl))) (by decide) (backOf (W := 0) (rm1 l Z a0 hw [] q2 q3  h0 n0 Z0 ) hZ (hw _ (List.mem_of_getElem? (i := 40) rfl)) (hw _ (List.mem_of_getElem? (i := 39) rfl)) (by decide) (by decide)) (g := (mkF m 102 #[.val (.ref a1), .val (.long q2), .second, .val (.long q3), .second] [(.long q3), (.long q2)])) rfl (by rw [hml]; rfl) (argsL := [(.long q2), (.long q3)]) (rest := []) (lenOf pd_1 rfl) rfl (by show 2 * 0 + _ ≤ _; exact Nat.le_of_eq rfl) (hb hby d24_102) (fun _ _ => ⟨rfl, e2, (by decide : 0 + 0 ≤ _), (by decide : 0 + 0 ≤ _)⟩)
  dsimp only [Pt.U, Pt.locs, Pt.cells, Pt.slots] at X5 l5 y5 z5 st5 hQ5
  subst l5 y5 z5
  obtain ⟨rfl, N5q, e5⟩ := hQ5
  have N5 := Fr.app N2 N5q
  have P6 : ∀ t, Steps p.tables e below (T5.setTop (mkF m 105 #[.val (.ref a1), .val (.long q2), .second, .val (.long q3), .second] [(.long (if q3 < q2 then q3 else q2))])) t → Steps p.tables e below (s₁.setTop (entryFrame m #[(.ref a1), (.long q2), (.long q3)] 5)) t := fun t k => P4 _ (st5 _ k)
  obtain ⟨fs, hr, hrun, hended, hW, hsame⟩ := X5.leave (v := some (.long (if q3 < q2 then q3 else q2))) (fun h => by rw [Bd.returns] at h; cases h)
  refine ⟨_, _, P6 _ ?_, hrun, hended, _, _, rfl, ?_, ⟨_, rfl⟩, hW, hsame.mono (by decide) (by decide)⟩
  · exact X5.lreturnOut hx Bd.returns (hb hby d24_105) hr
  · show Q24 Z a1 q2 q3 h0 n0 _ T5.heap _
    rw [e5]
    exact ⟨rfl, N5, rfl⟩
theorem pn_0 : plainName "com/example/millrace/millrace/plan/KindIsSetPinLaw" = true := by first | (simp [plainName, overriddenIn]; done) | decide +kernel
theorem ef_0 (m : MethodId) (x0 : Int32) (x1 : Int64) (x2 : Int64) : entryFrame m #[(.int x0), (.long x1), (.long x2)] maxLocals = mkF m 0 #[.val (.int x0), .val (.long x1), .second, .val (.long x2), .second, .unset, .unset, .unset, .unset, .unset, .unset, .unset, .unset, .unset, .unset, .unset, .unset] [] := by first | (simp [entryFrame, mkF, argsToLocals, Value.category, maxLocals]; done) | rfl
def Q0 (Z : State) (p1 : Int32) (q2 : Int64) (q3 : Int64) (w_DISTINCT : Addr) (w_EXCEPT : Addr) (w_EXCEPT_ALL : Addr) (w_INTERSECT : Addr) (w_INTERSECT_ALL : Addr) (h0 : Heap) (n0 : Nat) (v : Option Value) (h : Heap) (L : List Loc) : Prop := v = some (.int 1) ∧ Fr n0 L
set_option maxRecDepth 65536 in
set_option maxHeartbeats 40000000 in
theorem rm0 (l : Launch) (Z : State) (a0 : Array Value) (hw : ∀ d ∈ tables_1, d.before a0 Z = true) (ws : List Jvm.Cond) (p1 : Int32) (q2 : Int64) (q3 : Int64) (w_DISTINCT : Addr) (w_EXCEPT : Addr) (w_EXCEPT_ALL : Addr) (w_INTERSECT : Addr) (w_INTERSECT_ALL : Addr) (h0 : Heap) (n0 : Nat) (Z0 : n0 ≤ h0.size) (O0 : Old Z n0 h0) (S_DISTINCT : Sta Z Z.heap "com/example/millrace/millrace/plan/SetOperation$Kind" "DISTINCT" "Lcom/example/millrace/millrace/plan/SetOperation$Kind;" (.ref w_DISTINCT)) (S_EXCEPT : Sta Z Z.heap "com/example/millrace/millrace/plan/SetOperation$Kind" "EXCEPT" "Lcom/example/millrace/millrace/plan/SetOperation$Kind;" (.ref w_EXCEPT)) (S_EXCEPT_ALL : Sta Z Z.heap "com/example/millrace/millrace/plan/SetOperation$Kind" "EXCEPT_ALL" "Lcom/example/millrace/millrace/plan/SetOperation$Kind;" (.ref w_EXCEPT_ALL)) (S_INTERSECT : Sta Z Z.heap "com/example/millrace/millrace/plan/SetOperation$Kind" "INTERSECT" "Lcom/example/millrace/millrace/plan/SetOperation$Kind;" (.ref w_INTERSECT)) (S_INTERSECT_ALL : Sta Z Z.heap "com/example/millrace/millrace/plan/SetOperation$Kind" "INTERSECT_ALL" "Lcom/example/millrace/millrace/plan/SetOperation$Kind;" (.ref w_INTERSECT_ALL)) (E_DISTINCT : Exa Z Z.heap w_DISTINCT "com/example/millrace/millrace/plan/SetOperation$Kind") (E_EXCEPT : Exa Z Z.heap w_EXCEPT "com/example/millrace/millrace/plan/SetOperation$Kind") (E_EXCEPT_ALL : Exa Z Z.heap w_EXCEPT_ALL "com/example/millrace/millrace/plan/SetOperation$Kind") (E_INTERSECT : Exa Z Z.heap w_INTERSECT "com/example/millrace/millrace/plan/SetOperation$Kind") (E_INTERSECT_ALL : Exa Z Z.heap w_INTERSECT_ALL "com/example/millrace/millrace/plan/SetOperation$Kind") (O_DISTINCT : Fld Z Z.heap w_DISTINCT "java/lang/Enum" "ordinal" "I" (.int (0 : Int32))) (O_EXCEPT : Fld Z Z.heap w_EXCEPT "java/lang/Enum" "ordinal" "I" (.int (1 : Int32))) (O_EXCEPT_ALL : Fld Z Z.heap w_EXCEPT_ALL "java/lang/Enum" "ordinal" "I" (.int (2 : Int32))) (O_INTERSECT : Fld Z Z.heap w_INTERSECT "java/lang/Enum" "ordinal" "I" (.int (3 : Int32))) (O_INTERSECT_ALL : Fld Z Z.heap w_INTERSECT_ALL "java/lang/Enum" "ordinal" "I" (.int (4 : Int32))) :
    MetFree l x (head1 (Jvm.Cond.code x code maxLocals ret :: ws) room_1) (fun a U => a = #[(.int p1), (.long q2), (.long q3)] ∧ Z.Warmed39 U.vm ∧ U.heap = h0) (fun _ _ _ _ _ => True) (fun _ U o U' => ∃ v L, o = .returned v ∧ Q0 Z p1 q2 q3 w_DISTINCT w_EXCEPT w_EXCEPT_ALL w_INTERSECT w_INTERSECT_ALL h0 n0 v U'.heap L ∧ FrameEnd U o U' L room_1.cells room_1.slots) := by
  refine MetFree.of_bodySF (plainFor_of_name pn_0) hisR ?_
  intro p e s m args below meth c s₁ Bd hml0 hP hK
  obtain ⟨rfl, hZ, hh⟩ := hP
  have hx := Bd.exec
  have hby := Bd.bytes
  have hml : c.maxLocals = 17 := hml0
  have hown : s.vm.findClass "com/example/millrace/millrace/plan/KindIsSetPinLaw" = some m.cls := findClass_of_methodNamed Bd.named
  have hnm := (name_of_methodNamed Bd.named Bd.method).1
  have X0 : Stand p l e room_1 s m #[(.int p1), (.long q2), (.long q3)] below meth c s₁ [] 0 0 := Stand.of_body Bd
  have e0 : s₁.heap = h0 := by rw [← hh, Bd.state]; rfl
  have N0 := Fr.nil n0
  have K0 : Keep h0 h0 [] := Keep.refl _ _
  have P0 : ∀ t, Steps p.tables e below (s₁.setTop (mkF m 0 #[.val (.int p1), .val (.long q2), .second, .val (.long q3), .second, .unset, .unset, .unset, .unset, .unset, .unset, .unset, .unset, .unset, .unset, .unset, .unset] [])) t → Steps p.tables e below (s₁.setTop (entryFrame m #[(.int p1), (.long q2), (.long q3)] maxLocals)) t := fun t k => castTop (ef_0 m p1 q2 q3) k
  have P1 : ∀ t, Steps p.tables e below (s₁.setTop (mkF m 1 #[.val (.int p1), .val (.long q2), .second, .val (.long q3), .second, .unset, .unset, .unset, .unset, .unset, .unset, .unset, .unset, .unset, .unset, .unset, .unset] [(.int (5 : Int32))])) t → Steps p.tables e below (s₁.setTop (entryFrame m #[(.int p1), (.long q2), (.long q3)] maxLocals)) t := by
    intro t k
    refine P0 _ ?_
    refine XS.iconst X0.here hx rfl (hb hby at_0) ?_
    show Steps p.tables e below (s₁.setTop (mkF m 1 #[.val (.int p1), .val (.long q2), .second, .val (.long q3), .second, .unset, .unset, .unset, .unset, .unset, .unset, .unset, .unset, .unset, .unset, .unset, .unset] [(.int (5 : Int32))])) _
    exact k
  obtain ⟨T2, h2, k2, X2, e2, E2, A2, O2, st2⟩ := newR X0 hx hZ hown (hw _ (List.mem_of_getElem? (i := 0) rfl)) (hw _ (List.mem_of_getElem? (i := 1) rfl)) e0 (g := (mkF m 1 #[.val (.int p1), .val (.long q2), .second, .val (.long q3), .second, .unset, .unset, .unset, .unset, .unset, .unset, .unset, .unset, .unset, .unset, .unset, .unset] [(.int (5 : Int32))])) rfl (hb hby at_1) rfl (by decide) (cap := 5) (by decide) (by decide) (by decide) (by decide)
  obtain ⟨ba, g2⟩ : ∃ z, z = h0.size := ⟨_, rfl⟩
  rw [← g2] at A2 st2
  have F3 : Old Z n0 h2 := O0.ext E2
  obtain ⟨kc_ba, hkc_ba⟩ : ∃ z, z = k2 := ⟨_, rfl⟩
  rw [← hkc_ba] at A2 O2
  have ov_ba := O2
  have F4 : Arv Z h2 ba kc_ba (.object "com/example/millrace/millrace/plan/SetOperation$Kind") (5 : Int32) [.null, .null, .null, .null, .null] .null := (Arv.new A2 (by decide)).pad (pad_rep [] .null 5)
  have Z5 : n0 ≤ h2.size := Nat.le_trans Z0 E2.1
  have K6 : Keep h0 h2 [] := K0.ext E2
  have g_ba : n0 ≤ ba := Nat.le_trans Z0 (Nat.le_of_eq g2.symm)
  have sz_ba : h0.size ≤ ba := Nat.le_trans K0.1 (Nat.le_of_eq g2.symm)
  have P7 : ∀ t, Steps p.tables e below (T2.setTop (mkF m 4 #[.val (.int p1), .val (.long q2), .second, .val (.long q3), .second, .unset, .unset, .unset, .unset, .unset, .unset, .unset, .unset, .unset, .unset, .unset, .unset] [(.ref ba)])) t → Steps p.tables e below (s₁.setTop (entryFrame m #[(.int p1), (.long q2), (.long q3)] maxLocals)) t := fun t k => P1 _ (st2 _ k)
  have P8 : ∀ t, Steps p.tables e below (T2.setTop (mkF m 6 #[.val (.int p1), .val (.long q2), .second, .val (.long q3), .second, .unset, .unset, .unset, .unset, .unset, .unset, .unset, .unset, .unset, .unset, .unset, .unset] [(.int (0 : Int32)), (.ref ba), (.ref ba)])) t → Steps p.tables e below (s₁.setTop (entryFrame m #[(.int p1), (.long q2), (.long q3)] maxLocals)) t := by
    intro t k
    refine P7 _ ?_
    refine XS.dup X2.here hx rfl (hb hby at_4) rfl rfl ?_
    show Steps p.tables e below (T2.setTop (mkF m 5 #[.val (.int p1), .val (.long q2), .second, .val (.long q3), .second, .unset, .unset, .unset, .unset, .unset, .unset, .unset, .unset, .unset, .unset, .unset, .unset] [(.ref ba), (.ref ba)])) _
    refine XS.iconst X2.here hx rfl (hb hby at_5) ?_
    show Steps p.tables e below (T2.setTop (mkF m 6 #[.val (.int p1), .val (.long q2), .second, .val (.long q3), .second, .unset, .unset, .unset, .unset, .unset, .unset, .unset, .unset, .unset, .unset, .unset, .unset] [(.int (0 : Int32)), (.ref ba), (.ref ba)])) _
    exact k
  obtain ⟨T9, X9, e9, st9⟩ := getS2 X2 hx hZ hown (host := "") (Or.inl (hw _ (List.mem_of_getElem? (i := 2) rfl))) Via.refl e2 (S_DISTINCT.ext F3.2) (g := (mkF m 6 #[.val (.int p1), .val (.long q2), .second, .val (.long q3), .second, .unset, .unset, .unset, .unset, .unset, .unset, .unset, .unset, .unset, .unset, .unset, .unset] [(.int (0 : Int32)), (.ref ba), (.ref ba)])) rfl (hb hby at_6)
  have P10 : ∀ t, Steps p.tables e below (T9.setTop (mkF m 9 #[.val (.int p1), .val (.long q2), .second, .val (.long q3), .second, .unset, .unset, .unset, .unset, .unset, .unset, .unset, .unset, .unset, .unset, .unset, .unset] [(.ref w_DISTINCT), (.int (0 : Int32)), (.ref ba), (.ref ba)])) t → Steps p.tables e below (s₁.setTop (entryFrame m #[(.int p1), (.long q2), (.long q3)] maxLocals)) t := fun t k => P8 _ (st9 _ k)
  obtain ⟨cl11, Ar11, q11, S11, M11, H11, G11⟩ := F4
  have in11 : ¬ ((0 : Int32) < 0 ∨ cl11.slots.size ≤ ((0 : Int32)).toNatClampNeg) := inb_of S11 ⟨by decide, by decide⟩
  have so11 : Sto Z h2 ba (.ref w_DISTINCT) := Sto.ofV Ar11 q11 ov_ba (Ins.self (E_DISTINCT.ext F3.2))
  obtain ⟨T11, h11, X11, e11, W11, st11⟩ := stR X9 hx hZ e9 Ar11 (j := (0 : Int32)) in11 rfl so11 (g := (mkF m 9 #[.val (.int p1), .val (.long q2), .second, .val (.long q3), .second, .unset, .unset, .unset, .unset, .unset, .unset, .unset, .unset, .unset, .unset, .unset, .unset] [(.ref w_DISTINCT), (.int (0 : Int32)), (.ref ba), (.ref ba)])) rfl rfl (hb hby at_9)
  have F12 : Old Z n0 h11 := F3.wr W11 g_ba
  have F13 : Arv Z h11 ba kc_ba (.object "com/example/millrace/millrace/plan/SetOperation$Kind") (5 : Int32) [(.ref w_DISTINCT), .null, .null, .null, .null] .null := Arv.set Ar11 q11 S11 M11 H11 G11 rfl W11 0 rfl (Nat.le_of_ble_eq_true rfl)
  have Z14 : n0 ≤ h11.size := Nat.le_trans Z5 (Keep.of_wr W11).1
  have K15 : Keep h0 h11 [] := K6.wr W11 (Or.inr sz_ba)
  have N11 := Fr.snoc X11 N0 g_ba
  have P16 : ∀ t, Steps p.tables e below (T11.setTop (mkF m 10 #[.val (.int p1), .val (.long q2), .second, .val (.long q3), .second, .unset, .unset, .unset, .unset, .unset, .unset, .unset, .unset, .unset, .unset, .unset, .unset] [(.ref ba)])) t → Steps p.tables e below (s₁.setTop (entryFrame m #[(.int p1), (.long q2), (.long q3)] maxLocals)) t := fun t k => P10 _ (st11 _ k)
  have P17 : ∀ t, Steps p.tables e below (T11.setTop (mkF m 12 #[.val (.int p1), .val (.long q2), .second, .val (.long q3), .second, .unset, .unset, .unset, .unset, .unset, .unset, .unset, .unset, .unset, .unset, .unset, .unset] [(.int (1 : Int32)), (.ref ba), (.ref ba)])) t → Steps p.tables e below (s₁.setTop (entryFrame m #[(.int p1), (.long q2), (.long q3)] maxLocals)) t := by
    intro t k
    refine P16 _ ?_
    refine XS.dup X11.here hx rfl (hb hby at_10) rfl rfl ?_
    show Steps p.tables e below (T11.setTop (mkF m 11 #[.val (.int p1), .val (.long q2), .second, .val (.long q3), .second, .unset, .unset, .unset, .unset, .unset, .unset, .unset, .unset, .unset, .unset, .unset, .unset] [(.ref ba), (.ref ba)])) _
    refine XS.iconst X11.here hx rfl (hb hby at_11) ?_
    show Steps p.tables e below (T11.setTop (mkF m 12 #[.val (.int p1), .val (.long q2), .second, .val (.long q3), .second, .unset, .unset, .unset, .unset, .unset, .unset, .unset, .unset, .unset, .unset, .unset, .unset] [(.int (1 : Int32)), (.ref ba), (.ref ba)])) _
    exact k
  obtain ⟨T18, X18, e18, st18⟩ := getS2 X11 hx hZ hown (host := "") (Or.inl (hw _ (List.mem_of_getElem? (i := 6) rfl))) Via.refl e11 (S_EXCEPT.ext F12.2) (g := (mkF m 12 #[.val (.int p1), .val (.long q2), .second, .val (.long q3), .second, .unset, .unset, .unset, .unset, .unset, .unset, .unset, .unset, .unset, .unset, .unset, .unset] [(.int (1 : Int32)), (.ref ba), (.ref ba)])) rfl (hb hby at_12)
  have P19 : ∀ t, Steps p.tables e below (T18.setTop (mkF m 15 #[.val (.int p1), .val (.long q2), .second, .val (.long q3), .second, .unset, .unset, .unset, .unset, .unset, .unset, .unset, .unset, .unset, .unset, .unset, .unset] [(.ref w_EXCEPT), (.int (1 : Int32)), (.ref ba), (.ref ba)])) t → Steps p.tables e below (s₁.setTop (entryFrame m #[(.int p1), (.long q2), (.long q3)] maxLocals)) t := fun t k => P17 _ (st18 _ k)
  obtain ⟨cl20, Ar20, q20, S20, M20, H20, G20⟩ := F13
  have in20 : ¬ ((1 : Int32) < 0 ∨ cl20.slots.size ≤ ((1 : Int32)).toNatClampNeg) := inb_of S20 ⟨by decide, by decide⟩
  have so20 : Sto Z h11 ba (.ref w_EXCEPT) := Sto.ofV Ar20 q20 ov_ba (Ins.self (E_EXCEPT.ext F12.2))
  obtain ⟨T20, h20, X20, e20, W20, st20⟩ := stR X18 hx hZ e18 Ar20 (j := (1 : Int32)) in20 rfl so20 (g := (mkF m 15 #[.val (.int p1), .val (.long q2), .second, .val (.long q3), .second, .unset, .unset, .unset, .unset, .unset, .unset, .unset, .unset, .unset, .unset, .unset, .unset] [(.ref w_EXCEPT), (.int (1 : Int32)), (.ref ba), (.ref ba)])) rfl rfl (hb hby at_15)
  have F21 : Old Z n0 h20 := F12.wr W20 g_ba
  have F22 : Arv Z h20 ba kc_ba (.object "com/example/millrace/millrace/plan/SetOperation$Kind") (5 : Int32) [(.ref w_DISTINCT), (.ref w_EXCEPT), .null, .null, .null] .null := Arv.set Ar20 q20 S20 M20 H20 G20 rfl W20 1 rfl (Nat.le_of_ble_eq_true rfl)
  have Z23 : n0 ≤ h20.size := Nat.le_trans Z14 (Keep.of_wr W20).1
  have K24 : Keep h0 h20 [] := K15.wr W20 (Or.inr sz_ba)
  have N20 := Fr.snoc X20 N11 g_ba
  have P25 : ∀ t, Steps p.tables e below (T20.setTop (mkF m 16 #[.val (.int p1), .val (.long q2), .second, .val (.long q3), .second, .unset, .unset, .unset, .unset, .unset, .unset, .unset, .unset, .unset, .unset, .unset, .unset] [(.ref ba)])) t → Steps p.tables e below (s₁.setTop (entryFrame m #[(.int p1), (.long q2), (.long q3)] maxLocals)) t := fun t k => P19 _ (st20 _ k)
  have P26 : ∀ t, Steps p.tables e below (T20.setTop (mkF m 18 #[.val (.int p1), .val (.long q2), .second, .val (.long q3), .second, .unset, .unset, .unset, .unset, .unset, .unset, .unset, .unset, .unset, .unset, .unset, .unset] [(.int (2 : Int32)), (.ref ba), (.ref ba)])) t → Steps p.tables e below (s₁.setTop (entryFrame m #[(.int p1), (.long q2), (.long q3)] maxLocals)) t := by
    intro t k
    refine P25 _ ?_
    refine XS.dup X20.here hx rfl (hb hby at_16) rfl rfl ?_
    show Steps p.tables e below (T20.setTop (mkF m 17 #[.val (.int p1), .val (.long q2), .second, .val (.long q3), .second, .unset, .unset, .unset, .unset, .unset, .unset, .unset, .unset, .unset, .unset, .unset, .unset] [(.ref ba), (.ref ba)])) _
    refine XS.iconst X20.here hx rfl (hb hby at_17) ?_
    show Steps p.tables e below (T20.setTop (mkF m 18 #[.val (.int p1), .val (.long q2), .second, .val (.long q3), .second, .unset, .unset, .unset, .unset, .unset, .unset, .unset, .unset, .unset, .unset, .unset, .unset] [(.int (2 : Int32)), (.ref ba), (.ref ba)])) _
    exact k
  obtain ⟨T27, X27, e27, st27⟩ := getS2 X20 hx hZ hown (host := "") (Or.inl (hw _ (List.mem_of_getElem? (i := 8) rfl))) Via.refl e20 (S_EXCEPT_ALL.ext F21.2) (g := (mkF m 18 #[.val (.int p1), .val (.long q2), .second, .val (.long q3), .second, .unset, .unset, .unset, .unset, .unset, .unset, .unset, .unset, .unset, .unset, .unset, .unset] [(.int (2 : Int32)), (.ref ba), (.ref ba)])) rfl (hb hby at_18)
  have P28 : ∀ t, Steps p.tables e below (T27.setTop (mkF m 21 #[.val (.int p1), .val (.long q2), .second, .val (.long q3), .second, .unset, .unset, .unset, .unset, .unset, .unset, .unset, .unset, .unset, .unset, .unset, .unset] [(.ref w_EXCEPT_ALL), (.int (2 : Int32)), (.ref ba), (.ref ba)])) t → Steps p.tables e below (s₁.setTop (entryFrame m #[(.int p1), (.long q2), (.long q3)] maxLocals)) t := fun t k => P26 _ (st27 _ k)
  obtain ⟨cl29, Ar29, q29, S29, M29, H29, G29⟩ := F22
  have in29 : ¬ ((2 : Int32) < 0 ∨ cl29.slots.size ≤ ((2 : Int32)).toNatClampNeg) := inb_of S29 ⟨by decide, by decide⟩
  have so29 : Sto Z h20 ba (.ref w_EXCEPT_ALL) := Sto.ofV Ar29 q29 ov_ba (Ins.self (E_EXCEPT_ALL.ext F21.2))
  obtain ⟨T29, h29, X29, e29, W29, st29⟩ := stR X27 hx hZ e27 Ar29 (j := (2 : Int32)) in29 rfl so29 (g := (mkF m 21 #[.val (.int p1), .val (.long q2), .second, .val (.long q3), .second, .unset, .unset, .unset, .unset, .unset, .unset, .unset, .unset, .unset, .unset, .unset, .unset] [(.ref w_EXCEPT_ALL), (.int (2 : Int32)), (.ref ba), (.ref ba)])) rfl rfl (hb hby at_21)
  have F30 : Old Z n0 h29 := F21.wr W29 g_ba
  have F31 : Arv Z h29 ba kc_ba (.object "com/example/millrace/millrace/plan/SetOperation$Kind") (5 : Int32) [(.ref w_DISTINCT), (.ref w_EXCEPT), (.ref w_EXCEPT_ALL), .null, .null] .null := Arv.set Ar29 q29 S29 M29 H29 G29 rfl W29 2 rfl (Nat.le_of_ble_eq_true rfl)
  have Z32 : n0 ≤ h29.size := Nat.le_trans Z23 (Keep.of_wr W29).1
  have K33 : Keep h0 h29 [] := K24.wr W29 (Or.inr sz_ba)
  have N29 := Fr.snoc X29 N20 g_ba
  have P34 : ∀ t, Steps p.tables e below (T29.setTop (mkF m 22 #[.val (.int p1), .val (.long q2), .second, .val (.long q3), .second, .unset, .unset, .unset, .unset, .unset, .unset, .unset, .unset, .unset, .unset, .unset, .unset] [(.ref ba)])) t → Steps p.tables e below (s₁.setTop (entryFrame m #[(.int p1), (.long q2), (.long q3)] maxLocals)) t := fun t k => P28 _ (st29 _ k)
  have P35 : ∀ t, Steps p.tables e below (T29.setTop (mkF m 24 #[.val (.int p1), .val (.long q2), .second, .val (.long q3), .second, .unset, .unset, .unset, .unset, .unset, .unset, .unset, .unset, .unset, .unset, .unset, .unset] [(.int (3 : Int32)), (.ref ba), (.ref ba)])) t → Steps p.tables e below (s₁.setTop (entryFrame m #[(.int p1), (.long q2), (.long q3)] maxLocals)) t := by
    intro t k
    refine P34 _ ?_
    refine XS.dup X29.here hx rfl (hb hby at_22) rfl rfl ?_
    show Steps p.tables e below (T29.setTop (mkF m 23 #[.val (.int p1), .val (.long q2), .second, .val (.long q3), .second, .unset, .unset, .unset, .unset, .unset, .unset, .unset, .unset, .unset, .unset, .unset, .unset] [(.ref ba), (.ref ba)])) _
    refine XS.iconst X29.here hx rfl (hb hby at_23) ?_
    show Steps p.tables e below (T29.setTop (mkF m 24 #[.val (.int p1), .val (.long q2), .second, .val (.long q3), .second, .unset, .unset, .unset, .unset, .unset, .unset, .unset, .unset, .unset, .unset, .unset, .unset] [(.int (3 : Int32)), (.ref ba), (.ref ba)])) _
    exact k
  obtain ⟨T36, X36, e36, st36⟩ := getS2 X29 hx hZ hown (host := "") (Or.inl (hw _ (List.mem_of_getElem? (i := 10) rfl))) Via.refl e29 (S_INTERSECT.ext F30.2) (g := (mkF m 24 #[.val (.int p1), .val (.long q2), .second, .val (.long q3), .second, .unset, .unset, .unset, .unset, .unset, .unset, .unset, .unset, .unset, .unset, .unset, .unset] [(.int (3 : Int32)), (.ref ba), (.ref ba)])) rfl (hb hby at_24)
  have P37 : ∀ t, Steps p.tables e below (T36.setTop (mkF m 27 #[.val (.int p1), .val (.long q2), .second, .val (.long q3), .second, .unset, .unset, .unset, .unset, .unset, .unset, .unset, .unset, .unset, .unset, .unset, .unset] [(.ref w_INTERSECT), (.int (3 : Int32)), (.ref ba), (.ref ba)])) t → Steps p.tables e below (s₁.setTop (entryFrame m #[(.int p1), (.long q2), (.long q3)] maxLocals)) t := fun t k => P35 _ (st36 _ k)
  obtain ⟨cl38, Ar38, q38, S38, M38, H38, G38⟩ := F31
  have in38 : ¬ ((3 : Int32) < 0 ∨ cl38.slots.size ≤ ((3 : Int32)).toNatClampNeg) := inb_of S38 ⟨by decide, by decide⟩
  have so38 : Sto Z h29 ba (.ref w_INTERSECT) := Sto.ofV Ar38 q38 ov_ba (Ins.self (E_INTERSECT.ext F30.2))
  obtain ⟨T38, h38, X38, e38, W38, st38⟩ := stR X36 hx hZ e36 Ar38 (j := (3 : Int32)) in38 rfl so38 (g := (mkF m 27 #[.val (.int p1), .val (.long q2), .second, .val (.long q3), .second, .unset, .unset, .unset, .unset, .unset, .unset, .unset, .unset, .unset, .unset, .unset, .unset] [(.ref w_INTERSECT), (.int (3 : Int32)), (.ref ba), (.ref ba)])) rfl rfl (hb hby at_27)
  have F39 : Old Z n0 h38 := F30.wr W38 g_ba
  have F40 : Arv Z h38 ba kc_ba (.object "com/example/millrace/millrace/plan/SetOperation$Kind") (5 : Int32) [(.ref w_DISTINCT), (.ref w_EXCEPT), (.ref w_EXCEPT_ALL), (.ref w_INTERSECT), .null] .null := Arv.set Ar38 q38 S38 M38 H38 G38 rfl W38 3 rfl (Nat.le_of_ble_eq_true rfl)
  have Z41 : n0 ≤ h38.size := Nat.le_trans Z32 (Keep.of_wr W38).1
  have K42 : Keep h0 h38 [] := K33.wr W38 (Or.inr sz_ba)
  have N38 := Fr.snoc X38 N29 g_ba
  have P43 : ∀ t, Steps p.tables e below (T38.setTop (mkF m 28 #[.val (.int p1), .val (.long q2), .second, .val (.long q3), .second, .unset, .unset, .unset, .unset, .unset, .unset, .unset, .unset, .unset, .unset, .unset, .unset] [(.ref ba)])) t → Steps p.tables e below (s₁.setTop (entryFrame m #[(.int p1), (.long q2), (.long q3)] maxLocals)) t := fun t k => P37 _ (st38 _ k)
  have P44 : ∀ t, Steps p.tables e below (T38.setTop (mkF m 30 #[.val (.int p1), .val (.long q2), .second, .val (.long q3), .second, .unset, .unset, .unset, .unset, .unset, .unset, .unset, .unset, .unset, .unset, .unset, .unset] [(.int (4 : Int32)), (.ref ba), (.ref ba)])) t → Steps p.tables e below (s₁.setTop (entryFrame m #[(.int p1), (.long q2), (.long q3)] maxLocals)) t := by
    intro t k
    refine P43 _ ?_
    refine XS.dup X38.here hx rfl (hb hby at_28) rfl rfl ?_
    show Steps p.tables e below (T38.setTop (mkF m 29 #[.val (.int p1), .val (.long q2), .second, .val (.long q3), .second, .unset, .unset, .unset, .unset, .unset, .unset, .unset, .unset, .unset, .unset, .unset, .unset] [(.ref ba), (.ref ba)])) _
    refine XS.iconst X38.here hx rfl (hb hby at_29) ?_
    show Steps p.tables e below (T38.setTop (mkF m 30 #[.val (.int p1), .val (.long q2), .second, .val (.long q3), .second, .unset, .unset, .unset, .unset, .unset, .unset, .unset, .unset, .unset, .unset, .unset, .unset] [(.int (4 : Int32)), (.ref ba), (.ref ba)])) _
    exact k
  obtain ⟨T45, X45, e45, st45⟩ := getS2 X38 hx hZ hown (host := "") (Or.inl (hw _ (List.mem_of_getElem? (i := 12) rfl))) Via.refl e38 (S_INTERSECT_ALL.ext F39.2) (g := (mkF m 30 #[.val (.int p1), .val (.long q2), .second, .val (.long q3), .second, .unset, .unset, .unset, .unset, .unset, .unset, .unset, .unset, .unset, .unset, .unset, .unset] [(.int (4 : Int32)), (.ref ba), (.ref ba)])) rfl (hb hby at_30)
  have P46 : ∀ t, Steps p.tables e below (T45.setTop (mkF m 33 #[.val (.int p1), .val (.long q2), .second, .val (.long q3), .second, .unset, .unset, .unset, .unset, .unset, .unset, .unset, .unset, .unset, .unset, .unset, .unset] [(.ref w_INTERSECT_ALL), (.int (4 : Int32)), (.ref ba), (.ref ba)])) t → Steps p.tables e below (s₁.setTop (entryFrame m #[(.int p1), (.long q2), (.long q3)] maxLocals)) t := fun t k => P44 _ (st45 _ k)
  obtain ⟨cl47, Ar47, q47, S47, M47, H47, G47⟩ := F40
  have in47 : ¬ ((4 : Int32) < 0 ∨ cl47.slots.size ≤ ((4 : Int32)).toNatClampNeg) := inb_of S47 ⟨by decide, by decide⟩
  have so47 : Sto Z h38 ba (.ref w_INTERSECT_ALL) := Sto.ofV Ar47 q47 ov_ba (Ins.self (E_INTERSECT_ALL.ext F39.2))
  obtain ⟨T47, h47, X47, e47, W47, st47⟩ := stR X45 hx hZ e45 Ar47 (j := (4 : Int32)) in47 rfl so47 (g := (mkF m 33 #[.val (.int p1), .val (.long q2), .second, .val (.long q3), .second, .unset, .unset, .unset, .unset, .unset, .unset, .unset, .unset, .unset, .unset, .unset, .unset] [(.ref w_INTERSECT_ALL), (.int (4 : Int32)), (.ref ba), (.ref ba)])) rfl rfl (hb hby at_33)
  have F48 : Old Z n0 h47 := F39.wr W47 g_ba
  have F49 : Arv Z h47 ba kc_ba (.object "com/example/millrace/millrace/plan/SetOperation$Kind") (5 : Int32) [(.ref w_DISTINCT), (.ref w_EXCEPT), (.ref w_EXCEPT_ALL), (.ref w_INTERSECT), (.ref w_INTERSECT_ALL)] .null := Arv.set Ar47 q47 S47 M47 H47 G47 rfl W47 4 rfl (Nat.le_of_ble_eq_true rfl)
  have Z50 : n0 ≤ h47.size := Nat.le_trans Z41 (Keep.of_wr W47).1
  have K51 : Keep h0 h47 [] := K42.wr W47 (Or.inr sz_ba)
  have N47 := Fr.snoc X47 N38 g_ba
  have P52 : ∀ t, Steps p.tables e below (T47.setTop (mkF m 34 #[.val (.int p1), .val (.long q2), .second, .val (.long q3), .second, .unset, .unset, .unset, .unset, .unset, .unset, .unset, .unset, .unset, .unset, .unset, .unset] [(.ref ba)])) t → Steps p.tables e below (s₁.setTop (entryFrame m #[(.int p1), (.long q2), (.long q3)] maxLocals)) t := fun t k => P46 _ (st47 _ k)
  have P53 : ∀ t, Steps p.tables e below (T47.setTop (mkF m 44 #[.val (.int p1), .val (.long q2), .second, .val (.long q3), .second, .val (.ref ba), .unset, .unset, .unset, .unset, .unset, .unset, .unset, .unset, .unset, .unset, .unset] [(.int ((p1 &&& (2147483647 : Int32)) % (5 : Int32))), (.ref ba)])) t → Steps p.tables e below (s₁.setTop (entryFrame m #[(.int p1), (.long q2), (.long q3)] maxLocals)) t := by
    intro t k
    refine P52 _ ?_
    refine XS.astore X47.here hx rfl (hb hby at_34) rfl rfl (l' := #[.val (.int p1), .val (.long q2), .second, .val (.long q3), .second, .val (.ref ba), .unset, .unset, .unset, .unset, .unset, .unset, .unset, .unset, .unset, .unset, .unset]) rfl ?_
    show Steps p.tables e below (T47.setTop (mkF m 36 #[.val (.int p1), .val (.long q2), .second, .val (.long q3), .second, .val (.ref ba), .unset, .unset, .unset, .unset, .unset, .unset, .unset, .unset, .unset, .unset, .unset] [])) _
    refine XS.aload X47.here hx rfl (hb hby at_36) rfl rfl ?_
    show Steps p.tables e below (T47.setTop (mkF m 38 #[.val (.int p1), .val (.long q2), .second, .val (.long q3), .second, .val (.ref ba), .unset, .unset, .unset, .unset, .unset, .unset, .unset, .unset, .unset, .unset, .unset] [(.ref ba)])) _
    refine XS.iloadN X47.here hx rfl (hb hby at_38) rfl ?_
    show Steps p.tables e below (T47.setTop (mkF m 39 #[.val (.int p1), .val (.long q2), .second, .val (.long q3), .second, .val (.ref ba), .unset, .unset, .unset, .unset, .unset, .unset, .unset, .unset, .unset, .unset, .unset] [(.int p1), (.ref ba)])) _
    refine Jvm.Stand.ldcI X47 hx hown (mvT hZ (hw _ (List.mem_of_getElem? (i := 14) rfl))) rfl (hb hby at_39) ?_
    show Steps p.tables e below (T47.setTop (mkF m 41 #[.val (.int p1), .val (.long q2), .second, .val (.long q3), .second, .val (.ref ba), .unset, .unset, .unset, .unset, .unset, .unset, .unset, .unset, .unset, .unset, .unset] [(.int (2147483647 : Int32)), (.int p1), (.ref ba)])) _
    refine XS.iand X47.here hx rfl (hb hby at_41) rfl ?_
    show Steps p.tables e below (T47.setTop (mkF m 42 #[.val (.int p1), .val (.long q2), .second, .val (.long q3), .second, .val (.ref ba), .unset, .unset, .unset, .unset, .unset, .unset, .unset, .unset, .unset, .unset, .unset] [(.int (p1 &&& (2147483647 : Int32))), (.ref ba)])) _
    refine XS.iconst X47.here hx rfl (hb hby at_42) ?_
    show Steps p.tables e below (T47.setTop (mkF m 43 #[.val (.int p1), .val (.long q2), .second, .val (.long q3), .second, .val (.ref ba), .unset, .unset, .unset, .unset, .unset, .unset, .unset, .unset, .unset, .unset, .unset] [(.int (5 : Int32)), (.int (p1 &&& (2147483647 : Int32))), (.ref ba)])) _
    refine iremM X47 hx rfl (hb hby at_43) rfl (by decide) ?_
    show Steps p.tables e below (T47.setTop (mkF m 44 #[.val (.int p1), .val (.long q2), .second, .val (.long q3), .second, .val (.ref ba), .unset, .unset, .unset, .unset, .unset, .unset, .unset, .unset, .unset, .unset, .unset] [(.int ((p1 &&& (2147483647 : Int32)) % (5 : Int32))), (.ref ba)])) _
    exact k
  obtain ⟨kx, hkx⟩ : ∃ z : Int32, z = ((p1 &&& (2147483647 : Int32)) % (5 : Int32)) := ⟨_, rfl⟩
  rw [← hkx] at P53
  have hkr := own_rem hkx (by decide : (5 : Int32).toInt = 5) (by decide)
  clear hkx
  rcases own_5 hkr with rfl | rfl | rfl | rfl | rfl
  · skip
    have P54 : ∀ t, Steps p.tables e below (T47.setTop (mkF m 45 #[.val (.int p1), .val (.long q2), .second, .val (.long q3), .second, .val (.ref ba), .unset, .unset, .unset, .unset, .unset, .unset, .unset, .unset, .unset, .unset, .unset] [(.ref w_DISTINCT)])) t → Steps p.tables e below (s₁.setTop (entryFrame m #[(.int p1), (.long q2), (.long q3)] maxLocals)) t := by
      intro t k
      refine P53 _ ?_
      refine own_aal X47 hx hZ e47 F49 ⟨by decide, by decide⟩ (v := (.ref w_DISTINCT)) rfl rfl rfl (hb hby at_44) ?_
      show Steps p.tables e below (T47.setTop (mkF m 45 #[.val (.int p1), .val (.long q2), .second, .val (.long q3), .second, .val (.ref ba), .unset, .unset, .unset, .unset, .unset, .unset, .unset, .unset, .unset, .unset, .unset] [(.ref w_DISTINCT)])) _
      exact k
    have P55 : ∀ t, Steps p.tables e below (T47.setTop (mkF m 54 #[.val (.int p1), .val (.long q2), .second, .val (.long q3), .second, .val (.ref ba), .val (.ref w_DISTINCT), .val (.long (q2 &&& (9223372036854775807 : Int64))), .second, .unset, .unset, .unset, .unset, .unset, .unset, .unset, .unset] [])) t → Steps p.tables e below (s₁.setTop (entryFrame m #[(.int p1), (.long q2), (.long q3)] maxLocals)) t := by
      intro t k
      refine P54 _ ?_
      refine XS.astore X47.here hx rfl (hb hby at_45) rfl rfl (l' := #[.val (.int p1), .val (.long q2), .second, .val (.long q3), .second, .val (.ref ba), .val (.ref w_DISTINCT), .unset, .unset, .unset, .unset, .unset, .unset, .unset, .unset, .unset, .unset]) rfl ?_
      show Steps p.tables e below (T47.setTop (mkF m 47 #[.val (.int p1), .val (.long q2), .second, .val (.long q3), .second, .val (.ref ba), .val (.ref w_DISTINCT), .unset, .unset, .unset, .unset, .unset, .unset, .unset, .unset, .unset, .unset] [])) _
      refine XT.lloadN X47.here hx rfl (hb hby at_47) rfl ?_
      show Steps p.tables e below (T47.setTop (mkF m 48 #[.val (.int p1), .val (.long q2), .second, .val (.long q3), .second, .val (.ref ba), .val (.ref w_DISTINCT), .unset, .unset, .unset, .unset, .unset, .unset, .unset, .unset, .unset, .unset] [(.long q2)])) _
      refine Jvm.Stand.ldc2J X47 hx hown (mvT hZ (hw _ (List.mem_of_getElem? (i := 15) rfl))) rfl (hb hby at_48) ?_
      show Steps p.tables e below (T47.setTop (mkF m 51 #[.val (.int p1), .val (.long q2), .second, .val (.long q3), .second, .val (.ref ba), .val (.ref w_DISTINCT), .unset, .unset, .unset, .unset, .unset, .unset, .unset, .unset, .unset, .unset] [(.long (9223372036854775807 : Int64)), (.long q2)])) _
      refine XT.land X47.here hx rfl (hb hby at_51) rfl ?_
      show Steps p.tables e below (T47.setTop (mkF m 52 #[.val (.int p1), .val (.long q2), .second, .val (.long q3), .second, .val (.ref ba), .val (.ref w_DISTINCT), .unset, .unset, .unset, .unset, .unset, .unset, .unset, .unset, .unset, .unset] [(.long (q2 &&& (9223372036854775807 : Int64)))])) _
      refine XT.lstore X47.here hx rfl (hb hby at_52) rfl (l' := #[.val (.int p1), .val (.long q2), .second, .val (.long q3), .second, .val (.ref ba), .val (.ref w_DISTINCT), .val (.long (q2 &&& (9223372036854775807 : Int64))), .second, .unset, .unset, .unset, .unset, .unset, .unset, .unset, .unset]) rfl ?_
      show Steps p.tables e below (T47.setTop (mkF m 54 #[.val (.int p1), .val (.long q2), .second, .val (.long q3), .second, .val (.ref ba), .val (.ref w_DISTINCT), .val (.long (q2 &&& (9223372036854775807 : Int64))), .second, .unset, .unset, .unset, .unset, .unset, .unset, .unset, .unset] [])) _
      exact k
    obtain ⟨lf, hlf⟩ : ∃ z : Int64, z = (q2 &&& (9223372036854775807 : Int64)) := ⟨_, rfl⟩
    rw [← hlf] at P55
    have hl0 := own_nn hlf
    have P56 : ∀ t, Steps p.tables e below (T47.setTop (mkF m 61 #[.val (.int p1), .val (.long q2), .second, .val (.long q3), .second, .val (.ref ba), .val (.ref w_DISTINCT), .val (.long lf), .second, .val (.long (q3 &&& (9223372036854775807 : Int64))), .second, .unset, .unset, .unset, .unset, .unset, .unset] [])) t → Steps p.tables e below (s₁.setTop (entryFrame m #[(.int p1), (.long q2), (.long q3)] maxLocals)) t := by
      intro t k
      refine P55 _ ?_
      refine XT.lloadN X47.here hx rfl (hb hby at_54) rfl ?_
      show Steps p.tables e below (T47.setTop (mkF m 55 #[.val (.int p1), .val (.long q2), .second, .val (.long q3), .second, .val (.ref ba), .val (.ref w_DISTINCT), .val (.long lf), .second, .unset, .unset, .unset, .unset, .unset, .unset, .unset, .unset] [(.long q3)])) _
      refine Jvm.Stand.ldc2J X47 hx hown (mvT hZ (hw _ (List.mem_of_getElem? (i := 15) rfl))) rfl (hb hby at_55) ?_
      show Steps p.tables e below (T47.setTop (mkF m 58 #[.val (.int p1), .val (.long q2), .second, .val (.long q3), .second, .val (.ref ba), .val (.ref w_DISTINCT), .val (.long lf), .second, .unset, .unset, .unset, .unset, .unset, .unset, .unset, .unset] [(.long (9223372036854775807 : Int64)), (.long q3)])) _
      refine XT.land X47.here hx rfl (hb hby at_58) rfl ?_
      show Steps p.tables e below (T47.setTop (mkF m 59 #[.val (.int p1), .val (.long q2), .second, .val (.long q3), .second, .val (.ref ba), .val (.ref w_DISTINCT), .val (.long lf), .second, .unset, .unset, .unset, .unset, .unset, .unset, .unset, .unset] [(.long (q3 &&& (9223372036854775807 : Int64)))])) _
      refine XT.lstore X47.here hx rfl (hb hby at_59) rfl (l' := #[.val (.int p1), .val (.long q2), .second, .val (.long q3), .second, .val (.ref ba), .val (.ref w_DISTINCT), .val (.long lf), .second, .val (.long (q3 &&& (9223372036854775807 : Int64))), .second, .unset, .unset, .unset, .unset, .unset, .unset]) rfl ?_
      show Steps p.tables e below (T47.setTop (mkF m 61 #[.val (.int p1), .val (.long q2), .second, .val (.long q3), .second, .val (.ref ba), .val (.ref w_DISTINCT), .val (.long lf), .second, .val (.long (q3 &&& (9223372036854775807 : Int64))), .second, .unset, .unset, .unset, .unset, .unset, .unset] [])) _
      exact k
    obtain ⟨rg, hrg⟩ : ∃ z : Int64, z = (q3 &&& (9223372036854775807 : Int64)) := ⟨_, rfl⟩
    rw [← hrg] at P56
    have hr0 := own_nn hrg
    have P57 : ∀ t, Steps p.tables e below (T47.setTop (mkF m 63 #[.val (.int p1), .val (.long q2), .second, .val (.long q3), .second, .val (.ref ba), .val (.ref w_DISTINCT), .val (.long lf), .second, .val (.long rg), .second, .unset, .unset, .unset, .unset, .unset, .unset] [(.ref w_DISTINCT)])) t → Steps p.tables e below (s₁.setTop (entryFrame m #[(.int p1), (.long q2), (.long q3)] maxLocals)) t := by
      intro t k
      refine P56 _ ?_
      refine XS.aload X47.here hx rfl (hb hby at_61) rfl rfl ?_
      show Steps p.tables e below (T47.setTop (mkF m 63 #[.val (.int p1), .val (.long q2), .second, .val (.long q3), .second, .val (.ref ba), .val (.ref w_DISTINCT), .val (.long lf), .second, .val (.long rg), .second, .unset, .unset, .unset, .unset, .unset, .unset] [(.ref w_DISTINCT)])) _
      exact k
    obtain ⟨cq58, kq58, qa58, qb58, qc58⟩ := isOf hZ e47 (E_DISTINCT.ext F48.2)
    obtain ⟨_, _, ⟨T58, L58, k58, n58⟩, -, X58, ⟨Lc58, hQ58, l58, y58, z58⟩, st58⟩ := X47.virtualBack hx (y := (⟨"com/example/millrace/millrace/plan/SetOperation$Kind", "isSet", "()Z"⟩ : MethodName)) (z := (⟨"com/example/millrace/millrace/plan/SetOperation$Kind", "isSet", "()Z"⟩ : MethodName)) hown (mvT hZ (hw _ (List.mem_of_getElem? (i := 16) rfl))) (mvT hZ (hw _ (List.mem_of_getElem? (i := 17) rfl))) (notFace_of_selects (args := #[]) (mvT hZ (hw _ (List.mem_of_getElem? (i := 19) rfl)))) (mvT hZ (hw _ (List.mem_of_getElem? (i := 19) rfl))) (mvT hZ (hw _ (List.mem_of_getElem? (i := 18) rfl))) (by decide) (backOf (W := 0) (rm4 l Z a0 hw [] w_DISTINCT w_DISTINCT w_EXCEPT w_INTERSECT h47 n0 Z50 (S_DISTINCT.ext F48.2) (S_EXCEPT.ext F48.2) (S_INTERSECT.ext F48.2)) hZ (hw _ (List.mem_of_getElem? (i := 20) rfl)) (hw _ (List.mem_of_getElem? (i := 3) rfl)) (by decide) (by decide)) qa58 qc58 (g := (mkF m 63 #[.val (.int p1), .val (.long q2), .second, .val (.long q3), .second, .val (.ref ba), .val (.ref w_DISTINCT), .val (.long lf), .second, .val (.long rg), .second, .unset, .unset, .unset, .unset, .unset, .unset] [(.ref w_DISTINCT)])) rfl (by rw [hml]; rfl) (Steps.refl _) (argsL := []) (rest := []) (lenOf pd_2 rfl) rfl (by show 2 * 0 + _ ≤ _; exact Nat.le_of_eq rfl) (hb hby at_63) (fun _ _ => ⟨rfl, e47, (by decide : 1 + 0 ≤ _), (by decide : 5 + 0 ≤ _)⟩)
    dsimp only [Pt.U, Pt.locs, Pt.cells, Pt.slots] at X58 l58 y58 z58 st58 hQ58
    subst l58 y58 z58
    obtain ⟨rfl, N58q, e58⟩ := hQ58
    have N58 := Fr.app N47 N58q
    have P59 : ∀ t, Steps p.tables e below (T58.setTop (mkF m 66 #[.val (.int p1), .val (.long q2), .second, .val (.long q3), .second, .val (.ref ba), .val (.ref w_DISTINCT), .val (.long lf), .second, .val (.long rg), .second, .unset, .unset, .unset, .unset, .unset, .unset] [(.int (if w_DISTINCT = w_DISTINCT then (1 : Int32) else (if w_DISTINCT = w_EXCEPT then (1 : Int32) else (if w_DISTINCT = w_INTERSECT then (1 : Int32) else (0 : Int32)))))])) t → Steps p.tables e below (s₁.setTop (entryFrame m #[(.int p1), (.long q2), (.long q3)] maxLocals)) t := fun t k => P57 _ (st58.trans k)
    obtain ⟨r1, hr1⟩ : ∃ z : Int32, z = (if w_DISTINCT = w_DISTINCT then (1 : Int32) else (if w_DISTINCT = w_EXCEPT then (1 : Int32) else (if w_DISTINCT = w_INTERSECT then (1 : Int32) else (0 : Int32)))) := ⟨_, rfl⟩
    rw [← hr1] at P59
    have r1e : r1 = (1 : Int32) := by rw [hr1, if_pos rfl]
    have P60 : ∀ t, Steps p.tables e below (T58.setTop (mkF m 74 #[.val (.int p1), .val (.long q2), .second, .val (.long q3), .second, .val (.ref ba), .val (.ref w_DISTINCT), .val (.long lf), .second, .val (.long rg), .second, .val (.int r1), .unset, .unset, .unset, .unset, .unset] [(.long (0 : Int64)), (.long (2 : Int64)), (.ref w_DISTINCT)])) t → Steps p.tables e below (s₁.setTop (entryFrame m #[(.int p1), (.long q2), (.long q3)] maxLocals)) t := by
      intro t k
      refine P59 _ ?_
      refine XS.istore X58.here hx rfl (hb hby at_66) rfl (l' := #[.val (.int p1), .val (.long q2), .second, .val (.long q3), .second, .val (.ref ba), .val (.ref w_DISTINCT), .val (.long lf), .second, .val (.long rg), .second, .val (.int r1), .unset, .unset, .unset, .unset, .unset]) rfl ?_
      show Steps p.tables e below (T58.setTop (mkF m 68 #[.val (.int p1), .val (.long q2), .second, .val (.long q3), .second, .val (.ref ba), .val (.ref w_DISTINCT), .val (.long lf), .second, .val (.long rg), .second, .val (.int r1), .unset, .unset, .unset, .unset, .unset] [])) _
      refine XS.aload X58.here hx rfl (hb hby at_68) rfl rfl ?_
      show Steps p.tables e below (T58.setTop (mkF m 70 #[.val (.int p1), .val (.long q2), .second, .val (.long q3), .second, .val (.ref ba), .val (.ref w_DISTINCT), .val (.long lf), .second, .val (.long rg), .second, .val (.int r1), .unset, .unset, .unset, .unset, .unset] [(.ref w_DISTINCT)])) _
      refine Jvm.Stand.ldc2J X58 hx hown (mvT hZ (hw _ (List.mem_of_getElem? (i := 22) rfl))) rfl (hb hby at_70) ?_
      show Steps p.tables e below (T58.setTop (mkF m 73 #[.val (.int p1), .val (.long q2), .second, .val (.long q3), .second, .val (.ref ba), .val (.ref w_DISTINCT), .val (.long lf), .second, .val (.long rg), .second, .val (.int r1), .unset, .unset, .unset, .unset, .unset] [(.long (2 : Int64)), (.ref w_DISTINCT)])) _
      refine XT.lconst X58.here hx rfl (hb hby at_73) ?_
      show Steps p.tables e below (T58.setTop (mkF m 74 #[.val (.int p1), .val (.long q2), .second, .val (.long q3), .second, .val (.ref ba), .val (.ref w_DISTINCT), .val (.long lf), .second, .val (.long rg), .second, .val (.int r1), .unset, .unset, .unset, .unset, .unset] [(.long (0 : Int64)), (.long (2 : Int64)), (.ref w_DISTINCT)])) _
      exact k
    obtain ⟨cq61, kq61, qa61, qb61, qc61⟩ := isOf hZ e58 (E_DISTINCT.ext F48.2)
    obtain ⟨_, _, ⟨T61, L61, k61, n61⟩, -, X61, ⟨Lc61, hQ61, l61, y61, z61⟩, st61⟩ := X58.virtualBack hx (y := (⟨"com/example/millrace/millrace/plan/SetOperation$Kind", "copies", "(JJ)J"⟩ : MethodName)) (z := (⟨"com/example/millrace/millrace/plan/SetOperation$Kind", "copies", "(JJ)J"⟩ : MethodName)) hown (mvT hZ (hw _ (List.mem_of_getElem? (i := 23) rfl))) (mvT hZ (hw _ (List.mem_of_getElem? (i := 24) rfl))) (notFace_of_selects (args := #[]) (mvT hZ (hw _ (List.mem_of_getElem? (i := 26) rfl)))) (mvT hZ (hw _ (List.mem_of_getElem? (i := 26) rfl))) (mvT hZ (hw _ (List.mem_of_getElem? (i := 25) rfl))) (by decide) (backOf (W := 0) (rm20 l Z a0 hw [] w_DISTINCT (2 : Int64) (0 : Int64)  h47 n0 Z50 (E_DISTINCT.ext F48.2) (O_DISTINCT.ext F48.2)) hZ (hw _ (List.mem_of_getElem? (i := 27) rfl)) (hw _ (List.mem_of_getElem? (i := 3) rfl)) (by decide) (by decide)) qa61 qc61 (g := (mkF m 74 #[.val (.int p1), .val (.long q2), .second, .val (.long q3), .second, .val (.ref ba), .val (.ref w_DISTINCT), .val (.long lf), .second, .val (.long rg), .second, .val (.int r1), .unset, .unset, .unset, .unset, .unset] [(.long (0 : Int64)), (.long (2 : Int64)), (.ref w_DISTINCT)])) rfl (by rw [hml]; rfl) (Steps.refl _) (argsL := [(.long (2 : Int64)), (.long (0 : Int64))]) (rest := []) (lenOf pd_1 rfl) rfl (by show 2 * 0 + _ ≤ _; exact Nat.le_of_eq rfl) (hb hby at_74) (fun _ _ => ⟨rfl, e58, (by decide : 1 + 0 ≤ _), (by decide : 5 + 0 ≤ _)⟩)
    dsimp only [Pt.U, Pt.locs, Pt.cells, Pt.slots] at X61 l61 y61 z61 st61 hQ61
    subst l61 y61 z61
    obtain ⟨rfl, N61q, e61⟩ := hQ61
    have N61 := Fr.app N58 N61q
    have P62 : ∀ t, Steps p.tables e below (T61.setTop (mkF m 77 #[.val (.int p1), .val (.long q2), .second, .val (.long q3), .second, .val (.ref ba), .val (.ref w_DISTINCT), .val (.long lf), .second, .val (.long rg), .second, .val (.int r1), .unset, .unset, .unset, .unset, .unset] [(.long (if (1 : Int64) < (2 : Int64) then (1 : Int64) else (2 : Int64)))])) t → Steps p.tables e below (s₁.setTop (entryFrame m #[(.int p1), (.long q2), (.long q3)] maxLocals)) t := fun t k => P60 _ (st61.trans k)
    have P63 : ∀ t, Steps p.tables e below (T61.setTop (mkF m 90 #[.val (.int p1), .val (.long q2), .second, .val (.long q3), .second, .val (.ref ba), .val (.ref w_DISTINCT), .val (.long lf), .second, .val (.long rg), .second, .val (.int r1), .unset, .unset, .unset, .unset, .unset] [(.long (2 : Int64)), (.long (2 : Int64)), (.ref w_DISTINCT)])) t → Steps p.tables e below (s₁.setTop (entryFrame m #[(.int p1), (.long q2), (.long q3)] maxLocals)) t := by
      intro t k
      refine P62 _ ?_
      refine XT.lconst X61.here hx rfl (hb hby at_77) ?_
      show Steps p.tables e below (T61.setTop (mkF m 78 #[.val (.int p1), .val (.long q2), .second, .val (.long q3), .second, .val (.ref ba), .val (.ref w_DISTINCT), .val (.long lf), .second, .val (.long rg), .second, .val (.int r1), .unset, .unset, .unset, .unset, .unset] [(.long (1 : Int64)), (.long (if (1 : Int64) < (2 : Int64) then (1 : Int64) else (2 : Int64)))])) _
      refine XT.lcmp X61.here hx rfl (hb hby at_78) rfl ?_
      show Steps p.tables e below (T61.setTop (mkF m 79 #[.val (.int p1), .val (.long q2), .second, .val (.long q3), .second, .val (.ref ba), .val (.ref w_DISTINCT), .val (.long lf), .second, .val (.long rg), .second, .val (.int r1), .unset, .unset, .unset, .unset, .unset] [(.int (XT.cmpL (if (1 : Int64) < (2 : Int64) then (1 : Int64) else (2 : Int64)) (1 : Int64)))])) _
      refine XS.ifNo X61.here hx rfl (hb hby at_79) rfl (XT.ll_gt_f (by decide)) ?_
      show Steps p.tables e below (T61.setTop (mkF m 82 #[.val (.int p1), .val (.long q2), .second, .val (.long q3), .second, .val (.ref ba), .val (.ref w_DISTINCT), .val (.long lf), .second, .val (.long rg), .second, .val (.int r1), .unset, .unset, .unset, .unset, .unset] [])) _
      refine XS.aload X61.here hx rfl (hb hby at_82) rfl rfl ?_
      show Steps p.tables e below (T61.setTop (mkF m 84 #[.val (.int p1), .val (.long q2), .second, .val (.long q3), .second, .val (.ref ba), .val (.ref w_DISTINCT), .val (.long lf), .second, .val (.long rg), .second, .val (.int r1), .unset, .unset, .unset, .unset, .unset] [(.ref w_DISTINCT)])) _
      refine Jvm.Stand.ldc2J X61 hx hown (mvT hZ (hw _ (List.mem_of_getElem? (i := 22) rfl))) rfl (hb hby at_84) ?_
      show Steps p.tables e below (T61.setTop (mkF m 87 #[.val (.int p1), .val (.long q2), .second, .val (.long q3), .second, .val (.ref ba), .val (.ref w_DISTINCT), .val (.long lf), .second, .val (.long rg), .second, .val (.int r1), .unset, .unset, .unset, .unset, .unset] [(.long (2 : Int64)), (.ref w_DISTINCT)])) _
      refine Jvm.Stand.ldc2J X61 hx hown (mvT hZ (hw _ (List.mem_of_getElem? (i := 22) rfl))) rfl (hb hby at_87) ?_
      show Steps p.tables e below (T61.setTop (mkF m 90 #[.val (.int p1), .val (.long q2), .second, .val (.long q3), .second, .val (.ref ba), .val (.ref w_DISTINCT), .val (.long lf), .second, .val (.long rg), .second, .val (.int r1), .unset, .unset, .unset, .unset, .unset] [(.long (2 : Int64)), (.long (2 : Int64)), (.ref w_DISTINCT)])) _
      exact k
    obtain ⟨cq64, kq64, qa64, qb64, qc64⟩ := isOf hZ e61 (E_DISTINCT.ext F48.2)
    obtain ⟨_, _, ⟨T64, L64, k64, n64⟩, -, X64, ⟨Lc64, hQ64, l64, y64, z64⟩, st64⟩ := X61.virtualBack hx (y := (⟨"com/example/millrace/millrace/plan/SetOperation$Kind", "copies", "(JJ)J"⟩ : MethodName)) (z := (⟨"com/example/millrace/millrace/plan/SetOperation$Kind", "copies", "(JJ)J"⟩ : MethodName)) hown (mvT hZ (hw _ (List.mem_of_getElem? (i := 23) rfl))) (mvT hZ (hw _ (List.mem_of_getElem? (i := 24) rfl))) (notFace_of_selects (args := #[]) (mvT hZ (hw _ (List.mem_of_getElem? (i := 26) rfl)))) (mvT hZ (hw _ (List.mem_of_getElem? (i := 26) rfl))) (mvT hZ (hw _ (List.mem_of_getElem? (i := 25) rfl))) (by decide) (backOf (W := 0) (rm20 l Z a0 hw [] w_DISTINCT (2 : Int64) (2 : Int64)  h47 n0 Z50 (E_DISTINCT.ext F48.2) (O_DISTINCT.ext F48.2)) hZ (hw _ (List.mem_of_getElem? (i := 27) rfl)) (hw _ (List.mem_of_getElem? (i := 3) rfl)) (by decide) (by decide)) qa64 qc64 (g := (mkF m 90 #[.val (.int p1), .val (.long q2), .second, .val (.long q3), .second, .val (.ref ba), .val (.ref w_DISTINCT), .val (.long lf), .second, .val (.long rg), .second, .val (.int r1), .unset, .unset, .unset, .unset, .unset] [(.long (2 : Int64)), (.long (2 : Int64)), (.ref w_DISTINCT)])) rfl (by rw [hml]; rfl) (Steps.refl _) (argsL := [(.long (2 : Int64)), (.long (2 : Int64))]) (rest := []) (lenOf pd_1 rfl) rfl (by show 2 * 0 + _ ≤ _; exact Nat.le_of_eq rfl) (hb hby at_90) (fun _ _ => ⟨rfl, e61, (by decide : 1 + 0 ≤ _), (by decide : 5 + 0 ≤ _)⟩)
    dsimp only [Pt.U, Pt.locs, Pt.cells, Pt.slots] at X64 l64 y64 z64 st64 hQ64
    subst l64 y64 z64
    obtain ⟨rfl, N64q, e64⟩ := hQ64
    have N64 := Fr.app N61 N64q
    have P65 : ∀ t, Steps p.tables e below (T64.setTop (mkF m 93 #[.val (.int p1), .val (.long q2), .second, .val (.long q3), .second, .val (.ref ba), .val (.ref w_DISTINCT), .val (.long lf), .second, .val (.long rg), .second, .val (.int r1), .unset, .unset, .unset, .unset, .unset] [(.long (if (1 : Int64) < (2 : Int64) then (1 : Int64) else (2 : Int64)))])) t → Steps p.tables e below (s₁.setTop (entryFrame m #[(.int p1), (.long q2), (.long q3)] maxLocals)) t := fun t k => P63 _ (st64.trans k)
    have P66 : ∀ t, Steps p.tables e below (T64.setTop (mkF m 127 #[.val (.int p1), .val (.long q2), .second, .val (.long q3), .second, .val (.ref ba), .val (.ref w_DISTINCT), .val (.long lf), .second, .val (.long rg), .second, .val (.int r1), .val (.int (1 : Int32)), .unset, .unset, .unset, .unset] [(.long rg), (.long lf), (.ref w_DISTINCT)])) t → Steps p.tables e below (s₁.setTop (entryFrame m #[(.int p1), (.long q2), (.long q3)] maxLocals)) t := by
      intro t k
      refine P65 _ ?_
      refine XT.lconst X64.here hx rfl (hb hby at_93) ?_
      show Steps p.tables e below (T64.setTop (mkF m 94 #[.val (.int p1), .val (.long q2), .second, .val (.long q3), .second, .val (.ref ba), .val (.ref w_DISTINCT), .val (.long lf), .second, .val (.long rg), .second, .val (.int r1), .unset, .unset, .unset, .unset, .unset] [(.long (1 : Int64)), (.long (if (1 : Int64) < (2 : Int64) then (1 : Int64) else (2 : Int64)))])) _
      refine XT.lcmp X64.here hx rfl (hb hby at_94) rfl ?_
      show Steps p.tables e below (T64.setTop (mkF m 95 #[.val (.int p1), .val (.long q2), .second, .val (.long q3), .second, .val (.ref ba), .val (.ref w_DISTINCT), .val (.long lf), .second, .val (.long rg), .second, .val (.int r1), .unset, .unset, .unset, .unset, .unset] [(.int (XT.cmpL (if (1 : Int64) < (2 : Int64) then (1 : Int64) else (2 : Int64)) (1 : Int64)))])) _
      refine XS.ifNo X64.here hx rfl (hb hby at_95) rfl (XT.ll_gt_f (by decide)) ?_
      show Steps p.tables e below (T64.setTop (mkF m 98 #[.val (.int p1), .val (.long q2), .second, .val (.long q3), .second, .val (.ref ba), .val (.ref w_DISTINCT), .val (.long lf), .second, .val (.long rg), .second, .val (.int r1), .unset, .unset, .unset, .unset, .unset] [])) _
      refine XS.iconst X64.here hx rfl (hb hby at_98) ?_
      show Steps p.tables e below (T64.setTop (mkF m 99 #[.val (.int p1), .val (.long q2), .second, .val (.long q3), .second, .val (.ref ba), .val (.ref w_DISTINCT), .val (.long lf), .second, .val (.long rg), .second, .val (.int r1), .unset, .unset, .unset, .unset, .unset] [(.int (1 : Int32))])) _
      refine XS.goto X64.here hx rfl (pc0 := 99) (pc' := 103) rfl (hb hby at_99) (by decide) (by decide) ?_
      show Steps p.tables e below (T64.setTop (mkF m 103 #[.val (.int p1), .val (.long q2), .second, .val (.long q3), .second, .val (.ref ba), .val (.ref w_DISTINCT), .val (.long lf), .second, .val (.long rg), .second, .val (.int r1), .unset, .unset, .unset, .unset, .unset] [(.int (1 : Int32))])) _
      refine XS.istore X64.here hx rfl (hb hby at_103) rfl (l' := #[.val (.int p1), .val (.long q2), .second, .val (.long q3), .second, .val (.ref ba), .val (.ref w_DISTINCT), .val (.long lf), .second, .val (.long rg), .second, .val (.int r1), .val (.int (1 : Int32)), .unset, .unset, .unset, .unset]) rfl ?_
      show Steps p.tables e below (T64.setTop (mkF m 105 #[.val (.int p1), .val (.long q2), .second, .val (.long q3), .second, .val (.ref ba), .val (.ref w_DISTINCT), .val (.long lf), .second, .val (.long rg), .second, .val (.int r1), .val (.int (1 : Int32)), .unset, .unset, .unset, .unset] [])) _
      refine XS.iload X64.here hx rfl (hb hby at_105) rfl ?_
      show Steps p.tables e below (T64.setTop (mkF m 107 #[.val (.int p1), .val (.long q2), .second, .val (.long q3), .second, .val (.ref ba), .val (.ref w_DISTINCT), .val (.long lf), .second, .val (.long rg), .second, .val (.int r1), .val (.int (1 : Int32)), .unset, .unset, .unset, .unset] [(.int r1)])) _
      refine XS.iload X64.here hx rfl (hb hby at_107) rfl ?_
      show Steps p.tables e below (T64.setTop (mkF m 109 #[.val (.int p1), .val (.long q2), .second, .val (.long q3), .second, .val (.ref ba), .val (.ref w_DISTINCT), .val (.long lf), .second, .val (.long rg), .second, .val (.int r1), .val (.int (1 : Int32)), .unset, .unset, .unset, .unset] [(.int (1 : Int32)), (.int r1)])) _
      refine XS.icmpYes X64.here hx rfl (pc0 := 109) (pc' := 114) rfl (hb hby at_109) rfl (XT.ii_eq_t r1e) (by decide) (by decide) ?_
      show Steps p.tables e below (T64.setTop (mkF m 114 #[.val (.int p1), .val (.long q2), .second, .val (.long q3), .second, .val (.ref ba), .val (.ref w_DISTINCT), .val (.long lf), .second, .val (.long rg), .second, .val (.int r1), .val (.int (1 : Int32)), .unset, .unset, .unset, .unset] [])) _
      refine XS.iload X64.here hx rfl (hb hby at_114) rfl ?_
      show Steps p.tables e below (T64.setTop (mkF m 116 #[.val (.int p1), .val (.long q2), .second, .val (.long q3), .second, .val (.ref ba), .val (.ref w_DISTINCT), .val (.long lf), .second, .val (.long rg), .second, .val (.int r1), .val (.int (1 : Int32)), .unset, .unset, .unset, .unset] [(.int r1)])) _
      refine XS.ifYes X64.here hx rfl (pc0 := 116) (pc' := 121) rfl (hb hby at_116) rfl (XT.i0_ne_t (by rw [r1e]; decide)) (by decide) (by decide) ?_
      show Steps p.tables e below (T64.setTop (mkF m 121 #[.val (.int p1), .val (.long q2), .second, .val (.long q3), .second, .val (.ref ba), .val (.ref w_DISTINCT), .val (.long lf), .second, .val (.long rg), .second, .val (.int r1), .val (.int (1 : Int32)), .unset, .unset, .unset, .unset] [])) _
      refine XS.aload X64.here hx rfl (hb hby at_121) rfl rfl ?_
      show Steps p.tables e below (T64.setTop (mkF m 123 #[.val (.int p1), .val (.long q2), .second, .val (.long q3), .second, .val (.ref ba), .val (.ref w_DISTINCT), .val (.long lf), .second, .val (.long rg), .second, .val (.int r1), .val (.int (1 : Int32)), .unset, .unset, .unset, .unset] [(.ref w_DISTINCT)])) _
      refine XT.lload X64.here hx rfl (hb hby at_123) rfl ?_
      show Steps p.tables e below (T64.setTop (mkF m 125 #[.val (.int p1), .val (.long q2), .second, .val (.long q3), .second, .val (.ref ba), .val (.ref w_DISTINCT), .val (.long lf), .second, .val (.long rg), .second, .val (.int r1), .val (.int (1 : Int32)), .unset, .unset, .unset, .unset] [(.long lf), (.ref w_DISTINCT)])) _
      refine XT.lload X64.here hx rfl (hb hby at_125) rfl ?_
      show Steps p.tables e below (T64.setTop (mkF m 127 #[.val (.int p1), .val (.long q2), .second, .val (.long q3), .second, .val (.ref ba), .val (.ref w_DISTINCT), .val (.long lf), .second, .val (.long rg), .second, .val (.int r1), .val (.int (1 : Int32)), .unset, .unset, .unset, .unset] [(.long rg), (.long lf), (.ref w_DISTINCT)])) _
      exact k
    obtain ⟨cq67, kq67, qa67, qb67, qc67⟩ := isOf hZ e64 (E_DISTINCT.ext F48.2)
    obtain ⟨_, _, ⟨T67, L67, k67, n67⟩, -, X67, ⟨Lc67, hQ67, l67, y67, z67⟩, st67⟩ := X64.virtualBack hx (y := (⟨"com/example/millrace/millrace/plan/SetOperation$Kind", "copies", "(JJ)J"⟩ : MethodName)) (z := (⟨"com/example/millrace/millrace/plan/SetOperation$Kind", "copies", "(JJ)J"⟩ : MethodName)) hown (mvT hZ (hw _ (List.mem_of_getElem? (i := 23) rfl))) (mvT hZ (hw _ (List.mem_of_getElem? (i := 24) rfl))) (notFace_of_selects (args := #[]) (mvT hZ (hw _ (List.mem_of_getElem? (i := 26) rfl)))) (mvT hZ (hw _ (List.mem_of_getElem? (i := 26) rfl))) (mvT hZ (hw _ (List.mem_of_getElem? (i := 25) rfl))) (by decide) (backOf (W := 0) (rm20 l Z a0 hw [] w_DISTINCT lf rg  h47 n0 Z50 (E_DISTINCT.ext F48.2) (O_DISTINCT.ext F48.2)) hZ (hw _ (List.mem_of_getElem? (i := 27) rfl)) (hw _ (List.mem_of_getElem? (i := 3) rfl)) (by decide) (by decide)) qa67 qc67 (g := (mkF m 127 #[.val (.int p1), .val (.long q2), .second, .val (.long q3), .second, .val (.ref ba), .val (.ref w_DISTINCT), .val (.long lf), .second, .val (.long rg), .second, .val (.int r1), .val (.int (1 : Int32)), .unset, .unset, .unset, .unset] [(.long rg), (.long lf), (.ref w_DISTINCT)])) rfl (by rw [hml]; rfl) (Steps.refl _) (argsL := [(.long lf), (.long rg)]) (rest := []) (lenOf pd_1 rfl) rfl (by show 2 * 0 + _ ≤ _; exact Nat.le_of_eq rfl) (hb hby at_127) (fun _ _ => ⟨rfl, e64, (by decide : 1 + 0 ≤ _), (by decide : 5 + 0 ≤ _)⟩)
    dsimp only [Pt.U, Pt.locs, Pt.cells, Pt.slots] at X67 l67 y67 z67 st67 hQ67
    subst l67 y67 z67
    obtain ⟨rfl, N67q, e67⟩ := hQ67
    have N67 := Fr.app N64 N67q
    have P68 : ∀ t, Steps p.tables e below (T67.setTop (mkF m 130 #[.val (.int p1), .val (.long q2), .second, .val (.long q3), .second, .val (.ref ba), .val (.ref w_DISTINCT), .val (.long lf), .second, .val (.long rg), .second, .val (.int r1), .val (.int (1 : Int32)), .unset, .unset, .unset, .unset] [(.long (if (1 : Int64) < lf then (1 : Int64) else lf))])) t → Steps p.tables e below (s₁.setTop (entryFrame m #[(.int p1), (.long q2), (.long q3)] maxLocals)) t := fun t k => P66 _ (st67.trans k)
    have P69 : ∀ t, Steps p.tables e below (T67.setTop (mkF m 132 #[.val (.int p1), .val (.long q2), .second, .val (.long q3), .second, .val (.ref ba), .val (.ref w_DISTINCT), .val (.long lf), .second, .val (.long rg), .second, .val (.int r1), .val (.int (1 : Int32)), .val (.long (if (1 : Int64) < lf then (1 : Int64) else lf)), .second, .unset, .unset] [])) t → Steps p.tables e below (s₁.setTop (entryFrame m #[(.int p1), (.long q2), (.long q3)] maxLocals)) t := by
      intro t k
      refine P68 _ ?_
      refine XT.lstore X67.here hx rfl (hb hby at_130) rfl (l' := #[.val (.int p1), .val (.long q2), .second, .val (.long q3), .second, .val (.ref ba), .val (.ref w_DISTINCT), .val (.long lf), .second, .val (.long rg), .second, .val (.int r1), .val (.int (1 : Int32)), .val (.long (if (1 : Int64) < lf then (1 : Int64) else lf)), .second, .unset, .unset]) rfl ?_
      show Steps p.tables e below (T67.setTop (mkF m 132 #[.val (.int p1), .val (.long q2), .second, .val (.long q3), .second, .val (.ref ba), .val (.ref w_DISTINCT), .val (.long lf), .second, .val (.long rg), .second, .val (.int r1), .val (.int (1 : Int32)), .val (.long (if (1 : Int64) < lf then (1 : Int64) else lf)), .second, .unset, .unset] [])) _
      exact k
    obtain ⟨cv, hcv⟩ : ∃ z : Int64, z = (if (1 : Int64) < lf then (1 : Int64) else lf) := ⟨_, rfl⟩
    rw [← hcv] at P69
    have P70 : ∀ t, Steps p.tables e below (T67.setTop (mkF m 137 #[.val (.int p1), .val (.long q2), .second, .val (.long q3), .second, .val (.ref ba), .val (.ref w_DISTINCT), .val (.long lf), .second, .val (.long rg), .second, .val (.int r1), .val (.int (1 : Int32)), .val (.long cv), .second, .unset, .unset] [(.long (1 : Int64)), (.long lf), (.ref w_DISTINCT)])) t → Steps p.tables e below (s₁.setTop (entryFrame m #[(.int p1), (.long q2), (.long q3)] maxLocals)) t := by
      intro t k
      refine P69 _ ?_
      refine XS.aload X67.here hx rfl (hb hby at_132) rfl rfl ?_
      show Steps p.tables e below (T67.setTop (mkF m 134 #[.val (.int p1), .val (.long q2), .second, .val (.long q3), .second, .val (.ref ba), .val (.ref w_DISTINCT), .val (.long lf), .second, .val (.long rg), .second, .val (.int r1), .val (.int (1 : Int32)), .val (.long cv), .second, .unset, .unset] [(.ref w_DISTINCT)])) _
      refine XT.lload X67.here hx rfl (hb hby at_134) rfl ?_
      show Steps p.tables e below (T67.setTop (mkF m 136 #[.val (.int p1), .val (.long q2), .second, .val (.long q3), .second, .val (.ref ba), .val (.ref w_DISTINCT), .val (.long lf), .second, .val (.long rg), .second, .val (.int r1), .val (.int (1 : Int32)), .val (.long cv), .second, .unset, .unset] [(.long lf), (.ref w_DISTINCT)])) _
      refine XT.lconst X67.here hx rfl (hb hby at_136) ?_
      show Steps p.tables e below (T67.setTop (mkF m 137 #[.val (.int p1), .val (.long q2), .second, .val (.long q3), .second, .val (.ref ba), .val (.ref w_DISTINCT), .val (.long lf), .second, .val (.long rg), .second, .val (.int r1), .val (.int (1 : Int32)), .val (.long cv), .second, .unset, .unset] [(.long (1 : Int64)), (.long lf), (.ref w_DISTINCT)])) _
      exact k
    obtain ⟨_, _, ⟨T71, L71, k71, n71⟩, -, X71, ⟨Lc71, hQ71, l71, y71, z71⟩, st71⟩ := Jvm.LawKit.callS X67 hx (y := (⟨"java/lang/Math", "min", "(JJ)J"⟩ : MethodName)) hown (mvT hZ (hw _ (List.mem_of_getElem? (i := 41) rfl))) (mvT hZ (hw _ (List.mem_of_getElem? (i := 38) rfl))) (mvT hZ (hw _ (List.mem_of_getElem? (i := 39) rfl))) (mvT hZ (hw _ (List.mem_of_getElem? (i := 40) rfl))) (by decide) (backOf (W := 1) (rm1 l Z a0 hw [] lf (1 : Int64)  h47 n0 Z50 ) hZ (hw _ (List.mem_of_getElem? (i := 40) rfl)) (hw _ (List.mem_of_getElem? (i := 39) rfl)) (by decide) (by decide)) (g := (mkF m 137 #[.val (.int p1), .val (.long q2), .second, .val (.long q3), .second, .val (.ref ba), .val (.ref w_DISTINCT), .val (.long lf), .second, .val (.long rg), .second, .val (.int r1), .val (.int (1 : Int32)), .val (.long cv), .second, .unset, .unset] [(.long (1 : Int64)), (.long lf), (.ref w_DISTINCT)])) rfl (by rw [hml]; rfl) (argsL := [(.long lf), (.long (1 : Int64))]) (rest := [(.ref w_DISTINCT)]) (lenOf pd_1 rfl) rfl (by show 2 * 0 + _ ≤ _; exact Nat.le_of_eq rfl) (hb hby at_137) (fun _ _ => ⟨rfl, e67, (by decide : 1 + 0 ≤ _), (by decide : 5 + 0 ≤ _)⟩)
    dsimp only [Pt.U, Pt.locs, Pt.cells, Pt.slots] at X71 l71 y71 z71 st71 hQ71
    subst l71 y71 z71
    obtain ⟨rfl, N71q, e71⟩ := hQ71
    have N71 := Fr.app N67 N71q
    have P72 : ∀ t, Steps p.tables e below (T71.setTop (mkF m 140 #[.val (.int p1), .val (.long q2), .second, .val (.long q3), .second, .val (.ref ba), .val (.ref w_DISTINCT), .val (.long lf), .second, .val (.long rg), .second, .val (.int r1), .val (.int (1 : Int32)), .val (.long cv), .second, .unset, .unset] [(.long (if (1 : Int64) < lf then (1 : Int64) else lf)), (.ref w_DISTINCT)])) t → Steps p.tables e below (s₁.setTop (entryFrame m #[(.int p1), (.long q2), (.long q3)] maxLocals)) t := fun t k => P70 _ (st71 _ k)
    obtain ⟨lm, hlm⟩ : ∃ z : Int64, z = (if (1 : Int64) < lf then (1 : Int64) else lf) := ⟨_, rfl⟩
    rw [← hlm] at P72
    have P73 : ∀ t, Steps p.tables e below (T71.setTop (mkF m 143 #[.val (.int p1), .val (.long q2), .second, .val (.long q3), .second, .val (.ref ba), .val (.ref w_DISTINCT), .val (.long lf), .second, .val (.long rg), .second, .val (.int r1), .val (.int (1 : Int32)), .val (.long cv), .second, .unset, .unset] [(.long (1 : Int64)), (.long rg), (.long lm), (.ref w_DISTINCT)])) t → Steps p.tables e below (s₁.setTop (entryFrame m #[(.int p1), (.long q2), (.long q3)] maxLocals)) t := by
      intro t k
      refine P72 _ ?_
      refine XT.lload X71.here hx rfl (hb hby at_140) rfl ?_
      show Steps p.tables e below (T71.setTop (mkF m 142 #[.val (.int p1), .val (.long q2), .second, .val (.long q3), .second, .val (.ref ba), .val (.ref w_DISTINCT), .val (.long lf), .second, .val (.long rg), .second, .val (.int r1), .val (.int (1 : Int32)), .val (.long cv), .second, .unset, .unset] [(.long rg), (.long lm), (.ref w_DISTINCT)])) _
      refine XT.lconst X71.here hx rfl (hb hby at_142) ?_
      show Steps p.tables e below (T71.setTop (mkF m 143 #[.val (.int p1), .val (.long q2), .second, .val (.long q3), .second, .val (.ref ba), .val (.ref w_DISTINCT), .val (.long lf), .second, .val (.long rg), .second, .val (.int r1), .val (.int (1 : Int32)), .val (.long cv), .second, .unset, .unset] [(.long (1 : Int64)), (.long rg), (.long lm), (.ref w_DISTINCT)])) _
      exact k
    obtain ⟨_, _, ⟨T74, L74, k74, n74⟩, -, X74, ⟨Lc74, hQ74, l74, y74, z74⟩, st74⟩ := Jvm.LawKit.callS X71 hx (y := (⟨"java/lang/Math", "min", "(JJ)J"⟩ : MethodName)) hown (mvT hZ (hw _ (List.mem_of_getElem? (i := 41) rfl))) (mvT hZ (hw _ (List.mem_of_getElem? (i := 38) rfl))) (mvT hZ (hw _ (List.mem_of_getElem? (i := 39) rfl))) (mvT hZ (hw _ (List.mem_of_getElem? (i := 40) rfl))) (by decide) (backOf (W := 3) (rm1 l Z a0 hw [] rg (1 : Int64)  h47 n0 Z50 ) hZ (hw _ (List.mem_of_getElem? (i := 40) rfl)) (hw _ (List.mem_of_getElem? (i := 39) rfl)) (by decide) (by decide)) (g := (mkF m 143 #[.val (.int p1), .val (.long q2), .second, .val (.long q3), .second, .val (.ref ba), .val (.ref w_DISTINCT), .val (.long lf), .second, .val (.long rg), .second, .val (.int r1), .val (.int (1 : Int32)), .val (.long cv), .second, .unset, .unset] [(.long (1 : Int64)), (.long rg), (.long lm), (.ref w_DISTINCT)])) rfl (by rw [hml]; rfl) (argsL := [(.long rg), (.long (1 : Int64))]) (rest := [(.long lm), (.ref w_DISTINCT)]) (lenOf pd_1 rfl) rfl (by show 2 * 0 + _ ≤ _; exact Nat.le_of_eq rfl) (hb hby at_143) (fun _ _ => ⟨rfl, e71, (by decide : 1 + 0 ≤ _), (by decide : 5 + 0 ≤ _)⟩)
    dsimp only [Pt.U, Pt.locs, Pt.cells, Pt.slots] at X74 l74 y74 z74 st74 hQ74
    subst l74 y74 z74
    obtain ⟨rfl, N74q, e74⟩ := hQ74
    have N74 := Fr.app N71 N74q
    have P75 : ∀ t, Steps p.tables e below (T74.setTop (mkF m 146 #[.val (.int p1), .val (.long q2), .second, .val (.long q3), .second, .val (.ref ba), .val (.ref w_DISTINCT), .val (.long lf), .second, .val (.long rg), .second, .val (.int r1), .val (.int (1 : Int32)), .val (.long cv), .second, .unset, .unset] [(.long (if (1 : Int64) < rg then (1 : Int64) else rg)), (.long lm), (.ref w_DISTINCT)])) t → Steps p.tables e below (s₁.setTop (entryFrame m #[(.int p1), (.long q2), (.long q3)] maxLocals)) t := fun t k => P73 _ (st74 _ k)
    obtain ⟨rm, hrm⟩ : ∃ z : Int64, z = (if (1 : Int64) < rg then (1 : Int64) else rg) := ⟨_, rfl⟩
    rw [← hrm] at P75
    obtain ⟨cq76, kq76, qa76, qb76, qc76⟩ := isOf hZ e74 (E_DISTINCT.ext F48.2)
    obtain ⟨_, _, ⟨T76, L76, k76, n76⟩, -, X76, ⟨Lc76, hQ76, l76, y76, z76⟩, st76⟩ := X74.virtualBack hx (y := (⟨"com/example/millrace/millrace/plan/SetOperation$Kind", "copies", "(JJ)J"⟩ : MethodName)) (z := (⟨"com/example/millrace/millrace/plan/SetOperation$Kind", "copies", "(JJ)J"⟩ : MethodName)) hown (mvT hZ (hw _ (List.mem_of_getElem? (i := 23) rfl))) (mvT hZ (hw _ (List.mem_of_getElem? (i := 24) rfl))) (notFace_of_selects (args := #[]) (mvT hZ (hw _ (List.mem_of_getElem? (i := 26) rfl)))) (mvT hZ (hw _ (List.mem_of_getElem? (i := 26) rfl))) (mvT hZ (hw _ (List.mem_of_getElem? (i := 25) rfl))) (by decide) (backOf (W := 0) (rm20 l Z a0 hw [] w_DISTINCT lm rm  h47 n0 Z50 (E_DISTINCT.ext F48.2) (O_DISTINCT.ext F48.2)) hZ (hw _ (List.mem_of_getElem? (i := 27) rfl)) (hw _ (List.mem_of_getElem? (i := 3) rfl)) (by decide) (by decide)) qa76 qc76 (g := (mkF m 146 #[.val (.int p1), .val (.long q2), .second, .val (.long q3), .second, .val (.ref ba), .val (.ref w_DISTINCT), .val (.long lf), .second, .val (.long rg), .second, .val (.int r1), .val (.int (1 : Int32)), .val (.long cv), .second, .unset, .unset] [(.long rm), (.long lm), (.ref w_DISTINCT)])) rfl (by rw [hml]; rfl) (Steps.refl _) (argsL := [(.long lm), (.long rm)]) (rest := []) (lenOf pd_1 rfl) rfl (by show 2 * 0 + _ ≤ _; exact Nat.le_of_eq rfl) (hb hby at_146) (fun _ _ => ⟨rfl, e74, (by decide : 1 + 0 ≤ _), (by decide : 5 + 0 ≤ _)⟩)
    dsimp only [Pt.U, Pt.locs, Pt.cells, Pt.slots] at X76 l76 y76 z76 st76 hQ76
    subst l76 y76 z76
    obtain ⟨rfl, N76q, e76⟩ := hQ76
    have N76 := Fr.app N74 N76q
    have P77 : ∀ t, Steps p.tables e below (T76.setTop (mkF m 149 #[.val (.int p1), .val (.long q2), .second, .val (.long q3), .second, .val (.ref ba), .val (.ref w_DISTINCT), .val (.long lf), .second, .val (.long rg), .second, .val (.int r1), .val (.int (1 : Int32)), .val (.long cv), .second, .unset, .unset] [(.long (if (1 : Int64) < lm then (1 : Int64) else lm))])) t → Steps p.tables e below (s₁.setTop (entryFrame m #[(.int p1), (.long q2), (.long q3)] maxLocals)) t := fun t k => P75 _ (st76.trans k)
    have P78 : ∀ t, Steps p.tables e below (T76.setTop (mkF m 151 #[.val (.int p1), .val (.long q2), .second, .val (.long q3), .second, .val (.ref ba), .val (.ref w_DISTINCT), .val (.long lf), .second, .val (.long rg), .second, .val (.int r1), .val (.int (1 : Int32)), .val (.long cv), .second, .val (.long (if (1 : Int64) < lm then (1 : Int64) else lm)), .second] [])) t → Steps p.tables e below (s₁.setTop (entryFrame m #[(.int p1), (.long q2), (.long q3)] maxLocals)) t := by
      intro t k
      refine P77 _ ?_
      refine XT.lstore X76.here hx rfl (hb hby at_149) rfl (l' := #[.val (.int p1), .val (.long q2), .second, .val (.long q3), .second, .val (.ref ba), .val (.ref w_DISTINCT), .val (.long lf), .second, .val (.long rg), .second, .val (.int r1), .val (.int (1 : Int32)), .val (.long cv), .second, .val (.long (if (1 : Int64) < lm then (1 : Int64) else lm)), .second]) rfl ?_
      show Steps p.tables e below (T76.setTop (mkF m 151 #[.val (.int p1), .val (.long q2), .second, .val (.long q3), .second, .val (.ref ba), .val (.ref w_DISTINCT), .val (.long lf), .second, .val (.long rg), .second, .val (.int r1), .val (.int (1 : Int32)), .val (.long cv), .second, .val (.long (if (1 : Int64) < lm then (1 : Int64) else lm)), .second] [])) _
      exact k
    obtain ⟨cw, hcw⟩ : ∃ z : Int64, z = (if (1 : Int64) < lm then (1 : Int64) else lm) := ⟨_, rfl⟩
    rw [← hcw] at P78
    obtain ⟨g1, g2, g3⟩ := own_pl0 hl0 hr0 hlm hrm hcv hcw
    have P79 : ∀ t, Steps p.tables e below (T76.setTop (mkF m 178 #[.val (.int p1), .val (.long q2), .second, .val (.long q3), .second, .val (.ref ba), .val (.ref w_DISTINCT), .val (.long lf), .second, .val (.long rg), .second, .val (.int r1), .val (.int (1 : Int32)), .val (.long cv), .second, .val (.long cw), .second] [(.int (1 : Int32))])) t → Steps p.tables e below (s₁.setTop (entryFrame m #[(.int p1), (.long q2), (.long q3)] maxLocals)) t := by
      intro t k
      refine P78 _ ?_
      refine XT.lload X76.here hx rfl (hb hby at_151) rfl ?_
      show Steps p.tables e below (T76.setTop (mkF m 153 #[.val (.int p1), .val (.long q2), .second, .val (.long q3), .second, .val (.ref ba), .val (.ref w_DISTINCT), .val (.long lf), .second, .val (.long rg), .second, .val (.int r1), .val (.int (1 : Int32)), .val (.long cv), .second, .val (.long cw), .second] [(.long cv)])) _
      refine XT.lload X76.here hx rfl (hb hby at_153) rfl ?_
      show Steps p.tables e below (T76.setTop (mkF m 155 #[.val (.int p1), .val (.long q2), .second, .val (.long q3), .second, .val (.ref ba), .val (.ref w_DISTINCT), .val (.long lf), .second, .val (.long rg), .second, .val (.int r1), .val (.int (1 : Int32)), .val (.long cv), .second, .val (.long cw), .second] [(.long cw), (.long cv)])) _
      refine XT.lcmp X76.here hx rfl (hb hby at_155) rfl ?_
      show Steps p.tables e below (T76.setTop (mkF m 156 #[.val (.int p1), .val (.long q2), .second, .val (.long q3), .second, .val (.ref ba), .val (.ref w_DISTINCT), .val (.long lf), .second, .val (.long rg), .second, .val (.int r1), .val (.int (1 : Int32)), .val (.long cv), .second, .val (.long cw), .second] [(.int (XT.cmpL cv cw))])) _
      refine XS.ifNo X76.here hx rfl (hb hby at_156) rfl (XT.ll_ne_f g1) ?_
      show Steps p.tables e below (T76.setTop (mkF m 159 #[.val (.int p1), .val (.long q2), .second, .val (.long q3), .second, .val (.ref ba), .val (.ref w_DISTINCT), .val (.long lf), .second, .val (.long rg), .second, .val (.int r1), .val (.int (1 : Int32)), .val (.long cv), .second, .val (.long cw), .second] [])) _
      refine XT.lload X76.here hx rfl (hb hby at_159) rfl ?_
      show Steps p.tables e below (T76.setTop (mkF m 161 #[.val (.int p1), .val (.long q2), .second, .val (.long q3), .second, .val (.ref ba), .val (.ref w_DISTINCT), .val (.long lf), .second, .val (.long rg), .second, .val (.int r1), .val (.int (1 : Int32)), .val (.long cv), .second, .val (.long cw), .second] [(.long cv)])) _
      refine XT.lconst X76.here hx rfl (hb hby at_161) ?_
      show Steps p.tables e below (T76.setTop (mkF m 162 #[.val (.int p1), .val (.long q2), .second, .val (.long q3), .second, .val (.ref ba), .val (.ref w_DISTINCT), .val (.long lf), .second, .val (.long rg), .second, .val (.int r1), .val (.int (1 : Int32)), .val (.long cv), .second, .val (.long cw), .second] [(.long (0 : Int64)), (.long cv)])) _
      refine XT.lcmp X76.here hx rfl (hb hby at_162) rfl ?_
      show Steps p.tables e below (T76.setTop (mkF m 163 #[.val (.int p1), .val (.long q2), .second, .val (.long q3), .second, .val (.ref ba), .val (.ref w_DISTINCT), .val (.long lf), .second, .val (.long rg), .second, .val (.int r1), .val (.int (1 : Int32)), .val (.long cv), .second, .val (.long cw), .second] [(.int (XT.cmpL cv (0 : Int64)))])) _
      refine XS.ifNo X76.here hx rfl (hb hby at_163) rfl (XT.ll_lt_f g2) ?_
      show Steps p.tables e below (T76.setTop (mkF m 166 #[.val (.int p1), .val (.long q2), .second, .val (.long q3), .second, .val (.ref ba), .val (.ref w_DISTINCT), .val (.long lf), .second, .val (.long rg), .second, .val (.int r1), .val (.int (1 : Int32)), .val (.long cv), .second, .val (.long cw), .second] [])) _
      refine XT.lload X76.here hx rfl (hb hby at_166) rfl ?_
      show Steps p.tables e below (T76.setTop (mkF m 168 #[.val (.int p1), .val (.long q2), .second, .val (.long q3), .second, .val (.ref ba), .val (.ref w_DISTINCT), .val (.long lf), .second, .val (.long rg), .second, .val (.int r1), .val (.int (1 : Int32)), .val (.long cv), .second, .val (.long cw), .second] [(.long cv)])) _
      refine XT.lconst X76.here hx rfl (hb hby at_168) ?_
      show Steps p.tables e below (T76.setTop (mkF m 169 #[.val (.int p1), .val (.long q2), .second, .val (.long q3), .second, .val (.ref ba), .val (.ref w_DISTINCT), .val (.long lf), .second, .val (.long rg), .second, .val (.int r1), .val (.int (1 : Int32)), .val (.long cv), .second, .val (.long cw), .second] [(.long (1 : Int64)), (.long cv)])) _
      refine XT.lcmp X76.here hx rfl (hb hby at_169) rfl ?_
      show Steps p.tables e below (T76.setTop (mkF m 170 #[.val (.int p1), .val (.long q2), .second, .val (.long q3), .second, .val (.ref ba), .val (.ref w_DISTINCT), .val (.long lf), .second, .val (.long rg), .second, .val (.int r1), .val (.int (1 : Int32)), .val (.long cv), .second, .val (.long cw), .second] [(.int (XT.cmpL cv (1 : Int64)))])) _
      refine XS.ifNo X76.here hx rfl (hb hby at_170) rfl (XT.ll_gt_f g3) ?_
      show Steps p.tables e below (T76.setTop (mkF m 173 #[.val (.int p1), .val (.long q2), .second, .val (.long q3), .second, .val (.ref ba), .val (.ref w_DISTINCT), .val (.long lf), .second, .val (.long rg), .second, .val (.int r1), .val (.int (1 : Int32)), .val (.long cv), .second, .val (.long cw), .second] [])) _
      refine XS.iconst X76.here hx rfl (hb hby at_173) ?_
      show Steps p.tables e below (T76.setTop (mkF m 174 #[.val (.int p1), .val (.long q2), .second, .val (.long q3), .second, .val (.ref ba), .val (.ref w_DISTINCT), .val (.long lf), .second, .val (.long rg), .second, .val (.int r1), .val (.int (1 : Int32)), .val (.long cv), .second, .val (.long cw), .second] [(.int (1 : Int32))])) _
      refine XS.goto X76.here hx rfl (pc0 := 174) (pc' := 178) rfl (hb hby at_174) (by decide) (by decide) ?_
      show Steps p.tables e below (T76.setTop (mkF m 178 #[.val (.int p1), .val (.long q2), .second, .val (.long q3), .second, .val (.ref ba), .val (.ref w_DISTINCT), .val (.long lf), .second, .val (.long rg), .second, .val (.int r1), .val (.int (1 : Int32)), .val (.long cv), .second, .val (.long cw), .second] [(.int (1 : Int32))])) _
      exact k
    obtain ⟨fs, hr, hrun, hended, hW, hsame⟩ := X76.leave (v := some (.int (1 : Int32))) (fun h => by rw [Bd.returns] at h; cases h)
    refine ⟨_, _, P79 _ ?_, hrun, hended, _, _, rfl, ?_, ⟨_, rfl⟩, hW, hsame.mono (by decide) (by decide)⟩
    · exact retN X76 hx (t := .boolean) Bd.returns (by simp) (hb hby at_178) hr
    · show Q0 Z p1 q2 q3 w_DISTINCT w_EXCEPT w_EXCEPT_ALL w_INTERSECT w_INTERSECT_ALL h0 n0 _ T76.heap _
      rw [e76]
      exact ⟨rfl, N76⟩
  · skip
    have P80 : ∀ t, Steps p.tables e below (T47.setTop (mkF m 45 #[.val (.int p1), .val (.long q2), .second, .val (.long q3), .second, .val (.ref ba), .unset, .unset, .unset, .unset, .unset, .unset, .unset, .unset, .unset, .unset, .unset] [(.ref w_EXCEPT)])) t → Steps p.tables e below (s₁.setTop (entryFrame m #[(.int p1), (.long q2), (.long q3)] maxLocals)) t := by
      intro t k
      refine P53 _ ?_
      refine own_aal X47 hx hZ e47 F49 ⟨by decide, by decide⟩ (v := (.ref w_EXCEPT)) rfl rfl rfl (hb hby at_44) ?_
      show Steps p.tables e below (T47.setTop (mkF m 45 #[.val (.int p1), .val (.long q2), .second, .val (.long q3), .second, .val (.ref ba), .unset, .unset, .unset, .unset, .unset, .unset, .unset, .unset, .unset, .unset, .unset] [(.ref w_EXCEPT)])) _
      exact k
    have P81 : ∀ t, Steps p.tables e below (T47.setTop (mkF m 54 #[.val (.int p1), .val (.long q2), .second, .val (.long q3), .second, .val (.ref ba), .val (.ref w_EXCEPT), .val (.long (q2 &&& (9223372036854775807 : Int64))), .second, .unset, .unset, .unset, .unset, .unset, .unset, .unset, .unset] [])) t → Steps p.tables e below (s₁.setTop (entryFrame m #[(.int p1), (.long q2), (.long q3)] maxLocals)) t := by
      intro t k
      refine P80 _ ?_
      refine XS.astore X47.here hx rfl (hb hby at_45) rfl rfl (l' := #[.val (.int p1), .val (.long q2), .second, .val (.long q3), .second, .val (.ref ba), .val (.ref w_EXCEPT), .unset, .unset, .unset, .unset, .unset, .unset, .unset, .unset, .unset, .unset]) rfl ?_
      show Steps p.tables e below (T47.setTop (mkF m 47 #[.val (.int p1), .val (.long q2), .second, .val (.long q3), .second, .val (.ref ba), .val (.ref w_EXCEPT), .unset, .unset, .unset, .unset, .unset, .unset, .unset, .unset, .unset, .unset] [])) _
      refine XT.lloadN X47.here hx rfl (hb hby at_47) rfl ?_
      show Steps p.tables e below (T47.setTop (mkF m 48 #[.val (.int p1), .val (.long q2), .second, .val (.long q3), .second, .val (.ref ba), .val (.ref w_EXCEPT), .unset, .unset, .unset, .unset, .unset, .unset, .unset, .unset, .unset, .unset] [(.long q2)])) _
      refine Jvm.Stand.ldc2J X47 hx hown (mvT hZ (hw _ (List.mem_of_getElem? (i := 15) rfl))) rfl (hb hby at_48) ?_
      show Steps p.tables e below (T47.setTop (mkF m 51 #[.val (.int p1), .val (.long q2), .second, .val (.long q3), .second, .val (.ref ba), .val (.ref w_EXCEPT), .unset, .unset, .unset, .unset, .unset, .unset, .unset, .unset, .unset, .unset] [(.long (9223372036854775807 : Int64)), (.long q2)])) _
      refine XT.land X47.here hx rfl (hb hby at_51) rfl ?_
      show Steps p.tables e below (T47.setTop (mkF m 52 #[.val (.int p1), .val (.long q2), .second, .val (.long q3), .second, .val (.ref ba), .val (.ref w_EXCEPT), .unset, .unset, .unset, .unset, .unset, .unset, .unset, .unset, .unset, .unset] [(.long (q2 &&& (9223372036854775807 : Int64)))])) _
      refine XT.lstore X47.here hx rfl (hb hby at_52) rfl (l' := #[.val (.int p1), .val (.long q2), .second, .val (.long q3), .second, .val (.ref ba), .val (.ref w_EXCEPT), .val (.long (q2 &&& (9223372036854775807 : Int64))), .second, .unset, .unset, .unset, .unset, .unset, .unset, .unset, .unset]) rfl ?_
      show Steps p.tables e below (T47.setTop (mkF m 54 #[.val (.int p1), .val (.long q2), .second, .val (.long q3), .second, .val (.ref ba), .val (.ref w_EXCEPT), .val (.long (q2 &&& (9223372036854775807 : Int64))), .second, .unset, .unset, .unset, .unset, .unset, .unset, .unset, .unset] [])) _
      exact k
    obtain ⟨lf, hlf⟩ : ∃ z : Int64, z = (q2 &&& (9223372036854775807 : Int64)) := ⟨_, rfl⟩
    rw [← hlf] at P81
    have hl0 := own_nn hlf
    have P82 : ∀ t, Steps p.tables e below (T47.setTop (mkF m 61 #[.val (.int p1), .val (.long q2), .second, .val (.long q3), .second, .val (.ref ba), .val (.ref w_EXCEPT), .val (.long lf), .second, .val (.long (q3 &&& (9223372036854775807 : Int64))), .second, .unset, .unset, .unset, .unset, .unset, .unset] [])) t → Steps p.tables e below (s₁.setTop (entryFrame m #[(.int p1), (.long q2), (.long q3)] maxLocals)) t := by
      intro t k
      refine P81 _ ?_
      refine XT.lloadN X47.here hx rfl (hb hby at_54) rfl ?_
      show Steps p.tables e below (T47.setTop (mkF m 55 #[.val (.int p1), .val (.long q2), .second, .val (.long q3), .second, .val (.ref ba), .val (.ref w_EXCEPT), .val (.long lf), .second, .unset, .unset, .unset, .unset, .unset, .unset, .unset, .unset] [(.long q3)])) _
      refine Jvm.Stand.ldc2J X47 hx hown (mvT hZ (hw _ (List.mem_of_getElem? (i := 15) rfl))) rfl (hb hby at_55) ?_
      show Steps p.tables e below (T47.setTop (mkF m 58 #[.val (.int p1), .val (.long q2), .second, .val (.long q3), .second, .val (.ref ba), .val (.ref w_EXCEPT), .val (.long lf), .second, .unset, .unset, .unset, .unset, .unset, .unset, .unset, .unset] [(.long (9223372036854775807 : Int64)), (.long q3)])) _
      refine XT.land X47.here hx rfl (hb hby at_58) rfl ?_
      show Steps p.tables e below (T47.setTop (mkF m 59 #[.val (.int p1), .val (.long q2), .second, .val (.long q3), .second, .val (.ref ba), .val (.ref w_EXCEPT), .val (.long lf), .second, .unset, .unset, .unset, .unset, .unset, .unset, .unset, .unset] [(.long (q3 &&& (9223372036854775807 : Int64)))])) _
      refine XT.lstore X47.here hx rfl (hb hby at_59) rfl (l' := #[.val (.int p1), .val (.long q2), .second, .val (.long q3), .second, .val (.ref ba), .val (.ref w_EXCEPT), .val (.long lf), .second, .val (.long (q3 &&& (9223372036854775807 : Int64))), .second, .unset, .unset, .unset, .unset, .unset, .unset]) rfl ?_
      show Steps p.tables e below (T47.setTop (mkF m 61 #[.val (.int p1), .val (.long q2), .second, .val (.long q3), .second, .val (.ref ba), .val (.ref w_EXCEPT), .val (.long lf), .second, .val (.long (q3 &&& (9223372036854775807 : Int64))), .second, .unset, .unset, .unset, .unset, .unset, .unset] [])) _
      exact k
    obtain ⟨rg, hrg⟩ : ∃ z : Int64, z = (q3 &&& (9223372036854775807 : Int64)) := ⟨_, rfl⟩
    rw [← hrg] at P82
    have hr0 := own_nn hrg
    have P83 : ∀ t, Steps p.tables e below (T47.setTop (mkF m 63 #[.val (.int p1), .val (.long q2), .second, .val (.long q3), .second, .val (.ref ba), .val (.ref w_EXCEPT), .val (.long lf), .second, .val (.long rg), .second, .unset, .unset, .unset, .unset, .unset, .unset] [(.ref w_EXCEPT)])) t → Steps p.tables e below (s₁.setTop (entryFrame m #[(.int p1), (.long q2), (.long q3)] maxLocals)) t := by
      intro t k
      refine P82 _ ?_
      refine XS.aload X47.here hx rfl (hb hby at_61) rfl rfl ?_
      show Steps p.tables e below (T47.setTop (mkF m 63 #[.val (.int p1), .val (.long q2), .second, .val (.long q3), .second, .val (.ref ba), .val (.ref w_EXCEPT), .val (.long lf), .second, .val (.long rg), .second, .unset, .unset, .unset, .unset, .unset, .unset] [(.ref w_EXCEPT)])) _
      exact k
    obtain ⟨cq84, kq84, qa84, qb84, qc84⟩ := isOf hZ e47 (E_EXCEPT.ext F48.2)
    obtain ⟨_, _, ⟨T84, L84, k84, n84⟩, -, X84, ⟨Lc84, hQ84, l84, y84, z84⟩, st84⟩ := X47.virtualBack hx (y := (⟨"com/example/millrace/millrace/plan/SetOperation$Kind", "isSet", "()Z"⟩ : MethodName)) (z := (⟨"com/example/millrace/millrace/plan/SetOperation$Kind", "isSet", "()Z"⟩ : MethodName)) hown (mvT hZ (hw _ (List.mem_of_getElem? (i := 16) rfl))) (mvT hZ (hw _ (List.mem_of_getElem? (i := 17) rfl))) (notFace_of_selects (args := #[]) (mvT hZ (hw _ (List.mem_of_getElem? (i := 19) rfl)))) (mvT hZ (hw _ (List.mem_of_getElem? (i := 19) rfl))) (mvT hZ (hw _ (List.mem_of_getElem? (i := 18) rfl))) (by decide) (backOf (W := 0) (rm4 l Z a0 hw [] w_EXCEPT w_DISTINCT w_EXCEPT w_INTERSECT h47 n0 Z50 (S_DISTINCT.ext F48.2) (S_EXCEPT.ext F48.2) (S_INTERSECT.ext F48.2)) hZ (hw _ (List.mem_of_getElem? (i := 20) rfl)) (hw _ (List.mem_of_getElem? (i := 3) rfl)) (by decide) (by decide)) qa84 qc84 (g := (mkF m 63 #[.val (.int p1), .val (.long q2), .second, .val (.long q3), .second, .val (.ref ba), .val (.ref w_EXCEPT), .val (.long lf), .second, .val (.long rg), .second, .unset, .unset, .unset, .unset, .unset, .unset] [(.ref w_EXCEPT)])) rfl (by rw [hml]; rfl) (Steps.refl _) (argsL := []) (rest := []) (lenOf pd_2 rfl) rfl (by show 2 * 0 + _ ≤ _; exact Nat.le_of_eq rfl) (hb hby at_63) (fun _ _ => ⟨rfl, e47, (by decide : 1 + 0 ≤ _), (by decide : 5 + 0 ≤ _)⟩)
    dsimp only [Pt.U, Pt.locs, Pt.cells, Pt.slots] at X84 l84 y84 z84 st84 hQ84
    subst l84 y84 z84
    obtain ⟨rfl, N84q, e84⟩ := hQ84
    have N84 := Fr.app N47 N84q
    have P85 : ∀ t, Steps p.tables e below (T84.setTop (mkF m 66 #[.val (.int p1), .val (.long q2), .second, .val (.long q3), .second, .val (.ref ba), .val (.ref w_EXCEPT), .val (.long lf), .second, .val (.long rg), .second, .unset, .unset, .unset, .unset, .unset, .unset] [(.int (if w_EXCEPT = w_DISTINCT then (1 : Int32) else (if w_EXCEPT = w_EXCEPT then (1 : Int32) else (if w_EXCEPT = w_INTERSECT then (1 : Int32) else (0 : Int32)))))])) t → Steps p.tables e below (s₁.setTop (entryFrame m #[(.int p1), (.long q2), (.long q3)] maxLocals)) t := fun t k => P83 _ (st84.trans k)
    obtain ⟨r1, hr1⟩ : ∃ z : Int32, z = (if w_EXCEPT = w_DISTINCT then (1 : Int32) else (if w_EXCEPT = w_EXCEPT then (1 : Int32) else (if w_EXCEPT = w_INTERSECT then (1 : Int32) else (0 : Int32)))) := ⟨_, rfl⟩
    rw [← hr1] at P85
    have r1e : r1 = (1 : Int32) := by rw [hr1, if_neg (Fld.ne O_EXCEPT O_DISTINCT (by decide)), if_pos rfl]
    have P86 : ∀ t, Steps p.tables e below (T84.setTop (mkF m 74 #[.val (.int p1), .val (.long q2), .second, .val (.long q3), .second, .val (.ref ba), .val (.ref w_EXCEPT), .val (.long lf), .second, .val (.long rg), .second, .val (.int r1), .unset, .unset, .unset, .unset, .unset] [(.long (0 : Int64)), (.long (2 : Int64)), (.ref w_EXCEPT)])) t → Steps p.tables e below (s₁.setTop (entryFrame m #[(.int p1), (.long q2), (.long q3)] maxLocals)) t := by
      intro t k
      refine P85 _ ?_
      refine XS.istore X84.here hx rfl (hb hby at_66) rfl (l' := #[.val (.int p1), .val (.long q2), .second, .val (.long q3), .second, .val (.ref ba), .val (.ref w_EXCEPT), .val (.long lf), .second, .val (.long rg), .second, .val (.int r1), .unset, .unset, .unset, .unset, .unset]) rfl ?_
      show Steps p.tables e below (T84.setTop (mkF m 68 #[.val (.int p1), .val (.long q2), .second, .val (.long q3), .second, .val (.ref ba), .val (.ref w_EXCEPT), .val (.long lf), .second, .val (.long rg), .second, .val (.int r1), .unset, .unset, .unset, .unset, .unset] [])) _
      refine XS.aload X84.here hx rfl (hb hby at_68) rfl rfl ?_
      show Steps p.tables e below (T84.setTop (mkF m 70 #[.val (.int p1), .val (.long q2), .second, .val (.long q3), .second, .val (.ref ba), .val (.ref w_EXCEPT), .val (.long lf), .second, .val (.long rg), .second, .val (.int r1), .unset, .unset, .unset, .unset, .unset] [(.ref w_EXCEPT)])) _
      refine Jvm.Stand.ldc2J X84 hx hown (mvT hZ (hw _ (List.mem_of_getElem? (i := 22) rfl))) rfl (hb hby at_70) ?_
      show Steps p.tables e below (T84.setTop (mkF m 73 #[.val (.int p1), .val (.long q2), .second, .val (.long q3), .second, .val (.ref ba), .val (.ref w_EXCEPT), .val (.long lf), .second, .val (.long rg), .second, .val (.int r1), .unset, .unset, .unset, .unset, .unset] [(.long (2 : Int64)), (.ref w_EXCEPT)])) _
      refine XT.lconst X84.here hx rfl (hb hby at_73) ?_
      show Steps p.tables e below (T84.setTop (mkF m 74 #[.val (.int p1), .val (.long q2), .second, .val (.long q3), .second, .val (.ref ba), .val (.ref w_EXCEPT), .val (.long lf), .second, .val (.long rg), .second, .val (.int r1), .unset, .unset, .unset, .unset, .unset] [(.long (0 : Int64)), (.long (2 : Int64)), (.ref w_EXCEPT)])) _
      exact k
    obtain ⟨cq87, kq87, qa87, qb87, qc87⟩ := isOf hZ e84 (E_EXCEPT.ext F48.2)
    obtain ⟨_, _, ⟨T87, L87, k87, n87⟩, -, X87, ⟨Lc87, hQ87, l87, y87, z87⟩, st87⟩ := X84.virtualBack hx (y := (⟨"com/example/millrace/millrace/plan/SetOperation$Kind", "copies", "(JJ)J"⟩ : MethodName)) (z := (⟨"com/example/millrace/millrace/plan/SetOperation$Kind", "copies", "(JJ)J"⟩ : MethodName)) hown (mvT hZ (hw _ (List.mem_of_getElem? (i := 23) rfl))) (mvT hZ (hw _ (List.mem_of_getElem? (i := 24) rfl))) (notFace_of_selects (args := #[]) (mvT hZ (hw _ (List.mem_of_getElem? (i := 26) rfl)))) (mvT hZ (hw _ (List.mem_of_getElem? (i := 26) rfl))) (mvT hZ (hw _ (List.mem_of_getElem? (i := 25) rfl))) (by decide) (backOf (W := 0) (rm21 l Z a0 hw [] w_EXCEPT (2 : Int64) (0 : Int64)  h47 n0 Z50 (E_EXCEPT.ext F48.2) (O_EXCEPT.ext F48.2)) hZ (hw _ (List.mem_of_getElem? (i := 27) rfl)) (hw _ (List.mem_of_getElem? (i := 3) rfl)) (by decide) (by decide)) qa87 qc87 (g := (mkF m 74 #[.val (.int p1), .val (.long q2), .second, .val (.long q3), .second, .val (.ref ba), .val (.ref w_EXCEPT), .val (.long lf), .second, .val (.long rg), .second, .val (.int r1), .unset, .unset, .unset, .unset, .unset] [(.long (0 : Int64)), (.long (2 : Int64)), (.ref w_EXCEPT)])) rfl (by rw [hml]; rfl) (Steps.refl _) (argsL := [(.long (2 : Int64)), (.long (0 : Int64))]) (rest := []) (lenOf pd_1 rfl) rfl (by show 2 * 0 + _ ≤ _; exact Nat.le_of_eq rfl) (hb hby at_74) (fun _ _ => ⟨rfl, e84, (by decide : 1 + 0 ≤ _), (by decide : 5 + 0 ≤ _)⟩)
    dsimp only [Pt.U, Pt.locs, Pt.cells, Pt.slots] at X87 l87 y87 z87 st87 hQ87
    subst l87 y87 z87
    obtain ⟨rfl, N87q, e87⟩ := hQ87
    have N87 := Fr.app N84 N87q
    have P88 : ∀ t, Steps p.tables e below (T87.setTop (mkF m 77 #[.val (.int p1), .val (.long q2), .second, .val (.long q3), .second, .val (.ref ba), .val (.ref w_EXCEPT), .val (.long lf), .second, .val (.long rg), .second, .val (.int r1), .unset, .unset, .unset, .unset, .unset] [(.long (if (0 : Int64) < (2 : Int64) then (if (0 : Int64) = (0 : Int64) then (1 : Int64) else (0 : Int64)) else (0 : Int64)))])) t → Steps p.tables e below (s₁.setTop (entryFrame m #[(.int p1), (.long q2), (.long q3)] maxLocals)) t := fun t k => P86 _ (st87.trans k)
    have P89 : ∀ t, Steps p.tables e below (T87.setTop (mkF m 90 #[.val (.int p1), .val (.long q2), .second, .val (.long q3), .second, .val (.ref ba), .val (.ref w_EXCEPT), .val (.long lf), .second, .val (.long rg), .second, .val (.int r1), .unset, .unset, .unset, .unset, .unset] [(.long (2 : Int64)), (.long (2 : Int64)), (.ref w_EXCEPT)])) t → Steps p.tables e below (s₁.setTop (entryFrame m #[(.int p1), (.long q2), (.long q3)] maxLocals)) t := by
      intro t k
      refine P88 _ ?_
      refine XT.lconst X87.here hx rfl (hb hby at_77) ?_
      show Steps p.tables e below (T87.setTop (mkF m 78 #[.val (.int p1), .val (.long q2), .second, .val (.long q3), .second, .val (.ref ba), .val (.ref w_EXCEPT), .val (.long lf), .second, .val (.long rg), .second, .val (.int r1), .unset, .unset, .unset, .unset, .unset] [(.long (1 : Int64)), (.long (if (0 : Int64) < (2 : Int64) then (if (0 : Int64) = (0 : Int64) then (1 : Int64) else (0 : Int64)) else (0 : Int64)))])) _
      refine XT.lcmp X87.here hx rfl (hb hby at_78) rfl ?_
      show Steps p.tables e below (T87.setTop (mkF m 79 #[.val (.int p1), .val (.long q2), .second, .val (.long q3), .second, .val (.ref ba), .val (.ref w_EXCEPT), .val (.long lf), .second, .val (.long rg), .second, .val (.int r1), .unset, .unset, .unset, .unset, .unset] [(.int (XT.cmpL (if (0 : Int64) < (2 : Int64) then (if (0 : Int64) = (0 : Int64) then (1 : Int64) else (0 : Int64)) else (0 : Int64)) (1 : Int64)))])) _
      refine XS.ifNo X87.here hx rfl (hb hby at_79) rfl (XT.ll_gt_f (by decide)) ?_
      show Steps p.tables e below (T87.setTop (mkF m 82 #[.val (.int p1), .val (.long q2), .second, .val (.long q3), .second, .val (.ref ba), .val (.ref w_EXCEPT), .val (.long lf), .second, .val (.long rg), .second, .val (.int r1), .unset, .unset, .unset, .unset, .unset] [])) _
      refine XS.aload X87.here hx rfl (hb hby at_82) rfl rfl ?_
      show Steps p.tables e below (T87.setTop (mkF m 84 #[.val (.int p1), .val (.long q2), .second, .val (.long q3), .second, .val (.ref ba), .val (.ref w_EXCEPT), .val (.long lf), .second, .val (.long rg), .second, .val (.int r1), .unset, .unset, .unset, .unset, .unset] [(.ref w_EXCEPT)])) _
      refine Jvm.Stand.ldc2J X87 hx hown (mvT hZ (hw _ (List.mem_of_getElem? (i := 22) rfl))) rfl (hb hby at_84) ?_
      show Steps p.tables e below (T87.setTop (mkF m 87 #[.val (.int p1), .val (.long q2), .second, .val (.long q3), .second, .val (.ref ba), .val (.ref w_EXCEPT), .val (.long lf), .second, .val (.long rg), .second, .val (.int r1), .unset, .unset, .unset, .unset, .unset] [(.long (2 : Int64)), (.ref w_EXCEPT)])) _
      refine Jvm.Stand.ldc2J X87 hx hown (mvT hZ (hw _ (List.mem_of_getElem? (i := 22) rfl))) rfl (hb hby at_87) ?_
      show Steps p.tables e below (T87.setTop (mkF m 90 #[.val (.int p1), .val (.long q2), .second, .val (.long q3), .second, .val (.ref ba), .val (.ref w_EXCEPT), .val (.long lf), .second, .val (.long rg), .second, .val (.int r1), .unset, .unset, .unset, .unset, .unset] [(.long (2 : Int64)), (.long (2 : Int64)), (.ref w_EXCEPT)])) _
      exact k
    obtain ⟨cq90, kq90, qa90, qb90, qc90⟩ := isOf hZ e87 (E_EXCEPT.ext F48.2)
    obtain ⟨_, _, ⟨T90, L90, k90, n90⟩, -, X90, ⟨Lc90, hQ90, l90, y90, z90⟩, st90⟩ := X87.virtualBack hx (y := (⟨"com/example/millrace/millrace/plan/SetOperation$Kind", "copies", "(JJ)J"⟩ : MethodName)) (z := (⟨"com/example/millrace/millrace/plan/SetOperation$Kind", "copies", "(JJ)J"⟩ : MethodName)) hown (mvT hZ (hw _ (List.mem_of_getElem? (i := 23) rfl))) (mvT hZ (hw _ (List.mem_of_getElem? (i := 24) rfl))) (notFace_of_selects (args := #[]) (mvT hZ (hw _ (List.mem_of_getElem? (i := 26) rfl)))) (mvT hZ (hw _ (List.mem_of_getElem? (i := 26) rfl))) (mvT hZ (hw _ (List.mem_of_getElem? (i := 25) rfl))) (by decide) (backOf (W := 0) (rm21 l Z a0 hw [] w_EXCEPT (2 : Int64) (2 : Int64)  h47 n0 Z50 (E_EXCEPT.ext F48.2) (O_EXCEPT.ext F48.2)) hZ (hw _ (List.mem_of_getElem? (i := 27) rfl)) (hw _ (List.mem_of_getElem? (i := 3) rfl)) (by decide) (by decide)) qa90 qc90 (g := (mkF m 90 #[.val (.int p1), .val (.long q2), .second, .val (.long q3), .second, .val (.ref ba), .val (.ref w_EXCEPT), .val (.long lf), .second, .val (.long rg), .second, .val (.int r1), .unset, .unset, .unset, .unset, .unset] [(.long (2 : Int64)), (.long (2 : Int64)), (.ref w_EXCEPT)])) rfl (by rw [hml]; rfl) (Steps.refl _) (argsL := [(.long (2 : Int64)), (.long (2 : Int64))]) (rest := []) (lenOf pd_1 rfl) rfl (by show 2 * 0 + _ ≤ _; exact Nat.le_of_eq rfl) (hb hby at_90) (fun _ _ => ⟨rfl, e87, (by decide : 1 + 0 ≤ _), (by decide : 5 + 0 ≤ _)⟩)
    dsimp only [Pt.U, Pt.locs, Pt.cells, Pt.slots] at X90 l90 y90 z90 st90 hQ90
    subst l90 y90 z90
    obtain ⟨rfl, N90q, e90⟩ := hQ90
    have N90 := Fr.app N87 N90q
    have P91 : ∀ t, Steps p.tables e below (T90.setTop (mkF m 93 #[.val (.int p1), .val (.long q2), .second, .val (.long q3), .second, .val (.ref ba), .val (.ref w_EXCEPT), .val (.long lf), .second, .val (.long rg), .second, .val (.int r1), .unset, .unset, .unset, .unset, .unset] [(.long (if (0 : Int64) < (2 : Int64) then (if (2 : Int64) = (0 : Int64) then (1 : Int64) else (0 : Int64)) else (0 : Int64)))])) t → Steps p.tables e below (s₁.setTop (entryFrame m #[(.int p1), (.long q2), (.long q3)] maxLocals)) t := fun t k => P89 _ (st90.trans k)
    have P92 : ∀ t, Steps p.tables e below (T90.setTop (mkF m 127 #[.val (.int p1), .val (.long q2), .second, .val (.long q3), .second, .val (.ref ba), .val (.ref w_EXCEPT), .val (.long lf), .second, .val (.long rg), .second, .val (.int r1), .val (.int (1 : Int32)), .unset, .unset, .unset, .unset] [(.long rg), (.long lf), (.ref w_EXCEPT)])) t → Steps p.tables e below (s₁.setTop (entryFrame m #[(.int p1), (.long q2), (.long q3)] maxLocals)) t := by
      intro t k
      refine P91 _ ?_
      refine XT.lconst X90.here hx rfl (hb hby at_93) ?_
      show Steps p.tables e below (T90.setTop (mkF m 94 #[.val (.int p1), .val (.long q2), .second, .val (.long q3), .second, .val (.ref ba), .val (.ref w_EXCEPT), .val (.long lf), .second, .val (.long rg), .second, .val (.int r1), .unset, .unset, .unset, .unset, .unset] [(.long (1 : Int64)), (.long (if (0 : Int64) < (2 : Int64) then (if (2 : Int64) = (0 : Int64) then (1 : Int64) else (0 : Int64)) else (0 : Int64)))])) _
      refine XT.lcmp X90.here hx rfl (hb hby at_94) rfl ?_
      show Steps p.tables e below (T90.setTop (mkF m 95 #[.val (.int p1), .val (.long q2), .second, .val (.long q3), .second, .val (.ref ba), .val (.ref w_EXCEPT), .val (.long lf), .second, .val (.long rg), .second, .val (.int r1), .unset, .unset, .unset, .unset, .unset] [(.int (XT.cmpL (if (0 : Int64) < (2 : Int64) then (if (2 : Int64) = (0 : Int64) then (1 : Int64) else (0 : Int64)) else (0 : Int64)) (1 : Int64)))])) _
      refine XS.ifNo X90.here hx rfl (hb hby at_95) rfl (XT.ll_gt_f (by decide)) ?_
      show Steps p.tables e below (T90.setTop (mkF m 98 #[.val (.int p1), .val (.long q2), .second, .val (.long q3), .second, .val (.ref ba), .val (.ref w_EXCEPT), .val (.long lf), .second, .val (.long rg), .second, .val (.int r1), .unset, .unset, .unset, .unset, .unset] [])) _
      refine XS.iconst X90.here hx rfl (hb hby at_98) ?_
      show Steps p.tables e below (T90.setTop (mkF m 99 #[.val (.int p1), .val (.long q2), .second, .val (.long q3), .second, .val (.ref ba), .val (.ref w_EXCEPT), .val (.long lf), .second, .val (.long rg), .second, .val (.int r1), .unset, .unset, .unset, .unset, .unset] [(.int (1 : Int32))])) _
      refine XS.goto X90.here hx rfl (pc0 := 99) (pc' := 103) rfl (hb hby at_99) (by decide) (by decide) ?_
      show Steps p.tables e below (T90.setTop (mkF m 103 #[.val (.int p1), .val (.long q2), .second, .val (.long q3), .second, .val (.ref ba), .val (.ref w_EXCEPT), .val (.long lf), .second, .val (.long rg), .second, .val (.int r1), .unset, .unset, .unset, .unset, .unset] [(.int (1 : Int32))])) _
      refine XS.istore X90.here hx rfl (hb hby at_103) rfl (l' := #[.val (.int p1), .val (.long q2), .second, .val (.long q3), .second, .val (.ref ba), .val (.ref w_EXCEPT), .val (.long lf), .second, .val (.long rg), .second, .val (.int r1), .val (.int (1 : Int32)), .unset, .unset, .unset, .unset]) rfl ?_
      show Steps p.tables e below (T90.setTop (mkF m 105 #[.val (.int p1), .val (.long q2), .second, .val (.long q3), .second, .val (.ref ba), .val (.ref w_EXCEPT), .val (.long lf), .second, .val (.long rg), .second, .val (.int r1), .val (.int (1 : Int32)), .unset, .unset, .unset, .unset] [])) _
      refine XS.iload X90.here hx rfl (hb hby at_105) rfl ?_
      show Steps p.tables e below (T90.setTop (mkF m 107 #[.val (.int p1), .val (.long q2), .second, .val (.long q3), .second, .val (.ref ba), .val (.ref w_EXCEPT), .val (.long lf), .second, .val (.long rg), .second, .val (.int r1), .val (.int (1 : Int32)), .unset, .unset, .unset, .unset] [(.int r1)])) _
      refine XS.iload X90.here hx rfl (hb hby at_107) rfl ?_
      show Steps p.tables e below (T90.setTop (mkF m 109 #[.val (.int p1), .val (.long q2), .second, .val (.long q3), .second, .val (.ref ba), .val (.ref w_EXCEPT), .val (.long lf), .second, .val (.long rg), .second, .val (.int r1), .val (.int (1 : Int32)), .unset, .unset, .unset, .unset] [(.int (1 : Int32)), (.int r1)])) _
      refine XS.icmpYes X90.here hx rfl (pc0 := 109) (pc' := 114) rfl (hb hby at_109) rfl (XT.ii_eq_t r1e) (by decide) (by decide) ?_
      show Steps p.tables e below (T90.setTop (mkF m 114 #[.val (.int p1), .val (.long q2), .second, .val (.long q3), .second, .val (.ref ba), .val (.ref w_EXCEPT), .val (.long lf), .second, .val (.long rg), .second, .val (.int r1), .val (.int (1 : Int32)), .unset, .unset, .unset, .unset] [])) _
      refine XS.iload X90.here hx rfl (hb hby at_114) rfl ?_
      show Steps p.tables e below (T90.setTop (mkF m 116 #[.val (.int p1), .val (.long q2), .second, .val (.long q3), .second, .val (.ref ba), .val (.ref w_EXCEPT), .val (.long lf), .second, .val (.long rg), .second, .val (.int r1), .val (.int (1 : Int32)), .unset, .unset, .unset, .unset] [(.int r1)])) _
      refine XS.ifYes X90.here hx rfl (pc0 := 116) (pc' := 121) rfl (hb hby at_116) rfl (XT.i0_ne_t (by rw [r1e]; decide)) (by decide) (by decide) ?_
      show Steps p.tables e below (T90.setTop (mkF m 121 #[.val (.int p1), .val (.long q2), .second, .val (.long q3), .second, .val (.ref ba), .val (.ref w_EXCEPT), .val (.long lf), .second, .val (.long rg), .second, .val (.int r1), .val (.int (1 : Int32)), .unset, .unset, .unset, .unset] [])) _
      refine XS.aload X90.here hx rfl (hb hby at_121) rfl rfl ?_
      show Steps p.tables e below (T90.setTop (mkF m 123 #[.val (.int p1), .val (.long q2), .second, .val (.long q3), .second, .val (.ref ba), .val (.ref w_EXCEPT), .val (.long lf), .second, .val (.long rg), .second, .val (.int r1), .val (.int (1 : Int32)), .unset, .unset, .unset, .unset] [(.ref w_EXCEPT)])) _
      refine XT.lload X90.here hx rfl (hb hby at_123) rfl ?_
      show Steps p.tables e below (T90.setTop (mkF m 125 #[.val (.int p1), .val (.long q2), .second, .val (.long q3), .second, .val (.ref ba), .val (.ref w_EXCEPT), .val (.long lf), .second, .val (.long rg), .second, .val (.int r1), .val (.int (1 : Int32)), .unset, .unset, .unset, .unset] [(.long lf), (.ref w_EXCEPT)])) _
      refine XT.lload X90.here hx rfl (hb hby at_125) rfl ?_
      show Steps p.tables e below (T90.setTop (mkF m 127 #[.val (.int p1), .val (.long q2), .second, .val (.long q3), .second, .val (.ref ba), .val (.ref w_EXCEPT), .val (.long lf), .second, .val (.long rg), .second, .val (.int r1), .val (.int (1 : Int32)), .unset, .unset, .unset, .unset] [(.long rg), (.long lf), (.ref w_EXCEPT)])) _
      exact k
    obtain ⟨cq93, kq93, qa93, qb93, qc93⟩ := isOf hZ e90 (E_EXCEPT.ext F48.2)
    obtain ⟨_, _, ⟨T93, L93, k93, n93⟩, -, X93, ⟨Lc93, hQ93, l93, y93, z93⟩, st93⟩ := X90.virtualBack hx (y := (⟨"com/example/millrace/millrace/plan/SetOperation$Kind", "copies", "(JJ)J"⟩ : MethodName)) (z := (⟨"com/example/millrace/millrace/plan/SetOperation$Kind", "copies", "(JJ)J"⟩ : MethodName)) hown (mvT hZ (hw _ (List.mem_of_getElem? (i := 23) rfl))) (mvT hZ (hw _ (List.mem_of_getElem? (i := 24) rfl))) (notFace_of_selects (args := #[]) (mvT hZ (hw _ (List.mem_of_getElem? (i := 26) rfl)))) (mvT hZ (hw _ (List.mem_of_getElem? (i := 26) rfl))) (mvT hZ (hw _ (List.mem_of_getElem? (i := 25) rfl))) (by decide) (backOf (W := 0) (rm21 l Z a0 hw [] w_EXCEPT lf rg  h47 n0 Z50 (E_EXCEPT.ext F48.2) (O_EXCEPT.ext F48.2)) hZ (hw _ (List.mem_of_getElem? (i := 27) rfl)) (hw _ (List.mem_of_getElem? (i := 3) rfl)) (by decide) (by decide)) qa93 qc93 (g := (mkF m 127 #[.val (.int p1), .val (.long q2), .second, .val (.long q3), .second, .val (.ref ba), .val (.ref w_EXCEPT), .val (.long lf), .second, .val (.long rg), .second, .val (.int r1), .val (.int (1 : Int32)), .unset, .unset, .unset, .unset] [(.long rg), (.long lf), (.ref w_EXCEPT)])) rfl (by rw [hml]; rfl) (Steps.refl _) (argsL := [(.long lf), (.long rg)]) (rest := []) (lenOf pd_1 rfl) rfl (by show 2 * 0 + _ ≤ _; exact Nat.le_of_eq rfl) (hb hby at_127) (fun _ _ => ⟨rfl, e90, (by decide : 1 + 0 ≤ _), (by decide : 5 + 0 ≤ _)⟩)
    dsimp only [Pt.U, Pt.locs, Pt.cells, Pt.slots] at X93 l93 y93 z93 st93 hQ93
    subst l93 y93 z93
    obtain ⟨rfl, N93q, e93⟩ := hQ93
    have N93 := Fr.app N90 N93q
    have P94 : ∀ t, Steps p.tables e below (T93.setTop (mkF m 130 #[.val (.int p1), .val (.long q2), .second, .val (.long q3), .second, .val (.ref ba), .val (.ref w_EXCEPT), .val (.long lf), .second, .val (.long rg), .second, .val (.int r1), .val (.int (1 : Int32)), .unset, .unset, .unset, .unset] [(.long (if (0 : Int64) < lf then (if rg = (0 : Int64) then (1 : Int64) else (0 : Int64)) else (0 : Int64)))])) t → Steps p.tables e below (s₁.setTop (entryFrame m #[(.int p1), (.long q2), (.long q3)] maxLocals)) t := fun t k => P92 _ (st93.trans k)
    have P95 : ∀ t, Steps p.tables e below (T93.setTop (mkF m 132 #[.val (.int p1), .val (.long q2), .second, .val (.long q3), .second, .val (.ref ba), .val (.ref w_EXCEPT), .val (.long lf), .second, .val (.long rg), .second, .val (.int r1), .val (.int (1 : Int32)), .val (.long (if (0 : Int64) < lf then (if rg = (0 : Int64) then (1 : Int64) else (0 : Int64)) else (0 : Int64))), .second, .unset, .unset] [])) t → Steps p.tables e below (s₁.setTop (entryFrame m #[(.int p1), (.long q2), (.long q3)] maxLocals)) t := by
      intro t k
      refine P94 _ ?_
      refine XT.lstore X93.here hx rfl (hb hby at_130) rfl (l' := #[.val (.int p1), .val (.long q2), .second, .val (.long q3), .second, .val (.ref ba), .val (.ref w_EXCEPT), .val (.long lf), .second, .val (.long rg), .second, .val (.int r1), .val (.int (1 : Int32)), .val (.long (if (0 : Int64) < lf then (if rg = (0 : Int64) then (1 : Int64) else (0 : Int64)) else (0 : Int64))), .second, .unset, .unset]) rfl ?_
      show Steps p.tables e below (T93.setTop (mkF m 132 #[.val (.int p1), .val (.long q2), .second, .val (.long q3), .second, .val (.ref ba), .val (.ref w_EXCEPT), .val (.long lf), .second, .val (.long rg), .second, .val (.int r1), .val (.int (1 : Int32)), .val (.long (if (0 : Int64) < lf then (if rg = (0 : Int64) then (1 : Int64) else (0 : Int64)) else (0 : Int64))), .second, .unset, .unset] [])) _
      exact k
    obtain ⟨cv, hcv⟩ : ∃ z : Int64, z = (if (0 : Int64) < lf then (if rg = (0 : Int64) then (1 : Int64) else (0 : Int64)) else (0 : Int64)) := ⟨_, rfl⟩
    rw [← hcv] at P95
    have P96 : ∀ t, Steps p.tables e below (T93.setTop (mkF m 137 #[.val (.int p1), .val (.long q2), .second, .val (.long q3), .second, .val (.ref ba), .val (.ref w_EXCEPT), .val (.long lf), .second, .val (.long rg), .second, .val (.int r1), .val (.int (1 : Int32)), .val (.long cv), .second, .unset, .unset] [(.long (1 : Int64)), (.long lf), (.ref w_EXCEPT)])) t → Steps p.tables e below (s₁.setTop (entryFrame m #[(.int p1), (.long q2), (.long q3)] maxLocals)) t := by
      intro t k
      refine P95 _ ?_
      refine XS.aload X93.here hx rfl (hb hby at_132) rfl rfl ?_
      show Steps p.tables e below (T93.setTop (mkF m 134 #[.val (.int p1), .val (.long q2), .second, .val (.long q3), .second, .val (.ref ba), .val (.ref w_EXCEPT), .val (.long lf), .second, .val (.long rg), .second, .val (.int r1), .val (.int (1 : Int32)), .val (.long cv), .second, .unset, .unset] [(.ref w_EXCEPT)])) _
      refine XT.lload X93.here hx rfl (hb hby at_134) rfl ?_
      show Steps p.tables e below (T93.setTop (mkF m 136 #[.val (.int p1), .val (.long q2), .second, .val (.long q3), .second, .val (.ref ba), .val (.ref w_EXCEPT), .val (.long lf), .second, .val (.long rg), .second, .val (.int r1), .val (.int (1 : Int32)), .val (.long cv), .second, .unset, .unset] [(.long lf), (.ref w_EXCEPT)])) _
      refine XT.lconst X93.here hx rfl (hb hby at_136) ?_
      show Steps p.tables e below (T93.setTop (mkF m 137 #[.val (.int p1), .val (.long q2), .second, .val (.long q3), .second, .val (.ref ba), .val (.ref w_EXCEPT), .val (.long lf), .second, .val (.long rg), .second, .val (.int r1), .val (.int (1 : Int32)), .val (.long cv), .second, .unset, .unset] [(.long (1 : Int64)), (.long lf), (.ref w_EXCEPT)])) _
      exact k
    obtain ⟨_, _, ⟨T97, L97, k97, n97⟩, -, X97, ⟨Lc97, hQ97, l97, y97, z97⟩, st97⟩ := Jvm.LawKit.callS X93 hx (y := (⟨"java/lang/Math", "min", "(JJ)J"⟩ : MethodName)) hown (mvT hZ (hw _ (List.mem_of_getElem? (i := 41) rfl))) (mvT hZ (hw _ (List.mem_of_getElem? (i := 38) rfl))) (mvT hZ (hw _ (List.mem_of_getElem? (i := 39) rfl))) (mvT hZ (hw _ (List.mem_of_getElem? (i := 40) rfl))) (by decide) (backOf (W := 1) (rm1 l Z a0 hw [] lf (1 : Int64)  h47 n0 Z50 ) hZ (hw _ (List.mem_of_getElem? (i := 40) rfl)) (hw _ (List.mem_of_getElem? (i := 39) rfl)) (by decide) (by decide)) (g := (mkF m 137 #[.val (.int p1), .val (.long q2), .second, .val (.long q3), .second, .val (.ref ba), .val (.ref w_EXCEPT), .val (.long lf), .second, .val (.long rg), .second, .val (.int r1), .val (.int (1 : Int32)), .val (.long cv), .second, .unset, .unset] [(.long (1 : Int64)), (.long lf), (.ref w_EXCEPT)])) rfl (by rw [hml]; rfl) (argsL := [(.long lf), (.long (1 : Int64))]) (rest := [(.ref w_EXCEPT)]) (lenOf pd_1 rfl) rfl (by show 2 * 0 + _ ≤ _; exact Nat.le_of_eq rfl) (hb hby at_137) (fun _ _ => ⟨rfl, e93, (by decide : 1 + 0 ≤ _), (by decide : 5 + 0 ≤ _)⟩)
    dsimp only [Pt.U, Pt.locs, Pt.cells, Pt.slots] at X97 l97 y97 z97 st97 hQ97
    subst l97 y97 z97
    obtain ⟨rfl, N97q, e97⟩ := hQ97
    have N97 := Fr.app N93 N97q
    have P98 : ∀ t, Steps p.tables e below (T97.setTop (mkF m 140 #[.val (.int p1), .val (.long q2), .second, .val (.long q3), .second, .val (.ref ba), .val (.ref w_EXCEPT), .val (.long lf), .second, .val (.long rg), .second, .val (.int r1), .val (.int (1 : Int32)), .val (.long cv), .second, .unset, .unset] [(.long (if (1 : Int64) < lf then (1 : Int64) else lf)), (.ref w_EXCEPT)])) t → Steps p.tables e below (s₁.setTop (entryFrame m #[(.int p1), (.long q2), (.long q3)] maxLocals)) t := fun t k => P96 _ (st97 _ k)
    obtain ⟨lm, hlm⟩ : ∃ z : Int64, z = (if (1 : Int64) < lf then (1 : Int64) else lf) := ⟨_, rfl⟩
    rw [← hlm] at P98
    have P99 : ∀ t, Steps p.tables e below (T97.setTop (mkF m 143 #[.val (.int p1), .val (.long q2), .second, .val (.long q3), .second, .val (.ref ba), .val (.ref w_EXCEPT), .val (.long lf), .second, .val (.long rg), .second, .val (.int r1), .val (.int (1 : Int32)), .val (.long cv), .second, .unset, .unset] [(.long (1 : Int64)), (.long rg), (.long lm), (.ref w_EXCEPT)])) t → Steps p.tables e below (s₁.setTop (entryFrame m #[(.int p1), (.long q2), (.long q3)] maxLocals)) t := by
      intro t k
      refine P98 _ ?_
      refine XT.lload X97.here hx rfl (hb hby at_140) rfl ?_
      show Steps p.tables e below (T97.setTop (mkF m 142 #[.val (.int p1), .val (.long q2), .second, .val (.long q3), .second, .val (.ref ba), .val (.ref w_EXCEPT), .val (.long lf), .second, .val (.long rg), .second, .val (.int r1), .val (.int (1 : Int32)), .val (.long cv), .second, .unset, .unset] [(.long rg), (.long lm), (.ref w_EXCEPT)])) _
      refine XT.lconst X97.here hx rfl (hb hby at_142) ?_
      show Steps p.tables e below (T97.setTop (mkF m 143 #[.val (.int p1), .val (.long q2), .second, .val (.long q3), .second, .val (.ref ba), .val (.ref w_EXCEPT), .val (.long lf), .second, .val (.long rg), .second, .val (.int r1), .val (.int (1 : Int32)), .val (.long cv), .second, .unset, .unset] [(.long (1 : Int64)), (.long rg), (.long lm), (.ref w_EXCEPT)])) _
      exact k
    obtain ⟨_, _, ⟨T100, L100, k100, n100⟩, -, X100, ⟨Lc100, hQ100, l100, y100, z100⟩, st100⟩ := Jvm.LawKit.callS X97 hx (y := (⟨"java/lang/Math", "min", "(JJ)J"⟩ : MethodName)) hown (mvT hZ (hw _ (List.mem_of_getElem? (i := 41) rfl))) (mvT hZ (hw _ (List.mem_of_getElem? (i := 38) rfl))) (mvT hZ (hw _ (List.mem_of_getElem? (i := 39) rfl))) (mvT hZ (hw _ (List.mem_of_getElem? (i := 40) rfl))) (by decide) (backOf (W := 3) (rm1 l Z a0 hw [] rg (1 : Int64)  h47 n0 Z50 ) hZ (hw _ (List.mem_of_getElem? (i := 40) rfl)) (hw _ (List.mem_of_getElem? (i := 39) rfl)) (by decide) (by decide)) (g := (mkF m 143 #[.val (.int p1), .val (.long q2), .second, .val (.long q3), .second, .val (.ref ba), .val (.ref w_EXCEPT), .val (.long lf), .second, .val (.long rg), .second, .val (.int r1), .val (.int (1 : Int32)), .val (.long cv), .second, .unset, .unset] [(.long (1 : Int64)), (.long rg), (.long lm), (.ref w_EXCEPT)])) rfl (by rw [hml]; rfl) (argsL := [(.long rg), (.long (1 : Int64))]) (rest := [(.long lm), (.ref w_EXCEPT)]) (lenOf pd_1 rfl) rfl (by show 2 * 0 + _ ≤ _; exact Nat.le_of_eq rfl) (hb hby at_143) (fun _ _ => ⟨rfl, e97, (by decide : 1 + 0 ≤ _), (by decide : 5 + 0 ≤ _)⟩)
    dsimp only [Pt.U, Pt.locs, Pt.cells, Pt.slots] at X100 l100 y100 z100 st100 hQ100
    subst l100 y100 z100
    obtain ⟨rfl, N100q, e100⟩ := hQ100
    have N100 := Fr.app N97 N100q
    have P101 : ∀ t, Steps p.tables e below (T100.setTop (mkF m 146 #[.val (.int p1), .val (.long q2), .second, .val (.long q3), .second, .val (.ref ba), .val (.ref w_EXCEPT), .val (.long lf), .second, .val (.long rg), .second, .val (.int r1), .val (.int (1 : Int32)), .val (.long cv), .second, .unset, .unset] [(.long (if (1 : Int64) < rg then (1 : Int64) else rg)), (.long lm), (.ref w_EXCEPT)])) t → Steps p.tables e below (s₁.setTop (entryFrame m #[(.int p1), (.long q2), (.long q3)] maxLocals)) t := fun t k => P99 _ (st100 _ k)
    obtain ⟨rm, hrm⟩ : ∃ z : Int64, z = (if (1 : Int64) < rg then (1 : Int64) else rg) := ⟨_, rfl⟩
    rw [← hrm] at P101
    obtain ⟨cq102, kq102, qa102, qb102, qc102⟩ := isOf hZ e100 (E_EXCEPT.ext F48.2)
    obtain ⟨_, _, ⟨T102, L102, k102, n102⟩, -, X102, ⟨Lc102, hQ102, l102, y102, z102⟩, st102⟩ := X100.virtualBack hx (y := (⟨"com/example/millrace/millrace/plan/SetOperation$Kind", "copies", "(JJ)J"⟩ : MethodName)) (z := (⟨"com/example/millrace/millrace/plan/SetOperation$Kind", "copies", "(JJ)J"⟩ : MethodName)) hown (mvT hZ (hw _ (List.mem_of_getElem? (i := 23) rfl))) (mvT hZ (hw _ (List.mem_of_getElem? (i := 24) rfl))) (notFace_of_selects (args := #[]) (mvT hZ (hw _ (List.mem_of_getElem? (i := 26) rfl)))) (mvT hZ (hw _ (List.mem_of_getElem? (i := 26) rfl))) (mvT hZ (hw _ (List.mem_of_getElem? (i := 25) rfl))) (by decide) (backOf (W := 0) (rm21 l Z a0 hw [] w_EXCEPT lm rm  h47 n0 Z50 (E_EXCEPT.ext F48.2) (O_EXCEPT.ext F48.2)) hZ (hw _ (List.mem_of_getElem? (i := 27) rfl)) (hw _ (List.mem_of_getElem? (i := 3) rfl)) (by decide) (by decide)) qa102 qc102 (g := (mkF m 146 #[.val (.int p1), .val (.long q2), .second, .val (.long q3), .second, .val (.ref ba), .val (.ref w_EXCEPT), .val (.long lf), .second, .val (.long rg), .second, .val (.int r1), .val (.int (1 : Int32)), .val (.long cv), .second, .unset, .unset] [(.long rm), (.long lm), (.ref w_EXCEPT)])) rfl (by rw [hml]; rfl) (Steps.refl _) (argsL := [(.long lm), (.long rm)]) (rest := []) (lenOf pd_1 rfl) rfl (by show 2 * 0 + _ ≤ _; exact Nat.le_of_eq rfl) (hb hby at_146) (fun _ _ => ⟨rfl, e100, (by decide : 1 + 0 ≤ _), (by decide : 5 + 0 ≤ _)⟩)
    dsimp only [Pt.U, Pt.locs, Pt.cells, Pt.slots] at X102 l102 y102 z102 st102 hQ102
    subst l102 y102 z102
    obtain ⟨rfl, N102q, e102⟩ := hQ102
    have N102 := Fr.app N100 N102q
    have P103 : ∀ t, Steps p.tables e below (T102.setTop (mkF m 149 #[.val (.int p1), .val (.long q2), .second, .val (.long q3), .second, .val (.ref ba), .val (.ref w_EXCEPT), .val (.long lf), .second, .val (.long rg), .second, .val (.int r1), .val (.int (1 : Int32)), .val (.long cv), .second, .unset, .unset] [(.long (if (0 : Int64) < lm then (if rm = (0 : Int64) then (1 : Int64) else (0 : Int64)) else (0 : Int64)))])) t → Steps p.tables e below (s₁.setTop (entryFrame m #[(.int p1), (.long q2), (.long q3)] maxLocals)) t := fun t k => P101 _ (st102.trans k)
    have P104 : ∀ t, Steps p.tables e below (T102.setTop (mkF m 151 #[.val (.int p1), .val (.long q2), .second, .val (.long q3), .second, .val (.ref ba), .val (.ref w_EXCEPT), .val (.long lf), .second, .val (.long rg), .second, .val (.int r1), .val (.int (1 : Int32)), .val (.long cv), .second, .val (.long (if (0 : Int64) < lm then (if rm = (0 : Int64) then (1 : Int64) else (0 : Int64)) else (0 : Int64))), .second] [])) t → Steps p.tables e below (s₁.setTop (entryFrame m #[(.int p1), (.long q2), (.long q3)] maxLocals)) t := by
      intro t k
      refine P103 _ ?_
      refine XT.lstore X102.here hx rfl (hb hby at_149) rfl (l' := #[.val (.int p1), .val (.long q2), .second, .val (.long q3), .second, .val (.ref ba), .val (.ref w_EXCEPT), .val (.long lf), .second, .val (.long rg), .second, .val (.int r1), .val (.int (1 : Int32)), .val (.long cv), .second, .val (.long (if (0 : Int64) < lm then (if rm = (0 : Int64) then (1 : Int64) else (0 : Int64)) else (0 : Int64))), .second]) rfl ?_
      show Steps p.tables e below (T102.setTop (mkF m 151 #[.val (.int p1), .val (.long q2), .second, .val (.long q3), .second, .val (.ref ba), .val (.ref w_EXCEPT), .val (.long lf), .second, .val (.long rg), .second, .val (.int r1), .val (.int (1 : Int32)), .val (.long cv), .second, .val (.long (if (0 : Int64) < lm then (if rm = (0 : Int64) then (1 : Int64) else (0 : Int64)) else (0 : Int64))), .second] [])) _
      exact k
    obtain ⟨cw, hcw⟩ : ∃ z : Int64, z = (if (0 : Int64) < lm then (if rm = (0 : Int64) then (1 : Int64) else (0 : Int64)) else (0 : Int64)) := ⟨_, rfl⟩
    rw [← hcw] at P104
    obtain ⟨g1, g2, g3⟩ := own_pl1 hl0 hr0 hlm hrm hcv hcw
    have P105 : ∀ t, Steps p.tables e below (T102.setTop (mkF m 178 #[.val (.int p1), .val (.long q2), .second, .val (.long q3), .second, .val (.ref ba), .val (.ref w_EXCEPT), .val (.long lf), .second, .val (.long rg), .second, .val (.int r1), .val (.int (1 : Int32)), .val (.long cv), .second, .val (.long cw), .second] [(.int (1 : Int32))])) t → Steps p.tables e below (s₁.setTop (entryFrame m #[(.int p1), (.long q2), (.long q3)] maxLocals)) t := by
      intro t k
      refine P104 _ ?_
      refine XT.lload X102.here hx rfl (hb hby at_151) rfl ?_
      show Steps p.tables e below (T102.setTop (mkF m 153 #[.val (.int p1), .val (.long q2), .second, .val (.long q3), .second, .val (.ref ba), .val (.ref w_EXCEPT), .val (.long lf), .second, .val (.long rg), .second, .val (.int r1), .val (.int (1 : Int32)), .val (.long cv), .second, .val (.long cw), .second] [(.long cv)])) _
      refine XT.lload X102.here hx rfl (hb hby at_153) rfl ?_
      show Steps p.tables e below (T102.setTop (mkF m 155 #[.val (.int p1), .val (.long q2), .second, .val (.long q3), .second, .val (.ref ba), .val (.ref w_EXCEPT), .val (.long lf), .second, .val (.long rg), .second, .val (.int r1), .val (.int (1 : Int32)), .val (.long cv), .second, .val (.long cw), .second] [(.long cw), (.long cv)])) _
      refine XT.lcmp X102.here hx rfl (hb hby at_155) rfl ?_
      show Steps p.tables e below (T102.setTop (mkF m 156 #[.val (.int p1), .val (.long q2), .second, .val (.long q3), .second, .val (.ref ba), .val (.ref w_EXCEPT), .val (.long lf), .second, .val (.long rg), .second, .val (.int r1), .val (.int (1 : Int32)), .val (.long cv), .second, .val (.long cw), .second] [(.int (XT.cmpL cv cw))])) _
      refine XS.ifNo X102.here hx rfl (hb hby at_156) rfl (XT.ll_ne_f g1) ?_
      show Steps p.tables e below (T102.setTop (mkF m 159 #[.val (.int p1), .val (.long q2), .second, .val (.long q3), .second, .val (.ref ba), .val (.ref w_EXCEPT), .val (.long lf), .second, .val (.long rg), .second, .val (.int r1), .val (.int (1 : Int32)), .val (.long cv), .second, .val (.long cw), .second] [])) _
      refine XT.lload X102.here hx rfl (hb hby at_159) rfl ?_
      show Steps p.tables e below (T102.setTop (mkF m 161 #[.val (.int p1), .val (.long q2), .second, .val (.long q3), .second, .val (.ref ba), .val (.ref w_EXCEPT), .val (.long lf), .second, .val (.long rg), .second, .val (.int r1), .val (.int (1 : Int32)), .val (.long cv), .second, .val (.long cw), .second] [(.long cv)])) _
      refine XT.lconst X102.here hx rfl (hb hby at_161) ?_
      show Steps p.tables e below (T102.setTop (mkF m 162 #[.val (.int p1), .val (.long q2), .second, .val (.long q3), .second, .val (.ref ba), .val (.ref w_EXCEPT), .val (.long lf), .second, .val (.long rg), .second, .val (.int r1), .val (.int (1 : Int32)), .val (.long cv), .second, .val (.long cw), .second] [(.long (0 : Int64)), (.long cv)])) _
      refine XT.lcmp X102.here hx rfl (hb hby at_162) rfl ?_
      show Steps p.tables e below (T102.setTop (mkF m 163 #[.val (.int p1), .val (.long q2), .second, .val (.long q3), .second, .val (.ref ba), .val (.ref w_EXCEPT), .val (.long lf), .second, .val (.long rg), .second, .val (.int r1), .val (.int (1 : Int32)), .val (.long cv), .second, .val (.long cw), .second] [(.int (XT.cmpL cv (0 : Int64)))])) _
      refine XS.ifNo X102.here hx rfl (hb hby at_163) rfl (XT.ll_lt_f g2) ?_
      show Steps p.tables e below (T102.setTop (mkF m 166 #[.val (.int p1), .val (.long q2), .second, .val (.long q3), .second, .val (.ref ba), .val (.ref w_EXCEPT), .val (.long lf), .second, .val (.long rg), .second, .val (.int r1), .val (.int (1 : Int32)), .val (.long cv), .second, .val (.long cw), .second] [])) _
      refine XT.lload X102.here hx rfl (hb hby at_166) rfl ?_
      show Steps p.tables e below (T102.setTop (mkF m 168 #[.val (.int p1), .val (.long q2), .second, .val (.long q3), .second, .val (.ref ba), .val (.ref w_EXCEPT), .val (.long lf), .second, .val (.long rg), .second, .val (.int r1), .val (.int (1 : Int32)), .val (.long cv), .second, .val (.long cw), .second] [(.long cv)])) _
      refine XT.lconst X102.here hx rfl (hb hby at_168) ?_
      show Steps p.tables e below (T102.setTop (mkF m 169 #[.val (.int p1), .val (.long q2), .second, .val (.long q3), .second, .val (.ref ba), .val (.ref w_EXCEPT), .val (.long lf), .second, .val (.long rg), .second, .val (.int r1), .val (.int (1 : Int32)), .val (.long cv), .second, .val (.long cw), .second] [(.long (1 : Int64)), (.long cv)])) _
      refine XT.lcmp X102.here hx rfl (hb hby at_169) rfl ?_
      show Steps p.tables e below (T102.setTop (mkF m 170 #[.val (.int p1), .val (.long q2), .second, .val (.long q3), .second, .val (.ref ba), .val (.ref w_EXCEPT), .val (.long lf), .second, .val (.long rg), .second, .val (.int r1), .val (.int (1 : Int32)), .val (.long cv), .second, .val (.long cw), .second] [(.int (XT.cmpL cv (1 : Int64)))])) _
      refine XS.ifNo X102.here hx rfl (hb hby at_170) rfl (XT.ll_gt_f g3) ?_
      show Steps p.tables e below (T102.setTop (mkF m 173 #[.val (.int p1), .val (.long q2), .second, .val (.long q3), .second, .val (.ref ba), .val (.ref w_EXCEPT), .val (.long lf), .second, .val (.long rg), .second, .val (.int r1), .val (.int (1 : Int32)), .val (.long cv), .second, .val (.long cw), .second] [])) _
      refine XS.iconst X102.here hx rfl (hb hby at_173) ?_
      show Steps p.tables e below (T102.setTop (mkF m 174 #[.val (.int p1), .val (.long q2), .second, .val (.long q3), .second, .val (.ref ba), .val (.ref w_EXCEPT), .val (.long lf), .second, .val (.long rg), .second, .val (.int r1), .val (.int (1 : Int32)), .val (.long cv), .second, .val (.long cw), .second] [(.int (1 : Int32))])) _
      refine XS.goto X102.here hx rfl (pc0 := 174) (pc' := 178) rfl (hb hby at_174) (by decide) (by decide) ?_
      show Steps p.tables e below (T102.setTop (mkF m 178 #[.val (.int p1), .val (.long q2), .second, .val (.long q3), .second, .val (.ref ba), .val (.ref w_EXCEPT), .val (.long lf), .second, .val (.long rg), .second, .val (.int r1), .val (.int (1 : Int32)), .val (.long cv), .second, .val (.long cw), .second] [(.int (1 : Int32))])) _
      exact k
    obtain ⟨fs, hr, hrun, hended, hW, hsame⟩ := X102.leave (v := some (.int (1 : Int32))) (fun h => by rw [Bd.returns] at h; cases h)
    refine ⟨_, _, P105 _ ?_, hrun, hended, _, _, rfl, ?_, ⟨_, rfl⟩, hW, hsame.mono (by decide) (by decide)⟩
    · exact retN X102 hx (t := .boolean) Bd.returns (by simp) (hb hby at_178) hr
    · show Q0 Z p1 q2 q3 w_DISTINCT w_EXCEPT w_EXCEPT_ALL w_INTERSECT w_INTERSECT_ALL h0 n0 _ T102.heap _
      rw [e102]
      exact ⟨rfl, N102⟩
  · skip
    have P106 : ∀ t, Steps p.tables e below (T47.setTop (mkF m 45 #[.val (.int p1), .val (.long q2), .second, .val (.long q3), .second, .val (.ref ba), .unset, .unset, .unset, .unset, .unset, .unset, .unset, .unset, .unset, .unset, .unset] [(.ref w_EXCEPT_ALL)])) t → Steps p.tables e below (s₁.setTop (entryFrame m #[(.int p1), (.long q2), (.long q3)] maxLocals)) t := by
      intro t k
      refine P53 _ ?_
      refine own_aal X47 hx hZ e47 F49 ⟨by decide, by decide⟩ (v := (.ref w_EXCEPT_ALL)) rfl rfl rfl (hb hby at_44) ?_
      show Steps p.tables e below (T47.setTop (mkF m 45 #[.val (.int p1), .val (.long q2), .second, .val (.long q3), .second, .val (.ref ba), .unset, .unset, .unset, .unset, .unset, .unset, .unset, .unset, .unset, .unset, .unset] [(.ref w_EXCEPT_ALL)])) _
      exact k
    have P107 : ∀ t, Steps p.tables e below (T47.setTop (mkF m 54 #[.val (.int p1), .val (.long q2), .second, .val (.long q3), .second, .val (.ref ba), .val (.ref w_EXCEPT_ALL), .val (.long (q2 &&& (9223372036854775807 : Int64))), .second, .unset, .unset, .unset, .unset, .unset, .unset, .unset, .unset] [])) t → Steps p.tables e below (s₁.setTop (entryFrame m #[(.int p1), (.long q2), (.long q3)] maxLocals)) t := by
      intro t k
      refine P106 _ ?_
      refine XS.astore X47.here hx rfl (hb hby at_45) rfl rfl (l' := #[.val (.int p1), .val (.long q2), .second, .val (.long q3), .second, .val (.ref ba), .val (.ref w_EXCEPT_ALL), .unset, .unset, .unset, .unset, .unset, .unset, .unset, .unset, .unset, .unset]) rfl ?_
      show Steps p.tables e below (T47.setTop (mkF m 47 #[.val (.int p1), .val (.long q2), .second, .val (.long q3), .second, .val (.ref ba), .val (.ref w_EXCEPT_ALL), .unset, .unset, .unset, .unset, .unset, .unset, .unset, .unset, .unset, .unset] [])) _
      refine XT.lloadN X47.here hx rfl (hb hby at_47) rfl ?_
      show Steps p.tables e below (T47.setTop (mkF m 48 #[.val (.int p1), .val (.long q2), .second, .val (.long q3), .second, .val (.ref ba), .val (.ref w_EXCEPT_ALL), .unset, .unset, .unset, .unset, .unset, .unset, .unset, .unset, .unset, .unset] [(.long q2)])) _
      refine Jvm.Stand.ldc2J X47 hx hown (mvT hZ (hw _ (List.mem_of_getElem? (i := 15) rfl))) rfl (hb hby at_48) ?_
      show Steps p.tables e below (T47.setTop (mkF m 51 #[.val (.int p1), .val (.long q2), .second, .val (.long q3), .second, .val (.ref ba), .val (.ref w_EXCEPT_ALL), .unset, .unset, .unset, .unset, .unset, .unset, .unset, .unset, .unset, .unset] [(.long (9223372036854775807 : Int64)), (.long q2)])) _
      refine XT.land X47.here hx rfl (hb hby at_51) rfl ?_
      show Steps p.tables e below (T47.setTop (mkF m 52 #[.val (.int p1), .val (.long q2), .second, .val (.long q3), .second, .val (.ref ba), .val (.ref w_EXCEPT_ALL), .unset, .unset, .unset, .unset, .unset, .unset, .unset, .unset, .unset, .unset] [(.long (q2 &&& (9223372036854775807 : Int64)))])) _
      refine XT.lstore X47.here hx rfl (hb hby at_52) rfl (l' := #[.val (.int p1), .val (.long q2), .second, .val (.long q3), .second, .val (.ref ba), .val (.ref w_EXCEPT_ALL), .val (.long (q2 &&& (9223372036854775807 : Int64))), .second, .unset, .unset, .unset, .unset, .unset, .unset, .unset, .unset]) rfl ?_
      show Steps p.tables e below (T47.setTop (mkF m 54 #[.val (.int p1), .val (.long q2), .second, .val (.long q3), .second, .val (.ref ba), .val (.ref w_EXCEPT_ALL), .val (.long (q2 &&& (9223372036854775807 : Int64))), .second, .unset, .unset, .unset, .unset, .unset, .unset, .unset, .unset] [])) _
      exact k
    obtain ⟨lf, hlf⟩ : ∃ z : Int64, z = (q2 &&& (9223372036854775807 : Int64)) := ⟨_, rfl⟩
    rw [← hlf] at P107
    have hl0 := own_nn hlf
    have P108 : ∀ t, Steps p.tables e below (T47.setTop (mkF m 61 #[.val (.int p1), .val (.long q2), .second, .val (.long q3), .second, .val (.ref ba), .val (.ref w_EXCEPT_ALL), .val (.long lf), .second, .val (.long (q3 &&& (9223372036854775807 : Int64))), .second, .unset, .unset, .unset, .unset, .unset, .unset] [])) t → Steps p.tables e below (s₁.setTop (entryFrame m #[(.int p1), (.long q2), (.long q3)] maxLocals)) t := by
      intro t k
      refine P107 _ ?_
      refine XT.lloadN X47.here hx rfl (hb hby at_54) rfl ?_
      show Steps p.tables e below (T47.setTop (mkF m 55 #[.val (.int p1), .val (.long q2), .second, .val (.long q3), .second, .val (.ref ba), .val (.ref w_EXCEPT_ALL), .val (.long lf), .second, .unset, .unset, .unset, .unset, .unset, .unset, .unset, .unset] [(.long q3)])) _
      refine Jvm.Stand.ldc2J X47 hx hown (mvT hZ (hw _ (List.mem_of_getElem? (i := 15) rfl))) rfl (hb hby at_55) ?_
      show Steps p.tables e below (T47.setTop (mkF m 58 #[.val (.int p1), .val (.long q2), .second, .val (.long q3), .second, .val (.ref ba), .val (.ref w_EXCEPT_ALL), .val (.long lf), .second, .unset, .unset, .unset, .unset, .unset, .unset, .unset, .unset] [(.long (9223372036854775807 : Int64)), (.long q3)])) _
      refine XT.land X47.here hx rfl (hb hby at_58) rfl ?_
      show Steps p.tables e below (T47.setTop (mkF m 59 #[.val (.int p1), .val (.long q2), .second, .val (.long q3), .second, .val (.ref ba), .val (.ref w_EXCEPT_ALL), .val (.long lf), .second, .unset, .unset, .unset, .unset, .unset, .unset, .unset, .unset] [(.long (q3 &&& (9223372036854775807 : Int64)))])) _
      refine XT.lstore X47.here hx rfl (hb hby at_59) rfl (l' := #[.val (.int p1), .val (.long q2), .second, .val (.long q3), .second, .val (.ref ba), .val (.ref w_EXCEPT_ALL), .val (.long lf), .second, .val (.long (q3 &&& (9223372036854775807 : Int64))), .second, .unset, .unset, .unset, .unset, .unset, .unset]) rfl ?_
      show Steps p.tables e below (T47.setTop (mkF m 61 #[.val (.int p1), .val (.long q2), .second, .val (.long q3), .second, .val (.ref ba), .val (.ref w_EXCEPT_ALL), .val (.long lf), .second, .val (.long (q3 &&& (9223372036854775807 : Int64))), .second, .unset, .unset, .unset, .unset, .unset, .unset] [])) _
      exact k
    obtain ⟨rg, hrg⟩ : ∃ z : Int64, z = (q3 &&& (9223372036854775807 : Int64)) := ⟨_, rfl⟩
    rw [← hrg] at P108
    have hr0 := own_nn hrg
    have P109 : ∀ t, Steps p.tables e below (T47.setTop (mkF m 63 #[.val (.int p1), .val (.long q2), .second, .val (.long q3), .second, .val (.ref ba), .val (.ref w_EXCEPT_ALL), .val (.long lf), .second, .val (.long rg), .second, .unset, .unset, .unset, .unset, .unset, .unset] [(.ref w_EXCEPT_ALL)])) t → Steps p.tables e below (s₁.setTop (entryFrame m #[(.int p1), (.long q2), (.long q3)] maxLocals)) t := by
      intro t k
      refine P108 _ ?_
      refine XS.aload X47.here hx rfl (hb hby at_61) rfl rfl ?_
      show Steps p.tables e below (T47.setTop (mkF m 63 #[.val (.int p1), .val (.long q2), .second, .val (.long q3), .second, .val (.ref ba), .val (.ref w_EXCEPT_ALL), .val (.long lf), .second, .val (.long rg), .second, .unset, .unset, .unset, .unset, .unset, .unset] [(.ref w_EXCEPT_ALL)])) _
      exact k
    obtain ⟨cq110, kq110, qa110, qb110, qc110⟩ := isOf hZ e47 (E_EXCEPT_ALL.ext F48.2)
    obtain ⟨_, _, ⟨T110, L110, k110, n110⟩, -, X110, ⟨Lc110, hQ110, l110, y110, z110⟩, st110⟩ := X47.virtualBack hx (y := (⟨"com/example/millrace/millrace/plan/SetOperation$Kind", "isSet", "()Z"⟩ : MethodName)) (z := (⟨"com/example/millrace/millrace/plan/SetOperation$Kind", "isSet", "()Z"⟩ : MethodName)) hown (mvT hZ (hw _ (List.mem_of_getElem? (i := 16) rfl))) (mvT hZ (hw _ (List.mem_of_getElem? (i := 17) rfl))) (notFace_of_selects (args := #[]) (mvT hZ (hw _ (List.mem_of_getElem? (i := 19) rfl)))) (mvT hZ (hw _ (List.mem_of_getElem? (i := 19) rfl))) (mvT hZ (hw _ (List.mem_of_getElem? (i := 18) rfl))) (by decide) (backOf (W := 0) (rm4 l Z a0 hw [] w_EXCEPT_ALL w_DISTINCT w_EXCEPT w_INTERSECT h47 n0 Z50 (S_DISTINCT.ext F48.2) (S_EXCEPT.ext F48.2) (S_INTERSECT.ext F48.2)) hZ (hw _ (List.mem_of_getElem? (i := 20) rfl)) (hw _ (List.mem_of_getElem? (i := 3) rfl)) (by decide) (by decide)) qa110 qc110 (g := (mkF m 63 #[.val (.int p1), .val (.long q2), .second, .val (.long q3), .second, .val (.ref ba), .val (.ref w_EXCEPT_ALL), .val (.long lf), .second, .val (.long rg), .second, .unset, .unset, .unset, .unset, .unset, .unset] [(.ref w_EXCEPT_ALL)])) rfl (by rw [hml]; rfl) (Steps.refl _) (argsL := []) (rest := []) (lenOf pd_2 rfl) rfl (by show 2 * 0 + _ ≤ _; exact Nat.le_of_eq rfl) (hb hby at_63) (fun _ _ => ⟨rfl, e47, (by decide : 1 + 0 ≤ _), (by decide : 5 + 0 ≤ _)⟩)
    dsimp only [Pt.U, Pt.locs, Pt.cells, Pt.slots] at X110 l110 y110 z110 st110 hQ110
    subst l110 y110 z110
    obtain ⟨rfl, N110q, e110⟩ := hQ110
    have N110 := Fr.app N47 N110q
    have P111 : ∀ t, Steps p.tables e below (T110.setTop (mkF m 66 #[.val (.int p1), .val (.long q2), .second, .val (.long q3), .second, .val (.ref ba), .val (.ref w_EXCEPT_ALL), .val (.long lf), .second, .val (.long rg), .second, .unset, .unset, .unset, .unset, .unset, .unset] [(.int (if w_EXCEPT_ALL = w_DISTINCT then (1 : Int32) else (if w_EXCEPT_ALL = w_EXCEPT then (1 : Int32) else (if w_EXCEPT_ALL = w_INTERSECT then (1 : Int32) else (0 : Int32)))))])) t → Steps p.tables e below (s₁.setTop (entryFrame m #[(.int p1), (.long q2), (.long q3)] maxLocals)) t := fun t k => P109 _ (st110.trans k)
    obtain ⟨r1, hr1⟩ : ∃ z : Int32, z = (if w_EXCEPT_ALL = w_DISTINCT then (1 : Int32) else (if w_EXCEPT_ALL = w_EXCEPT then (1 : Int32) else (if w_EXCEPT_ALL = w_INTERSECT then (1 : Int32) else (0 : Int32)))) := ⟨_, rfl⟩
    rw [← hr1] at P111
    have r1e : r1 = (0 : Int32) := by rw [hr1, if_neg (Fld.ne O_EXCEPT_ALL O_DISTINCT (by decide)), if_neg (Fld.ne O_EXCEPT_ALL O_EXCEPT (by decide)), if_neg (Fld.ne O_EXCEPT_ALL O_INTERSECT (by decide))]
    have P112 : ∀ t, Steps p.tables e below (T110.setTop (mkF m 74 #[.val (.int p1), .val (.long q2), .second, .val (.long q3), .second, .val (.ref ba), .val (.ref w_EXCEPT_ALL), .val (.long lf), .second, .val (.long rg), .second, .val (.int r1), .unset, .unset, .unset, .unset, .unset] [(.long (0 : Int64)), (.long (2 : Int64)), (.ref w_EXCEPT_ALL)])) t → Steps p.tables e below (s₁.setTop (entryFrame m #[(.int p1), (.long q2), (.long q3)] maxLocals)) t := by
      intro t k
      refine P111 _ ?_
      refine XS.istore X110.here hx rfl (hb hby at_66) rfl (l' := #[.val (.int p1), .val (.long q2), .second, .val (.long q3), .second, .val (.ref ba), .val (.ref w_EXCEPT_ALL), .val (.long lf), .second, .val (.long rg), .second, .val (.int r1), .unset, .unset, .unset, .unset, .unset]) rfl ?_
      show Steps p.tables e below (T110.setTop (mkF m 68 #[.val (.int p1), .val (.long q2), .second, .val (.long q3), .second, .val (.ref ba), .val (.ref w_EXCEPT_ALL), .val (.long lf), .second, .val (.long rg), .second, .val (.int r1), .unset, .unset, .unset, .unset, .unset] [])) _
      refine XS.aload X110.here hx rfl (hb hby at_68) rfl rfl ?_
      show Steps p.tables e below (T110.setTop (mkF m 70 #[.val (.int p1), .val (.long q2), .second, .val (.long q3), .second, .val (.ref ba), .val (.ref w_EXCEPT_ALL), .val (.long lf), .second, .val (.long rg), .second, .val (.int r1), .unset, .unset, .unset, .unset, .unset] [(.ref w_EXCEPT_ALL)])) _
      refine Jvm.Stand.ldc2J X110 hx hown (mvT hZ (hw _ (List.mem_of_getElem? (i := 22) rfl))) rfl (hb hby at_70) ?_
      show Steps p.tables e below (T110.setTop (mkF m 73 #[.val (.int p1), .val (.long q2), .second, .val (.long q3), .second, .val (.ref ba), .val (.ref w_EXCEPT_ALL), .val (.long lf), .second, .val (.long rg), .second, .val (.int r1), .unset, .unset, .unset, .unset, .unset] [(.long (2 : Int64)), (.ref w_EXCEPT_ALL)])) _
      refine XT.lconst X110.here hx rfl (hb hby at_73) ?_
      show Steps p.tables e below (T110.setTop (mkF m 74 #[.val (.int p1), .val (.long q2), .second, .val (.long q3), .second, .val (.ref ba), .val (.ref w_EXCEPT_ALL), .val (.long lf), .second, .val (.long rg), .second, .val (.int r1), .unset, .unset, .unset, .unset, .unset] [(.long (0 : Int64)), (.long (2 : Int64)), (.ref w_EXCEPT_ALL)])) _
      exact k
    obtain ⟨cq113, kq113, qa113, qb113, qc113⟩ := isOf hZ e110 (E_EXCEPT_ALL.ext F48.2)
    obtain ⟨_, _, ⟨T113, L113, k113, n113⟩, -, X113, ⟨Lc113, hQ113, l113, y113, z113⟩, st113⟩ := X110.virtualBack hx (y := (⟨"com/example/millrace/millrace/plan/SetOperation$Kind", "copies", "(JJ)J"⟩ : MethodName)) (z := (⟨"com/example/millrace/millrace/plan/SetOperation$Kind", "copies", "(JJ)J"⟩ : MethodName)) hown (mvT hZ (hw _ (List.mem_of_getElem? (i := 23) rfl))) (mvT hZ (hw _ (List.mem_of_getElem? (i := 24) rfl))) (notFace_of_selects (args := #[]) (mvT hZ (hw _ (List.mem_of_getElem? (i := 26) rfl)))) (mvT hZ (hw _ (List.mem_of_getElem? (i := 26) rfl))) (mvT hZ (hw _ (List.mem_of_getElem? (i := 25) rfl))) (by decide) (backOf (W := 0) (rm22 l Z a0 hw [] w_EXCEPT_ALL (2 : Int64) (0 : Int64)  h47 n0 Z50 (E_EXCEPT_ALL.ext F48.2) (O_EXCEPT_ALL.ext F48.2)) hZ (hw _ (List.mem_of_getElem? (i := 27) rfl)) (hw _ (List.mem_of_getElem? (i := 3) rfl)) (by decide) (by decide)) qa113 qc113 (g := (mkF m 74 #[.val (.int p1), .val (.long q2), .second, .val (.long q3), .second, .val (.ref ba), .val (.ref w_EXCEPT_ALL), .val (.long lf), .second, .val (.long rg), .second, .val (.int r1), .unset, .unset, .unset, .unset, .unset] [(.long (0 : Int64)), (.long (2 : Int64)), (.ref w_EXCEPT_ALL)])) rfl (by rw [hml]; rfl) (Steps.refl _) (argsL := [(.long (2 : Int64)), (.long (0 : Int64))]) (rest := []) (lenOf pd_1 rfl) rfl (by show 2 * 0 + _ ≤ _; exact Nat.le_of_eq rfl) (hb hby at_74) (fun _ _ => ⟨rfl, e110, (by decide : 1 + 0 ≤ _), (by decide : 5 + 0 ≤ _)⟩)
    dsimp only [Pt.U, Pt.locs, Pt.cells, Pt.slots] at X113 l113 y113 z113 st113 hQ113
    subst l113 y113 z113
    obtain ⟨rfl, N113q, e113⟩ := hQ113
    have N113 := Fr.app N110 N113q
    have P114 : ∀ t, Steps p.tables e below (T113.setTop (mkF m 77 #[.val (.int p1), .val (.long q2), .second, .val (.long q3), .second, .val (.ref ba), .val (.ref w_EXCEPT_ALL), .val (.long lf), .second, .val (.long rg), .second, .val (.int r1), .unset, .unset, .unset, .unset, .unset] [(.long (if ((2 : Int64) - (0 : Int64)) < (0 : Int64) then (0 : Int64) else ((2 : Int64) - (0 : Int64))))])) t → Steps p.tables e below (s₁.setTop (entryFrame m #[(.int p1), (.long q2), (.long q3)] maxLocals)) t := fun t k => P112 _ (st113.trans k)
    have P115 : ∀ t, Steps p.tables e below (T113.setTop (mkF m 120 #[.val (.int p1), .val (.long q2), .second, .val (.long q3), .second, .val (.ref ba), .val (.ref w_EXCEPT_ALL), .val (.long lf), .second, .val (.long rg), .second, .val (.int r1), .val (.int (0 : Int32)), .unset, .unset, .unset, .unset] [(.int (1 : Int32))])) t → Steps p.tables e below (s₁.setTop (entryFrame m #[(.int p1), (.long q2), (.long q3)] maxLocals)) t := by
      intro t k
      refine P114 _ ?_
      refine XT.lconst X113.here hx rfl (hb hby at_77) ?_
      show Steps p.tables e below (T113.setTop (mkF m 78 #[.val (.int p1), .val (.long q2), .second, .val (.long q3), .second, .val (.ref ba), .val (.ref w_EXCEPT_ALL), .val (.long lf), .second, .val (.long rg), .second, .val (.int r1), .unset, .unset, .unset, .unset, .unset] [(.long (1 : Int64)), (.long (if ((2 : Int64) - (0 : Int64)) < (0 : Int64) then (0 : Int64) else ((2 : Int64) - (0 : Int64))))])) _
      refine XT.lcmp X113.here hx rfl (hb hby at_78) rfl ?_
      show Steps p.tables e below (T113.setTop (mkF m 79 #[.val (.int p1), .val (.long q2), .second, .val (.long q3), .second, .val (.ref ba), .val (.ref w_EXCEPT_ALL), .val (.long lf), .second, .val (.long rg), .second, .val (.int r1), .unset, .unset, .unset, .unset, .unset] [(.int (XT.cmpL (if ((2 : Int64) - (0 : Int64)) < (0 : Int64) then (0 : Int64) else ((2 : Int64) - (0 : Int64))) (1 : Int64)))])) _
      refine XS.ifYes X113.here hx rfl (pc0 := 79) (pc' := 102) rfl (hb hby at_79) rfl (XT.ll_gt_t (by decide)) (by decide) (by decide) ?_
      show Steps p.tables e below (T113.setTop (mkF m 102 #[.val (.int p1), .val (.long q2), .second, .val (.long q3), .second, .val (.ref ba), .val (.ref w_EXCEPT_ALL), .val (.long lf), .second, .val (.long rg), .second, .val (.int r1), .unset, .unset, .unset, .unset, .unset] [])) _
      refine XS.iconst X113.here hx rfl (hb hby at_102) ?_
      show Steps p.tables e below (T113.setTop (mkF m 103 #[.val (.int p1), .val (.long q2), .second, .val (.long q3), .second, .val (.ref ba), .val (.ref w_EXCEPT_ALL), .val (.long lf), .second, .val (.long rg), .second, .val (.int r1), .unset, .unset, .unset, .unset, .unset] [(.int (0 : Int32))])) _
      refine XS.istore X113.here hx rfl (hb hby at_103) rfl (l' := #[.val (.int p1), .val (.long q2), .second, .val (.long q3), .second, .val (.ref ba), .val (.ref w_EXCEPT_ALL), .val (.long lf), .second, .val (.long rg), .second, .val (.int r1), .val (.int (0 : Int32)), .unset, .unset, .unset, .unset]) rfl ?_
      show Steps p.tables e below (T113.setTop (mkF m 105 #[.val (.int p1), .val (.long q2), .second, .val (.long q3), .second, .val (.ref ba), .val (.ref w_EXCEPT_ALL), .val (.long lf), .second, .val (.long rg), .second, .val (.int r1), .val (.int (0 : Int32)), .unset, .unset, .unset, .unset] [])) _
      refine XS.iload X113.here hx rfl (hb hby at_105) rfl ?_
      show Steps p.tables e below (T113.setTop (mkF m 107 #[.val (.int p1), .val (.long q2), .second, .val (.long q3), .second, .val (.ref ba), .val (.ref w_EXCEPT_ALL), .val (.long lf), .second, .val (.long rg), .second, .val (.int r1), .val (.int (0 : Int32)), .unset, .unset, .unset, .unset] [(.int r1)])) _
      refine XS.iload X113.here hx rfl (hb hby at_107) rfl ?_
      show Steps p.tables e below (T113.setTop (mkF m 109 #[.val (.int p1), .val (.long q2), .second, .val (.long q3), .second, .val (.ref ba), .val (.ref w_EXCEPT_ALL), .val (.long lf), .second, .val (.long rg), .second, .val (.int r1), .val (.int (0 : Int32)), .unset, .unset, .unset, .unset] [(.int (0 : Int32)), (.int r1)])) _
      refine XS.icmpYes X113.here hx rfl (pc0 := 109) (pc' := 114) rfl (hb hby at_109) rfl (XT.ii_eq_t r1e) (by decide) (by decide) ?_
      show Steps p.tables e below (T113.setTop (mkF m 114 #[.val (.int p1), .val (.long q2), .second, .val (.long q3), .second, .val (.ref ba), .val (.ref w_EXCEPT_ALL), .val (.long lf), .second, .val (.long rg), .second, .val (.int r1), .val (.int (0 : Int32)), .unset, .unset, .unset, .unset] [])) _
      refine XS.iload X113.here hx rfl (hb hby at_114) rfl ?_
      show Steps p.tables e below (T113.setTop (mkF m 116 #[.val (.int p1), .val (.long q2), .second, .val (.long q3), .second, .val (.ref ba), .val (.ref w_EXCEPT_ALL), .val (.long lf), .second, .val (.long rg), .second, .val (.int r1), .val (.int (0 : Int32)), .unset, .unset, .unset, .unset] [(.int r1)])) _
      refine XS.ifNo X113.here hx rfl (hb hby at_116) rfl (XT.i0_ne_f r1e) ?_
      show Steps p.tables e below (T113.setTop (mkF m 119 #[.val (.int p1), .val (.long q2), .second, .val (.long q3), .second, .val (.ref ba), .val (.ref w_EXCEPT_ALL), .val (.long lf), .second, .val (.long rg), .second, .val (.int r1), .val (.int (0 : Int32)), .unset, .unset, .unset, .unset] [])) _
      refine XS.iconst X113.here hx rfl (hb hby at_119) ?_
      show Steps p.tables e below (T113.setTop (mkF m 120 #[.val (.int p1), .val (.long q2), .second, .val (.long q3), .second, .val (.ref ba), .val (.ref w_EXCEPT_ALL), .val (.long lf), .second, .val (.long rg), .second, .val (.int r1), .val (.int (0 : Int32)), .unset, .unset, .unset, .unset] [(.int (1 : Int32))])) _
      exact k
    obtain ⟨fs, hr, hrun, hended, hW, hsame⟩ := X113.leave (v := some (.int (1 : Int32))) (fun h => by rw [Bd.returns] at h; cases h)
    refine ⟨_, _, P115 _ ?_, hrun, hended, _, _, rfl, ?_, ⟨_, rfl⟩, hW, hsame.mono (by decide) (by decide)⟩
    · exact retN X113 hx (t := .boolean) Bd.returns (by simp) (hb hby at_120) hr
    · show Q0 Z p1 q2 q3 w_DISTINCT w_EXCEPT w_EXCEPT_ALL w_INTERSECT w_INTERSECT_ALL h0 n0 _ T113.heap _
      rw [e113]
      exact ⟨rfl, N113⟩
  · skip
    have P116 : ∀ t, Steps p.tables e below (T47.setTop (mkF m 45 #[.val (.int p1), .val (.long q2), .second, .val (.long q3), .second, .val (.ref ba), .unset, .unset, .unset, .unset, .unset, .unset, .unset, .unset, .unset, .unset, .unset] [(.ref w_INTERSECT)])) t → Steps p.tables e below (s₁.setTop (entryFrame m #[(.int p1), (.long q2), (.long q3)] maxLocals)) t := by
      intro t k
      refine P53 _ ?_
      refine own_aal X47 hx hZ e47 F49 ⟨by decide, by decide⟩ (v := (.ref w_INTERSECT)) rfl rfl rfl (hb hby at_44) ?_
      show Steps p.tables e below (T47.setTop (mkF m 45 #[.val (.int p1), .val (.long q2), .second, .val (.long q3), .second, .val (.ref ba), .unset, .unset, .unset, .unset, .unset, .unset, .unset, .unset, .unset, .unset, .unset] [(.ref w_INTERSECT)])) _
      exact k
    have P117 : ∀ t, Steps p.tables e below (T47.setTop (mkF m 54 #[.val (.int p1), .val (.long q2), .second, .val (.long q3), .second, .val (.ref ba), .val (.ref w_INTERSECT), .val (.long (q2 &&& (9223372036854775807 : Int64))), .second, .unset, .unset, .unset, .unset, .unset, .unset, .unset, .unset] [])) t → Steps p.tables e below (s₁.setTop (entryFrame m #[(.int p1), (.long q2), (.long q3)] maxLocals)) t := by
      intro t k
      refine P116 _ ?_
      refine XS.astore X47.here hx rfl (hb hby at_45) rfl rfl (l' := #[.val (.int p1), .val (.long q2), .second, .val (.long q3), .second, .val (.ref ba), .val (.ref w_INTERSECT), .unset, .unset, .unset, .unset, .unset, .unset, .unset, .unset, .unset, .unset]) rfl ?_
      show Steps p.tables e below (T47.setTop (mkF m 47 #[.val (.int p1), .val (.long q2), .second, .val (.long q3), .second, .val (.ref ba), .val (.ref w_INTERSECT), .unset, .unset, .unset, .unset, .unset, .unset, .unset, .unset, .unset, .unset] [])) _
      refine XT.lloadN X47.here hx rfl (hb hby at_47) rfl ?_
      show Steps p.tables e below (T47.setTop (mkF m 48 #[.val (.int p1), .val (.long q2), .second, .val (.long q3), .second, .val (.ref ba), .val (.ref w_INTERSECT), .unset, .unset, .unset, .unset, .unset, .unset, .unset, .unset, .unset, .unset] [(.long q2)])) _
      refine Jvm.Stand.ldc2J X47 hx hown (mvT hZ (hw _ (List.mem_of_getElem? (i := 15) rfl))) rfl (hb hby at_48) ?_
      show Steps p.tables e below (T47.setTop (mkF m 51 #[.val (.int p1), .val (.long q2), .second, .val (.long q3), .second, .val (.ref ba), .val (.ref w_INTERSECT), .unset, .unset, .unset, .unset, .unset, .unset, .unset, .unset, .unset, .unset] [(.long (9223372036854775807 : Int64)), (.long q2)])) _
      refine XT.land X47.here hx rfl (hb hby at_51) rfl ?_
      show Steps p.tables e below (T47.setTop (mkF m 52 #[.val (.int p1), .val (.long q2), .second, .val (.long q3), .second, .val (.ref ba), .val (.ref w_INTERSECT), .unset, .unset, .unset, .unset, .unset, .unset, .unset, .unset, .unset, .unset] [(.long (q2 &&& (9223372036854775807 : Int64)))])) _
      refine XT.lstore X47.here hx rfl (hb hby at_52) rfl (l' := #[.val (.int p1), .val (.long q2), .second, .val (.long q3), .second, .val (.ref ba), .val (.ref w_INTERSECT), .val (.long (q2 &&& (9223372036854775807 : Int64))), .second, .unset, .unset, .unset, .unset, .unset, .unset, .unset, .unset]) rfl ?_
      show Steps p.tables e below (T47.setTop (mkF m 54 #[.val (.int p1), .val (.long q2), .second, .val (.long q3), .second, .val (.ref ba), .val (.ref w_INTERSECT), .val (.long (q2 &&& (9223372036854775807 : Int64))), .second, .unset, .unset, .unset, .unset, .unset, .unset, .unset, .unset] [])) _
      exact k
    obtain ⟨lf, hlf⟩ : ∃ z : Int64, z = (q2 &&& (9223372036854775807 : Int64)) := ⟨_, rfl⟩
    rw [← hlf] at P117
    have hl0 := own_nn hlf
    have P118 : ∀ t, Steps p.tables e below (T47.setTop (mkF m 61 #[.val (.int p1), .val (.long q2), .second, .val (.long q3), .second, .val (.ref ba), .val (.ref w_INTERSECT), .val (.long lf), .second, .val (.long (q3 &&& (9223372036854775807 : Int64))), .second, .unset, .unset, .unset, .unset, .unset, .unset] [])) t → Steps p.tables e below (s₁.setTop (entryFrame m #[(.int p1), (.long q2), (.long q3)] maxLocals)) t := by
      intro t k
      refine P117 _ ?_
      refine XT.lloadN X47.here hx rfl (hb hby at_54) rfl ?_
      show Steps p.tables e below (T47.setTop (mkF m 55 #[.val (.int p1), .val (.long q2), .second, .val (.long q3), .second, .val (.ref ba), .val (.ref w_INTERSECT), .val (.long lf), .second, .unset, .unset, .unset, .unset, .unset, .unset, .unset, .unset] [(.long q3)])) _
      refine Jvm.Stand.ldc2J X47 hx hown (mvT hZ (hw _ (List.mem_of_getElem? (i := 15) rfl))) rfl (hb hby at_55) ?_
      show Steps p.tables e below (T47.setTop (mkF m 58 #[.val (.int p1), .val (.long q2), .second, .val (.long q3), .second, .val (.ref ba), .val (.ref w_INTERSECT), .val (.long lf), .second, .unset, .unset, .unset, .unset, .unset, .unset, .unset, .unset] [(.long (9223372036854775807 : Int64)), (.long q3)])) _
      refine XT.land X47.here hx rfl (hb hby at_58) rfl ?_
      show Steps p.tables e below (T47.setTop (mkF m 59 #[.val (.int p1), .val (.long q2), .second, .val (.long q3), .second, .val (.ref ba), .val (.ref w_INTERSECT), .val (.long lf), .second, .unset, .unset, .unset, .unset, .unset, .unset, .unset, .unset] [(.long (q3 &&& (9223372036854775807 : Int64)))])) _
      refine XT.lstore X47.here hx rfl (hb hby at_59) rfl (l' := #[.val (.int p1), .val (.long q2), .second, .val (.long q3), .second, .val (.ref ba), .val (.ref w_INTERSECT), .val (.long lf), .second, .val (.long (q3 &&& (9223372036854775807 : Int64))), .second, .unset, .unset, .unset, .unset, .unset, .unset]) rfl ?_
      show Steps p.tables e below (T47.setTop (mkF m 61 #[.val (.int p1), .val (.long q2), .second, .val (.long q3), .second, .val (.ref ba), .val (.ref w_INTERSECT), .val (.long lf), .second, .val (.long (q3 &&& (9223372036854775807 : Int64))), .second, .unset, .unset, .unset, .unset, .unset, .unset] [])) _
      exact k
    obtain ⟨rg, hrg⟩ : ∃ z : Int64, z = (q3 &&& (9223372036854775807 : Int64)) := ⟨_, rfl⟩
    rw [← hrg] at P118
    have hr0 := own_nn hrg
    have P119 : ∀ t, Steps p.tables e below (T47.setTop (mkF m 63 #[.val (.int p1), .val (.long q2), .second, .val (.long q3), .second, .val (.ref ba), .val (.ref w_INTERSECT), .val (.long lf), .second, .val (.long rg), .second, .unset, .unset, .unset, .unset, .unset, .unset] [(.ref w_INTERSECT)])) t → Steps p.tables e below (s₁.setTop (entryFrame m #[(.int p1), (.long q2), (.long q3)] maxLocals)) t := by
      intro t k
      refine P118 _ ?_
      refine XS.aload X47.here hx rfl (hb hby at_61) rfl rfl ?_
      show Steps p.tables e below (T47.setTop (mkF m 63 #[.val (.int p1), .val (.long q2), .second, .val (.long q3), .second, .val (.ref ba), .val (.ref w_INTERSECT), .val (.long lf), .second, .val (.long rg), .second, .unset, .unset, .unset, .unset, .unset, .unset] [(.ref w_INTERSECT)])) _
      exact k
    obtain ⟨cq120, kq120, qa120, qb120, qc120⟩ := isOf hZ e47 (E_INTERSECT.ext F48.2)
    obtain ⟨_, _, ⟨T120, L120, k120, n120⟩, -, X120, ⟨Lc120, hQ120, l120, y120, z120⟩, st120⟩ := X47.virtualBack hx (y := (⟨"com/example/millrace/millrace/plan/SetOperation$Kind", "isSet", "()Z"⟩ : MethodName)) (z := (⟨"com/example/millrace/millrace/plan/SetOperation$Kind", "isSet", "()Z"⟩ : MethodName)) hown (mvT hZ (hw _ (List.mem_of_getElem? (i := 16) rfl))) (mvT hZ (hw _ (List.mem_of_getElem? (i := 17) rfl))) (notFace_of_selects (args := #[]) (mvT hZ (hw _ (List.mem_of_getElem? (i := 19) rfl)))) (mvT hZ (hw _ (List.mem_of_getElem? (i := 19) rfl))) (mvT hZ (hw _ (List.mem_of_getElem? (i := 18) rfl))) (by decide) (backOf (W := 0) (rm4 l Z a0 hw [] w_INTERSECT w_DISTINCT w_EXCEPT w_INTERSECT h47 n0 Z50 (S_DISTINCT.ext F48.2) (S_EXCEPT.ext F48.2) (S_INTERSECT.ext F48.2)) hZ (hw _ (List.mem_of_getElem? (i := 20) rfl)) (hw _ (List.mem_of_getElem? (i := 3) rfl)) (by decide) (by decide)) qa120 qc120 (g := (mkF m 63 #[.val (.int p1), .val (.long q2), .second, .val (.long q3), .second, .val (.ref ba), .val (.ref w_INTERSECT), .val (.long lf), .second, .val (.long rg), .second, .unset, .unset, .unset, .unset, .unset, .unset] [(.ref w_INTERSECT)])) rfl (by rw [hml]; rfl) (Steps.refl _) (argsL := []) (rest := []) (lenOf pd_2 rfl) rfl (by show 2 * 0 + _ ≤ _; exact Nat.le_of_eq rfl) (hb hby at_63) (fun _ _ => ⟨rfl, e47, (by decide : 1 + 0 ≤ _), (by decide : 5 + 0 ≤ _)⟩)
    dsimp only [Pt.U, Pt.locs, Pt.cells, Pt.slots] at X120 l120 y120 z120 st120 hQ120
    subst l120 y120 z120
    obtain ⟨rfl, N120q, e120⟩ := hQ120
    have N120 := Fr.app N47 N120q
    have P121 : ∀ t, Steps p.tables e below (T120.setTop (mkF m 66 #[.val (.int p1), .val (.long q2), .second, .val (.long q3), .second, .val (.ref ba), .val (.ref w_INTERSECT), .val (.long lf), .second, .val (.long rg), .second, .unset, .unset, .unset, .unset, .unset, .unset] [(.int (if w_INTERSECT = w_DISTINCT then (1 : Int32) else (if w_INTERSECT = w_EXCEPT then (1 : Int32) else (if w_INTERSECT = w_INTERSECT then (1 : Int32) else (0 : Int32)))))])) t → Steps p.tables e below (s₁.setTop (entryFrame m #[(.int p1), (.long q2), (.long q3)] maxLocals)) t := fun t k => P119 _ (st120.trans k)
    obtain ⟨r1, hr1⟩ : ∃ z : Int32, z = (if w_INTERSECT = w_DISTINCT then (1 : Int32) else (if w_INTERSECT = w_EXCEPT then (1 : Int32) else (if w_INTERSECT = w_INTERSECT then (1 : Int32) else (0 : Int32)))) := ⟨_, rfl⟩
    rw [← hr1] at P121
    have r1e : r1 = (1 : Int32) := by rw [hr1, if_neg (Fld.ne O_INTERSECT O_DISTINCT (by decide)), if_neg (Fld.ne O_INTERSECT O_EXCEPT (by decide)), if_pos rfl]
    have P122 : ∀ t, Steps p.tables e below (T120.setTop (mkF m 74 #[.val (.int p1), .val (.long q2), .second, .val (.long q3), .second, .val (.ref ba), .val (.ref w_INTERSECT), .val (.long lf), .second, .val (.long rg), .second, .val (.int r1), .unset, .unset, .unset, .unset, .unset] [(.long (0 : Int64)), (.long (2 : Int64)), (.ref w_INTERSECT)])) t → Steps p.tables e below (s₁.setTop (entryFrame m #[(.int p1), (.long q2), (.long q3)] maxLocals)) t := by
      intro t k
      refine P121 _ ?_
      refine XS.istore X120.here hx rfl (hb hby at_66) rfl (l' := #[.val (.int p1), .val (.long q2), .second, .val (.long q3), .second, .val (.ref ba), .val (.ref w_INTERSECT), .val (.long lf), .second, .val (.long rg), .second, .val (.int r1), .unset, .unset, .unset, .unset, .unset]) rfl ?_
      show Steps p.tables e below (T120.setTop (mkF m 68 #[.val (.int p1), .val (.long q2), .second, .val (.long q3), .second, .val (.ref ba), .val (.ref w_INTERSECT), .val (.long lf), .second, .val (.long rg), .second, .val (.int r1), .unset, .unset, .unset, .unset, .unset] [])) _
      refine XS.aload X120.here hx rfl (hb hby at_68) rfl rfl ?_
      show Steps p.tables e below (T120.setTop (mkF m 70 #[.val (.int p1), .val (.long q2), .second, .val (.long q3), .second, .val (.ref ba), .val (.ref w_INTERSECT), .val (.long lf), .second, .val (.long rg), .second, .val (.int r1), .unset, .unset, .unset, .unset, .unset] [(.ref w_INTERSECT)])) _
      refine Jvm.Stand.ldc2J X120 hx hown (mvT hZ (hw _ (List.mem_of_getElem? (i := 22) rfl))) rfl (hb hby at_70) ?_
      show Steps p.tables e below (T120.setTop (mkF m 73 #[.val (.int p1), .val (.long q2), .second, .val (.long q3), .second, .val (.ref ba), .val (.ref w_INTERSECT), .val (.long lf), .second, .val (.long rg), .second, .val (.int r1), .unset, .unset, .unset, .unset, .unset] [(.long (2 : Int64)), (.ref w_INTERSECT)])) _
      refine XT.lconst X120.here hx rfl (hb hby at_73) ?_
      show Steps p.tables e below (T120.setTop (mkF m 74 #[.val (.int p1), .val (.long q2), .second, .val (.long q3), .second, .val (.ref ba), .val (.ref w_INTERSECT), .val (.long lf), .second, .val (.long rg), .second, .val (.int r1), .unset, .unset, .unset, .unset, .unset] [(.long (0 : Int64)), (.long (2 : Int64)), (.ref w_INTERSECT)])) _
      exact k
    obtain ⟨cq123, kq123, qa123, qb123, qc123⟩ := isOf hZ e120 (E_INTERSECT.ext F48.2)
    obtain ⟨_, _, ⟨T123, L123, k123, n123⟩, -, X123, ⟨Lc123, hQ123, l123, y123, z123⟩, st123⟩ := X120.virtualBack hx (y := (⟨"com/example/millrace/millrace/plan/SetOperation$Kind", "copies", "(JJ)J"⟩ : MethodName)) (z := (⟨"com/example/millrace/millrace/plan/SetOperation$Kind", "copies", "(JJ)J"⟩ : MethodName)) hown (mvT hZ (hw _ (List.mem_of_getElem? (i := 23) rfl))) (mvT hZ (hw _ (List.mem_of_getElem? (i := 24) rfl))) (notFace_of_selects (args := #[]) (mvT hZ (hw _ (List.mem_of_getElem? (i := 26) rfl)))) (mvT hZ (hw _ (List.mem_of_getElem? (i := 26) rfl))) (mvT hZ (hw _ (List.mem_of_getElem? (i := 25) rfl))) (by decide) (backOf (W := 0) (rm23 l Z a0 hw [] w_INTERSECT (2 : Int64) (0 : Int64)  h47 n0 Z50 (E_INTERSECT.ext F48.2) (O_INTERSECT.ext F48.2)) hZ (hw _ (List.mem_of_getElem? (i := 27) rfl)) (hw _ (List.mem_of_getElem? (i := 3) rfl)) (by decide) (by decide)) qa123 qc123 (g := (mkF m 74 #[.val (.int p1), .val (.long q2), .second, .val (.long q3), .second, .val (.ref ba), .val (.ref w_INTERSECT), .val (.long lf), .second, .val (.long rg), .second, .val (.int r1), .unset, .unset, .unset, .unset, .unset] [(.long (0 : Int64)), (.long (2 : Int64)), (.ref w_INTERSECT)])) rfl (by rw [hml]; rfl) (Steps.refl _) (argsL := [(.long (2 : Int64)), (.long (0 : Int64))]) (rest := []) (lenOf pd_1 rfl) rfl (by show 2 * 0 + _ ≤ _; exact Nat.le_of_eq rfl) (hb hby at_74) (fun _ _ => ⟨rfl, e120, (by decide : 1 + 0 ≤ _), (by decide : 5 + 0 ≤ _)⟩)
    dsimp only [Pt.U, Pt.locs, Pt.cells, Pt.slots] at X123 l123 y123 z123 st123 hQ123
    subst l123 y123 z123
    obtain ⟨rfl, N123q, e123⟩ := hQ123
    have N123 := Fr.app N120 N123q
    have P124 : ∀ t, Steps p.tables e below (T123.setTop (mkF m 77 #[.val (.int p1), .val (.long q2), .second, .val (.long q3), .second, .val (.ref ba), .val (.ref w_INTERSECT), .val (.long lf), .second, .val (.long rg), .second, .val (.int r1), .unset, .unset, .unset, .unset, .unset] [(.long (if (1 : Int64) < (if (0 : Int64) < (2 : Int64) then (0 : Int64) else (2 : Int64)) then (1 : Int64) else (if (0 : Int64) < (2 : Int64) then (0 : Int64) else (2 : Int64))))])) t → Steps p.tables e below (s₁.setTop (entryFrame m #[(.int p1), (.long q2), (.long q3)] maxLocals)) t := fun t k => P122 _ (st123.trans k)
    have P125 : ∀ t, Steps p.tables e below (T123.setTop (mkF m 90 #[.val (.int p1), .val (.long q2), .second, .val (.long q3), .second, .val (.ref ba), .val (.ref w_INTERSECT), .val (.long lf), .second, .val (.long rg), .second, .val (.int r1), .unset, .unset, .unset, .unset, .unset] [(.long (2 : Int64)), (.long (2 : Int64)), (.ref w_INTERSECT)])) t → Steps p.tables e below (s₁.setTop (entryFrame m #[(.int p1), (.long q2), (.long q3)] maxLocals)) t := by
      intro t k
      refine P124 _ ?_
      refine XT.lconst X123.here hx rfl (hb hby at_77) ?_
      show Steps p.tables e below (T123.setTop (mkF m 78 #[.val (.int p1), .val (.long q2), .second, .val (.long q3), .second, .val (.ref ba), .val (.ref w_INTERSECT), .val (.long lf), .second, .val (.long rg), .second, .val (.int r1), .unset, .unset, .unset, .unset, .unset] [(.long (1 : Int64)), (.long (if (1 : Int64) < (if (0 : Int64) < (2 : Int64) then (0 : Int64) else (2 : Int64)) then (1 : Int64) else (if (0 : Int64) < (2 : Int64) then (0 : Int64) else (2 : Int64))))])) _
      refine XT.lcmp X123.here hx rfl (hb hby at_78) rfl ?_
      show Steps p.tables e below (T123.setTop (mkF m 79 #[.val (.int p1), .val (.long q2), .second, .val (.long q3), .second, .val (.ref ba), .val (.ref w_INTERSECT), .val (.long lf), .second, .val (.long rg), .second, .val (.int r1), .unset, .unset, .unset, .unset, .unset] [(.int (XT.cmpL (if (1 : Int64) < (if (0 : Int64) < (2 : Int64) then (0 : Int64) else (2 : Int64)) then (1 : Int64) else (if (0 : Int64) < (2 : Int64) then (0 : Int64) else (2 : Int64))) (1 : Int64)))])) _
      refine XS.ifNo X123.here hx rfl (hb hby at_79) rfl (XT.ll_gt_f (by decide)) ?_
      show Steps p.tables e below (T123.setTop (mkF m 82 #[.val (.int p1), .val (.long q2), .second, .val (.long q3), .second, .val (.ref ba), .val (.ref w_INTERSECT), .val (.long lf), .second, .val (.long rg), .second, .val (.int r1), .unset, .unset, .unset, .unset, .unset] [])) _
      refine XS.aload X123.here hx rfl (hb hby at_82) rfl rfl ?_
      show Steps p.tables e below (T123.setTop (mkF m 84 #[.val (.int p1), .val (.long q2), .second, .val (.long q3), .second, .val (.ref ba), .val (.ref w_INTERSECT), .val (.long lf), .second, .val (.long rg), .second, .val (.int r1), .unset, .unset, .unset, .unset, .unset] [(.ref w_INTERSECT)])) _
      refine Jvm.Stand.ldc2J X123 hx hown (mvT hZ (hw _ (List.mem_of_getElem? (i := 22) rfl))) rfl (hb hby at_84) ?_
      show Steps p.tables e below (T123.setTop (mkF m 87 #[.val (.int p1), .val (.long q2), .second, .val (.long q3), .second, .val (.ref ba), .val (.ref w_INTERSECT), .val (.long lf), .second, .val (.long rg), .second, .val (.int r1), .unset, .unset, .unset, .unset, .unset] [(.long (2 : Int64)), (.ref w_INTERSECT)])) _
      refine Jvm.Stand.ldc2J X123 hx hown (mvT hZ (hw _ (List.mem_of_getElem? (i := 22) rfl))) rfl (hb hby at_87) ?_
      show Steps p.tables e below (T123.setTop (mkF m 90 #[.val (.int p1), .val (.long q2), .second, .val (.long q3), .second, .val (.ref ba), .val (.ref w_INTERSECT), .val (.long lf), .second, .val (.long rg), .second, .val (.int r1), .unset, .unset, .unset, .unset, .unset] [(.long (2 : Int64)), (.long (2 : Int64)), (.ref w_INTERSECT)])) _
      exact k
    obtain ⟨cq126, kq126, qa126, qb126, qc126⟩ := isOf hZ e123 (E_INTERSECT.ext F48.2)
    obtain ⟨_, _, ⟨T126, L126, k126, n126⟩, -, X126, ⟨Lc126, hQ126, l126, y126, z126⟩, st126⟩ := X123.virtualBack hx (y := (⟨"com/example/millrace/millrace/plan/SetOperation$Kind", "copies", "(JJ)J"⟩ : MethodName)) (z := (⟨"com/example/millrace/millrace/plan/SetOperation$Kind", "copies", "(JJ)J"⟩ : MethodName)) hown (mvT hZ (hw _ (List.mem_of_getElem? (i := 23) rfl))) (mvT hZ (hw _ (List.mem_of_getElem? (i := 24) rfl))) (notFace_of_selects (args := #[]) (mvT hZ (hw _ (List.mem_of_getElem? (i := 26) rfl)))) (mvT hZ (hw _ (List.mem_of_getElem? (i := 26) rfl))) (mvT hZ (hw _ (List.mem_of_getElem? (i := 25) rfl))) (by decide) (backOf (W := 0) (rm23 l Z a0 hw [] w_INTERSECT (2 : Int64) (2 : Int64)  h47 n0 Z50 (E_INTERSECT.ext F48.2) (O_INTERSECT.ext F48.2)) hZ (hw _ (List.mem_of_getElem? (i := 27) rfl)) (hw _ (List.mem_of_getElem? (i := 3) rfl)) (by decide) (by decide)) qa126 qc126 (g := (mkF m 90 #[.val (.int p1), .val (.long q2), .second, .val (.long q3), .second, .val (.ref ba), .val (.ref w_INTERSECT), .val (.long lf), .second, .val (.long rg), .second, .val (.int r1), .unset, .unset, .unset, .unset, .unset] [(.long (2 : Int64)), (.long (2 : Int64)), (.ref w_INTERSECT)])) rfl (by rw [hml]; rfl) (Steps.refl _) (argsL := [(.long (2 : Int64)), (.long (2 : Int64))]) (rest := []) (lenOf pd_1 rfl) rfl (by show 2 * 0 + _ ≤ _; exact Nat.le_of_eq rfl) (hb hby at_90) (fun _ _ => ⟨rfl, e123, (by decide : 1 + 0 ≤ _), (by decide : 5 + 0 ≤ _)⟩)
    dsimp only [Pt.U, Pt.locs, Pt.cells, Pt.slots] at X126 l126 y126 z126 st126 hQ126
    subst l126 y126 z126
    obtain ⟨rfl, N126q, e126⟩ := hQ126
    have N126 := Fr.app N123 N126q
    have P127 : ∀ t, Steps p.tables e below (T126.setTop (mkF m 93 #[.val (.int p1), .val (.long q2), .second, .val (.long q3), .second, .val (.ref ba), .val (.ref w_INTERSECT), .val (.long lf), .second, .val (.long rg), .second, .val (.int r1), .unset, .unset, .unset, .unset, .unset] [(.long (if (1 : Int64) < (if (2 : Int64) < (2 : Int64) then (2 : Int64) else (2 : Int64)) then (1 : Int64) else (if (2 : Int64) < (2 : Int64) then (2 : Int64) else (2 : Int64))))])) t → Steps p.tables e below (s₁.setTop (entryFrame m #[(.int p1), (.long q2), (.long q3)] maxLocals)) t := fun t k => P125 _ (st126.trans k)
    have P128 : ∀ t, Steps p.tables e below (T126.setTop (mkF m 127 #[.val (.int p1), .val (.long q2), .second, .val (.long q3), .second, .val (.ref ba), .val (.ref w_INTERSECT), .val (.long lf), .second, .val (.long rg), .second, .val (.int r1), .val (.int (1 : Int32)), .unset, .unset, .unset, .unset] [(.long rg), (.long lf), (.ref w_INTERSECT)])) t → Steps p.tables e below (s₁.setTop (entryFrame m #[(.int p1), (.long q2), (.long q3)] maxLocals)) t := by
      intro t k
      refine P127 _ ?_
      refine XT.lconst X126.here hx rfl (hb hby at_93) ?_
      show Steps p.tables e below (T126.setTop (mkF m 94 #[.val (.int p1), .val (.long q2), .second, .val (.long q3), .second, .val (.ref ba), .val (.ref w_INTERSECT), .val (.long lf), .second, .val (.long rg), .second, .val (.int r1), .unset, .unset, .unset, .unset, .unset] [(.long (1 : Int64)), (.long (if (1 : Int64) < (if (2 : Int64) < (2 : Int64) then (2 : Int64) else (2 : Int64)) then (1 : Int64) else (if (2 : Int64) < (2 : Int64) then (2 : Int64) else (2 : Int64))))])) _
      refine XT.lcmp X126.here hx rfl (hb hby at_94) rfl ?_
      show Steps p.tables e below (T126.setTop (mkF m 95 #[.val (.int p1), .val (.long q2), .second, .val (.long q3), .second, .val (.ref ba), .val (.ref w_INTERSECT), .val (.long lf), .second, .val (.long rg), .second, .val (.int r1), .unset, .unset, .unset, .unset, .unset] [(.int (XT.cmpL (if (1 : Int64) < (if (2 : Int64) < (2 : Int64) then (2 : Int64) else (2 : Int64)) then (1 : Int64) else (if (2 : Int64) < (2 : Int64) then (2 : Int64) else (2 : Int64))) (1 : Int64)))])) _
      refine XS.ifNo X126.here hx rfl (hb hby at_95) rfl (XT.ll_gt_f (by decide)) ?_
      show Steps p.tables e below (T126.setTop (mkF m 98 #[.val (.int p1), .val (.long q2), .second, .val (.long q3), .second, .val (.ref ba), .val (.ref w_INTERSECT), .val (.long lf), .second, .val (.long rg), .second, .val (.int r1), .unset, .unset, .unset, .unset, .unset] [])) _
      refine XS.iconst X126.here hx rfl (hb hby at_98) ?_
      show Steps p.tables e below (T126.setTop (mkF m 99 #[.val (.int p1), .val (.long q2), .second, .val (.long q3), .second, .val (.ref ba), .val (.ref w_INTERSECT), .val (.long lf), .second, .val (.long rg), .second, .val (.int r1), .unset, .unset, .unset, .unset, .unset] [(.int (1 : Int32))])) _
      refine XS.goto X126.here hx rfl (pc0 := 99) (pc' := 103) rfl (hb hby at_99) (by decide) (by decide) ?_
      show Steps p.tables e below (T126.setTop (mkF m 103 #[.val (.int p1), .val (.long q2), .second, .val (.long q3), .second, .val (.ref ba), .val (.ref w_INTERSECT), .val (.long lf), .second, .val (.long rg), .second, .val (.int r1), .unset, .unset, .unset, .unset, .unset] [(.int (1 : Int32))])) _
      refine XS.istore X126.here hx rfl (hb hby at_103) rfl (l' := #[.val (.int p1), .val (.long q2), .second, .val (.long q3), .second, .val (.ref ba), .val (.ref w_INTERSECT), .val (.long lf), .second, .val (.long rg), .second, .val (.int r1), .val (.int (1 : Int32)), .unset, .unset, .unset, .unset]) rfl ?_
      show Steps p.tables e below (T126.setTop (mkF m 105 #[.val (.int p1), .val (.long q2), .second, .val (.long q3), .second, .val (.ref ba), .val (.ref w_INTERSECT), .val (.long lf), .second, .val (.long rg), .second, .val (.int r1), .val (.int (1 : Int32)), .unset, .unset, .unset, .unset] [])) _
      refine XS.iload X126.here hx rfl (hb hby at_105) rfl ?_
      show Steps p.tables e below (T126.setTop (mkF m 107 #[.val (.int p1), .val (.long q2), .second, .val (.long q3), .second, .val (.ref ba), .val (.ref w_INTERSECT), .val (.long lf), .second, .val (.long rg), .second, .val (.int r1), .val (.int (1 : Int32)), .unset, .unset, .unset, .unset] [(.int r1)])) _
      refine XS.iload X126.here hx rfl (hb hby at_107) rfl ?_
      show Steps p.tables e below (T126.setTop (mkF m 109 #[.val (.int p1), .val (.long q2), .second, .val (.long q3), .second, .val (.ref ba), .val (.ref w_INTERSECT), .val (.long lf), .second, .val (.long rg), .second, .val (.int r1), .val (.int (1 : Int32)), .unset, .unset, .unset, .unset] [(.int (1 : Int32)), (.int r1)])) _
      refine XS.icmpYes X126.here hx rfl (pc0 := 109) (pc' := 114) rfl (hb hby at_109) rfl (XT.ii_eq_t r1e) (by decide) (by decide) ?_
      show Steps p.tables e below (T126.setTop (mkF m 114 #[.val (.int p1), .val (.long q2), .second, .val (.long q3), .second, .val (.ref ba), .val (.ref w_INTERSECT), .val (.long lf), .second, .val (.long rg), .second, .val (.int r1), .val (.int (1 : Int32)), .unset, .unset, .unset, .unset] [])) _
      refine XS.iload X126.here hx rfl (hb hby at_114) rfl ?_
      show Steps p.tables e below (T126.setTop (mkF m 116 #[.val (.int p1), .val (.long q2), .second, .val (.long q3), .second, .val (.ref ba), .val (.ref w_INTERSECT), .val (.long lf), .second, .val (.long rg), .second, .val (.int r1), .val (.int (1 : Int32)), .unset, .unset, .unset, .unset] [(.int r1)])) _
      refine XS.ifYes X126.here hx rfl (pc0 := 116) (pc' := 121) rfl (hb hby at_116) rfl (XT.i0_ne_t (by rw [r1e]; decide)) (by decide) (by decide) ?_
      show Steps p.tables e below (T126.setTop (mkF m 121 #[.val (.int p1), .val (.long q2), .second, .val (.long q3), .second, .val (.ref ba), .val (.ref w_INTERSECT), .val (.long lf), .second, .val (.long rg), .second, .val (.int r1), .val (.int (1 : Int32)), .unset, .unset, .unset, .unset] [])) _
      refine XS.aload X126.here hx rfl (hb hby at_121) rfl rfl ?_
      show Steps p.tables e below (T126.setTop (mkF m 123 #[.val (.int p1), .val (.long q2), .second, .val (.long q3), .second, .val (.ref ba), .val (.ref w_INTERSECT), .val (.long lf), .second, .val (.long rg), .second, .val (.int r1), .val (.int (1 : Int32)), .unset, .unset, .unset, .unset] [(.ref w_INTERSECT)])) _
      refine XT.lload X126.here hx rfl (hb hby at_123) rfl ?_
      show Steps p.tables e below (T126.setTop (mkF m 125 #[.val (.int p1), .val (.long q2), .second, .val (.long q3), .second, .val (.ref ba), .val (.ref w_INTERSECT), .val (.long lf), .second, .val (.long rg), .second, .val (.int r1), .val (.int (1 : Int32)), .unset, .unset, .unset, .unset] [(.long lf), (.ref w_INTERSECT)])) _
      refine XT.lload X126.here hx rfl (hb hby at_125) rfl ?_
      show Steps p.tables e below (T126.setTop (mkF m 127 #[.val (.int p1), .val (.long q2), .second, .val (.long q3), .second, .val (.ref ba), .val (.ref w_INTERSECT), .val (.long lf), .second, .val (.long rg), .second, .val (.int r1), .val (.int (1 : Int32)), .unset, .unset, .unset, .unset] [(.long rg), (.long lf), (.ref w_INTERSECT)])) _
      exact k
    obtain ⟨cq129, kq129, qa129, qb129, qc129⟩ := isOf hZ e126 (E_INTERSECT.ext F48.2)
    obtain ⟨_, _, ⟨T129, L129, k129, n129⟩, -, X129, ⟨Lc129, hQ129, l129, y129, z129⟩, st129⟩ := X126.virtualBack hx (y := (⟨"com/example/millrace/millrace/plan/SetOperation$Kind", "copies", "(JJ)J"⟩ : MethodName)) (z := (⟨"com/example/millrace/millrace/plan/SetOperation$Kind", "copies", "(JJ)J"⟩ : MethodName)) hown (mvT hZ (hw _ (List.mem_of_getElem? (i := 23) rfl))) (mvT hZ (hw _ (List.mem_of_getElem? (i := 24) rfl))) (notFace_of_selects (args := #[]) (mvT hZ (hw _ (List.mem_of_getElem? (i := 26) rfl)))) (mvT hZ (hw _ (List.mem_of_getElem? (i := 26) rfl))) (mvT hZ (hw _ (List.mem_of_getElem? (i := 25) rfl))) (by decide) (backOf (W := 0) (rm23 l Z a0 hw [] w_INTERSECT lf rg  h47 n0 Z50 (E_INTERSECT.ext F48.2) (O_INTERSECT.ext F48.2)) hZ (hw _ (List.mem_of_getElem? (i := 27) rfl)) (hw _ (List.mem_of_getElem? (i := 3) rfl)) (by decide) (by decide)) qa129 qc129 (g := (mkF m 127 #[.val (.int p1), .val (.long q2), .second, .val (.long q3), .second, .val (.ref ba), .val (.ref w_INTERSECT), .val (.long lf), .second, .val (.long rg), .second, .val (.int r1), .val (.int (1 : Int32)), .unset, .unset, .unset, .unset] [(.long rg), (.long lf), (.ref w_INTERSECT)])) rfl (by rw [hml]; rfl) (Steps.refl _) (argsL := [(.long lf), (.long rg)]) (rest := []) (lenOf pd_1 rfl) rfl (by show 2 * 0 + _ ≤ _; exact Nat.le_of_eq rfl) (hb hby at_127) (fun _ _ => ⟨rfl, e126, (by decide : 1 + 0 ≤ _), (by decide : 5 + 0 ≤ _)⟩)
    dsimp only [Pt.U, Pt.locs, Pt.cells, Pt.slots] at X129 l129 y129 z129 st129 hQ129
    subst l129 y129 z129
    obtain ⟨rfl, N129q, e129⟩ := hQ129
    have N129 := Fr.app N126 N129q
    have P130 : ∀ t, Steps p.tables e below (T129.setTop (mkF m 130 #[.val (.int p1), .val (.long q2), .second, .val (.long q3), .second, .val (.ref ba), .val (.ref w_INTERSECT), .val (.long lf), .second, .val (.long rg), .second, .val (.int r1), .val (.int (1 : Int32)), .unset, .unset, .unset, .unset] [(.long (if (1 : Int64) < (if rg < lf then rg else lf) then (1 : Int64) else (if rg < lf then rg else lf)))])) t → Steps p.tables e below (s₁.setTop (entryFrame m #[(.int p1), (.long q2), (.long q3)] maxLocals)) t := fun t k => P128 _ (st129.trans k)
    have P131 : ∀ t, Steps p.tables e below (T129.setTop (mkF m 132 #[.val (.int p1), .val (.long q2), .second, .val (.long q3), .second, .val (.ref ba), .val (.ref w_INTERSECT), .val (.long lf), .second, .val (.long rg), .second, .val (.int r1), .val (.int (1 : Int32)), .val (.long (if (1 : Int64) < (if rg < lf then rg else lf) then (1 : Int64) else (if rg < lf then rg else lf))), .second, .unset, .unset] [])) t → Steps p.tables e below (s₁.setTop (entryFrame m #[(.int p1), (.long q2), (.long q3)] maxLocals)) t := by
      intro t k
      refine P130 _ ?_
      refine XT.lstore X129.here hx rfl (hb hby at_130) rfl (l' := #[.val (.int p1), .val (.long q2), .second, .val (.long q3), .second, .val (.ref ba), .val (.ref w_INTERSECT), .val (.long lf), .second, .val (.long rg), .second, .val (.int r1), .val (.int (1 : Int32)), .val (.long (if (1 : Int64) < (if rg < lf then rg else lf) then (1 : Int64) else (if rg < lf then rg else lf))), .second, .unset, .unset]) rfl ?_
      show Steps p.tables e below (T129.setTop (mkF m 132 #[.val (.int p1), .val (.long q2), .second, .val (.long q3), .second, .val (.ref ba), .val (.ref w_INTERSECT), .val (.long lf), .second, .val (.long rg), .second, .val (.int r1), .val (.int (1 : Int32)), .val (.long (if (1 : Int64) < (if rg < lf then rg else lf) then (1 : Int64) else (if rg < lf then rg else lf))), .second, .unset, .unset] [])) _
      exact k
    obtain ⟨cv, hcv⟩ : ∃ z : Int64, z = (if (1 : Int64) < (if rg < lf then rg else lf) then (1 : Int64) else (if rg < lf then rg else lf)) := ⟨_, rfl⟩
    rw [← hcv] at P131
    have P132 : ∀ t, Steps p.tables e below (T129.setTop (mkF m 137 #[.val (.int p1), .val (.long q2), .second, .val (.long q3), .second, .val (.ref ba), .val (.ref w_INTERSECT), .val (.long lf), .second, .val (.long rg), .second, .val (.int r1), .val (.int (1 : Int32)), .val (.long cv), .second, .unset, .unset] [(.long (1 : Int64)), (.long lf), (.ref w_INTERSECT)])) t → Steps p.tables e below (s₁.setTop (entryFrame m #[(.int p1), (.long q2), (.long q3)] maxLocals)) t := by
      intro t k
      refine P131 _ ?_
      refine XS.aload X129.here hx rfl (hb hby at_132) rfl rfl ?_
      show Steps p.tables e below (T129.setTop (mkF m 134 #[.val (.int p1), .val (.long q2), .second, .val (.long q3), .second, .val (.ref ba), .val (.ref w_INTERSECT), .val (.long lf), .second, .val (.long rg), .second, .val (.int r1), .val (.int (1 : Int32)), .val (.long cv), .second, .unset, .unset] [(.ref w_INTERSECT)])) _
      refine XT.lload X129.here hx rfl (hb hby at_134) rfl ?_
      show Steps p.tables e below (T129.setTop (mkF m 136 #[.val (.int p1), .val (.long q2), .second, .val (.long q3), .second, .val (.ref ba), .val (.ref w_INTERSECT), .val (.long lf), .second, .val (.long rg), .second, .val (.int r1), .val (.int (1 : Int32)), .val (.long cv), .second, .unset, .unset] [(.long lf), (.ref w_INTERSECT)])) _
      refine XT.lconst X129.here hx rfl (hb hby at_136) ?_
      show Steps p.tables e below (T129.setTop (mkF m 137 #[.val (.int p1), .val (.long q2), .second, .val (.long q3), .second, .val (.ref ba), .val (.ref w_INTERSECT), .val (.long lf), .second, .val (.long rg), .second, .val (.int r1), .val (.int (1 : Int32)), .val (.long cv), .second, .unset, .unset] [(.long (1 : Int64)), (.long lf), (.ref w_INTERSECT)])) _
      exact k
    obtain ⟨_, _, ⟨T133, L133, k133, n133⟩, -, X133, ⟨Lc133, hQ133, l133, y133, z133⟩, st133⟩ := Jvm.LawKit.callS X129 hx (y := (⟨"java/lang/Math", "min", "(JJ)J"⟩ : MethodName)) hown (mvT hZ (hw _ (List.mem_of_getElem? (i := 41) rfl))) (mvT hZ (hw _ (List.mem_of_getElem? (i := 38) rfl))) (mvT hZ (hw _ (List.mem_of_getElem? (i := 39) rfl))) (mvT hZ (hw _ (List.mem_of_getElem? (i := 40) rfl))) (by decide) (backOf (W := 1) (rm1 l Z a0 hw [] lf (1 : Int64)  h47 n0 Z50 ) hZ (hw _ (List.mem_of_getElem? (i := 40) rfl)) (hw _ (List.mem_of_getElem? (i := 39) rfl)) (by decide) (by decide)) (g := (mkF m 137 #[.val (.int p1), .val (.long q2), .second, .val (.long q3), .second, .val (.ref ba), .val (.ref w_INTERSECT), .val (.long lf), .second, .val (.long rg), .second, .val (.int r1), .val (.int (1 : Int32)), .val (.long cv), .second, .unset, .unset] [(.long (1 : Int64)), (.long lf), (.ref w_INTERSECT)])) rfl (by rw [hml]; rfl) (argsL := [(.long lf), (.long (1 : Int64))]) (rest := [(.ref w_INTERSECT)]) (lenOf pd_1 rfl) rfl (by show 2 * 0 + _ ≤ _; exact Nat.le_of_eq rfl) (hb hby at_137) (fun _ _ => ⟨rfl, e129, (by decide : 1 + 0 ≤ _), (by decide : 5 + 0 ≤ _)⟩)
    dsimp only [Pt.U, Pt.locs, Pt.cells, Pt.slots] at X133 l133 y133 z133 st133 hQ133
    subst l133 y133 z133
    obtain ⟨rfl, N133q, e133⟩ := hQ133
    have N133 := Fr.app N129 N133q
    have P134 : ∀ t, Steps p.tables e below (T133.setTop (mkF m 140 #[.val (.int p1), .val (.long q2), .second, .val (.long q3), .second, .val (.ref ba), .val (.ref w_INTERSECT), .val (.long lf), .second, .val (.long rg), .second, .val (.int r1), .val (.int (1 : Int32)), .val (.long cv), .second, .unset, .unset] [(.long (if (1 : Int64) < lf then (1 : Int64) else lf)), (.ref w_INTERSECT)])) t → Steps p.tables e below (s₁.setTop (entryFrame m #[(.int p1), (.long q2), (.long q3)] maxLocals)) t := fun t k => P132 _ (st133 _ k)
    obtain ⟨lm, hlm⟩ : ∃ z : Int64, z = (if (1 : Int64) < lf then (1 : Int64) else lf) := ⟨_, rfl⟩
    rw [← hlm] at P134
    have P135 : ∀ t, Steps p.tables e below (T133.setTop (mkF m 143 #[.val (.int p1), .val (.long q2), .second, .val (.long q3), .second, .val (.ref ba), .val (.ref w_INTERSECT), .val (.long lf), .second, .val (.long rg), .second, .val (.int r1), .val (.int (1 : Int32)), .val (.long cv), .second, .unset, .unset] [(.long (1 : Int64)), (.long rg), (.long lm), (.ref w_INTERSECT)])) t → Steps p.tables e below (s₁.setTop (entryFrame m #[(.int p1), (.long q2), (.long q3)] maxLocals)) t := by
      intro t k
      refine P134 _ ?_
      refine XT.lload X133.here hx rfl (hb hby at_140) rfl ?_
      show Steps p.tables e below (T133.setTop (mkF m 142 #[.val (.int p1), .val (.long q2), .second, .val (.long q3), .second, .val (.ref ba), .val (.ref w_INTERSECT), .val (.long lf), .second, .val (.long rg), .second, .val (.int r1), .val (.int (1 : Int32)), .val (.long cv), .second, .unset, .unset] [(.long rg), (.long lm), (.ref w_INTERSECT)])) _
      refine XT.lconst X133.here hx rfl (hb hby at_142) ?_
      show Steps p.tables e below (T133.setTop (mkF m 143 #[.val (.int p1), .val (.long q2), .second, .val (.long q3), .second, .val (.ref ba), .val (.ref w_INTERSECT), .val (.long lf), .second, .val (.long rg), .second, .val (.int r1), .val (.int (1 : Int32)), .val (.long cv), .second, .unset, .unset] [(.long (1 : Int64)), (.long rg), (.long lm), (.ref w_INTERSECT)])) _
      exact k
    obtain ⟨_, _, ⟨T136, L136, k136, n136⟩, -, X136, ⟨Lc136, hQ136, l136, y136, z136⟩, st136⟩ := Jvm.LawKit.callS X133 hx (y := (⟨"java/lang/Math", "min", "(JJ)J"⟩ : MethodName)) hown (mvT hZ (hw _ (List.mem_of_getElem? (i := 41) rfl))) (mvT hZ (hw _ (List.mem_of_getElem? (i := 38) rfl))) (mvT hZ (hw _ (List.mem_of_getElem? (i := 39) rfl))) (mvT hZ (hw _ (List.mem_of_getElem? (i := 40) rfl))) (by decide) (backOf (W := 3) (rm1 l Z a0 hw [] rg (1 : Int64)  h47 n0 Z50 ) hZ (hw _ (List.mem_of_getElem? (i := 40) rfl)) (hw _ (List.mem_of_getElem? (i := 39) rfl)) (by decide) (by decide)) (g := (mkF m 143 #[.val (.int p1), .val (.long q2), .second, .val (.long q3), .second, .val (.ref ba), .val (.ref w_INTERSECT), .val (.long lf), .second, .val (.long rg), .second, .val (.int r1), .val (.int (1 : Int32)), .val (.long cv), .second, .unset, .unset] [(.long (1 : Int64)), (.long rg), (.long lm), (.ref w_INTERSECT)])) rfl (by rw [hml]; rfl) (argsL := [(.long rg), (.long (1 : Int64))]) (rest := [(.long lm), (.ref w_INTERSECT)]) (lenOf pd_1 rfl) rfl (by show 2 * 0 + _ ≤ _; exact Nat.le_of_eq rfl) (hb hby at_143) (fun _ _ => ⟨rfl, e133, (by decide : 1 + 0 ≤ _), (by decide : 5 + 0 ≤ _)⟩)
    dsimp only [Pt.U, Pt.locs, Pt.cells, Pt.slots] at X136 l136 y136 z136 st136 hQ136
    subst l136 y136 z136
    obtain ⟨rfl, N136q, e136⟩ := hQ136
    have N136 := Fr.app N133 N136q
    have P137 : ∀ t, Steps p.tables e below (T136.setTop (mkF m 146 #[.val (.int p1), .val (.long q2), .second, .val (.long q3), .second, .val (.ref ba), .val (.ref w_INTERSECT), .val (.long lf), .second, .val (.long rg), .second, .val (.int r1), .val (.int (1 : Int32)), .val (.long cv), .second, .unset, .unset] [(.long (if (1 : Int64) < rg then (1 : Int64) else rg)), (.long lm), (.ref w_INTERSECT)])) t → Steps p.tables e below (s₁.setTop (entryFrame m #[(.int p1), (.long q2), (.long q3)] maxLocals)) t := fun t k => P135 _ (st136 _ k)
    obtain ⟨rm, hrm⟩ : ∃ z : Int64, z = (if (1 : Int64) < rg then (1 : Int64) else rg) := ⟨_, rfl⟩
    rw [← hrm] at P137
    obtain ⟨cq138, kq138, qa138, qb138, qc138⟩ := isOf hZ e136 (E_INTERSECT.ext F48.2)
    obtain ⟨_, _, ⟨T138, L138, k138, n138⟩, -, X138, ⟨Lc138, hQ138, l138, y138, z138⟩, st138⟩ := X136.virtualBack hx (y := (⟨"com/example/millrace/millrace/plan/SetOperation$Kind", "copies", "(JJ)J"⟩ : MethodName)) (z := (⟨"com/example/millrace/millrace/plan/SetOperation$Kind", "copies", "(JJ)J"⟩ : MethodName)) hown (mvT hZ (hw _ (List.mem_of_getElem? (i := 23) rfl))) (mvT hZ (hw _ (List.mem_of_getElem? (i := 24) rfl))) (notFace_of_selects (args := #[]) (mvT hZ (hw _ (List.mem_of_getElem? (i := 26) rfl)))) (mvT hZ (hw _ (List.mem_of_getElem? (i := 26) rfl))) (mvT hZ (hw _ (List.mem_of_getElem? (i := 25) rfl))) (by decide) (backOf (W := 0) (rm23 l Z a0 hw [] w_INTERSECT lm rm  h47 n0 Z50 (E_INTERSECT.ext F48.2) (O_INTERSECT.ext F48.2)) hZ (hw _ (List.mem_of_getElem? (i := 27) rfl)) (hw _ (List.mem_of_getElem? (i := 3) rfl)) (by decide) (by decide)) qa138 qc138 (g := (mkF m 146 #[.val (.int p1), .val (.long q2), .second, .val (.long q3), .second, .val (.ref ba), .val (.ref w_INTERSECT), .val (.long lf), .second, .val (.long rg), .second, .val (.int r1), .val (.int (1 : Int32)), .val (.long cv), .second, .unset, .unset] [(.long rm), (.long lm), (.ref w_INTERSECT)])) rfl (by rw [hml]; rfl) (Steps.refl _) (argsL := [(.long lm), (.long rm)]) (rest := []) (lenOf pd_1 rfl) rfl (by show 2 * 0 + _ ≤ _; exact Nat.le_of_eq rfl) (hb hby at_146) (fun _ _ => ⟨rfl, e136, (by decide : 1 + 0 ≤ _), (by decide : 5 + 0 ≤ _)⟩)
    dsimp only [Pt.U, Pt.locs, Pt.cells, Pt.slots] at X138 l138 y138 z138 st138 hQ138
    subst l138 y138 z138
    obtain ⟨rfl, N138q, e138⟩ := hQ138
    have N138 := Fr.app N136 N138q
    have P139 : ∀ t, Steps p.tables e below (T138.setTop (mkF m 149 #[.val (.int p1), .val (.long q2), .second, .val (.long q3), .second, .val (.ref ba), .val (.ref w_INTERSECT), .val (.long lf), .second, .val (.long rg), .second, .val (.int r1), .val (.int (1 : Int32)), .val (.long cv), .second, .unset, .unset] [(.long (if (1 : Int64) < (if rm < lm then rm else lm) then (1 : Int64) else (if rm < lm then rm else lm)))])) t → Steps p.tables e below (s₁.setTop (entryFrame m #[(.int p1), (.long q2), (.long q3)] maxLocals)) t := fun t k => P137 _ (st138.trans k)
    have P140 : ∀ t, Steps p.tables e below (T138.setTop (mkF m 151 #[.val (.int p1), .val (.long q2), .second, .val (.long q3), .second, .val (.ref ba), .val (.ref w_INTERSECT), .val (.long lf), .second, .val (.long rg), .second, .val (.int r1), .val (.int (1 : Int32)), .val (.long cv), .second, .val (.long (if (1 : Int64) < (if rm < lm then rm else lm) then (1 : Int64) else (if rm < lm then rm else lm))), .second] [])) t → Steps p.tables e below (s₁.setTop (entryFrame m #[(.int p1), (.long q2), (.long q3)] maxLocals)) t := by
      intro t k
      refine P139 _ ?_
      refine XT.lstore X138.here hx rfl (hb hby at_149) rfl (l' := #[.val (.int p1), .val (.long q2), .second, .val (.long q3), .second, .val (.ref ba), .val (.ref w_INTERSECT), .val (.long lf), .second, .val (.long rg), .second, .val (.int r1), .val (.int (1 : Int32)), .val (.long cv), .second, .val (.long (if (1 : Int64) < (if rm < lm then rm else lm) then (1 : Int64) else (if rm < lm then rm else lm))), .second]) rfl ?_
      show Steps p.tables e below (T138.setTop (mkF m 151 #[.val (.int p1), .val (.long q2), .second, .val (.long q3), .second, .val (.ref ba), .val (.ref w_INTERSECT), .val (.long lf), .second, .val (.long rg), .second, .val (.int r1), .val (.int (1 : Int32)), .val (.long cv), .second, .val (.long (if (1 : Int64) < (if rm < lm then rm else lm) then (1 : Int64) else (if rm < lm then rm else lm))), .second] [])) _
      exact k
    obtain ⟨cw, hcw⟩ : ∃ z : Int64, z = (if (1 : Int64) < (if rm < lm then rm else lm) then (1 : Int64) else (if rm < lm then rm else lm)) := ⟨_, rfl⟩
    rw [← hcw] at P140
    obtain ⟨g1, g2, g3⟩ := own_pl3 hl0 hr0 hlm hrm hcv hcw
    have P141 : ∀ t, Steps p.tables e below (T138.setTop (mkF m 178 #[.val (.int p1), .val (.long q2), .second, .val (.long q3), .second, .val (.ref ba), .val (.ref w_INTERSECT), .val (.long lf), .second, .val (.long rg), .second, .val (.int r1), .val (.int (1 : Int32)), .val (.long cv), .second, .val (.long cw), .second] [(.int (1 : Int32))])) t → Steps p.tables e below (s₁.setTop (entryFrame m #[(.int p1), (.long q2), (.long q3)] maxLocals)) t := by
      intro t k
      refine P140 _ ?_
      refine XT.lload X138.here hx rfl (hb hby at_151) rfl ?_
      show Steps p.tables e below (T138.setTop (mkF m 153 #[.val (.int p1), .val (.long q2), .second, .val (.long q3), .second, .val (.ref ba), .val (.ref w_INTERSECT), .val (.long lf), .second, .val (.long rg), .second, .val (.int r1), .val (.int (1 : Int32)), .val (.long cv), .second, .val (.long cw), .second] [(.long cv)])) _
      refine XT.lload X138.here hx rfl (hb hby at_153) rfl ?_
      show Steps p.tables e below (T138.setTop (mkF m 155 #[.val (.int p1), .val (.long q2), .second, .val (.long q3), .second, .val (.ref ba), .val (.ref w_INTERSECT), .val (.long lf), .second, .val (.long rg), .second, .val (.int r1), .val (.int (1 : Int32)), .val (.long cv), .second, .val (.long cw), .second] [(.long cw), (.long cv)])) _
      refine XT.lcmp X138.here hx rfl (hb hby at_155) rfl ?_
      show Steps p.tables e below (T138.setTop (mkF m 156 #[.val (.int p1), .val (.long q2), .second, .val (.long q3), .second, .val (.ref ba), .val (.ref w_INTERSECT), .val (.long lf), .second, .val (.long rg), .second, .val (.int r1), .val (.int (1 : Int32)), .val (.long cv), .second, .val (.long cw), .second] [(.int (XT.cmpL cv cw))])) _
      refine XS.ifNo X138.here hx rfl (hb hby at_156) rfl (XT.ll_ne_f g1) ?_
      show Steps p.tables e below (T138.setTop (mkF m 159 #[.val (.int p1), .val (.long q2), .second, .val (.long q3), .second, .val (.ref ba), .val (.ref w_INTERSECT), .val (.long lf), .second, .val (.long rg), .second, .val (.int r1), .val (.int (1 : Int32)), .val (.long cv), .second, .val (.long cw), .second] [])) _
      refine XT.lload X138.here hx rfl (hb hby at_159) rfl ?_
      show Steps p.tables e below (T138.setTop (mkF m 161 #[.val (.int p1), .val (.long q2), .second, .val (.long q3), .second, .val (.ref ba), .val (.ref w_INTERSECT), .val (.long lf), .second, .val (.long rg), .second, .val (.int r1), .val (.int (1 : Int32)), .val (.long cv), .second, .val (.long cw), .second] [(.long cv)])) _
      refine XT.lconst X138.here hx rfl (hb hby at_161) ?_
      show Steps p.tables e below (T138.setTop (mkF m 162 #[.val (.int p1), .val (.long q2), .second, .val (.long q3), .second, .val (.ref ba), .val (.ref w_INTERSECT), .val (.long lf), .second, .val (.long rg), .second, .val (.int r1), .val (.int (1 : Int32)), .val (.long cv), .second, .val (.long cw), .second] [(.long (0 : Int64)), (.long cv)])) _
      refine XT.lcmp X138.here hx rfl (hb hby at_162) rfl ?_
      show Steps p.tables e below (T138.setTop (mkF m 163 #[.val (.int p1), .val (.long q2), .second, .val (.long q3), .second, .val (.ref ba), .val (.ref w_INTERSECT), .val (.long lf), .second, .val (.long rg), .second, .val (.int r1), .val (.int (1 : Int32)), .val (.long cv), .second, .val (.long cw), .second] [(.int (XT.cmpL cv (0 : Int64)))])) _
      refine XS.ifNo X138.here hx rfl (hb hby at_163) rfl (XT.ll_lt_f g2) ?_
      show Steps p.tables e below (T138.setTop (mkF m 166 #[.val (.int p1), .val (.long q2), .second, .val (.long q3), .second, .val (.ref ba), .val (.ref w_INTERSECT), .val (.long lf), .second, .val (.long rg), .second, .val (.int r1), .val (.int (1 : Int32)), .val (.long cv), .second, .val (.long cw), .second] [])) _
      refine XT.lload X138.here hx rfl (hb hby at_166) rfl ?_
      show Steps p.tables e below (T138.setTop (mkF m 168 #[.val (.int p1), .val (.long q2), .second, .val (.long q3), .second, .val (.ref ba), .val (.ref w_INTERSECT), .val (.long lf), .second, .val (.long rg), .second, .val (.int r1), .val (.int (1 : Int32)), .val (.long cv), .second, .val (.long cw), .second] [(.long cv)])) _
      refine XT.lconst X138.here hx rfl (hb hby at_168) ?_
      show Steps p.tables e below (T138.setTop (mkF m 169 #[.val (.int p1), .val (.long q2), .second, .val (.long q3), .second, .val (.ref ba), .val (.ref w_INTERSECT), .val (.long lf), .second, .val (.long rg), .second, .val (.int r1), .val (.int (1 : Int32)), .val (.long cv), .second, .val (.long cw), .second] [(.long (1 : Int64)), (.long cv)])) _
      refine XT.lcmp X138.here hx rfl (hb hby at_169) rfl ?_
      show Steps p.tables e below (T138.setTop (mkF m 170 #[.val (.int p1), .val (.long q2), .second, .val (.long q3), .second, .val (.ref ba), .val (.ref w_INTERSECT), .val (.long lf), .second, .val (.long rg), .second, .val (.int r1), .val (.int (1 : Int32)), .val (.long cv), .second, .val (.long cw), .second] [(.int (XT.cmpL cv (1 : Int64)))])) _
      refine XS.ifNo X138.here hx rfl (hb hby at_170) rfl (XT.ll_gt_f g3) ?_
      show Steps p.tables e below (T138.setTop (mkF m 173 #[.val (.int p1), .val (.long q2), .second, .val (.long q3), .second, .val (.ref ba), .val (.ref w_INTERSECT), .val (.long lf), .second, .val (.long rg), .second, .val (.int r1), .val (.int (1 : Int32)), .val (.long cv), .second, .val (.long cw), .second] [])) _
      refine XS.iconst X138.here hx rfl (hb hby at_173) ?_
      show Steps p.tables e below (T138.setTop (mkF m 174 #[.val (.int p1), .val (.long q2), .second, .val (.long q3), .second, .val (.ref ba), .val (.ref w_INTERSECT), .val (.long lf), .second, .val (.long rg), .second, .val (.int r1), .val (.int (1 : Int32)), .val (.long cv), .second, .val (.long cw), .second] [(.int (1 : Int32))])) _
      refine XS.goto X138.here hx rfl (pc0 := 174) (pc' := 178) rfl (hb hby at_174) (by decide) (by decide) ?_
      show Steps p.tables e below (T138.setTop (mkF m 178 #[.val (.int p1), .val (.long q2), .second, .val (.long q3), .second, .val (.ref ba), .val (.ref w_INTERSECT), .val (.long lf), .second, .val (.long rg), .second, .val (.int r1), .val (.int (1 : Int32)), .val (.long cv), .second, .val (.long cw), .second] [(.int (1 : Int32))])) _
      exact k
    obtain ⟨fs, hr, hrun, hended, hW, hsame⟩ := X138.leave (v := some (.int (1 : Int32))) (fun h => by rw [Bd.returns] at h; cases h)
    refine ⟨_, _, P141 _ ?_, hrun, hended, _, _, rfl, ?_, ⟨_, rfl⟩, hW, hsame.mono (by decide) (by decide)⟩
    · exact retN X138 hx (t := .boolean) Bd.returns (by simp) (hb hby at_178) hr
    · show Q0 Z p1 q2 q3 w_DISTINCT w_EXCEPT w_EXCEPT_ALL w_INTERSECT w_INTERSECT_ALL h0 n0 _ T138.heap _
      rw [e138]
      exact ⟨rfl, N138⟩
  · skip
    have P142 : ∀ t, Steps p.tables e below (T47.setTop (mkF m 45 #[.val (.int p1), .val (.long q2), .second, .val (.long q3), .second, .val (.ref ba), .unset, .unset, .unset, .unset, .unset, .unset, .unset, .unset, .unset, .unset, .unset] [(.ref w_INTERSECT_ALL)])) t → Steps p.tables e below (s₁.setTop (entryFrame m #[(.int p1), (.long q2), (.long q3)] maxLocals)) t := by
      intro t k
      refine P53 _ ?_
      refine own_aal X47 hx hZ e47 F49 ⟨by decide, by decide⟩ (v := (.ref w_INTERSECT_ALL)) rfl rfl rfl (hb hby at_44) ?_
      show Steps p.tables e below (T47.setTop (mkF m 45 #[.val (.int p1), .val (.long q2), .second, .val (.long q3), .second, .val (.ref ba), .unset, .unset, .unset, .unset, .unset, .unset, .unset, .unset, .unset, .unset, .unset] [(.ref w_INTERSECT_ALL)])) _
      exact k
    have P143 : ∀ t, Steps p.tables e below (T47.setTop (mkF m 54 #[.val (.int p1), .val (.long q2), .second, .val (.long q3), .second, .val (.ref ba), .val (.ref w_INTERSECT_ALL), .val (.long (q2 &&& (9223372036854775807 : Int64))), .second, .unset, .unset, .unset, .unset, .unset, .unset, .unset, .unset] [])) t → Steps p.tables e below (s₁.setTop (entryFrame m #[(.int p1), (.long q2), (.long q3)] maxLocals)) t := by
      intro t k
      refine P142 _ ?_
      refine XS.astore X47.here hx rfl (hb hby at_45) rfl rfl (l' := #[.val (.int p1), .val (.long q2), .second, .val (.long q3), .second, .val (.ref ba), .val (.ref w_INTERSECT_ALL), .unset, .unset, .unset, .unset, .unset, .unset, .unset, .unset, .unset, .unset]) rfl ?_
      show Steps p.tables e below (T47.setTop (mkF m 47 #[.val (.int p1), .val (.long q2), .second, .val (.long q3), .second, .val (.ref ba), .val (.ref w_INTERSECT_ALL), .unset, .unset, .unset, .unset, .unset, .unset, .unset, .unset, .unset, .unset] [])) _
      refine XT.lloadN X47.here hx rfl (hb hby at_47) rfl ?_
      show Steps p.tables e below (T47.setTop (mkF m 48 #[.val (.int p1), .val (.long q2), .second, .val (.long q3), .second, .val (.ref ba), .val (.ref w_INTERSECT_ALL), .unset, .unset, .unset, .unset, .unset, .unset, .unset, .unset, .unset, .unset] [(.long q2)])) _
      refine Jvm.Stand.ldc2J X47 hx hown (mvT hZ (hw _ (List.mem_of_getElem? (i := 15) rfl))) rfl (hb hby at_48) ?_
      show Steps p.tables e below (T47.setTop (mkF m 51 #[.val (.int p1), .val (.long q2), .second, .val (.long q3), .second, .val (.ref ba), .val (.ref w_INTERSECT_ALL), .unset, .unset, .unset, .unset, .unset, .unset, .unset, .unset, .unset, .unset] [(.long (9223372036854775807 : Int64)), (.long q2)])) _
      refine XT.land X47.here hx rfl (hb hby at_51) rfl ?_
      show Steps p.tables e below (T47.setTop (mkF m 52 #[.val (.int p1), .val (.long q2), .second, .val (.long q3), .second, .val (.ref ba), .val (.ref w_INTERSECT_ALL), .unset, .unset, .unset, .unset, .unset, .unset, .unset, .unset, .unset, .unset] [(.long (q2 &&& (9223372036854775807 : Int64)))])) _
      refine XT.lstore X47.here hx rfl (hb hby at_52) rfl (l' := #[.val (.int p1), .val (.long q2), .second, .val (.long q3), .second, .val (.ref ba), .val (.ref w_INTERSECT_ALL), .val (.long (q2 &&& (9223372036854775807 : Int64))), .second, .unset, .unset, .unset, .unset, .unset, .unset, .unset, .unset]) rfl ?_
      show Steps p.tables e below (T47.setTop (mkF m 54 #[.val (.int p1), .val (.long q2), .second, .val (.long q3), .second, .val (.ref ba), .val (.ref w_INTERSECT_ALL), .val (.long (q2 &&& (9223372036854775807 : Int64))), .second, .unset, .unset, .unset, .unset, .unset, .unset, .unset, .unset] [])) _
      exact k
    obtain ⟨lf, hlf⟩ : ∃ z : Int64, z = (q2 &&& (9223372036854775807 : Int64)) := ⟨_, rfl⟩
    rw [← hlf] at P143
    have hl0 := own_nn hlf
    have P144 : ∀ t, Steps p.tables e below (T47.setTop (mkF m 61 #[.val (.int p1), .val (.long q2), .second, .val (.long q3), .second, .val (.ref ba), .val (.ref w_INTERSECT_ALL), .val (.long lf), .second, .val (.long (q3 &&& (9223372036854775807 : Int64))), .second, .unset, .unset, .unset, .unset, .unset, .unset] [])) t → Steps p.tables e below (s₁.setTop (entryFrame m #[(.int p1), (.long q2), (.long q3)] maxLocals)) t := by
      intro t k
      refine P143 _ ?_
      refine XT.lloadN X47.here hx rfl (hb hby at_54) rfl ?_
      show Steps p.tables e below (T47.setTop (mkF m 55 #[.val (.int p1), .val (.long q2), .second, .val (.long q3), .second, .val (.ref ba), .val (.ref w_INTERSECT_ALL), .val (.long lf), .second, .unset, .unset, .unset, .unset, .unset, .unset, .unset, .unset] [(.long q3)])) _
      refine Jvm.Stand.ldc2J X47 hx hown (mvT hZ (hw _ (List.mem_of_getElem? (i := 15) rfl))) rfl (hb hby at_55) ?_
      show Steps p.tables e below (T47.setTop (mkF m 58 #[.val (.int p1), .val (.long q2), .second, .val (.long q3), .second, .val (.ref ba), .val (.ref w_INTERSECT_ALL), .val (.long lf), .second, .unset, .unset, .unset, .unset, .unset, .unset, .unset, .unset] [(.long (9223372036854775807 : Int64)), (.long q3)])) _
      refine XT.land X47.here hx rfl (hb hby at_58) rfl ?_
      show Steps p.tables e below (T47.setTop (mkF m 59 #[.val (.int p1), .val (.long q2), .second, .val (.long q3), .second, .val (.ref ba), .val (.ref w_INTERSECT_ALL), .val (.long lf), .second, .unset, .unset, .unset, .unset, .unset, .unset, .unset, .unset] [(.long (q3 &&& (9223372036854775807 : Int64)))])) _
      refine XT.lstore X47.here hx rfl (hb hby at_59) rfl (l' := #[.val (.int p1), .val (.long q2), .second, .val (.long q3), .second, .val (.ref ba), .val (.ref w_INTERSECT_ALL), .val (.long lf), .second, .val (.long (q3 &&& (9223372036854775807 : Int64))), .second, .unset, .unset, .unset, .unset, .unset, .unset]) rfl ?_
      show Steps p.tables e below (T47.setTop (mkF m 61 #[.val (.int p1), .val (.long q2), .second, .val (.long q3), .second, .val (.ref ba), .val (.ref w_INTERSECT_ALL), .val (.long lf), .second, .val (.long (q3 &&& (9223372036854775807 : Int64))), .second, .unset, .unset, .unset, .unset, .unset, .unset] [])) _
      exact k
    obtain ⟨rg, hrg⟩ : ∃ z : Int64, z = (q3 &&& (9223372036854775807 : Int64)) := ⟨_, rfl⟩
    rw [← hrg] at P144
    have hr0 := own_nn hrg
    have P145 : ∀ t, Steps p.tables e below (T47.setTop (mkF m 63 #[.val (.int p1), .val (.long q2), .second, .val (.long q3), .second, .val (.ref ba), .val (.ref w_INTERSECT_ALL), .val (.long lf), .second, .val (.long rg), .second, .unset, .unset, .unset, .unset, .unset, .unset] [(.ref w_INTERSECT_ALL)])) t → Steps p.tables e below (s₁.setTop (entryFrame m #[(.int p1), (.long q2), (.long q3)] maxLocals)) t := by
      intro t k
      refine P144 _ ?_
      refine XS.aload X47.here hx rfl (hb hby at_61) rfl rfl ?_
      show Steps p.tables e below (T47.setTop (mkF m 63 #[.val (.int p1), .val (.long q2), .second, .val (.long q3), .second, .val (.ref ba), .val (.ref w_INTERSECT_ALL), .val (.long lf), .second, .val (.long rg), .second, .unset, .unset, .unset, .unset, .unset, .unset] [(.ref w_INTERSECT_ALL)])) _
      exact k
    obtain ⟨cq146, kq146, qa146, qb146, qc146⟩ := isOf hZ e47 (E_INTERSECT_ALL.ext F48.2)
    obtain ⟨_, _, ⟨T146, L146, k146, n146⟩, -, X146, ⟨Lc146, hQ146, l146, y146, z146⟩, st146⟩ := X47.virtualBack hx (y := (⟨"com/example/millrace/millrace/plan/SetOperation$Kind", "isSet", "()Z"⟩ : MethodName)) (z := (⟨"com/example/millrace/millrace/plan/SetOperation$Kind", "isSet", "()Z"⟩ : MethodName)) hown (mvT hZ (hw _ (List.mem_of_getElem? (i := 16) rfl))) (mvT hZ (hw _ (List.mem_of_getElem? (i := 17) rfl))) (notFace_of_selects (args := #[]) (mvT hZ (hw _ (List.mem_of_getElem? (i := 19) rfl)))) (mvT hZ (hw _ (List.mem_of_getElem? (i := 19) rfl))) (mvT hZ (hw _ (List.mem_of_getElem? (i := 18) rfl))) (by decide) (backOf (W := 0) (rm4 l Z a0 hw [] w_INTERSECT_ALL w_DISTINCT w_EXCEPT w_INTERSECT h47 n0 Z50 (S_DISTINCT.ext F48.2) (S_EXCEPT.ext F48.2) (S_INTERSECT.ext F48.2)) hZ (hw _ (List.mem_of_getElem? (i := 20) rfl)) (hw _ (List.mem_of_getElem? (i := 3) rfl)) (by decide) (by decide)) qa146 qc146 (g := (mkF m 63 #[.val (.int p1), .val (.long q2), .second, .val (.long q3), .second, .val (.ref ba), .val (.ref w_INTERSECT_ALL), .val (.long lf), .second, .val (.long rg), .second, .unset, .unset, .unset, .unset, .unset, .unset] [(.ref w_INTERSECT_ALL)])) rfl (by rw [hml]; rfl) (Steps.refl _) (argsL := []) (rest := []) (lenOf pd_2 rfl) rfl (by show 2 * 0 + _ ≤ _; exact Nat.le_of_eq rfl) (hb hby at_63) (fun _ _ => ⟨rfl, e47, (by decide : 1 + 0 ≤ _), (by decide : 5 + 0 ≤ _)⟩)
    dsimp only [Pt.U, Pt.locs, Pt.cells, Pt.slots] at X146 l146 y146 z146 st146 hQ146
    subst l146 y146 z146
    obtain ⟨rfl, N146q, e146⟩ := hQ146
    have N146 := Fr.app N47 N146q
    have P147 : ∀ t, Steps p.tables e below (T146.setTop (mkF m 66 #[.val (.int p1), .val (.long q2), .second, .val (.long q3), .second, .val (.ref ba), .val (.ref w_INTERSECT_ALL), .val (.long lf), .second, .val (.long rg), .second, .unset, .unset, .unset, .unset, .unset, .unset] [(.int (if w_INTERSECT_ALL = w_DISTINCT then (1 : Int32) else (if w_INTERSECT_ALL = w_EXCEPT then (1 : Int32) else (if w_INTERSECT_ALL = w_INTERSECT then (1 : Int32) else (0 : Int32)))))])) t → Steps p.tables e below (s₁.setTop (entryFrame m #[(.int p1), (.long q2), (.long q3)] maxLocals)) t := fun t k => P145 _ (st146.trans k)
    obtain ⟨r1, hr1⟩ : ∃ z : Int32, z = (if w_INTERSECT_ALL = w_DISTINCT then (1 : Int32) else (if w_INTERSECT_ALL = w_EXCEPT then (1 : Int32) else (if w_INTERSECT_ALL = w_INTERSECT then (1 : Int32) else (0 : Int32)))) := ⟨_, rfl⟩
    rw [← hr1] at P147
    have r1e : r1 = (0 : Int32) := by rw [hr1, if_neg (Fld.ne O_INTERSECT_ALL O_DISTINCT (by decide)), if_neg (Fld.ne O_INTERSECT_ALL O_EXCEPT (by decide)), if_neg (Fld.ne O_INTERSECT_ALL O_INTERSECT (by decide))]
    have P148 : ∀ t, Steps p.tables e below (T146.setTop (mkF m 74 #[.val (.int p1), .val (.long q2), .second, .val (.long q3), .second, .val (.ref ba), .val (.ref w_INTERSECT_ALL), .val (.long lf), .second, .val (.long rg), .second, .val (.int r1), .unset, .unset, .unset, .unset, .unset] [(.long (0 : Int64)), (.long (2 : Int64)), (.ref w_INTERSECT_ALL)])) t → Steps p.tables e below (s₁.setTop (entryFrame m #[(.int p1), (.long q2), (.long q3)] maxLocals)) t := by
      intro t k
      refine P147 _ ?_
      refine XS.istore X146.here hx rfl (hb hby at_66) rfl (l' := #[.val (.int p1), .val (.long q2), .second, .val (.long q3), .second, .val (.ref ba), .val (.ref w_INTERSECT_ALL), .val (.long lf), .second, .val (.long rg), .second, .val (.int r1), .unset, .unset, .unset, .unset, .unset]) rfl ?_
      show Steps p.tables e below (T146.setTop (mkF m 68 #[.val (.int p1), .val (.long q2), .second, .val (.long q3), .second, .val (.ref ba), .val (.ref w_INTERSECT_ALL), .val (.long lf), .second, .val (.long rg), .second, .val (.int r1), .unset, .unset, .unset, .unset, .unset] [])) _
      refine XS.aload X146.here hx rfl (hb hby at_68) rfl rfl ?_
      show Steps p.tables e below (T146.setTop (mkF m 70 #[.val (.int p1), .val (.long q2), .second, .val (.long q3), .second, .val (.ref ba), .val (.ref w_INTERSECT_ALL), .val (.long lf), .second, .val (.long rg), .second, .val (.int r1), .unset, .unset, .unset, .unset, .unset] [(.ref w_INTERSECT_ALL)])) _
      refine Jvm.Stand.ldc2J X146 hx hown (mvT hZ (hw _ (List.mem_of_getElem? (i := 22) rfl))) rfl (hb hby at_70) ?_
      show Steps p.tables e below (T146.setTop (mkF m 73 #[.val (.int p1), .val (.long q2), .second, .val (.long q3), .second, .val (.ref ba), .val (.ref w_INTERSECT_ALL), .val (.long lf), .second, .val (.long rg), .second, .val (.int r1), .unset, .unset, .unset, .unset, .unset] [(.long (2 : Int64)), (.ref w_INTERSECT_ALL)])) _
      refine XT.lconst X146.here hx rfl (hb hby at_73) ?_
      show Steps p.tables e below (T146.setTop (mkF m 74 #[.val (.int p1), .val (.long q2), .second, .val (.long q3), .second, .val (.ref ba), .val (.ref w_INTERSECT_ALL), .val (.long lf), .second, .val (.long rg), .second, .val (.int r1), .unset, .unset, .unset, .unset, .unset] [(.long (0 : Int64)), (.long (2 : Int64)), (.ref w_INTERSECT_ALL)])) _
      exact k
    obtain ⟨cq149, kq149, qa149, qb149, qc149⟩ := isOf hZ e146 (E_INTERSECT_ALL.ext F48.2)
    obtain ⟨_, _, ⟨T149, L149, k149, n149⟩, -, X149, ⟨Lc149, hQ149, l149, y149, z149⟩, st149⟩ := X146.virtualBack hx (y := (⟨"com/example/millrace/millrace/plan/SetOperation$Kind", "copies", "(JJ)J"⟩ : MethodName)) (z := (⟨"com/example/millrace/millrace/plan/SetOperation$Kind", "copies", "(JJ)J"⟩ : MethodName)) hown (mvT hZ (hw _ (List.mem_of_getElem? (i := 23) rfl))) (mvT hZ (hw _ (List.mem_of_getElem? (i := 24) rfl))) (notFace_of_selects (args := #[]) (mvT hZ (hw _ (List.mem_of_getElem? (i := 26) rfl)))) (mvT hZ (hw _ (List.mem_of_getElem? (i := 26) rfl))) (mvT hZ (hw _ (List.mem_of_getElem? (i := 25) rfl))) (by decide) (backOf (W := 0) (rm24 l Z a0 hw [] w_INTERSECT_ALL (2 : Int64) (0 : Int64)  h47 n0 Z50 (E_INTERSECT_ALL.ext F48.2) (O_INTERSECT_ALL.ext F48.2)) hZ (hw _ (List.mem_of_getElem? (i := 27) rfl)) (hw _ (List.mem_of_getElem? (i := 3) rfl)) (by decide) (by decide)) qa149 qc149 (g := (mkF m 74 #[.val (.int p1), .val (.long q2), .second, .val (.long q3), .second, .val (.ref ba), .val (.ref w_INTERSECT_ALL), .val (.long lf), .second, .val (.long rg), .second, .val (.int r1), .unset, .unset, .unset, .unset, .unset] [(.long (0 : Int64)), (.long (2 : Int64)), (.ref w_INTERSECT_ALL)])) rfl (by rw [hml]; rfl) (Steps.refl _) (argsL := [(.long (2 : Int64)), (.long (0 : Int64))]) (rest := []) (lenOf pd_1 rfl) rfl (by show 2 * 0 + _ ≤ _; exact Nat.le_of_eq rfl) (hb hby at_74) (fun _ _ => ⟨rfl, e146, (by decide : 1 + 0 ≤ _), (by decide : 5 + 0 ≤ _)⟩)
    dsimp only [Pt.U, Pt.locs, Pt.cells, Pt.slots] at X149 l149 y149 z149 st149 hQ149
    subst l149 y149 z149
    obtain ⟨rfl, N149q, e149⟩ := hQ149
    have N149 := Fr.app N146 N149q
    have P150 : ∀ t, Steps p.tables e below (T149.setTop (mkF m 77 #[.val (.int p1), .val (.long q2), .second, .val (.long q3), .second, .val (.ref ba), .val (.ref w_INTERSECT_ALL), .val (.long lf), .second, .val (.long rg), .second, .val (.int r1), .unset, .unset, .unset, .unset, .unset] [(.long (if (0 : Int64) < (2 : Int64) then (0 : Int64) else (2 : Int64)))])) t → Steps p.tables e below (s₁.setTop (entryFrame m #[(.int p1), (.long q2), (.long q3)] maxLocals)) t := fun t k => P148 _ (st149.trans k)
    have P151 : ∀ t, Steps p.tables e below (T149.setTop (mkF m 90 #[.val (.int p1), .val (.long q2), .second, .val (.long q3), .second, .val (.ref ba), .val (.ref w_INTERSECT_ALL), .val (.long lf), .second, .val (.long rg), .second, .val (.int r1), .unset, .unset, .unset, .unset, .unset] [(.long (2 : Int64)), (.long (2 : Int64)), (.ref w_INTERSECT_ALL)])) t → Steps p.tables e below (s₁.setTop (entryFrame m #[(.int p1), (.long q2), (.long q3)] maxLocals)) t := by
      intro t k
      refine P150 _ ?_
      refine XT.lconst X149.here hx rfl (hb hby at_77) ?_
      show Steps p.tables e below (T149.setTop (mkF m 78 #[.val (.int p1), .val (.long q2), .second, .val (.long q3), .second, .val (.ref ba), .val (.ref w_INTERSECT_ALL), .val (.long lf), .second, .val (.long rg), .second, .val (.int r1), .unset, .unset, .unset, .unset, .unset] [(.long (1 : Int64)), (.long (if (0 : Int64) < (2 : Int64) then (0 : Int64) else (2 : Int64)))])) _
      refine XT.lcmp X149.here hx rfl (hb hby at_78) rfl ?_
      show Steps p.tables e below (T149.setTop (mkF m 79 #[.val (.int p1), .val (.long q2), .second, .val (.long q3), .second, .val (.ref ba), .val (.ref w_INTERSECT_ALL), .val (.long lf), .second, .val (.long rg), .second, .val (.int r1), .unset, .unset, .unset, .unset, .unset] [(.int (XT.cmpL (if (0 : Int64) < (2 : Int64) then (0 : Int64) else (2 : Int64)) (1 : Int64)))])) _
      refine XS.ifNo X149.here hx rfl (hb hby at_79) rfl (XT.ll_gt_f (by decide)) ?_
      show Steps p.tables e below (T149.setTop (mkF m 82 #[.val (.int p1), .val (.long q2), .second, .val (.long q3), .second, .val (.ref ba), .val (.ref w_INTERSECT_ALL), .val (.long lf), .second, .val (.long rg), .second, .val (.int r1), .unset, .unset, .unset, .unset, .unset] [])) _
      refine XS.aload X149.here hx rfl (hb hby at_82) rfl rfl ?_
      show Steps p.tables e below (T149.setTop (mkF m 84 #[.val (.int p1), .val (.long q2), .second, .val (.long q3), .second, .val (.ref ba), .val (.ref w_INTERSECT_ALL), .val (.long lf), .second, .val (.long rg), .second, .val (.int r1), .unset, .unset, .unset, .unset, .unset] [(.ref w_INTERSECT_ALL)])) _
      refine Jvm.Stand.ldc2J X149 hx hown (mvT hZ (hw _ (List.mem_of_getElem? (i := 22) rfl))) rfl (hb hby at_84) ?_
      show Steps p.tables e below (T149.setTop (mkF m 87 #[.val (.int p1), .val (.long q2), .second, .val (.long q3), .second, .val (.ref ba), .val (.ref w_INTERSECT_ALL), .val (.long lf), .second, .val (.long rg), .second, .val (.int r1), .unset, .unset, .unset, .unset, .unset] [(.long (2 : Int64)), (.ref w_INTERSECT_ALL)])) _
      refine Jvm.Stand.ldc2J X149 hx hown (mvT hZ (hw _ (List.mem_of_getElem? (i := 22) rfl))) rfl (hb hby at_87) ?_
      show Steps p.tables e below (T149.setTop (mkF m 90 #[.val (.int p1), .val (.long q2), .second, .val (.long q3), .second, .val (.ref ba), .val (.ref w_INTERSECT_ALL), .val (.long lf), .second, .val (.long rg), .second, .val (.int r1), .unset, .unset, .unset, .unset, .unset] [(.long (2 : Int64)), (.long (2 : Int64)), (.ref w_INTERSECT_ALL)])) _
      exact k
    obtain ⟨cq152, kq152, qa152, qb152, qc152⟩ := isOf hZ e149 (E_INTERSECT_ALL.ext F48.2)
    obtain ⟨_, _, ⟨T152, L152, k152, n152⟩, -, X152, ⟨Lc152, hQ152, l152, y152, z152⟩, st152⟩ := X149.virtualBack hx (y := (⟨"com/example/millrace/millrace/plan/SetOperation$Kind", "copies", "(JJ)J"⟩ : MethodName)) (z := (⟨"com/example/millrace/millrace/plan/SetOperation$Kind", "copies", "(JJ)J"⟩ : MethodName)) hown (mvT hZ (hw _ (List.mem_of_getElem? (i := 23) rfl))) (mvT hZ (hw _ (List.mem_of_getElem? (i := 24) rfl))) (notFace_of_selects (args := #[]) (mvT hZ (hw _ (List.mem_of_getElem? (i := 26) rfl)))) (mvT hZ (hw _ (List.mem_of_getElem? (i := 26) rfl))) (mvT hZ (hw _ (List.mem_of_getElem? (i := 25) rfl))) (by decide) (backOf (W := 0) (rm24 l Z a0 hw [] w_INTERSECT_ALL (2 : Int64) (2 : Int64)  h47 n0 Z50 (E_INTERSECT_ALL.ext F48.2) (O_INTERSECT_ALL.ext F48.2)) hZ (hw _ (List.mem_of_getElem? (i := 27) rfl)) (hw _ (List.mem_of_getElem? (i := 3) rfl)) (by decide) (by decide)) qa152 qc152 (g := (mkF m 90 #[.val (.int p1), .val (.long q2), .second, .val (.long q3), .second, .val (.ref ba), .val (.ref w_INTERSECT_ALL), .val (.long lf), .second, .val (.long rg), .second, .val (.int r1), .unset, .unset, .unset, .unset, .unset] [(.long (2 : Int64)), (.long (2 : Int64)), (.ref w_INTERSECT_ALL)])) rfl (by rw [hml]; rfl) (Steps.refl _) (argsL := [(.long (2 : Int64)), (.long (2 : Int64))]) (rest := []) (lenOf pd_1 rfl) rfl (by show 2 * 0 + _ ≤ _; exact Nat.le_of_eq rfl) (hb hby at_90) (fun _ _ => ⟨rfl, e149, (by decide : 1 + 0 ≤ _), (by decide : 5 + 0 ≤ _)⟩)
    dsimp only [Pt.U, Pt.locs, Pt.cells, Pt.slots] at X152 l152 y152 z152 st152 hQ152
    subst l152 y152 z152
    obtain ⟨rfl, N152q, e152⟩ := hQ152
    have N152 := Fr.app N149 N152q
    have P153 : ∀ t, Steps p.tables e below (T152.setTop (mkF m 93 #[.val (.int p1), .val (.long q2), .second, .val (.long q3), .second, .val (.ref ba), .val (.ref w_INTERSECT_ALL), .val (.long lf), .second, .val (.long rg), .second, .val (.int r1), .unset, .unset, .unset, .unset, .unset] [(.long (if (2 : Int64) < (2 : Int64) then (2 : Int64) else (2 : Int64)))])) t → Steps p.tables e below (s₁.setTop (entryFrame m #[(.int p1), (.long q2), (.long q3)] maxLocals)) t := fun t k => P151 _ (st152.trans k)
    have P154 : ∀ t, Steps p.tables e below (T152.setTop (mkF m 120 #[.val (.int p1), .val (.long q2), .second, .val (.long q3), .second, .val (.ref ba), .val (.ref w_INTERSECT_ALL), .val (.long lf), .second, .val (.long rg), .second, .val (.int r1), .val (.int (0 : Int32)), .unset, .unset, .unset, .unset] [(.int (1 : Int32))])) t → Steps p.tables e below (s₁.setTop (entryFrame m #[(.int p1), (.long q2), (.long q3)] maxLocals)) t := by
      intro t k
      refine P153 _ ?_
      refine XT.lconst X152.here hx rfl (hb hby at_93) ?_
      show Steps p.tables e below (T152.setTop (mkF m 94 #[.val (.int p1), .val (.long q2), .second, .val (.long q3), .second, .val (.ref ba), .val (.ref w_INTERSECT_ALL), .val (.long lf), .second, .val (.long rg), .second, .val (.int r1), .unset, .unset, .unset, .unset, .unset] [(.long (1 : Int64)), (.long (if (2 : Int64) < (2 : Int64) then (2 : Int64) else (2 : Int64)))])) _
      refine XT.lcmp X152.here hx rfl (hb hby at_94) rfl ?_
      show Steps p.tables e below (T152.setTop (mkF m 95 #[.val (.int p1), .val (.long q2), .second, .val (.long q3), .second, .val (.ref ba), .val (.ref w_INTERSECT_ALL), .val (.long lf), .second, .val (.long rg), .second, .val (.int r1), .unset, .unset, .unset, .unset, .unset] [(.int (XT.cmpL (if (2 : Int64) < (2 : Int64) then (2 : Int64) else (2 : Int64)) (1 : Int64)))])) _
      refine XS.ifYes X152.here hx rfl (pc0 := 95) (pc' := 102) rfl (hb hby at_95) rfl (XT.ll_gt_t (by decide)) (by decide) (by decide) ?_
      show Steps p.tables e below (T152.setTop (mkF m 102 #[.val (.int p1), .val (.long q2), .second, .val (.long q3), .second, .val (.ref ba), .val (.ref w_INTERSECT_ALL), .val (.long lf), .second, .val (.long rg), .second, .val (.int r1), .unset, .unset, .unset, .unset, .unset] [])) _
      refine XS.iconst X152.here hx rfl (hb hby at_102) ?_
      show Steps p.tables e below (T152.setTop (mkF m 103 #[.val (.int p1), .val (.long q2), .second, .val (.long q3), .second, .val (.ref ba), .val (.ref w_INTERSECT_ALL), .val (.long lf), .second, .val (.long rg), .second, .val (.int r1), .unset, .unset, .unset, .unset, .unset] [(.int (0 : Int32))])) _
      refine XS.istore X152.here hx rfl (hb hby at_103) rfl (l' := #[.val (.int p1), .val (.long q2), .second, .val (.long q3), .second, .val (.ref ba), .val (.ref w_INTERSECT_ALL), .val (.long lf), .second, .val (.long rg), .second, .val (.int r1), .val (.int (0 : Int32)), .unset, .unset, .unset, .unset]) rfl ?_
      show Steps p.tables e below (T152.setTop (mkF m 105 #[.val (.int p1), .val (.long q2), .second, .val (.long q3), .second, .val (.ref ba), .val (.ref w_INTERSECT_ALL), .val (.long lf), .second, .val (.long rg), .second, .val (.int r1), .val (.int (0 : Int32)), .unset, .unset, .unset, .unset] [])) _
      refine XS.iload X152.here hx rfl (hb hby at_105) rfl ?_
      show Steps p.tables e below (T152.setTop (mkF m 107 #[.val (.int p1), .val (.long q2), .second, .val (.long q3), .second, .val (.ref ba), .val (.ref w_INTERSECT_ALL), .val (.long lf), .second, .val (.long rg), .second, .val (.int r1), .val (.int (0 : Int32)), .unset, .unset, .unset, .unset] [(.int r1)])) _
      refine XS.iload X152.here hx rfl (hb hby at_107) rfl ?_
      show Steps p.tables e below (T152.setTop (mkF m 109 #[.val (.int p1), .val (.long q2), .second, .val (.long q3), .second, .val (.ref ba), .val (.ref w_INTERSECT_ALL), .val (.long lf), .second, .val (.long rg), .second, .val (.int r1), .val (.int (0 : Int32)), .unset, .unset, .unset, .unset] [(.int (0 : Int32)), (.int r1)])) _
      refine XS.icmpYes X152.here hx rfl (pc0 := 109) (pc' := 114) rfl (hb hby at_109) rfl (XT.ii_eq_t r1e) (by decide) (by decide) ?_
      show Steps p.tables e below (T152.setTop (mkF m 114 #[.val (.int p1), .val (.long q2), .second, .val (.long q3), .second, .val (.ref ba), .val (.ref w_INTERSECT_ALL), .val (.long lf), .second, .val (.long rg), .second, .val (.int r1), .val (.int (0 : Int32)), .unset, .unset, .unset, .unset] [])) _
      refine XS.iload X152.here hx rfl (hb hby at_114) rfl ?_
      show Steps p.tables e below (T152.setTop (mkF m 116 #[.val (.int p1), .val (.long q2), .second, .val (.long q3), .second, .val (.ref ba), .val (.ref w_INTERSECT_ALL), .val (.long lf), .second, .val (.long rg), .second, .val (.int r1), .val (.int (0 : Int32)), .unset, .unset, .unset, .unset] [(.int r1)])) _
      refine XS.ifNo X152.here hx rfl (hb hby at_116) rfl (XT.i0_ne_f r1e) ?_
      show Steps p.tables e below (T152.setTop (mkF m 119 #[.val (.int p1), .val (.long q2), .second, .val (.long q3), .second, .val (.ref ba), .val (.ref w_INTERSECT_ALL), .val (.long lf), .second, .val (.long rg), .second, .val (.int r1), .val (.int (0 : Int32)), .unset, .unset, .unset, .unset] [])) _
      refine XS.iconst X152.here hx rfl (hb hby at_119) ?_
      show Steps p.tables e below (T152.setTop (mkF m 120 #[.val (.int p1), .val (.long q2), .second, .val (.long q3), .second, .val (.ref ba), .val (.ref w_INTERSECT_ALL), .val (.long lf), .second, .val (.long rg), .second, .val (.int r1), .val (.int (0 : Int32)), .unset, .unset, .unset, .unset] [(.int (1 : Int32))])) _
      exact k
    obtain ⟨fs, hr, hrun, hended, hW, hsame⟩ := X152.leave (v := some (.int (1 : Int32))) (fun h => by rw [Bd.returns] at h; cases h)
    refine ⟨_, _, P154 _ ?_, hrun, hended, _, _, rfl, ?_, ⟨_, rfl⟩, hW, hsame.mono (by decide) (by decide)⟩
    · exact retN X152 hx (t := .boolean) Bd.returns (by simp) (hb hby at_120) hr
    · show Q0 Z p1 q2 q3 w_DISTINCT w_EXCEPT w_EXCEPT_ALL w_INTERSECT w_INTERSECT_ALL h0 n0 _ T152.heap _
      rw [e152]
      exact ⟨rfl, N152⟩
set_option maxRecDepth 65536 in
set_option maxHeartbeats 40000000 in
theorem comes_1 {Post : Tables → Env → Array Value → State → Outcome → State → Prop} (hpost : ∀ tb e args s v u, (limb_1_1.after args s (.returned v) u = true ∧ limb_1_2.after args s (.returned v) u = true ∧ True) → FrameEnd s (.returned v) u (Jvm.fieldLocs frame_1_writes args s ++ Jvm.arrayLocs frame_1_arrays args s ++ Jvm.staticLocs frame_1_statics s) 16 128 → Post tb e args s (.returned v) u) :
    ArmFor flags0 classFile x code maxLocals ret World_1 tables_1 room_1 Calls_1 rest_1 Pre_1 Post := by
  intro l hfl _ _ p e ha hc hk s m args below hf hA hF happ hP
  obtain ⟨hcalls, hrest, hpre⟩ := hP
  obtain ⟨-, -, -, hnamed, -, -, -, hat⟩ := (Spec.applies_iff hf).mp happ
  obtain ⟨hg, hn⟩ := and_e (Cond.before_iff.mp (show (Jvm.Cond.and given_1 narrow_1).before args s = true from hpre))
  obtain ⟨g1, g2⟩ := and_e hg
  obtain ⟨g3, g4⟩ := and_e g2
  obtain ⟨g5, g6⟩ := and_e g4
  obtain ⟨w0, w1, w2, rfl⟩ : ∃ w0 w1 w2 : Value, args = #[w0, w1, w2] := by
    have hs : args.size = 3 := by simpa [Cond.value, given_1] using g1
    obtain ⟨L⟩ := args
    match L, hs with
    | [w0, w1, w2], _ => exact ⟨w0, w1, w2, rfl⟩
  have hw := fun d (hd : d ∈ tables_1) => atoms_spec (ws := Jvm.Cond.code x code maxLocals ret :: tables_1) hat d (List.mem_cons_of_mem _ hd)
  have hfit : Fit s := fun {y c} hc i hi => by
    obtain ⟨ha, rfl⟩ := Array.getElem?_eq_some_iff.mp hc
    have q := List.all_eq_true.mp ((Array.all_eq_true_iff_forall_mem.mp hF) _ (Array.getElem_mem ha)) i (List.mem_range.mpr hi)
    simpa [Array.getElem?_eq_getElem hi] using q
  obtain ⟨i0, ei0⟩ := is_v g3
  obtain rfl : w0 = (.int i0) := Option.some.inj ei0
  obtain ⟨i1, ei1⟩ := isL_v g5
  obtain rfl : w1 = (.long i1) := Option.some.inj ei1
  obtain ⟨i2, ei2⟩ := isL_v g6
  obtain rfl : w2 = (.long i2) := Option.some.inj ei2
  obtain ⟨t1, u1⟩ := and_e hn
  obtain ⟨t2, u2⟩ := and_e u1
  obtain ⟨t3, u3⟩ := and_e u2
  obtain ⟨t4, u4⟩ := and_e u3
  obtain ⟨t5, u5⟩ := and_e u4
  obtain ⟨t6, u6⟩ := and_e u5
  obtain ⟨t7, u7⟩ := and_e u6
  obtain ⟨t8, u8⟩ := and_e u7
  obtain ⟨t9, u9⟩ := and_e u8
  obtain ⟨w_DISTINCT, ev_DISTINCT⟩ := exa_v t1
  have E_DISTINCT := Exa.start ev_DISTINCT t1
  have S_DISTINCT := Sta.start ev_DISTINCT (Or.inr ⟨(hw _ (List.mem_of_getElem? (i := 3) rfl)), (hw _ (List.mem_of_getElem? (i := 4) rfl))⟩)
  have F_DISTINCT_ordinal := own_fldI ev_DISTINCT t6
  obtain ⟨w_EXCEPT, ev_EXCEPT⟩ := exa_v t2
  have E_EXCEPT := Exa.start ev_EXCEPT t2
  have S_EXCEPT := Sta.start ev_EXCEPT (Or.inr ⟨(hw _ (List.mem_of_getElem? (i := 3) rfl)), (hw _ (List.mem_of_getElem? (i := 7) rfl))⟩)
  have F_EXCEPT_ordinal := own_fldI ev_EXCEPT t8
  obtain ⟨w_EXCEPT_ALL, ev_EXCEPT_ALL⟩ := exa_v t3
  have E_EXCEPT_ALL := Exa.start ev_EXCEPT_ALL t3
  have S_EXCEPT_ALL := Sta.start ev_EXCEPT_ALL (Or.inr ⟨(hw _ (List.mem_of_getElem? (i := 3) rfl)), (hw _ (List.mem_of_getElem? (i := 9) rfl))⟩)
  have F_EXCEPT_ALL_ordinal := own_fldI ev_EXCEPT_ALL u9
  obtain ⟨w_INTERSECT, ev_INTERSECT⟩ := exa_v t4
  have E_INTERSECT := Exa.start ev_INTERSECT t4
  have S_INTERSECT := Sta.start ev_INTERSECT (Or.inr ⟨(hw _ (List.mem_of_getElem? (i := 3) rfl)), (hw _ (List.mem_of_getElem? (i := 11) rfl))⟩)
  have F_INTERSECT_ordinal := own_fldI ev_INTERSECT t9
  obtain ⟨w_INTERSECT_ALL, ev_INTERSECT_ALL⟩ := exa_v t5
  have E_INTERSECT_ALL := Exa.start ev_INTERSECT_ALL t5
  have S_INTERSECT_ALL := Sta.start ev_INTERSECT_ALL (Or.inr ⟨(hw _ (List.mem_of_getElem? (i := 3) rfl)), (hw _ (List.mem_of_getElem? (i := 13) rfl))⟩)
  have F_INTERSECT_ALL_ordinal := own_fldI ev_INTERSECT_ALL t7
  obtain ⟨n, o, h1, h2, h3, _, L, rfl, ⟨rfl, N⟩, hq⟩ := rm0 l s _ hw tables_1 i0 i1 i2 w_DISTINCT w_EXCEPT w_EXCEPT_ALL w_INTERSECT w_INTERSECT_ALL s.heap s.heap.size (Nat.le_refl _) (Old.start s) S_DISTINCT S_EXCEPT S_EXCEPT_ALL S_INTERSECT S_INTERSECT_ALL E_DISTINCT E_EXCEPT E_EXCEPT_ALL E_INTERSECT E_INTERSECT_ALL F_DISTINCT_ordinal F_EXCEPT_ordinal F_EXCEPT_ALL_ordinal F_INTERSECT_ordinal F_INTERSECT_ALL_ordinal p e ha hc hk s m _ below hf ((Spec.applies_iff_loose hf).mp happ).1 ⟨rfl, State.Warmed39.refl s, rfl⟩ trivial
  refine ⟨n, _, h1, h2, h3, hpost _ _ _ _ _ _ ⟨Cond.after_iff.mpr rfl, Cond.after_iff.mpr (eq_i res_at (Term.int_eval (1)) rfl), trivial⟩ ⟨hq.1, hq.2.1, (hq.2.2.sift fun y hy => Or.inr (N y hy)).mono (by decide) (by decide)⟩⟩
theorem main_1_1 : Claimed_1_1 := comes_1 fun _ _ _ _ _ _ h hF => ⟨h.1, hF⟩
theorem main_1_2 : Claimed_1_2 := comes_1 fun _ _ _ _ _ _ h hF => ⟨h.2.1, hF⟩
end Jvm.Pilot.@@N@@
namespace Jvm.Pilot.@@N@@
open Jvm Jvm.ClassFile Sem Op Lib Jvm.Free Jvm.Stand Jvm.Pilot.@@N@@.Jvm.D
/-! MADE BY PROGRAM (witnessworld.py) out of the Statement's table words and the real class files: 14 classes; the members and pool entries that the words name. The judged class is class 1, her method 1. -/
namespace start1
open Jvm.ClassFile
def u (s : String) : CpInfo := .utf8 (stringToUtf16 s)
/-- a pool by its gaps: so many unusable entries, then the entry; so many at the end -/
def gap : Nat → List CpInfo → List CpInfo
  | 0, r => r
  | n + 1, r => .unusable :: gap n r
def poolList (es : List (Nat × CpInfo)) (last : Nat) : List CpInfo := es.foldr (fun e r => gap e.1 (e.2 :: r)) (gap last [])
def pool (es : List (Nat × CpInfo)) (last : Nat) : Array CpInfo := ⟨poolList es last⟩
def fileOf (pool : Array CpInfo) (this : Nat) (attrs : Array Attribute := #[]) (ms : Array MethodInfo := #[]) (fl : Nat := 33) (sup : Nat := 0) (ifs : Array Nat := #[]) (fds : Array FieldInfo := #[]) : ClassFile where
  minorVersion := 0
  majorVersion := 65
  constantPool := pool
  accessFlags := fl
  thisClass := this
  superClass := sup
  interfaces := ifs
  fields := fds
  methods := ms
  attributes := attrs
def plain (name : String) (sup : Option ClassId) : Class where
  name := name
  kind := .ordinary
  loader := none
  accessFlags := 33
  super := sup
  interfaces := #[]
  cf := none
  fields := #[]
  methods := #[]
  instanceTypes := #[]
  staticTypes := #[]
  resolved := #[]
  callSites := []
  init := .initialized
  statics := none
  mirror := none

def pool0 : Array CpInfo := pool [(5, u "<init>"), (0, u "()V"), (1, .class_ 10), (1, u "java/lang/Object")] 113

def k0m0 : Method := { name := "<init>", desc := "()V", sig := { parameters := [], returnType := none }, accessFlags := 1, code := none }
/-- java/lang/Object -/
def k0 : Class := { plain "java/lang/Object" none with
  accessFlags := 33
  interfaces := #[]
  cf := some (fileOf pool0 8 #[] #[{ accessFlags := 1, nameIndex := 5, descriptorIndex := 6, attributes := #[] }] 33 0 #[] #[])
  fields := #[]
  methods := #[k0m0]
  instanceTypes := #[]
  staticTypes := #[]
  resolved := Array.replicate 124 none
  statics := none }

def pool1 : Array CpInfo := pool [(2, .class_ 4), (1, u "java/lang/Object"), (0, u "<init>"), (0, u "()V"), (0, .class_ 8), (0, u "com/example/millrace/millrace/plan/SetOperation$Kind"), (0, .fieldref 7 10), (0, .nameAndType 11 12), (0, u "DISTINCT"), (0, u "Lcom/example/millrace/millrace/plan/SetOperation$Kind;"), (0, .fieldref 7 14), (0, .nameAndType 15 12), (0, u "EXCEPT"), (0, .fieldref 7 17), (0, .nameAndType 18 12), (0, u "EXCEPT_ALL"), (0, .fieldref 7 20), (0, .nameAndType 21 12), (0, u "INTERSECT"), (0, .fieldref 7 23), (0, .nameAndType 24 12), (0, u "INTERSECT_ALL"), (0, .integer 2147483647), (2, .long 9223372036854775807), (1, .methodref 7 31), (0, .nameAndType 32 33), (0, u "isSet"), (0, u "()Z"), (0, .long 2), (1, .methodref 7 37), (0, .nameAndType 38 39), (0, u "copies"), (0, u "(JJ)J"), (0, .methodref 41 42), (0, .class_ 43), (0, .nameAndType 44 39), (0, u "java/lang/Math"), (0, u "min"), (0, .class_ 46), (0, u "com/example/millrace/millrace/plan/KindIsSetPinLaw"), (2, u "law"), (0, u "(IJJ)Z")] 9

def k1m0 : Method := { name := "<init>", desc := "()V", sig := { parameters := [], returnType := none }, accessFlags := 2, code := none }
def k1c1 : Code := { maxStack := 7, maxLocals := 17, code := code, exceptionTable := #[], attributes := #[] }
def k1m1 : Method := { name := "law", desc := "(IJJ)Z", sig := { parameters := [.int, .long, .long], returnType := some .boolean }, accessFlags := 9, code := some k1c1 }
/-- com/example/millrace/millrace/plan/KindIsSetPinLaw -/
def k1 : Class := { plain "com/example/millrace/millrace/plan/KindIsSetPinLaw" (some 0) with
  accessFlags := 49
  interfaces := #[]
  cf := some (fileOf pool1 45 #[] #[{ accessFlags := 2, nameIndex := 5, descriptorIndex := 6, attributes := #[] }, { accessFlags := 9, nameIndex := 49, descriptorIndex := 50, attributes := #[] }] 49 2 #[] #[])
  fields := #[]
  methods := #[k1m0, k1m1]
  instanceTypes := #[]
  staticTypes := #[]
  resolved := Array.replicate 60 none
  statics := none }

def pool2 : Array CpInfo := pool [(1, .class_ 2), (0, u "java/lang/constant/Constable"), (0, .class_ 4), (0, u "java/lang/Object")] 6

/-- java/lang/constant/Constable -/
def k2 : Class := { plain "java/lang/constant/Constable" (some 0) with
  accessFlags := 1537
  interfaces := #[]
  cf := some (fileOf pool2 1 #[] #[] 1537 3 #[] #[])
  fields := #[]
  methods := #[]
  instanceTypes := #[]
  staticTypes := #[]
  resolved := Array.replicate 11 none
  statics := none }

def pool3 : Array CpInfo := pool [(1, .class_ 2), (0, u "java/lang/Comparable"), (0, .class_ 4), (0, u "java/lang/Object")] 7

/-- java/lang/Comparable -/
def k3 : Class := { plain "java/lang/Comparable" (some 0) with
  accessFlags := 1537
  interfaces := #[]
  cf := some (fileOf pool3 1 #[] #[] 1537 3 #[] #[])
  fields := #[]
  methods := #[]
  instanceTypes := #[]
  staticTypes := #[]
  resolved := Array.replicate 12 none
  statics := none }

def pool4 : Array CpInfo := pool [(1, .class_ 2), (0, u "java/io/Serializable"), (0, .class_ 4), (0, u "java/lang/Object")] 2

/-- java/io/Serializable -/
def k4 : Class := { plain "java/io/Serializable" (some 0) with
  accessFlags := 1537
  interfaces := #[]
  cf := some (fileOf pool4 1 #[] #[] 1537 3 #[] #[])
  fields := #[]
  methods := #[]
  instanceTypes := #[]
  staticTypes := #[]
  resolved := Array.replicate 7 none
  statics := none }

def pool5 : Array CpInfo := pool [(2, .class_ 4), (1, u "java/lang/Enum"), (0, u "name"), (0, u "Ljava/lang/String;"), (0, .fieldref 2 8), (0, .nameAndType 9 10), (0, u "ordinal"), (0, u "I"), (1, .class_ 14), (1, u "java/lang/Object"), (4, u "hash"), (86, .class_ 108), (1, u "java/lang/Enum$EnumDesc"), (2, .class_ 112), (0, u "java/lang/constant/Constable"), (0, .class_ 114), (0, u "java/lang/Comparable"), (0, .class_ 116), (0, u "java/io/Serializable"), (9, u "()I")] 77

def k5c0 : Code := { maxStack := 1, maxLocals := 1, code := jdk_37_method_2_code, exceptionTable := #[], attributes := #[] }
def k5m0 : Method := { name := "ordinal", desc := "()I", sig := { parameters := [], returnType := some .int }, accessFlags := 17, code := some k5c0 }
/-- java/lang/Enum -/
def k5 : Class := { plain "java/lang/Enum" (some 0) with
  accessFlags := 1057
  interfaces := #[2, 3, 4]
  cf := some (fileOf pool5 2 #[.nestMembers #[106]] #[{ accessFlags := 17, nameIndex := 9, descriptorIndex := 126, attributes := #[] }] 1057 12 #[111, 113, 115] #[{ accessFlags := 18, nameIndex := 5, descriptorIndex := 6, attributes := #[] }, { accessFlags := 18, nameIndex := 9, descriptorIndex := 10, attributes := #[] }, { accessFlags := 2, nameIndex := 19, descriptorIndex := 10, attributes := #[] }])
  fields := #[{ name := "name", type := (.object "java/lang/String"), accessFlags := 18, slot := 0, constantValue := 0 }, { name := "ordinal", type := .int, accessFlags := 18, slot := 1, constantValue := 0 }, { name := "hash", type := .int, accessFlags := 2, slot := 2, constantValue := 0 }]
  methods := #[k5m0]
  instanceTypes := #[(.object "java/lang/String"), .int, .int]
  staticTypes := #[]
  resolved := Array.replicate 204 none
  statics := none }

def pool6 : Array CpInfo := pool [(1, .class_ 2), (0, u "com/example/millrace/millrace/plan/SetOperation$Kind"), (0, .fieldref 1 4), (0, .nameAndType 5 6), (0, u "DISTINCT"), (0, u "Lcom/example/millrace/millrace/plan/SetOperation$Kind;"), (0, .fieldref 1 8), (0, .nameAndType 9 6), (0, u "EXCEPT"), (2, u "EXCEPT_ALL"), (0, .fieldref 1 14), (0, .nameAndType 15 6), (0, u "INTERSECT"), (2, u "INTERSECT_ALL"), (2, u "$VALUES"), (0, u "[Lcom/example/millrace/millrace/plan/SetOperation$Kind;"), (6, .class_ 31), (1, u "java/lang/Enum"), (8, u "inputs"), (0, u "I"), (2, u "growing"), (0, u "Z"), (0, .methodref 1 47), (0, .nameAndType 48 49), (0, u "ordinal"), (0, u "()I"), (5, .methodref 56 57), (0, .class_ 58), (0, .nameAndType 59 60), (0, u "java/lang/Math"), (0, u "min"), (0, u "(JJ)J"), (0, .methodref 56 62), (0, .nameAndType 63 60), (0, u "max"), (19, u "isSet"), (0, u "()Z"), (1, u "copies"), (6, .class_ 94), (0, u "com/example/millrace/millrace/plan/SetOperation")] 2

def k6c0 : Code := { maxStack := 2, maxLocals := 1, code := prog_50_method_5_code, exceptionTable := #[], attributes := #[] }
def k6m0 : Method := { name := "isSet", desc := "()Z", sig := { parameters := [], returnType := some .boolean }, accessFlags := 1, code := some k6c0 }
def k6c1 : Code := { maxStack := 4, maxLocals := 5, code := prog_50_method_6_code, exceptionTable := #[], attributes := #[] }
def k6m1 : Method := { name := "copies", desc := "(JJ)J", sig := { parameters := [.long, .long], returnType := some .long }, accessFlags := 1, code := some k6c1 }
/-- com/example/millrace/millrace/plan/SetOperation$Kind -/
def k6 : Class := { plain "com/example/millrace/millrace/plan/SetOperation$Kind" (some 5) with
  accessFlags := 16433
  interfaces := #[]
  cf := some (fileOf pool6 1 #[.nestHost 93] #[{ accessFlags := 1, nameIndex := 83, descriptorIndex := 84, attributes := #[] }, { accessFlags := 1, nameIndex := 86, descriptorIndex := 60, attributes := #[] }] 16433 29 #[] #[{ accessFlags := 16409, nameIndex := 5, descriptorIndex := 6, attributes := #[] }, { accessFlags := 16409, nameIndex := 9, descriptorIndex := 6, attributes := #[] }, { accessFlags := 16409, nameIndex := 12, descriptorIndex := 6, attributes := #[] }, { accessFlags := 16409, nameIndex := 15, descriptorIndex := 6, attributes := #[] }, { accessFlags := 16409, nameIndex := 18, descriptorIndex := 6, attributes := #[] }, { accessFlags := 18, nameIndex := 40, descriptorIndex := 41, attributes := #[] }, { accessFlags := 18, nameIndex := 44, descriptorIndex := 45, attributes := #[] }, { accessFlags := 4122, nameIndex := 21, descriptorIndex := 22, attributes := #[] }])
  fields := #[{ name := "DISTINCT", type := (.object "com/example/millrace/millrace/plan/SetOperation$Kind"), accessFlags := 16409, slot := 0, constantValue := 0 }, { name := "EXCEPT", type := (.object "com/example/millrace/millrace/plan/SetOperation$Kind"), accessFlags := 16409, slot := 1, constantValue := 0 }, { name := "EXCEPT_ALL", type := (.object "com/example/millrace/millrace/plan/SetOperation$Kind"), accessFlags := 16409, slot := 2, constantValue := 0 }, { name := "INTERSECT", type := (.object "com/example/millrace/millrace/plan/SetOperation$Kind"), accessFlags := 16409, slot := 3, constantValue := 0 }, { name := "INTERSECT_ALL", type := (.object "com/example/millrace/millrace/plan/SetOperation$Kind"), accessFlags := 16409, slot := 4, constantValue := 0 }, { name := "inputs", type := .int, accessFlags := 18, slot := 3, constantValue := 0 }, { name := "growing", type := .boolean, accessFlags := 18, slot := 4, constantValue := 0 }, { name := "$VALUES", type := (.array (.object "com/example/millrace/millrace/plan/SetOperation$Kind")), accessFlags := 4122, slot := 5, constantValue := 0 }]
  methods := #[k6m0, k6m1]
  instanceTypes := #[(.object "java/lang/String"), .int, .int, .int, .boolean]
  staticTypes := #[(.object "com/example/millrace/millrace/plan/SetOperation$Kind"), (.object "com/example/millrace/millrace/plan/SetOperation$Kind"), (.object "com/example/millrace/millrace/plan/SetOperation$Kind"), (.object "com/example/millrace/millrace/plan/SetOperation$Kind"), (.object "com/example/millrace/millrace/plan/SetOperation$Kind"), (.array (.object "com/example/millrace/millrace/plan/SetOperation$Kind"))]
  resolved := Array.replicate 97 none
  statics := some 0 }

def pool7 : Array CpInfo := pool [(1, .class_ 2), (0, u "java/lang/Math"), (1, .class_ 6), (1, u "java/lang/Object"), (0, u "<init>"), (0, u "()V"), (89, .class_ 100), (1, u "java/lang/Math$RandomNumberGeneratorHolder"), (20, u "(JJ)J"), (50, u "negativeZeroFloatBits"), (0, u "J"), (2, u "negativeZeroDoubleBits"), (21, u "max"), (2, u "min"), (43, u "$assertionsDisabled"), (0, u "Z"), (91, u "twoToTheDoubleScaleDown"), (0, u "D"), (4, u "twoToTheDoubleScaleUp"), (9, u "E"), (3, u "PI"), (2, u "TAU"), (2, u "DEGREES_TO_RADIANS"), (0, u "RADIANS_TO_DEGREES")] 94

def k7m0 : Method := { name := "<init>", desc := "()V", sig := { parameters := [], returnType := none }, accessFlags := 2, code := none }
def k7c1 : Code := { maxStack := 4, maxLocals := 4, code := jdk_29_method_66_code, exceptionTable := #[], attributes := #[] }
def k7m1 : Method := { name := "max", desc := "(JJ)J", sig := { parameters := [.long, .long], returnType := some .long }, accessFlags := 9, code := some k7c1 }
def k7c2 : Code := { maxStack := 4, maxLocals := 4, code := jdk_29_method_70_code, exceptionTable := #[], attributes := #[] }
def k7m2 : Method := { name := "min", desc := "(JJ)J", sig := { parameters := [.long, .long], returnType := some .long }, accessFlags := 9, code := some k7c2 }
/-- java/lang/Math -/
def k7 : Class := { plain "java/lang/Math" (some 0) with
  accessFlags := 49
  interfaces := #[]
  cf := some (fileOf pool7 1 #[.nestMembers #[98]] #[{ accessFlags := 2, nameIndex := 7, descriptorIndex := 8, attributes := #[] }, { accessFlags := 9, nameIndex := 198, descriptorIndex := 121, attributes := #[] }, { accessFlags := 9, nameIndex := 201, descriptorIndex := 121, attributes := #[] }] 49 4 #[] #[{ accessFlags := 25, nameIndex := 354, descriptorIndex := 339, attributes := #[] }, { accessFlags := 25, nameIndex := 358, descriptorIndex := 339, attributes := #[] }, { accessFlags := 25, nameIndex := 361, descriptorIndex := 339, attributes := #[] }, { accessFlags := 26, nameIndex := 364, descriptorIndex := 339, attributes := #[] }, { accessFlags := 26, nameIndex := 365, descriptorIndex := 339, attributes := #[] }, { accessFlags := 26, nameIndex := 172, descriptorIndex := 173, attributes := #[] }, { accessFlags := 26, nameIndex := 176, descriptorIndex := 173, attributes := #[] }, { accessFlags := 8, nameIndex := 344, descriptorIndex := 339, attributes := #[] }, { accessFlags := 8, nameIndex := 338, descriptorIndex := 339, attributes := #[] }, { accessFlags := 4120, nameIndex := 245, descriptorIndex := 246, attributes := #[] }])
  fields := #[{ name := "E", type := .double, accessFlags := 25, slot := 0, constantValue := 0 }, { name := "PI", type := .double, accessFlags := 25, slot := 1, constantValue := 0 }, { name := "TAU", type := .double, accessFlags := 25, slot := 2, constantValue := 0 }, { name := "DEGREES_TO_RADIANS", type := .double, accessFlags := 26, slot := 3, constantValue := 0 }, { name := "RADIANS_TO_DEGREES", type := .double, accessFlags := 26, slot := 4, constantValue := 0 }, { name := "negativeZeroFloatBits", type := .long, accessFlags := 26, slot := 5, constantValue := 0 }, { name := "negativeZeroDoubleBits", type := .long, accessFlags := 26, slot := 6, constantValue := 0 }, { name := "twoToTheDoubleScaleUp", type := .double, accessFlags := 8, slot := 7, constantValue := 0 }, { name := "twoToTheDoubleScaleDown", type := .double, accessFlags := 8, slot := 8, constantValue := 0 }, { name := "$assertionsDisabled", type := .boolean, accessFlags := 4120, slot := 9, constantValue := 0 }]
  methods := #[k7m0, k7m1, k7m2]
  instanceTypes := #[]
  staticTypes := #[.double, .double, .double, .double, .double, .long, .long, .double, .double, .boolean]
  resolved := Array.replicate 460 none
  statics := none }

def pool8 : Array CpInfo := pool [(1, u "java/lang/Cloneable"), (0, .class_ 1), (0, u "java/lang/Object"), (0, .class_ 3)] 3

/-- java/lang/Cloneable -/
def k8 : Class := { plain "java/lang/Cloneable" (some 0) with
  accessFlags := 1537
  interfaces := #[]
  cf := some (fileOf pool8 2 #[] #[] 1537 4 #[] #[])
  fields := #[]
  methods := #[]
  instanceTypes := #[]
  staticTypes := #[]
  resolved := Array.replicate 8 none
  statics := none }

/-- the primitive byte -/
def k9 : Class := { plain "byte" none with kind := .primitive 'B', accessFlags := 0x411 }
/-- [B -/
def k10 : Class := { plain "[B" (some 0) with kind := .array 9 .byte, interfaces := #[8, 4], accessFlags := 1041 }

/-- the primitive int -/
def k11 : Class := { plain "int" none with kind := .primitive 'I', accessFlags := 0x411 }
/-- [I -/
def k12 : Class := { plain "[I" (some 0) with kind := .array 11 .int, interfaces := #[8, 4], accessFlags := 1041 }

/-- [Lcom/example/millrace/millrace/plan/SetOperation$Kind; -/
def k13 : Class := { plain "[Lcom/example/millrace/millrace/plan/SetOperation$Kind;" (some 0) with kind := .array 6 (.object "com/example/millrace/millrace/plan/SetOperation$Kind"), interfaces := #[8, 4], accessFlags := 1041 }

def heap : Heap := #[{ cls := 6, slots := #[.ref 1, .ref 2, .ref 3, .ref 4, .ref 5, .null], vm := .statics 6 },
  { cls := 6, slots := #[.null, .int 0, .int 0, .int 0, .int 0], vm := .none },
  { cls := 6, slots := #[.null, .int 1, .int 0, .int 0, .int 0], vm := .none },
  { cls := 6, slots := #[.null, .int 2, .int 0, .int 0, .int 0], vm := .none },
  { cls := 6, slots := #[.null, .int 3, .int 0, .int 0, .int 0], vm := .none },
  { cls := 6, slots := #[.null, .int 4, .int 0, .int 0, .int 0], vm := .none }]
def classes : Array Class := #[k0, k1, k2, k3, k4, k5, k6, k7, k8, k9, k10, k11, k12, k13]
def interned : List (Array UInt16 × Addr) := []
def slotsUsed : Nat := 31
def theMethod : MethodId := ⟨1, 1⟩
def args0 : Array Value := #[.int 1, .long 2, .long 3]
def aboutOver (below : List Frame) : State where
  vm := { classes := classes, interned := interned.toArray }
  heap := heap
  slotsUsed := slotsUsed
  threads := #[{ frames := .invoking theMethod args0 :: below }]
def below0 : List Frame := [.native { method := ⟨0, 0⟩, args := #[] }]
def about1 : State := aboutOver below0
def p0 : Program := .bare "" "" ""
def e0 : Env := launch0.env 0 0 0
theorem w_frames : about1.frames = Frame.invoking theMethod args0 :: below0 := rfl
set_option maxRecDepth 65536 in
theorem w_args : argsFit about1.vm theMethod args0 = true := by decide +kernel
set_option maxRecDepth 65536 in
theorem w_heap : heapFits about1 = true := by decide +kernel
set_option maxRecDepth 65536 in
theorem w_runnable : about1.curStatus? = some .runnable := by decide +kernel
set_option maxRecDepth 65536 in
theorem w_alone : about1.alone = true := by decide +kernel
set_option maxRecDepth 65536 in
theorem w_named : about1.methodNamed? x = some theMethod := by decide +kernel
set_option maxRecDepth 65536 in
theorem w_hears : about1.hears theMethod below0 = true := by decide +kernel
set_option maxRecDepth 65536 in
theorem w_ripe : about1.ripe theMethod args0 below0 = true := by decide +kernel
theorem w_running : about1.status = .running := rfl
set_option maxRecDepth 65536 in
theorem w_room : about1.hasRoom e0.platform room_1 = true :=
  launch0.hasRoom_least _ room_1 (by decide +kernel) (by decide +kernel) (by decide +kernel) (by decide +kernel) (by decide +kernel) (by decide +kernel)
theorem allAtoms_all (ts : List Jvm.Cond) (a : Array Jvm.Value) (st : Jvm.State) : (allAtoms ts).before a st = ts.all (fun c => c.before a st) := by
  induction ts with
  | nil => rfl
  | cons c t ih =>
    show (Jvm.Cond.and c (allAtoms t)).before a st = _
    rw [Jvm.Cond.before_and, ih, List.all_cons]
def words1 : List Jvm.Cond := Jvm.Cond.code x code maxLocals ret :: tables_1
/-- a 'code' word, met by the world's own term for the bytes: nothing is compared byte by byte -/
theorem code_word {y : MethodName} {bytes : ByteArray} {mx : Nat} {rt : Option FieldType} {a : Array Value} {s : State} {m : MethodId} {meth : Method} {c : Code} (h1 : s.methodNamed? y = some m) (h2 : s.vm.method? m = some meth) (h3 : meth.code = some c) (h4 : c.code = bytes)
    (h5 : (c.maxLocals == mx && c.exceptionTable.isEmpty && decide (c.maxStack ≤ mostOperands) && decide (meth.sig.returnType = rt) && !meth.locks && decide (parseMethodDescriptor y.desc = some meth.sig)) = true) : (Jvm.Cond.code y bytes mx rt).before a s = true := by
  simp only [Bool.and_eq_true, beq_iff_eq, Bool.not_eq_true', decide_eq_true_eq] at h5
  obtain ⟨⟨⟨⟨⟨g1, g2⟩, g3⟩, g4⟩, g5⟩, g6⟩ := h5
  simp [Cond.before, Cond.holds, Cond.value, h1, h2, h3, h4, g1, g2, g3, g4, g5, g6]
def isCode : Jvm.Cond → Bool
  | .code _ _ _ _ => true
  | _ => false
theorem all_split {L : List Jvm.Cond} {P : Jvm.Cond → Bool} (h1 : L.all (fun c => isCode c || P c) = true) (h2 : ∀ c ∈ L.filter isCode, P c = true) : L.all P = true := by
  refine List.all_eq_true.mpr fun c hc => ?_
  have h := List.all_eq_true.mp h1 c hc
  rcases Bool.eq_false_or_eq_true (isCode c) with hi | hi
  · exact h2 c (List.mem_filter.mpr ⟨hc, hi⟩)
  · simpa [hi] using h
set_option maxRecDepth 65536 in
theorem w_c0 : (Jvm.Cond.code x code maxLocals ret).before args0 about1 = true := code_word (m := ⟨1, 1⟩) (meth := k1m1) (c := k1c1) (by decide +kernel) rfl rfl rfl (by decide +kernel)
set_option maxRecDepth 65536 in
theorem w_c1 : (Jvm.Cond.code ({ cls := "com/example/millrace/millrace/plan/SetOperation$Kind", name := "isSet", desc := "()Z" } : Jvm.MethodName) prog_50_method_5_code (1 : Nat) (Option.some Jvm.ClassFile.FieldType.boolean)).before args0 about1 = true := code_word (m := ⟨6, 0⟩) (meth := k6m0) (c := k6c0) (by decide +kernel) rfl rfl rfl (by decide +kernel)
set_option maxRecDepth 65536 in
theorem w_c2 : (Jvm.Cond.code ({ cls := "com/example/millrace/millrace/plan/SetOperation$Kind", name := "copies", desc := "(JJ)J" } : Jvm.MethodName) prog_50_method_6_code (5 : Nat) (Option.some Jvm.ClassFile.FieldType.long)).before args0 about1 = true := code_word (m := ⟨6, 1⟩) (meth := k6m1) (c := k6c1) (by decide +kernel) rfl rfl rfl (by decide +kernel)
set_option maxRecDepth 65536 in
theorem w_c3 : (Jvm.Cond.code ({ cls := "java/lang/Enum", name := "ordinal", desc := "()I" } : Jvm.MethodName) jdk_37_method_2_code (1 : Nat) (Option.some Jvm.ClassFile.FieldType.int)).before args0 about1 = true := code_word (m := ⟨5, 0⟩) (meth := k5m0) (c := k5c0) (by decide +kernel) rfl rfl rfl (by decide +kernel)
set_option maxRecDepth 65536 in
theorem w_c4 : (Jvm.Cond.code ({ cls := "java/lang/Math", name := "min", desc := "(JJ)J" } : Jvm.MethodName) jdk_29_method_70_code (4 : Nat) (Option.some Jvm.ClassFile.FieldType.long)).before args0 about1 = true := code_word (m := ⟨7, 2⟩) (meth := k7m2) (c := k7c2) (by decide +kernel) rfl rfl rfl (by decide +kernel)
set_option maxRecDepth 65536 in
theorem w_c5 : (Jvm.Cond.code ({ cls := "java/lang/Math", name := "max", desc := "(JJ)J" } : Jvm.MethodName) jdk_29_method_66_code (4 : Nat) (Option.some Jvm.ClassFile.FieldType.long)).before args0 about1 = true := code_word (m := ⟨7, 1⟩) (meth := k7m1) (c := k7c1) (by decide +kernel) rfl rfl rfl (by decide +kernel)
def codes1 : List Jvm.Cond := [Jvm.Cond.code x code maxLocals ret, Jvm.Cond.code ({ cls := "com/example/millrace/millrace/plan/SetOperation$Kind", name := "isSet", desc := "()Z" } : Jvm.MethodName) prog_50_method_5_code (1 : Nat) (Option.some Jvm.ClassFile.FieldType.boolean), Jvm.Cond.code ({ cls := "com/example/millrace/millrace/plan/SetOperation$Kind", name := "copies", desc := "(JJ)J" } : Jvm.MethodName) prog_50_method_6_code (5 : Nat) (Option.some Jvm.ClassFile.FieldType.long), Jvm.Cond.code ({ cls := "java/lang/Enum", name := "ordinal", desc := "()I" } : Jvm.MethodName) jdk_37_method_2_code (1 : Nat) (Option.some Jvm.ClassFile.FieldType.int), Jvm.Cond.code ({ cls := "java/lang/Math", name := "min", desc := "(JJ)J" } : Jvm.MethodName) jdk_29_method_70_code (4 : Nat) (Option.some Jvm.ClassFile.FieldType.long), Jvm.Cond.code ({ cls := "java/lang/Math", name := "max", desc := "(JJ)J" } : Jvm.MethodName) jdk_29_method_66_code (4 : Nat) (Option.some Jvm.ClassFile.FieldType.long)]
set_option maxRecDepth 65536 in
theorem codes_eq : words1.filter isCode = codes1 := rfl
theorem w_codes : ∀ c ∈ words1.filter isCode, c.before args0 about1 = true := by
  rw [codes_eq]
  intro c hc
  simp only [codes1, List.mem_cons, List.not_mem_nil, or_false] at hc
  rcases hc with rfl | rfl | rfl | rfl | rfl | rfl
  · exact w_c0
  · exact w_c1
  · exact w_c2
  · exact w_c3
  · exact w_c4
  · exact w_c5
set_option maxRecDepth 65536 in
theorem w_t1 : (words1.take 24).all (fun c => isCode c || c.before args0 about1) = true := by decide +kernel
set_option maxRecDepth 65536 in
theorem w_t2 : (words1.drop 24).all (fun c => isCode c || c.before args0 about1) = true := by decide +kernel
theorem w_tables : (allAtoms (Jvm.Cond.code x code maxLocals ret :: tables_1)).before args0 about1 = true := by
  rw [allAtoms_all]
  show words1.all (fun c => c.before args0 about1) = true
  refine all_split ?_ w_codes
  rw [← List.take_append_drop 24 words1, List.all_append, w_t1, w_t2]
  rfl
set_option maxRecDepth 65536 in
theorem w_case : (Jvm.Cond.and given_1 narrow_1).before args0 about1 = true := by decide +kernel
theorem w_applies : (headSpec (Jvm.Cond.code x code maxLocals ret :: tables_1) room_1).applies x e0.platform about1 = true :=
  (Spec.applies_iff w_frames).mpr ⟨w_running, w_runnable, w_alone, w_named, w_hears, w_ripe, w_room, w_tables⟩
theorem atStart : AtStart classFile x code maxLocals ret World_1 tables_1 room_1 Calls_1 rest_1 Pre_1 launch0 p0 e0 about1 theMethod args0 below0 :=
  ⟨lists_1, trivial, launch0.admits_env _ _ _, launch0.least_env, fairChoices_fair.cas, fairChoices_fair.clock, w_frames, w_args, w_heap, w_applies, trivial, trivial, w_case⟩
end start1
theorem witness_1 : WitnessClaimed_1 := ⟨start1.p0, start1.e0, start1.about1, start1.theMethod, start1.args0, start1.below0, start1.atStart⟩
end Jvm.Pilot.@@N@@

import JvmDerived
import JvmDerived.Pilot.@@N@@Statement
import JvmDerived.Pilot.@@N@@Code
set_option linter.unusedVariables false
set_option linter.unusedSimpArgs false
namespace Jvm.RoadKit
open Sem ClassFile Op Lib Jvm.Stand Jvm.Free Jvm.LawKit
section New
variable {p : Program} {l : Launch} {e : Env} {R : Room} {s : State} {m : MethodId} {args : Array Value} {below : List Frame} {meth : Method} {c : Code} {T : State} {locs : List Loc} {cells slots : Nat}
theorem retI (X : Stand p l e R s m args below meth c T locs cells slots) (hx : p.tables.exec = Jvm.exec) {pc : Nat} {Ls : Array Slot} {z : Int32} {rest : List Value} (hret : meth.sig.returnType = some .int) (hd : decode c.code pc = .ok (.ireturn, 1)) {fs : List Frame}
    (hl : ∀ (f : JFrame) (acts : List Action), f.method = m → f.locked = none → f.entered = [] → (doReturn e (T.setTop f) acts (some (.int z))).1 = T.setFrames fs) : Steps p.tables e below (T.setTop (mkF m pc Ls (.int z :: rest))) (T.setFrames fs) := by
  have hm' : T.vm.method? m = some meth := X.method'
  have hn : narrow .int (.int z) = .int z := rfl
  show Steps p.tables e below (T.setTop { method := m, pc := pc, locals := Ls, stack := _ :: rest, locked := none }) _
  jvm_step X.here [X.here.top, hx, hd, hm', hret, hn]
  first | (intro acts; rw [hl _ acts rfl rfl rfl]) | rw [hl _ _ rfl rfl rfl]
  exact Steps.refl _
end New
end Jvm.RoadKit
namespace Jvm.Pilot.@@N@@
open Jvm Jvm.ClassFile Sem Op Lib Jvm.Free Jvm.Stand Jvm.LawKit Jvm.RoadKit Bundle Jvm.Pilot.@@N@@.Jvm.D

theorem own_gen {p : Program} {l : Launch} {e : Env} {R : Room} {s : State} {m : MethodId} {args : Array Value} {below : List Frame} {meth : Method} {c : Code} {T : State} {locs : List Loc} {cells slots n0 : Nat}
    (X : Stand p l e R s m args below meth c T locs cells slots) (N : Fr n0 locs) : ∃ LL, Stand p l e R s m args below meth c T LL cells slots ∧ Fr n0 LL := ⟨_, X, N⟩
theorem own_nb {c : Prop} [Decidable c] : nar .boolean (if c then (1 : Int32) else (0 : Int32)) = (if c then (1 : Int32) else (0 : Int32)) := by
  by_cases h : c
  · rw [if_pos h]; rfl
  · rw [if_neg h]; rfl
theorem own_n1 : nar .boolean (1 : Int32) = (1 : Int32) := rfl
theorem own_n0 : nar .boolean (0 : Int32) = (0 : Int32) := rfl

theorem own_pos {x y : Int32} (h : x = y &&& (2147483647 : Int32)) : ¬ x < (0 : Int32) := by
  have := c_mask y 2147483647 31 (by decide) (by decide)
  rw [← h] at this
  rw [Int32.lt_iff_toInt_lt]
  show ¬ x.toInt < 0
  omega
theorem own_rem {x y d : Int32} {D : Int} (h : x = (y &&& (2147483647 : Int32)) % d) (hd : d.toInt = D) (hD : 0 < D) : 0 ≤ x.toInt ∧ x.toInt < D := by
  have h1 := c_mask y 2147483647 31 (by decide) (by decide)
  have h2 := c_iremV (y &&& 2147483647) d
  rw [← h, hd] at h2
  have h3 := h2.1 (by omega) hD
  omega

theorem own_fldI {args : Array Value} {s : State} {t : Jvm.Term} {x : Addr} {C n d : String} {k : Int32} (ht : t.eval args s none [] s = some (.ref x)) (h : (Jvm.Cond.eq (Jvm.Term.field t C n d) (Jvm.Term.int k)).value args s none s [] = some true) : Fld s s.heap x C n d (.int k) := by
  have e1 := fld_at (C := C) (n := n) (dd := d) ht
  cases hf : s.fieldOf? x C n d with
  | none => rw [hf] at e1; simp [Jvm.Cond.value, e1] at h
  | some u =>
    rw [hf] at e1
    have e2 : (Jvm.Term.int k).eval args s none [] s = some (.int k) := rfl
    cases u <;> simp [Jvm.Cond.value, e1, e2] at h
    subst h
    exact Fld.start hf
theorem own_fldN {args : Array Value} {s : State} {t : Jvm.Term} {x : Addr} {C n d : String} (ht : t.eval args s none [] s = some (.ref x)) (h : (Jvm.Cond.eq (Jvm.Term.field t C n d) Jvm.Term.null).value args s none s [] = some true) : Fld s s.heap x C n d .null := by
  have e1 := fld_at (C := C) (n := n) (dd := d) ht
  have e2 := null_v h
  exact Fld.start (e1.symm.trans e2)
theorem own_fldR {args : Array Value} {s : State} {t u : Jvm.Term} {x y : Addr} {C n d : String} (ht : t.eval args s none [] s = some (.ref x)) (hu : u.eval args s none [] s = some (.ref y)) (h : (Jvm.Cond.eq (Jvm.Term.field t C n d) u).value args s none s [] = some true) : Fld s s.heap x C n d (.ref y) := by
  have e1 := fld_at (C := C) (n := n) (dd := d) ht
  cases hf : s.fieldOf? x C n d with
  | none => rw [hf] at e1; simp [Jvm.Cond.value, e1] at h
  | some w =>
    rw [hf] at e1
    cases w <;> simp [Jvm.Cond.value, e1, hu] at h
    subst h
    exact Fld.start hf
theorem own_fldJ {args : Array Value} {s : State} {t : Jvm.Term} {x : Addr} {C n d : String} {k : Int64} (ht : t.eval args s none [] s = some (.ref x)) (h : (Jvm.Cond.eq (Jvm.Term.field t C n d) (Jvm.Term.long k)).value args s none s [] = some true) : Fld s s.heap x C n d (.long k) := by
  have e1 := fld_at (C := C) (n := n) (dd := d) ht
  cases hf : s.fieldOf? x C n d with
  | none => rw [hf] at e1; simp [Jvm.Cond.value, e1] at h
  | some u =>
    rw [hf] at e1
    have e2 : (Jvm.Term.long k).eval args s none [] s = some (.long k) := rfl
    cases u <;> simp [Jvm.Cond.value, e1, e2] at h
    subst h
    exact Fld.start hf

section OwnArr
variable {p : Program} {l : Launch} {e : Env} {R : Room} {s : State} {m : MethodId} {args : Array Value} {below : List Frame} {meth : Method} {c : Code} {T : State} {locs : List Loc} {cells slots : Nat} {Z : State} {h : Heap} {a : Addr} {k : ClassId} {n : Int32} {vs : List Value} {d : Value}
theorem own_len {ty : FieldType} {g : JFrame} {target : State} (X : Stand p l e R s m args below meth c T locs cells slots) (hx : p.tables.exec = Jvm.exec) (hZ : Z.Warmed39 s.vm) (eT : T.heap = h) (A : Arv Z h a k ty n vs d) (hg : g.method = m) {rest : List Value} (hs : g.stack = .ref a :: rest) (hd : decode c.code g.pc = .ok (.arraylength, 1))
    (hr : Steps p.tables e below (T.setTop { g with pc := g.pc + 1, stack := .int n :: rest }) target) : Steps p.tables e below (T.setTop g) target := by
  obtain ⟨cl, Ar, -, S, M, -, -⟩ := A
  refine X.arraylength hx (by rw [eT]; exact Ar.1) (State.isArrayOf_alike hZ.alike Ar.2.1) hg hs hd _ ?_
  rw [len_of S M]
  exact hr
theorem own_aal {O : String} {g : JFrame} {target : State} (X : Stand p l e R s m args below meth c T locs cells slots) (hx : p.tables.exec = Jvm.exec) (hZ : Z.Warmed39 s.vm) (eT : T.heap = h) (A : Arv Z h a k (.object O) n vs d) {j : Int32} (hj : ¬ j < 0 ∧ j < n) {v : Value} (hv : vs.getD j.toNatClampNeg d = v) (hg : g.method = m) {rest : List Value} (hs : g.stack = .int j :: .ref a :: rest) (hd : decode c.code g.pc = .ok (.aaload, 1))
    (hr : Steps p.tables e below (T.setTop { g with pc := g.pc + 1, stack := v :: rest }) target) : Steps p.tables e below (T.setTop g) target := by
  obtain ⟨cl, Ar, -, S, M, H, -⟩ := A
  have hin := inb_of S hj
  exact X.aaload hx (by rw [eT]; exact Ar.1) (State.isArrayOf_alike hZ.alike Ar.2.1) rfl Ar.2.2 hin (Has.at H hin hv) hg hs hd _ hr
end OwnArr
theorem own_31 {k : Int32} (h : 0 ≤ k.toInt ∧ k.toInt < 31) : k = (0 : Int32) ∨ k = (1 : Int32) ∨ k = (2 : Int32) ∨ k = (3 : Int32) ∨ k = (4 : Int32) ∨ k = (5 : Int32) ∨ k = (6 : Int32) ∨ k = (7 : Int32) ∨ k = (8 : Int32) ∨ k = (9 : Int32) ∨ k = (10 : Int32) ∨ k = (11 : Int32) ∨ k = (12 : Int32) ∨ k = (13 : Int32) ∨ k = (14 : Int32) ∨ k = (15 : Int32) ∨ k = (16 : Int32) ∨ k = (17 : Int32) ∨ k = (18 : Int32) ∨ k = (19 : Int32) ∨ k = (20 : Int32) ∨ k = (21 : Int32) ∨ k = (22 : Int32) ∨ k = (23 : Int32) ∨ k = (24 : Int32) ∨ k = (25 : Int32) ∨ k = (26 : Int32) ∨ k = (27 : Int32) ∨ k = (28 : Int32) ∨ k = (29 : Int32) ∨ k = (30 : Int32) := by
  have e : ∀ j : Int32, k.toInt = j.toInt → k = j := fun j q => Int32.toInt_inj.mp q
  have q : k.toInt = 0 ∨ k.toInt = 1 ∨ k.toInt = 2 ∨ k.toInt = 3 ∨ k.toInt = 4 ∨ k.toInt = 5 ∨ k.toInt = 6 ∨ k.toInt = 7 ∨ k.toInt = 8 ∨ k.toInt = 9 ∨ k.toInt = 10 ∨ k.toInt = 11 ∨ k.toInt = 12 ∨ k.toInt = 13 ∨ k.toInt = 14 ∨ k.toInt = 15 ∨ k.toInt = 16 ∨ k.toInt = 17 ∨ k.toInt = 18 ∨ k.toInt = 19 ∨ k.toInt = 20 ∨ k.toInt = 21 ∨ k.toInt = 22 ∨ k.toInt = 23 ∨ k.toInt = 24 ∨ k.toInt = 25 ∨ k.toInt = 26 ∨ k.toInt = 27 ∨ k.toInt = 28 ∨ k.toInt = 29 ∨ k.toInt = 30 := by omega
  rcases q with q | q | q | q | q | q | q | q | q | q | q | q | q | q | q | q | q | q | q | q | q | q | q | q | q | q | q | q | q | q | q
  · exact Or.inl (e 0 q)
  · exact Or.inr (Or.inl (e 1 q))
  · exact Or.inr (Or.inr (Or.inl (e 2 q)))
  · exact Or.inr (Or.inr (Or.inr (Or.inl (e 3 q))))
  · exact Or.inr (Or.inr (Or.inr (Or.inr (Or.inl (e 4 q)))))
  · exact Or.inr (Or.inr (Or.inr (Or.inr (Or.inr (Or.inl (e 5 q))))))
  · exact Or.inr (Or.inr (Or.inr (Or.inr (Or.inr (Or.inr (Or.inl (e 6 q)))))))
  · exact Or.inr (Or.inr (Or.inr (Or.inr (Or.inr (Or.inr (Or.inr (Or.inl (e 7 q))))))))
  · exact Or.inr (Or.inr (Or.inr (Or.inr (Or.inr (Or.inr (Or.inr (Or.inr (Or.inl (e 8 q)))))))))
  · exact Or.inr (Or.inr (Or.inr (Or.inr (Or.inr (Or.inr (Or.inr (Or.inr (Or.inr (Or.inl (e 9 q))))))))))
  · exact Or.inr (Or.inr (Or.inr (Or.inr (Or.inr (Or.inr (Or.inr (Or.inr (Or.inr (Or.inr (Or.inl (e 10 q)))))))))))
  · exact Or.inr (Or.inr (Or.inr (Or.inr (Or.inr (Or.inr (Or.inr (Or.inr (Or.inr (Or.inr (Or.inr (Or.inl (e 11 q))))))))))))
  · exact Or.inr (Or.inr (Or.inr (Or.inr (Or.inr (Or.inr (Or.inr (Or.inr (Or.inr (Or.inr (Or.inr (Or.inr (Or.inl (e 12 q)))))))))))))
  · exact Or.inr (Or.inr (Or.inr (Or.inr (Or.inr (Or.inr (Or.inr (Or.inr (Or.inr (Or.inr (Or.inr (Or.inr (Or.inr (Or.inl (e 13 q))))))))))))))
  · exact Or.inr (Or.inr (Or.inr (Or.inr (Or.inr (Or.inr (Or.inr (Or.inr (Or.inr (Or.inr (Or.inr (Or.inr (Or.inr (Or.inr (Or.inl (e 14 q)))))))))))))))
  · exact Or.inr (Or.inr (Or.inr (Or.inr (Or.inr (Or.inr (Or.inr (Or.inr (Or.inr (Or.inr (Or.inr (Or.inr (Or.inr (Or.inr (Or.inr (Or.inl (e 15 q))))))))))))))))
  · exact Or.inr (Or.inr (Or.inr (Or.inr (Or.inr (Or.inr (Or.inr (Or.inr (Or.inr (Or.inr (Or.inr (Or.inr (Or.inr (Or.inr (Or.inr (Or.inr (Or.inl (e 16 q)))))))))))))))))
  · exact Or.inr (Or.inr (Or.inr (Or.inr (Or.inr (Or.inr (Or.inr (Or.inr (Or.inr (Or.inr (Or.inr (Or.inr (Or.inr (Or.inr (Or.inr (Or.inr (Or.inr (Or.inl (e 17 q))))))))))))))))))
  · exact Or.inr (Or.inr (Or.inr (Or.inr (Or.inr (Or.inr (Or.inr (Or.inr (Or.inr (Or.inr (Or.inr (Or.inr (Or.inr (Or.inr (Or.inr (Or.inr (Or.inr (Or.inr (Or.inl (e 18 q)))))))))))))))))))
  · exact Or.inr (Or.inr (Or.inr (Or.inr (Or.inr (Or.inr (Or.inr (Or.inr (Or.inr (Or.inr (Or.inr (Or.inr (Or.inr (Or.inr (Or.inr (Or.inr (Or.inr (Or.inr (Or.inr (Or.inl (e 19 q))))))))))))))))))))
  · exact Or.inr (Or.inr (Or.inr (Or.inr (Or.inr (Or.inr (Or.inr (Or.inr (Or.inr (Or.inr (Or.inr (Or.inr (Or.inr (Or.inr (Or.inr (Or.inr (Or.inr (Or.inr (Or.inr (Or.inr (Or.inl (e 20 q)))))))))))))))))))))
  · exact Or.inr (Or.inr (Or.inr (Or.inr (Or.inr (Or.inr (Or.inr (Or.inr (Or.inr (Or.inr (Or.inr (Or.inr (Or.inr (Or.inr (Or.inr (Or.inr (Or.inr (Or.inr (Or.inr (Or.inr (Or.inr (Or.inl (e 21 q))))))))))))))))))))))
  · exact Or.inr (Or.inr (Or.inr (Or.inr (Or.inr (Or.inr (Or.inr (Or.inr (Or.inr (Or.inr (Or.inr (Or.inr (Or.inr (Or.inr (Or.inr (Or.inr (Or.inr (Or.inr (Or.inr (Or.inr (Or.inr (Or.inr (Or.inl (e 22 q)))))))))))))))))))))))
  · exact Or.inr (Or.inr (Or.inr (Or.inr (Or.inr (Or.inr (Or.inr (Or.inr (Or.inr (Or.inr (Or.inr (Or.inr (Or.inr (Or.inr (Or.inr (Or.inr (Or.inr (Or.inr (Or.inr (Or.inr (Or.inr (Or.inr (Or.inr (Or.inl (e 23 q))))))))))))))))))))))))
  · exact Or.inr (Or.inr (Or.inr (Or.inr (Or.inr (Or.inr (Or.inr (Or.inr (Or.inr (Or.inr (Or.inr (Or.inr (Or.inr (Or.inr (Or.inr (Or.inr (Or.inr (Or.inr (Or.inr (Or.inr (Or.inr (Or.inr (Or.inr (Or.inr (Or.inl (e 24 q)))))))))))))))))))))))))
  · exact Or.inr (Or.inr (Or.inr (Or.inr (Or.inr (Or.inr (Or.inr (Or.inr (Or.inr (Or.inr (Or.inr (Or.inr (Or.inr (Or.inr (Or.inr (Or.inr (Or.inr (Or.inr (Or.inr (Or.inr (Or.inr (Or.inr (Or.inr (Or.inr (Or.inr (Or.inl (e 25 q))))))))))))))))))))))))))
  · exact Or.inr (Or.inr (Or.inr (Or.inr (Or.inr (Or.inr (Or.inr (Or.inr (Or.inr (Or.inr (Or.inr (Or.inr (Or.inr (Or.inr (Or.inr (Or.inr (Or.inr (Or.inr (Or.inr (Or.inr (Or.inr (Or.inr (Or.inr (Or.inr (Or.inr (Or.inr (Or.inl (e 26 q)))))))))))))))))))))))))))
  · exact Or.inr (Or.inr (Or.inr (Or.inr (Or.inr (Or.inr (Or.inr (Or.inr (Or.inr (Or.inr (Or.inr (Or.inr (Or.inr (Or.inr (Or.inr (Or.inr (Or.inr (Or.inr (Or.inr (Or.inr (Or.inr (Or.inr (Or.inr (Or.inr (Or.inr (Or.inr (Or.inr (Or.inl (e 27 q))))))))))))))))))))))))))))
  · exact Or.inr (Or.inr (Or.inr (Or.inr (Or.inr (Or.inr (Or.inr (Or.inr (Or.inr (Or.inr (Or.inr (Or.inr (Or.inr (Or.inr (Or.inr (Or.inr (Or.inr (Or.inr (Or.inr (Or.inr (Or.inr (Or.inr (Or.inr (Or.inr (Or.inr (Or.inr (Or.inr (Or.inr (Or.inl (e 28 q)))))))))))))))))))))))))))))
  · exact Or.inr (Or.inr (Or.inr (Or.inr (Or.inr (Or.inr (Or.inr (Or.inr (Or.inr (Or.inr (Or.inr (Or.inr (Or.inr (Or.inr (Or.inr (Or.inr (Or.inr (Or.inr (Or.inr (Or.inr (Or.inr (Or.inr (Or.inr (Or.inr (Or.inr (Or.inr (Or.inr (Or.inr (Or.inr (Or.inl (e 29 q))))))))))))))))))))))))))))))
  · exact Or.inr (Or.inr (Or.inr (Or.inr (Or.inr (Or.inr (Or.inr (Or.inr (Or.inr (Or.inr (Or.inr (Or.inr (Or.inr (Or.inr (Or.inr (Or.inr (Or.inr (Or.inr (Or.inr (Or.inr (Or.inr (Or.inr (Or.inr (Or.inr (Or.inr (Or.inr (Or.inr (Or.inr (Or.inr (Or.inr (e 30 q))))))))))))))))))))))))))))))
theorem own_in {k n : Int32} {D : Int} (h : 0 ≤ k.toInt ∧ k.toInt < D) (hn : n.toInt = D) : ¬ k < (0 : Int32) ∧ k < n := by
  rw [Int32.lt_iff_toInt_lt, Int32.lt_iff_toInt_lt, hn]
  exact ⟨by show ¬ k.toInt < 0; omega, h.2⟩

theorem pd_0 : parseMethodDescriptor "()Z" = some ⟨[], some .boolean⟩ := by decide +kernel
theorem d1_0 : decode prog_95_method_11_code 0 = .ok (.aload_n 0, 1) := by decide +kernel
theorem d1_1 : decode prog_95_method_11_code 1 = .ok (.getfield 138, 3) := by decide +kernel
theorem d1_4 : decode prog_95_method_11_code 4 = .ok (.ifnull 7, 3) := by decide +kernel
theorem d1_7 : decode prog_95_method_11_code 7 = .ok (.iconst 1, 1) := by decide +kernel
theorem d1_8 : decode prog_95_method_11_code 8 = .ok (.goto 4, 3) := by decide +kernel
theorem d1_11 : decode prog_95_method_11_code 11 = .ok (.iconst 0, 1) := by decide +kernel
theorem d1_12 : decode prog_95_method_11_code 12 = .ok (.ireturn, 1) := by decide +kernel
theorem pn_1 : plainName "com/example/prudent_checker/prudentchecker/smv/Operator" = true := by first | (simp [plainName, overriddenIn]; done) | decide +kernel
theorem ef_1 (m : MethodId) (x0 : Addr) : entryFrame m #[(.ref x0)] 1 = mkF m 0 #[.val (.ref x0)] [] := by first | (simp [entryFrame, mkF, argsToLocals, Value.category]; done) | rfl
def Q1 (Z : State) (a1 : Addr) (u1 : Value) (h0 : Heap) (n0 : Nat) (v : Option Value) (h : Heap) (L : List Loc) : Prop := v = some (.int (if u1 = .null then (0 : Int32) else (1 : Int32))) ∧ Fr n0 L ∧ h = h0
set_option maxRecDepth 65536 in
set_option maxHeartbeats 40000000 in
theorem rm1 (l : Launch) (Z : State) (a0 : Array Value) (hw : ∀ d ∈ tables_1, d.before a0 Z = true) (ws : List Jvm.Cond) (a1 : Addr) (u1 : Value) (h0 : Heap) (n0 : Nat) (Z0 : n0 ≤ h0.size) (F_lg : Fld Z h0 a1 "com/example/prudent_checker/prudentchecker/smv/Operator" "logic" "Lcom/example/prudent_checker/prudentchecker/smv/Logic;" u1) (hu : u1.isRef = true) :
    MetFree l (⟨"com/example/prudent_checker/prudentchecker/smv/Operator", "isTemporal", "()Z"⟩ : MethodName) (head1 (Jvm.Cond.code (⟨"com/example/prudent_checker/prudentchecker/smv/Operator", "isTemporal", "()Z"⟩ : MethodName) prog_95_method_11_code 1 (some .boolean) :: ws) ({ frames := 0, cells := 0, slots := 0, locals := 0 } : Room)) (fun a U => a = #[(.ref a1)] ∧ Z.Warmed39 U.vm ∧ U.heap = h0) (fun _ _ _ _ _ => True) (fun _ U o U' => ∃ v L, o = .returned v ∧ Q1 Z a1 u1 h0 n0 v U'.heap L ∧ FrameEnd U o U' L ({ frames := 0, cells := 0, slots := 0, locals := 0 } : Room).cells ({ frames := 0, cells := 0, slots := 0, locals := 0 } : Room).slots) := by
  refine MetFree.of_bodySF (plainFor_of_name pn_1) hisR ?_
  intro p e s m args below meth c s₁ Bd hml0 hP hK
  obtain ⟨rfl, hZ, hh⟩ := hP
  have hx := Bd.exec
  have hby := Bd.bytes
  have hml : c.maxLocals = 1 := hml0
  have hown : s.vm.findClass "com/example/prudent_checker/prudentchecker/smv/Operator" = some m.cls := findClass_of_methodNamed Bd.named
  have hnm := (name_of_methodNamed Bd.named Bd.method).1
  have X0 : Stand p l e ({ frames := 0, cells := 0, slots := 0, locals := 0 } : Room) s m #[(.ref a1)] below meth c s₁ [] 0 0 := Stand.of_body Bd
  have e0 : s₁.heap = h0 := by rw [← hh, Bd.state]; rfl
  have N0 := Fr.nil n0
  have K0 : Keep h0 h0 [] := Keep.refl _ _
  have P0 : ∀ t, Steps p.tables e below (s₁.setTop (mkF m 0 #[.val (.ref a1)] [])) t → Steps p.tables e below (s₁.setTop (entryFrame m #[(.ref a1)] 1)) t := fun t k => castTop (ef_1 m a1) k
  have P1 : ∀ t, Steps p.tables e below (s₁.setTop (mkF m 1 #[.val (.ref a1)] [(.ref a1)])) t → Steps p.tables e below (s₁.setTop (entryFrame m #[(.ref a1)] 1)) t := by
    intro t k
    refine P0 _ ?_
    refine XS.aloadN X0.here hx rfl (hb hby d1_0) rfl rfl ?_
    show Steps p.tables e below (s₁.setTop (mkF m 1 #[.val (.ref a1)] [(.ref a1)])) _
    exact k
  obtain ⟨T2, X2, e2, st2⟩ := getF X0 hx hZ hown (host := "") (Or.inl (hw _ (List.mem_of_getElem? (i := 72) rfl))) Via.refl e0 F_lg (g := (mkF m 1 #[.val (.ref a1)] [(.ref a1)])) rfl rfl (hb hby d1_1)
  have P3 : ∀ t, Steps p.tables e below (T2.setTop (mkF m 4 #[.val (.ref a1)] [u1])) t → Steps p.tables e below (s₁.setTop (entryFrame m #[(.ref a1)] 1)) t := fun t k => P1 _ (st2 _ k)
  by_cases c4 : u1 = .null
  · have P4 : ∀ t, Steps p.tables e below (T2.setTop (mkF m 12 #[.val (.ref a1)] [(.int (0 : Int32))])) t → Steps p.tables e below (s₁.setTop (entryFrame m #[(.ref a1)] 1)) t := by
      intro t k
      refine P3 _ ?_
      refine XT.nullYes X2.here hx rfl (pc0 := 4) (pc' := 11) rfl (hb hby d1_4) rfl c4 (by decide) (by decide) ?_
      show Steps p.tables e below (T2.setTop (mkF m 11 #[.val (.ref a1)] [])) _
      refine XS.iconst X2.here hx rfl (hb hby d1_11) ?_
      show Steps p.tables e below (T2.setTop (mkF m 12 #[.val (.ref a1)] [(.int (0 : Int32))])) _
      exact k
    obtain ⟨fs, hr, hrun, hended, hW, hsame⟩ := X2.leave (v := some (.int (0 : Int32))) (fun h => by rw [Bd.returns] at h; cases h)
    refine ⟨_, _, P4 _ ?_, hrun, hended, _, _, rfl, ?_, ⟨_, rfl⟩, hW, hsame.mono (by decide) (by decide)⟩
    · exact retN X2 hx (t := .boolean) Bd.returns (by simp) (hb hby d1_12) hr
    · show Q1 Z a1 u1 h0 n0 _ T2.heap _
      rw [e2]
      exact ⟨by rw [if_pos c4], N0, rfl⟩
  · have P5 : ∀ t, Steps p.tables e below (T2.setTop (mkF m 12 #[.val (.ref a1)] [(.int (1 : Int32))])) t → Steps p.tables e below (s₁.setTop (entryFrame m #[(.ref a1)] 1)) t := by
      intro t k
      refine P3 _ ?_
      refine XT.nullNo X2.here hx rfl (hb hby d1_4) rfl hu c4 ?_
      show Steps p.tables e below (T2.setTop (mkF m 7 #[.val (.ref a1)] [])) _
      refine XS.iconst X2.here hx rfl (hb hby d1_7) ?_
      show Steps p.tables e below (T2.setTop (mkF m 8 #[.val (.ref a1)] [(.int (1 : Int32))])) _
      refine XS.goto X2.here hx rfl (pc0 := 8) (pc' := 12) rfl (hb hby d1_8) (by decide) (by decide) ?_
      show Steps p.tables e below (T2.setTop (mkF m 12 #[.val (.ref a1)] [(.int (1 : Int32))])) _
      exact k
    obtain ⟨fs, hr, hrun, hended, hW, hsame⟩ := X2.leave (v := some (.int (1 : Int32))) (fun h => by rw [Bd.returns] at h; cases h)
    refine ⟨_, _, P5 _ ?_, hrun, hended, _, _, rfl, ?_, ⟨_, rfl⟩, hW, hsame.mono (by decide) (by decide)⟩
    · exact retN X2 hx (t := .boolean) Bd.returns (by simp) (hb hby d1_12) hr
    · show Q1 Z a1 u1 h0 n0 _ T2.heap _
      rw [e2]
      exact ⟨by rw [if_neg c4], N0, rfl⟩
theorem pn_0 : plainName "com/example/prudent_checker/prudentchecker/smv/OperatorIsTemporalPinLaw" = true := by first | (simp [plainName, overriddenIn]; done) | decide +kernel
theorem ef_0 (m : MethodId) (x0 : Int32) : entryFrame m #[(.int x0)] maxLocals = mkF m 0 #[.val (.int x0), .unset, .unset, .unset] [] := by first | (simp [entryFrame, mkF, argsToLocals, Value.category, maxLocals]; done) | rfl
def Q0 (Z : State) (p1 : Int32) (w_NOT : Addr) (w_NEGATE : Addr) (w_TIMES : Addr) (w_DIVIDE : Addr) (w_MOD : Addr) (w_PLUS : Addr) (w_MINUS : Addr) (w_EQUAL : Addr) (w_NOT_EQUAL : Addr) (w_LESS : Addr) (w_LESS_EQUAL : Addr) (w_GREATER : Addr) (w_GREATER_EQUAL : Addr) (w_EX : Addr) (w_EF : Addr) (w_EG : Addr) (w_AX : Addr) (w_AF : Addr) (w_AG : Addr) (w_EU : Addr) (w_AU : Addr) (w_X : Addr) (w_F : Addr) (w_G : Addr) (w_U : Addr) (w_V : Addr) (w_AND : Addr) (w_OR : Addr) (w_XOR : Addr) (w_IFF : Addr) (w_IMPLIES : Addr) (w_CTL : Addr) (w_LTL : Addr) (h0 : Heap) (n0 : Nat) (v : Option Value) (h : Heap) (L : List Loc) : Prop := v = some (.int 1) ∧ Fr n0 L
set_option maxRecDepth 65536 in
set_option maxHeartbeats 40000000 in
theorem rm0 (l : Launch) (Z : State) (a0 : Array Value) (hw : ∀ d ∈ tables_1, d.before a0 Z = true) (ws : List Jvm.Cond) (p1 : Int32) (w_NOT : Addr) (w_NEGATE : Addr) (w_TIMES : Addr) (w_DIVIDE : Addr) (w_MOD : Addr) (w_PLUS : Addr) (w_MINUS : Addr) (w_EQUAL : Addr) (w_NOT_EQUAL : Addr) (w_LESS : Addr) (w_LESS_EQUAL : Addr) (w_GREATER : Addr) (w_GREATER_EQUAL : Addr) (w_EX : Addr) (w_EF : Addr) (w_EG : Addr) (w_AX : Addr) (w_AF : Addr) (w_AG : Addr) (w_EU : Addr) (w_AU : Addr) (w_X : Addr) (w_F : Addr) (w_G : Addr) (w_U : Addr) (w_V : Addr) (w_AND : Addr) (w_OR : Addr) (w_XOR : Addr) (w_IFF : Addr) (w_IMPLIES : Addr) (w_CTL : Addr) (w_LTL : Addr) (h0 : Heap) (n0 : Nat) (Z0 : n0 ≤ h0.size) (O0 : Old Z n0 h0) (S_NOT : Sta Z Z.heap "com/example/prudent_checker/prudentchecker/smv/Operator" "NOT" "Lcom/example/prudent_checker/prudentchecker/smv/Operator;" (.ref w_NOT)) (S_NEGATE : Sta Z Z.heap "com/example/prudent_checker/prudentchecker/smv/Operator" "NEGATE" "Lcom/example/prudent_checker/prudentchecker/smv/Operator;" (.ref w_NEGATE)) (S_TIMES : Sta Z Z.heap "com/example/prudent_checker/prudentchecker/smv/Operator" "TIMES" "Lcom/example/prudent_checker/prudentchecker/smv/Operator;" (.ref w_TIMES)) (S_DIVIDE : Sta Z Z.heap "com/example/prudent_checker/prudentchecker/smv/Operator" "DIVIDE" "Lcom/example/prudent_checker/prudentchecker/smv/Operator;" (.ref w_DIVIDE)) (S_MOD : Sta Z Z.heap "com/example/prudent_checker/prudentchecker/smv/Operator" "MOD" "Lcom/example/prudent_checker/prudentchecker/smv/Operator;" (.ref w_MOD)) (S_PLUS : Sta Z Z.heap "com/example/prudent_checker/prudentchecker/smv/Operator" "PLUS" "Lcom/example/prudent_checker/prudentchecker/smv/Operator;" (.ref w_PLUS)) (S_MINUS : Sta Z Z.heap "com/example/prudent_checker/prudentchecker/smv/Operator" "MINUS" "Lcom/example/prudent_checker/prudentchecker/smv/Operator;" (.ref w_MINUS)) (S_EQUAL : Sta Z Z.heap "com/example/prudent_checker/prudentchecker/smv/Operator" "EQUAL" "Lcom/example/prudent_checker/prudentchecker/smv/Operator;" (.ref w_EQUAL)) (S_NOT_EQUAL : Sta Z Z.heap "com/example/prudent_checker/prudentchecker/smv/Operator" "NOT_EQUAL" "Lcom/example/prudent_checker/prudentchecker/smv/Operator;" (.ref w_NOT_EQUAL)) (S_LESS : Sta Z Z.heap "com/example/prudent_checker/prudentchecker/smv/Operator" "LESS" "Lcom/example/prudent_checker/prudentchecker/smv/Operator;" (.ref w_LESS)) (S_LESS_EQUAL : Sta Z Z.heap "com/example/prudent_checker/prudentchecker/smv/Operator" "LESS_EQUAL" "Lcom/example/prudent_checker/prudentchecker/smv/Operator;" (.ref w_LESS_EQUAL)) (S_GREATER : Sta Z Z.heap "com/example/prudent_checker/prudentchecker/smv/Operator" "GREATER" "Lcom/example/prudent_checker/prudentchecker/smv/Operator;" (.ref w_GREATER)) (S_GREATER_EQUAL : Sta Z Z.heap "com/example/prudent_checker/prudentchecker/smv/Operator" "GREATER_EQUAL" "Lcom/example/prudent_checker/prudentchecker/smv/Operator;" (.ref w_GREATER_EQUAL)) (S_EX : Sta Z Z.heap "com/example/prudent_checker/prudentchecker/smv/Operator" "EX" "Lcom/example/prudent_checker/prudentchecker/smv/Operator;" (.ref w_EX)) (S_EF : Sta Z Z.heap "com/example/prudent_checker/prudentchecker/smv/Operator" "EF" "Lcom/example/prudent_checker/prudentchecker/smv/Operator;" (.ref w_EF)) (S_EG : Sta Z Z.heap "com/example/prudent_checker/prudentchecker/smv/Operator" "EG" "Lcom/example/prudent_checker/prudentchecker/smv/Operator;" (.ref w_EG)) (S_AX : Sta Z Z.heap "com/example/prudent_checker/prudentchecker/smv/Operator" "AX" "Lcom/example/prudent_checker/prudentchecker/smv/Operator;" (.ref w_AX)) (S_AF : Sta Z Z.heap "com/example/prudent_checker/prudentchecker/smv/Operator" "AF" "Lcom/example/prudent_checker/prudentchecker/smv/Operator;" (.ref w_AF)) (S_AG : Sta Z Z.heap "com/example/prudent_checker/prudentchecker/smv/Operator" "AG" "Lcom/example/prudent_checker/prudentchecker/smv/Operator;" (.ref w_AG)) (S_EU : Sta Z Z.heap "com/example/prudent_checker/prudentchecker/smv/Operator" "EU" "Lcom/example/prudent_checker/prudentchecker/smv/Operator;" (.ref w_EU)) (S_AU : Sta Z Z.heap "com/example/prudent_checker/prudentchecker/smv/Operator" "AU" "Lcom/example/prudent_checker/prudentchecker/smv/Operator;" (.ref w_AU)) (S_X : Sta Z Z.heap "com/example/prudent_checker/prudentchecker/smv/Operator" "X" "Lcom/example/prudent_checker/prudentchecker/smv/Operator;" (.ref w_X)) (S_F : Sta Z Z.heap "com/example/prudent_checker/prudentchecker/smv/Operator" "F" "Lcom/example/prudent_checker/prudentchecker/smv/Operator;" (.ref w_F)) (S_G : Sta Z Z.heap "com/example/prudent_checker/prudentchecker/smv/Operator" "G" "Lcom/example/prudent_checker/prudentchecker/smv/Operator;" (.ref w_G)) (S_U : Sta Z Z.heap "com/example/prudent_checker/prudentchecker/smv/Operator" "U" "Lcom/example/prudent_checker/prudentchecker/smv/Operator;" (.ref w_U)) (S_V : Sta Z Z.heap "com/example/prudent_checker/prudentchecker/smv/Operator" "V" "Lcom/example/prudent_checker/prudentchecker/smv/Operator;" (.ref w_V)) (S_AND : Sta Z Z.heap "com/example/prudent_checker/prudentchecker/smv/Operator" "AND" "Lcom/example/prudent_checker/prudentchecker/smv/Operator;" (.ref w_AND)) (S_OR : Sta Z Z.heap "com/example/prudent_checker/prudentchecker/smv/Operator" "OR" "Lcom/example/prudent_checker/prudentchecker/smv/Operator;" (.ref w_OR)) (S_XOR : Sta Z Z.heap "com/example/prudent_checker/prudentchecker/smv/Operator" "XOR" "Lcom/example/prudent_checker/prudentchecker/smv/Operator;" (.ref w_XOR)) (S_IFF : Sta Z Z.heap "com/example/prudent_checker/prudentchecker/smv/Operator" "IFF" "Lcom/example/prudent_checker/prudentchecker/smv/Operator;" (.ref w_IFF)) (S_IMPLIES : Sta Z Z.heap "com/example/prudent_checker/prudentchecker/smv/Operator" "IMPLIES" "Lcom/example/prudent_checker/prudentchecker/smv/Operator;" (.ref w_IMPLIES)) (E_NOT : Exa Z Z.heap w_NOT "com/example/prudent_checker/prudentchecker/smv/Operator") (E_NEGATE : Exa Z Z.heap w_NEGATE "com/example/prudent_checker/prudentchecker/smv/Operator") (E_TIMES : Exa Z Z.heap w_TIMES "com/example/prudent_checker/prudentchecker/smv/Operator") (E_DIVIDE : Exa Z Z.heap w_DIVIDE "com/example/prudent_checker/prudentchecker/smv/Operator") (E_MOD : Exa Z Z.heap w_MOD "com/example/prudent_checker/prudentchecker/smv/Operator") (E_PLUS : Exa Z Z.heap w_PLUS "com/example/prudent_checker/prudentchecker/smv/Operator") (E_MINUS : Exa Z Z.heap w_MINUS "com/example/prudent_checker/prudentchecker/smv/Operator") (E_EQUAL : Exa Z Z.heap w_EQUAL "com/example/prudent_checker/prudentchecker/smv/Operator") (E_NOT_EQUAL : Exa Z Z.heap w_NOT_EQUAL "com/example/prudent_checker/prudentchecker/smv/Operator") (E_LESS : Exa Z Z.heap w_LESS "com/example/prudent_checker/prudentchecker/smv/Operator") (E_LESS_EQUAL : Exa Z Z.heap w_LESS_EQUAL "com/example/prudent_checker/prudentchecker/smv/Operator") (E_GREATER : Exa Z Z.heap w_GREATER "com/example/prudent_checker/prudentchecker/smv/Operator") (E_GREATER_EQUAL : Exa Z Z.heap w_GREATER_EQUAL "com/example/prudent_checker/prudentchecker/smv/Operator") (E_EX : Exa Z Z.heap w_EX "com/example/prudent_checker/prudentchecker/smv/Operator") (E_EF : Exa Z Z.heap w_EF "com/example/prudent_checker/prudentchecker/smv/Operator") (E_EG : Exa Z Z.heap w_EG "com/example/prudent_checker/prudentchecker/smv/Operator") (E_AX : Exa Z Z.heap w_AX "com/example/prudent_checker/prudentchecker/smv/Operator") (E_AF : Exa Z Z.heap w_AF "com/example/prudent_checker/prudentchecker/smv/Operator") (E_AG : Exa Z Z.heap w_AG "com/example/prudent_checker/prudentchecker/smv/Operator") (E_EU : Exa Z Z.heap w_EU "com/example/prudent_checker/prudentchecker/smv/Operator") (E_AU : Exa Z Z.heap w_AU "com/example/prudent_checker/prudentchecker/smv/Operator") (E_X : Exa Z Z.heap w_X "com/example/prudent_checker/prudentchecker/smv/Operator") (E_F : Exa Z Z.heap w_F "com/example/prudent_checker/prudentchecker/smv/Operator") (E_G : Exa Z Z.heap w_G "com/example/prudent_checker/prudentchecker/smv/Operator") (E_U : Exa Z Z.heap w_U "com/example/prudent_checker/prudentchecker/smv/Operator") (E_V : Exa Z Z.heap w_V "com/example/prudent_checker/prudentchecker/smv/Operator") (E_AND : Exa Z Z.heap w_AND "com/example/prudent_checker/prudentchecker/smv/Operator") (E_OR : Exa Z Z.heap w_OR "com/example/prudent_checker/prudentchecker/smv/Operator") (E_XOR : Exa Z Z.heap w_XOR "com/example/prudent_checker/prudentchecker/smv/Operator") (E_IFF : Exa Z Z.heap w_IFF "com/example/prudent_checker/prudentchecker/smv/Operator") (E_IMPLIES : Exa Z Z.heap w_IMPLIES "com/example/prudent_checker/prudentchecker/smv/Operator") (G_NOT : Fld Z Z.heap w_NOT "com/example/prudent_checker/prudentchecker/smv/Operator" "logic" "Lcom/example/prudent_checker/prudentchecker/smv/Logic;" .null) (G_NEGATE : Fld Z Z.heap w_NEGATE "com/example/prudent_checker/prudentchecker/smv/Operator" "logic" "Lcom/example/prudent_checker/prudentchecker/smv/Logic;" .null) (G_TIMES : Fld Z Z.heap w_TIMES "com/example/prudent_checker/prudentchecker/smv/Operator" "logic" "Lcom/example/prudent_checker/prudentchecker/smv/Logic;" .null) (G_DIVIDE : Fld Z Z.heap w_DIVIDE "com/example/prudent_checker/prudentchecker/smv/Operator" "logic" "Lcom/example/prudent_checker/prudentchecker/smv/Logic;" .null) (G_MOD : Fld Z Z.heap w_MOD "com/example/prudent_checker/prudentchecker/smv/Operator" "logic" "Lcom/example/prudent_checker/prudentchecker/smv/Logic;" .null) (G_PLUS : Fld Z Z.heap w_PLUS "com/example/prudent_checker/prudentchecker/smv/Operator" "logic" "Lcom/example/prudent_checker/prudentchecker/smv/Logic;" .null) (G_MINUS : Fld Z Z.heap w_MINUS "com/example/prudent_checker/prudentchecker/smv/Operator" "logic" "Lcom/example/prudent_checker/prudentchecker/smv/Logic;" .null) (G_EQUAL : Fld Z Z.heap w_EQUAL "com/example/prudent_checker/prudentchecker/smv/Operator" "logic" "Lcom/example/prudent_checker/prudentchecker/smv/Logic;" .null) (G_NOT_EQUAL : Fld Z Z.heap w_NOT_EQUAL "com/example/prudent_checker/prudentchecker/smv/Operator" "logic" "Lcom/example/prudent_checker/prudentchecker/smv/Logic;" .null) (G_LESS : Fld Z Z.heap w_LESS "com/example/prudent_checker/prudentchecker/smv/Operator" "logic" "Lcom/example/prudent_checker/prudentchecker/smv/Logic;" .null) (G_LESS_EQUAL : Fld Z Z.heap w_LESS_EQUAL "com/example/prudent_checker/prudentchecker/smv/Operator" "logic" "Lcom/example/prudent_checker/prudentchecker/smv/Logic;" .null) (G_GREATER : Fld Z Z.heap w_GREATER "com/example/prudent_checker/prudentchecker/smv/Operator" "logic" "Lcom/example/prudent_checker/prudentchecker/smv/Logic;" .null) (G_GREATER_EQUAL : Fld Z Z.heap w_GREATER_EQUAL "com/example/prudent_checker/prudentchecker/smv/Operator" "logic" "Lcom/example/prudent_checker/prudentchecker/smv/Logic;" .null) (G_EX : Fld Z Z.heap w_EX "com/example/prudent_checker/prudentchecker/smv/Operator" "logic" "Lcom/example/prudent_checker/prudentchecker/smv/Logic;" (.ref w_CTL)) (G_EF : Fld Z Z.heap w_EF "com/example/prudent_checker/prudentchecker/smv/Operator" "logic" "Lcom/example/prudent_checker/prudentchecker/smv/Logic;" (.ref w_CTL)) (G_EG : Fld Z Z.heap w_EG "com/example/prudent_checker/prudentchecker/smv/Operator" "logic" "Lcom/example/prudent_checker/prudentchecker/smv/Logic;" (.ref w_CTL)) (G_AX : Fld Z Z.heap w_AX "com/example/prudent_checker/prudentchecker/smv/Operator" "logic" "Lcom/example/prudent_checker/prudentchecker/smv/Logic;" (.ref w_CTL)) (G_AF : Fld Z Z.heap w_AF "com/example/prudent_checker/prudentchecker/smv/Operator" "logic" "Lcom/example/prudent_checker/prudentchecker/smv/Logic;" (.ref w_CTL)) (G_AG : Fld Z Z.heap w_AG "com/example/prudent_checker/prudentchecker/smv/Operator" "logic" "Lcom/example/prudent_checker/prudentchecker/smv/Logic;" (.ref w_CTL)) (G_EU : Fld Z Z.heap w_EU "com/example/prudent_checker/prudentchecker/smv/Operator" "logic" "Lcom/example/prudent_checker/prudentchecker/smv/Logic;" (.ref w_CTL)) (G_AU : Fld Z Z.heap w_AU "com/example/prudent_checker/prudentchecker/smv/Operator" "logic" "Lcom/example/prudent_checker/prudentchecker/smv/Logic;" (.ref w_CTL)) (G_X : Fld Z Z.heap w_X "com/example/prudent_checker/prudentchecker/smv/Operator" "logic" "Lcom/example/prudent_checker/prudentchecker/smv/Logic;" (.ref w_LTL)) (G_F : Fld Z Z.heap w_F "com/example/prudent_checker/prudentchecker/smv/Operator" "logic" "Lcom/example/prudent_checker/prudentchecker/smv/Logic;" (.ref w_LTL)) (G_G : Fld Z Z.heap w_G "com/example/prudent_checker/prudentchecker/smv/Operator" "logic" "Lcom/example/prudent_checker/prudentchecker/smv/Logic;" (.ref w_LTL)) (G_U : Fld Z Z.heap w_U "com/example/prudent_checker/prudentchecker/smv/Operator" "logic" "Lcom/example/prudent_checker/prudentchecker/smv/Logic;" (.ref w_LTL)) (G_V : Fld Z Z.heap w_V "com/example/prudent_checker/prudentchecker/smv/Operator" "logic" "Lcom/example/prudent_checker/prudentchecker/smv/Logic;" (.ref w_LTL)) (G_AND : Fld Z Z.heap w_AND "com/example/prudent_checker/prudentchecker/smv/Operator" "logic" "Lcom/example/prudent_checker/prudentchecker/smv/Logic;" .null) (G_OR : Fld Z Z.heap w_OR "com/example/prudent_checker/prudentchecker/smv/Operator" "logic" "Lcom/example/prudent_checker/prudentchecker/smv/Logic;" .null) (G_XOR : Fld Z Z.heap w_XOR "com/example/prudent_checker/prudentchecker/smv/Operator" "logic" "Lcom/example/prudent_checker/prudentchecker/smv/Logic;" .null) (G_IFF : Fld Z Z.heap w_IFF "com/example/prudent_checker/prudentchecker/smv/Operator" "logic" "Lcom/example/prudent_checker/prudentchecker/smv/Logic;" .null) (G_IMPLIES : Fld Z Z.heap w_IMPLIES "com/example/prudent_checker/prudentchecker/smv/Operator" "logic" "Lcom/example/prudent_checker/prudentchecker/smv/Logic;" .null) :
    MetFree l x (head1 (Jvm.Cond.code x code maxLocals ret :: ws) room_1) (fun a U => a = #[(.int p1)] ∧ Z.Warmed39 U.vm ∧ U.heap = h0) (fun _ _ _ _ _ => True) (fun _ U o U' => ∃ v L, o = .returned v ∧ Q0 Z p1 w_NOT w_NEGATE w_TIMES w_DIVIDE w_MOD w_PLUS w_MINUS w_EQUAL w_NOT_EQUAL w_LESS w_LESS_EQUAL w_GREATER w_GREATER_EQUAL w_EX w_EF w_EG w_AX w_AF w_AG w_EU w_AU w_X w_F w_G w_U w_V w_AND w_OR w_XOR w_IFF w_IMPLIES w_CTL w_LTL h0 n0 v U'.heap L ∧ FrameEnd U o U' L room_1.cells room_1.slots) := by
  refine MetFree.of_bodySF (plainFor_of_name pn_0) hisR ?_
  intro p e s m args below meth c s₁ Bd hml0 hP hK
  obtain ⟨rfl, hZ, hh⟩ := hP
  have hx := Bd.exec
  have hby := Bd.bytes
  have hml : c.maxLocals = 4 := hml0
  have hown : s.vm.findClass "com/example/prudent_checker/prudentchecker/smv/OperatorIsTemporalPinLaw" = some m.cls := findClass_of_methodNamed Bd.named
  have hnm := (name_of_methodNamed Bd.named Bd.method).1
  have X0 : Stand p l e room_1 s m #[(.int p1)] below meth c s₁ [] 0 0 := Stand.of_body Bd
  have e0 : s₁.heap = h0 := by rw [← hh, Bd.state]; rfl
  have N0 := Fr.nil n0
  have K0 : Keep h0 h0 [] := Keep.refl _ _
  have P0 : ∀ t, Steps p.tables e below (s₁.setTop (mkF m 0 #[.val (.int p1), .unset, .unset, .unset] [])) t → Steps p.tables e below (s₁.setTop (entryFrame m #[(.int p1)] maxLocals)) t := fun t k => castTop (ef_0 m p1) k
  have P1 : ∀ t, Steps p.tables e below (s₁.setTop (mkF m 2 #[.val (.int p1), .unset, .unset, .unset] [(.int (31 : Int32))])) t → Steps p.tables e below (s₁.setTop (entryFrame m #[(.int p1)] maxLocals)) t := by
    intro t k
    refine P0 _ ?_
    refine XS.bipush X0.here hx rfl (hb hby at_0) ?_
    show Steps p.tables e below (s₁.setTop (mkF m 2 #[.val (.int p1), .unset, .unset, .unset] [(.int (31 : Int32))])) _
    exact k
  obtain ⟨T2, h2, k2, X2, e2, E2, A2, O2, st2⟩ := newR X0 hx hZ hown (hw _ (List.mem_of_getElem? (i := 0) rfl)) (hw _ (List.mem_of_getElem? (i := 1) rfl)) e0 (g := (mkF m 2 #[.val (.int p1), .unset, .unset, .unset] [(.int (31 : Int32))])) rfl (hb hby at_2) rfl (by decide) (cap := 31) (by decide) (by decide) (by decide) (by decide)
  obtain ⟨ba, g2⟩ : ∃ z, z = h0.size := ⟨_, rfl⟩
  rw [← g2] at A2 st2
  have F3 : Old Z n0 h2 := O0.ext E2
  obtain ⟨kc_ba, hkc_ba⟩ : ∃ z, z = k2 := ⟨_, rfl⟩
  rw [← hkc_ba] at A2 O2
  have ov_ba := O2
  have F4 : Arv Z h2 ba kc_ba (.object "com/example/prudent_checker/prudentchecker/smv/Operator") (31 : Int32) [.null, .null, .null, .null, .null, .null, .null, .null, .null, .null, .null, .null, .null, .null, .null, .null, .null, .null, .null, .null, .null, .null, .null, .null, .null, .null, .null, .null, .null, .null, .null] .null := (Arv.new A2 (by decide)).pad (pad_rep [] .null 31)
  have Z5 : n0 ≤ h2.size := Nat.le_trans Z0 E2.1
  have K6 : Keep h0 h2 [] := K0.ext E2
  have g_ba : n0 ≤ ba := Nat.le_trans Z0 (Nat.le_of_eq g2.symm)
  have sz_ba : h0.size ≤ ba := Nat.le_trans K0.1 (Nat.le_of_eq g2.symm)
  have P7 : ∀ t, Steps p.tables e below (T2.setTop (mkF m 5 #[.val (.int p1), .unset, .unset, .unset] [(.ref ba)])) t → Steps p.tables e below (s₁.setTop (entryFrame m #[(.int p1)] maxLocals)) t := fun t k => P1 _ (st2 _ k)
  have P8 : ∀ t, Steps p.tables e below (T2.setTop (mkF m 7 #[.val (.int p1), .unset, .unset, .unset] [(.int (0 : Int32)), (.ref ba), (.ref ba)])) t → Steps p.tables e below (s₁.setTop (entryFrame m #[(.int p1)] maxLocals)) t := by
    intro t k
    refine P7 _ ?_
    refine XS.dup X2.here hx rfl (hb hby at_5) rfl rfl ?_
    show Steps p.tables e below (T2.setTop (mkF m 6 #[.val (.int p1), .unset, .unset, .unset] [(.ref ba), (.ref ba)])) _
    refine XS.iconst X2.here hx rfl (hb hby at_6) ?_
    show Steps p.tables e below (T2.setTop (mkF m 7 #[.val (.int p1), .unset, .unset, .unset] [(.int (0 : Int32)), (.ref ba), (.ref ba)])) _
    exact k
  obtain ⟨T9, X9, e9, st9⟩ := getS2 X2 hx hZ hown (host := "") (Or.inl (hw _ (List.mem_of_getElem? (i := 2) rfl))) Via.refl e2 (S_NOT.ext F3.2) (g := (mkF m 7 #[.val (.int p1), .unset, .unset, .unset] [(.int (0 : Int32)), (.ref ba), (.ref ba)])) rfl (hb hby at_7)
  have P10 : ∀ t, Steps p.tables e below (T9.setTop (mkF m 10 #[.val (.int p1), .unset, .unset, .unset] [(.ref w_NOT), (.int (0 : Int32)), (.ref ba), (.ref ba)])) t → Steps p.tables e below (s₁.setTop (entryFrame m #[(.int p1)] maxLocals)) t := fun t k => P8 _ (st9 _ k)
  obtain ⟨cl11, Ar11, q11, S11, M11, H11, G11⟩ := F4
  have in11 : ¬ ((0 : Int32) < 0 ∨ cl11.slots.size ≤ ((0 : Int32)).toNatClampNeg) := inb_of S11 ⟨by decide, by decide⟩
  have so11 : Sto Z h2 ba (.ref w_NOT) := Sto.ofV Ar11 q11 ov_ba (Ins.self (E_NOT.ext F3.2))
  obtain ⟨T11, h11, X11, e11, W11, st11⟩ := stR X9 hx hZ e9 Ar11 (j := (0 : Int32)) in11 rfl so11 (g := (mkF m 10 #[.val (.int p1), .unset, .unset, .unset] [(.ref w_NOT), (.int (0 : Int32)), (.ref ba), (.ref ba)])) rfl rfl (hb hby at_10)
  have F12 : Old Z n0 h11 := F3.wr W11 g_ba
  have F13 : Arv Z h11 ba kc_ba (.object "com/example/prudent_checker/prudentchecker/smv/Operator") (31 : Int32) [(.ref w_NOT), .null, .null, .null, .null, .null, .null, .null, .null, .null, .null, .null, .null, .null, .null, .null, .null, .null, .null, .null, .null, .null, .null, .null, .null, .null, .null, .null, .null, .null, .null] .null := Arv.set Ar11 q11 S11 M11 H11 G11 rfl W11 0 rfl (Nat.le_of_ble_eq_true rfl)
  have Z14 : n0 ≤ h11.size := Nat.le_trans Z5 (Keep.of_wr W11).1
  have K15 : Keep h0 h11 [] := K6.wr W11 (Or.inr sz_ba)
  obtain ⟨LL11, X11, N11⟩ := own_gen X11 (Fr.snoc X11 N0 g_ba)
  have P16 : ∀ t, Steps p.tables e below (T11.setTop (mkF m 11 #[.val (.int p1), .unset, .unset, .unset] [(.ref ba)])) t → Steps p.tables e below (s₁.setTop (entryFrame m #[(.int p1)] maxLocals)) t := fun t k => P10 _ (st11 _ k)
  have P17 : ∀ t, Steps p.tables e below (T11.setTop (mkF m 13 #[.val (.int p1), .unset, .unset, .unset] [(.int (1 : Int32)), (.ref ba), (.ref ba)])) t → Steps p.tables e below (s₁.setTop (entryFrame m #[(.int p1)] maxLocals)) t := by
    intro t k
    refine P16 _ ?_
    refine XS.dup X11.here hx rfl (hb hby at_11) rfl rfl ?_
    show Steps p.tables e below (T11.setTop (mkF m 12 #[.val (.int p1), .unset, .unset, .unset] [(.ref ba), (.ref ba)])) _
    refine XS.iconst X11.here hx rfl (hb hby at_12) ?_
    show Steps p.tables e below (T11.setTop (mkF m 13 #[.val (.int p1), .unset, .unset, .unset] [(.int (1 : Int32)), (.ref ba), (.ref ba)])) _
    exact k
  obtain ⟨T18, X18, e18, st18⟩ := getS2 X11 hx hZ hown (host := "") (Or.inl (hw _ (List.mem_of_getElem? (i := 6) rfl))) Via.refl e11 (S_NEGATE.ext F12.2) (g := (mkF m 13 #[.val (.int p1), .unset, .unset, .unset] [(.int (1 : Int32)), (.ref ba), (.ref ba)])) rfl (hb hby at_13)
  have P19 : ∀ t, Steps p.tables e below (T18.setTop (mkF m 16 #[.val (.int p1), .unset, .unset, .unset] [(.ref w_NEGATE), (.int (1 : Int32)), (.ref ba), (.ref ba)])) t → Steps p.tables e below (s₁.setTop (entryFrame m #[(.int p1)] maxLocals)) t := fun t k => P17 _ (st18 _ k)
  obtain ⟨cl20, Ar20, q20, S20, M20, H20, G20⟩ := F13
  have in20 : ¬ ((1 : Int32) < 0 ∨ cl20.slots.size ≤ ((1 : Int32)).toNatClampNeg) := inb_of S20 ⟨by decide, by decide⟩
  have so20 : Sto Z h11 ba (.ref w_NEGATE) := Sto.ofV Ar20 q20 ov_ba (Ins.self (E_NEGATE.ext F12.2))
  obtain ⟨T20, h20, X20, e20, W20, st20⟩ := stR X18 hx hZ e18 Ar20 (j := (1 : Int32)) in20 rfl so20 (g := (mkF m 16 #[.val (.int p1), .unset, .unset, .unset] [(.ref w_NEGATE), (.int (1 : Int32)), (.ref ba), (.ref ba)])) rfl rfl (hb hby at_16)
  have F21 : Old Z n0 h20 := F12.wr W20 g_ba
  have F22 : Arv Z h20 ba kc_ba (.object "com/example/prudent_checker/prudentchecker/smv/Operator") (31 : Int32) [(.ref w_NOT), (.ref w_NEGATE), .null, .null, .null, .null, .null, .null, .null, .null, .null, .null, .null, .null, .null, .null, .null, .null, .null, .null, .null, .null, .null, .null, .null, .null, .null, .null, .null, .null, .null] .null := Arv.set Ar20 q20 S20 M20 H20 G20 rfl W20 1 rfl (Nat.le_of_ble_eq_true rfl)
  have Z23 : n0 ≤ h20.size := Nat.le_trans Z14 (Keep.of_wr W20).1
  have K24 : Keep h0 h20 [] := K15.wr W20 (Or.inr sz_ba)
  obtain ⟨LL20, X20, N20⟩ := own_gen X20 (Fr.snoc X20 N11 g_ba)
  have P25 : ∀ t, Steps p.tables e below (T20.setTop (mkF m 17 #[.val (.int p1), .unset, .unset, .unset] [(.ref ba)])) t → Steps p.tables e below (s₁.setTop (entryFrame m #[(.int p1)] maxLocals)) t := fun t k => P19 _ (st20 _ k)
  have P26 : ∀ t, Steps p.tables e below (T20.setTop (mkF m 19 #[.val (.int p1), .unset, .unset, .unset] [(.int (2 : Int32)), (.ref ba), (.ref ba)])) t → Steps p.tables e below (s₁.setTop (entryFrame m #[(.int p1)] maxLocals)) t := by
    intro t k
    refine P25 _ ?_
    refine XS.dup X20.here hx rfl (hb hby at_17) rfl rfl ?_
    show Steps p.tables e below (T20.setTop (mkF m 18 #[.val (.int p1), .unset, .unset, .unset] [(.ref ba), (.ref ba)])) _
    refine XS.iconst X20.here hx rfl (hb hby at_18) ?_
    show Steps p.tables e below (T20.setTop (mkF m 19 #[.val (.int p1), .unset, .unset, .unset] [(.int (2 : Int32)), (.ref ba), (.ref ba)])) _
    exact k
  obtain ⟨T27, X27, e27, st27⟩ := getS2 X20 hx hZ hown (host := "") (Or.inl (hw _ (List.mem_of_getElem? (i := 8) rfl))) Via.refl e20 (S_TIMES.ext F21.2) (g := (mkF m 19 #[.val (.int p1), .unset, .unset, .unset] [(.int (2 : Int32)), (.ref ba), (.ref ba)])) rfl (hb hby at_19)
  have P28 : ∀ t, Steps p.tables e below (T27.setTop (mkF m 22 #[.val (.int p1), .unset, .unset, .unset] [(.ref w_TIMES), (.int (2 : Int32)), (.ref ba), (.ref ba)])) t → Steps p.tables e below (s₁.setTop (entryFrame m #[(.int p1)] maxLocals)) t := fun t k => P26 _ (st27 _ k)
  obtain ⟨cl29, Ar29, q29, S29, M29, H29, G29⟩ := F22
  have in29 : ¬ ((2 : Int32) < 0 ∨ cl29.slots.size ≤ ((2 : Int32)).toNatClampNeg) := inb_of S29 ⟨by decide, by decide⟩
  have so29 : Sto Z h20 ba (.ref w_TIMES) := Sto.ofV Ar29 q29 ov_ba (Ins.self (E_TIMES.ext F21.2))
  obtain ⟨T29, h29, X29, e29, W29, st29⟩ := stR X27 hx hZ e27 Ar29 (j := (2 : Int32)) in29 rfl so29 (g := (mkF m 22 #[.val (.int p1), .unset, .unset, .unset] [(.ref w_TIMES), (.int (2 : Int32)), (.ref ba), (.ref ba)])) rfl rfl (hb hby at_22)
  have F30 : Old Z n0 h29 := F21.wr W29 g_ba
  have F31 : Arv Z h29 ba kc_ba (.object "com/example/prudent_checker/prudentchecker/smv/Operator") (31 : Int32) [(.ref w_NOT), (.ref w_NEGATE), (.ref w_TIMES), .null, .null, .null, .null, .null, .null, .null, .null, .null, .null, .null, .null, .null, .null, .null, .null, .null, .null, .null, .null, .null, .null, .null, .null, .null, .null, .null, .null] .null := Arv.set Ar29 q29 S29 M29 H29 G29 rfl W29 2 rfl (Nat.le_of_ble_eq_true rfl)
  have Z32 : n0 ≤ h29.size := Nat.le_trans Z23 (Keep.of_wr W29).1
  have K33 : Keep h0 h29 [] := K24.wr W29 (Or.inr sz_ba)
  obtain ⟨LL29, X29, N29⟩ := own_gen X29 (Fr.snoc X29 N20 g_ba)
  have P34 : ∀ t, Steps p.tables e below (T29.setTop (mkF m 23 #[.val (.int p1), .unset, .unset, .unset] [(.ref ba)])) t → Steps p.tables e below (s₁.setTop (entryFrame m #[(.int p1)] maxLocals)) t := fun t k => P28 _ (st29 _ k)
  have P35 : ∀ t, Steps p.tables e below (T29.setTop (mkF m 25 #[.val (.int p1), .unset, .unset, .unset] [(.int (3 : Int32)), (.ref ba), (.ref ba)])) t → Steps p.tables e below (s₁.setTop (entryFrame m #[(.int p1)] maxLocals)) t := by
    intro t k
    refine P34 _ ?_
    refine XS.dup X29.here hx rfl (hb hby at_23) rfl rfl ?_
    show Steps p.tables e below (T29.setTop (mkF m 24 #[.val (.int p1), .unset, .unset, .unset] [(.ref ba), (.ref ba)])) _
    refine XS.iconst X29.here hx rfl (hb hby at_24) ?_
    show Steps p.tables e below (T29.setTop (mkF m 25 #[.val (.int p1), .unset, .unset, .unset] [(.int (3 : Int32)), (.ref ba), (.ref ba)])) _
    exact k
  obtain ⟨T36, X36, e36, st36⟩ := getS2 X29 hx hZ hown (host := "") (Or.inl (hw _ (List.mem_of_getElem? (i := 10) rfl))) Via.refl e29 (S_DIVIDE.ext F30.2) (g := (mkF m 25 #[.val (.int p1), .unset, .unset, .unset] [(.int (3 : Int32)), (.ref ba), (.ref ba)])) rfl (hb hby at_25)
  have P37 : ∀ t, Steps p.tables e below (T36.setTop (mkF m 28 #[.val (.int p1), .unset, .unset, .unset] [(.ref w_DIVIDE), (.int (3 : Int32)), (.ref ba), (.ref ba)])) t → Steps p.tables e below (s₁.setTop (entryFrame m #[(.int p1)] maxLocals)) t := fun t k => P35 _ (st36 _ k)
  obtain ⟨cl38, Ar38, q38, S38, M38, H38, G38⟩ := F31
  have in38 : ¬ ((3 : Int32) < 0 ∨ cl38.slots.size ≤ ((3 : Int32)).toNatClampNeg) := inb_of S38 ⟨by decide, by decide⟩
  have so38 : Sto Z h29 ba (.ref w_DIVIDE) := Sto.ofV Ar38 q38 ov_ba (Ins.self (E_DIVIDE.ext F30.2))
  obtain ⟨T38, h38, X38, e38, W38, st38⟩ := stR X36 hx hZ e36 Ar38 (j := (3 : Int32)) in38 rfl so38 (g := (mkF m 28 #[.val (.int p1), .unset, .unset, .unset] [(.ref w_DIVIDE), (.int (3 : Int32)), (.ref ba), (.ref ba)])) rfl rfl (hb hby at_28)
  have F39 : Old Z n0 h38 := F30.wr W38 g_ba
  have F40 : Arv Z h38 ba kc_ba (.object "com/example/prudent_checker/prudentchecker/smv/Operator") (31 : Int32) [(.ref w_NOT), (.ref w_NEGATE), (.ref w_TIMES), (.ref w_DIVIDE), .null, .null, .null, .null, .null, .null, .null, .null, .null, .null, .null, .null, .null, .null, .null, .null, .null, .null, .null, .null, .null, .null, .null, .null, .null, .null, .null] .null := Arv.set Ar38 q38 S38 M38 H38 G38 rfl W38 3 rfl (Nat.le_of_ble_eq_true rfl)
  have Z41 : n0 ≤ h38.size := Nat.le_trans Z32 (Keep.of_wr W38).1
  have K42 : Keep h0 h38 [] := K33.wr W38 (Or.inr sz_ba)
  obtain ⟨LL38, X38, N38⟩ := own_gen X38 (Fr.snoc X38 N29 g_ba)
  have P43 : ∀ t, Steps p.tables e below (T38.setTop (mkF m 29 #[.val (.int p1), .unset, .unset, .unset] [(.ref ba)])) t → Steps p.tables e below (s₁.setTop (entryFrame m #[(.int p1)] maxLocals)) t := fun t k => P37 _ (st38 _ k)
  have P44 : ∀ t, Steps p.tables e below (T38.setTop (mkF m 31 #[.val (.int p1), .unset, .unset, .unset] [(.int (4 : Int32)), (.ref ba), (.ref ba)])) t → Steps p.tables e below (s₁.setTop (entryFrame m #[(.int p1)] maxLocals)) t := by
    intro t k
    refine P43 _ ?_
    refine XS.dup X38.here hx rfl (hb hby at_29) rfl rfl ?_
    show Steps p.tables e below (T38.setTop (mkF m 30 #[.val (.int p1), .unset, .unset, .unset] [(.ref ba), (.ref ba)])) _
    refine XS.iconst X38.here hx rfl (hb hby at_30) ?_
    show Steps p.tables e below (T38.setTop (mkF m 31 #[.val (.int p1), .unset, .unset, .unset] [(.int (4 : Int32)), (.ref ba), (.ref ba)])) _
    exact k
  obtain ⟨T45, X45, e45, st45⟩ := getS2 X38 hx hZ hown (host := "") (Or.inl (hw _ (List.mem_of_getElem? (i := 12) rfl))) Via.refl e38 (S_MOD.ext F39.2) (g := (mkF m 31 #[.val (.int p1), .unset, .unset, .unset] [(.int (4 : Int32)), (.ref ba), (.ref ba)])) rfl (hb hby at_31)
  have P46 : ∀ t, Steps p.tables e below (T45.setTop (mkF m 34 #[.val (.int p1), .unset, .unset, .unset] [(.ref w_MOD), (.int (4 : Int32)), (.ref ba), (.ref ba)])) t → Steps p.tables e below (s₁.setTop (entryFrame m #[(.int p1)] maxLocals)) t := fun t k => P44 _ (st45 _ k)
  obtain ⟨cl47, Ar47, q47, S47, M47, H47, G47⟩ := F40
  have in47 : ¬ ((4 : Int32) < 0 ∨ cl47.slots.size ≤ ((4 : Int32)).toNatClampNeg) := inb_of S47 ⟨by decide, by decide⟩
  have so47 : Sto Z h38 ba (.ref w_MOD) := Sto.ofV Ar47 q47 ov_ba (Ins.self (E_MOD.ext F39.2))
  obtain ⟨T47, h47, X47, e47, W47, st47⟩ := stR X45 hx hZ e45 Ar47 (j := (4 : Int32)) in47 rfl so47 (g := (mkF m 34 #[.val (.int p1), .unset, .unset, .unset] [(.ref w_MOD), (.int (4 : Int32)), (.ref ba), (.ref ba)])) rfl rfl (hb hby at_34)
  have F48 : Old Z n0 h47 := F39.wr W47 g_ba
  have F49 : Arv Z h47 ba kc_ba (.object "com/example/prudent_checker/prudentchecker/smv/Operator") (31 : Int32) [(.ref w_NOT), (.ref w_NEGATE), (.ref w_TIMES), (.ref w_DIVIDE), (.ref w_MOD), .null, .null, .null, .null, .null, .null, .null, .null, .null, .null, .null, .null, .null, .null, .null, .null, .null, .null, .null, .null, .null, .null, .null, .null, .null, .null] .null := Arv.set Ar47 q47 S47 M47 H47 G47 rfl W47 4 rfl (Nat.le_of_ble_eq_true rfl)
  have Z50 : n0 ≤ h47.size := Nat.le_trans Z41 (Keep.of_wr W47).1
  have K51 : Keep h0 h47 [] := K42.wr W47 (Or.inr sz_ba)
  obtain ⟨LL47, X47, N47⟩ := own_gen X47 (Fr.snoc X47 N38 g_ba)
  have P52 : ∀ t, Steps p.tables e below (T47.setTop (mkF m 35 #[.val (.int p1), .unset, .unset, .unset] [(.ref ba)])) t → Steps p.tables e below (s₁.setTop (entryFrame m #[(.int p1)] maxLocals)) t := fun t k => P46 _ (st47 _ k)
  have P53 : ∀ t, Steps p.tables e below (T47.setTop (mkF m 37 #[.val (.int p1), .unset, .unset, .unset] [(.int (5 : Int32)), (.ref ba), (.ref ba)])) t → Steps p.tables e below (s₁.setTop (entryFrame m #[(.int p1)] maxLocals)) t := by
    intro t k
    refine P52 _ ?_
    refine XS.dup X47.here hx rfl (hb hby at_35) rfl rfl ?_
    show Steps p.tables e below (T47.setTop (mkF m 36 #[.val (.int p1), .unset, .unset, .unset] [(.ref ba), (.ref ba)])) _
    refine XS.iconst X47.here hx rfl (hb hby at_36) ?_
    show Steps p.tables e below (T47.setTop (mkF m 37 #[.val (.int p1), .unset, .unset, .unset] [(.int (5 : Int32)), (.ref ba), (.ref ba)])) _
    exact k
  obtain ⟨T54, X54, e54, st54⟩ := getS2 X47 hx hZ hown (host := "") (Or.inl (hw _ (List.mem_of_getElem? (i := 14) rfl))) Via.refl e47 (S_PLUS.ext F48.2) (g := (mkF m 37 #[.val (.int p1), .unset, .unset, .unset] [(.int (5 : Int32)), (.ref ba), (.ref ba)])) rfl (hb hby at_37)
  have P55 : ∀ t, Steps p.tables e below (T54.setTop (mkF m 40 #[.val (.int p1), .unset, .unset, .unset] [(.ref w_PLUS), (.int (5 : Int32)), (.ref ba), (.ref ba)])) t → Steps p.tables e below (s₁.setTop (entryFrame m #[(.int p1)] maxLocals)) t := fun t k => P53 _ (st54 _ k)
  obtain ⟨cl56, Ar56, q56, S56, M56, H56, G56⟩ := F49
  have in56 : ¬ ((5 : Int32) < 0 ∨ cl56.slots.size ≤ ((5 : Int32)).toNatClampNeg) := inb_of S56 ⟨by decide, by decide⟩
  have so56 : Sto Z h47 ba (.ref w_PLUS) := Sto.ofV Ar56 q56 ov_ba (Ins.self (E_PLUS.ext F48.2))
  obtain ⟨T56, h56, X56, e56, W56, st56⟩ := stR X54 hx hZ e54 Ar56 (j := (5 : Int32)) in56 rfl so56 (g := (mkF m 40 #[.val (.int p1), .unset, .unset, .unset] [(.ref w_PLUS), (.int (5 : Int32)), (.ref ba), (.ref ba)])) rfl rfl (hb hby at_40)
  have F57 : Old Z n0 h56 := F48.wr W56 g_ba
  have F58 : Arv Z h56 ba kc_ba (.object "com/example/prudent_checker/prudentchecker/smv/Operator") (31 : Int32) [(.ref w_NOT), (.ref w_NEGATE), (.ref w_TIMES), (.ref w_DIVIDE), (.ref w_MOD), (.ref w_PLUS), .null, .null, .null, .null, .null, .null, .null, .null, .null, .null, .null, .null, .null, .null, .null, .null, .null, .null, .null, .null, .null, .null, .null, .null, .null] .null := Arv.set Ar56 q56 S56 M56 H56 G56 rfl W56 5 rfl (Nat.le_of_ble_eq_true rfl)
  have Z59 : n0 ≤ h56.size := Nat.le_trans Z50 (Keep.of_wr W56).1
  have K60 : Keep h0 h56 [] := K51.wr W56 (Or.inr sz_ba)
  obtain ⟨LL56, X56, N56⟩ := own_gen X56 (Fr.snoc X56 N47 g_ba)
  have P61 : ∀ t, Steps p.tables e below (T56.setTop (mkF m 41 #[.val (.int p1), .unset, .unset, .unset] [(.ref ba)])) t → Steps p.tables e below (s₁.setTop (entryFrame m #[(.int p1)] maxLocals)) t := fun t k => P55 _ (st56 _ k)
  have P62 : ∀ t, Steps p.tables e below (T56.setTop (mkF m 44 #[.val (.int p1), .unset, .unset, .unset] [(.int (6 : Int32)), (.ref ba), (.ref ba)])) t → Steps p.tables e below (s₁.setTop (entryFrame m #[(.int p1)] maxLocals)) t := by
    intro t k
    refine P61 _ ?_
    refine XS.dup X56.here hx rfl (hb hby at_41) rfl rfl ?_
    show Steps p.tables e below (T56.setTop (mkF m 42 #[.val (.int p1), .unset, .unset, .unset] [(.ref ba), (.ref ba)])) _
    refine XS.bipush X56.here hx rfl (hb hby at_42) ?_
    show Steps p.tables e below (T56.setTop (mkF m 44 #[.val (.int p1), .unset, .unset, .unset] [(.int (6 : Int32)), (.ref ba), (.ref ba)])) _
    exact k
  obtain ⟨T63, X63, e63, st63⟩ := getS2 X56 hx hZ hown (host := "") (Or.inl (hw _ (List.mem_of_getElem? (i := 16) rfl))) Via.refl e56 (S_MINUS.ext F57.2) (g := (mkF m 44 #[.val (.int p1), .unset, .unset, .unset] [(.int (6 : Int32)), (.ref ba), (.ref ba)])) rfl (hb hby at_44)
  have P64 : ∀ t, Steps p.tables e below (T63.setTop (mkF m 47 #[.val (.int p1), .unset, .unset, .unset] [(.ref w_MINUS), (.int (6 : Int32)), (.ref ba), (.ref ba)])) t → Steps p.tables e below (s₁.setTop (entryFrame m #[(.int p1)] maxLocals)) t := fun t k => P62 _ (st63 _ k)
  obtain ⟨cl65, Ar65, q65, S65, M65, H65, G65⟩ := F58
  have in65 : ¬ ((6 : Int32) < 0 ∨ cl65.slots.size ≤ ((6 : Int32)).toNatClampNeg) := inb_of S65 ⟨by decide, by decide⟩
  have so65 : Sto Z h56 ba (.ref w_MINUS) := Sto.ofV Ar65 q65 ov_ba (Ins.self (E_MINUS.ext F57.2))
  obtain ⟨T65, h65, X65, e65, W65, st65⟩ := stR X63 hx hZ e63 Ar65 (j := (6 : Int32)) in65 rfl so65 (g := (mkF m 47 #[.val (.int p1), .unset, .unset, .unset] [(.ref w_MINUS), (.int (6 : Int32)), (.ref ba), (.ref ba)])) rfl rfl (hb hby at_47)
  have F66 : Old Z n0 h65 := F57.wr W65 g_ba
  have F67 : Arv Z h65 ba kc_ba (.object "com/example/prudent_checker/prudentchecker/smv/Operator") (31 : Int32) [(.ref w_NOT), (.ref w_NEGATE), (.ref w_TIMES), (.ref w_DIVIDE), (.ref w_MOD), (.ref w_PLUS), (.ref w_MINUS), .null, .null, .null, .null, .null, .null, .null, .null, .null, .null, .null, .null, .null, .null, .null, .null, .null, .null, .null, .null, .null, .null, .null, .null] .null := Arv.set Ar65 q65 S65 M65 H65 G65 rfl W65 6 rfl (Nat.le_of_ble_eq_true rfl)
  have Z68 : n0 ≤ h65.size := Nat.le_trans Z59 (Keep.of_wr W65).1
  have K69 : Keep h0 h65 [] := K60.wr W65 (Or.inr sz_ba)
  obtain ⟨LL65, X65, N65⟩ := own_gen X65 (Fr.snoc X65 N56 g_ba)
  have P70 : ∀ t, Steps p.tables e below (T65.setTop (mkF m 48 #[.val (.int p1), .unset, .unset, .unset] [(.ref ba)])) t → Steps p.tables e below (s₁.setTop (entryFrame m #[(.int p1)] maxLocals)) t := fun t k => P64 _ (st65 _ k)
  have P71 : ∀ t, Steps p.tables e below (T65.setTop (mkF m 51 #[.val (.int p1), .unset, .unset, .unset] [(.int (7 : Int32)), (.ref ba), (.ref ba)])) t → Steps p.tables e below (s₁.setTop (entryFrame m #[(.int p1)] maxLocals)) t := by
    intro t k
    refine P70 _ ?_
    refine XS.dup X65.here hx rfl (hb hby at_48) rfl rfl ?_
    show Steps p.tables e below (T65.setTop (mkF m 49 #[.val (.int p1), .unset, .unset, .unset] [(.ref ba), (.ref ba)])) _
    refine XS.bipush X65.here hx rfl (hb hby at_49) ?_
    show Steps p.tables e below (T65.setTop (mkF m 51 #[.val (.int p1), .unset, .unset, .unset] [(.int (7 : Int32)), (.ref ba), (.ref ba)])) _
    exact k
  obtain ⟨T72, X72, e72, st72⟩ := getS2 X65 hx hZ hown (host := "") (Or.inl (hw _ (List.mem_of_getElem? (i := 18) rfl))) Via.refl e65 (S_EQUAL.ext F66.2) (g := (mkF m 51 #[.val (.int p1), .unset, .unset, .unset] [(.int (7 : Int32)), (.ref ba), (.ref ba)])) rfl (hb hby at_51)
  have P73 : ∀ t, Steps p.tables e below (T72.setTop (mkF m 54 #[.val (.int p1), .unset, .unset, .unset] [(.ref w_EQUAL), (.int (7 : Int32)), (.ref ba), (.ref ba)])) t → Steps p.tables e below (s₁.setTop (entryFrame m #[(.int p1)] maxLocals)) t := fun t k => P71 _ (st72 _ k)
  obtain ⟨cl74, Ar74, q74, S74, M74, H74, G74⟩ := F67
  have in74 : ¬ ((7 : Int32) < 0 ∨ cl74.slots.size ≤ ((7 : Int32)).toNatClampNeg) := inb_of S74 ⟨by decide, by decide⟩
  have so74 : Sto Z h65 ba (.ref w_EQUAL) := Sto.ofV Ar74 q74 ov_ba (Ins.self (E_EQUAL.ext F66.2))
  obtain ⟨T74, h74, X74, e74, W74, st74⟩ := stR X72 hx hZ e72 Ar74 (j := (7 : Int32)) in74 rfl so74 (g := (mkF m 54 #[.val (.int p1), .unset, .unset, .unset] [(.ref w_EQUAL), (.int (7 : Int32)), (.ref ba), (.ref ba)])) rfl rfl (hb hby at_54)
  have F75 : Old Z n0 h74 := F66.wr W74 g_ba
  have F76 : Arv Z h74 ba kc_ba (.object "com/example/prudent_checker/prudentchecker/smv/Operator") (31 : Int32) [(.ref w_NOT), (.ref w_NEGATE), (.ref w_TIMES), (.ref w_DIVIDE), (.ref w_MOD), (.ref w_PLUS), (.ref w_MINUS), (.ref w_EQUAL), .null, .null, .null, .null, .null, .null, .null, .null, .null, .null, .null, .null, .null, .null, .null, .null, .null, .null, .null, .null, .null, .null, .null] .null := Arv.set Ar74 q74 S74 M74 H74 G74 rfl W74 7 rfl (Nat.le_of_ble_eq_true rfl)
  have Z77 : n0 ≤ h74.size := Nat.le_trans Z68 (Keep.of_wr W74).1
  have K78 : Keep h0 h74 [] := K69.wr W74 (Or.inr sz_ba)
  obtain ⟨LL74, X74, N74⟩ := own_gen X74 (Fr.snoc X74 N65 g_ba)
  have P79 : ∀ t, Steps p.tables e below (T74.setTop (mkF m 55 #[.val (.int p1), .unset, .unset, .unset] [(.ref ba)])) t → Steps p.tables e below (s₁.setTop (entryFrame m #[(.int p1)] maxLocals)) t := fun t k => P73 _ (st74 _ k)
  have P80 : ∀ t, Steps p.tables e below (T74.setTop (mkF m 58 #[.val (.int p1), .unset, .unset, .unset] [(.int (8 : Int32)), (.ref ba), (.ref ba)])) t → Steps p.tables e below (s₁.setTop (entryFrame m #[(.int p1)] maxLocals)) t := by
    intro t k
    refine P79 _ ?_
    refine XS.dup X74.here hx rfl (hb hby at_55) rfl rfl ?_
    show Steps p.tables e below (T74.setTop (mkF m 56 #[.val (.int p1), .unset, .unset, .unset] [(.ref ba), (.ref ba)])) _
    refine XS.bipush X74.here hx rfl (hb hby at_56) ?_
    show Steps p.tables e below (T74.setTop (mkF m 58 #[.val (.int p1), .unset, .unset, .unset] [(.int (8 : Int32)), (.ref ba), (.ref ba)])) _
    exact k
  obtain ⟨T81, X81, e81, st81⟩ := getS2 X74 hx hZ hown (host := "") (Or.inl (hw _ (List.mem_of_getElem? (i := 20) rfl))) Via.refl e74 (S_NOT_EQUAL.ext F75.2) (g := (mkF m 58 #[.val (.int p1), .unset, .unset, .unset] [(.int (8 : Int32)), (.ref ba), (.ref ba)])) rfl (hb hby at_58)
  have P82 : ∀ t, Steps p.tables e below (T81.setTop (mkF m 61 #[.val (.int p1), .unset, .unset, .unset] [(.ref w_NOT_EQUAL), (.int (8 : Int32)), (.ref ba), (.ref ba)])) t → Steps p.tables e below (s₁.setTop (entryFrame m #[(.int p1)] maxLocals)) t := fun t k => P80 _ (st81 _ k)
  obtain ⟨cl83, Ar83, q83, S83, M83, H83, G83⟩ := F76
  have in83 : ¬ ((8 : Int32) < 0 ∨ cl83.slots.size ≤ ((8 : Int32)).toNatClampNeg) := inb_of S83 ⟨by decide, by decide⟩
  have so83 : Sto Z h74 ba (.ref w_NOT_EQUAL) := Sto.ofV Ar83 q83 ov_ba (Ins.self (E_NOT_EQUAL.ext F75.2))
  obtain ⟨T83, h83, X83, e83, W83, st83⟩ := stR X81 hx hZ e81 Ar83 (j := (8 : Int32)) in83 rfl so83 (g := (mkF m 61 #[.val (.int p1), .unset, .unset, .unset] [(.ref w_NOT_EQUAL), (.int (8 : Int32)), (.ref ba), (.ref ba)])) rfl rfl (hb hby at_61)
  have F84 : Old Z n0 h83 := F75.wr W83 g_ba
  have F85 : Arv Z h83 ba kc_ba (.object "com/example/prudent_checker/prudentchecker/smv/Operator") (31 : Int32) [(.ref w_NOT), (.ref w_NEGATE), (.ref w_TIMES), (.ref w_DIVIDE), (.ref w_MOD), (.ref w_PLUS), (.ref w_MINUS), (.ref w_EQUAL), (.ref w_NOT_EQUAL), .null, .null, .null, .null, .null, .null, .null, .null, .null, .null, .null, .null, .null, .null, .null, .null, .null, .null, .null, .null, .null, .null] .null := Arv.set Ar83 q83 S83 M83 H83 G83 rfl W83 8 rfl (Nat.le_of_ble_eq_true rfl)
  have Z86 : n0 ≤ h83.size := Nat.le_trans Z77 (Keep.of_wr W83).1
  have K87 : Keep h0 h83 [] := K78.wr W83 (Or.inr sz_ba)
  obtain ⟨LL83, X83, N83⟩ := own_gen X83 (Fr.snoc X83 N74 g_ba)
  have P88 : ∀ t, Steps p.tables e below (T83.setTop (mkF m 62 #[.val (.int p1), .unset, .unset, .unset] [(.ref ba)])) t → Steps p.tables e below (s₁.setTop (entryFrame m #[(.int p1)] maxLocals)) t := fun t k => P82 _ (st83 _ k)
  have P89 : ∀ t, Steps p.tables e below (T83.setTop (mkF m 65 #[.val (.int p1), .unset, .unset, .unset] [(.int (9 : Int32)), (.ref ba), (.ref ba)])) t → Steps p.tables e below (s₁.setTop (entryFrame m #[(.int p1)] maxLocals)) t := by
    intro t k
    refine P88 _ ?_
    refine XS.dup X83.here hx rfl (hb hby at_62) rfl rfl ?_
    show Steps p.tables e below (T83.setTop (mkF m 63 #[.val (.int p1), .unset, .unset, .unset] [(.ref ba), (.ref ba)])) _
    refine XS.bipush X83.here hx rfl (hb hby at_63) ?_
    show Steps p.tables e below (T83.setTop (mkF m 65 #[.val (.int p1), .unset, .unset, .unset] [(.int (9 : Int32)), (.ref ba), (.ref ba)])) _
    exact k
  obtain ⟨T90, X90, e90, st90⟩ := getS2 X83 hx hZ hown (host := "") (Or.inl (hw _ (List.mem_of_getElem? (i := 22) rfl))) Via.refl e83 (S_LESS.ext F84.2) (g := (mkF m 65 #[.val (.int p1), .unset, .unset, .unset] [(.int (9 : Int32)), (.ref ba), (.ref ba)])) rfl (hb hby at_65)
  have P91 : ∀ t, Steps p.tables e below (T90.setTop (mkF m 68 #[.val (.int p1), .unset, .unset, .unset] [(.ref w_LESS), (.int (9 : Int32)), (.ref ba), (.ref ba)])) t → Steps p.tables e below (s₁.setTop (entryFrame m #[(.int p1)] maxLocals)) t := fun t k => P89 _ (st90 _ k)
  obtain ⟨cl92, Ar92, q92, S92, M92, H92, G92⟩ := F85
  have in92 : ¬ ((9 : Int32) < 0 ∨ cl92.slots.size ≤ ((9 : Int32)).toNatClampNeg) := inb_of S92 ⟨by decide, by decide⟩
  have so92 : Sto Z h83 ba (.ref w_LESS) := Sto.ofV Ar92 q92 ov_ba (Ins.self (E_LESS.ext F84.2))
  obtain ⟨T92, h92, X92, e92, W92, st92⟩ := stR X90 hx hZ e90 Ar92 (j := (9 : Int32)) in92 rfl so92 (g := (mkF m 68 #[.val (.int p1), .unset, .unset, .unset] [(.ref w_LESS), (.int (9 : Int32)), (.ref ba), (.ref ba)])) rfl rfl (hb hby at_68)
  have F93 : Old Z n0 h92 := F84.wr W92 g_ba
  have F94 : Arv Z h92 ba kc_ba (.object "com/example/prudent_checker/prudentchecker/smv/Operator") (31 : Int32) [(.ref w_NOT), (.ref w_NEGATE), (.ref w_TIMES), (.ref w_DIVIDE), (.ref w_MOD), (.ref w_PLUS), (.ref w_MINUS), (.ref w_EQUAL), (.ref w_NOT_EQUAL), (.ref w_LESS), .null, .null, .null, .null, .null, .null, .null, .null, .null, .null, .null, .null, .null, .null, .null, .null, .null, .null, .null, .null, .null] .null := Arv.set Ar92 q92 S92 M92 H92 G92 rfl W92 9 rfl (Nat.le_of_ble_eq_true rfl)
  have Z95 : n0 ≤ h92.size := Nat.le_trans Z86 (Keep.of_wr W92).1
  have K96 : Keep h0 h92 [] := K87.wr W92 (Or.inr sz_ba)
  obtain ⟨LL92, X92, N92⟩ := own_gen X92 (Fr.snoc X92 N83 g_ba)
  have P97 : ∀ t, Steps p.tables e below (T92.setTop (mkF m 69 #[.val (.int p1), .unset, .unset, .unset] [(.ref ba)])) t → Steps p.tables e below (s₁.setTop (entryFrame m #[(.int p1)] maxLocals)) t := fun t k => P91 _ (st92 _ k)
  have P98 : ∀ t, Steps p.tables e below (T92.setTop (mkF m 72 #[.val (.int p1), .unset, .unset, .unset] [(.int (10 : Int32)), (.ref ba), (.ref ba)])) t → Steps p.tables e below (s₁.setTop (entryFrame m #[(.int p1)] maxLocals)) t := by
    intro t k
    refine P97 _ ?_
    refine XS.dup X92.here hx rfl (hb hby at_69) rfl rfl ?_
    show Steps p.tables e below (T92.setTop (mkF m 70 #[.val (.int p1), .unset, .unset, .unset] [(.ref ba), (.ref ba)])) _
    refine XS.bipush X92.here hx rfl (hb hby at_70) ?_
    show Steps p.tables e below (T92.setTop (mkF m 72 #[.val (.int p1), .unset, .unset, .unset] [(.int (10 : Int32)), (.ref ba), (.ref ba)])) _
    exact k
  obtain ⟨T99, X99, e99, st99⟩ := getS2 X92 hx hZ hown (host := "") (Or.inl (hw _ (List.mem_of_getElem? (i := 24) rfl))) Via.refl e92 (S_LESS_EQUAL.ext F93.2) (g := (mkF m 72 #[.val (.int p1), .unset, .unset, .unset] [(.int (10 : Int32)), (.ref ba), (.ref ba)])) rfl (hb hby at_72)
  have P100 : ∀ t, Steps p.tables e below (T99.setTop (mkF m 75 #[.val (.int p1), .unset, .unset, .unset] [(.ref w_LESS_EQUAL), (.int (10 : Int32)), (.ref ba), (.ref ba)])) t → Steps p.tables e below (s₁.setTop (entryFrame m #[(.int p1)] maxLocals)) t := fun t k => P98 _ (st99 _ k)
  obtain ⟨cl101, Ar101, q101, S101, M101, H101, G101⟩ := F94
  have in101 : ¬ ((10 : Int32) < 0 ∨ cl101.slots.size ≤ ((10 : Int32)).toNatClampNeg) := inb_of S101 ⟨by decide, by decide⟩
  have so101 : Sto Z h92 ba (.ref w_LESS_EQUAL) := Sto.ofV Ar101 q101 ov_ba (Ins.self (E_LESS_EQUAL.ext F93.2))
  obtain ⟨T101, h101, X101, e101, W101, st101⟩ := stR X99 hx hZ e99 Ar101 (j := (10 : Int32)) in101 rfl so101 (g := (mkF m 75 #[.val (.int p1), .unset, .unset, .unset] [(.ref w_LESS_EQUAL), (.int (10 : Int32)), (.ref ba), (.ref ba)])) rfl rfl (hb hby at_75)
  have F102 : Old Z n0 h101 := F93.wr W101 g_ba
  have F103 : Arv Z h101 ba kc_ba (.object "com/example/prudent_checker/prudentchecker/smv/Operator") (31 : Int32) [(.ref w_NOT), (.ref w_NEGATE), (.ref w_TIMES), (.ref w_DIVIDE), (.ref w_MOD), (.ref w_PLUS), (.ref w_MINUS), (.ref w_EQUAL), (.ref w_NOT_EQUAL), (.ref w_LESS), (.ref w_LESS_EQUAL), .null, .null, .null, .null, .null, .null, .null, .null, .null, .null, .null, .null, .null, .null, .null, .null, .null, .null, .null, .null] .null := Arv.set Ar101 q101 S101 M101 H101 G101 rfl W101 10 rfl (Nat.le_of_ble_eq_true rfl)
  have Z104 : n0 ≤ h101.size := Nat.le_trans Z95 (Keep.of_wr W101).1
  have K105 : Keep h0 h101 [] := K96.wr W101 (Or.inr sz_ba)
  obtain ⟨LL101, X101, N101⟩ := own_gen X101 (Fr.snoc X101 N92 g_ba)
  have P106 : ∀ t, Steps p.tables e below (T101.setTop (mkF m 76 #[.val (.int p1), .unset, .unset, .unset] [(.ref ba)])) t → Steps p.tables e below (s₁.setTop (entryFrame m #[(.int p1)] maxLocals)) t := fun t k => P100 _ (st101 _ k)
  have P107 : ∀ t, Steps p.tables e below (T101.setTop (mkF m 79 #[.val (.int p1), .unset, .unset, .unset] [(.int (11 : Int32)), (.ref ba), (.ref ba)])) t → Steps p.tables e below (s₁.setTop (entryFrame m #[(.int p1)] maxLocals)) t := by
    intro t k
    refine P106 _ ?_
    refine XS.dup X101.here hx rfl (hb hby at_76) rfl rfl ?_
    show Steps p.tables e below (T101.setTop (mkF m 77 #[.val (.int p1), .unset, .unset, .unset] [(.ref ba), (.ref ba)])) _
    refine XS.bipush X101.here hx rfl (hb hby at_77) ?_
    show Steps p.tables e below (T101.setTop (mkF m 79 #[.val (.int p1), .unset, .unset, .unset] [(.int (11 : Int32)), (.ref ba), (.ref ba)])) _
    exact k
  obtain ⟨T108, X108, e108, st108⟩ := getS2 X101 hx hZ hown (host := "") (Or.inl (hw _ (List.mem_of_getElem? (i := 26) rfl))) Via.refl e101 (S_GREATER.ext F102.2) (g := (mkF m 79 #[.val (.int p1), .unset, .unset, .unset] [(.int (11 : Int32)), (.ref ba), (.ref ba)])) rfl (hb hby at_79)
  have P109 : ∀ t, Steps p.tables e below (T108.setTop (mkF m 82 #[.val (.int p1), .unset, .unset, .unset] [(.ref w_GREATER), (.int (11 : Int32)), (.ref ba), (.ref ba)])) t → Steps p.tables e below (s₁.setTop (entryFrame m #[(.int p1)] maxLocals)) t := fun t k => P107 _ (st108 _ k)
  obtain ⟨cl110, Ar110, q110, S110, M110, H110, G110⟩ := F103
  have in110 : ¬ ((11 : Int32) < 0 ∨ cl110.slots.size ≤ ((11 : Int32)).toNatClampNeg) := inb_of S110 ⟨by decide, by decide⟩
  have so110 : Sto Z h101 ba (.ref w_GREATER) := Sto.ofV Ar110 q110 ov_ba (Ins.self (E_GREATER.ext F102.2))
  obtain ⟨T110, h110, X110, e110, W110, st110⟩ := stR X108 hx hZ e108 Ar110 (j := (11 : Int32)) in110 rfl so110 (g := (mkF m 82 #[.val (.int p1), .unset, .unset, .unset] [(.ref w_GREATER), (.int (11 : Int32)), (.ref ba), (.ref ba)])) rfl rfl (hb hby at_82)
  have F111 : Old Z n0 h110 := F102.wr W110 g_ba
  have F112 : Arv Z h110 ba kc_ba (.object "com/example/prudent_checker/prudentchecker/smv/Operator") (31 : Int32) [(.ref w_NOT), (.ref w_NEGATE), (.ref w_TIMES), (.ref w_DIVIDE), (.ref w_MOD), (.ref w_PLUS), (.ref w_MINUS), (.ref w_EQUAL), (.ref w_NOT_EQUAL), (.ref w_LESS), (.ref w_LESS_EQUAL), (.ref w_GREATER), .null, .null, .null, .null, .null, .null, .null, .null, .null, .null, .null, .null, .null, .null, .null, .null, .null, .null, .null] .null := Arv.set Ar110 q110 S110 M110 H110 G110 rfl W110 11 rfl (Nat.le_of_ble_eq_true rfl)
  have Z113 : n0 ≤ h110.size := Nat.le_trans Z104 (Keep.of_wr W110).1
  have K114 : Keep h0 h110 [] := K105.wr W110 (Or.inr sz_ba)
  obtain ⟨LL110, X110, N110⟩ := own_gen X110 (Fr.snoc X110 N101 g_ba)
  have P115 : ∀ t, Steps p.tables e below (T110.setTop (mkF m 83 #[.val (.int p1), .unset, .unset, .unset] [(.ref ba)])) t → Steps p.tables e below (s₁.setTop (entryFrame m #[(.int p1)] maxLocals)) t := fun t k => P109 _ (st110 _ k)
  have P116 : ∀ t, Steps p.tables e below (T110.setTop (mkF m 86 #[.val (.int p1), .unset, .unset, .unset] [(.int (12 : Int32)), (.ref ba), (.ref ba)])) t → Steps p.tables e below (s₁.setTop (entryFrame m #[(.int p1)] maxLocals)) t := by
    intro t k
    refine P115 _ ?_
    refine XS.dup X110.here hx rfl (hb hby at_83) rfl rfl ?_
    show Steps p.tables e below (T110.setTop (mkF m 84 #[.val (.int p1), .unset, .unset, .unset] [(.ref ba), (.ref ba)])) _
    refine XS.bipush X110.here hx rfl (hb hby at_84) ?_
    show Steps p.tables e below (T110.setTop (mkF m 86 #[.val (.int p1), .unset, .unset, .unset] [(.int (12 : Int32)), (.ref ba), (.ref ba)])) _
    exact k
  obtain ⟨T117, X117, e117, st117⟩ := getS2 X110 hx hZ hown (host := "") (Or.inl (hw _ (List.mem_of_getElem? (i := 28) rfl))) Via.refl e110 (S_GREATER_EQUAL.ext F111.2) (g := (mkF m 86 #[.val (.int p1), .unset, .unset, .unset] [(.int (12 : Int32)), (.ref ba), (.ref ba)])) rfl (hb hby at_86)
  have P118 : ∀ t, Steps p.tables e below (T117.setTop (mkF m 89 #[.val (.int p1), .unset, .unset, .unset] [(.ref w_GREATER_EQUAL), (.int (12 : Int32)), (.ref ba), (.ref ba)])) t → Steps p.tables e below (s₁.setTop (entryFrame m #[(.int p1)] maxLocals)) t := fun t k => P116 _ (st117 _ k)
  obtain ⟨cl119, Ar119, q119, S119, M119, H119, G119⟩ := F112
  have in119 : ¬ ((12 : Int32) < 0 ∨ cl119.slots.size ≤ ((12 : Int32)).toNatClampNeg) := inb_of S119 ⟨by decide, by decide⟩
  have so119 : Sto Z h110 ba (.ref w_GREATER_EQUAL) := Sto.ofV Ar119 q119 ov_ba (Ins.self (E_GREATER_EQUAL.ext F111.2))
  obtain ⟨T119, h119, X119, e119, W119, st119⟩ := stR X117 hx hZ e117 Ar119 (j := (12 : Int32)) in119 rfl so119 (g := (mkF m 89 #[.val (.int p1), .unset, .unset, .unset] [(.ref w_GREATER_EQUAL), (.int (12 : Int32)), (.ref ba), (.ref ba)])) rfl rfl (hb hby at_89)
  have F120 : Old Z n0 h119 := F111.wr W119 g_ba
  have F121 : Arv Z h119 ba kc_ba (.object "com/example/prudent_checker/prudentchecker/smv/Operator") (31 : Int32) [(.ref w_NOT), (.ref w_NEGATE), (.ref w_TIMES), (.ref w_DIVIDE), (.ref w_MOD), (.ref w_PLUS), (.ref w_MINUS), (.ref w_EQUAL), (.ref w_NOT_EQUAL), (.ref w_LESS), (.ref w_LESS_EQUAL), (.ref w_GREATER), (.ref w_GREATER_EQUAL), .null, .null, .null, .null, .null, .null, .null, .null, .null, .null, .null, .null, .null, .null, .null, .null, .null, .null] .null := Arv.set Ar119 q119 S119 M119 H119 G119 rfl W119 12 rfl (Nat.le_of_ble_eq_true rfl)
  have Z122 : n0 ≤ h119.size := Nat.le_trans Z113 (Keep.of_wr W119).1
  have K123 : Keep h0 h119 [] := K114.wr W119 (Or.inr sz_ba)
  obtain ⟨LL119, X119, N119⟩ := own_gen X119 (Fr.snoc X119 N110 g_ba)
  have P124 : ∀ t, Steps p.tables e below (T119.setTop (mkF m 90 #[.val (.int p1), .unset, .unset, .unset] [(.ref ba)])) t → Steps p.tables e below (s₁.setTop (entryFrame m #[(.int p1)] maxLocals)) t := fun t k => P118 _ (st119 _ k)
  have P125 : ∀ t, Steps p.tables e below (T119.setTop (mkF m 93 #[.val (.int p1), .unset, .unset, .unset] [(.int (13 : Int32)), (.ref ba), (.ref ba)])) t → Steps p.tables e below (s₁.setTop (entryFrame m #[(.int p1)] maxLocals)) t := by
    intro t k
    refine P124 _ ?_
    refine XS.dup X119.here hx rfl (hb hby at_90) rfl rfl ?_
    show Steps p.tables e below (T119.setTop (mkF m 91 #[.val (.int p1), .unset, .unset, .unset] [(.ref ba), (.ref ba)])) _
    refine XS.bipush X119.here hx rfl (hb hby at_91) ?_
    show Steps p.tables e below (T119.setTop (mkF m 93 #[.val (.int p1), .unset, .unset, .unset] [(.int (13 : Int32)), (.ref ba), (.ref ba)])) _
    exact k
  obtain ⟨T126, X126, e126, st126⟩ := getS2 X119 hx hZ hown (host := "") (Or.inl (hw _ (List.mem_of_getElem? (i := 30) rfl))) Via.refl e119 (S_EX.ext F120.2) (g := (mkF m 93 #[.val (.int p1), .unset, .unset, .unset] [(.int (13 : Int32)), (.ref ba), (.ref ba)])) rfl (hb hby at_93)
  have P127 : ∀ t, Steps p.tables e below (T126.setTop (mkF m 96 #[.val (.int p1), .unset, .unset, .unset] [(.ref w_EX), (.int (13 : Int32)), (.ref ba), (.ref ba)])) t → Steps p.tables e below (s₁.setTop (entryFrame m #[(.int p1)] maxLocals)) t := fun t k => P125 _ (st126 _ k)
  obtain ⟨cl128, Ar128, q128, S128, M128, H128, G128⟩ := F121
  have in128 : ¬ ((13 : Int32) < 0 ∨ cl128.slots.size ≤ ((13 : Int32)).toNatClampNeg) := inb_of S128 ⟨by decide, by decide⟩
  have so128 : Sto Z h119 ba (.ref w_EX) := Sto.ofV Ar128 q128 ov_ba (Ins.self (E_EX.ext F120.2))
  obtain ⟨T128, h128, X128, e128, W128, st128⟩ := stR X126 hx hZ e126 Ar128 (j := (13 : Int32)) in128 rfl so128 (g := (mkF m 96 #[.val (.int p1), .unset, .unset, .unset] [(.ref w_EX), (.int (13 : Int32)), (.ref ba), (.ref ba)])) rfl rfl (hb hby at_96)
  have F129 : Old Z n0 h128 := F120.wr W128 g_ba
  have F130 : Arv Z h128 ba kc_ba (.object "com/example/prudent_checker/prudentchecker/smv/Operator") (31 : Int32) [(.ref w_NOT), (.ref w_NEGATE), (.ref w_TIMES), (.ref w_DIVIDE), (.ref w_MOD), (.ref w_PLUS), (.ref w_MINUS), (.ref w_EQUAL), (.ref w_NOT_EQUAL), (.ref w_LESS), (.ref w_LESS_EQUAL), (.ref w_GREATER), (.ref w_GREATER_EQUAL), (.ref w_EX), .null, .null, .null, .null, .null, .null, .null, .null, .null, .null, .null, .null, .null, .null, .null, .null, .null] .null := Arv.set Ar128 q128 S128 M128 H128 G128 rfl W128 13 rfl (Nat.le_of_ble_eq_true rfl)
  have Z131 : n0 ≤ h128.size := Nat.le_trans Z122 (Keep.of_wr W128).1
  have K132 : Keep h0 h128 [] := K123.wr W128 (Or.inr sz_ba)
  obtain ⟨LL128, X128, N128⟩ := own_gen X128 (Fr.snoc X128 N119 g_ba)
  have P133 : ∀ t, Steps p.tables e below (T128.setTop (mkF m 97 #[.val (.int p1), .unset, .unset, .unset] [(.ref ba)])) t → Steps p.tables e below (s₁.setTop (entryFrame m #[(.int p1)] maxLocals)) t := fun t k => P127 _ (st128 _ k)
  have P134 : ∀ t, Steps p.tables e below (T128.setTop (mkF m 100 #[.val (.int p1), .unset, .unset, .unset] [(.int (14 : Int32)), (.ref ba), (.ref ba)])) t → Steps p.tables e below (s₁.setTop (entryFrame m #[(.int p1)] maxLocals)) t := by
    intro t k
    refine P133 _ ?_
    refine XS.dup X128.here hx rfl (hb hby at_97) rfl rfl ?_
    show Steps p.tables e below (T128.setTop (mkF m 98 #[.val (.int p1), .unset, .unset, .unset] [(.ref ba), (.ref ba)])) _
    refine XS.bipush X128.here hx rfl (hb hby at_98) ?_
    show Steps p.tables e below (T128.setTop (mkF m 100 #[.val (.int p1), .unset, .unset, .unset] [(.int (14 : Int32)), (.ref ba), (.ref ba)])) _
    exact k
  obtain ⟨T135, X135, e135, st135⟩ := getS2 X128 hx hZ hown (host := "") (Or.inl (hw _ (List.mem_of_getElem? (i := 32) rfl))) Via.refl e128 (S_EF.ext F129.2) (g := (mkF m 100 #[.val (.int p1), .unset, .unset, .unset] [(.int (14 : Int32)), (.ref ba), (.ref ba)])) rfl (hb hby at_100)
  have P136 : ∀ t, Steps p.tables e below (T135.setTop (mkF m 103 #[.val (.int p1), .unset, .unset, .unset] [(.ref w_EF), (.int (14 : Int32)), (.ref ba), (.ref ba)])) t → Steps p.tables e below (s₁.setTop (entryFrame m #[(.int p1)] maxLocals)) t := fun t k => P134 _ (st135 _ k)
  obtain ⟨cl137, Ar137, q137, S137, M137, H137, G137⟩ := F130
  have in137 : ¬ ((14 : Int32) < 0 ∨ cl137.slots.size ≤ ((14 : Int32)).toNatClampNeg) := inb_of S137 ⟨by decide, by decide⟩
  have so137 : Sto Z h128 ba (.ref w_EF) := Sto.ofV Ar137 q137 ov_ba (Ins.self (E_EF.ext F129.2))
  obtain ⟨T137, h137, X137, e137, W137, st137⟩ := stR X135 hx hZ e135 Ar137 (j := (14 : Int32)) in137 rfl so137 (g := (mkF m 103 #[.val (.int p1), .unset, .unset, .unset] [(.ref w_EF), (.int (14 : Int32)), (.ref ba), (.ref ba)])) rfl rfl (hb hby at_103)
  have F138 : Old Z n0 h137 := F129.wr W137 g_ba
  have F139 : Arv Z h137 ba kc_ba (.object "com/example/prudent_checker/prudentchecker/smv/Operator") (31 : Int32) [(.ref w_NOT), (.ref w_NEGATE), (.ref w_TIMES), (.ref w_DIVIDE), (.ref w_MOD), (.ref w_PLUS), (.ref w_MINUS), (.ref w_EQUAL), (.ref w_NOT_EQUAL), (.ref w_LESS), (.ref w_LESS_EQUAL), (.ref w_GREATER), (.ref w_GREATER_EQUAL), (.ref w_EX), (.ref w_EF), .null, .null, .null, .null, .null, .null, .null, .null, .null, .null, .null, .null, .null, .null, .null, .null] .null := Arv.set Ar137 q137 S137 M137 H137 G137 rfl W137 14 rfl (Nat.le_of_ble_eq_true rfl)
  have Z140 : n0 ≤ h137.size := Nat.le_trans Z131 (Keep.of_wr W137).1
  have K141 : Keep h0 h137 [] := K132.wr W137 (Or.inr sz_ba)
  obtain ⟨LL137, X137, N137⟩ := own_gen X137 (Fr.snoc X137 N128 g_ba)
  have P142 : ∀ t, Steps p.tables e below (T137.setTop (mkF m 104 #[.val (.int p1), .unset, .unset, .unset] [(.ref ba)])) t → Steps p.tables e below (s₁.setTop (entryFrame m #[(.int p1)] maxLocals)) t := fun t k => P136 _ (st137 _ k)
  have P143 : ∀ t, Steps p.tables e below (T137.setTop (mkF m 107 #[.val (.int p1), .unset, .unset, .unset] [(.int (15 : Int32)), (.ref ba), (.ref ba)])) t → Steps p.tables e below (s₁.setTop (entryFrame m #[(.int p1)] maxLocals)) t := by
    intro t k
    refine P142 _ ?_
    refine XS.dup X137.here hx rfl (hb hby at_104) rfl rfl ?_
    show Steps p.tables e below (T137.setTop (mkF m 105 #[.val (.int p1), .unset, .unset, .unset] [(.ref ba), (.ref ba)])) _
    refine XS.bipush X137.here hx rfl (hb hby at_105) ?_
    show Steps p.tables e below (T137.setTop (mkF m 107 #[.val (.int p1), .unset, .unset, .unset] [(.int (15 : Int32)), (.ref ba), (.ref ba)])) _
    exact k
  obtain ⟨T144, X144, e144, st144⟩ := getS2 X137 hx hZ hown (host := "") (Or.inl (hw _ (List.mem_of_getElem? (i := 34) rfl))) Via.refl e137 (S_EG.ext F138.2) (g := (mkF m 107 #[.val (.int p1), .unset, .unset, .unset] [(.int (15 : Int32)), (.ref ba), (.ref ba)])) rfl (hb hby at_107)
  have P145 : ∀ t, Steps p.tables e below (T144.setTop (mkF m 110 #[.val (.int p1), .unset, .unset, .unset] [(.ref w_EG), (.int (15 : Int32)), (.ref ba), (.ref ba)])) t → Steps p.tables e below (s₁.setTop (entryFrame m #[(.int p1)] maxLocals)) t := fun t k => P143 _ (st144 _ k)
  obtain ⟨cl146, Ar146, q146, S146, M146, H146, G146⟩ := F139
  have in146 : ¬ ((15 : Int32) < 0 ∨ cl146.slots.size ≤ ((15 : Int32)).toNatClampNeg) := inb_of S146 ⟨by decide, by decide⟩
  have so146 : Sto Z h137 ba (.ref w_EG) := Sto.ofV Ar146 q146 ov_ba (Ins.self (E_EG.ext F138.2))
  obtain ⟨T146, h146, X146, e146, W146, st146⟩ := stR X144 hx hZ e144 Ar146 (j := (15 : Int32)) in146 rfl so146 (g := (mkF m 110 #[.val (.int p1), .unset, .unset, .unset] [(.ref w_EG), (.int (15 : Int32)), (.ref ba), (.ref ba)])) rfl rfl (hb hby at_110)
  have F147 : Old Z n0 h146 := F138.wr W146 g_ba
  have F148 : Arv Z h146 ba kc_ba (.object "com/example/prudent_checker/prudentchecker/smv/Operator") (31 : Int32) [(.ref w_NOT), (.ref w_NEGATE), (.ref w_TIMES), (.ref w_DIVIDE), (.ref w_MOD), (.ref w_PLUS), (.ref w_MINUS), (.ref w_EQUAL), (.ref w_NOT_EQUAL), (.ref w_LESS), (.ref w_LESS_EQUAL), (.ref w_GREATER), (.ref w_GREATER_EQUAL), (.ref w_EX), (.ref w_EF), (.ref w_EG), .null, .null, .null, .null, .null, .null, .null, .null, .null, .null, .null, .null, .null, .null, .null] .null := Arv.set Ar146 q146 S146 M146 H146 G146 rfl W146 15 rfl (Nat.le_of_ble_eq_true rfl)
  have Z149 : n0 ≤ h146.size := Nat.le_trans Z140 (Keep.of_wr W146).1
  have K150 : Keep h0 h146 [] := K141.wr W146 (Or.inr sz_ba)
  obtain ⟨LL146, X146, N146⟩ := own_gen X146 (Fr.snoc X146 N137 g_ba)
  have P151 : ∀ t, Steps p.tables e below (T146.setTop (mkF m 111 #[.val (.int p1), .unset, .unset, .unset] [(.ref ba)])) t → Steps p.tables e below (s₁.setTop (entryFrame m #[(.int p1)] maxLocals)) t := fun t k => P145 _ (st146 _ k)
  have P152 : ∀ t, Steps p.tables e below (T146.setTop (mkF m 114 #[.val (.int p1), .unset, .unset, .unset] [(.int (16 : Int32)), (.ref ba), (.ref ba)])) t → Steps p.tables e below (s₁.setTop (entryFrame m #[(.int p1)] maxLocals)) t := by
    intro t k
    refine P151 _ ?_
    refine XS.dup X146.here hx rfl (hb hby at_111) rfl rfl ?_
    show Steps p.tables e below (T146.setTop (mkF m 112 #[.val (.int p1), .unset, .unset, .unset] [(.ref ba), (.ref ba)])) _
    refine XS.bipush X146.here hx rfl (hb hby at_112) ?_
    show Steps p.tables e below (T146.setTop (mkF m 114 #[.val (.int p1), .unset, .unset, .unset] [(.int (16 : Int32)), (.ref ba), (.ref ba)])) _
    exact k
  obtain ⟨T153, X153, e153, st153⟩ := getS2 X146 hx hZ hown (host := "") (Or.inl (hw _ (List.mem_of_getElem? (i := 36) rfl))) Via.refl e146 (S_AX.ext F147.2) (g := (mkF m 114 #[.val (.int p1), .unset, .unset, .unset] [(.int (16 : Int32)), (.ref ba), (.ref ba)])) rfl (hb hby at_114)
  have P154 : ∀ t, Steps p.tables e below (T153.setTop (mkF m 117 #[.val (.int p1), .unset, .unset, .unset] [(.ref w_AX), (.int (16 : Int32)), (.ref ba), (.ref ba)])) t → Steps p.tables e below (s₁.setTop (entryFrame m #[(.int p1)] maxLocals)) t := fun t k => P152 _ (st153 _ k)
  obtain ⟨cl155, Ar155, q155, S155, M155, H155, G155⟩ := F148
  have in155 : ¬ ((16 : Int32) < 0 ∨ cl155.slots.size ≤ ((16 : Int32)).toNatClampNeg) := inb_of S155 ⟨by decide, by decide⟩
  have so155 : Sto Z h146 ba (.ref w_AX) := Sto.ofV Ar155 q155 ov_ba (Ins.self (E_AX.ext F147.2))
  obtain ⟨T155, h155, X155, e155, W155, st155⟩ := stR X153 hx hZ e153 Ar155 (j := (16 : Int32)) in155 rfl so155 (g := (mkF m 117 #[.val (.int p1), .unset, .unset, .unset] [(.ref w_AX), (.int (16 : Int32)), (.ref ba), (.ref ba)])) rfl rfl (hb hby at_117)
  have F156 : Old Z n0 h155 := F147.wr W155 g_ba
  have F157 : Arv Z h155 ba kc_ba (.object "com/example/prudent_checker/prudentchecker/smv/Operator") (31 : Int32) [(.ref w_NOT), (.ref w_NEGATE), (.ref w_TIMES), (.ref w_DIVIDE), (.ref w_MOD), (.ref w_PLUS), (.ref w_MINUS), (.ref w_EQUAL), (.ref w_NOT_EQUAL), (.ref w_LESS), (.ref w_LESS_EQUAL), (.ref w_GREATER), (.ref w_GREATER_EQUAL), (.ref w_EX), (.ref w_EF), (.ref w_EG), (.ref w_AX), .null, .null, .null, .null, .null, .null, .null, .null, .null, .null, .null, .null, .null, .null] .null := Arv.set Ar155 q155 S155 M155 H155 G155 rfl W155 16 rfl (Nat.le_of_ble_eq_true rfl)
  have Z158 : n0 ≤ h155.size := Nat.le_trans Z149 (Keep.of_wr W155).1
  have K159 : Keep h0 h155 [] := K150.wr W155 (Or.inr sz_ba)
  obtain ⟨LL155, X155, N155⟩ := own_gen X155 (Fr.snoc X155 N146 g_ba)
  have P160 : ∀ t, Steps p.tables e below (T155.setTop (mkF m 118 #[.val (.int p1), .unset, .unset, .unset] [(.ref ba)])) t → Steps p.tables e below (s₁.setTop (entryFrame m #[(.int p1)] maxLocals)) t := fun t k => P154 _ (st155 _ k)
  have P161 : ∀ t, Steps p.tables e below (T155.setTop (mkF m 121 #[.val (.int p1), .unset, .unset, .unset] [(.int (17 : Int32)), (.ref ba), (.ref ba)])) t → Steps p.tables e below (s₁.setTop (entryFrame m #[(.int p1)] maxLocals)) t := by
    intro t k
    refine P160 _ ?_
    refine XS.dup X155.here hx rfl (hb hby at_118) rfl rfl ?_
    show Steps p.tables e below (T155.setTop (mkF m 119 #[.val (.int p1), .unset, .unset, .unset] [(.ref ba), (.ref ba)])) _
    refine XS.bipush X155.here hx rfl (hb hby at_119) ?_
    show Steps p.tables e below (T155.setTop (mkF m 121 #[.val (.int p1), .unset, .unset, .unset] [(.int (17 : Int32)), (.ref ba), (.ref ba)])) _
    exact k
  obtain ⟨T162, X162, e162, st162⟩ := getS2 X155 hx hZ hown (host := "") (Or.inl (hw _ (List.mem_of_getElem? (i := 38) rfl))) Via.refl e155 (S_AF.ext F156.2) (g := (mkF m 121 #[.val (.int p1), .unset, .unset, .unset] [(.int (17 : Int32)), (.ref ba), (.ref ba)])) rfl (hb hby at_121)
  have P163 : ∀ t, Steps p.tables e below (T162.setTop (mkF m 124 #[.val (.int p1), .unset, .unset, .unset] [(.ref w_AF), (.int (17 : Int32)), (.ref ba), (.ref ba)])) t → Steps p.tables e below (s₁.setTop (entryFrame m #[(.int p1)] maxLocals)) t := fun t k => P161 _ (st162 _ k)
  obtain ⟨cl164, Ar164, q164, S164, M164, H164, G164⟩ := F157
  have in164 : ¬ ((17 : Int32) < 0 ∨ cl164.slots.size ≤ ((17 : Int32)).toNatClampNeg) := inb_of S164 ⟨by decide, by decide⟩
  have so164 : Sto Z h155 ba (.ref w_AF) := Sto.ofV Ar164 q164 ov_ba (Ins.self (E_AF.ext F156.2))
  obtain ⟨T164, h164, X164, e164, W164, st164⟩ := stR X162 hx hZ e162 Ar164 (j := (17 : Int32)) in164 rfl so164 (g := (mkF m 124 #[.val (.int p1), .unset, .unset, .unset] [(.ref w_AF), (.int (17 : Int32)), (.ref ba), (.ref ba)])) rfl rfl (hb hby at_124)
  have F165 : Old Z n0 h164 := F156.wr W164 g_ba
  have F166 : Arv Z h164 ba kc_ba (.object "com/example/prudent_checker/prudentchecker/smv/Operator") (31 : Int32) [(.ref w_NOT), (.ref w_NEGATE), (.ref w_TIMES), (.ref w_DIVIDE), (.ref w_MOD), (.ref w_PLUS), (.ref w_MINUS), (.ref w_EQUAL), (.ref w_NOT_EQUAL), (.ref w_LESS), (.ref w_LESS_EQUAL), (.ref w_GREATER), (.ref w_GREATER_EQUAL), (.ref w_EX), (.ref w_EF), (.ref w_EG), (.ref w_AX), (.ref w_AF), .null, .null, .null, .null, .null, .null, .null, .null, .null, .null, .null, .null, .null] .null := Arv.set Ar164 q164 S164 M164 H164 G164 rfl W164 17 rfl (Nat.le_of_ble_eq_true rfl)
  have Z167 : n0 ≤ h164.size := Nat.le_trans Z158 (Keep.of_wr W164).1
  have K168 : Keep h0 h164 [] := K159.wr W164 (Or.inr sz_ba)
  obtain ⟨LL164, X164, N164⟩ := own_gen X164 (Fr.snoc X164 N155 g_ba)
  have P169 : ∀ t, Steps p.tables e below (T164.setTop (mkF m 125 #[.val (.int p1), .unset, .unset, .unset] [(.ref ba)])) t → Steps p.tables e below (s₁.setTop (entryFrame m #[(.int p1)] maxLocals)) t := fun t k => P163 _ (st164 _ k)
  have P170 : ∀ t, Steps p.tables e below (T164.setTop (mkF m 128 #[.val (.int p1), .unset, .unset, .unset] [(.int (18 : Int32)), (.ref ba), (.ref ba)])) t → Steps p.tables e below (s₁.setTop (entryFrame m #[(.int p1)] maxLocals)) t := by
    intro t k
    refine P169 _ ?_
    refine XS.dup X164.here hx rfl (hb hby at_125) rfl rfl ?_
    show Steps p.tables e below (T164.setTop (mkF m 126 #[.val (.int p1), .unset, .unset, .unset] [(.ref ba), (.ref ba)])) _
    refine XS.bipush X164.here hx rfl (hb hby at_126) ?_
    show Steps p.tables e below (T164.setTop (mkF m 128 #[.val (.int p1), .unset, .unset, .unset] [(.int (18 : Int32)), (.ref ba), (.ref ba)])) _
    exact k
  obtain ⟨T171, X171, e171, st171⟩ := getS2 X164 hx hZ hown (host := "") (Or.inl (hw _ (List.mem_of_getElem? (i := 40) rfl))) Via.refl e164 (S_AG.ext F165.2) (g := (mkF m 128 #[.val (.int p1), .unset, .unset, .unset] [(.int (18 : Int32)), (.ref ba), (.ref ba)])) rfl (hb hby at_128)
  have P172 : ∀ t, Steps p.tables e below (T171.setTop (mkF m 131 #[.val (.int p1), .unset, .unset, .unset] [(.ref w_AG), (.int (18 : Int32)), (.ref ba), (.ref ba)])) t → Steps p.tables e below (s₁.setTop (entryFrame m #[(.int p1)] maxLocals)) t := fun t k => P170 _ (st171 _ k)
  obtain ⟨cl173, Ar173, q173, S173, M173, H173, G173⟩ := F166
  have in173 : ¬ ((18 : Int32) < 0 ∨ cl173.slots.size ≤ ((18 : Int32)).toNatClampNeg) := inb_of S173 ⟨by decide, by decide⟩
  have so173 : Sto Z h164 ba (.ref w_AG) := Sto.ofV Ar173 q173 ov_ba (Ins.self (E_AG.ext F165.2))
  obtain ⟨T173, h173, X173, e173, W173, st173⟩ := stR X171 hx hZ e171 Ar173 (j := (18 : Int32)) in173 rfl so173 (g := (mkF m 131 #[.val (.int p1), .unset, .unset, .unset] [(.ref w_AG), (.int (18 : Int32)), (.ref ba), (.ref ba)])) rfl rfl (hb hby at_131)
  have F174 : Old Z n0 h173 := F165.wr W173 g_ba
  have F175 : Arv Z h173 ba kc_ba (.object "com/example/prudent_checker/prudentchecker/smv/Operator") (31 : Int32) [(.ref w_NOT), (.ref w_NEGATE), (.ref w_TIMES), (.ref w_DIVIDE), (.ref w_MOD), (.ref w_PLUS), (.ref w_MINUS), (.ref w_EQUAL), (.ref w_NOT_EQUAL), (.ref w_LESS), (.ref w_LESS_EQUAL), (.ref w_GREATER), (.ref w_GREATER_EQUAL), (.ref w_EX), (.ref w_EF), (.ref w_EG), (.ref w_AX), (.ref w_AF), (.ref w_AG), .null, .null, .null, .null, .null, .null, .null, .null, .null, .null, .null, .null] .null := Arv.set Ar173 q173 S173 M173 H173 G173 rfl W173 18 rfl (Nat.le_of_ble_eq_true rfl)
  have Z176 : n0 ≤ h173.size := Nat.le_trans Z167 (Keep.of_wr W173).1
  have K177 : Keep h0 h173 [] := K168.wr W173 (Or.inr sz_ba)
  obtain ⟨LL173, X173, N173⟩ := own_gen X173 (Fr.snoc X173 N164 g_ba)
  have P178 : ∀ t, Steps p.tables e below (T173.setTop (mkF m 132 #[.val (.int p1), .unset, .unset, .unset] [(.ref ba)])) t → Steps p.tables e below (s₁.setTop (entryFrame m #[(.int p1)] maxLocals)) t := fun t k => P172 _ (st173 _ k)
  have P179 : ∀ t, Steps p.tables e below (T173.setTop (mkF m 135 #[.val (.int p1), .unset, .unset, .unset] [(.int (19 : Int32)), (.ref ba), (.ref ba)])) t → Steps p.tables e below (s₁.setTop (entryFrame m #[(.int p1)] maxLocals)) t := by
    intro t k
    refine P178 _ ?_
    refine XS.dup X173.here hx rfl (hb hby at_132) rfl rfl ?_
    show Steps p.tables e below (T173.setTop (mkF m 133 #[.val (.int p1), .unset, .unset, .unset] [(.ref ba), (.ref ba)])) _
    refine XS.bipush X173.here hx rfl (hb hby at_133) ?_
    show Steps p.tables e below (T173.setTop (mkF m 135 #[.val (.int p1), .unset, .unset, .unset] [(.int (19 : Int32)), (.ref ba), (.ref ba)])) _
    exact k
  obtain ⟨T180, X180, e180, st180⟩ := getS2 X173 hx hZ hown (host := "") (Or.inl (hw _ (List.mem_of_getElem? (i := 42) rfl))) Via.refl e173 (S_EU.ext F174.2) (g := (mkF m 135 #[.val (.int p1), .unset, .unset, .unset] [(.int (19 : Int32)), (.ref ba), (.ref ba)])) rfl (hb hby at_135)
  have P181 : ∀ t, Steps p.tables e below (T180.setTop (mkF m 138 #[.val (.int p1), .unset, .unset, .unset] [(.ref w_EU), (.int (19 : Int32)), (.ref ba), (.ref ba)])) t → Steps p.tables e below (s₁.setTop (entryFrame m #[(.int p1)] maxLocals)) t := fun t k => P179 _ (st180 _ k)
  obtain ⟨cl182, Ar182, q182, S182, M182, H182, G182⟩ := F175
  have in182 : ¬ ((19 : Int32) < 0 ∨ cl182.slots.size ≤ ((19 : Int32)).toNatClampNeg) := inb_of S182 ⟨by decide, by decide⟩
  have so182 : Sto Z h173 ba (.ref w_EU) := Sto.ofV Ar182 q182 ov_ba (Ins.self (E_EU.ext F174.2))
  obtain ⟨T182, h182, X182, e182, W182, st182⟩ := stR X180 hx hZ e180 Ar182 (j := (19 : Int32)) in182 rfl so182 (g := (mkF m 138 #[.val (.int p1), .unset, .unset, .unset] [(.ref w_EU), (.int (19 : Int32)), (.ref ba), (.ref ba)])) rfl rfl (hb hby at_138)
  have F183 : Old Z n0 h182 := F174.wr W182 g_ba
  have F184 : Arv Z h182 ba kc_ba (.object "com/example/prudent_checker/prudentchecker/smv/Operator") (31 : Int32) [(.ref w_NOT), (.ref w_NEGATE), (.ref w_TIMES), (.ref w_DIVIDE), (.ref w_MOD), (.ref w_PLUS), (.ref w_MINUS), (.ref w_EQUAL), (.ref w_NOT_EQUAL), (.ref w_LESS), (.ref w_LESS_EQUAL), (.ref w_GREATER), (.ref w_GREATER_EQUAL), (.ref w_EX), (.ref w_EF), (.ref w_EG), (.ref w_AX), (.ref w_AF), (.ref w_AG), (.ref w_EU), .null, .null, .null, .null, .null, .null, .null, .null, .null, .null, .null] .null := Arv.set Ar182 q182 S182 M182 H182 G182 rfl W182 19 rfl (Nat.le_of_ble_eq_true rfl)
  have Z185 : n0 ≤ h182.size := Nat.le_trans Z176 (Keep.of_wr W182).1
  have K186 : Keep h0 h182 [] := K177.wr W182 (Or.inr sz_ba)
  obtain ⟨LL182, X182, N182⟩ := own_gen X182 (Fr.snoc X182 N173 g_ba)
  have P187 : ∀ t, Steps p.tables e below (T182.setTop (mkF m 139 #[.val (.int p1), .unset, .unset, .unset] [(.ref ba)])) t → Steps p.tables e below (s₁.setTop (entryFrame m #[(.int p1)] maxLocals)) t := fun t k => P181 _ (st182 _ k)
  have P188 : ∀ t, Steps p.tables e below (T182.setTop (mkF m 142 #[.val (.int p1), .unset, .unset, .unset] [(.int (20 : Int32)), (.ref ba), (.ref ba)])) t → Steps p.tables e below (s₁.setTop (entryFrame m #[(.int p1)] maxLocals)) t := by
    intro t k
    refine P187 _ ?_
    refine XS.dup X182.here hx rfl (hb hby at_139) rfl rfl ?_
    show Steps p.tables e below (T182.setTop (mkF m 140 #[.val (.int p1), .unset, .unset, .unset] [(.ref ba), (.ref ba)])) _
    refine XS.bipush X182.here hx rfl (hb hby at_140) ?_
    show Steps p.tables e below (T182.setTop (mkF m 142 #[.val (.int p1), .unset, .unset, .unset] [(.int (20 : Int32)), (.ref ba), (.ref ba)])) _
    exact k
  obtain ⟨T189, X189, e189, st189⟩ := getS2 X182 hx hZ hown (host := "") (Or.inl (hw _ (List.mem_of_getElem? (i := 44) rfl))) Via.refl e182 (S_AU.ext F183.2) (g := (mkF m 142 #[.val (.int p1), .unset, .unset, .unset] [(.int (20 : Int32)), (.ref ba), (.ref ba)])) rfl (hb hby at_142)
  have P190 : ∀ t, Steps p.tables e below (T189.setTop (mkF m 145 #[.val (.int p1), .unset, .unset, .unset] [(.ref w_AU), (.int (20 : Int32)), (.ref ba), (.ref ba)])) t → Steps p.tables e below (s₁.setTop (entryFrame m #[(.int p1)] maxLocals)) t := fun t k => P188 _ (st189 _ k)
  obtain ⟨cl191, Ar191, q191, S191, M191, H191, G191⟩ := F184
  have in191 : ¬ ((20 : Int32) < 0 ∨ cl191.slots.size ≤ ((20 : Int32)).toNatClampNeg) := inb_of S191 ⟨by decide, by decide⟩
  have so191 : Sto Z h182 ba (.ref w_AU) := Sto.ofV Ar191 q191 ov_ba (Ins.self (E_AU.ext F183.2))
  obtain ⟨T191, h191, X191, e191, W191, st191⟩ := stR X189 hx hZ e189 Ar191 (j := (20 : Int32)) in191 rfl so191 (g := (mkF m 145 #[.val (.int p1), .unset, .unset, .unset] [(.ref w_AU), (.int (20 : Int32)), (.ref ba), (.ref ba)])) rfl rfl (hb hby at_145)
  have F192 : Old Z n0 h191 := F183.wr W191 g_ba
  have F193 : Arv Z h191 ba kc_ba (.object "com/example/prudent_checker/prudentchecker/smv/Operator") (31 : Int32) [(.ref w_NOT), (.ref w_NEGATE), (.ref w_TIMES), (.ref w_DIVIDE), (.ref w_MOD), (.ref w_PLUS), (.ref w_MINUS), (.ref w_EQUAL), (.ref w_NOT_EQUAL), (.ref w_LESS), (.ref w_LESS_EQUAL), (.ref w_GREATER), (.ref w_GREATER_EQUAL), (.ref w_EX), (.ref w_EF), (.ref w_EG), (.ref w_AX), (.ref w_AF), (.ref w_AG), (.ref w_EU), (.ref w_AU), .null, .null, .null, .null, .null, .null, .null, .null, .null, .null] .null := Arv.set Ar191 q191 S191 M191 H191 G191 rfl W191 20 rfl (Nat.le_of_ble_eq_true rfl)
  have Z194 : n0 ≤ h191.size := Nat.le_trans Z185 (Keep.of_wr W191).1
  have K195 : Keep h0 h191 [] := K186.wr W191 (Or.inr sz_ba)
  obtain ⟨LL191, X191, N191⟩ := own_gen X191 (Fr.snoc X191 N182 g_ba)
  have P196 : ∀ t, Steps p.tables e below (T191.setTop (mkF m 146 #[.val (.int p1), .unset, .unset, .unset] [(.ref ba)])) t → Steps p.tables e below (s₁.setTop (entryFrame m #[(.int p1)] maxLocals)) t := fun t k => P190 _ (st191 _ k)
  have P197 : ∀ t, Steps p.tables e below (T191.setTop (mkF m 149 #[.val (.int p1), .unset, .unset, .unset] [(.int (21 : Int32)), (.ref ba), (.ref ba)])) t → Steps p.tables e below (s₁.setTop (entryFrame m #[(.int p1)] maxLocals)) t := by
    intro t k
    refine P196 _ ?_
    refine XS.dup X191.here hx rfl (hb hby at_146) rfl rfl ?_
    show Steps p.tables e below (T191.setTop (mkF m 147 #[.val (.int p1), .unset, .unset, .unset] [(.ref ba), (.ref ba)])) _
    refine XS.bipush X191.here hx rfl (hb hby at_147) ?_
    show Steps p.tables e below (T191.setTop (mkF m 149 #[.val (.int p1), .unset, .unset, .unset] [(.int (21 : Int32)), (.ref ba), (.ref ba)])) _
    exact k
  obtain ⟨T198, X198, e198, st198⟩ := getS2 X191 hx hZ hown (host := "") (Or.inl (hw _ (List.mem_of_getElem? (i := 46) rfl))) Via.refl e191 (S_X.ext F192.2) (g := (mkF m 149 #[.val (.int p1), .unset, .unset, .unset] [(.int (21 : Int32)), (.ref ba), (.ref ba)])) rfl (hb hby at_149)
  have P199 : ∀ t, Steps p.tables e below (T198.setTop (mkF m 152 #[.val (.int p1), .unset, .unset, .unset] [(.ref w_X), (.int (21 : Int32)), (.ref ba), (.ref ba)])) t → Steps p.tables e below (s₁.setTop (entryFrame m #[(.int p1)] maxLocals)) t := fun t k => P197 _ (st198 _ k)
  obtain ⟨cl200, Ar200, q200, S200, M200, H200, G200⟩ := F193
  have in200 : ¬ ((21 : Int32) < 0 ∨ cl200.slots.size ≤ ((21 : Int32)).toNatClampNeg) := inb_of S200 ⟨by decide, by decide⟩
  have so200 : Sto Z h191 ba (.ref w_X) := Sto.ofV Ar200 q200 ov_ba (Ins.self (E_X.ext F192.2))
  obtain ⟨T200, h200, X200, e200, W200, st200⟩ := stR X198 hx hZ e198 Ar200 (j := (21 : Int32)) in200 rfl so200 (g := (mkF m 152 #[.val (.int p1), .unset, .unset, .unset] [(.ref w_X), (.int (21 : Int32)), (.ref ba), (.ref ba)])) rfl rfl (hb hby at_152)
  have F201 : Old Z n0 h200 := F192.wr W200 g_ba
  have F202 : Arv Z h200 ba kc_ba (.object "com/example/prudent_checker/prudentchecker/smv/Operator") (31 : Int32) [(.ref w_NOT), (.ref w_NEGATE), (.ref w_TIMES), (.ref w_DIVIDE), (.ref w_MOD), (.ref w_PLUS), (.ref w_MINUS), (.ref w_EQUAL), (.ref w_NOT_EQUAL), (.ref w_LESS), (.ref w_LESS_EQUAL), (.ref w_GREATER), (.ref w_GREATER_EQUAL), (.ref w_EX), (.ref w_EF), (.ref w_EG), (.ref w_AX), (.ref w_AF), (.ref w_AG), (.ref w_EU), (.ref w_AU), (.ref w_X), .null, .null, .null, .null, .null, .null, .null, .null, .null] .null := Arv.set Ar200 q200 S200 M200 H200 G200 rfl W200 21 rfl (Nat.le_of_ble_eq_true rfl)
  have Z203 : n0 ≤ h200.size := Nat.le_trans Z194 (Keep.of_wr W200).1
  have K204 : Keep h0 h200 [] := K195.wr W200 (Or.inr sz_ba)
  obtain ⟨LL200, X200, N200⟩ := own_gen X200 (Fr.snoc X200 N191 g_ba)
  have P205 : ∀ t, Steps p.tables e below (T200.setTop (mkF m 153 #[.val (.int p1), .unset, .unset, .unset] [(.ref ba)])) t → Steps p.tables e below (s₁.setTop (entryFrame m #[(.int p1)] maxLocals)) t := fun t k => P199 _ (st200 _ k)
  have P206 : ∀ t, Steps p.tables e below (T200.setTop (mkF m 156 #[.val (.int p1), .unset, .unset, .unset] [(.int (22 : Int32)), (.ref ba), (.ref ba)])) t → Steps p.tables e below (s₁.setTop (entryFrame m #[(.int p1)] maxLocals)) t := by
    intro t k
    refine P205 _ ?_
    refine XS.dup X200.here hx rfl (hb hby at_153) rfl rfl ?_
    show Steps p.tables e below (T200.setTop (mkF m 154 #[.val (.int p1), .unset, .unset, .unset] [(.ref ba), (.ref ba)])) _
    refine XS.bipush X200.here hx rfl (hb hby at_154) ?_
    show Steps p.tables e below (T200.setTop (mkF m 156 #[.val (.int p1), .unset, .unset, .unset] [(.int (22 : Int32)), (.ref ba), (.ref ba)])) _
    exact k
  obtain ⟨T207, X207, e207, st207⟩ := getS2 X200 hx hZ hown (host := "") (Or.inl (hw _ (List.mem_of_getElem? (i := 48) rfl))) Via.refl e200 (S_F.ext F201.2) (g := (mkF m 156 #[.val (.int p1), .unset, .unset, .unset] [(.int (22 : Int32)), (.ref ba), (.ref ba)])) rfl (hb hby at_156)
  have P208 : ∀ t, Steps p.tables e below (T207.setTop (mkF m 159 #[.val (.int p1), .unset, .unset, .unset] [(.ref w_F), (.int (22 : Int32)), (.ref ba), (.ref ba)])) t → Steps p.tables e below (s₁.setTop (entryFrame m #[(.int p1)] maxLocals)) t := fun t k => P206 _ (st207 _ k)
  obtain ⟨cl209, Ar209, q209, S209, M209, H209, G209⟩ := F202
  have in209 : ¬ ((22 : Int32) < 0 ∨ cl209.slots.size ≤ ((22 : Int32)).toNatClampNeg) := inb_of S209 ⟨by decide, by decide⟩
  have so209 : Sto Z h200 ba (.ref w_F) := Sto.ofV Ar209 q209 ov_ba (Ins.self (E_F.ext F201.2))
  obtain ⟨T209, h209, X209, e209, W209, st209⟩ := stR X207 hx hZ e207 Ar209 (j := (22 : Int32)) in209 rfl so209 (g := (mkF m 159 #[.val (.int p1), .unset, .unset, .unset] [(.ref w_F), (.int (22 : Int32)), (.ref ba), (.ref ba)])) rfl rfl (hb hby at_159)
  have F210 : Old Z n0 h209 := F201.wr W209 g_ba
  have F211 : Arv Z h209 ba kc_ba (.object "com/example/prudent_checker/prudentchecker/smv/Operator") (31 : Int32) [(.ref w_NOT), (.ref w_NEGATE), (.ref w_TIMES), (.ref w_DIVIDE), (.ref w_MOD), (.ref w_PLUS), (.ref w_MINUS), (.ref w_EQUAL), (.ref w_NOT_EQUAL), (.ref w_LESS), (.ref w_LESS_EQUAL), (.ref w_GREATER), (.ref w_GREATER_EQUAL), (.ref w_EX), (.ref w_EF), (.ref w_EG), (.ref w_AX), (.ref w_AF), (.ref w_AG), (.ref w_EU), (.ref w_AU), (.ref w_X), (.ref w_F), .null, .null, .null, .null, .null, .null, .null, .null] .null := Arv.set Ar209 q209 S209 M209 H209 G209 rfl W209 22 rfl (Nat.le_of_ble_eq_true rfl)
  have Z212 : n0 ≤ h209.size := Nat.le_trans Z203 (Keep.of_wr W209).1
  have K213 : Keep h0 h209 [] := K204.wr W209 (Or.inr sz_ba)
  obtain ⟨LL209, X209, N209⟩ := own_gen X209 (Fr.snoc X209 N200 g_ba)
  have P214 : ∀ t, Steps p.tables e below (T209.setTop (mkF m 160 #[.val (.int p1), .unset, .unset, .unset] [(.ref ba)])) t → Steps p.tables e below (s₁.setTop (entryFrame m #[(.int p1)] maxLocals)) t := fun t k => P208 _ (st209 _ k)
  have P215 : ∀ t, Steps p.tables e below (T209.setTop (mkF m 163 #[.val (.int p1), .unset, .unset, .unset] [(.int (23 : Int32)), (.ref ba), (.ref ba)])) t → Steps p.tables e below (s₁.setTop (entryFrame m #[(.int p1)] maxLocals)) t := by
    intro t k
    refine P214 _ ?_
    refine XS.dup X209.here hx rfl (hb hby at_160) rfl rfl ?_
    show Steps p.tables e below (T209.setTop (mkF m 161 #[.val (.int p1), .unset, .unset, .unset] [(.ref ba), (.ref ba)])) _
    refine XS.bipush X209.here hx rfl (hb hby at_161) ?_
    show Steps p.tables e below (T209.setTop (mkF m 163 #[.val (.int p1), .unset, .unset, .unset] [(.int (23 : Int32)), (.ref ba), (.ref ba)])) _
    exact k
  obtain ⟨T216, X216, e216, st216⟩ := getS2 X209 hx hZ hown (host := "") (Or.inl (hw _ (List.mem_of_getElem? (i := 50) rfl))) Via.refl e209 (S_G.ext F210.2) (g := (mkF m 163 #[.val (.int p1), .unset, .unset, .unset] [(.int (23 : Int32)), (.ref ba), (.ref ba)])) rfl (hb hby at_163)
  have P217 : ∀ t, Steps p.tables e below (T216.setTop (mkF m 166 #[.val (.int p1), .unset, .unset, .unset] [(.ref w_G), (.int (23 : Int32)), (.ref ba), (.ref ba)])) t → Steps p.tables e below (s₁.setTop (entryFrame m #[(.int p1)] maxLocals)) t := fun t k => P215 _ (st216 _ k)
  obtain ⟨cl218, Ar218, q218, S218, M218, H218, G218⟩ := F211
  have in218 : ¬ ((23 : Int32) < 0 ∨ cl218.slots.size ≤ ((23 : Int32)).toNatClampNeg) := inb_of S218 ⟨by decide, by decide⟩
  have so218 : Sto Z h209 ba (.ref w_G) := Sto.ofV Ar218 q218 ov_ba (Ins.self (E_G.ext F210.2))
  obtain ⟨T218, h218, X218, e218, W218, st218⟩ := stR X216 hx hZ e216 Ar218 (j := (23 : Int32)) in218 rfl so218 (g := (mkF m 166 #[.val (.int p1), .unset, .unset, .unset] [(.ref w_G), (.int (23 : Int32)), (.ref ba), (.ref ba)])) rfl rfl (hb hby at_166)
  have F219 : Old Z n0 h218 := F210.wr W218 g_ba
  have F220 : Arv Z h218 ba kc_ba (.object "com/example/prudent_checker/prudentchecker/smv/Operator") (31 : Int32) [(.ref w_NOT), (.ref w_NEGATE), (.ref w_TIMES), (.ref w_DIVIDE), (.ref w_MOD), (.ref w_PLUS), (.ref w_MINUS), (.ref w_EQUAL), (.ref w_NOT_EQUAL), (.ref w_LESS), (.ref w_LESS_EQUAL), (.ref w_GREATER), (.ref w_GREATER_EQUAL), (.ref w_EX), (.ref w_EF), (.ref w_EG), (.ref w_AX), (.ref w_AF), (.ref w_AG), (.ref w_EU), (.ref w_AU), (.ref w_X), (.ref w_F), (.ref w_G), .null, .null, .null, .null, .null, .null, .null] .null := Arv.set Ar218 q218 S218 M218 H218 G218 rfl W218 23 rfl (Nat.le_of_ble_eq_true rfl)
  have Z221 : n0 ≤ h218.size := Nat.le_trans Z212 (Keep.of_wr W218).1
  have K222 : Keep h0 h218 [] := K213.wr W218 (Or.inr sz_ba)
  obtain ⟨LL218, X218, N218⟩ := own_gen X218 (Fr.snoc X218 N209 g_ba)
  have P223 : ∀ t, Steps p.tables e below (T218.setTop (mkF m 167 #[.val (.int p1), .unset, .unset, .unset] [(.ref ba)])) t → Steps p.tables e below (s₁.setTop (entryFrame m #[(.int p1)] maxLocals)) t := fun t k => P217 _ (st218 _ k)
  have P224 : ∀ t, Steps p.tables e below (T218.setTop (mkF m 170 #[.val (.int p1), .unset, .unset, .unset] [(.int (24 : Int32)), (.ref ba), (.ref ba)])) t → Steps p.tables e below (s₁.setTop (entryFrame m #[(.int p1)] maxLocals)) t := by
    intro t k
    refine P223 _ ?_
    refine XS.dup X218.here hx rfl (hb hby at_167) rfl rfl ?_
    show Steps p.tables e below (T218.setTop (mkF m 168 #[.val (.int p1), .unset, .unset, .unset] [(.ref ba), (.ref ba)])) _
    refine XS.bipush X218.here hx rfl (hb hby at_168) ?_
    show Steps p.tables e below (T218.setTop (mkF m 170 #[.val (.int p1), .unset, .unset, .unset] [(.int (24 : Int32)), (.ref ba), (.ref ba)])) _
    exact k
  obtain ⟨T225, X225, e225, st225⟩ := getS2 X218 hx hZ hown (host := "") (Or.inl (hw _ (List.mem_of_getElem? (i := 52) rfl))) Via.refl e218 (S_U.ext F219.2) (g := (mkF m 170 #[.val (.int p1), .unset, .unset, .unset] [(.int (24 : Int32)), (.ref ba), (.ref ba)])) rfl (hb hby at_170)
  have P226 : ∀ t, Steps p.tables e below (T225.setTop (mkF m 173 #[.val (.int p1), .unset, .unset, .unset] [(.ref w_U), (.int (24 : Int32)), (.ref ba), (.ref ba)])) t → Steps p.tables e below (s₁.setTop (entryFrame m #[(.int p1)] maxLocals)) t := fun t k => P224 _ (st225 _ k)
  obtain ⟨cl227, Ar227, q227, S227, M227, H227, G227⟩ := F220
  have in227 : ¬ ((24 : Int32) < 0 ∨ cl227.slots.size ≤ ((24 : Int32)).toNatClampNeg) := inb_of S227 ⟨by decide, by decide⟩
  have so227 : Sto Z h218 ba (.ref w_U) := Sto.ofV Ar227 q227 ov_ba (Ins.self (E_U.ext F219.2))
  obtain ⟨T227, h227, X227, e227, W227, st227⟩ := stR X225 hx hZ e225 Ar227 (j := (24 : Int32)) in227 rfl so227 (g := (mkF m 173 #[.val (.int p1), .unset, .unset, .unset] [(.ref w_U), (.int (24 : Int32)), (.ref ba), (.ref ba)])) rfl rfl (hb hby at_173)
  have F228 : Old Z n0 h227 := F219.wr W227 g_ba
  have F229 : Arv Z h227 ba kc_ba (.object "com/example/prudent_checker/prudentchecker/smv/Operator") (31 : Int32) [(.ref w_NOT), (.ref w_NEGATE), (.ref w_TIMES), (.ref w_DIVIDE), (.ref w_MOD), (.ref w_PLUS), (.ref w_MINUS), (.ref w_EQUAL), (.ref w_NOT_EQUAL), (.ref w_LESS), (.ref w_LESS_EQUAL), (.ref w_GREATER), (.ref w_GREATER_EQUAL), (.ref w_EX), (.ref w_EF), (.ref w_EG), (.ref w_AX), (.ref w_AF), (.ref w_AG), (.ref w_EU), (.ref w_AU), (.ref w_X), (.ref w_F), (.ref w_G), (.ref w_U), .null, .null, .null, .null, .null, .null] .null := Arv.set Ar227 q227 S227 M227 H227 G227 rfl W227 24 rfl (Nat.le_of_ble_eq_true rfl)
  have Z230 : n0 ≤ h227.size := Nat.le_trans Z221 (Keep.of_wr W227).1
  have K231 : Keep h0 h227 [] := K222.wr W227 (Or.inr sz_ba)
  obtain ⟨LL227, X227, N227⟩ := own_gen X227 (Fr.snoc X227 N218 g_ba)
  have P232 : ∀ t, Steps p.tables e below (T227.setTop (mkF m 174 #[.val (.int p1), .unset, .unset, .unset] [(.ref ba)])) t → Steps p.tables e below (s₁.setTop (entryFrame m #[(.int p1)] maxLocals)) t := fun t k => P226 _ (st227 _ k)
  have P233 : ∀ t, Steps p.tables e below (T227.setTop (mkF m 177 #[.val (.int p1), .unset, .unset, .unset] [(.int (25 : Int32)), (.ref ba), (.ref ba)])) t → Steps p.tables e below (s₁.setTop (entryFrame m #[(.int p1)] maxLocals)) t := by
    intro t k
    refine P232 _ ?_
    refine XS.dup X227.here hx rfl (hb hby at_174) rfl rfl ?_
    show Steps p.tables e below (T227.setTop (mkF m 175 #[.val (.int p1), .unset, .unset, .unset] [(.ref ba), (.ref ba)])) _
    refine XS.bipush X227.here hx rfl (hb hby at_175) ?_
    show Steps p.tables e below (T227.setTop (mkF m 177 #[.val (.int p1), .unset, .unset, .unset] [(.int (25 : Int32)), (.ref ba), (.ref ba)])) _
    exact k
  obtain ⟨T234, X234, e234, st234⟩ := getS2 X227 hx hZ hown (host := "") (Or.inl (hw _ (List.mem_of_getElem? (i := 54) rfl))) Via.refl e227 (S_V.ext F228.2) (g := (mkF m 177 #[.val (.int p1), .unset, .unset, .unset] [(.int (25 : Int32)), (.ref ba), (.ref ba)])) rfl (hb hby at_177)
  have P235 : ∀ t, Steps p.tables e below (T234.setTop (mkF m 180 #[.val (.int p1), .unset, .unset, .unset] [(.ref w_V), (.int (25 : Int32)), (.ref ba), (.ref ba)])) t → Steps p.tables e below (s₁.setTop (entryFrame m #[(.int p1)] maxLocals)) t := fun t k => P233 _ (st234 _ k)
  obtain ⟨cl236, Ar236, q236, S236, M236, H236, G236⟩ := F229
  have in236 : ¬ ((25 : Int32) < 0 ∨ cl236.slots.size ≤ ((25 : Int32)).toNatClampNeg) := inb_of S236 ⟨by decide, by decide⟩
  have so236 : Sto Z h227 ba (.ref w_V) := Sto.ofV Ar236 q236 ov_ba (Ins.self (E_V.ext F228.2))
  obtain ⟨T236, h236, X236, e236, W236, st236⟩ := stR X234 hx hZ e234 Ar236 (j := (25 : Int32)) in236 rfl so236 (g := (mkF m 180 #[.val (.int p1), .unset, .unset, .unset] [(.ref w_V), (.int (25 : Int32)), (.ref ba), (.ref ba)])) rfl rfl (hb hby at_180)
  have F237 : Old Z n0 h236 := F228.wr W236 g_ba
  have F238 : Arv Z h236 ba kc_ba (.object "com/example/prudent_checker/prudentchecker/smv/Operator") (31 : Int32) [(.ref w_NOT), (.ref w_NEGATE), (.ref w_TIMES), (.ref w_DIVIDE), (.ref w_MOD), (.ref w_PLUS), (.ref w_MINUS), (.ref w_EQUAL), (.ref w_NOT_EQUAL), (.ref w_LESS), (.ref w_LESS_EQUAL), (.ref w_GREATER), (.ref w_GREATER_EQUAL), (.ref w_EX), (.ref w_EF), (.ref w_EG), (.ref w_AX), (.ref w_AF), (.ref w_AG), (.ref w_EU), (.ref w_AU), (.ref w_X), (.ref w_F), (.ref w_G), (.ref w_U), (.ref w_V), .null, .null, .null, .null, .null] .null := Arv.set Ar236 q236 S236 M236 H236 G236 rfl W236 25 rfl (Nat.le_of_ble_eq_true rfl)
  have Z239 : n0 ≤ h236.size := Nat.le_trans Z230 (Keep.of_wr W236).1
  have K240 : Keep h0 h236 [] := K231.wr W236 (Or.inr sz_ba)
  obtain ⟨LL236, X236, N236⟩ := own_gen X236 (Fr.snoc X236 N227 g_ba)
  have P241 : ∀ t, Steps p.tables e below (T236.setTop (mkF m 181 #[.val (.int p1), .unset, .unset, .unset] [(.ref ba)])) t → Steps p.tables e below (s₁.setTop (entryFrame m #[(.int p1)] maxLocals)) t := fun t k => P235 _ (st236 _ k)
  have P242 : ∀ t, Steps p.tables e below (T236.setTop (mkF m 184 #[.val (.int p1), .unset, .unset, .unset] [(.int (26 : Int32)), (.ref ba), (.ref ba)])) t → Steps p.tables e below (s₁.setTop (entryFrame m #[(.int p1)] maxLocals)) t := by
    intro t k
    refine P241 _ ?_
    refine XS.dup X236.here hx rfl (hb hby at_181) rfl rfl ?_
    show Steps p.tables e below (T236.setTop (mkF m 182 #[.val (.int p1), .unset, .unset, .unset] [(.ref ba), (.ref ba)])) _
    refine XS.bipush X236.here hx rfl (hb hby at_182) ?_
    show Steps p.tables e below (T236.setTop (mkF m 184 #[.val (.int p1), .unset, .unset, .unset] [(.int (26 : Int32)), (.ref ba), (.ref ba)])) _
    exact k
  obtain ⟨T243, X243, e243, st243⟩ := getS2 X236 hx hZ hown (host := "") (Or.inl (hw _ (List.mem_of_getElem? (i := 56) rfl))) Via.refl e236 (S_AND.ext F237.2) (g := (mkF m 184 #[.val (.int p1), .unset, .unset, .unset] [(.int (26 : Int32)), (.ref ba), (.ref ba)])) rfl (hb hby at_184)
  have P244 : ∀ t, Steps p.tables e below (T243.setTop (mkF m 187 #[.val (.int p1), .unset, .unset, .unset] [(.ref w_AND), (.int (26 : Int32)), (.ref ba), (.ref ba)])) t → Steps p.tables e below (s₁.setTop (entryFrame m #[(.int p1)] maxLocals)) t := fun t k => P242 _ (st243 _ k)
  obtain ⟨cl245, Ar245, q245, S245, M245, H245, G245⟩ := F238
  have in245 : ¬ ((26 : Int32) < 0 ∨ cl245.slots.size ≤ ((26 : Int32)).toNatClampNeg) := inb_of S245 ⟨by decide, by decide⟩
  have so245 : Sto Z h236 ba (.ref w_AND) := Sto.ofV Ar245 q245 ov_ba (Ins.self (E_AND.ext F237.2))
  obtain ⟨T245, h245, X245, e245, W245, st245⟩ := stR X243 hx hZ e243 Ar245 (j := (26 : Int32)) in245 rfl so245 (g := (mkF m 187 #[.val (.int p1), .unset, .unset, .unset] [(.ref w_AND), (.int (26 : Int32)), (.ref ba), (.ref ba)])) rfl rfl (hb hby at_187)
  have F246 : Old Z n0 h245 := F237.wr W245 g_ba
  have F247 : Arv Z h245 ba kc_ba (.object "com/example/prudent_checker/prudentchecker/smv/Operator") (31 : Int32) [(.ref w_NOT), (.ref w_NEGATE), (.ref w_TIMES), (.ref w_DIVIDE), (.ref w_MOD), (.ref w_PLUS), (.ref w_MINUS), (.ref w_EQUAL), (.ref w_NOT_EQUAL), (.ref w_LESS), (.ref w_LESS_EQUAL), (.ref w_GREATER), (.ref w_GREATER_EQUAL), (.ref w_EX), (.ref w_EF), (.ref w_EG), (.ref w_AX), (.ref w_AF), (.ref w_AG), (.ref w_EU), (.ref w_AU), (.ref w_X), (.ref w_F), (.ref w_G), (.ref w_U), (.ref w_V), (.ref w_AND), .null, .null, .null, .null] .null := Arv.set Ar245 q245 S245 M245 H245 G245 rfl W245 26 rfl (Nat.le_of_ble_eq_true rfl)
  have Z248 : n0 ≤ h245.size := Nat.le_trans Z239 (Keep.of_wr W245).1
  have K249 : Keep h0 h245 [] := K240.wr W245 (Or.inr sz_ba)
  obtain ⟨LL245, X245, N245⟩ := own_gen X245 (Fr.snoc X245 N236 g_ba)
  have P250 : ∀ t, Steps p.tables e below (T245.setTop (mkF m 188 #[.val (.int p1), .unset, .unset, .unset] [(.ref ba)])) t → Steps p.tables e below (s₁.setTop (entryFrame m #[(.int p1)] maxLocals)) t := fun t k => P244 _ (st245 _ k)
  have P251 : ∀ t, Steps p.tables e below (T245.setTop (mkF m 191 #[.val (.int p1), .unset, .unset, .unset] [(.int (27 : Int32)), (.ref ba), (.ref ba)])) t → Steps p.tables e below (s₁.setTop (entryFrame m #[(.int p1)] maxLocals)) t := by
    intro t k
    refine P250 _ ?_
    refine XS.dup X245.here hx rfl (hb hby at_188) rfl rfl ?_
    show Steps p.tables e below (T245.setTop (mkF m 189 #[.val (.int p1), .unset, .unset, .unset] [(.ref ba), (.ref ba)])) _
    refine XS.bipush X245.here hx rfl (hb hby at_189) ?_
    show Steps p.tables e below (T245.setTop (mkF m 191 #[.val (.int p1), .unset, .unset, .unset] [(.int (27 : Int32)), (.ref ba), (.ref ba)])) _
    exact k
  obtain ⟨T252, X252, e252, st252⟩ := getS2 X245 hx hZ hown (host := "") (Or.inl (hw _ (List.mem_of_getElem? (i := 58) rfl))) Via.refl e245 (S_OR.ext F246.2) (g := (mkF m 191 #[.val (.int p1), .unset, .unset, .unset] [(.int (27 : Int32)), (.ref ba), (.ref ba)])) rfl (hb hby at_191)
  have P253 : ∀ t, Steps p.tables e below (T252.setTop (mkF m 194 #[.val (.int p1), .unset, .unset, .unset] [(.ref w_OR), (.int (27 : Int32)), (.ref ba), (.ref ba)])) t → Steps p.tables e below (s₁.setTop (entryFrame m #[(.int p1)] maxLocals)) t := fun t k => P251 _ (st252 _ k)
  obtain ⟨cl254, Ar254, q254, S254, M254, H254, G254⟩ := F247
  have in254 : ¬ ((27 : Int32) < 0 ∨ cl254.slots.size ≤ ((27 : Int32)).toNatClampNeg) := inb_of S254 ⟨by decide, by decide⟩
  have so254 : Sto Z h245 ba (.ref w_OR) := Sto.ofV Ar254 q254 ov_ba (Ins.self (E_OR.ext F246.2))
  obtain ⟨T254, h254, X254, e254, W254, st254⟩ := stR X252 hx hZ e252 Ar254 (j := (27 : Int32)) in254 rfl so254 (g := (mkF m 194 #[.val (.int p1), .unset, .unset, .unset] [(.ref w_OR), (.int (27 : Int32)), (.ref ba), (.ref ba)])) rfl rfl (hb hby at_194)
  have F255 : Old Z n0 h254 := F246.wr W254 g_ba
  have F256 : Arv Z h254 ba kc_ba (.object "com/example/prudent_checker/prudentchecker/smv/Operator") (31 : Int32) [(.ref w_NOT), (.ref w_NEGATE), (.ref w_TIMES), (.ref w_DIVIDE), (.ref w_MOD), (.ref w_PLUS), (.ref w_MINUS), (.ref w_EQUAL), (.ref w_NOT_EQUAL), (.ref w_LESS), (.ref w_LESS_EQUAL), (.ref w_GREATER), (.ref w_GREATER_EQUAL), (.ref w_EX), (.ref w_EF), (.ref w_EG), (.ref w_AX), (.ref w_AF), (.ref w_AG), (.ref w_EU), (.ref w_AU), (.ref w_X), (.ref w_F), (.ref w_G), (.ref w_U), (.ref w_V), (.ref w_AND), (.ref w_OR), .null, .null, .null] .null := Arv.set Ar254 q254 S254 M254 H254 G254 rfl W254 27 rfl (Nat.le_of_ble_eq_true rfl)
  have Z257 : n0 ≤ h254.size := Nat.le_trans Z248 (Keep.of_wr W254).1
  have K258 : Keep h0 h254 [] := K249.wr W254 (Or.inr sz_ba)
  obtain ⟨LL254, X254, N254⟩ := own_gen X254 (Fr.snoc X254 N245 g_ba)
  have P259 : ∀ t, Steps p.tables e below (T254.setTop (mkF m 195 #[.val (.int p1), .unset, .unset, .unset] [(.ref ba)])) t → Steps p.tables e below (s₁.setTop (entryFrame m #[(.int p1)] maxLocals)) t := fun t k => P253 _ (st254 _ k)
  have P260 : ∀ t, Steps p.tables e below (T254.setTop (mkF m 198 #[.val (.int p1), .unset, .unset, .unset] [(.int (28 : Int32)), (.ref ba), (.ref ba)])) t → Steps p.tables e below (s₁.setTop (entryFrame m #[(.int p1)] maxLocals)) t := by
    intro t k
    refine P259 _ ?_
    refine XS.dup X254.here hx rfl (hb hby at_195) rfl rfl ?_
    show Steps p.tables e below (T254.setTop (mkF m 196 #[.val (.int p1), .unset, .unset, .unset] [(.ref ba), (.ref ba)])) _
    refine XS.bipush X254.here hx rfl (hb hby at_196) ?_
    show Steps p.tables e below (T254.setTop (mkF m 198 #[.val (.int p1), .unset, .unset, .unset] [(.int (28 : Int32)), (.ref ba), (.ref ba)])) _
    exact k
  obtain ⟨T261, X261, e261, st261⟩ := getS2 X254 hx hZ hown (host := "") (Or.inl (hw _ (List.mem_of_getElem? (i := 60) rfl))) Via.refl e254 (S_XOR.ext F255.2) (g := (mkF m 198 #[.val (.int p1), .unset, .unset, .unset] [(.int (28 : Int32)), (.ref ba), (.ref ba)])) rfl (hb hby at_198)
  have P262 : ∀ t, Steps p.tables e below (T261.setTop (mkF m 201 #[.val (.int p1), .unset, .unset, .unset] [(.ref w_XOR), (.int (28 : Int32)), (.ref ba), (.ref ba)])) t → Steps p.tables e below (s₁.setTop (entryFrame m #[(.int p1)] maxLocals)) t := fun t k => P260 _ (st261 _ k)
  obtain ⟨cl263, Ar263, q263, S263, M263, H263, G263⟩ := F256
  have in263 : ¬ ((28 : Int32) < 0 ∨ cl263.slots.size ≤ ((28 : Int32)).toNatClampNeg) := inb_of S263 ⟨by decide, by decide⟩
  have so263 : Sto Z h254 ba (.ref w_XOR) := Sto.ofV Ar263 q263 ov_ba (Ins.self (E_XOR.ext F255.2))
  obtain ⟨T263, h263, X263, e263, W263, st263⟩ := stR X261 hx hZ e261 Ar263 (j := (28 : Int32)) in263 rfl so263 (g := (mkF m 201 #[.val (.int p1), .unset, .unset, .unset] [(.ref w_XOR), (.int (28 : Int32)), (.ref ba), (.ref ba)])) rfl rfl (hb hby at_201)
  have F264 : Old Z n0 h263 := F255.wr W263 g_ba
  have F265 : Arv Z h263 ba kc_ba (.object "com/example/prudent_checker/prudentchecker/smv/Operator") (31 : Int32) [(.ref w_NOT), (.ref w_NEGATE), (.ref w_TIMES), (.ref w_DIVIDE), (.ref w_MOD), (.ref w_PLUS), (.ref w_MINUS), (.ref w_EQUAL), (.ref w_NOT_EQUAL), (.ref w_LESS), (.ref w_LESS_EQUAL), (.ref w_GREATER), (.ref w_GREATER_EQUAL), (.ref w_EX), (.ref w_EF), (.ref w_EG), (.ref w_AX), (.ref w_AF), (.ref w_AG), (.ref w_EU), (.ref w_AU), (.ref w_X), (.ref w_F), (.ref w_G), (.ref w_U), (.ref w_V), (.ref w_AND), (.ref w_OR), (.ref w_XOR), .null, .null] .null := Arv.set Ar263 q263 S263 M263 H263 G263 rfl W263 28 rfl (Nat.le_of_ble_eq_true rfl)
  have Z266 : n0 ≤ h263.size := Nat.le_trans Z257 (Keep.of_wr W263).1
  have K267 : Keep h0 h263 [] := K258.wr W263 (Or.inr sz_ba)
  obtain ⟨LL263, X263, N263⟩ := own_gen X263 (Fr.snoc X263 N254 g_ba)
  have P268 : ∀ t, Steps p.tables e below (T263.setTop (mkF m 202 #[.val (.int p1), .unset, .unset, .unset] [(.ref ba)])) t → Steps p.tables e below (s₁.setTop (entryFrame m #[(.int p1)] maxLocals)) t := fun t k => P262 _ (st263 _ k)
  have P269 : ∀ t, Steps p.tables e below (T263.setTop (mkF m 205 #[.val (.int p1), .unset, .unset, .unset] [(.int (29 : Int32)), (.ref ba), (.ref ba)])) t → Steps p.tables e below (s₁.setTop (entryFrame m #[(.int p1)] maxLocals)) t := by
    intro t k
    refine P268 _ ?_
    refine XS.dup X263.here hx rfl (hb hby at_202) rfl rfl ?_
    show Steps p.tables e below (T263.setTop (mkF m 203 #[.val (.int p1), .unset, .unset, .unset] [(.ref ba), (.ref ba)])) _
    refine XS.bipush X263.here hx rfl (hb hby at_203) ?_
    show Steps p.tables e below (T263.setTop (mkF m 205 #[.val (.int p1), .unset, .unset, .unset] [(.int (29 : Int32)), (.ref ba), (.ref ba)])) _
    exact k
  obtain ⟨T270, X270, e270, st270⟩ := getS2 X263 hx hZ hown (host := "") (Or.inl (hw _ (List.mem_of_getElem? (i := 62) rfl))) Via.refl e263 (S_IFF.ext F264.2) (g := (mkF m 205 #[.val (.int p1), .unset, .unset, .unset] [(.int (29 : Int32)), (.ref ba), (.ref ba)])) rfl (hb hby at_205)
  have P271 : ∀ t, Steps p.tables e below (T270.setTop (mkF m 208 #[.val (.int p1), .unset, .unset, .unset] [(.ref w_IFF), (.int (29 : Int32)), (.ref ba), (.ref ba)])) t → Steps p.tables e below (s₁.setTop (entryFrame m #[(.int p1)] maxLocals)) t := fun t k => P269 _ (st270 _ k)
  obtain ⟨cl272, Ar272, q272, S272, M272, H272, G272⟩ := F265
  have in272 : ¬ ((29 : Int32) < 0 ∨ cl272.slots.size ≤ ((29 : Int32)).toNatClampNeg) := inb_of S272 ⟨by decide, by decide⟩
  have so272 : Sto Z h263 ba (.ref w_IFF) := Sto.ofV Ar272 q272 ov_ba (Ins.self (E_IFF.ext F264.2))
  obtain ⟨T272, h272, X272, e272, W272, st272⟩ := stR X270 hx hZ e270 Ar272 (j := (29 : Int32)) in272 rfl so272 (g := (mkF m 208 #[.val (.int p1), .unset, .unset, .unset] [(.ref w_IFF), (.int (29 : Int32)), (.ref ba), (.ref ba)])) rfl rfl (hb hby at_208)
  have F273 : Old Z n0 h272 := F264.wr W272 g_ba
  have F274 : Arv Z h272 ba kc_ba (.object "com/example/prudent_checker/prudentchecker/smv/Operator") (31 : Int32) [(.ref w_NOT), (.ref w_NEGATE), (.ref w_TIMES), (.ref w_DIVIDE), (.ref w_MOD), (.ref w_PLUS), (.ref w_MINUS), (.ref w_EQUAL), (.ref w_NOT_EQUAL), (.ref w_LESS), (.ref w_LESS_EQUAL), (.ref w_GREATER), (.ref w_GREATER_EQUAL), (.ref w_EX), (.ref w_EF), (.ref w_EG), (.ref w_AX), (.ref w_AF), (.ref w_AG), (.ref w_EU), (.ref w_AU), (.ref w_X), (.ref w_F), (.ref w_G), (.ref w_U), (.ref w_V), (.ref w_AND), (.ref w_OR), (.ref w_XOR), (.ref w_IFF), .null] .null := Arv.set Ar272 q272 S272 M272 H272 G272 rfl W272 29 rfl (Nat.le_of_ble_eq_true rfl)
  have Z275 : n0 ≤ h272.size := Nat.le_trans Z266 (Keep.of_wr W272).1
  have K276 : Keep h0 h272 [] := K267.wr W272 (Or.inr sz_ba)
  obtain ⟨LL272, X272, N272⟩ := own_gen X272 (Fr.snoc X272 N263 g_ba)
  have P277 : ∀ t, Steps p.tables e below (T272.setTop (mkF m 209 #[.val (.int p1), .unset, .unset, .unset] [(.ref ba)])) t → Steps p.tables e below (s₁.setTop (entryFrame m #[(.int p1)] maxLocals)) t := fun t k => P271 _ (st272 _ k)
  have P278 : ∀ t, Steps p.tables e below (T272.setTop (mkF m 212 #[.val (.int p1), .unset, .unset, .unset] [(.int (30 : Int32)), (.ref ba), (.ref ba)])) t → Steps p.tables e below (s₁.setTop (entryFrame m #[(.int p1)] maxLocals)) t := by
    intro t k
    refine P277 _ ?_
    refine XS.dup X272.here hx rfl (hb hby at_209) rfl rfl ?_
    show Steps p.tables e below (T272.setTop (mkF m 210 #[.val (.int p1), .unset, .unset, .unset] [(.ref ba), (.ref ba)])) _
    refine XS.bipush X272.here hx rfl (hb hby at_210) ?_
    show Steps p.tables e below (T272.setTop (mkF m 212 #[.val (.int p1), .unset, .unset, .unset] [(.int (30 : Int32)), (.ref ba), (.ref ba)])) _
    exact k
  obtain ⟨T279, X279, e279, st279⟩ := getS2 X272 hx hZ hown (host := "") (Or.inl (hw _ (List.mem_of_getElem? (i := 64) rfl))) Via.refl e272 (S_IMPLIES.ext F273.2) (g := (mkF m 212 #[.val (.int p1), .unset, .unset, .unset] [(.int (30 : Int32)), (.ref ba), (.ref ba)])) rfl (hb hby at_212)
  have P280 : ∀ t, Steps p.tables e below (T279.setTop (mkF m 215 #[.val (.int p1), .unset, .unset, .unset] [(.ref w_IMPLIES), (.int (30 : Int32)), (.ref ba), (.ref ba)])) t → Steps p.tables e below (s₁.setTop (entryFrame m #[(.int p1)] maxLocals)) t := fun t k => P278 _ (st279 _ k)
  obtain ⟨cl281, Ar281, q281, S281, M281, H281, G281⟩ := F274
  have in281 : ¬ ((30 : Int32) < 0 ∨ cl281.slots.size ≤ ((30 : Int32)).toNatClampNeg) := inb_of S281 ⟨by decide, by decide⟩
  have so281 : Sto Z h272 ba (.ref w_IMPLIES) := Sto.ofV Ar281 q281 ov_ba (Ins.self (E_IMPLIES.ext F273.2))
  obtain ⟨T281, h281, X281, e281, W281, st281⟩ := stR X279 hx hZ e279 Ar281 (j := (30 : Int32)) in281 rfl so281 (g := (mkF m 215 #[.val (.int p1), .unset, .unset, .unset] [(.ref w_IMPLIES), (.int (30 : Int32)), (.ref ba), (.ref ba)])) rfl rfl (hb hby at_215)
  have F282 : Old Z n0 h281 := F273.wr W281 g_ba
  have F283 : Arv Z h281 ba kc_ba (.object "com/example/prudent_checker/prudentchecker/smv/Operator") (31 : Int32) [(.ref w_NOT), (.ref w_NEGATE), (.ref w_TIMES), (.ref w_DIVIDE), (.ref w_MOD), (.ref w_PLUS), (.ref w_MINUS), (.ref w_EQUAL), (.ref w_NOT_EQUAL), (.ref w_LESS), (.ref w_LESS_EQUAL), (.ref w_GREATER), (.ref w_GREATER_EQUAL), (.ref w_EX), (.ref w_EF), (.ref w_EG), (.ref w_AX), (.ref w_AF), (.ref w_AG), (.ref w_EU), (.ref w_AU), (.ref w_X), (.ref w_F), (.ref w_G), (.ref w_U), (.ref w_V), (.ref w_AND), (.ref w_OR), (.ref w_XOR), (.ref w_IFF), (.ref w_IMPLIES)] .null := Arv.set Ar281 q281 S281 M281 H281 G281 rfl W281 30 rfl (Nat.le_of_ble_eq_true rfl)
  have Z284 : n0 ≤ h281.size := Nat.le_trans Z275 (Keep.of_wr W281).1
  have K285 : Keep h0 h281 [] := K276.wr W281 (Or.inr sz_ba)
  obtain ⟨LL281, X281, N281⟩ := own_gen X281 (Fr.snoc X281 N272 g_ba)
  have P286 : ∀ t, Steps p.tables e below (T281.setTop (mkF m 216 #[.val (.int p1), .unset, .unset, .unset] [(.ref ba)])) t → Steps p.tables e below (s₁.setTop (entryFrame m #[(.int p1)] maxLocals)) t := fun t k => P280 _ (st281 _ k)
  have P287 : ∀ t, Steps p.tables e below (T281.setTop (mkF m 225 #[.val (.int p1), .val (.ref ba), .val (.int ((p1 &&& (2147483647 : Int32)) % (31 : Int32))), .unset] [])) t → Steps p.tables e below (s₁.setTop (entryFrame m #[(.int p1)] maxLocals)) t := by
    intro t k
    refine P286 _ ?_
    refine XS.astoreN X281.here hx rfl (hb hby at_216) rfl rfl (l' := #[.val (.int p1), .val (.ref ba), .unset, .unset]) rfl ?_
    show Steps p.tables e below (T281.setTop (mkF m 217 #[.val (.int p1), .val (.ref ba), .unset, .unset] [])) _
    refine XS.iloadN X281.here hx rfl (hb hby at_217) rfl ?_
    show Steps p.tables e below (T281.setTop (mkF m 218 #[.val (.int p1), .val (.ref ba), .unset, .unset] [(.int p1)])) _
    refine Jvm.Stand.ldcI X281 hx hown (mvT hZ (hw _ (List.mem_of_getElem? (i := 66) rfl))) rfl (hb hby at_218) ?_
    show Steps p.tables e below (T281.setTop (mkF m 220 #[.val (.int p1), .val (.ref ba), .unset, .unset] [(.int (2147483647 : Int32)), (.int p1)])) _
    refine XS.iand X281.here hx rfl (hb hby at_220) rfl ?_
    show Steps p.tables e below (T281.setTop (mkF m 221 #[.val (.int p1), .val (.ref ba), .unset, .unset] [(.int (p1 &&& (2147483647 : Int32)))])) _
    refine XS.bipush X281.here hx rfl (hb hby at_221) ?_
    show Steps p.tables e below (T281.setTop (mkF m 223 #[.val (.int p1), .val (.ref ba), .unset, .unset] [(.int (31 : Int32)), (.int (p1 &&& (2147483647 : Int32)))])) _
    refine iremM X281 hx rfl (hb hby at_223) rfl (by decide) ?_
    show Steps p.tables e below (T281.setTop (mkF m 224 #[.val (.int p1), .val (.ref ba), .unset, .unset] [(.int ((p1 &&& (2147483647 : Int32)) % (31 : Int32)))])) _
    refine XS.istoreN X281.here hx rfl (hb hby at_224) rfl (l' := #[.val (.int p1), .val (.ref ba), .val (.int ((p1 &&& (2147483647 : Int32)) % (31 : Int32))), .unset]) rfl ?_
    show Steps p.tables e below (T281.setTop (mkF m 225 #[.val (.int p1), .val (.ref ba), .val (.int ((p1 &&& (2147483647 : Int32)) % (31 : Int32))), .unset] [])) _
    exact k
  obtain ⟨kx, hkx⟩ : ∃ z : Int32, z = ((p1 &&& (2147483647 : Int32)) % (31 : Int32)) := ⟨_, rfl⟩
  rw [← hkx] at P287
  have hkr := own_rem hkx (by decide : (31 : Int32).toInt = 31) (by decide)
  have hkin : ¬ kx < (0 : Int32) ∧ kx < (31 : Int32) := own_in hkr (by decide)
  have P288 : ∀ t, Steps p.tables e below (T281.setTop (mkF m 242 #[.val (.int p1), .val (.ref ba), .val (.int kx), .unset] [(.int (if kx < (13 : Int32) then (0 : Int32) else (if (25 : Int32) < kx then (0 : Int32) else (1 : Int32))))])) t → Steps p.tables e below (s₁.setTop (entryFrame m #[(.int p1)] maxLocals)) t := by
    intro t k
    refine P287 _ ?_
    refine XS.iloadN X281.here hx rfl (hb hby at_225) rfl ?_
    show Steps p.tables e below (T281.setTop (mkF m 226 #[.val (.int p1), .val (.ref ba), .val (.int kx), .unset] [(.int kx)])) _
    refine XS.bipush X281.here hx rfl (hb hby at_226) ?_
    show Steps p.tables e below (T281.setTop (mkF m 228 #[.val (.int p1), .val (.ref ba), .val (.int kx), .unset] [(.int (13 : Int32)), (.int kx)])) _
    by_cases c228 : kx < (13 : Int32)
    · try simp only [if_pos c228] at k
      refine XS.icmpYes X281.here hx rfl (pc0 := 228) (pc' := 241) rfl (hb hby at_228) rfl (XT.ii_lt_t c228) (by decide) (by decide) ?_
      show Steps p.tables e below (T281.setTop (mkF m 241 #[.val (.int p1), .val (.ref ba), .val (.int kx), .unset] [])) _
      refine XS.iconst X281.here hx rfl (hb hby at_241) ?_
      show Steps p.tables e below (T281.setTop (mkF m 242 #[.val (.int p1), .val (.ref ba), .val (.int kx), .unset] [(.int (0 : Int32))])) _
      exact k
    · try simp only [if_neg c228] at k
      refine XS.icmpNo X281.here hx rfl (hb hby at_228) rfl (XT.ii_lt_f c228) ?_
      show Steps p.tables e below (T281.setTop (mkF m 231 #[.val (.int p1), .val (.ref ba), .val (.int kx), .unset] [])) _
      refine XS.iloadN X281.here hx rfl (hb hby at_231) rfl ?_
      show Steps p.tables e below (T281.setTop (mkF m 232 #[.val (.int p1), .val (.ref ba), .val (.int kx), .unset] [(.int kx)])) _
      refine XS.bipush X281.here hx rfl (hb hby at_232) ?_
      show Steps p.tables e below (T281.setTop (mkF m 234 #[.val (.int p1), .val (.ref ba), .val (.int kx), .unset] [(.int (25 : Int32)), (.int kx)])) _
      by_cases c234 : (25 : Int32) < kx
      · try simp only [if_pos c234] at k
        refine XS.icmpYes X281.here hx rfl (pc0 := 234) (pc' := 241) rfl (hb hby at_234) rfl (XT.ii_gt_t c234) (by decide) (by decide) ?_
        show Steps p.tables e below (T281.setTop (mkF m 241 #[.val (.int p1), .val (.ref ba), .val (.int kx), .unset] [])) _
        refine XS.iconst X281.here hx rfl (hb hby at_241) ?_
        show Steps p.tables e below (T281.setTop (mkF m 242 #[.val (.int p1), .val (.ref ba), .val (.int kx), .unset] [(.int (0 : Int32))])) _
        exact k
      · try simp only [if_neg c234] at k
        refine XS.icmpNo X281.here hx rfl (hb hby at_234) rfl (XT.ii_gt_f c234) ?_
        show Steps p.tables e below (T281.setTop (mkF m 237 #[.val (.int p1), .val (.ref ba), .val (.int kx), .unset] [])) _
        refine XS.iconst X281.here hx rfl (hb hby at_237) ?_
        show Steps p.tables e below (T281.setTop (mkF m 238 #[.val (.int p1), .val (.ref ba), .val (.int kx), .unset] [(.int (1 : Int32))])) _
        refine XS.goto X281.here hx rfl (pc0 := 238) (pc' := 242) rfl (hb hby at_238) (by decide) (by decide) ?_
        show Steps p.tables e below (T281.setTop (mkF m 242 #[.val (.int p1), .val (.ref ba), .val (.int kx), .unset] [(.int (1 : Int32))])) _
        exact k
  obtain ⟨y228, hy228⟩ : ∃ z : Int32, z = (if kx < (13 : Int32) then (0 : Int32) else (if (25 : Int32) < kx then (0 : Int32) else (1 : Int32))) := ⟨_, rfl⟩
  rw [← hy228] at P288
  have P289 : ∀ t, Steps p.tables e below (T281.setTop (mkF m 243 #[.val (.int p1), .val (.ref ba), .val (.int kx), .val (.int y228)] [])) t → Steps p.tables e below (s₁.setTop (entryFrame m #[(.int p1)] maxLocals)) t := by
    intro t k
    refine P288 _ ?_
    refine XS.istoreN X281.here hx rfl (hb hby at_242) rfl (l' := #[.val (.int p1), .val (.ref ba), .val (.int kx), .val (.int y228)]) rfl ?_
    show Steps p.tables e below (T281.setTop (mkF m 243 #[.val (.int p1), .val (.ref ba), .val (.int kx), .val (.int y228)] [])) _
    exact k
  obtain ⟨bp, hbp, Ebp, lg, Flg, hlr, hlg⟩ : ∃ bp : Addr, ([(.ref w_NOT), (.ref w_NEGATE), (.ref w_TIMES), (.ref w_DIVIDE), (.ref w_MOD), (.ref w_PLUS), (.ref w_MINUS), (.ref w_EQUAL), (.ref w_NOT_EQUAL), (.ref w_LESS), (.ref w_LESS_EQUAL), (.ref w_GREATER), (.ref w_GREATER_EQUAL), (.ref w_EX), (.ref w_EF), (.ref w_EG), (.ref w_AX), (.ref w_AF), (.ref w_AG), (.ref w_EU), (.ref w_AU), (.ref w_X), (.ref w_F), (.ref w_G), (.ref w_U), (.ref w_V), (.ref w_AND), (.ref w_OR), (.ref w_XOR), (.ref w_IFF), (.ref w_IMPLIES)] : List Value).getD kx.toNatClampNeg .null = .ref bp ∧ Exa Z h281 bp "com/example/prudent_checker/prudentchecker/smv/Operator" ∧ ∃ lg : Value, Fld Z h281 bp "com/example/prudent_checker/prudentchecker/smv/Operator" "logic" "Lcom/example/prudent_checker/prudentchecker/smv/Logic;" lg ∧ lg.isRef = true ∧ (if lg = .null then (0 : Int32) else (1 : Int32)) = y228 := by
    rw [hy228]
    clear P289
    rcases own_31 hkr with rfl | rfl | rfl | rfl | rfl | rfl | rfl | rfl | rfl | rfl | rfl | rfl | rfl | rfl | rfl | rfl | rfl | rfl | rfl | rfl | rfl | rfl | rfl | rfl | rfl | rfl | rfl | rfl | rfl | rfl | rfl
    · exact ⟨w_NOT, rfl, E_NOT.ext F282.2, _, G_NOT.ext F282.2, rfl, by rw [if_pos rfl]; decide⟩
    · exact ⟨w_NEGATE, rfl, E_NEGATE.ext F282.2, _, G_NEGATE.ext F282.2, rfl, by rw [if_pos rfl]; decide⟩
    · exact ⟨w_TIMES, rfl, E_TIMES.ext F282.2, _, G_TIMES.ext F282.2, rfl, by rw [if_pos rfl]; decide⟩
    · exact ⟨w_DIVIDE, rfl, E_DIVIDE.ext F282.2, _, G_DIVIDE.ext F282.2, rfl, by rw [if_pos rfl]; decide⟩
    · exact ⟨w_MOD, rfl, E_MOD.ext F282.2, _, G_MOD.ext F282.2, rfl, by rw [if_pos rfl]; decide⟩
    · exact ⟨w_PLUS, rfl, E_PLUS.ext F282.2, _, G_PLUS.ext F282.2, rfl, by rw [if_pos rfl]; decide⟩
    · exact ⟨w_MINUS, rfl, E_MINUS.ext F282.2, _, G_MINUS.ext F282.2, rfl, by rw [if_pos rfl]; decide⟩
    · exact ⟨w_EQUAL, rfl, E_EQUAL.ext F282.2, _, G_EQUAL.ext F282.2, rfl, by rw [if_pos rfl]; decide⟩
    · exact ⟨w_NOT_EQUAL, rfl, E_NOT_EQUAL.ext F282.2, _, G_NOT_EQUAL.ext F282.2, rfl, by rw [if_pos rfl]; decide⟩
    · exact ⟨w_LESS, rfl, E_LESS.ext F282.2, _, G_LESS.ext F282.2, rfl, by rw [if_pos rfl]; decide⟩
    · exact ⟨w_LESS_EQUAL, rfl, E_LESS_EQUAL.ext F282.2, _, G_LESS_EQUAL.ext F282.2, rfl, by rw [if_pos rfl]; decide⟩
    · exact ⟨w_GREATER, rfl, E_GREATER.ext F282.2, _, G_GREATER.ext F282.2, rfl, by rw [if_pos rfl]; decide⟩
    · exact ⟨w_GREATER_EQUAL, rfl, E_GREATER_EQUAL.ext F282.2, _, G_GREATER_EQUAL.ext F282.2, rfl, by rw [if_pos rfl]; decide⟩
    · exact ⟨w_EX, rfl, E_EX.ext F282.2, _, G_EX.ext F282.2, rfl, by rw [if_neg (by simp)]; decide⟩
    · exact ⟨w_EF, rfl, E_EF.ext F282.2, _, G_EF.ext F282.2, rfl, by rw [if_neg (by simp)]; decide⟩
    · exact ⟨w_EG, rfl, E_EG.ext F282.2, _, G_EG.ext F282.2, rfl, by rw [if_neg (by simp)]; decide⟩
    · exact ⟨w_AX, rfl, E_AX.ext F282.2, _, G_AX.ext F282.2, rfl, by rw [if_neg (by simp)]; decide⟩
    · exact ⟨w_AF, rfl, E_AF.ext F282.2, _, G_AF.ext F282.2, rfl, by rw [if_neg (by simp)]; decide⟩
    · exact ⟨w_AG, rfl, E_AG.ext F282.2, _, G_AG.ext F282.2, rfl, by rw [if_neg (by simp)]; decide⟩
    · exact ⟨w_EU, rfl, E_EU.ext F282.2, _, G_EU.ext F282.2, rfl, by rw [if_neg (by simp)]; decide⟩
    · exact ⟨w_AU, rfl, E_AU.ext F282.2, _, G_AU.ext F282.2, rfl, by rw [if_neg (by simp)]; decide⟩
    · exact ⟨w_X, rfl, E_X.ext F282.2, _, G_X.ext F282.2, rfl, by rw [if_neg (by simp)]; decide⟩
    · exact ⟨w_F, rfl, E_F.ext F282.2, _, G_F.ext F282.2, rfl, by rw [if_neg (by simp)]; decide⟩
    · exact ⟨w_G, rfl, E_G.ext F282.2, _, G_G.ext F282.2, rfl, by rw [if_neg (by simp)]; decide⟩
    · exact ⟨w_U, rfl, E_U.ext F282.2, _, G_U.ext F282.2, rfl, by rw [if_neg (by simp)]; decide⟩
    · exact ⟨w_V, rfl, E_V.ext F282.2, _, G_V.ext F282.2, rfl, by rw [if_neg (by simp)]; decide⟩
    · exact ⟨w_AND, rfl, E_AND.ext F282.2, _, G_AND.ext F282.2, rfl, by rw [if_pos rfl]; decide⟩
    · exact ⟨w_OR, rfl, E_OR.ext F282.2, _, G_OR.ext F282.2, rfl, by rw [if_pos rfl]; decide⟩
    · exact ⟨w_XOR, rfl, E_XOR.ext F282.2, _, G_XOR.ext F282.2, rfl, by rw [if_pos rfl]; decide⟩
    · exact ⟨w_IFF, rfl, E_IFF.ext F282.2, _, G_IFF.ext F282.2, rfl, by rw [if_pos rfl]; decide⟩
    · exact ⟨w_IMPLIES, rfl, E_IMPLIES.ext F282.2, _, G_IMPLIES.ext F282.2, rfl, by rw [if_pos rfl]; decide⟩
  have P290 : ∀ t, Steps p.tables e below (T281.setTop (mkF m 246 #[.val (.int p1), .val (.ref ba), .val (.int kx), .val (.int y228)] [(.ref bp)])) t → Steps p.tables e below (s₁.setTop (entryFrame m #[(.int p1)] maxLocals)) t := by
    intro t k
    refine P289 _ ?_
    refine XS.aloadN X281.here hx rfl (hb hby at_243) rfl rfl ?_
    show Steps p.tables e below (T281.setTop (mkF m 244 #[.val (.int p1), .val (.ref ba), .val (.int kx), .val (.int y228)] [(.ref ba)])) _
    refine XS.iloadN X281.here hx rfl (hb hby at_244) rfl ?_
    show Steps p.tables e below (T281.setTop (mkF m 245 #[.val (.int p1), .val (.ref ba), .val (.int kx), .val (.int y228)] [(.int kx), (.ref ba)])) _
    refine own_aal X281 hx hZ e281 F283 hkin (v := (.ref bp)) hbp rfl rfl (hb hby at_245) ?_
    show Steps p.tables e below (T281.setTop (mkF m 246 #[.val (.int p1), .val (.ref ba), .val (.int kx), .val (.int y228)] [(.ref bp)])) _
    exact k
  obtain ⟨cq291, kq291, qa291, qb291, qc291⟩ := isOf hZ e281 Ebp
  obtain ⟨_, _, ⟨T291, L291, k291, n291⟩, -, X291, ⟨Lc291, hQ291, l291, y291, z291⟩, st291⟩ := X281.virtualBack hx (y := (⟨"com/example/prudent_checker/prudentchecker/smv/Operator", "isTemporal", "()Z"⟩ : MethodName)) (z := (⟨"com/example/prudent_checker/prudentchecker/smv/Operator", "isTemporal", "()Z"⟩ : MethodName)) hown (mvT hZ (hw _ (List.mem_of_getElem? (i := 67) rfl))) (mvT hZ (hw _ (List.mem_of_getElem? (i := 68) rfl))) (notFace_of_selects (args := #[]) (mvT hZ (hw _ (List.mem_of_getElem? (i := 70) rfl)))) (mvT hZ (hw _ (List.mem_of_getElem? (i := 70) rfl))) (mvT hZ (hw _ (List.mem_of_getElem? (i := 69) rfl))) (by decide) (backOf (W := 0) (rm1 l Z a0 hw [] bp lg h281 n0 Z284 Flg hlr) hZ (hw _ (List.mem_of_getElem? (i := 71) rfl)) (hw _ (List.mem_of_getElem? (i := 3) rfl)) (by decide) (by decide)) qa291 qc291 (g := (mkF m 246 #[.val (.int p1), .val (.ref ba), .val (.int kx), .val (.int y228)] [(.ref bp)])) rfl (by rw [hml]; rfl) (Steps.refl _) (argsL := []) (rest := []) (lenOf pd_0 rfl) rfl (by show 2 * 0 + _ ≤ _; exact Nat.le_of_eq rfl) (hb hby at_246) (fun _ _ => ⟨rfl, e281, (by decide : 1 + 0 ≤ _), (by decide : 31 + 0 ≤ _)⟩)
  dsimp only [Pt.U, Pt.locs, Pt.cells, Pt.slots] at X291 l291 y291 z291 st291 hQ291
  subst l291 y291 z291
  obtain ⟨rfl, N291q, e291⟩ := hQ291
  have N291 := Fr.app N281 N291q
  have P292 : ∀ t, Steps p.tables e below (T291.setTop (mkF m 249 #[.val (.int p1), .val (.ref ba), .val (.int kx), .val (.int y228)] [(.int (if lg = .null then (0 : Int32) else (1 : Int32)))])) t → Steps p.tables e below (s₁.setTop (entryFrame m #[(.int p1)] maxLocals)) t := fun t k => P290 _ (st291.trans k)
  obtain ⟨r, hr⟩ : ∃ z : Int32, z = (if lg = .null then (0 : Int32) else (1 : Int32)) := ⟨_, rfl⟩
  rw [← hr] at P292
  have re : r = y228 := by rw [hr]; exact hlg
  have P293 : ∀ t, Steps p.tables e below (T291.setTop (mkF m 258 #[.val (.int p1), .val (.ref ba), .val (.int kx), .val (.int y228)] [(.int (1 : Int32))])) t → Steps p.tables e below (s₁.setTop (entryFrame m #[(.int p1)] maxLocals)) t := by
    intro t k
    refine P292 _ ?_
    refine XS.iloadN X291.here hx rfl (hb hby at_249) rfl ?_
    show Steps p.tables e below (T291.setTop (mkF m 250 #[.val (.int p1), .val (.ref ba), .val (.int kx), .val (.int y228)] [(.int y228), (.int r)])) _
    refine XS.icmpNo X291.here hx rfl (hb hby at_250) rfl (XT.ii_ne_f re) ?_
    show Steps p.tables e below (T291.setTop (mkF m 253 #[.val (.int p1), .val (.ref ba), .val (.int kx), .val (.int y228)] [])) _
    refine XS.iconst X291.here hx rfl (hb hby at_253) ?_
    show Steps p.tables e below (T291.setTop (mkF m 254 #[.val (.int p1), .val (.ref ba), .val (.int kx), .val (.int y228)] [(.int (1 : Int32))])) _
    refine XS.goto X291.here hx rfl (pc0 := 254) (pc' := 258) rfl (hb hby at_254) (by decide) (by decide) ?_
    show Steps p.tables e below (T291.setTop (mkF m 258 #[.val (.int p1), .val (.ref ba), .val (.int kx), .val (.int y228)] [(.int (1 : Int32))])) _
    exact k
  obtain ⟨fs, hr, hrun, hended, hW, hsame⟩ := X291.leave (v := some (.int (1 : Int32))) (fun h => by rw [Bd.returns] at h; cases h)
  refine ⟨_, _, P293 _ ?_, hrun, hended, _, _, rfl, ?_, ⟨_, rfl⟩, hW, hsame.mono (by decide) (by decide)⟩
  · exact retN X291 hx (t := .boolean) Bd.returns (by simp) (hb hby at_258) hr
  · show Q0 Z p1 w_NOT w_NEGATE w_TIMES w_DIVIDE w_MOD w_PLUS w_MINUS w_EQUAL w_NOT_EQUAL w_LESS w_LESS_EQUAL w_GREATER w_GREATER_EQUAL w_EX w_EF w_EG w_AX w_AF w_AG w_EU w_AU w_X w_F w_G w_U w_V w_AND w_OR w_XOR w_IFF w_IMPLIES w_CTL w_LTL h0 n0 _ T291.heap _
    rw [e291]
    exact ⟨rfl, N291⟩
set_option maxRecDepth 65536 in
set_option maxHeartbeats 40000000 in
theorem comes_1 {Post : Tables → Env → Array Value → State → Outcome → State → Prop} (hpost : ∀ tb e args s v u, (limb_1_1.after args s (.returned v) u = true ∧ limb_1_2.after args s (.returned v) u = true ∧ True) → FrameEnd s (.returned v) u (Jvm.fieldLocs frame_1_writes args s ++ Jvm.arrayLocs frame_1_arrays args s ++ Jvm.staticLocs frame_1_statics s) 16 128 → Post tb e args s (.returned v) u) :
    ArmFor flags0 classFile x code maxLocals ret World_1 tables_1 room_1 Calls_1 rest_1 Pre_1 Post := by
  intro l hfl _ _ p e ha hc hk s m args below hf hA hF happ hP
  obtain ⟨hcalls, hrest, hpre⟩ := hP
  obtain ⟨-, -, -, hnamed, -, -, -, hat⟩ := (Spec.applies_iff hf).mp happ
  obtain ⟨hg, hn⟩ := and_e (Cond.before_iff.mp (show (Jvm.Cond.and given_1 narrow_1).before args s = true from hpre))
  obtain ⟨g1, g2⟩ := and_e hg
  obtain ⟨w0, rfl⟩ : ∃ w0 : Value, args = #[w0] := by
    have hs : args.size = 1 := by simpa [Cond.value, given_1] using g1
    obtain ⟨L⟩ := args
    match L, hs with
    | [w0], _ => exact ⟨w0, rfl⟩
  have hw := fun d (hd : d ∈ tables_1) => atoms_spec (ws := Jvm.Cond.code x code maxLocals ret :: tables_1) hat d (List.mem_cons_of_mem _ hd)
  have hfit : Fit s := fun {y c} hc i hi => by
    obtain ⟨ha, rfl⟩ := Array.getElem?_eq_some_iff.mp hc
    have q := List.all_eq_true.mp ((Array.all_eq_true_iff_forall_mem.mp hF) _ (Array.getElem_mem ha)) i (List.mem_range.mpr hi)
    simpa [Array.getElem?_eq_getElem hi] using q
  obtain ⟨i0, ei0⟩ := is_v g2
  obtain rfl : w0 = (.int i0) := Option.some.inj ei0
  obtain ⟨t1, u1⟩ := and_e hn
  obtain ⟨t2, u2⟩ := and_e u1
  obtain ⟨t3, u3⟩ := and_e u2
  obtain ⟨t4, u4⟩ := and_e u3
  obtain ⟨t5, u5⟩ := and_e u4
  obtain ⟨t6, u6⟩ := and_e u5
  obtain ⟨t7, u7⟩ := and_e u6
  obtain ⟨t8, u8⟩ := and_e u7
  obtain ⟨t9, u9⟩ := and_e u8
  obtain ⟨t10, u10⟩ := and_e u9
  obtain ⟨t11, u11⟩ := and_e u10
  obtain ⟨t12, u12⟩ := and_e u11
  obtain ⟨t13, u13⟩ := and_e u12
  obtain ⟨t14, u14⟩ := and_e u13
  obtain ⟨t15, u15⟩ := and_e u14
  obtain ⟨t16, u16⟩ := and_e u15
  obtain ⟨t17, u17⟩ := and_e u16
  obtain ⟨t18, u18⟩ := and_e u17
  obtain ⟨t19, u19⟩ := and_e u18
  obtain ⟨t20, u20⟩ := and_e u19
  obtain ⟨t21, u21⟩ := and_e u20
  obtain ⟨t22, u22⟩ := and_e u21
  obtain ⟨t23, u23⟩ := and_e u22
  obtain ⟨t24, u24⟩ := and_e u23
  obtain ⟨t25, u25⟩ := and_e u24
  obtain ⟨t26, u26⟩ := and_e u25
  obtain ⟨t27, u27⟩ := and_e u26
  obtain ⟨t28, u28⟩ := and_e u27
  obtain ⟨t29, u29⟩ := and_e u28
  obtain ⟨t30, u30⟩ := and_e u29
  obtain ⟨t31, u31⟩ := and_e u30
  obtain ⟨t32, u32⟩ := and_e u31
  obtain ⟨t33, u33⟩ := and_e u32
  obtain ⟨t34, u34⟩ := and_e u33
  obtain ⟨t35, u35⟩ := and_e u34
  obtain ⟨t36, u36⟩ := and_e u35
  obtain ⟨t37, u37⟩ := and_e u36
  obtain ⟨t38, u38⟩ := and_e u37
  obtain ⟨t39, u39⟩ := and_e u38
  obtain ⟨t40, u40⟩ := and_e u39
  obtain ⟨t41, u41⟩ := and_e u40
  obtain ⟨t42, u42⟩ := and_e u41
  obtain ⟨t43, u43⟩ := and_e u42
  obtain ⟨t44, u44⟩ := and_e u43
  obtain ⟨t45, u45⟩ := and_e u44
  obtain ⟨t46, u46⟩ := and_e u45
  obtain ⟨t47, u47⟩ := and_e u46
  obtain ⟨t48, u48⟩ := and_e u47
  obtain ⟨t49, u49⟩ := and_e u48
  obtain ⟨t50, u50⟩ := and_e u49
  obtain ⟨t51, u51⟩ := and_e u50
  obtain ⟨t52, u52⟩ := and_e u51
  obtain ⟨t53, u53⟩ := and_e u52
  obtain ⟨t54, u54⟩ := and_e u53
  obtain ⟨t55, u55⟩ := and_e u54
  obtain ⟨t56, u56⟩ := and_e u55
  obtain ⟨t57, u57⟩ := and_e u56
  obtain ⟨t58, u58⟩ := and_e u57
  obtain ⟨t59, u59⟩ := and_e u58
  obtain ⟨t60, u60⟩ := and_e u59
  obtain ⟨t61, u61⟩ := and_e u60
  obtain ⟨t62, u62⟩ := and_e u61
  obtain ⟨t63, u63⟩ := and_e u62
  obtain ⟨w_CTL, ev_CTL⟩ := exa_v t34
  obtain ⟨w_LTL, ev_LTL⟩ := exa_v t36
  obtain ⟨w_NOT, ev_NOT⟩ := exa_v t1
  have E_NOT := Exa.start ev_NOT t1
  have S_NOT := Sta.start ev_NOT (Or.inr ⟨(hw _ (List.mem_of_getElem? (i := 3) rfl)), (hw _ (List.mem_of_getElem? (i := 4) rfl))⟩)
  have F_NOT_logic := own_fldN ev_NOT t32
  obtain ⟨w_NEGATE, ev_NEGATE⟩ := exa_v t2
  have E_NEGATE := Exa.start ev_NEGATE t2
  have S_NEGATE := Sta.start ev_NEGATE (Or.inr ⟨(hw _ (List.mem_of_getElem? (i := 3) rfl)), (hw _ (List.mem_of_getElem? (i := 7) rfl))⟩)
  have F_NEGATE_logic := own_fldN ev_NEGATE t45
  obtain ⟨w_TIMES, ev_TIMES⟩ := exa_v t3
  have E_TIMES := Exa.start ev_TIMES t3
  have S_TIMES := Sta.start ev_TIMES (Or.inr ⟨(hw _ (List.mem_of_getElem? (i := 3) rfl)), (hw _ (List.mem_of_getElem? (i := 9) rfl))⟩)
  have F_TIMES_logic := own_fldN ev_TIMES t41
  obtain ⟨w_DIVIDE, ev_DIVIDE⟩ := exa_v t4
  have E_DIVIDE := Exa.start ev_DIVIDE t4
  have S_DIVIDE := Sta.start ev_DIVIDE (Or.inr ⟨(hw _ (List.mem_of_getElem? (i := 3) rfl)), (hw _ (List.mem_of_getElem? (i := 11) rfl))⟩)
  have F_DIVIDE_logic := own_fldN ev_DIVIDE t33
  obtain ⟨w_MOD, ev_MOD⟩ := exa_v t5
  have E_MOD := Exa.start ev_MOD t5
  have S_MOD := Sta.start ev_MOD (Or.inr ⟨(hw _ (List.mem_of_getElem? (i := 3) rfl)), (hw _ (List.mem_of_getElem? (i := 13) rfl))⟩)
  have F_MOD_logic := own_fldN ev_MOD t61
  obtain ⟨w_PLUS, ev_PLUS⟩ := exa_v t6
  have E_PLUS := Exa.start ev_PLUS t6
  have S_PLUS := Sta.start ev_PLUS (Or.inr ⟨(hw _ (List.mem_of_getElem? (i := 3) rfl)), (hw _ (List.mem_of_getElem? (i := 15) rfl))⟩)
  have F_PLUS_logic := own_fldN ev_PLUS t59
  obtain ⟨w_MINUS, ev_MINUS⟩ := exa_v t7
  have E_MINUS := Exa.start ev_MINUS t7
  have S_MINUS := Sta.start ev_MINUS (Or.inr ⟨(hw _ (List.mem_of_getElem? (i := 3) rfl)), (hw _ (List.mem_of_getElem? (i := 17) rfl))⟩)
  have F_MINUS_logic := own_fldN ev_MINUS t57
  obtain ⟨w_EQUAL, ev_EQUAL⟩ := exa_v t8
  have E_EQUAL := Exa.start ev_EQUAL t8
  have S_EQUAL := Sta.start ev_EQUAL (Or.inr ⟨(hw _ (List.mem_of_getElem? (i := 3) rfl)), (hw _ (List.mem_of_getElem? (i := 19) rfl))⟩)
  have F_EQUAL_logic := own_fldN ev_EQUAL t40
  obtain ⟨w_NOT_EQUAL, ev_NOT_EQUAL⟩ := exa_v t9
  have E_NOT_EQUAL := Exa.start ev_NOT_EQUAL t9
  have S_NOT_EQUAL := Sta.start ev_NOT_EQUAL (Or.inr ⟨(hw _ (List.mem_of_getElem? (i := 3) rfl)), (hw _ (List.mem_of_getElem? (i := 21) rfl))⟩)
  have F_NOT_EQUAL_logic := own_fldN ev_NOT_EQUAL t44
  obtain ⟨w_LESS, ev_LESS⟩ := exa_v t10
  have E_LESS := Exa.start ev_LESS t10
  have S_LESS := Sta.start ev_LESS (Or.inr ⟨(hw _ (List.mem_of_getElem? (i := 3) rfl)), (hw _ (List.mem_of_getElem? (i := 23) rfl))⟩)
  have F_LESS_logic := own_fldN ev_LESS t58
  obtain ⟨w_LESS_EQUAL, ev_LESS_EQUAL⟩ := exa_v t11
  have E_LESS_EQUAL := Exa.start ev_LESS_EQUAL t11
  have S_LESS_EQUAL := Sta.start ev_LESS_EQUAL (Or.inr ⟨(hw _ (List.mem_of_getElem? (i := 3) rfl)), (hw _ (List.mem_of_getElem? (i := 25) rfl))⟩)
  have F_LESS_EQUAL_logic := own_fldN ev_LESS_EQUAL t49
  obtain ⟨w_GREATER, ev_GREATER⟩ := exa_v t12
  have E_GREATER := Exa.start ev_GREATER t12
  have S_GREATER := Sta.start ev_GREATER (Or.inr ⟨(hw _ (List.mem_of_getElem? (i := 3) rfl)), (hw _ (List.mem_of_getElem? (i := 27) rfl))⟩)
  have F_GREATER_logic := own_fldN ev_GREATER t42
  obtain ⟨w_GREATER_EQUAL, ev_GREATER_EQUAL⟩ := exa_v t13
  have E_GREATER_EQUAL := Exa.start ev_GREATER_EQUAL t13
  have S_GREATER_EQUAL := Sta.start ev_GREATER_EQUAL (Or.inr ⟨(hw _ (List.mem_of_getElem? (i := 3) rfl)), (hw _ (List.mem_of_getElem? (i := 29) rfl))⟩)
  have F_GREATER_EQUAL_logic := own_fldN ev_GREATER_EQUAL t39
  obtain ⟨w_EX, ev_EX⟩ := exa_v t14
  have E_EX := Exa.start ev_EX t14
  have S_EX := Sta.start ev_EX (Or.inr ⟨(hw _ (List.mem_of_getElem? (i := 3) rfl)), (hw _ (List.mem_of_getElem? (i := 31) rfl))⟩)
  have F_EX_logic := own_fldR ev_EX ev_CTL t53
  obtain ⟨w_EF, ev_EF⟩ := exa_v t15
  have E_EF := Exa.start ev_EF t15
  have S_EF := Sta.start ev_EF (Or.inr ⟨(hw _ (List.mem_of_getElem? (i := 3) rfl)), (hw _ (List.mem_of_getElem? (i := 33) rfl))⟩)
  have F_EF_logic := own_fldR ev_EF ev_CTL t56
  obtain ⟨w_EG, ev_EG⟩ := exa_v t16
  have E_EG := Exa.start ev_EG t16
  have S_EG := Sta.start ev_EG (Or.inr ⟨(hw _ (List.mem_of_getElem? (i := 3) rfl)), (hw _ (List.mem_of_getElem? (i := 35) rfl))⟩)
  have F_EG_logic := own_fldR ev_EG ev_CTL t43
  obtain ⟨w_AX, ev_AX⟩ := exa_v t17
  have E_AX := Exa.start ev_AX t17
  have S_AX := Sta.start ev_AX (Or.inr ⟨(hw _ (List.mem_of_getElem? (i := 3) rfl)), (hw _ (List.mem_of_getElem? (i := 37) rfl))⟩)
  have F_AX_logic := own_fldR ev_AX ev_CTL t38
  obtain ⟨w_AF, ev_AF⟩ := exa_v t18
  have E_AF := Exa.start ev_AF t18
  have S_AF := Sta.start ev_AF (Or.inr ⟨(hw _ (List.mem_of_getElem? (i := 3) rfl)), (hw _ (List.mem_of_getElem? (i := 39) rfl))⟩)
  have F_AF_logic := own_fldR ev_AF ev_CTL t35
  obtain ⟨w_AG, ev_AG⟩ := exa_v t19
  have E_AG := Exa.start ev_AG t19
  have S_AG := Sta.start ev_AG (Or.inr ⟨(hw _ (List.mem_of_getElem? (i := 3) rfl)), (hw _ (List.mem_of_getElem? (i := 41) rfl))⟩)
  have F_AG_logic := own_fldR ev_AG ev_CTL t48
  obtain ⟨w_EU, ev_EU⟩ := exa_v t20
  have E_EU := Exa.start ev_EU t20
  have S_EU := Sta.start ev_EU (Or.inr ⟨(hw _ (List.mem_of_getElem? (i := 3) rfl)), (hw _ (List.mem_of_getElem? (i := 43) rfl))⟩)
  have F_EU_logic := own_fldR ev_EU ev_CTL t51
  obtain ⟨w_AU, ev_AU⟩ := exa_v t21
  have E_AU := Exa.start ev_AU t21
  have S_AU := Sta.start ev_AU (Or.inr ⟨(hw _ (List.mem_of_getElem? (i := 3) rfl)), (hw _ (List.mem_of_getElem? (i := 45) rfl))⟩)
  have F_AU_logic := own_fldR ev_AU ev_CTL t50
  obtain ⟨w_X, ev_X⟩ := exa_v t22
  have E_X := Exa.start ev_X t22
  have S_X := Sta.start ev_X (Or.inr ⟨(hw _ (List.mem_of_getElem? (i := 3) rfl)), (hw _ (List.mem_of_getElem? (i := 47) rfl))⟩)
  have F_X_logic := own_fldR ev_X ev_LTL t63
  obtain ⟨w_F, ev_F⟩ := exa_v t23
  have E_F := Exa.start ev_F t23
  have S_F := Sta.start ev_F (Or.inr ⟨(hw _ (List.mem_of_getElem? (i := 3) rfl)), (hw _ (List.mem_of_getElem? (i := 49) rfl))⟩)
  have F_F_logic := own_fldR ev_F ev_LTL t37
  obtain ⟨w_G, ev_G⟩ := exa_v t24
  have E_G := Exa.start ev_G t24
  have S_G := Sta.start ev_G (Or.inr ⟨(hw _ (List.mem_of_getElem? (i := 3) rfl)), (hw _ (List.mem_of_getElem? (i := 51) rfl))⟩)
  have F_G_logic := own_fldR ev_G ev_LTL t62
  obtain ⟨w_U, ev_U⟩ := exa_v t25
  have E_U := Exa.start ev_U t25
  have S_U := Sta.start ev_U (Or.inr ⟨(hw _ (List.mem_of_getElem? (i := 3) rfl)), (hw _ (List.mem_of_getElem? (i := 53) rfl))⟩)
  have F_U_logic := own_fldR ev_U ev_LTL t60
  obtain ⟨w_V, ev_V⟩ := exa_v t26
  have E_V := Exa.start ev_V t26
  have S_V := Sta.start ev_V (Or.inr ⟨(hw _ (List.mem_of_getElem? (i := 3) rfl)), (hw _ (List.mem_of_getElem? (i := 55) rfl))⟩)
  have F_V_logic := own_fldR ev_V ev_LTL t47
  obtain ⟨w_AND, ev_AND⟩ := exa_v t27
  have E_AND := Exa.start ev_AND t27
  have S_AND := Sta.start ev_AND (Or.inr ⟨(hw _ (List.mem_of_getElem? (i := 3) rfl)), (hw _ (List.mem_of_getElem? (i := 57) rfl))⟩)
  have F_AND_logic := own_fldN ev_AND t46
  obtain ⟨w_OR, ev_OR⟩ := exa_v t28
  have E_OR := Exa.start ev_OR t28
  have S_OR := Sta.start ev_OR (Or.inr ⟨(hw _ (List.mem_of_getElem? (i := 3) rfl)), (hw _ (List.mem_of_getElem? (i := 59) rfl))⟩)
  have F_OR_logic := own_fldN ev_OR t54
  obtain ⟨w_XOR, ev_XOR⟩ := exa_v t29
  have E_XOR := Exa.start ev_XOR t29
  have S_XOR := Sta.start ev_XOR (Or.inr ⟨(hw _ (List.mem_of_getElem? (i := 3) rfl)), (hw _ (List.mem_of_getElem? (i := 61) rfl))⟩)
  have F_XOR_logic := own_fldN ev_XOR u63
  obtain ⟨w_IFF, ev_IFF⟩ := exa_v t30
  have E_IFF := Exa.start ev_IFF t30
  have S_IFF := Sta.start ev_IFF (Or.inr ⟨(hw _ (List.mem_of_getElem? (i := 3) rfl)), (hw _ (List.mem_of_getElem? (i := 63) rfl))⟩)
  have F_IFF_logic := own_fldN ev_IFF t55
  obtain ⟨w_IMPLIES, ev_IMPLIES⟩ := exa_v t31
  have E_IMPLIES := Exa.start ev_IMPLIES t31
  have S_IMPLIES := Sta.start ev_IMPLIES (Or.inr ⟨(hw _ (List.mem_of_getElem? (i := 3) rfl)), (hw _ (List.mem_of_getElem? (i := 65) rfl))⟩)
  have F_IMPLIES_logic := own_fldN ev_IMPLIES t52
  obtain ⟨n, o, h1, h2, h3, _, L, rfl, ⟨rfl, N⟩, hq⟩ := rm0 l s _ hw tables_1 i0 w_NOT w_NEGATE w_TIMES w_DIVIDE w_MOD w_PLUS w_MINUS w_EQUAL w_NOT_EQUAL w_LESS w_LESS_EQUAL w_GREATER w_GREATER_EQUAL w_EX w_EF w_EG w_AX w_AF w_AG w_EU w_AU w_X w_F w_G w_U w_V w_AND w_OR w_XOR w_IFF w_IMPLIES w_CTL w_LTL s.heap s.heap.size (Nat.le_refl _) (Old.start s) S_NOT S_NEGATE S_TIMES S_DIVIDE S_MOD S_PLUS S_MINUS S_EQUAL S_NOT_EQUAL S_LESS S_LESS_EQUAL S_GREATER S_GREATER_EQUAL S_EX S_EF S_EG S_AX S_AF S_AG S_EU S_AU S_X S_F S_G S_U S_V S_AND S_OR S_XOR S_IFF S_IMPLIES E_NOT E_NEGATE E_TIMES E_DIVIDE E_MOD E_PLUS E_MINUS E_EQUAL E_NOT_EQUAL E_LESS E_LESS_EQUAL E_GREATER E_GREATER_EQUAL E_EX E_EF E_EG E_AX E_AF E_AG E_EU E_AU E_X E_F E_G E_U E_V E_AND E_OR E_XOR E_IFF E_IMPLIES F_NOT_logic F_NEGATE_logic F_TIMES_logic F_DIVIDE_logic F_MOD_logic F_PLUS_logic F_MINUS_logic F_EQUAL_logic F_NOT_EQUAL_logic F_LESS_logic F_LESS_EQUAL_logic F_GREATER_logic F_GREATER_EQUAL_logic F_EX_logic F_EF_logic F_EG_logic F_AX_logic F_AF_logic F_AG_logic F_EU_logic F_AU_logic F_X_logic F_F_logic F_G_logic F_U_logic F_V_logic F_AND_logic F_OR_logic F_XOR_logic F_IFF_logic F_IMPLIES_logic p e ha hc hk s m _ below hf ((Spec.applies_iff_loose hf).mp happ).1 ⟨rfl, State.Warmed39.refl s, rfl⟩ trivial
  refine ⟨n, _, h1, h2, h3, hpost _ _ _ _ _ _ ⟨Cond.after_iff.mpr rfl, Cond.after_iff.mpr (eq_i res_at (Term.int_eval (1)) rfl), trivial⟩ ⟨hq.1, hq.2.1, (hq.2.2.sift fun y hy => Or.inr (N y hy)).mono (by decide) (by decide)⟩⟩
theorem main_1_1 : Claimed_1_1 := comes_1 fun _ _ _ _ _ _ h hF => ⟨h.1, hF⟩
theorem main_1_2 : Claimed_1_2 := comes_1 fun _ _ _ _ _ _ h hF => ⟨h.2.1, hF⟩
end Jvm.Pilot.@@N@@
namespace Jvm.Pilot.@@N@@
open Jvm Jvm.ClassFile Sem Op Lib Jvm.Free Jvm.Stand Jvm.Pilot.@@N@@.Jvm.D
/-! MADE BY PROGRAM (witnessworld.py) out of the Statement's table words and the real class files: 14 classes; the members and pool entries that the words name. The judged class is class 1, her method 1. -/
namespace start1
open Jvm.ClassFile
def u (s : String) : CpInfo := .utf8 (stringToUtf16 s)
/-- a pool by its gaps: so many unusable entries, then the entry; so many at the end -/
def gap : Nat → List CpInfo → List CpInfo
  | 0, r => r
  | n + 1, r => .unusable :: gap n r
def poolList (es : List (Nat × CpInfo)) (last : Nat) : List CpInfo := es.foldr (fun e r => gap e.1 (e.2 :: r)) (gap last [])
def pool (es : List (Nat × CpInfo)) (last : Nat) : Array CpInfo := ⟨poolList es last⟩
def fileOf (pool : Array CpInfo) (this : Nat) (attrs : Array Attribute := #[]) (ms : Array MethodInfo := #[]) (fl : Nat := 33) (sup : Nat := 0) (ifs : Array Nat := #[]) (fds : Array FieldInfo := #[]) : ClassFile where
  minorVersion := 0
  majorVersion := 65
  constantPool := pool
  accessFlags := fl
  thisClass := this
  superClass := sup
  interfaces := ifs
  fields := fds
  methods := ms
  attributes := attrs
def plain (name : String) (sup : Option ClassId) : Class where
  name := name
  kind := .ordinary
  loader := none
  accessFlags := 33
  super := sup
  interfaces := #[]
  cf := none
  fields := #[]
  methods := #[]
  instanceTypes := #[]
  staticTypes := #[]
  resolved := #[]
  callSites := []
  init := .initialized
  statics := none
  mirror := none

def pool0 : Array CpInfo := pool [(5, u "<init>"), (0, u "()V"), (1, .class_ 10), (1, u "java/lang/Object")] 113

def k0m0 : Method := { name := "<init>", desc := "()V", sig := { parameters := [], returnType := none }, accessFlags := 1, code := none }
/-- java/lang/Object -/
def k0 : Class := { plain "java/lang/Object" none with
  accessFlags := 33
  interfaces := #[]
  cf := some (fileOf pool0 8 #[] #[{ accessFlags := 1, nameIndex := 5, descriptorIndex := 6, attributes := #[] }] 33 0 #[] #[])
  fields := #[]
  methods := #[k0m0]
  instanceTypes := #[]
  staticTypes := #[]
  resolved := Array.replicate 124 none
  statics := none }

def pool1 : Array CpInfo := pool [(2, .class_ 4), (1, u "java/lang/Object"), (0, u "<init>"), (0, u "()V"), (0, .class_ 8), (0, u "com/example/prudent_checker/prudentchecker/smv/Operator"), (0, .fieldref 7 10), (0, .nameAndType 11 12), (0, u "NOT"), (0, u "Lcom/example/prudent_checker/prudentchecker/smv/Operator;"), (0, .fieldref 7 14), (0, .nameAndType 15 12), (0, u "NEGATE"), (0, .fieldref 7 17), (0, .nameAndType 18 12), (0, u "TIMES"), (0, .fieldref 7 20), (0, .nameAndType 21 12), (0, u "DIVIDE"), (0, .fieldref 7 23), (0, .nameAndType 24 12), (0, u "MOD"), (0, .fieldref 7 26), (0, .nameAndType 27 12), (0, u "PLUS"), (0, .fieldref 7 29), (0, .nameAndType 30 12), (0, u "MINUS"), (0, .fieldref 7 32), (0, .nameAndType 33 12), (0, u "EQUAL"), (0, .fieldref 7 35), (0, .nameAndType 36 12), (0, u "NOT_EQUAL"), (0, .fieldref 7 38), (0, .nameAndType 39 12), (0, u "LESS"), (0, .fieldref 7 41), (0, .nameAndType 42 12), (0, u "LESS_EQUAL"), (0, .fieldref 7 44), (0, .nameAndType 45 12), (0, u "GREATER"), (0, .fieldref 7 47), (0, .nameAndType 48 12), (0, u "GREATER_EQUAL"), (0, .fieldref 7 50), (0, .nameAndType 51 12), (0, u "EX"), (0, .fieldref 7 53), (0, .nameAndType 54 12), (0, u "EF"), (0, .fieldref 7 56), (0, .nameAndType 57 12), (0, u "EG"), (0, .fieldref 7 59), (0, .nameAndType 60 12), (0, u "AX"), (0, .fieldref 7 62), (0, .nameAndType 63 12), (0, u "AF"), (0, .fieldref 7 65), (0, .nameAndType 66 12), (0, u "AG"), (0, .fieldref 7 68), (0, .nameAndType 69 12), (0, u "EU"), (0, .fieldref 7 71), (0, .nameAndType 72 12), (0, u "AU"), (0, .fieldref 7 74), (0, .nameAndType 75 12), (0, u "X"), (0, .fieldref 7 77), (0, .nameAndType 78 12), (0, u "F"), (0, .fieldref 7 80), (0, .nameAndType 81 12), (0, u "G"), (0, .fieldref 7 83), (0, .nameAndType 84 12), (0, u "U"), (0, .fieldref 7 86), (0, .nameAndType 87 12), (0, u "V"), (0, .fieldref 7 89), (0, .nameAndType 90 12), (0, u "AND"), (0, .fieldref 7 92), (0, .nameAndType 93 12), (0, u "OR"), (0, .fieldref 7 95), (0, .nameAndType 96 12), (0, u "XOR"), (0, .fieldref 7 98), (0, .nameAndType 99 12), (0, u "IFF"), (0, .fieldref 7 101), (0, .nameAndType 102 12), (0, u "IMPLIES"), (0, .integer 2147483647), (0, .methodref 7 105), (0, .nameAndType 106 107), (0, u "isTemporal"), (0, u "()Z"), (0, .class_ 109), (0, u "com/example/prudent_checker/prudentchecker/smv/OperatorIsTemporalPinLaw"), (2, u "law"), (0, u "(I)Z")] 5

def k1m0 : Method := { name := "<init>", desc := "()V", sig := { parameters := [], returnType := none }, accessFlags := 1, code := none }
def k1c1 : Code := { maxStack := 4, maxLocals := 4, code := code, exceptionTable := #[], attributes := #[] }
def k1m1 : Method := { name := "law", desc := "(I)Z", sig := { parameters := [.int], returnType := some .boolean }, accessFlags := 9, code := some k1c1 }
/-- com/example/prudent_checker/prudentchecker/smv/OperatorIsTemporalPinLaw -/
def k1 : Class := { plain "com/example/prudent_checker/prudentchecker/smv/OperatorIsTemporalPinLaw" (some 0) with
  accessFlags := 49
  interfaces := #[]
  cf := some (fileOf pool1 108 #[] #[{ accessFlags := 1, nameIndex := 5, descriptorIndex := 6, attributes := #[] }, { accessFlags := 9, nameIndex := 112, descriptorIndex := 113, attributes := #[] }] 49 2 #[] #[])
  fields := #[]
  methods := #[k1m0, k1m1]
  instanceTypes := #[]
  staticTypes := #[]
  resolved := Array.replicate 119 none
  statics := none }

def pool2 : Array CpInfo := pool [(1, .class_ 2), (0, u "java/lang/constant/Constable"), (0, .class_ 4), (0, u "java/lang/Object")] 6

/-- java/lang/constant/Constable -/
def k2 : Class := { plain "java/lang/constant/Constable" (some 0) with
  accessFlags := 1537
  interfaces := #[]
  cf := some (fileOf pool2 1 #[] #[] 1537 3 #[] #[])
  fields := #[]
  methods := #[]
  instanceTypes := #[]
  staticTypes := #[]
  resolved := Array.replicate 11 none
  statics := none }

def pool3 : Array CpInfo := pool [(1, .class_ 2), (0, u "java/lang/Comparable"), (0, .class_ 4), (0, u "java/lang/Object")] 7

/-- java/lang/Comparable -/
def k3 : Class := { plain "java/lang/Comparable" (some 0) with
  accessFlags := 1537
  interfaces := #[]
  cf := some (fileOf pool3 1 #[] #[] 1537 3 #[] #[])
  fields := #[]
  methods := #[]
  instanceTypes := #[]
  staticTypes := #[]
  resolved := Array.replicate 12 none
  statics := none }

def pool4 : Array CpInfo := pool [(1, .class_ 2), (0, u "java/io/Serializable"), (0, .class_ 4), (0, u "java/lang/Object")] 2

/-- java/io/Serializable -/
def k4 : Class := { plain "java/io/Serializable" (some 0) with
  accessFlags := 1537
  interfaces := #[]
  cf := some (fileOf pool4 1 #[] #[] 1537 3 #[] #[])
  fields := #[]
  methods := #[]
  instanceTypes := #[]
  staticTypes := #[]
  resolved := Array.replicate 7 none
  statics := none }

def pool5 : Array CpInfo := pool [(2, .class_ 4), (1, u "java/lang/Enum"), (0, u "name"), (0, u "Ljava/lang/String;"), (2, u "ordinal"), (0, u "I"), (1, .class_ 14), (1, u "java/lang/Object"), (4, u "hash"), (86, .class_ 108), (1, u "java/lang/Enum$EnumDesc"), (2, .class_ 112), (0, u "java/lang/constant/Constable"), (0, .class_ 114), (0, u "java/lang/Comparable"), (0, .class_ 116), (0, u "java/io/Serializable")] 87

/-- java/lang/Enum -/
def k5 : Class := { plain "java/lang/Enum" (some 0) with
  accessFlags := 1057
  interfaces := #[2, 3, 4]
  cf := some (fileOf pool5 2 #[.nestMembers #[106]] #[] 1057 12 #[111, 113, 115] #[{ accessFlags := 18, nameIndex := 5, descriptorIndex := 6, attributes := #[] }, { accessFlags := 18, nameIndex := 9, descriptorIndex := 10, attributes := #[] }, { accessFlags := 2, nameIndex := 19, descriptorIndex := 10, attributes := #[] }])
  fields := #[{ name := "name", type := (.object "java/lang/String"), accessFlags := 18, slot := 0, constantValue := 0 }, { name := "ordinal", type := .int, accessFlags := 18, slot := 1, constantValue := 0 }, { name := "hash", type := .int, accessFlags := 2, slot := 2, constantValue := 0 }]
  methods := #[]
  instanceTypes := #[(.object "java/lang/String"), .int, .int]
  staticTypes := #[]
  resolved := Array.replicate 204 none
  statics := none }

def pool6 : Array CpInfo := pool [(1, .class_ 2), (0, u "com/example/prudent_checker/prudentchecker/smv/Operator"), (2, u "NOT"), (0, u "Lcom/example/prudent_checker/prudentchecker/smv/Operator;"), (2, u "NEGATE"), (2, u "TIMES"), (2, u "DIVIDE"), (2, u "MOD"), (2, u "PLUS"), (2, u "MINUS"), (2, u "EQUAL"), (2, u "NOT_EQUAL"), (2, u "LESS"), (2, u "LESS_EQUAL"), (2, u "GREATER"), (2, u "GREATER_EQUAL"), (2, u "EX"), (2, u "EF"), (2, u "EG"), (2, u "AX"), (2, u "AF"), (2, u "AG"), (2, u "EU"), (2, u "AU"), (2, u "X"), (2, u "F"), (2, u "G"), (2, u "U"), (2, u "V"), (2, u "AND"), (2, u "OR"), (2, u "XOR"), (2, u "IFF"), (2, u "IMPLIES"), (2, u "$VALUES"), (0, u "[Lcom/example/prudent_checker/prudentchecker/smv/Operator;"), (6, .class_ 109), (1, u "java/lang/Enum"), (11, u "token"), (0, u "Lcom/example/prudent_checker/prudentchecker/smv/TokenKind;"), (2, u "form"), (0, u "Lcom/example/prudent_checker/prudentchecker/smv/Operator$Form;"), (2, u "binding"), (0, u "Lcom/example/prudent_checker/prudentchecker/smv/Operator$Binding;"), (2, u "operands"), (0, u "Lcom/example/prudent_checker/prudentchecker/smv/Operator$Sort;"), (2, u "value"), (0, .fieldref 1 139), (0, .nameAndType 140 141), (0, u "logic"), (0, u "Lcom/example/prudent_checker/prudentchecker/smv/Logic;"), (10, .class_ 154), (1, u "com/example/prudent_checker/prudentchecker/smv/Operator$Form"), (2, .class_ 159), (1, u "com/example/prudent_checker/prudentchecker/smv/Operator$Binding"), (2, .class_ 164), (1, u "com/example/prudent_checker/prudentchecker/smv/Operator$Sort"), (155, u "isTemporal"), (0, u "()Z")] 13

def k6c0 : Code := { maxStack := 1, maxLocals := 1, code := prog_95_method_11_code, exceptionTable := #[], attributes := #[] }
def k6m0 : Method := { name := "isTemporal", desc := "()Z", sig := { parameters := [], returnType := some .boolean }, accessFlags := 1, code := some k6c0 }
/-- com/example/prudent_checker/prudentchecker/smv/Operator -/
def k6 : Class := { plain "com/example/prudent_checker/prudentchecker/smv/Operator" (some 5) with
  accessFlags := 16433
  interfaces := #[]
  cf := some (fileOf pool6 1 #[.nestMembers #[162, 157, 152]] #[{ accessFlags := 1, nameIndex := 320, descriptorIndex := 321, attributes := #[] }] 16433 107 #[] #[{ accessFlags := 16409, nameIndex := 5, descriptorIndex := 6, attributes := #[] }, { accessFlags := 16409, nameIndex := 9, descriptorIndex := 6, attributes := #[] }, { accessFlags := 16409, nameIndex := 12, descriptorIndex := 6, attributes := #[] }, { accessFlags := 16409, nameIndex := 15, descriptorIndex := 6, attributes := #[] }, { accessFlags := 16409, nameIndex := 18, descriptorIndex := 6, attributes := #[] }, { accessFlags := 16409, nameIndex := 21, descriptorIndex := 6, attributes := #[] }, { accessFlags := 16409, nameIndex := 24, descriptorIndex := 6, attributes := #[] }, { accessFlags := 16409, nameIndex := 27, descriptorIndex := 6, attributes := #[] }, { accessFlags := 16409, nameIndex := 30, descriptorIndex := 6, attributes := #[] }, { accessFlags := 16409, nameIndex := 33, descriptorIndex := 6, attributes := #[] }, { accessFlags := 16409, nameIndex := 36, descriptorIndex := 6, attributes := #[] }, { accessFlags := 16409, nameIndex := 39, descriptorIndex := 6, attributes := #[] }, { accessFlags := 16409, nameIndex := 42, descriptorIndex := 6, attributes := #[] }, { accessFlags := 16409, nameIndex := 45, descriptorIndex := 6, attributes := #[] }, { accessFlags := 16409, nameIndex := 48, descriptorIndex := 6, attributes := #[] }, { accessFlags := 16409, nameIndex := 51, descriptorIndex := 6, attributes := #[] }, { accessFlags := 16409, nameIndex := 54, descriptorIndex := 6, attributes := #[] }, { accessFlags := 16409, nameIndex := 57, descriptorIndex := 6, attributes := #[] }, { accessFlags := 16409, nameIndex := 60, descriptorIndex := 6, attributes := #[] }, { accessFlags := 16409, nameIndex := 63, descriptorIndex := 6, attributes := #[] }, { accessFlags := 16409, nameIndex := 66, descriptorIndex := 6, attributes := #[] }, { accessFlags := 16409, nameIndex := 69, descriptorIndex := 6, attributes := #[] }, { accessFlags := 16409, nameIndex := 72, descriptorIndex := 6, attributes := #[] }, { accessFlags := 16409, nameIndex := 75, descriptorIndex := 6, attributes := #[] }, { accessFlags := 16409, nameIndex := 78, descriptorIndex := 6, attributes := #[] }, { accessFlags := 16409, nameIndex := 81, descriptorIndex := 6, attributes := #[] }, { accessFlags := 16409, nameIndex := 84, descriptorIndex := 6, attributes := #[] }, { accessFlags := 16409, nameIndex := 87, descriptorIndex := 6, attributes := #[] }, { accessFlags := 16409, nameIndex := 90, descriptorIndex := 6, attributes := #[] }, { accessFlags := 16409, nameIndex := 93, descriptorIndex := 6, attributes := #[] }, { accessFlags := 16409, nameIndex := 96, descriptorIndex := 6, attributes := #[] }, { accessFlags := 18, nameIndex := 121, descriptorIndex := 122, attributes := #[] }, { accessFlags := 18, nameIndex := 125, descriptorIndex := 126, attributes := #[] }, { accessFlags := 18, nameIndex := 129, descriptorIndex := 130, attributes := #[] }, { accessFlags := 18, nameIndex := 133, descriptorIndex := 134, attributes := #[] }, { accessFlags := 18, nameIndex := 137, descriptorIndex := 134, attributes := #[] }, { accessFlags := 18, nameIndex := 140, descriptorIndex := 141, attributes := #[] }, { accessFlags := 4122, nameIndex := 99, descriptorIndex := 100, attributes := #[] }])
  fields := #[{ name := "NOT", type := (.object "com/example/prudent_checker/prudentchecker/smv/Operator"), accessFlags := 16409, slot := 0, constantValue := 0 }, { name := "NEGATE", type := (.object "com/example/prudent_checker/prudentchecker/smv/Operator"), accessFlags := 16409, slot := 1, constantValue := 0 }, { name := "TIMES", type := (.object "com/example/prudent_checker/prudentchecker/smv/Operator"), accessFlags := 16409, slot := 2, constantValue := 0 }, { name := "DIVIDE", type := (.object "com/example/prudent_checker/prudentchecker/smv/Operator"), accessFlags := 16409, slot := 3, constantValue := 0 }, { name := "MOD", type := (.object "com/example/prudent_checker/prudentchecker/smv/Operator"), accessFlags := 16409, slot := 4, constantValue := 0 }, { name := "PLUS", type := (.object "com/example/prudent_checker/prudentchecker/smv/Operator"), accessFlags := 16409, slot := 5, constantValue := 0 }, { name := "MINUS", type := (.object "com/example/prudent_checker/prudentchecker/smv/Operator"), accessFlags := 16409, slot := 6, constantValue := 0 }, { name := "EQUAL", type := (.object "com/example/prudent_checker/prudentchecker/smv/Operator"), accessFlags := 16409, slot := 7, constantValue := 0 }, { name := "NOT_EQUAL", type := (.object "com/example/prudent_checker/prudentchecker/smv/Operator"), accessFlags := 16409, slot := 8, constantValue := 0 }, { name := "LESS", type := (.object "com/example/prudent_checker/prudentchecker/smv/Operator"), accessFlags := 16409, slot := 9, constantValue := 0 }, { name := "LESS_EQUAL", type := (.object "com/example/prudent_checker/prudentchecker/smv/Operator"), accessFlags := 16409, slot := 10, constantValue := 0 }, { name := "GREATER", type := (.object "com/example/prudent_checker/prudentchecker/smv/Operator"), accessFlags := 16409, slot := 11, constantValue := 0 }, { name := "GREATER_EQUAL", type := (.object "com/example/prudent_checker/prudentchecker/smv/Operator"), accessFlags := 16409, slot := 12, constantValue := 0 }, { name := "EX", type := (.object "com/example/prudent_checker/prudentchecker/smv/Operator"), accessFlags := 16409, slot := 13, constantValue := 0 }, { name := "EF", type := (.object "com/example/prudent_checker/prudentchecker/smv/Operator"), accessFlags := 16409, slot := 14, constantValue := 0 }, { name := "EG", type := (.object "com/example/prudent_checker/prudentchecker/smv/Operator"), accessFlags := 16409, slot := 15, constantValue := 0 }, { name := "AX", type := (.object "com/example/prudent_checker/prudentchecker/smv/Operator"), accessFlags := 16409, slot := 16, constantValue := 0 }, { name := "AF", type := (.object "com/example/prudent_checker/prudentchecker/smv/Operator"), accessFlags := 16409, slot := 17, constantValue := 0 }, { name := "AG", type := (.object "com/example/prudent_checker/prudentchecker/smv/Operator"), accessFlags := 16409, slot := 18, constantValue := 0 }, { name := "EU", type := (.object "com/example/prudent_checker/prudentchecker/smv/Operator"), accessFlags := 16409, slot := 19, constantValue := 0 }, { name := "AU", type := (.object "com/example/prudent_checker/prudentchecker/smv/Operator"), accessFlags := 16409, slot := 20, constantValue := 0 }, { name := "X", type := (.object "com/example/prudent_checker/prudentchecker/smv/Operator"), accessFlags := 16409, slot := 21, constantValue := 0 }, { name := "F", type := (.object "com/example/prudent_checker/prudentchecker/smv/Operator"), accessFlags := 16409, slot := 22, constantValue := 0 }, { name := "G", type := (.object "com/example/prudent_checker/prudentchecker/smv/Operator"), accessFlags := 16409, slot := 23, constantValue := 0 }, { name := "U", type := (.object "com/example/prudent_checker/prudentchecker/smv/Operator"), accessFlags := 16409, slot := 24, constantValue := 0 }, { name := "V", type := (.object "com/example/prudent_checker/prudentchecker/smv/Operator"), accessFlags := 16409, slot := 25, constantValue := 0 }, { name := "AND", type := (.object "com/example/prudent_checker/prudentchecker/smv/Operator"), accessFlags := 16409, slot := 26, constantValue := 0 }, { name := "OR", type := (.object "com/example/prudent_checker/prudentchecker/smv/Operator"), accessFlags := 16409, slot := 27, constantValue := 0 }, { name := "XOR", type := (.object "com/example/prudent_checker/prudentchecker/smv/Operator"), accessFlags := 16409, slot := 28, constantValue := 0 }, { name := "IFF", type := (.object "com/example/prudent_checker/prudentchecker/smv/Operator"), accessFlags := 16409, slot := 29, constantValue := 0 }, { name := "IMPLIES", type := (.object "com/example/prudent_checker/prudentchecker/smv/Operator"), accessFlags := 16409, slot := 30, constantValue := 0 }, { name := "token", type := (.object "com/example/prudent_checker/prudentchecker/smv/TokenKind"), accessFlags := 18, slot := 3, constantValue := 0 }, { name := "form", type := (.object "com/example/prudent_checker/prudentchecker/smv/Operator$Form"), accessFlags := 18, slot := 4, constantValue := 0 }, { name := "binding", type := (.object "com/example/prudent_checker/prudentchecker/smv/Operator$Binding"), accessFlags := 18, slot := 5, constantValue := 0 }, { name := "operands", type := (.object "com/example/prudent_checker/prudentchecker/smv/Operator$Sort"), accessFlags := 18, slot := 6, constantValue := 0 }, { name := "value", type := (.object "com/example/prudent_checker/prudentchecker/smv/Operator$Sort"), accessFlags := 18, slot := 7, constantValue := 0 }, { name := "logic", type := (.object "com/example/prudent_checker/prudentchecker/smv/Logic"), accessFlags := 18, slot := 8, constantValue := 0 }, { name := "$VALUES", type := (.array (.object "com/example/prudent_checker/prudentchecker/smv/Operator")), accessFlags := 4122, slot := 31, constantValue := 0 }]
  methods := #[k6m0]
  instanceTypes := #[(.object "java/lang/String"), .int, .int, (.object "com/example/prudent_checker/prudentchecker/smv/TokenKind"), (.object "com/example/prudent_checker/prudentchecker/smv/Operator$Form"), (.object "com/example/prudent_checker/prudentchecker/smv/Operator$Binding"), (.object "com/example/prudent_checker/prudentchecker/smv/Operator$Sort"), (.object "com/example/prudent_checker/prudentchecker/smv/Operator$Sort"), (.object "com/example/prudent_checker/prudentchecker/smv/Logic")]
  staticTypes := #[(.object "com/example/prudent_checker/prudentchecker/smv/Operator"), (.object "com/example/prudent_checker/prudentchecker/smv/Operator"), (.object "com/example/prudent_checker/prudentchecker/smv/Operator"), (.object "com/example/prudent_checker/prudentchecker/smv/Operator"), (.object "com/example/prudent_checker/prudentchecker/smv/Operator"), (.object "com/example/prudent_checker/prudentchecker/smv/Operator"), (.object "com/example/prudent_checker/prudentchecker/smv/Operator"), (.object "com/example/prudent_checker/prudentchecker/smv/Operator"), (.object "com/example/prudent_checker/prudentchecker/smv/Operator"), (.object "com/example/prudent_checker/prudentchecker/smv/Operator"), (.object "com/example/prudent_checker/prudentchecker/smv/Operator"), (.object "com/example/prudent_checker/prudentchecker/smv/Operator"), (.object "com/example/prudent_checker/prudentchecker/smv/Operator"), (.object "com/example/prudent_checker/prudentchecker/smv/Operator"), (.object "com/example/prudent_checker/prudentchecker/smv/Operator"), (.object "com/example/prudent_checker/prudentchecker/smv/Operator"), (.object "com/example/prudent_checker/prudentchecker/smv/Operator"), (.object "com/example/prudent_checker/prudentchecker/smv/Operator"), (.object "com/example/prudent_checker/prudentchecker/smv/Operator"), (.object "com/example/prudent_checker/prudentchecker/smv/Operator"), (.object "com/example/prudent_checker/prudentchecker/smv/Operator"), (.object "com/example/prudent_checker/prudentchecker/smv/Operator"), (.object "com/example/prudent_checker/prudentchecker/smv/Operator"), (.object "com/example/prudent_checker/prudentchecker/smv/Operator"), (.object "com/example/prudent_checker/prudentchecker/smv/Operator"), (.object "com/example/prudent_checker/prudentchecker/smv/Operator"), (.object "com/example/prudent_checker/prudentchecker/smv/Operator"), (.object "com/example/prudent_checker/prudentchecker/smv/Operator"), (.object "com/example/prudent_checker/prudentchecker/smv/Operator"), (.object "com/example/prudent_checker/prudentchecker/smv/Operator"), (.object "com/example/prudent_checker/prudentchecker/smv/Operator"), (.array (.object "com/example/prudent_checker/prudentchecker/smv/Operator"))]
  resolved := Array.replicate 335 none
  statics := some 0 }

def pool7 : Array CpInfo := pool [(1, .class_ 2), (0, u "com/example/prudent_checker/prudentchecker/smv/Logic"), (2, u "CTL"), (0, u "Lcom/example/prudent_checker/prudentchecker/smv/Logic;"), (2, u "LTL"), (2, u "$VALUES"), (0, u "[Lcom/example/prudent_checker/prudentchecker/smv/Logic;"), (6, .class_ 22), (1, u "java/lang/Enum"), (14, u "keywords"), (0, u "Ljava/util/List;")] 36

/-- com/example/prudent_checker/prudentchecker/smv/Logic -/
def k7 : Class := { plain "com/example/prudent_checker/prudentchecker/smv/Logic" (some 5) with
  accessFlags := 16433
  interfaces := #[]
  cf := some (fileOf pool7 1 #[] #[] 16433 20 #[] #[{ accessFlags := 16409, nameIndex := 5, descriptorIndex := 6, attributes := #[] }, { accessFlags := 16409, nameIndex := 9, descriptorIndex := 6, attributes := #[] }, { accessFlags := 18, nameIndex := 37, descriptorIndex := 38, attributes := #[] }, { accessFlags := 4122, nameIndex := 12, descriptorIndex := 13, attributes := #[] }])
  fields := #[{ name := "CTL", type := (.object "com/example/prudent_checker/prudentchecker/smv/Logic"), accessFlags := 16409, slot := 0, constantValue := 0 }, { name := "LTL", type := (.object "com/example/prudent_checker/prudentchecker/smv/Logic"), accessFlags := 16409, slot := 1, constantValue := 0 }, { name := "keywords", type := (.object "java/util/List"), accessFlags := 18, slot := 3, constantValue := 0 }, { name := "$VALUES", type := (.array (.object "com/example/prudent_checker/prudentchecker/smv/Logic")), accessFlags := 4122, slot := 2, constantValue := 0 }]
  methods := #[]
  instanceTypes := #[(.object "java/lang/String"), .int, .int, (.object "java/util/List")]
  staticTypes := #[(.object "com/example/prudent_checker/prudentchecker/smv/Logic"), (.object "com/example/prudent_checker/prudentchecker/smv/Logic"), (.array (.object "com/example/prudent_checker/prudentchecker/smv/Logic"))]
  resolved := Array.replicate 75 none
  statics := some 1 }

def pool8 : Array CpInfo := pool [(1, u "java/lang/Cloneable"), (0, .class_ 1), (0, u "java/lang/Object"), (0, .class_ 3)] 3

/-- java/lang/Cloneable -/
def k8 : Class := { plain "java/lang/Cloneable" (some 0) with
  accessFlags := 1537
  interfaces := #[]
  cf := some (fileOf pool8 2 #[] #[] 1537 4 #[] #[])
  fields := #[]
  methods := #[]
  instanceTypes := #[]
  staticTypes := #[]
  resolved := Array.replicate 8 none
  statics := none }

/-- the primitive byte -/
def k9 : Class := { plain "byte" none with kind := .primitive 'B', accessFlags := 0x411 }
/-- [B -/
def k10 : Class := { plain "[B" (some 0) with kind := .array 9 .byte, interfaces := #[8, 4], accessFlags := 1041 }

/-- the primitive int -/
def k11 : Class := { plain "int" none with kind := .primitive 'I', accessFlags := 0x411 }
/-- [I -/
def k12 : Class := { plain "[I" (some 0) with kind := .array 11 .int, interfaces := #[8, 4], accessFlags := 1041 }

/-- [Lcom/example/prudent_checker/prudentchecker/smv/Operator; -/
def k13 : Class := { plain "[Lcom/example/prudent_checker/prudentchecker/smv/Operator;" (some 0) with kind := .array 6 (.object "com/example/prudent_checker/prudentchecker/smv/Operator"), interfaces := #[8, 4], accessFlags := 1041 }

def heap : Heap := #[{ cls := 6, slots := #[.ref 2, .ref 3, .ref 4, .ref 5, .ref 6, .ref 7, .ref 8, .ref 9, .ref 10, .ref 11, .ref 12, .ref 13, .ref 14, .ref 15, .ref 16, .ref 17, .ref 18, .ref 19, .ref 20, .ref 21, .ref 22, .ref 23, .ref 24, .ref 25, .ref 26, .ref 27, .ref 28, .ref 29, .ref 30, .ref 31, .ref 32, .null], vm := .statics 6 },
  { cls := 7, slots := #[.ref 33, .ref 34, .null], vm := .statics 7 },
  { cls := 6, slots := #[.null, .int 0, .int 0, .null, .null, .null, .null, .null, .null], vm := .none },
  { cls := 6, slots := #[.null, .int 1, .int 0, .null, .null, .null, .null, .null, .null], vm := .none },
  { cls := 6, slots := #[.null, .int 2, .int 0, .null, .null, .null, .null, .null, .null], vm := .none },
  { cls := 6, slots := #[.null, .int 3, .int 0, .null, .null, .null, .null, .null, .null], vm := .none },
  { cls := 6, slots := #[.null, .int 4, .int 0, .null, .null, .null, .null, .null, .null], vm := .none },
  { cls := 6, slots := #[.null, .int 5, .int 0, .null, .null, .null, .null, .null, .null], vm := .none },
  { cls := 6, slots := #[.null, .int 6, .int 0, .null, .null, .null, .null, .null, .null], vm := .none },
  { cls := 6, slots := #[.null, .int 7, .int 0, .null, .null, .null, .null, .null, .null], vm := .none },
  { cls := 6, slots := #[.null, .int 8, .int 0, .null, .null, .null, .null, .null, .null], vm := .none },
  { cls := 6, slots := #[.null, .int 9, .int 0, .null, .null, .null, .null, .null, .null], vm := .none },
  { cls := 6, slots := #[.null, .int 10, .int 0, .null, .null, .null, .null, .null, .null], vm := .none },
  { cls := 6, slots := #[.null, .int 11, .int 0, .null, .null, .null, .null, .null, .null], vm := .none },
  { cls := 6, slots := #[.null, .int 12, .int 0, .null, .null, .null, .null, .null, .null], vm := .none },
  { cls := 6, slots := #[.null, .int 13, .int 0, .null, .null, .null, .null, .null, .ref 33], vm := .none },
  { cls := 6, slots := #[.null, .int 14, .int 0, .null, .null, .null, .null, .null, .ref 33], vm := .none },
  { cls := 6, slots := #[.null, .int 15, .int 0, .null, .null, .null, .null, .null, .ref 33], vm := .none },
  { cls := 6, slots := #[.null, .int 16, .int 0, .null, .null, .null, .null, .null, .ref 33], vm := .none },
  { cls := 6, slots := #[.null, .int 17, .int 0, .null, .null, .null, .null, .null, .ref 33], vm := .none },
  { cls := 6, slots := #[.null, .int 18, .int 0, .null, .null, .null, .null, .null, .ref 33], vm := .none },
  { cls := 6, slots := #[.null, .int 19, .int 0, .null, .null, .null, .null, .null, .ref 33], vm := .none },
  { cls := 6, slots := #[.null, .int 20, .int 0, .null, .null, .null, .null, .null, .ref 33], vm := .none },
  { cls := 6, slots := #[.null, .int 21, .int 0, .null, .null, .null, .null, .null, .ref 34], vm := .none },
  { cls := 6, slots := #[.null, .int 22, .int 0, .null, .null, .null, .null, .null, .ref 34], vm := .none },
  { cls := 6, slots := #[.null, .int 23, .int 0, .null, .null, .null, .null, .null, .ref 34], vm := .none },
  { cls := 6, slots := #[.null, .int 24, .int 0, .null, .null, .null, .null, .null, .ref 34], vm := .none },
  { cls := 6, slots := #[.null, .int 25, .int 0, .null, .null, .null, .null, .null, .ref 34], vm := .none },
  { cls := 6, slots := #[.null, .int 26, .int 0, .null, .null, .null, .null, .null, .null], vm := .none },
  { cls := 6, slots := #[.null, .int 27, .int 0, .null, .null, .null, .null, .null, .null], vm := .none },
  { cls := 6, slots := #[.null, .int 28, .int 0, .null, .null, .null, .null, .null, .null], vm := .none },
  { cls := 6, slots := #[.null, .int 29, .int 0, .null, .null, .null, .null, .null, .null], vm := .none },
  { cls := 6, slots := #[.null, .int 30, .int 0, .null, .null, .null, .null, .null, .null], vm := .none },
  { cls := 7, slots := #[.null, .int 0, .int 0, .null], vm := .none },
  { cls := 7, slots := #[.null, .int 1, .int 0, .null], vm := .none }]
def classes : Array Class := #[k0, k1, k2, k3, k4, k5, k6, k7, k8, k9, k10, k11, k12, k13]
def interned : List (Array UInt16 × Addr) := []
def slotsUsed : Nat := 322
def theMethod : MethodId := ⟨1, 1⟩
def args0 : Array Value := #[.int 4]
def aboutOver (below : List Frame) : State where
  vm := { classes := classes, interned := interned.toArray }
  heap := heap
  slotsUsed := slotsUsed
  threads := #[{ frames := .invoking theMethod args0 :: below }]
def below0 : List Frame := [.native { method := ⟨0, 0⟩, args := #[] }]
def about1 : State := aboutOver below0
def p0 : Program := .bare "" "" ""
def e0 : Env := launch0.env 0 0 0
theorem w_frames : about1.frames = Frame.invoking theMethod args0 :: below0 := rfl
set_option maxRecDepth 65536 in
theorem w_args : argsFit about1.vm theMethod args0 = true := by decide +kernel
set_option maxRecDepth 65536 in
theorem w_heap : heapFits about1 = true := by decide +kernel
set_option maxRecDepth 65536 in
theorem w_runnable : about1.curStatus? = some .runnable := by decide +kernel
set_option maxRecDepth 65536 in
theorem w_alone : about1.alone = true := by decide +kernel
set_option maxRecDepth 65536 in
theorem w_named : about1.methodNamed? x = some theMethod := by decide +kernel
set_option maxRecDepth 65536 in
theorem w_hears : about1.hears theMethod below0 = true := by decide +kernel
set_option maxRecDepth 65536 in
theorem w_ripe : about1.ripe theMethod args0 below0 = true := by decide +kernel
theorem w_running : about1.status = .running := rfl
set_option maxRecDepth 65536 in
theorem w_room : about1.hasRoom e0.platform room_1 = true :=
  launch0.hasRoom_least _ room_1 (by decide +kernel) (by decide +kernel) (by decide +kernel) (by decide +kernel) (by decide +kernel) (by decide +kernel)
theorem allAtoms_all (ts : List Jvm.Cond) (a : Array Jvm.Value) (st : Jvm.State) : (allAtoms ts).before a st = ts.all (fun c => c.before a st) := by
  induction ts with
  | nil => rfl
  | cons c t ih =>
    show (Jvm.Cond.and c (allAtoms t)).before a st = _
    rw [Jvm.Cond.before_and, ih, List.all_cons]
def words1 : List Jvm.Cond := Jvm.Cond.code x code maxLocals ret :: tables_1
/-- a 'code' word, met by the world's own term for the bytes: nothing is compared byte by byte -/
theorem code_word {y : MethodName} {bytes : ByteArray} {mx : Nat} {rt : Option FieldType} {a : Array Value} {s : State} {m : MethodId} {meth : Method} {c : Code} (h1 : s.methodNamed? y = some m) (h2 : s.vm.method? m = some meth) (h3 : meth.code = some c) (h4 : c.code = bytes)
    (h5 : (c.maxLocals == mx && c.exceptionTable.isEmpty && decide (c.maxStack ≤ mostOperands) && decide (meth.sig.returnType = rt) && !meth.locks && decide (parseMethodDescriptor y.desc = some meth.sig)) = true) : (Jvm.Cond.code y bytes mx rt).before a s = true := by
  simp only [Bool.and_eq_true, beq_iff_eq, Bool.not_eq_true', decide_eq_true_eq] at h5
  obtain ⟨⟨⟨⟨⟨g1, g2⟩, g3⟩, g4⟩, g5⟩, g6⟩ := h5
  simp [Cond.before, Cond.holds, Cond.value, h1, h2, h3, h4, g1, g2, g3, g4, g5, g6]
def isCode : Jvm.Cond → Bool
  | .code _ _ _ _ => true
  | _ => false
theorem all_split {L : List Jvm.Cond} {P : Jvm.Cond → Bool} (h1 : L.all (fun c => isCode c || P c) = true) (h2 : ∀ c ∈ L.filter isCode, P c = true) : L.all P = true := by
  refine List.all_eq_true.mpr fun c hc => ?_
  have h := List.all_eq_true.mp h1 c hc
  rcases Bool.eq_false_or_eq_true (isCode c) with hi | hi
  · exact h2 c (List.mem_filter.mpr ⟨hc, hi⟩)
  · simpa [hi] using h
set_option maxRecDepth 65536 in
theorem w_c0 : (Jvm.Cond.code x code maxLocals ret).before args0 about1 = true := code_word (m := ⟨1, 1⟩) (meth := k1m1) (c := k1c1) (by decide +kernel) rfl rfl rfl (by decide +kernel)
set_option maxRecDepth 65536 in
theorem w_c1 : (Jvm.Cond.code ({ cls := "com/example/prudent_checker/prudentchecker/smv/Operator", name := "isTemporal", desc := "()Z" } : Jvm.MethodName) prog_95_method_11_code (1 : Nat) (Option.some Jvm.ClassFile.FieldType.boolean)).before args0 about1 = true := code_word (m := ⟨6, 0⟩) (meth := k6m0) (c := k6c0) (by decide +kernel) rfl rfl rfl (by decide +kernel)
def codes1 : List Jvm.Cond := [Jvm.Cond.code x code maxLocals ret, Jvm.Cond.code ({ cls := "com/example/prudent_checker/prudentchecker/smv/Operator", name := "isTemporal", desc := "()Z" } : Jvm.MethodName) prog_95_method_11_code (1 : Nat) (Option.some Jvm.ClassFile.FieldType.boolean)]
set_option maxRecDepth 65536 in
theorem codes_eq : words1.filter isCode = codes1 := rfl
theorem w_codes : ∀ c ∈ words1.filter isCode, c.before args0 about1 = true := by
  rw [codes_eq]
  intro c hc
  simp only [codes1, List.mem_cons, List.not_mem_nil, or_false] at hc
  rcases hc with rfl | rfl
  · exact w_c0
  · exact w_c1
set_option maxRecDepth 65536 in
theorem w_t1 : (words1.take 24).all (fun c => isCode c || c.before args0 about1) = true := by decide +kernel
set_option maxRecDepth 65536 in
theorem w_t2 : ((words1.drop 24).take 24).all (fun c => isCode c || c.before args0 about1) = true := by decide +kernel
set_option maxRecDepth 65536 in
theorem w_t3 : (((words1.drop 24).drop 24).take 24).all (fun c => isCode c || c.before args0 about1) = true := by decide +kernel
set_option maxRecDepth 65536 in
theorem w_t4 : (((words1.drop 24).drop 24).drop 24).all (fun c => isCode c || c.before args0 about1) = true := by decide +kernel
theorem w_tables : (allAtoms (Jvm.Cond.code x code maxLocals ret :: tables_1)).before args0 about1 = true := by
  rw [allAtoms_all]
  show words1.all (fun c => c.before args0 about1) = true
  refine all_split ?_ w_codes
  rw [← List.take_append_drop 24 words1, List.all_append, w_t1, ← List.take_append_drop 24 (words1.drop 24), List.all_append, w_t2, ← List.take_append_drop 24 ((words1.drop 24).drop 24), List.all_append, w_t3, w_t4]
  rfl
set_option maxRecDepth 65536 in
theorem w_case : (Jvm.Cond.and given_1 narrow_1).before args0 about1 = true := by decide +kernel
theorem w_applies : (headSpec (Jvm.Cond.code x code maxLocals ret :: tables_1) room_1).applies x e0.platform about1 = true :=
  (Spec.applies_iff w_frames).mpr ⟨w_running, w_runnable, w_alone, w_named, w_hears, w_ripe, w_room, w_tables⟩
theorem atStart : AtStart classFile x code maxLocals ret World_1 tables_1 room_1 Calls_1 rest_1 Pre_1 launch0 p0 e0 about1 theMethod args0 below0 :=
  ⟨lists_1, trivial, launch0.admits_env _ _ _, launch0.least_env, fairChoices_fair.cas, fairChoices_fair.clock, w_frames, w_args, w_heap, w_applies, trivial, trivial, w_case⟩
end start1
theorem witness_1 : WitnessClaimed_1 := ⟨start1.p0, start1.e0, start1.about1, start1.theMethod, start1.args0, start1.below0, start1.atStart⟩
end Jvm.Pilot.@@N@@

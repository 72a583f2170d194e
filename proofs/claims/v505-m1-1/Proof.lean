import JvmDerived
import JvmDerived.Pilot.@@N@@Statement
import JvmDerived.Pilot.@@N@@Code
set_option linter.unusedVariables false
set_option linter.unusedSimpArgs false
namespace Jvm.RoadKit
open Sem ClassFile Op Lib Jvm.Stand Jvm.Free Jvm.LawKit
section New
variable {p : Program} {l : Launch} {e : Env} {R : Room} {s : State} {m : MethodId} {args : Array Value} {below : List Frame} {meth : Method} {c : Code} {T : State} {locs : List Loc} {cells slots : Nat}
theorem retI (X : Stand p l e R s m args below meth c T locs cells slots) (hx : p.tables.exec = Jvm.exec) {pc : Nat} {Ls : Array Slot} {z : Int32} {rest : List Value} (hret : meth.sig.returnType = some .int) (hd : decode c.code pc = .ok (.ireturn, 1)) {fs : List Frame}
    (hl : ∀ (f : JFrame) (acts : List Action), f.method = m → f.locked = none → f.entered = [] → (doReturn e (T.setTop f) acts (some (.int z))).1 = T.setFrames fs) : Steps p.tables e below (T.setTop (mkF m pc Ls (.int z :: rest))) (T.setFrames fs) := by
  have hm' : T.vm.method? m = some meth := X.method'
  have hn : narrow .int (.int z) = .int z := rfl
  show Steps p.tables e below (T.setTop { method := m, pc := pc, locals := Ls, stack := _ :: rest, locked := none }) _
  jvm_step X.here [X.here.top, hx, hd, hm', hret, hn]
  first | (intro acts; rw [hl _ acts rfl rfl rfl]) | rw [hl _ _ rfl rfl rfl]
  exact Steps.refl _
end New
end Jvm.RoadKit
namespace Jvm.Pilot.@@N@@
open Jvm Jvm.ClassFile Sem Op Lib Jvm.Free Jvm.Stand Jvm.LawKit Jvm.RoadKit Bundle Jvm.Pilot.@@N@@.Jvm.D

theorem own_nb {c : Prop} [Decidable c] : nar .boolean (if c then (1 : Int32) else (0 : Int32)) = (if c then (1 : Int32) else (0 : Int32)) := by
  by_cases h : c
  · rw [if_pos h]; rfl
  · rw [if_neg h]; rfl
theorem own_n1 : nar .boolean (1 : Int32) = (1 : Int32) := rfl
theorem own_n0 : nar .boolean (0 : Int32) = (0 : Int32) := rfl

theorem own_pos {x y : Int32} (h : x = y &&& (2147483647 : Int32)) : ¬ x < (0 : Int32) := by
  have := c_mask y 2147483647 31 (by decide) (by decide)
  rw [← h] at this
  rw [Int32.lt_iff_toInt_lt]
  show ¬ x.toInt < 0
  omega
theorem own_rem {x y d : Int32} {D : Int} (h : x = (y &&& (2147483647 : Int32)) % d) (hd : d.toInt = D) (hD : 0 < D) : 0 ≤ x.toInt ∧ x.toInt < D := by
  have h1 := c_mask y 2147483647 31 (by decide) (by decide)
  have h2 := c_iremV (y &&& 2147483647) d
  rw [← h, hd] at h2
  have h3 := h2.1 (by omega) hD
  omega

section OwnArr
variable {p : Program} {l : Launch} {e : Env} {R : Room} {s : State} {m : MethodId} {args : Array Value} {below : List Frame} {meth : Method} {c : Code} {T : State} {locs : List Loc} {cells slots : Nat} {Z : State} {h : Heap} {a : Addr} {k : ClassId} {n : Int32} {vs : List Value} {d : Value}
theorem own_len {ty : FieldType} {g : JFrame} {target : State} (X : Stand p l e R s m args below meth c T locs cells slots) (hx : p.tables.exec = Jvm.exec) (hZ : Z.Warmed39 s.vm) (eT : T.heap = h) (A : Arv Z h a k ty n vs d) (hg : g.method = m) {rest : List Value} (hs : g.stack = .ref a :: rest) (hd : decode c.code g.pc = .ok (.arraylength, 1))
    (hr : Steps p.tables e below (T.setTop { g with pc := g.pc + 1, stack := .int n :: rest }) target) : Steps p.tables e below (T.setTop g) target := by
  obtain ⟨cl, Ar, -, S, M, -, -⟩ := A
  refine X.arraylength hx (by rw [eT]; exact Ar.1) (State.isArrayOf_alike hZ.alike Ar.2.1) hg hs hd _ ?_
  rw [len_of S M]
  exact hr
theorem own_bal {g : JFrame} {target : State} (X : Stand p l e R s m args below meth c T locs cells slots) (hx : p.tables.exec = Jvm.exec) (hZ : Z.Warmed39 s.vm) (eT : T.heap = h) (A : Arv Z h a k .byte n vs d) {j : Int32} (hj : ¬ j < 0 ∧ j < n) {v : Value} (hv : vs.getD j.toNatClampNeg d = v) (hg : g.method = m) {rest : List Value} (hs : g.stack = .int j :: .ref a :: rest) (hd : decode c.code g.pc = .ok (.baload, 1))
    (hr : Steps p.tables e below (T.setTop { g with pc := g.pc + 1, stack := v :: rest }) target) : Steps p.tables e below (T.setTop g) target := by
  obtain ⟨cl, Ar, -, S, M, H, -⟩ := A
  have hin := inb_of S hj
  exact X.baloadBytes hx (by rw [eT]; exact Ar.1) (State.isArrayOf_alike hZ.alike Ar.2.1) Ar.2.2 hin (Has.at H hin hv) hg hs hd _ hr
end OwnArr
theorem own_5 {k : Int32} (h : 0 ≤ k.toInt ∧ k.toInt < 5) : k = (0 : Int32) ∨ k = (1 : Int32) ∨ k = (2 : Int32) ∨ k = (3 : Int32) ∨ k = (4 : Int32) := by
  have e : ∀ j : Int32, k.toInt = j.toInt → k = j := fun j q => Int32.toInt_inj.mp q
  have q : k.toInt = 0 ∨ k.toInt = 1 ∨ k.toInt = 2 ∨ k.toInt = 3 ∨ k.toInt = 4 := by omega
  rcases q with q | q | q | q | q
  · exact Or.inl (e 0 q)
  · exact Or.inr (Or.inl (e 1 q))
  · exact Or.inr (Or.inr (Or.inl (e 2 q)))
  · exact Or.inr (Or.inr (Or.inr (Or.inl (e 3 q))))
  · exact Or.inr (Or.inr (Or.inr (Or.inr (e 4 q))))
def own_ix (f t w b0 b1 b2 b3 : Int32) : Int32 := if (¬ (0 : Int32) < f ∧ (0 : Int32) < t ∧ b0 = w) then (0 : Int32) else if (¬ (1 : Int32) < f ∧ (1 : Int32) < t ∧ b1 = w) then (1 : Int32) else if (¬ (2 : Int32) < f ∧ (2 : Int32) < t ∧ b2 = w) then (2 : Int32) else if (¬ (3 : Int32) < f ∧ (3 : Int32) < t ∧ b3 = w) then (3 : Int32) else (-1 : Int32)
theorem own_leaf_0 {p3 p4 b0 b1 b2 b3 : Int32} (c6 : (0 : Int32) < p3) (c14 : b0 = p4) (hto : ¬ (4 : Int32) < p3) : (0 : Int32) = own_ix (0 : Int32) p3 p4 b0 b1 b2 b3 := by
  simp only [Int32.lt_iff_toInt_lt] at *
  unfold own_ix
  simp only [Int32.lt_iff_toInt_lt]
  have k0 : (0 : Int32).toInt = 0 := rfl
  have k1 : (1 : Int32).toInt = 1 := rfl
  have k2 : (2 : Int32).toInt = 2 := rfl
  have k3 : (3 : Int32).toInt = 3 := rfl
  have k4 : (4 : Int32).toInt = 4 := rfl
  simp only [k0, k1, k2, k3, k4] at *
  repeat' split
  all_goals first | rfl | (exfalso; simp_all; done) | (exfalso; simp_all; omega) | (exfalso; omega)
theorem own_leaf_1 {p3 p4 b0 b1 b2 b3 : Int32} (c6 : (0 : Int32) < p3) (c14 : ¬ b0 = p4) (c6_2 : (1 : Int32) < p3) (c14_3 : b1 = p4) (hto : ¬ (4 : Int32) < p3) : (1 : Int32) = own_ix (0 : Int32) p3 p4 b0 b1 b2 b3 := by
  simp only [Int32.lt_iff_toInt_lt] at *
  unfold own_ix
  simp only [Int32.lt_iff_toInt_lt]
  have k0 : (0 : Int32).toInt = 0 := rfl
  have k1 : (1 : Int32).toInt = 1 := rfl
  have k2 : (2 : Int32).toInt = 2 := rfl
  have k3 : (3 : Int32).toInt = 3 := rfl
  have k4 : (4 : Int32).toInt = 4 := rfl
  simp only [k0, k1, k2, k3, k4] at *
  repeat' split
  all_goals first | rfl | (exfalso; simp_all; done) | (exfalso; simp_all; omega) | (exfalso; omega)
theorem own_leaf_2 {p3 p4 b0 b1 b2 b3 : Int32} (c6 : (0 : Int32) < p3) (c14 : ¬ b0 = p4) (c6_2 : (1 : Int32) < p3) (c14_3 : ¬ b1 = p4) (c6_4 : (2 : Int32) < p3) (c14_5 : b2 = p4) (hto : ¬ (4 : Int32) < p3) : (2 : Int32) = own_ix (0 : Int32) p3 p4 b0 b1 b2 b3 := by
  simp only [Int32.lt_iff_toInt_lt] at *
  unfold own_ix
  simp only [Int32.lt_iff_toInt_lt]
  have k0 : (0 : Int32).toInt = 0 := rfl
  have k1 : (1 : Int32).toInt = 1 := rfl
  have k2 : (2 : Int32).toInt = 2 := rfl
  have k3 : (3 : Int32).toInt = 3 := rfl
  have k4 : (4 : Int32).toInt = 4 := rfl
  simp only [k0, k1, k2, k3, k4] at *
  repeat' split
  all_goals first | rfl | (exfalso; simp_all; done) | (exfalso; simp_all; omega) | (exfalso; omega)
theorem own_leaf_3 {p3 p4 b0 b1 b2 b3 : Int32} (c6 : (0 : Int32) < p3) (c14 : ¬ b0 = p4) (c6_2 : (1 : Int32) < p3) (c14_3 : ¬ b1 = p4) (c6_4 : (2 : Int32) < p3) (c14_5 : ¬ b2 = p4) (c6_6 : (3 : Int32) < p3) (c14_7 : b3 = p4) (hto : ¬ (4 : Int32) < p3) : (3 : Int32) = own_ix (0 : Int32) p3 p4 b0 b1 b2 b3 := by
  simp only [Int32.lt_iff_toInt_lt] at *
  unfold own_ix
  simp only [Int32.lt_iff_toInt_lt]
  have k0 : (0 : Int32).toInt = 0 := rfl
  have k1 : (1 : Int32).toInt = 1 := rfl
  have k2 : (2 : Int32).toInt = 2 := rfl
  have k3 : (3 : Int32).toInt = 3 := rfl
  have k4 : (4 : Int32).toInt = 4 := rfl
  simp only [k0, k1, k2, k3, k4] at *
  repeat' split
  all_goals first | rfl | (exfalso; simp_all; done) | (exfalso; simp_all; omega) | (exfalso; omega)
theorem own_leaf_4 {p3 p4 b0 b1 b2 b3 : Int32} (c6 : (0 : Int32) < p3) (c14 : ¬ b0 = p4) (c6_2 : (1 : Int32) < p3) (c14_3 : ¬ b1 = p4) (c6_4 : (2 : Int32) < p3) (c14_5 : ¬ b2 = p4) (c6_6 : (3 : Int32) < p3) (c14_7 : ¬ b3 = p4) (hto : ¬ (4 : Int32) < p3) : (-1 : Int32) = own_ix (0 : Int32) p3 p4 b0 b1 b2 b3 := by
  simp only [Int32.lt_iff_toInt_lt] at *
  unfold own_ix
  simp only [Int32.lt_iff_toInt_lt]
  have k0 : (0 : Int32).toInt = 0 := rfl
  have k1 : (1 : Int32).toInt = 1 := rfl
  have k2 : (2 : Int32).toInt = 2 := rfl
  have k3 : (3 : Int32).toInt = 3 := rfl
  have k4 : (4 : Int32).toInt = 4 := rfl
  simp only [k0, k1, k2, k3, k4] at *
  repeat' split
  all_goals first | rfl | (exfalso; simp_all; done) | (exfalso; simp_all; omega) | (exfalso; omega)
theorem own_leaf_5 {p3 p4 b0 b1 b2 b3 : Int32} (c6 : (0 : Int32) < p3) (c14 : ¬ b0 = p4) (c6_2 : (1 : Int32) < p3) (c14_3 : ¬ b1 = p4) (c6_4 : (2 : Int32) < p3) (c14_5 : ¬ b2 = p4) (c6_6 : ¬ (3 : Int32) < p3) (hto : ¬ (4 : Int32) < p3) : (-1 : Int32) = own_ix (0 : Int32) p3 p4 b0 b1 b2 b3 := by
  simp only [Int32.lt_iff_toInt_lt] at *
  unfold own_ix
  simp only [Int32.lt_iff_toInt_lt]
  have k0 : (0 : Int32).toInt = 0 := rfl
  have k1 : (1 : Int32).toInt = 1 := rfl
  have k2 : (2 : Int32).toInt = 2 := rfl
  have k3 : (3 : Int32).toInt = 3 := rfl
  have k4 : (4 : Int32).toInt = 4 := rfl
  simp only [k0, k1, k2, k3, k4] at *
  repeat' split
  all_goals first | rfl | (exfalso; simp_all; done) | (exfalso; simp_all; omega) | (exfalso; omega)
theorem own_leaf_6 {p3 p4 b0 b1 b2 b3 : Int32} (c6 : (0 : Int32) < p3) (c14 : ¬ b0 = p4) (c6_2 : (1 : Int32) < p3) (c14_3 : ¬ b1 = p4) (c6_4 : ¬ (2 : Int32) < p3) (hto : ¬ (4 : Int32) < p3) : (-1 : Int32) = own_ix (0 : Int32) p3 p4 b0 b1 b2 b3 := by
  simp only [Int32.lt_iff_toInt_lt] at *
  unfold own_ix
  simp only [Int32.lt_iff_toInt_lt]
  have k0 : (0 : Int32).toInt = 0 := rfl
  have k1 : (1 : Int32).toInt = 1 := rfl
  have k2 : (2 : Int32).toInt = 2 := rfl
  have k3 : (3 : Int32).toInt = 3 := rfl
  have k4 : (4 : Int32).toInt = 4 := rfl
  simp only [k0, k1, k2, k3, k4] at *
  repeat' split
  all_goals first | rfl | (exfalso; simp_all; done) | (exfalso; simp_all; omega) | (exfalso; omega)
theorem own_leaf_7 {p3 p4 b0 b1 b2 b3 : Int32} (c6 : (0 : Int32) < p3) (c14 : ¬ b0 = p4) (c6_2 : ¬ (1 : Int32) < p3) (hto : ¬ (4 : Int32) < p3) : (-1 : Int32) = own_ix (0 : Int32) p3 p4 b0 b1 b2 b3 := by
  simp only [Int32.lt_iff_toInt_lt] at *
  unfold own_ix
  simp only [Int32.lt_iff_toInt_lt]
  have k0 : (0 : Int32).toInt = 0 := rfl
  have k1 : (1 : Int32).toInt = 1 := rfl
  have k2 : (2 : Int32).toInt = 2 := rfl
  have k3 : (3 : Int32).toInt = 3 := rfl
  have k4 : (4 : Int32).toInt = 4 := rfl
  simp only [k0, k1, k2, k3, k4] at *
  repeat' split
  all_goals first | rfl | (exfalso; simp_all; done) | (exfalso; simp_all; omega) | (exfalso; omega)
theorem own_leaf_8 {p3 p4 b0 b1 b2 b3 : Int32} (c6 : ¬ (0 : Int32) < p3) (hto : ¬ (4 : Int32) < p3) : (-1 : Int32) = own_ix (0 : Int32) p3 p4 b0 b1 b2 b3 := by
  simp only [Int32.lt_iff_toInt_lt] at *
  unfold own_ix
  simp only [Int32.lt_iff_toInt_lt]
  have k0 : (0 : Int32).toInt = 0 := rfl
  have k1 : (1 : Int32).toInt = 1 := rfl
  have k2 : (2 : Int32).toInt = 2 := rfl
  have k3 : (3 : Int32).toInt = 3 := rfl
  have k4 : (4 : Int32).toInt = 4 := rfl
  simp only [k0, k1, k2, k3, k4] at *
  repeat' split
  all_goals first | rfl | (exfalso; simp_all; done) | (exfalso; simp_all; omega) | (exfalso; omega)
theorem own_leaf_9 {p3 p4 b0 b1 b2 b3 : Int32} (c6 : (1 : Int32) < p3) (c14 : b1 = p4) (hto : ¬ (4 : Int32) < p3) : (1 : Int32) = own_ix (1 : Int32) p3 p4 b0 b1 b2 b3 := by
  simp only [Int32.lt_iff_toInt_lt] at *
  unfold own_ix
  simp only [Int32.lt_iff_toInt_lt]
  have k0 : (0 : Int32).toInt = 0 := rfl
  have k1 : (1 : Int32).toInt = 1 := rfl
  have k2 : (2 : Int32).toInt = 2 := rfl
  have k3 : (3 : Int32).toInt = 3 := rfl
  have k4 : (4 : Int32).toInt = 4 := rfl
  simp only [k0, k1, k2, k3, k4] at *
  repeat' split
  all_goals first | rfl | (exfalso; simp_all; done) | (exfalso; simp_all; omega) | (exfalso; omega)
theorem own_leaf_10 {p3 p4 b0 b1 b2 b3 : Int32} (c6 : (1 : Int32) < p3) (c14 : ¬ b1 = p4) (c6_2 : (2 : Int32) < p3) (c14_3 : b2 = p4) (hto : ¬ (4 : Int32) < p3) : (2 : Int32) = own_ix (1 : Int32) p3 p4 b0 b1 b2 b3 := by
  simp only [Int32.lt_iff_toInt_lt] at *
  unfold own_ix
  simp only [Int32.lt_iff_toInt_lt]
  have k0 : (0 : Int32).toInt = 0 := rfl
  have k1 : (1 : Int32).toInt = 1 := rfl
  have k2 : (2 : Int32).toInt = 2 := rfl
  have k3 : (3 : Int32).toInt = 3 := rfl
  have k4 : (4 : Int32).toInt = 4 := rfl
  simp only [k0, k1, k2, k3, k4] at *
  repeat' split
  all_goals first | rfl | (exfalso; simp_all; done) | (exfalso; simp_all; omega) | (exfalso; omega)
theorem own_leaf_11 {p3 p4 b0 b1 b2 b3 : Int32} (c6 : (1 : Int32) < p3) (c14 : ¬ b1 = p4) (c6_2 : (2 : Int32) < p3) (c14_3 : ¬ b2 = p4) (c6_4 : (3 : Int32) < p3) (c14_5 : b3 = p4) (hto : ¬ (4 : Int32) < p3) : (3 : Int32) = own_ix (1 : Int32) p3 p4 b0 b1 b2 b3 := by
  simp only [Int32.lt_iff_toInt_lt] at *
  unfold own_ix
  simp only [Int32.lt_iff_toInt_lt]
  have k0 : (0 : Int32).toInt = 0 := rfl
  have k1 : (1 : Int32).toInt = 1 := rfl
  have k2 : (2 : Int32).toInt = 2 := rfl
  have k3 : (3 : Int32).toInt = 3 := rfl
  have k4 : (4 : Int32).toInt = 4 := rfl
  simp only [k0, k1, k2, k3, k4] at *
  repeat' split
  all_goals first | rfl | (exfalso; simp_all; done) | (exfalso; simp_all; omega) | (exfalso; omega)
theorem own_leaf_12 {p3 p4 b0 b1 b2 b3 : Int32} (c6 : (1 : Int32) < p3) (c14 : ¬ b1 = p4) (c6_2 : (2 : Int32) < p3) (c14_3 : ¬ b2 = p4) (c6_4 : (3 : Int32) < p3) (c14_5 : ¬ b3 = p4) (hto : ¬ (4 : Int32) < p3) : (-1 : Int32) = own_ix (1 : Int32) p3 p4 b0 b1 b2 b3 := by
  simp only [Int32.lt_iff_toInt_lt] at *
  unfold own_ix
  simp only [Int32.lt_iff_toInt_lt]
  have k0 : (0 : Int32).toInt = 0 := rfl
  have k1 : (1 : Int32).toInt = 1 := rfl
  have k2 : (2 : Int32).toInt = 2 := rfl
  have k3 : (3 : Int32).toInt = 3 := rfl
  have k4 : (4 : Int32).toInt = 4 := rfl
  simp only [k0, k1, k2, k3, k4] at *
  repeat' split
  all_goals first | rfl | (exfalso; simp_all; done) | (exfalso; simp_all; omega) | (exfalso; omega)
theorem own_leaf_13 {p3 p4 b0 b1 b2 b3 : Int32} (c6 : (1 : Int32) < p3) (c14 : ¬ b1 = p4) (c6_2 : (2 : Int32) < p3) (c14_3 : ¬ b2 = p4) (c6_4 : ¬ (3 : Int32) < p3) (hto : ¬ (4 : Int32) < p3) : (-1 : Int32) = own_ix (1 : Int32) p3 p4 b0 b1 b2 b3 := by
  simp only [Int32.lt_iff_toInt_lt] at *
  unfold own_ix
  simp only [Int32.lt_iff_toInt_lt]
  have k0 : (0 : Int32).toInt = 0 := rfl
  have k1 : (1 : Int32).toInt = 1 := rfl
  have k2 : (2 : Int32).toInt = 2 := rfl
  have k3 : (3 : Int32).toInt = 3 := rfl
  have k4 : (4 : Int32).toInt = 4 := rfl
  simp only [k0, k1, k2, k3, k4] at *
  repeat' split
  all_goals first | rfl | (exfalso; simp_all; done) | (exfalso; simp_all; omega) | (exfalso; omega)
theorem own_leaf_14 {p3 p4 b0 b1 b2 b3 : Int32} (c6 : (1 : Int32) < p3) (c14 : ¬ b1 = p4) (c6_2 : ¬ (2 : Int32) < p3) (hto : ¬ (4 : Int32) < p3) : (-1 : Int32) = own_ix (1 : Int32) p3 p4 b0 b1 b2 b3 := by
  simp only [Int32.lt_iff_toInt_lt] at *
  unfold own_ix
  simp only [Int32.lt_iff_toInt_lt]
  have k0 : (0 : Int32).toInt = 0 := rfl
  have k1 : (1 : Int32).toInt = 1 := rfl
  have k2 : (2 : Int32).toInt = 2 := rfl
  have k3 : (3 : Int32).toInt = 3 := rfl
  have k4 : (4 : Int32).toInt = 4 := rfl
  simp only [k0, k1, k2, k3, k4] at *
  repeat' split
  all_goals first | rfl | (exfalso; simp_all; done) | (exfalso; simp_all; omega) | (exfalso; omega)
theorem own_leaf_15 {p3 p4 b0 b1 b2 b3 : Int32} (c6 : ¬ (1 : Int32) < p3) (hto : ¬ (4 : Int32) < p3) : (-1 : Int32) = own_ix (1 : Int32) p3 p4 b0 b1 b2 b3 := by
  simp only [Int32.lt_iff_toInt_lt] at *
  unfold own_ix
  simp only [Int32.lt_iff_toInt_lt]
  have k0 : (0 : Int32).toInt = 0 := rfl
  have k1 : (1 : Int32).toInt = 1 := rfl
  have k2 : (2 : Int32).toInt = 2 := rfl
  have k3 : (3 : Int32).toInt = 3 := rfl
  have k4 : (4 : Int32).toInt = 4 := rfl
  simp only [k0, k1, k2, k3, k4] at *
  repeat' split
  all_goals first | rfl | (exfalso; simp_all; done) | (exfalso; simp_all; omega) | (exfalso; omega)
theorem own_leaf_16 {p3 p4 b0 b1 b2 b3 : Int32} (c6 : (2 : Int32) < p3) (c14 : b2 = p4) (hto : ¬ (4 : Int32) < p3) : (2 : Int32) = own_ix (2 : Int32) p3 p4 b0 b1 b2 b3 := by
  simp only [Int32.lt_iff_toInt_lt] at *
  unfold own_ix
  simp only [Int32.lt_iff_toInt_lt]
  have k0 : (0 : Int32).toInt = 0 := rfl
  have k1 : (1 : Int32).toInt = 1 := rfl
  have k2 : (2 : Int32).toInt = 2 := rfl
  have k3 : (3 : Int32).toInt = 3 := rfl
  have k4 : (4 : Int32).toInt = 4 := rfl
  simp only [k0, k1, k2, k3, k4] at *
  repeat' split
  all_goals first | rfl | (exfalso; simp_all; done) | (exfalso; simp_all; omega) | (exfalso; omega)
theorem own_leaf_17 {p3 p4 b0 b1 b2 b3 : Int32} (c6 : (2 : Int32) < p3) (c14 : ¬ b2 = p4) (c6_2 : (3 : Int32) < p3) (c14_3 : b3 = p4) (hto : ¬ (4 : Int32) < p3) : (3 : Int32) = own_ix (2 : Int32) p3 p4 b0 b1 b2 b3 := by
  simp only [Int32.lt_iff_toInt_lt] at *
  unfold own_ix
  simp only [Int32.lt_iff_toInt_lt]
  have k0 : (0 : Int32).toInt = 0 := rfl
  have k1 : (1 : Int32).toInt = 1 := rfl
  have k2 : (2 : Int32).toInt = 2 := rfl
  have k3 : (3 : Int32).toInt = 3 := rfl
  have k4 : (4 : Int32).toInt = 4 := rfl
  simp only [k0, k1, k2, k3, k4] at *
  repeat' split
  all_goals first | rfl | (exfalso; simp_all; done) | (exfalso; simp_all; omega) | (exfalso; omega)
theorem own_leaf_18 {p3 p4 b0 b1 b2 b3 : Int32} (c6 : (2 : Int32) < p3) (c14 : ¬ b2 = p4) (c6_2 : (3 : Int32) < p3) (c14_3 : ¬ b3 = p4) (hto : ¬ (4 : Int32) < p3) : (-1 : Int32) = own_ix (2 : Int32) p3 p4 b0 b1 b2 b3 := by
  simp only [Int32.lt_iff_toInt_lt] at *
  unfold own_ix
  simp only [Int32.lt_iff_toInt_lt]
  have k0 : (0 : Int32).toInt = 0 := rfl
  have k1 : (1 : Int32).toInt = 1 := rfl
  have k2 : (2 : Int32).toInt = 2 := rfl
  have k3 : (3 : Int32).toInt = 3 := rfl
  have k4 : (4 : Int32).toInt = 4 := rfl
  simp only [k0, k1, k2, k3, k4] at *
  repeat' split
  all_goals first | rfl | (exfalso; simp_all; done) | (exfalso; simp_all; omega) | (exfalso; omega)
theorem own_leaf_19 {p3 p4 b0 b1 b2 b3 : Int32} (c6 : (2 : Int32) < p3) (c14 : ¬ b2 = p4) (c6_2 : ¬ (3 : Int32) < p3) (hto : ¬ (4 : Int32) < p3) : (-1 : Int32) = own_ix (2 : Int32) p3 p4 b0 b1 b2 b3 := by
  simp only [Int32.lt_iff_toInt_lt] at *
  unfold own_ix
  simp only [Int32.lt_iff_toInt_lt]
  have k0 : (0 : Int32).toInt = 0 := rfl
  have k1 : (1 : Int32).toInt = 1 := rfl
  have k2 : (2 : Int32).toInt = 2 := rfl
  have k3 : (3 : Int32).toInt = 3 := rfl
  have k4 : (4 : Int32).toInt = 4 := rfl
  simp only [k0, k1, k2, k3, k4] at *
  repeat' split
  all_goals first | rfl | (exfalso; simp_all; done) | (exfalso; simp_all; omega) | (exfalso; omega)
theorem own_leaf_20 {p3 p4 b0 b1 b2 b3 : Int32} (c6 : ¬ (2 : Int32) < p3) (hto : ¬ (4 : Int32) < p3) : (-1 : Int32) = own_ix (2 : Int32) p3 p4 b0 b1 b2 b3 := by
  simp only [Int32.lt_iff_toInt_lt] at *
  unfold own_ix
  simp only [Int32.lt_iff_toInt_lt]
  have k0 : (0 : Int32).toInt = 0 := rfl
  have k1 : (1 : Int32).toInt = 1 := rfl
  have k2 : (2 : Int32).toInt = 2 := rfl
  have k3 : (3 : Int32).toInt = 3 := rfl
  have k4 : (4 : Int32).toInt = 4 := rfl
  simp only [k0, k1, k2, k3, k4] at *
  repeat' split
  all_goals first | rfl | (exfalso; simp_all; done) | (exfalso; simp_all; omega) | (exfalso; omega)
theorem own_leaf_21 {p3 p4 b0 b1 b2 b3 : Int32} (c6 : (3 : Int32) < p3) (c14 : b3 = p4) (hto : ¬ (4 : Int32) < p3) : (3 : Int32) = own_ix (3 : Int32) p3 p4 b0 b1 b2 b3 := by
  simp only [Int32.lt_iff_toInt_lt] at *
  unfold own_ix
  simp only [Int32.lt_iff_toInt_lt]
  have k0 : (0 : Int32).toInt = 0 := rfl
  have k1 : (1 : Int32).toInt = 1 := rfl
  have k2 : (2 : Int32).toInt = 2 := rfl
  have k3 : (3 : Int32).toInt = 3 := rfl
  have k4 : (4 : Int32).toInt = 4 := rfl
  simp only [k0, k1, k2, k3, k4] at *
  repeat' split
  all_goals first | rfl | (exfalso; simp_all; done) | (exfalso; simp_all; omega) | (exfalso; omega)
theorem own_leaf_22 {p3 p4 b0 b1 b2 b3 : Int32} (c6 : (3 : Int32) < p3) (c14 : ¬ b3 = p4) (hto : ¬ (4 : Int32) < p3) : (-1 : Int32) = own_ix (3 : Int32) p3 p4 b0 b1 b2 b3 := by
  simp only [Int32.lt_iff_toInt_lt] at *
  unfold own_ix
  simp only [Int32.lt_iff_toInt_lt]
  have k0 : (0 : Int32).toInt = 0 := rfl
  have k1 : (1 : Int32).toInt = 1 := rfl
  have k2 : (2 : Int32).toInt = 2 := rfl
  have k3 : (3 : Int32).toInt = 3 := rfl
  have k4 : (4 : Int32).toInt = 4 := rfl
  simp only [k0, k1, k2, k3, k4] at *
  repeat' split
  all_goals first | rfl | (exfalso; simp_all; done) | (exfalso; simp_all; omega) | (exfalso; omega)
theorem own_leaf_23 {p3 p4 b0 b1 b2 b3 : Int32} (c6 : ¬ (3 : Int32) < p3) (hto : ¬ (4 : Int32) < p3) : (-1 : Int32) = own_ix (3 : Int32) p3 p4 b0 b1 b2 b3 := by
  simp only [Int32.lt_iff_toInt_lt] at *
  unfold own_ix
  simp only [Int32.lt_iff_toInt_lt]
  have k0 : (0 : Int32).toInt = 0 := rfl
  have k1 : (1 : Int32).toInt = 1 := rfl
  have k2 : (2 : Int32).toInt = 2 := rfl
  have k3 : (3 : Int32).toInt = 3 := rfl
  have k4 : (4 : Int32).toInt = 4 := rfl
  simp only [k0, k1, k2, k3, k4] at *
  repeat' split
  all_goals first | rfl | (exfalso; simp_all; done) | (exfalso; simp_all; omega) | (exfalso; omega)
theorem own_leaf_24 {p3 p4 b0 b1 b2 b3 : Int32} (hto : ¬ (4 : Int32) < p3) : (-1 : Int32) = own_ix (4 : Int32) p3 p4 b0 b1 b2 b3 := by
  simp only [Int32.lt_iff_toInt_lt] at *
  unfold own_ix
  simp only [Int32.lt_iff_toInt_lt]
  have k0 : (0 : Int32).toInt = 0 := rfl
  have k1 : (1 : Int32).toInt = 1 := rfl
  have k2 : (2 : Int32).toInt = 2 := rfl
  have k3 : (3 : Int32).toInt = 3 := rfl
  have k4 : (4 : Int32).toInt = 4 := rfl
  simp only [k0, k1, k2, k3, k4] at *
  repeat' split
  all_goals first | rfl | (exfalso; simp_all; done) | (exfalso; simp_all; omega) | (exfalso; omega)
theorem own_no {i f t b w q : Int32} (hq : q = (if i < f then (0 : Int32) else (if i < t then (if b = w then (1 : Int32) else (0 : Int32)) else (0 : Int32)))) (h : q = (0 : Int32)) : ¬ (¬ i < f ∧ i < t ∧ b = w) := fun ⟨h1, h2, h3⟩ => by
  rw [if_neg h1, if_pos h2, if_pos h3] at hq
  rw [hq] at h; exact absurd h (by decide)
theorem own_yes {i f t b w q : Int32} (hq : q = (if i < f then (0 : Int32) else (if i < t then (if b = w then (1 : Int32) else (0 : Int32)) else (0 : Int32)))) (h : ¬ q = (0 : Int32)) : (¬ i < f ∧ i < t ∧ b = w) := by
  by_cases h1 : i < f
  · rw [if_pos h1] at hq; exact absurd hq h
  · rw [if_neg h1] at hq
    by_cases h2 : i < t
    · rw [if_pos h2] at hq
      by_cases h3 : b = w
      · exact ⟨h1, h2, h3⟩
      · rw [if_neg h3] at hq; exact absurd hq h
    · rw [if_neg h2] at hq; exact absurd hq h

theorem pd_0 : parseMethodDescriptor "(IIII)B" = some ⟨[.int, .int, .int, .int], some .byte⟩ := by decide +kernel
theorem pd_1 : parseMethodDescriptor "([BIIIB)Z" = some ⟨[(.array .byte), .int, .int, .int, .byte], some .boolean⟩ := by decide +kernel
theorem pd_2 : parseMethodDescriptor "([BIIB)I" = some ⟨[(.array .byte), .int, .int, .byte], some .int⟩ := by decide +kernel
theorem d1_0 : decode method_2_code 0 = .ok (.iload_n 1, 1) := by decide +kernel
theorem d1_1 : decode method_2_code 1 = .ok (.iload_n 0, 1) := by decide +kernel
theorem d1_2 : decode method_2_code 2 = .ok (.ishr, 1) := by decide +kernel
theorem d1_3 : decode method_2_code 3 = .ok (.iconst 1, 1) := by decide +kernel
theorem d1_4 : decode method_2_code 4 = .ok (.iand, 1) := by decide +kernel
theorem d1_5 : decode method_2_code 5 = .ok (.ifCond .eq 6, 3) := by decide +kernel
theorem d1_8 : decode method_2_code 8 = .ok (.iload_n 3, 1) := by decide +kernel
theorem d1_9 : decode method_2_code 9 = .ok (.i2b, 1) := by decide +kernel
theorem d1_10 : decode method_2_code 10 = .ok (.ireturn, 1) := by decide +kernel
theorem d1_11 : decode method_2_code 11 = .ok (.iload_n 2, 1) := by decide +kernel
theorem d1_12 : decode method_2_code 12 = .ok (.bipush 8, 2) := by decide +kernel
theorem d1_14 : decode method_2_code 14 = .ok (.iload_n 0, 1) := by decide +kernel
theorem d1_15 : decode method_2_code 15 = .ok (.imul, 1) := by decide +kernel
theorem d1_16 : decode method_2_code 16 = .ok (.ishr, 1) := by decide +kernel
theorem d1_17 : decode method_2_code 17 = .ok (.i2b, 1) := by decide +kernel
theorem d1_18 : decode method_2_code 18 = .ok (.ireturn, 1) := by decide +kernel
theorem pn_1 : plainName "ledgerline/cli/LineReaderIndexOfPinLaw" = true := by first | (simp [plainName, overriddenIn]; done) | decide +kernel
theorem ef_1 (m : MethodId) (x0 : Int32) (x1 : Int32) (x2 : Int32) (x3 : Int32) : entryFrame m #[(.int x0), (.int x1), (.int x2), (.int x3)] 4 = mkF m 0 #[.val (.int x0), .val (.int x1), .val (.int x2), .val (.int x3)] [] := by first | (simp [entryFrame, mkF, argsToLocals, Value.category]; done) | rfl
def Q1 (Z : State) (p1 : Int32) (p2 : Int32) (p3 : Int32) (p4 : Int32) (h0 : Heap) (n0 : Nat) (v : Option Value) (h : Heap) (L : List Loc) : Prop := ∃ z : Int32, v = some (.int z) ∧ Fr n0 L ∧ h = h0
set_option maxRecDepth 65536 in
set_option maxHeartbeats 40000000 in
theorem rm1 (l : Launch) (Z : State) (a0 : Array Value) (hw : ∀ d ∈ tables_1, d.before a0 Z = true) (ws : List Jvm.Cond) (p1 : Int32) (p2 : Int32) (p3 : Int32) (p4 : Int32) (h0 : Heap) (n0 : Nat) (Z0 : n0 ≤ h0.size) :
    MetFree l (⟨"ledgerline/cli/LineReaderIndexOfPinLaw", "cell", "(IIII)B"⟩ : MethodName) (head1 (Jvm.Cond.code (⟨"ledgerline/cli/LineReaderIndexOfPinLaw", "cell", "(IIII)B"⟩ : MethodName) method_2_code 4 (some .byte) :: ws) ({ frames := 0, cells := 0, slots := 0, locals := 0 } : Room)) (fun a U => a = #[(.int p1), (.int p2), (.int p3), (.int p4)] ∧ Z.Warmed39 U.vm ∧ U.heap = h0) (fun _ _ _ _ _ => True) (fun _ U o U' => ∃ v L, o = .returned v ∧ Q1 Z p1 p2 p3 p4 h0 n0 v U'.heap L ∧ FrameEnd U o U' L ({ frames := 0, cells := 0, slots := 0, locals := 0 } : Room).cells ({ frames := 0, cells := 0, slots := 0, locals := 0 } : Room).slots) := by
  refine MetFree.of_bodySF (plainFor_of_name pn_1) hisR ?_
  intro p e s m args below meth c s₁ Bd hml0 hP hK
  obtain ⟨rfl, hZ, hh⟩ := hP
  have hx := Bd.exec
  have hby := Bd.bytes
  have hml : c.maxLocals = 4 := hml0
  have hown : s.vm.findClass "ledgerline/cli/LineReaderIndexOfPinLaw" = some m.cls := findClass_of_methodNamed Bd.named
  have hnm := (name_of_methodNamed Bd.named Bd.method).1
  have X0 : Stand p l e ({ frames := 0, cells := 0, slots := 0, locals := 0 } : Room) s m #[(.int p1), (.int p2), (.int p3), (.int p4)] below meth c s₁ [] 0 0 := Stand.of_body Bd
  have e0 : s₁.heap = h0 := by rw [← hh, Bd.state]; rfl
  have N0 := Fr.nil n0
  have K0 : Keep h0 h0 [] := Keep.refl _ _
  have P0 : ∀ t, Steps p.tables e below (s₁.setTop (mkF m 0 #[.val (.int p1), .val (.int p2), .val (.int p3), .val (.int p4)] [])) t → Steps p.tables e below (s₁.setTop (entryFrame m #[(.int p1), (.int p2), (.int p3), (.int p4)] 4)) t := fun t k => castTop (ef_1 m p1 p2 p3 p4) k
  have P1 : ∀ t, Steps p.tables e below (s₁.setTop (mkF m 5 #[.val (.int p1), .val (.int p2), .val (.int p3), .val (.int p4)] [(.int ((p2 >>> (p1 &&& 31)) &&& (1 : Int32)))])) t → Steps p.tables e below (s₁.setTop (entryFrame m #[(.int p1), (.int p2), (.int p3), (.int p4)] 4)) t := by
    intro t k
    refine P0 _ ?_
    refine XS.iloadN X0.here hx rfl (hb hby d1_0) rfl ?_
    show Steps p.tables e below (s₁.setTop (mkF m 1 #[.val (.int p1), .val (.int p2), .val (.int p3), .val (.int p4)] [(.int p2)])) _
    refine XS.iloadN X0.here hx rfl (hb hby d1_1) rfl ?_
    show Steps p.tables e below (s₁.setTop (mkF m 2 #[.val (.int p1), .val (.int p2), .val (.int p3), .val (.int p4)] [(.int p1), (.int p2)])) _
    refine XT.ishr X0.here hx rfl (hb hby d1_2) rfl ?_
    show Steps p.tables e below (s₁.setTop (mkF m 3 #[.val (.int p1), .val (.int p2), .val (.int p3), .val (.int p4)] [(.int (p2 >>> (p1 &&& 31)))])) _
    refine XS.iconst X0.here hx rfl (hb hby d1_3) ?_
    show Steps p.tables e below (s₁.setTop (mkF m 4 #[.val (.int p1), .val (.int p2), .val (.int p3), .val (.int p4)] [(.int (1 : Int32)), (.int (p2 >>> (p1 &&& 31)))])) _
    refine XS.iand X0.here hx rfl (hb hby d1_4) rfl ?_
    show Steps p.tables e below (s₁.setTop (mkF m 5 #[.val (.int p1), .val (.int p2), .val (.int p3), .val (.int p4)] [(.int ((p2 >>> (p1 &&& 31)) &&& (1 : Int32)))])) _
    exact k
  by_cases c5 : ((p2 >>> (p1 &&& 31)) &&& (1 : Int32)) = (0 : Int32)
  · have P2 : ∀ t, Steps p.tables e below (s₁.setTop (mkF m 18 #[.val (.int p1), .val (.int p2), .val (.int p3), .val (.int p4)] [(.int ((p3 >>> (((8 : Int32) * p1) &&& 31)).toInt8.toInt32))])) t → Steps p.tables e below (s₁.setTop (entryFrame m #[(.int p1), (.int p2), (.int p3), (.int p4)] 4)) t := by
      intro t k
      refine P1 _ ?_
      refine XS.ifYes X0.here hx rfl (pc0 := 5) (pc' := 11) rfl (hb hby d1_5) rfl (XT.i0_eq_t c5) (by decide) (by decide) ?_
      show Steps p.tables e below (s₁.setTop (mkF m 11 #[.val (.int p1), .val (.int p2), .val (.int p3), .val (.int p4)] [])) _
      refine XS.iloadN X0.here hx rfl (hb hby d1_11) rfl ?_
      show Steps p.tables e below (s₁.setTop (mkF m 12 #[.val (.int p1), .val (.int p2), .val (.int p3), .val (.int p4)] [(.int p3)])) _
      refine XS.bipush X0.here hx rfl (hb hby d1_12) ?_
      show Steps p.tables e below (s₁.setTop (mkF m 14 #[.val (.int p1), .val (.int p2), .val (.int p3), .val (.int p4)] [(.int (8 : Int32)), (.int p3)])) _
      refine XS.iloadN X0.here hx rfl (hb hby d1_14) rfl ?_
      show Steps p.tables e below (s₁.setTop (mkF m 15 #[.val (.int p1), .val (.int p2), .val (.int p3), .val (.int p4)] [(.int p1), (.int (8 : Int32)), (.int p3)])) _
      refine XS.imul X0.here hx rfl (hb hby d1_15) rfl ?_
      show Steps p.tables e below (s₁.setTop (mkF m 16 #[.val (.int p1), .val (.int p2), .val (.int p3), .val (.int p4)] [(.int ((8 : Int32) * p1)), (.int p3)])) _
      refine XT.ishr X0.here hx rfl (hb hby d1_16) rfl ?_
      show Steps p.tables e below (s₁.setTop (mkF m 17 #[.val (.int p1), .val (.int p2), .val (.int p3), .val (.int p4)] [(.int (p3 >>> (((8 : Int32) * p1) &&& 31)))])) _
      refine XT.i2b X0.here hx rfl (hb hby d1_17) rfl ?_
      show Steps p.tables e below (s₁.setTop (mkF m 18 #[.val (.int p1), .val (.int p2), .val (.int p3), .val (.int p4)] [(.int ((p3 >>> (((8 : Int32) * p1) &&& 31)).toInt8.toInt32))])) _
      exact k
    obtain ⟨fs, hr, hrun, hended, hW, hsame⟩ := X0.leave (v := some (.int (nar .byte ((p3 >>> (((8 : Int32) * p1) &&& 31)).toInt8.toInt32)))) (fun h => by rw [Bd.returns] at h; cases h)
    refine ⟨_, _, P2 _ ?_, hrun, hended, _, _, rfl, ?_, ⟨_, rfl⟩, hW, hsame.mono (by decide) (by decide)⟩
    · exact retN X0 hx (t := .byte) Bd.returns (by simp) (hb hby d1_18) hr
    · show Q1 Z p1 p2 p3 p4 h0 n0 _ s₁.heap _
      rw [e0]
      exact ⟨_, rfl, N0, rfl⟩
  · have P3 : ∀ t, Steps p.tables e below (s₁.setTop (mkF m 10 #[.val (.int p1), .val (.int p2), .val (.int p3), .val (.int p4)] [(.int (p4.toInt8.toInt32))])) t → Steps p.tables e below (s₁.setTop (entryFrame m #[(.int p1), (.int p2), (.int p3), (.int p4)] 4)) t := by
      intro t k
      refine P1 _ ?_
      refine XS.ifNo X0.here hx rfl (hb hby d1_5) rfl (XT.i0_eq_f c5) ?_
      show Steps p.tables e below (s₁.setTop (mkF m 8 #[.val (.int p1), .val (.int p2), .val (.int p3), .val (.int p4)] [])) _
      refine XS.iloadN X0.here hx rfl (hb hby d1_8) rfl ?_
      show Steps p.tables e below (s₁.setTop (mkF m 9 #[.val (.int p1), .val (.int p2), .val (.int p3), .val (.int p4)] [(.int p4)])) _
      refine XT.i2b X0.here hx rfl (hb hby d1_9) rfl ?_
      show Steps p.tables e below (s₁.setTop (mkF m 10 #[.val (.int p1), .val (.int p2), .val (.int p3), .val (.int p4)] [(.int (p4.toInt8.toInt32))])) _
      exact k
    obtain ⟨fs, hr, hrun, hended, hW, hsame⟩ := X0.leave (v := some (.int (nar .byte (p4.toInt8.toInt32)))) (fun h => by rw [Bd.returns] at h; cases h)
    refine ⟨_, _, P3 _ ?_, hrun, hended, _, _, rfl, ?_, ⟨_, rfl⟩, hW, hsame.mono (by decide) (by decide)⟩
    · exact retN X0 hx (t := .byte) Bd.returns (by simp) (hb hby d1_10) hr
    · show Q1 Z p1 p2 p3 p4 h0 n0 _ s₁.heap _
      rw [e0]
      exact ⟨_, rfl, N0, rfl⟩
theorem d2_0 : decode method_3_code 0 = .ok (.iload_n 1, 1) := by decide +kernel
theorem d2_1 : decode method_3_code 1 = .ok (.iload_n 2, 1) := by decide +kernel
theorem d2_2 : decode method_3_code 2 = .ok (.if_icmp .lt 20, 3) := by decide +kernel
theorem d2_5 : decode method_3_code 5 = .ok (.iload_n 1, 1) := by decide +kernel
theorem d2_6 : decode method_3_code 6 = .ok (.iload_n 3, 1) := by decide +kernel
theorem d2_7 : decode method_3_code 7 = .ok (.if_icmp .ge 15, 3) := by decide +kernel
theorem d2_10 : decode method_3_code 10 = .ok (.aload_n 0, 1) := by decide +kernel
theorem d2_11 : decode method_3_code 11 = .ok (.iload_n 1, 1) := by decide +kernel
theorem d2_12 : decode method_3_code 12 = .ok (.baload, 1) := by decide +kernel
theorem d2_13 : decode method_3_code 13 = .ok (.iload 4, 2) := by decide +kernel
theorem d2_15 : decode method_3_code 15 = .ok (.if_icmp .ne 7, 3) := by decide +kernel
theorem d2_18 : decode method_3_code 18 = .ok (.iconst 1, 1) := by decide +kernel
theorem d2_19 : decode method_3_code 19 = .ok (.goto 4, 3) := by decide +kernel
theorem d2_22 : decode method_3_code 22 = .ok (.iconst 0, 1) := by decide +kernel
theorem d2_23 : decode method_3_code 23 = .ok (.ireturn, 1) := by decide +kernel
theorem pn_2 : plainName "ledgerline/cli/LineReaderIndexOfPinLaw" = true := by first | (simp [plainName, overriddenIn]; done) | decide +kernel
theorem ef_2 (m : MethodId) (x0 : Addr) (x1 : Int32) (x2 : Int32) (x3 : Int32) (x4 : Int32) : entryFrame m #[(.ref x0), (.int x1), (.int x2), (.int x3), (.int x4)] 5 = mkF m 0 #[.val (.ref x0), .val (.int x1), .val (.int x2), .val (.int x3), .val (.int x4)] [] := by first | (simp [entryFrame, mkF, argsToLocals, Value.category]; done) | rfl
def Q2 (Z : State) (a1 : Addr) (p2 : Int32) (p3 : Int32) (p4 : Int32) (p5 : Int32) (kc : ClassId) (vs : List Value) (bv : Int32) (h0 : Heap) (n0 : Nat) (v : Option Value) (h : Heap) (L : List Loc) : Prop := v = some (.int (if p2 < p3 then (0 : Int32) else (if p2 < p4 then (if bv = p5 then (1 : Int32) else (0 : Int32)) else (0 : Int32)))) ∧ Fr n0 L ∧ h = h0
set_option maxRecDepth 65536 in
set_option maxHeartbeats 40000000 in
theorem rm2 (l : Launch) (Z : State) (a0 : Array Value) (hw : ∀ d ∈ tables_1, d.before a0 Z = true) (ws : List Jvm.Cond) (a1 : Addr) (p2 : Int32) (p3 : Int32) (p4 : Int32) (p5 : Int32) (kc : ClassId) (vs : List Value) (bv : Int32) (h0 : Heap) (n0 : Nat) (Z0 : n0 ≤ h0.size) (A_a : Arv Z h0 a1 kc .byte (4 : Int32) vs (.int (0 : Int32))) (hj : ¬ p2 < (0 : Int32) ∧ p2 < (4 : Int32)) (hv : vs.getD p2.toNatClampNeg (.int (0 : Int32)) = .int bv) :
    MetFree l (⟨"ledgerline/cli/LineReaderIndexOfPinLaw", "hit", "([BIIIB)Z"⟩ : MethodName) (head1 (Jvm.Cond.code (⟨"ledgerline/cli/LineReaderIndexOfPinLaw", "hit", "([BIIIB)Z"⟩ : MethodName) method_3_code 5 (some .boolean) :: ws) ({ frames := 0, cells := 0, slots := 0, locals := 0 } : Room)) (fun a U => a = #[(.ref a1), (.int p2), (.int p3), (.int p4), (.int p5)] ∧ Z.Warmed39 U.vm ∧ U.heap = h0) (fun _ _ _ _ _ => True) (fun _ U o U' => ∃ v L, o = .returned v ∧ Q2 Z a1 p2 p3 p4 p5 kc vs bv h0 n0 v U'.heap L ∧ FrameEnd U o U' L ({ frames := 0, cells := 0, slots := 0, locals := 0 } : Room).cells ({ frames := 0, cells := 0, slots := 0, locals := 0 } : Room).slots) := by
  refine MetFree.of_bodySF (plainFor_of_name pn_2) hisR ?_
  intro p e s m args below meth c s₁ Bd hml0 hP hK
  obtain ⟨rfl, hZ, hh⟩ := hP
  have hx := Bd.exec
  have hby := Bd.bytes
  have hml : c.maxLocals = 5 := hml0
  have hown : s.vm.findClass "ledgerline/cli/LineReaderIndexOfPinLaw" = some m.cls := findClass_of_methodNamed Bd.named
  have hnm := (name_of_methodNamed Bd.named Bd.method).1
  have X0 : Stand p l e ({ frames := 0, cells := 0, slots := 0, locals := 0 } : Room) s m #[(.ref a1), (.int p2), (.int p3), (.int p4), (.int p5)] below meth c s₁ [] 0 0 := Stand.of_body Bd
  have e0 : s₁.heap = h0 := by rw [← hh, Bd.state]; rfl
  have N0 := Fr.nil n0
  have K0 : Keep h0 h0 [] := Keep.refl _ _
  have P0 : ∀ t, Steps p.tables e below (s₁.setTop (mkF m 0 #[.val (.ref a1), .val (.int p2), .val (.int p3), .val (.int p4), .val (.int p5)] [])) t → Steps p.tables e below (s₁.setTop (entryFrame m #[(.ref a1), (.int p2), (.int p3), (.int p4), (.int p5)] 5)) t := fun t k => castTop (ef_2 m a1 p2 p3 p4 p5) k
  have P1 : ∀ t, Steps p.tables e below (s₁.setTop (mkF m 2 #[.val (.ref a1), .val (.int p2), .val (.int p3), .val (.int p4), .val (.int p5)] [(.int p3), (.int p2)])) t → Steps p.tables e below (s₁.setTop (entryFrame m #[(.ref a1), (.int p2), (.int p3), (.int p4), (.int p5)] 5)) t := by
    intro t k
    refine P0 _ ?_
    refine XS.iloadN X0.here hx rfl (hb hby d2_0) rfl ?_
    show Steps p.tables e below (s₁.setTop (mkF m 1 #[.val (.ref a1), .val (.int p2), .val (.int p3), .val (.int p4), .val (.int p5)] [(.int p2)])) _
    refine XS.iloadN X0.here hx rfl (hb hby d2_1) rfl ?_
    show Steps p.tables e below (s₁.setTop (mkF m 2 #[.val (.ref a1), .val (.int p2), .val (.int p3), .val (.int p4), .val (.int p5)] [(.int p3), (.int p2)])) _
    exact k
  by_cases c2 : p2 < p3
  · have P2 : ∀ t, Steps p.tables e below (s₁.setTop (mkF m 23 #[.val (.ref a1), .val (.int p2), .val (.int p3), .val (.int p4), .val (.int p5)] [(.int (0 : Int32))])) t → Steps p.tables e below (s₁.setTop (entryFrame m #[(.ref a1), (.int p2), (.int p3), (.int p4), (.int p5)] 5)) t := by
      intro t k
      refine P1 _ ?_
      refine XS.icmpYes X0.here hx rfl (pc0 := 2) (pc' := 22) rfl (hb hby d2_2) rfl (XT.ii_lt_t c2) (by decide) (by decide) ?_
      show Steps p.tables e below (s₁.setTop (mkF m 22 #[.val (.ref a1), .val (.int p2), .val (.int p3), .val (.int p4), .val (.int p5)] [])) _
      refine XS.iconst X0.here hx rfl (hb hby d2_22) ?_
      show Steps p.tables e below (s₁.setTop (mkF m 23 #[.val (.ref a1), .val (.int p2), .val (.int p3), .val (.int p4), .val (.int p5)] [(.int (0 : Int32))])) _
      exact k
    obtain ⟨fs, hr, hrun, hended, hW, hsame⟩ := X0.leave (v := some (.int (0 : Int32))) (fun h => by rw [Bd.returns] at h; cases h)
    refine ⟨_, _, P2 _ ?_, hrun, hended, _, _, rfl, ?_, ⟨_, rfl⟩, hW, hsame.mono (by decide) (by decide)⟩
    · exact retN X0 hx (t := .boolean) Bd.returns (by simp) (hb hby d2_23) hr
    · show Q2 Z a1 p2 p3 p4 p5 kc vs bv h0 n0 _ s₁.heap _
      rw [e0]
      exact ⟨by rw [if_pos c2], N0, rfl⟩
  · have P3 : ∀ t, Steps p.tables e below (s₁.setTop (mkF m 7 #[.val (.ref a1), .val (.int p2), .val (.int p3), .val (.int p4), .val (.int p5)] [(.int p4), (.int p2)])) t → Steps p.tables e below (s₁.setTop (entryFrame m #[(.ref a1), (.int p2), (.int p3), (.int p4), (.int p5)] 5)) t := by
      intro t k
      refine P1 _ ?_
      refine XS.icmpNo X0.here hx rfl (hb hby d2_2) rfl (XT.ii_lt_f c2) ?_
      show Steps p.tables e below (s₁.setTop (mkF m 5 #[.val (.ref a1), .val (.int p2), .val (.int p3), .val (.int p4), .val (.int p5)] [])) _
      refine XS.iloadN X0.here hx rfl (hb hby d2_5) rfl ?_
      show Steps p.tables e below (s₁.setTop (mkF m 6 #[.val (.ref a1), .val (.int p2), .val (.int p3), .val (.int p4), .val (.int p5)] [(.int p2)])) _
      refine XS.iloadN X0.here hx rfl (hb hby d2_6) rfl ?_
      show Steps p.tables e below (s₁.setTop (mkF m 7 #[.val (.ref a1), .val (.int p2), .val (.int p3), .val (.int p4), .val (.int p5)] [(.int p4), (.int p2)])) _
      exact k
    by_cases c7 : p2 < p4
    · have P4 : ∀ t, Steps p.tables e below (s₁.setTop (mkF m 15 #[.val (.ref a1), .val (.int p2), .val (.int p3), .val (.int p4), .val (.int p5)] [(.int p5), (.int bv)])) t → Steps p.tables e below (s₁.setTop (entryFrame m #[(.ref a1), (.int p2), (.int p3), (.int p4), (.int p5)] 5)) t := by
        intro t k
        refine P3 _ ?_
        refine XS.icmpNo X0.here hx rfl (hb hby d2_7) rfl (XT.ii_ge_f c7) ?_
        show Steps p.tables e below (s₁.setTop (mkF m 10 #[.val (.ref a1), .val (.int p2), .val (.int p3), .val (.int p4), .val (.int p5)] [])) _
        refine XS.aloadN X0.here hx rfl (hb hby d2_10) rfl rfl ?_
        show Steps p.tables e below (s₁.setTop (mkF m 11 #[.val (.ref a1), .val (.int p2), .val (.int p3), .val (.int p4), .val (.int p5)] [(.ref a1)])) _
        refine XS.iloadN X0.here hx rfl (hb hby d2_11) rfl ?_
        show Steps p.tables e below (s₁.setTop (mkF m 12 #[.val (.ref a1), .val (.int p2), .val (.int p3), .val (.int p4), .val (.int p5)] [(.int p2), (.ref a1)])) _
        refine own_bal X0 hx hZ e0 A_a hj (v := (.int bv)) hv rfl rfl (hb hby d2_12) ?_
        show Steps p.tables e below (s₁.setTop (mkF m 13 #[.val (.ref a1), .val (.int p2), .val (.int p3), .val (.int p4), .val (.int p5)] [(.int bv)])) _
        refine XS.iload X0.here hx rfl (hb hby d2_13) rfl ?_
        show Steps p.tables e below (s₁.setTop (mkF m 15 #[.val (.ref a1), .val (.int p2), .val (.int p3), .val (.int p4), .val (.int p5)] [(.int p5), (.int bv)])) _
        exact k
      by_cases c15 : bv = p5
      · have P5 : ∀ t, Steps p.tables e below (s₁.setTop (mkF m 23 #[.val (.ref a1), .val (.int p2), .val (.int p3), .val (.int p4), .val (.int p5)] [(.int (1 : Int32))])) t → Steps p.tables e below (s₁.setTop (entryFrame m #[(.ref a1), (.int p2), (.int p3), (.int p4), (.int p5)] 5)) t := by
          intro t k
          refine P4 _ ?_
          refine XS.icmpNo X0.here hx rfl (hb hby d2_15) rfl (XT.ii_ne_f c15) ?_
          show Steps p.tables e below (s₁.setTop (mkF m 18 #[.val (.ref a1), .val (.int p2), .val (.int p3), .val (.int p4), .val (.int p5)] [])) _
          refine XS.iconst X0.here hx rfl (hb hby d2_18) ?_
          show Steps p.tables e below (s₁.setTop (mkF m 19 #[.val (.ref a1), .val (.int p2), .val (.int p3), .val (.int p4), .val (.int p5)] [(.int (1 : Int32))])) _
          refine XS.goto X0.here hx rfl (pc0 := 19) (pc' := 23) rfl (hb hby d2_19) (by decide) (by decide) ?_
          show Steps p.tables e below (s₁.setTop (mkF m 23 #[.val (.ref a1), .val (.int p2), .val (.int p3), .val (.int p4), .val (.int p5)] [(.int (1 : Int32))])) _
          exact k
        obtain ⟨fs, hr, hrun, hended, hW, hsame⟩ := X0.leave (v := some (.int (1 : Int32))) (fun h => by rw [Bd.returns] at h; cases h)
        refine ⟨_, _, P5 _ ?_, hrun, hended, _, _, rfl, ?_, ⟨_, rfl⟩, hW, hsame.mono (by decide) (by decide)⟩
        · exact retN X0 hx (t := .boolean) Bd.returns (by simp) (hb hby d2_23) hr
        · show Q2 Z a1 p2 p3 p4 p5 kc vs bv h0 n0 _ s₁.heap _
          rw [e0]
          exact ⟨by rw [if_neg c2, if_pos c7, if_pos c15], N0, rfl⟩
      · have P6 : ∀ t, Steps p.tables e below (s₁.setTop (mkF m 23 #[.val (.ref a1), .val (.int p2), .val (.int p3), .val (.int p4), .val (.int p5)] [(.int (0 : Int32))])) t → Steps p.tables e below (s₁.setTop (entryFrame m #[(.ref a1), (.int p2), (.int p3), (.int p4), (.int p5)] 5)) t := by
          intro t k
          refine P4 _ ?_
          refine XS.icmpYes X0.here hx rfl (pc0 := 15) (pc' := 22) rfl (hb hby d2_15) rfl (XT.ii_ne_t c15) (by decide) (by decide) ?_
          show Steps p.tables e below (s₁.setTop (mkF m 22 #[.val (.ref a1), .val (.int p2), .val (.int p3), .val (.int p4), .val (.int p5)] [])) _
          refine XS.iconst X0.here hx rfl (hb hby d2_22) ?_
          show Steps p.tables e below (s₁.setTop (mkF m 23 #[.val (.ref a1), .val (.int p2), .val (.int p3), .val (.int p4), .val (.int p5)] [(.int (0 : Int32))])) _
          exact k
        obtain ⟨fs, hr, hrun, hended, hW, hsame⟩ := X0.leave (v := some (.int (0 : Int32))) (fun h => by rw [Bd.returns] at h; cases h)
        refine ⟨_, _, P6 _ ?_, hrun, hended, _, _, rfl, ?_, ⟨_, rfl⟩, hW, hsame.mono (by decide) (by decide)⟩
        · exact retN X0 hx (t := .boolean) Bd.returns (by simp) (hb hby d2_23) hr
        · show Q2 Z a1 p2 p3 p4 p5 kc vs bv h0 n0 _ s₁.heap _
          rw [e0]
          exact ⟨by rw [if_neg c2, if_pos c7, if_neg c15], N0, rfl⟩
    · have P7 : ∀ t, Steps p.tables e below (s₁.setTop (mkF m 23 #[.val (.ref a1), .val (.int p2), .val (.int p3), .val (.int p4), .val (.int p5)] [(.int (0 : Int32))])) t → Steps p.tables e below (s₁.setTop (entryFrame m #[(.ref a1), (.int p2), (.int p3), (.int p4), (.int p5)] 5)) t := by
        intro t k
        refine P3 _ ?_
        refine XS.icmpYes X0.here hx rfl (pc0 := 7) (pc' := 22) rfl (hb hby d2_7) rfl (XT.ii_ge_t c7) (by decide) (by decide) ?_
        show Steps p.tables e below (s₁.setTop (mkF m 22 #[.val (.ref a1), .val (.int p2), .val (.int p3), .val (.int p4), .val (.int p5)] [])) _
        refine XS.iconst X0.here hx rfl (hb hby d2_22) ?_
        show Steps p.tables e below (s₁.setTop (mkF m 23 #[.val (.ref a1), .val (.int p2), .val (.int p3), .val (.int p4), .val (.int p5)] [(.int (0 : Int32))])) _
        exact k
      obtain ⟨fs, hr, hrun, hended, hW, hsame⟩ := X0.leave (v := some (.int (0 : Int32))) (fun h => by rw [Bd.returns] at h; cases h)
      refine ⟨_, _, P7 _ ?_, hrun, hended, _, _, rfl, ?_, ⟨_, rfl⟩, hW, hsame.mono (by decide) (by decide)⟩
      · exact retN X0 hx (t := .boolean) Bd.returns (by simp) (hb hby d2_23) hr
      · show Q2 Z a1 p2 p3 p4 p5 kc vs bv h0 n0 _ s₁.heap _
        rw [e0]
        exact ⟨by rw [if_neg c2, if_neg c7], N0, rfl⟩
theorem d10_0 : decode prog_5_method_4_code 0 = .ok (.iload_n 1, 1) := by decide +kernel
theorem d10_1 : decode prog_5_method_4_code 1 = .ok (.istore 4, 2) := by decide +kernel
theorem d10_3 : decode prog_5_method_4_code 3 = .ok (.iload 4, 2) := by decide +kernel
theorem d10_5 : decode prog_5_method_4_code 5 = .ok (.iload_n 2, 1) := by decide +kernel
theorem d10_6 : decode prog_5_method_4_code 6 = .ok (.if_icmp .ge 20, 3) := by decide +kernel
theorem d10_9 : decode prog_5_method_4_code 9 = .ok (.aload_n 0, 1) := by decide +kernel
theorem d10_10 : decode prog_5_method_4_code 10 = .ok (.iload 4, 2) := by decide +kernel
theorem d10_12 : decode prog_5_method_4_code 12 = .ok (.baload, 1) := by decide +kernel
theorem d10_13 : decode prog_5_method_4_code 13 = .ok (.iload_n 3, 1) := by decide +kernel
theorem d10_14 : decode prog_5_method_4_code 14 = .ok (.if_icmp .ne 6, 3) := by decide +kernel
theorem d10_17 : decode prog_5_method_4_code 17 = .ok (.iload 4, 2) := by decide +kernel
theorem d10_19 : decode prog_5_method_4_code 19 = .ok (.ireturn, 1) := by decide +kernel
theorem d10_20 : decode prog_5_method_4_code 20 = .ok (.iinc 4 1, 3) := by decide +kernel
theorem d10_23 : decode prog_5_method_4_code 23 = .ok (.goto (-20), 3) := by decide +kernel
theorem d10_26 : decode prog_5_method_4_code 26 = .ok (.iconst (-1), 1) := by decide +kernel
theorem d10_27 : decode prog_5_method_4_code 27 = .ok (.ireturn, 1) := by decide +kernel
theorem pn_10 : plainName "ledgerline/cli/LineReader" = true := by first | (simp [plainName, overriddenIn]; done) | decide +kernel
theorem ef_10 (m : MethodId) (x0 : Addr) (x1 : Int32) (x2 : Int32) (x3 : Int32) : entryFrame m #[(.ref x0), (.int x1), (.int x2), (.int x3)] 5 = mkF m 0 #[.val (.ref x0), .val (.int x1), .val (.int x2), .val (.int x3), .unset] [] := by first | (simp [entryFrame, mkF, argsToLocals, Value.category]; done) | rfl
def Q10 (Z : State) (a1 : Addr) (p3 : Int32) (p4 : Int32) (kc : ClassId) (b0 : Int32) (b1 : Int32) (b2 : Int32) (b3 : Int32) (h0 : Heap) (n0 : Nat) (v : Option Value) (h : Heap) (L : List Loc) : Prop := v = some (.int (own_ix (0 : Int32) p3 p4 b0 b1 b2 b3)) ∧ Fr n0 L ∧ h = h0
set_option maxRecDepth 65536 in
set_option maxHeartbeats 40000000 in
theorem rm10 (l : Launch) (Z : State) (a0 : Array Value) (hw : ∀ d ∈ tables_1, d.before a0 Z = true) (ws : List Jvm.Cond) (a1 : Addr) (p3 : Int32) (p4 : Int32) (kc : ClassId) (b0 : Int32) (b1 : Int32) (b2 : Int32) (b3 : Int32) (h0 : Heap) (n0 : Nat) (Z0 : n0 ≤ h0.size) (A_a : Arv Z h0 a1 kc .byte (4 : Int32) [(.int b0), (.int b1), (.int b2), (.int b3)] (.int (0 : Int32))) (hto : ¬ (4 : Int32) < p3) :
    MetFree l (⟨"ledgerline/cli/LineReader", "indexOf", "([BIIB)I"⟩ : MethodName) (head1 (Jvm.Cond.code (⟨"ledgerline/cli/LineReader", "indexOf", "([BIIB)I"⟩ : MethodName) prog_5_method_4_code 5 (some .int) :: ws) ({ frames := 0, cells := 0, slots := 0, locals := 0 } : Room)) (fun a U => a = #[(.ref a1), (.int (0 : Int32)), (.int p3), (.int p4)] ∧ Z.Warmed39 U.vm ∧ U.heap = h0) (fun _ _ _ _ _ => True) (fun _ U o U' => ∃ v L, o = .returned v ∧ Q10 Z a1 p3 p4 kc b0 b1 b2 b3 h0 n0 v U'.heap L ∧ FrameEnd U o U' L ({ frames := 0, cells := 0, slots := 0, locals := 0 } : Room).cells ({ frames := 0, cells := 0, slots := 0, locals := 0 } : Room).slots) := by
  refine MetFree.of_bodySF (plainFor_of_name pn_10) hisR ?_
  intro p e s m args below meth c s₁ Bd hml0 hP hK
  obtain ⟨rfl, hZ, hh⟩ := hP
  have hx := Bd.exec
  have hby := Bd.bytes
  have hml : c.maxLocals = 5 := hml0
  have hown : s.vm.findClass "ledgerline/cli/LineReader" = some m.cls := findClass_of_methodNamed Bd.named
  have hnm := (name_of_methodNamed Bd.named Bd.method).1
  have X0 : Stand p l e ({ frames := 0, cells := 0, slots := 0, locals := 0 } : Room) s m #[(.ref a1), (.int (0 : Int32)), (.int p3), (.int p4)] below meth c s₁ [] 0 0 := Stand.of_body Bd
  have e0 : s₁.heap = h0 := by rw [← hh, Bd.state]; rfl
  have N0 := Fr.nil n0
  have K0 : Keep h0 h0 [] := Keep.refl _ _
  have P0 : ∀ t, Steps p.tables e below (s₁.setTop (mkF m 0 #[.val (.ref a1), .val (.int (0 : Int32)), .val (.int p3), .val (.int p4), .unset] [])) t → Steps p.tables e below (s₁.setTop (entryFrame m #[(.ref a1), (.int (0 : Int32)), (.int p3), (.int p4)] 5)) t := fun t k => castTop (ef_10 m a1 (0 : Int32) p3 p4) k
  have P1 : ∀ t, Steps p.tables e below (s₁.setTop (mkF m 6 #[.val (.ref a1), .val (.int (0 : Int32)), .val (.int p3), .val (.int p4), .val (.int (0 : Int32))] [(.int p3), (.int (0 : Int32))])) t → Steps p.tables e below (s₁.setTop (entryFrame m #[(.ref a1), (.int (0 : Int32)), (.int p3), (.int p4)] 5)) t := by
    intro t k
    refine P0 _ ?_
    refine XS.iloadN X0.here hx rfl (hb hby d10_0) rfl ?_
    show Steps p.tables e below (s₁.setTop (mkF m 1 #[.val (.ref a1), .val (.int (0 : Int32)), .val (.int p3), .val (.int p4), .unset] [(.int (0 : Int32))])) _
    refine XS.istore X0.here hx rfl (hb hby d10_1) rfl (l' := #[.val (.ref a1), .val (.int (0 : Int32)), .val (.int p3), .val (.int p4), .val (.int (0 : Int32))]) rfl ?_
    show Steps p.tables e below (s₁.setTop (mkF m 3 #[.val (.ref a1), .val (.int (0 : Int32)), .val (.int p3), .val (.int p4), .val (.int (0 : Int32))] [])) _
    refine XS.iload X0.here hx rfl (hb hby d10_3) rfl ?_
    show Steps p.tables e below (s₁.setTop (mkF m 5 #[.val (.ref a1), .val (.int (0 : Int32)), .val (.int p3), .val (.int p4), .val (.int (0 : Int32))] [(.int (0 : Int32))])) _
    refine XS.iloadN X0.here hx rfl (hb hby d10_5) rfl ?_
    show Steps p.tables e below (s₁.setTop (mkF m 6 #[.val (.ref a1), .val (.int (0 : Int32)), .val (.int p3), .val (.int p4), .val (.int (0 : Int32))] [(.int p3), (.int (0 : Int32))])) _
    exact k
  by_cases c6 : (0 : Int32) < p3
  · have P2 : ∀ t, Steps p.tables e below (s₁.setTop (mkF m 14 #[.val (.ref a1), .val (.int (0 : Int32)), .val (.int p3), .val (.int p4), .val (.int (0 : Int32))] [(.int p4), (.int b0)])) t → Steps p.tables e below (s₁.setTop (entryFrame m #[(.ref a1), (.int (0 : Int32)), (.int p3), (.int p4)] 5)) t := by
      intro t k
      refine P1 _ ?_
      refine XS.icmpNo X0.here hx rfl (hb hby d10_6) rfl (XT.ii_ge_f c6) ?_
      show Steps p.tables e below (s₁.setTop (mkF m 9 #[.val (.ref a1), .val (.int (0 : Int32)), .val (.int p3), .val (.int p4), .val (.int (0 : Int32))] [])) _
      refine XS.aloadN X0.here hx rfl (hb hby d10_9) rfl rfl ?_
      show Steps p.tables e below (s₁.setTop (mkF m 10 #[.val (.ref a1), .val (.int (0 : Int32)), .val (.int p3), .val (.int p4), .val (.int (0 : Int32))] [(.ref a1)])) _
      refine XS.iload X0.here hx rfl (hb hby d10_10) rfl ?_
      show Steps p.tables e below (s₁.setTop (mkF m 12 #[.val (.ref a1), .val (.int (0 : Int32)), .val (.int p3), .val (.int p4), .val (.int (0 : Int32))] [(.int (0 : Int32)), (.ref a1)])) _
      refine own_bal X0 hx hZ e0 A_a ⟨by decide, by decide⟩ (v := (.int b0)) rfl rfl rfl (hb hby d10_12) ?_
      show Steps p.tables e below (s₁.setTop (mkF m 13 #[.val (.ref a1), .val (.int (0 : Int32)), .val (.int p3), .val (.int p4), .val (.int (0 : Int32))] [(.int b0)])) _
      refine XS.iloadN X0.here hx rfl (hb hby d10_13) rfl ?_
      show Steps p.tables e below (s₁.setTop (mkF m 14 #[.val (.ref a1), .val (.int (0 : Int32)), .val (.int p3), .val (.int p4), .val (.int (0 : Int32))] [(.int p4), (.int b0)])) _
      exact k
    by_cases c14 : b0 = p4
    · have P3 : ∀ t, Steps p.tables e below (s₁.setTop (mkF m 19 #[.val (.ref a1), .val (.int (0 : Int32)), .val (.int p3), .val (.int p4), .val (.int (0 : Int32))] [(.int (0 : Int32))])) t → Steps p.tables e below (s₁.setTop (entryFrame m #[(.ref a1), (.int (0 : Int32)), (.int p3), (.int p4)] 5)) t := by
        intro t k
        refine P2 _ ?_
        refine XS.icmpNo X0.here hx rfl (hb hby d10_14) rfl (XT.ii_ne_f c14) ?_
        show Steps p.tables e below (s₁.setTop (mkF m 17 #[.val (.ref a1), .val (.int (0 : Int32)), .val (.int p3), .val (.int p4), .val (.int (0 : Int32))] [])) _
        refine XS.iload X0.here hx rfl (hb hby d10_17) rfl ?_
        show Steps p.tables e below (s₁.setTop (mkF m 19 #[.val (.ref a1), .val (.int (0 : Int32)), .val (.int p3), .val (.int p4), .val (.int (0 : Int32))] [(.int (0 : Int32))])) _
        exact k
      obtain ⟨fs, hr, hrun, hended, hW, hsame⟩ := X0.leave (v := some (.int (0 : Int32))) (fun h => by rw [Bd.returns] at h; cases h)
      refine ⟨_, _, P3 _ ?_, hrun, hended, _, _, rfl, ?_, ⟨_, rfl⟩, hW, hsame.mono (by decide) (by decide)⟩
      · exact retI X0 hx Bd.returns (hb hby d10_19) hr
      · show Q10 Z a1 p3 p4 kc b0 b1 b2 b3 h0 n0 _ s₁.heap _
        rw [e0]
        refine ⟨?_, N0, rfl⟩
        refine congrArg (fun z : Int32 => some (Value.int z)) ?_
        exact own_leaf_0 c6 c14 hto
    · have P4 : ∀ t, Steps p.tables e below (s₁.setTop (mkF m 6 #[.val (.ref a1), .val (.int (0 : Int32)), .val (.int p3), .val (.int p4), .val (.int (1 : Int32))] [(.int p3), (.int (1 : Int32))])) t → Steps p.tables e below (s₁.setTop (entryFrame m #[(.ref a1), (.int (0 : Int32)), (.int p3), (.int p4)] 5)) t := by
        intro t k
        refine P2 _ ?_
        refine XS.icmpYes X0.here hx rfl (pc0 := 14) (pc' := 20) rfl (hb hby d10_14) rfl (XT.ii_ne_t c14) (by decide) (by decide) ?_
        show Steps p.tables e below (s₁.setTop (mkF m 20 #[.val (.ref a1), .val (.int (0 : Int32)), .val (.int p3), .val (.int p4), .val (.int (0 : Int32))] [])) _
        refine XS.iinc X0.here hx rfl (hb hby d10_20) rfl (l' := #[.val (.ref a1), .val (.int (0 : Int32)), .val (.int p3), .val (.int p4), .val (.int (1 : Int32))]) rfl ?_
        show Steps p.tables e below (s₁.setTop (mkF m 23 #[.val (.ref a1), .val (.int (0 : Int32)), .val (.int p3), .val (.int p4), .val (.int (1 : Int32))] [])) _
        refine XS.goto X0.here hx rfl (pc0 := 23) (pc' := 3) rfl (hb hby d10_23) (by decide) (by decide) ?_
        show Steps p.tables e below (s₁.setTop (mkF m 3 #[.val (.ref a1), .val (.int (0 : Int32)), .val (.int p3), .val (.int p4), .val (.int (1 : Int32))] [])) _
        refine XS.iload X0.here hx rfl (hb hby d10_3) rfl ?_
        show Steps p.tables e below (s₁.setTop (mkF m 5 #[.val (.ref a1), .val (.int (0 : Int32)), .val (.int p3), .val (.int p4), .val (.int (1 : Int32))] [(.int (1 : Int32))])) _
        refine XS.iloadN X0.here hx rfl (hb hby d10_5) rfl ?_
        show Steps p.tables e below (s₁.setTop (mkF m 6 #[.val (.ref a1), .val (.int (0 : Int32)), .val (.int p3), .val (.int p4), .val (.int (1 : Int32))] [(.int p3), (.int (1 : Int32))])) _
        exact k
      by_cases c6_2 : (1 : Int32) < p3
      · have P5 : ∀ t, Steps p.tables e below (s₁.setTop (mkF m 14 #[.val (.ref a1), .val (.int (0 : Int32)), .val (.int p3), .val (.int p4), .val (.int (1 : Int32))] [(.int p4), (.int b1)])) t → Steps p.tables e below (s₁.setTop (entryFrame m #[(.ref a1), (.int (0 : Int32)), (.int p3), (.int p4)] 5)) t := by
          intro t k
          refine P4 _ ?_
          refine XS.icmpNo X0.here hx rfl (hb hby d10_6) rfl (XT.ii_ge_f c6_2) ?_
          show Steps p.tables e below (s₁.setTop (mkF m 9 #[.val (.ref a1), .val (.int (0 : Int32)), .val (.int p3), .val (.int p4), .val (.int (1 : Int32))] [])) _
          refine XS.aloadN X0.here hx rfl (hb hby d10_9) rfl rfl ?_
          show Steps p.tables e below (s₁.setTop (mkF m 10 #[.val (.ref a1), .val (.int (0 : Int32)), .val (.int p3), .val (.int p4), .val (.int (1 : Int32))] [(.ref a1)])) _
          refine XS.iload X0.here hx rfl (hb hby d10_10) rfl ?_
          show Steps p.tables e below (s₁.setTop (mkF m 12 #[.val (.ref a1), .val (.int (0 : Int32)), .val (.int p3), .val (.int p4), .val (.int (1 : Int32))] [(.int (1 : Int32)), (.ref a1)])) _
          refine own_bal X0 hx hZ e0 A_a ⟨by decide, by decide⟩ (v := (.int b1)) rfl rfl rfl (hb hby d10_12) ?_
          show Steps p.tables e below (s₁.setTop (mkF m 13 #[.val (.ref a1), .val (.int (0 : Int32)), .val (.int p3), .val (.int p4), .val (.int (1 : Int32))] [(.int b1)])) _
          refine XS.iloadN X0.here hx rfl (hb hby d10_13) rfl ?_
          show Steps p.tables e below (s₁.setTop (mkF m 14 #[.val (.ref a1), .val (.int (0 : Int32)), .val (.int p3), .val (.int p4), .val (.int (1 : Int32))] [(.int p4), (.int b1)])) _
          exact k
        by_cases c14_3 : b1 = p4
        · have P6 : ∀ t, Steps p.tables e below (s₁.setTop (mkF m 19 #[.val (.ref a1), .val (.int (0 : Int32)), .val (.int p3), .val (.int p4), .val (.int (1 : Int32))] [(.int (1 : Int32))])) t → Steps p.tables e below (s₁.setTop (entryFrame m #[(.ref a1), (.int (0 : Int32)), (.int p3), (.int p4)] 5)) t := by
            intro t k
            refine P5 _ ?_
            refine XS.icmpNo X0.here hx rfl (hb hby d10_14) rfl (XT.ii_ne_f c14_3) ?_
            show Steps p.tables e below (s₁.setTop (mkF m 17 #[.val (.ref a1), .val (.int (0 : Int32)), .val (.int p3), .val (.int p4), .val (.int (1 : Int32))] [])) _
            refine XS.iload X0.here hx rfl (hb hby d10_17) rfl ?_
            show Steps p.tables e below (s₁.setTop (mkF m 19 #[.val (.ref a1), .val (.int (0 : Int32)), .val (.int p3), .val (.int p4), .val (.int (1 : Int32))] [(.int (1 : Int32))])) _
            exact k
          obtain ⟨fs, hr, hrun, hended, hW, hsame⟩ := X0.leave (v := some (.int (1 : Int32))) (fun h => by rw [Bd.returns] at h; cases h)
          refine ⟨_, _, P6 _ ?_, hrun, hended, _, _, rfl, ?_, ⟨_, rfl⟩, hW, hsame.mono (by decide) (by decide)⟩
          · exact retI X0 hx Bd.returns (hb hby d10_19) hr
          · show Q10 Z a1 p3 p4 kc b0 b1 b2 b3 h0 n0 _ s₁.heap _
            rw [e0]
            refine ⟨?_, N0, rfl⟩
            refine congrArg (fun z : Int32 => some (Value.int z)) ?_
            exact own_leaf_1 c6 c14 c6_2 c14_3 hto
        · have P7 : ∀ t, Steps p.tables e below (s₁.setTop (mkF m 6 #[.val (.ref a1), .val (.int (0 : Int32)), .val (.int p3), .val (.int p4), .val (.int (2 : Int32))] [(.int p3), (.int (2 : Int32))])) t → Steps p.tables e below (s₁.setTop (entryFrame m #[(.ref a1), (.int (0 : Int32)), (.int p3), (.int p4)] 5)) t := by
            intro t k
            refine P5 _ ?_
            refine XS.icmpYes X0.here hx rfl (pc0 := 14) (pc' := 20) rfl (hb hby d10_14) rfl (XT.ii_ne_t c14_3) (by decide) (by decide) ?_
            show Steps p.tables e below (s₁.setTop (mkF m 20 #[.val (.ref a1), .val (.int (0 : Int32)), .val (.int p3), .val (.int p4), .val (.int (1 : Int32))] [])) _
            refine XS.iinc X0.here hx rfl (hb hby d10_20) rfl (l' := #[.val (.ref a1), .val (.int (0 : Int32)), .val (.int p3), .val (.int p4), .val (.int (2 : Int32))]) rfl ?_
            show Steps p.tables e below (s₁.setTop (mkF m 23 #[.val (.ref a1), .val (.int (0 : Int32)), .val (.int p3), .val (.int p4), .val (.int (2 : Int32))] [])) _
            refine XS.goto X0.here hx rfl (pc0 := 23) (pc' := 3) rfl (hb hby d10_23) (by decide) (by decide) ?_
            show Steps p.tables e below (s₁.setTop (mkF m 3 #[.val (.ref a1), .val (.int (0 : Int32)), .val (.int p3), .val (.int p4), .val (.int (2 : Int32))] [])) _
            refine XS.iload X0.here hx rfl (hb hby d10_3) rfl ?_
            show Steps p.tables e below (s₁.setTop (mkF m 5 #[.val (.ref a1), .val (.int (0 : Int32)), .val (.int p3), .val (.int p4), .val (.int (2 : Int32))] [(.int (2 : Int32))])) _
            refine XS.iloadN X0.here hx rfl (hb hby d10_5) rfl ?_
            show Steps p.tables e below (s₁.setTop (mkF m 6 #[.val (.ref a1), .val (.int (0 : Int32)), .val (.int p3), .val (.int p4), .val (.int (2 : Int32))] [(.int p3), (.int (2 : Int32))])) _
            exact k
          by_cases c6_4 : (2 : Int32) < p3
          · have P8 : ∀ t, Steps p.tables e below (s₁.setTop (mkF m 14 #[.val (.ref a1), .val (.int (0 : Int32)), .val (.int p3), .val (.int p4), .val (.int (2 : Int32))] [(.int p4), (.int b2)])) t → Steps p.tables e below (s₁.setTop (entryFrame m #[(.ref a1), (.int (0 : Int32)), (.int p3), (.int p4)] 5)) t := by
              intro t k
              refine P7 _ ?_
              refine XS.icmpNo X0.here hx rfl (hb hby d10_6) rfl (XT.ii_ge_f c6_4) ?_
              show Steps p.tables e below (s₁.setTop (mkF m 9 #[.val (.ref a1), .val (.int (0 : Int32)), .val (.int p3), .val (.int p4), .val (.int (2 : Int32))] [])) _
              refine XS.aloadN X0.here hx rfl (hb hby d10_9) rfl rfl ?_
              show Steps p.tables e below (s₁.setTop (mkF m 10 #[.val (.ref a1), .val (.int (0 : Int32)), .val (.int p3), .val (.int p4), .val (.int (2 : Int32))] [(.ref a1)])) _
              refine XS.iload X0.here hx rfl (hb hby d10_10) rfl ?_
              show Steps p.tables e below (s₁.setTop (mkF m 12 #[.val (.ref a1), .val (.int (0 : Int32)), .val (.int p3), .val (.int p4), .val (.int (2 : Int32))] [(.int (2 : Int32)), (.ref a1)])) _
              refine own_bal X0 hx hZ e0 A_a ⟨by decide, by decide⟩ (v := (.int b2)) rfl rfl rfl (hb hby d10_12) ?_
              show Steps p.tables e below (s₁.setTop (mkF m 13 #[.val (.ref a1), .val (.int (0 : Int32)), .val (.int p3), .val (.int p4), .val (.int (2 : Int32))] [(.int b2)])) _
              refine XS.iloadN X0.here hx rfl (hb hby d10_13) rfl ?_
              show Steps p.tables e below (s₁.setTop (mkF m 14 #[.val (.ref a1), .val (.int (0 : Int32)), .val (.int p3), .val (.int p4), .val (.int (2 : Int32))] [(.int p4), (.int b2)])) _
              exact k
            by_cases c14_5 : b2 = p4
            · have P9 : ∀ t, Steps p.tables e below (s₁.setTop (mkF m 19 #[.val (.ref a1), .val (.int (0 : Int32)), .val (.int p3), .val (.int p4), .val (.int (2 : Int32))] [(.int (2 : Int32))])) t → Steps p.tables e below (s₁.setTop (entryFrame m #[(.ref a1), (.int (0 : Int32)), (.int p3), (.int p4)] 5)) t := by
                intro t k
                refine P8 _ ?_
                refine XS.icmpNo X0.here hx rfl (hb hby d10_14) rfl (XT.ii_ne_f c14_5) ?_
                show Steps p.tables e below (s₁.setTop (mkF m 17 #[.val (.ref a1), .val (.int (0 : Int32)), .val (.int p3), .val (.int p4), .val (.int (2 : Int32))] [])) _
                refine XS.iload X0.here hx rfl (hb hby d10_17) rfl ?_
                show Steps p.tables e below (s₁.setTop (mkF m 19 #[.val (.ref a1), .val (.int (0 : Int32)), .val (.int p3), .val (.int p4), .val (.int (2 : Int32))] [(.int (2 : Int32))])) _
                exact k
              obtain ⟨fs, hr, hrun, hended, hW, hsame⟩ := X0.leave (v := some (.int (2 : Int32))) (fun h => by rw [Bd.returns] at h; cases h)
              refine ⟨_, _, P9 _ ?_, hrun, hended, _, _, rfl, ?_, ⟨_, rfl⟩, hW, hsame.mono (by decide) (by decide)⟩
              · exact retI X0 hx Bd.returns (hb hby d10_19) hr
              · show Q10 Z a1 p3 p4 kc b0 b1 b2 b3 h0 n0 _ s₁.heap _
                rw [e0]
                refine ⟨?_, N0, rfl⟩
                refine congrArg (fun z : Int32 => some (Value.int z)) ?_
                exact own_leaf_2 c6 c14 c6_2 c14_3 c6_4 c14_5 hto
            · have P10 : ∀ t, Steps p.tables e below (s₁.setTop (mkF m 6 #[.val (.ref a1), .val (.int (0 : Int32)), .val (.int p3), .val (.int p4), .val (.int (3 : Int32))] [(.int p3), (.int (3 : Int32))])) t → Steps p.tables e below (s₁.setTop (entryFrame m #[(.ref a1), (.int (0 : Int32)), (.int p3), (.int p4)] 5)) t := by
                intro t k
                refine P8 _ ?_
                refine XS.icmpYes X0.here hx rfl (pc0 := 14) (pc' := 20) rfl (hb hby d10_14) rfl (XT.ii_ne_t c14_5) (by decide) (by decide) ?_
                show Steps p.tables e below (s₁.setTop (mkF m 20 #[.val (.ref a1), .val (.int (0 : Int32)), .val (.int p3), .val (.int p4), .val (.int (2 : Int32))] [])) _
                refine XS.iinc X0.here hx rfl (hb hby d10_20) rfl (l' := #[.val (.ref a1), .val (.int (0 : Int32)), .val (.int p3), .val (.int p4), .val (.int (3 : Int32))]) rfl ?_
                show Steps p.tables e below (s₁.setTop (mkF m 23 #[.val (.ref a1), .val (.int (0 : Int32)), .val (.int p3), .val (.int p4), .val (.int (3 : Int32))] [])) _
                refine XS.goto X0.here hx rfl (pc0 := 23) (pc' := 3) rfl (hb hby d10_23) (by decide) (by decide) ?_
                show Steps p.tables e below (s₁.setTop (mkF m 3 #[.val (.ref a1), .val (.int (0 : Int32)), .val (.int p3), .val (.int p4), .val (.int (3 : Int32))] [])) _
                refine XS.iload X0.here hx rfl (hb hby d10_3) rfl ?_
                show Steps p.tables e below (s₁.setTop (mkF m 5 #[.val (.ref a1), .val (.int (0 : Int32)), .val (.int p3), .val (.int p4), .val (.int (3 : Int32))] [(.int (3 : Int32))])) _
                refine XS.iloadN X0.here hx rfl (hb hby d10_5) rfl ?_
                show Steps p.tables e below (s₁.setTop (mkF m 6 #[.val (.ref a1), .val (.int (0 : Int32)), .val (.int p3), .val (.int p4), .val (.int (3 : Int32))] [(.int p3), (.int (3 : Int32))])) _
                exact k
              by_cases c6_6 : (3 : Int32) < p3
              · have P11 : ∀ t, Steps p.tables e below (s₁.setTop (mkF m 14 #[.val (.ref a1), .val (.int (0 : Int32)), .val (.int p3), .val (.int p4), .val (.int (3 : Int32))] [(.int p4), (.int b3)])) t → Steps p.tables e below (s₁.setTop (entryFrame m #[(.ref a1), (.int (0 : Int32)), (.int p3), (.int p4)] 5)) t := by
                  intro t k
                  refine P10 _ ?_
                  refine XS.icmpNo X0.here hx rfl (hb hby d10_6) rfl (XT.ii_ge_f c6_6) ?_
                  show Steps p.tables e below (s₁.setTop (mkF m 9 #[.val (.ref a1), .val (.int (0 : Int32)), .val (.int p3), .val (.int p4), .val (.int (3 : Int32))] [])) _
                  refine XS.aloadN X0.here hx rfl (hb hby d10_9) rfl rfl ?_
                  show Steps p.tables e below (s₁.setTop (mkF m 10 #[.val (.ref a1), .val (.int (0 : Int32)), .val (.int p3), .val (.int p4), .val (.int (3 : Int32))] [(.ref a1)])) _
                  refine XS.iload X0.here hx rfl (hb hby d10_10) rfl ?_
                  show Steps p.tables e below (s₁.setTop (mkF m 12 #[.val (.ref a1), .val (.int (0 : Int32)), .val (.int p3), .val (.int p4), .val (.int (3 : Int32))] [(.int (3 : Int32)), (.ref a1)])) _
                  refine own_bal X0 hx hZ e0 A_a ⟨by decide, by decide⟩ (v := (.int b3)) rfl rfl rfl (hb hby d10_12) ?_
                  show Steps p.tables e below (s₁.setTop (mkF m 13 #[.val (.ref a1), .val (.int (0 : Int32)), .val (.int p3), .val (.int p4), .val (.int (3 : Int32))] [(.int b3)])) _
                  refine XS.iloadN X0.here hx rfl (hb hby d10_13) rfl ?_
                  show Steps p.tables e below (s₁.setTop (mkF m 14 #[.val (.ref a1), .val (.int (0 : Int32)), .val (.int p3), .val (.int p4), .val (.int (3 : Int32))] [(.int p4), (.int b3)])) _
                  exact k
                by_cases c14_7 : b3 = p4
                · have P12 : ∀ t, Steps p.tables e below (s₁.setTop (mkF m 19 #[.val (.ref a1), .val (.int (0 : Int32)), .val (.int p3), .val (.int p4), .val (.int (3 : Int32))] [(.int (3 : Int32))])) t → Steps p.tables e below (s₁.setTop (entryFrame m #[(.ref a1), (.int (0 : Int32)), (.int p3), (.int p4)] 5)) t := by
                    intro t k
                    refine P11 _ ?_
                    refine XS.icmpNo X0.here hx rfl (hb hby d10_14) rfl (XT.ii_ne_f c14_7) ?_
                    show Steps p.tables e below (s₁.setTop (mkF m 17 #[.val (.ref a1), .val (.int (0 : Int32)), .val (.int p3), .val (.int p4), .val (.int (3 : Int32))] [])) _
                    refine XS.iload X0.here hx rfl (hb hby d10_17) rfl ?_
                    show Steps p.tables e below (s₁.setTop (mkF m 19 #[.val (.ref a1), .val (.int (0 : Int32)), .val (.int p3), .val (.int p4), .val (.int (3 : Int32))] [(.int (3 : Int32))])) _
                    exact k
                  obtain ⟨fs, hr, hrun, hended, hW, hsame⟩ := X0.leave (v := some (.int (3 : Int32))) (fun h => by rw [Bd.returns] at h; cases h)
                  refine ⟨_, _, P12 _ ?_, hrun, hended, _, _, rfl, ?_, ⟨_, rfl⟩, hW, hsame.mono (by decide) (by decide)⟩
                  · exact retI X0 hx Bd.returns (hb hby d10_19) hr
                  · show Q10 Z a1 p3 p4 kc b0 b1 b2 b3 h0 n0 _ s₁.heap _
                    rw [e0]
                    refine ⟨?_, N0, rfl⟩
                    refine congrArg (fun z : Int32 => some (Value.int z)) ?_
                    exact own_leaf_3 c6 c14 c6_2 c14_3 c6_4 c14_5 c6_6 c14_7 hto
                · have P13 : ∀ t, Steps p.tables e below (s₁.setTop (mkF m 27 #[.val (.ref a1), .val (.int (0 : Int32)), .val (.int p3), .val (.int p4), .val (.int (4 : Int32))] [(.int (-1 : Int32))])) t → Steps p.tables e below (s₁.setTop (entryFrame m #[(.ref a1), (.int (0 : Int32)), (.int p3), (.int p4)] 5)) t := by
                    intro t k
                    refine P11 _ ?_
                    refine XS.icmpYes X0.here hx rfl (pc0 := 14) (pc' := 20) rfl (hb hby d10_14) rfl (XT.ii_ne_t c14_7) (by decide) (by decide) ?_
                    show Steps p.tables e below (s₁.setTop (mkF m 20 #[.val (.ref a1), .val (.int (0 : Int32)), .val (.int p3), .val (.int p4), .val (.int (3 : Int32))] [])) _
                    refine XS.iinc X0.here hx rfl (hb hby d10_20) rfl (l' := #[.val (.ref a1), .val (.int (0 : Int32)), .val (.int p3), .val (.int p4), .val (.int (4 : Int32))]) rfl ?_
                    show Steps p.tables e below (s₁.setTop (mkF m 23 #[.val (.ref a1), .val (.int (0 : Int32)), .val (.int p3), .val (.int p4), .val (.int (4 : Int32))] [])) _
                    refine XS.goto X0.here hx rfl (pc0 := 23) (pc' := 3) rfl (hb hby d10_23) (by decide) (by decide) ?_
                    show Steps p.tables e below (s₁.setTop (mkF m 3 #[.val (.ref a1), .val (.int (0 : Int32)), .val (.int p3), .val (.int p4), .val (.int (4 : Int32))] [])) _
                    refine XS.iload X0.here hx rfl (hb hby d10_3) rfl ?_
                    show Steps p.tables e below (s₁.setTop (mkF m 5 #[.val (.ref a1), .val (.int (0 : Int32)), .val (.int p3), .val (.int p4), .val (.int (4 : Int32))] [(.int (4 : Int32))])) _
                    refine XS.iloadN X0.here hx rfl (hb hby d10_5) rfl ?_
                    show Steps p.tables e below (s₁.setTop (mkF m 6 #[.val (.ref a1), .val (.int (0 : Int32)), .val (.int p3), .val (.int p4), .val (.int (4 : Int32))] [(.int p3), (.int (4 : Int32))])) _
                    refine XS.icmpYes X0.here hx rfl (pc0 := 6) (pc' := 26) rfl (hb hby d10_6) rfl (XT.ii_ge_t hto) (by decide) (by decide) ?_
                    show Steps p.tables e below (s₁.setTop (mkF m 26 #[.val (.ref a1), .val (.int (0 : Int32)), .val (.int p3), .val (.int p4), .val (.int (4 : Int32))] [])) _
                    refine XS.iconst X0.here hx rfl (hb hby d10_26) ?_
                    show Steps p.tables e below (s₁.setTop (mkF m 27 #[.val (.ref a1), .val (.int (0 : Int32)), .val (.int p3), .val (.int p4), .val (.int (4 : Int32))] [(.int (-1 : Int32))])) _
                    exact k
                  obtain ⟨fs, hr, hrun, hended, hW, hsame⟩ := X0.leave (v := some (.int (-1 : Int32))) (fun h => by rw [Bd.returns] at h; cases h)
                  refine ⟨_, _, P13 _ ?_, hrun, hended, _, _, rfl, ?_, ⟨_, rfl⟩, hW, hsame.mono (by decide) (by decide)⟩
                  · exact retI X0 hx Bd.returns (hb hby d10_27) hr
                  · show Q10 Z a1 p3 p4 kc b0 b1 b2 b3 h0 n0 _ s₁.heap _
                    rw [e0]
                    refine ⟨?_, N0, rfl⟩
                    refine congrArg (fun z : Int32 => some (Value.int z)) ?_
                    exact own_leaf_4 c6 c14 c6_2 c14_3 c6_4 c14_5 c6_6 c14_7 hto
              · have P14 : ∀ t, Steps p.tables e below (s₁.setTop (mkF m 27 #[.val (.ref a1), .val (.int (0 : Int32)), .val (.int p3), .val (.int p4), .val (.int (3 : Int32))] [(.int (-1 : Int32))])) t → Steps p.tables e below (s₁.setTop (entryFrame m #[(.ref a1), (.int (0 : Int32)), (.int p3), (.int p4)] 5)) t := by
                  intro t k
                  refine P10 _ ?_
                  refine XS.icmpYes X0.here hx rfl (pc0 := 6) (pc' := 26) rfl (hb hby d10_6) rfl (XT.ii_ge_t c6_6) (by decide) (by decide) ?_
                  show Steps p.tables e below (s₁.setTop (mkF m 26 #[.val (.ref a1), .val (.int (0 : Int32)), .val (.int p3), .val (.int p4), .val (.int (3 : Int32))] [])) _
                  refine XS.iconst X0.here hx rfl (hb hby d10_26) ?_
                  show Steps p.tables e below (s₁.setTop (mkF m 27 #[.val (.ref a1), .val (.int (0 : Int32)), .val (.int p3), .val (.int p4), .val (.int (3 : Int32))] [(.int (-1 : Int32))])) _
                  exact k
                obtain ⟨fs, hr, hrun, hended, hW, hsame⟩ := X0.leave (v := some (.int (-1 : Int32))) (fun h => by rw [Bd.returns] at h; cases h)
                refine ⟨_, _, P14 _ ?_, hrun, hended, _, _, rfl, ?_, ⟨_, rfl⟩, hW, hsame.mono (by decide) (by decide)⟩
                · exact retI X0 hx Bd.returns (hb hby d10_27) hr
                · show Q10 Z a1 p3 p4 kc b0 b1 b2 b3 h0 n0 _ s₁.heap _
                  rw [e0]
                  refine ⟨?_, N0, rfl⟩
                  refine congrArg (fun z : Int32 => some (Value.int z)) ?_
                  exact own_leaf_5 c6 c14 c6_2 c14_3 c6_4 c14_5 c6_6 hto
          · have P15 : ∀ t, Steps p.tables e below (s₁.setTop (mkF m 27 #[.val (.ref a1), .val (.int (0 : Int32)), .val (.int p3), .val (.int p4), .val (.int (2 : Int32))] [(.int (-1 : Int32))])) t → Steps p.tables e below (s₁.setTop (entryFrame m #[(.ref a1), (.int (0 : Int32)), (.int p3), (.int p4)] 5)) t := by
              intro t k
              refine P7 _ ?_
              refine XS.icmpYes X0.here hx rfl (pc0 := 6) (pc' := 26) rfl (hb hby d10_6) rfl (XT.ii_ge_t c6_4) (by decide) (by decide) ?_
              show Steps p.tables e below (s₁.setTop (mkF m 26 #[.val (.ref a1), .val (.int (0 : Int32)), .val (.int p3), .val (.int p4), .val (.int (2 : Int32))] [])) _
              refine XS.iconst X0.here hx rfl (hb hby d10_26) ?_
              show Steps p.tables e below (s₁.setTop (mkF m 27 #[.val (.ref a1), .val (.int (0 : Int32)), .val (.int p3), .val (.int p4), .val (.int (2 : Int32))] [(.int (-1 : Int32))])) _
              exact k
            obtain ⟨fs, hr, hrun, hended, hW, hsame⟩ := X0.leave (v := some (.int (-1 : Int32))) (fun h => by rw [Bd.returns] at h; cases h)
            refine ⟨_, _, P15 _ ?_, hrun, hended, _, _, rfl, ?_, ⟨_, rfl⟩, hW, hsame.mono (by decide) (by decide)⟩
            · exact retI X0 hx Bd.returns (hb hby d10_27) hr
            · show Q10 Z a1 p3 p4 kc b0 b1 b2 b3 h0 n0 _ s₁.heap _
              rw [e0]
              refine ⟨?_, N0, rfl⟩
              refine congrArg (fun z : Int32 => some (Value.int z)) ?_
              exact own_leaf_6 c6 c14 c6_2 c14_3 c6_4 hto
      · have P16 : ∀ t, Steps p.tables e below (s₁.setTop (mkF m 27 #[.val (.ref a1), .val (.int (0 : Int32)), .val (.int p3), .val (.int p4), .val (.int (1 : Int32))] [(.int (-1 : Int32))])) t → Steps p.tables e below (s₁.setTop (entryFrame m #[(.ref a1), (.int (0 : Int32)), (.int p3), (.int p4)] 5)) t := by
          intro t k
          refine P4 _ ?_
          refine XS.icmpYes X0.here hx rfl (pc0 := 6) (pc' := 26) rfl (hb hby d10_6) rfl (XT.ii_ge_t c6_2) (by decide) (by decide) ?_
          show Steps p.tables e below (s₁.setTop (mkF m 26 #[.val (.ref a1), .val (.int (0 : Int32)), .val (.int p3), .val (.int p4), .val (.int (1 : Int32))] [])) _
          refine XS.iconst X0.here hx rfl (hb hby d10_26) ?_
          show Steps p.tables e below (s₁.setTop (mkF m 27 #[.val (.ref a1), .val (.int (0 : Int32)), .val (.int p3), .val (.int p4), .val (.int (1 : Int32))] [(.int (-1 : Int32))])) _
          exact k
        obtain ⟨fs, hr, hrun, hended, hW, hsame⟩ := X0.leave (v := some (.int (-1 : Int32))) (fun h => by rw [Bd.returns] at h; cases h)
        refine ⟨_, _, P16 _ ?_, hrun, hended, _, _, rfl, ?_, ⟨_, rfl⟩, hW, hsame.mono (by decide) (by decide)⟩
        · exact retI X0 hx Bd.returns (hb hby d10_27) hr
        · show Q10 Z a1 p3 p4 kc b0 b1 b2 b3 h0 n0 _ s₁.heap _
          rw [e0]
          refine ⟨?_, N0, rfl⟩
          refine congrArg (fun z : Int32 => some (Value.int z)) ?_
          exact own_leaf_7 c6 c14 c6_2 hto
  · have P17 : ∀ t, Steps p.tables e below (s₁.setTop (mkF m 27 #[.val (.ref a1), .val (.int (0 : Int32)), .val (.int p3), .val (.int p4), .val (.int (0 : Int32))] [(.int (-1 : Int32))])) t → Steps p.tables e below (s₁.setTop (entryFrame m #[(.ref a1), (.int (0 : Int32)), (.int p3), (.int p4)] 5)) t := by
      intro t k
      refine P1 _ ?_
      refine XS.icmpYes X0.here hx rfl (pc0 := 6) (pc' := 26) rfl (hb hby d10_6) rfl (XT.ii_ge_t c6) (by decide) (by decide) ?_
      show Steps p.tables e below (s₁.setTop (mkF m 26 #[.val (.ref a1), .val (.int (0 : Int32)), .val (.int p3), .val (.int p4), .val (.int (0 : Int32))] [])) _
      refine XS.iconst X0.here hx rfl (hb hby d10_26) ?_
      show Steps p.tables e below (s₁.setTop (mkF m 27 #[.val (.ref a1), .val (.int (0 : Int32)), .val (.int p3), .val (.int p4), .val (.int (0 : Int32))] [(.int (-1 : Int32))])) _
      exact k
    obtain ⟨fs, hr, hrun, hended, hW, hsame⟩ := X0.leave (v := some (.int (-1 : Int32))) (fun h => by rw [Bd.returns] at h; cases h)
    refine ⟨_, _, P17 _ ?_, hrun, hended, _, _, rfl, ?_, ⟨_, rfl⟩, hW, hsame.mono (by decide) (by decide)⟩
    · exact retI X0 hx Bd.returns (hb hby d10_27) hr
    · show Q10 Z a1 p3 p4 kc b0 b1 b2 b3 h0 n0 _ s₁.heap _
      rw [e0]
      refine ⟨?_, N0, rfl⟩
      refine congrArg (fun z : Int32 => some (Value.int z)) ?_
      exact own_leaf_8 c6 hto
theorem d11_0 : decode prog_5_method_4_code 0 = .ok (.iload_n 1, 1) := by decide +kernel
theorem d11_1 : decode prog_5_method_4_code 1 = .ok (.istore 4, 2) := by decide +kernel
theorem d11_3 : decode prog_5_method_4_code 3 = .ok (.iload 4, 2) := by decide +kernel
theorem d11_5 : decode prog_5_method_4_code 5 = .ok (.iload_n 2, 1) := by decide +kernel
theorem d11_6 : decode prog_5_method_4_code 6 = .ok (.if_icmp .ge 20, 3) := by decide +kernel
theorem d11_9 : decode prog_5_method_4_code 9 = .ok (.aload_n 0, 1) := by decide +kernel
theorem d11_10 : decode prog_5_method_4_code 10 = .ok (.iload 4, 2) := by decide +kernel
theorem d11_12 : decode prog_5_method_4_code 12 = .ok (.baload, 1) := by decide +kernel
theorem d11_13 : decode prog_5_method_4_code 13 = .ok (.iload_n 3, 1) := by decide +kernel
theorem d11_14 : decode prog_5_method_4_code 14 = .ok (.if_icmp .ne 6, 3) := by decide +kernel
theorem d11_17 : decode prog_5_method_4_code 17 = .ok (.iload 4, 2) := by decide +kernel
theorem d11_19 : decode prog_5_method_4_code 19 = .ok (.ireturn, 1) := by decide +kernel
theorem d11_20 : decode prog_5_method_4_code 20 = .ok (.iinc 4 1, 3) := by decide +kernel
theorem d11_23 : decode prog_5_method_4_code 23 = .ok (.goto (-20), 3) := by decide +kernel
theorem d11_26 : decode prog_5_method_4_code 26 = .ok (.iconst (-1), 1) := by decide +kernel
theorem d11_27 : decode prog_5_method_4_code 27 = .ok (.ireturn, 1) := by decide +kernel
theorem pn_11 : plainName "ledgerline/cli/LineReader" = true := by first | (simp [plainName, overriddenIn]; done) | decide +kernel
theorem ef_11 (m : MethodId) (x0 : Addr) (x1 : Int32) (x2 : Int32) (x3 : Int32) : entryFrame m #[(.ref x0), (.int x1), (.int x2), (.int x3)] 5 = mkF m 0 #[.val (.ref x0), .val (.int x1), .val (.int x2), .val (.int x3), .unset] [] := by first | (simp [entryFrame, mkF, argsToLocals, Value.category]; done) | rfl
def Q11 (Z : State) (a1 : Addr) (p3 : Int32) (p4 : Int32) (kc : ClassId) (b0 : Int32) (b1 : Int32) (b2 : Int32) (b3 : Int32) (h0 : Heap) (n0 : Nat) (v : Option Value) (h : Heap) (L : List Loc) : Prop := v = some (.int (own_ix (1 : Int32) p3 p4 b0 b1 b2 b3)) ∧ Fr n0 L ∧ h = h0
set_option maxRecDepth 65536 in
set_option maxHeartbeats 40000000 in
theorem rm11 (l : Launch) (Z : State) (a0 : Array Value) (hw : ∀ d ∈ tables_1, d.before a0 Z = true) (ws : List Jvm.Cond) (a1 : Addr) (p3 : Int32) (p4 : Int32) (kc : ClassId) (b0 : Int32) (b1 : Int32) (b2 : Int32) (b3 : Int32) (h0 : Heap) (n0 : Nat) (Z0 : n0 ≤ h0.size) (A_a : Arv Z h0 a1 kc .byte (4 : Int32) [(.int b0), (.int b1), (.int b2), (.int b3)] (.int (0 : Int32))) (hto : ¬ (4 : Int32) < p3) :
    MetFree l (⟨"ledgerline/cli/LineReader", "indexOf", "([BIIB)I"⟩ : MethodName) (head1 (Jvm.Cond.code (⟨"ledgerline/cli/LineReader", "indexOf", "([BIIB)I"⟩ : MethodName) prog_5_method_4_code 5 (some .int) :: ws) ({ frames := 0, cells := 0, slots := 0, locals := 0 } : Room)) (fun a U => a = #[(.ref a1), (.int (1 : Int32)), (.int p3), (.int p4)] ∧ Z.Warmed39 U.vm ∧ U.heap = h0) (fun _ _ _ _ _ => True) (fun _ U o U' => ∃ v L, o = .returned v ∧ Q11 Z a1 p3 p4 kc b0 b1 b2 b3 h0 n0 v U'.heap L ∧ FrameEnd U o U' L ({ frames := 0, cells := 0, slots := 0, locals := 0 } : Room).cells ({ frames := 0, cells := 0, slots := 0, locals := 0 } : Room).slots) := by
  refine MetFree.of_bodySF (plainFor_of_name pn_11) hisR ?_
  intro p e s m args below meth c s₁ Bd hml0 hP hK
  obtain ⟨rfl, hZ, hh⟩ := hP
  have hx := Bd.exec
  have hby := Bd.bytes
  have hml : c.maxLocals = 5 := hml0
  have hown : s.vm.findClass "ledgerline/cli/LineReader" = some m.cls := findClass_of_methodNamed Bd.named
  have hnm := (name_of_methodNamed Bd.named Bd.method).1
  have X0 : Stand p l e ({ frames := 0, cells := 0, slots := 0, locals := 0 } : Room) s m #[(.ref a1), (.int (1 : Int32)), (.int p3), (.int p4)] below meth c s₁ [] 0 0 := Stand.of_body Bd
  have e0 : s₁.heap = h0 := by rw [← hh, Bd.state]; rfl
  have N0 := Fr.nil n0
  have K0 : Keep h0 h0 [] := Keep.refl _ _
  have P0 : ∀ t, Steps p.tables e below (s₁.setTop (mkF m 0 #[.val (.ref a1), .val (.int (1 : Int32)), .val (.int p3), .val (.int p4), .unset] [])) t → Steps p.tables e below (s₁.setTop (entryFrame m #[(.ref a1), (.int (1 : Int32)), (.int p3), (.int p4)] 5)) t := fun t k => castTop (ef_11 m a1 (1 : Int32) p3 p4) k
  have P1 : ∀ t, Steps p.tables e below (s₁.setTop (mkF m 6 #[.val (.ref a1), .val (.int (1 : Int32)), .val (.int p3), .val (.int p4), .val (.int (1 : Int32))] [(.int p3), (.int (1 : Int32))])) t → Steps p.tables e below (s₁.setTop (entryFrame m #[(.ref a1), (.int (1 : Int32)), (.int p3), (.int p4)] 5)) t := by
    intro t k
    refine P0 _ ?_
    refine XS.iloadN X0.here hx rfl (hb hby d11_0) rfl ?_
    show Steps p.tables e below (s₁.setTop (mkF m 1 #[.val (.ref a1), .val (.int (1 : Int32)), .val (.int p3), .val (.int p4), .unset] [(.int (1 : Int32))])) _
    refine XS.istore X0.here hx rfl (hb hby d11_1) rfl (l' := #[.val (.ref a1), .val (.int (1 : Int32)), .val (.int p3), .val (.int p4), .val (.int (1 : Int32))]) rfl ?_
    show Steps p.tables e below (s₁.setTop (mkF m 3 #[.val (.ref a1), .val (.int (1 : Int32)), .val (.int p3), .val (.int p4), .val (.int (1 : Int32))] [])) _
    refine XS.iload X0.here hx rfl (hb hby d11_3) rfl ?_
    show Steps p.tables e below (s₁.setTop (mkF m 5 #[.val (.ref a1), .val (.int (1 : Int32)), .val (.int p3), .val (.int p4), .val (.int (1 : Int32))] [(.int (1 : Int32))])) _
    refine XS.iloadN X0.here hx rfl (hb hby d11_5) rfl ?_
    show Steps p.tables e below (s₁.setTop (mkF m 6 #[.val (.ref a1), .val (.int (1 : Int32)), .val (.int p3), .val (.int p4), .val (.int (1 : Int32))] [(.int p3), (.int (1 : Int32))])) _
    exact k
  by_cases c6 : (1 : Int32) < p3
  · have P2 : ∀ t, Steps p.tables e below (s₁.setTop (mkF m 14 #[.val (.ref a1), .val (.int (1 : Int32)), .val (.int p3), .val (.int p4), .val (.int (1 : Int32))] [(.int p4), (.int b1)])) t → Steps p.tables e below (s₁.setTop (entryFrame m #[(.ref a1), (.int (1 : Int32)), (.int p3), (.int p4)] 5)) t := by
      intro t k
      refine P1 _ ?_
      refine XS.icmpNo X0.here hx rfl (hb hby d11_6) rfl (XT.ii_ge_f c6) ?_
      show Steps p.tables e below (s₁.setTop (mkF m 9 #[.val (.ref a1), .val (.int (1 : Int32)), .val (.int p3), .val (.int p4), .val (.int (1 : Int32))] [])) _
      refine XS.aloadN X0.here hx rfl (hb hby d11_9) rfl rfl ?_
      show Steps p.tables e below (s₁.setTop (mkF m 10 #[.val (.ref a1), .val (.int (1 : Int32)), .val (.int p3), .val (.int p4), .val (.int (1 : Int32))] [(.ref a1)])) _
      refine XS.iload X0.here hx rfl (hb hby d11_10) rfl ?_
      show Steps p.tables e below (s₁.setTop (mkF m 12 #[.val (.ref a1), .val (.int (1 : Int32)), .val (.int p3), .val (.int p4), .val (.int (1 : Int32))] [(.int (1 : Int32)), (.ref a1)])) _
      refine own_bal X0 hx hZ e0 A_a ⟨by decide, by decide⟩ (v := (.int b1)) rfl rfl rfl (hb hby d11_12) ?_
      show Steps p.tables e below (s₁.setTop (mkF m 13 #[.val (.ref a1), .val (.int (1 : Int32)), .val (.int p3), .val (.int p4), .val (.int (1 : Int32))] [(.int b1)])) _
      refine XS.iloadN X0.here hx rfl (hb hby d11_13) rfl ?_
      show Steps p.tables e below (s₁.setTop (mkF m 14 #[.val (.ref a1), .val (.int (1 : Int32)), .val (.int p3), .val (.int p4), .val (.int (1 : Int32))] [(.int p4), (.int b1)])) _
      exact k
    by_cases c14 : b1 = p4
    · have P3 : ∀ t, Steps p.tables e below (s₁.setTop (mkF m 19 #[.val (.ref a1), .val (.int (1 : Int32)), .val (.int p3), .val (.int p4), .val (.int (1 : Int32))] [(.int (1 : Int32))])) t → Steps p.tables e below (s₁.setTop (entryFrame m #[(.ref a1), (.int (1 : Int32)), (.int p3), (.int p4)] 5)) t := by
        intro t k
        refine P2 _ ?_
        refine XS.icmpNo X0.here hx rfl (hb hby d11_14) rfl (XT.ii_ne_f c14) ?_
        show Steps p.tables e below (s₁.setTop (mkF m 17 #[.val (.ref a1), .val (.int (1 : Int32)), .val (.int p3), .val (.int p4), .val (.int (1 : Int32))] [])) _
        refine XS.iload X0.here hx rfl (hb hby d11_17) rfl ?_
        show Steps p.tables e below (s₁.setTop (mkF m 19 #[.val (.ref a1), .val (.int (1 : Int32)), .val (.int p3), .val (.int p4), .val (.int (1 : Int32))] [(.int (1 : Int32))])) _
        exact k
      obtain ⟨fs, hr, hrun, hended, hW, hsame⟩ := X0.leave (v := some (.int (1 : Int32))) (fun h => by rw [Bd.returns] at h; cases h)
      refine ⟨_, _, P3 _ ?_, hrun, hended, _, _, rfl, ?_, ⟨_, rfl⟩, hW, hsame.mono (by decide) (by decide)⟩
      · exact retI X0 hx Bd.returns (hb hby d11_19) hr
      · show Q11 Z a1 p3 p4 kc b0 b1 b2 b3 h0 n0 _ s₁.heap _
        rw [e0]
        refine ⟨?_, N0, rfl⟩
        refine congrArg (fun z : Int32 => some (Value.int z)) ?_
        exact own_leaf_9 c6 c14 hto
    · have P4 : ∀ t, Steps p.tables e below (s₁.setTop (mkF m 6 #[.val (.ref a1), .val (.int (1 : Int32)), .val (.int p3), .val (.int p4), .val (.int (2 : Int32))] [(.int p3), (.int (2 : Int32))])) t → Steps p.tables e below (s₁.setTop (entryFrame m #[(.ref a1), (.int (1 : Int32)), (.int p3), (.int p4)] 5)) t := by
        intro t k
        refine P2 _ ?_
        refine XS.icmpYes X0.here hx rfl (pc0 := 14) (pc' := 20) rfl (hb hby d11_14) rfl (XT.ii_ne_t c14) (by decide) (by decide) ?_
        show Steps p.tables e below (s₁.setTop (mkF m 20 #[.val (.ref a1), .val (.int (1 : Int32)), .val (.int p3), .val (.int p4), .val (.int (1 : Int32))] [])) _
        refine XS.iinc X0.here hx rfl (hb hby d11_20) rfl (l' := #[.val (.ref a1), .val (.int (1 : Int32)), .val (.int p3), .val (.int p4), .val (.int (2 : Int32))]) rfl ?_
        show Steps p.tables e below (s₁.setTop (mkF m 23 #[.val (.ref a1), .val (.int (1 : Int32)), .val (.int p3), .val (.int p4), .val (.int (2 : Int32))] [])) _
        refine XS.goto X0.here hx rfl (pc0 := 23) (pc' := 3) rfl (hb hby d11_23) (by decide) (by decide) ?_
        show Steps p.tables e below (s₁.setTop (mkF m 3 #[.val (.ref a1), .val (.int (1 : Int32)), .val (.int p3), .val (.int p4), .val (.int (2 : Int32))] [])) _
        refine XS.iload X0.here hx rfl (hb hby d11_3) rfl ?_
        show Steps p.tables e below (s₁.setTop (mkF m 5 #[.val (.ref a1), .val (.int (1 : Int32)), .val (.int p3), .val (.int p4), .val (.int (2 : Int32))] [(.int (2 : Int32))])) _
        refine XS.iloadN X0.here hx rfl (hb hby d11_5) rfl ?_
        show Steps p.tables e below (s₁.setTop (mkF m 6 #[.val (.ref a1), .val (.int (1 : Int32)), .val (.int p3), .val (.int p4), .val (.int (2 : Int32))] [(.int p3), (.int (2 : Int32))])) _
        exact k
      by_cases c6_2 : (2 : Int32) < p3
      · have P5 : ∀ t, Steps p.tables e below (s₁.setTop (mkF m 14 #[.val (.ref a1), .val (.int (1 : Int32)), .val (.int p3), .val (.int p4), .val (.int (2 : Int32))] [(.int p4), (.int b2)])) t → Steps p.tables e below (s₁.setTop (entryFrame m #[(.ref a1), (.int (1 : Int32)), (.int p3), (.int p4)] 5)) t := by
          intro t k
          refine P4 _ ?_
          refine XS.icmpNo X0.here hx rfl (hb hby d11_6) rfl (XT.ii_ge_f c6_2) ?_
          show Steps p.tables e below (s₁.setTop (mkF m 9 #[.val (.ref a1), .val (.int (1 : Int32)), .val (.int p3), .val (.int p4), .val (.int (2 : Int32))] [])) _
          refine XS.aloadN X0.here hx rfl (hb hby d11_9) rfl rfl ?_
          show Steps p.tables e below (s₁.setTop (mkF m 10 #[.val (.ref a1), .val (.int (1 : Int32)), .val (.int p3), .val (.int p4), .val (.int (2 : Int32))] [(.ref a1)])) _
          refine XS.iload X0.here hx rfl (hb hby d11_10) rfl ?_
          show Steps p.tables e below (s₁.setTop (mkF m 12 #[.val (.ref a1), .val (.int (1 : Int32)), .val (.int p3), .val (.int p4), .val (.int (2 : Int32))] [(.int (2 : Int32)), (.ref a1)])) _
          refine own_bal X0 hx hZ e0 A_a ⟨by decide, by decide⟩ (v := (.int b2)) rfl rfl rfl (hb hby d11_12) ?_
          show Steps p.tables e below (s₁.setTop (mkF m 13 #[.val (.ref a1), .val (.int (1 : Int32)), .val (.int p3), .val (.int p4), .val (.int (2 : Int32))] [(.int b2)])) _
          refine XS.iloadN X0.here hx rfl (hb hby d11_13) rfl ?_
          show Steps p.tables e below (s₁.setTop (mkF m 14 #[.val (.ref a1), .val (.int (1 : Int32)), .val (.int p3), .val (.int p4), .val (.int (2 : Int32))] [(.int p4), (.int b2)])) _
          exact k
        by_cases c14_3 : b2 = p4
        · have P6 : ∀ t, Steps p.tables e below (s₁.setTop (mkF m 19 #[.val (.ref a1), .val (.int (1 : Int32)), .val (.int p3), .val (.int p4), .val (.int (2 : Int32))] [(.int (2 : Int32))])) t → Steps p.tables e below (s₁.setTop (entryFrame m #[(.ref a1), (.int (1 : Int32)), (.int p3), (.int p4)] 5)) t := by
            intro t k
            refine P5 _ ?_
            refine XS.icmpNo X0.here hx rfl (hb hby d11_14) rfl (XT.ii_ne_f c14_3) ?_
            show Steps p.tables e below (s₁.setTop (mkF m 17 #[.val (.ref a1), .val (.int (1 : Int32)), .val (.int p3), .val (.int p4), .val (.int (2 : Int32))] [])) _
            refine XS.iload X0.here hx rfl (hb hby d11_17) rfl ?_
            show Steps p.tables e below (s₁.setTop (mkF m 19 #[.val (.ref a1), .val (.int (1 : Int32)), .val (.int p3), .val (.int p4), .val (.int (2 : Int32))] [(.int (2 : Int32))])) _
            exact k
          obtain ⟨fs, hr, hrun, hended, hW, hsame⟩ := X0.leave (v := some (.int (2 : Int32))) (fun h => by rw [Bd.returns] at h; cases h)
          refine ⟨_, _, P6 _ ?_, hrun, hended, _, _, rfl, ?_, ⟨_, rfl⟩, hW, hsame.mono (by decide) (by decide)⟩
          · exact retI X0 hx Bd.returns (hb hby d11_19) hr
          · show Q11 Z a1 p3 p4 kc b0 b1 b2 b3 h0 n0 _ s₁.heap _
            rw [e0]
            refine ⟨?_, N0, rfl⟩
            refine congrArg (fun z : Int32 => some (Value.int z)) ?_
            exact own_leaf_10 c6 c14 c6_2 c14_3 hto
        · have P7 : ∀ t, Steps p.tables e below (s₁.setTop (mkF m 6 #[.val (.ref a1), .val (.int (1 : Int32)), .val (.int p3), .val (.int p4), .val (.int (3 : Int32))] [(.int p3), (.int (3 : Int32))])) t → Steps p.tables e below (s₁.setTop (entryFrame m #[(.ref a1), (.int (1 : Int32)), (.int p3), (.int p4)] 5)) t := by
            intro t k
            refine P5 _ ?_
            refine XS.icmpYes X0.here hx rfl (pc0 := 14) (pc' := 20) rfl (hb hby d11_14) rfl (XT.ii_ne_t c14_3) (by decide) (by decide) ?_
            show Steps p.tables e below (s₁.setTop (mkF m 20 #[.val (.ref a1), .val (.int (1 : Int32)), .val (.int p3), .val (.int p4), .val (.int (2 : Int32))] [])) _
            refine XS.iinc X0.here hx rfl (hb hby d11_20) rfl (l' := #[.val (.ref a1), .val (.int (1 : Int32)), .val (.int p3), .val (.int p4), .val (.int (3 : Int32))]) rfl ?_
            show Steps p.tables e below (s₁.setTop (mkF m 23 #[.val (.ref a1), .val (.int (1 : Int32)), .val (.int p3), .val (.int p4), .val (.int (3 : Int32))] [])) _
            refine XS.goto X0.here hx rfl (pc0 := 23) (pc' := 3) rfl (hb hby d11_23) (by decide) (by decide) ?_
            show Steps p.tables e below (s₁.setTop (mkF m 3 #[.val (.ref a1), .val (.int (1 : Int32)), .val (.int p3), .val (.int p4), .val (.int (3 : Int32))] [])) _
            refine XS.iload X0.here hx rfl (hb hby d11_3) rfl ?_
            show Steps p.tables e below (s₁.setTop (mkF m 5 #[.val (.ref a1), .val (.int (1 : Int32)), .val (.int p3), .val (.int p4), .val (.int (3 : Int32))] [(.int (3 : Int32))])) _
            refine XS.iloadN X0.here hx rfl (hb hby d11_5) rfl ?_
            show Steps p.tables e below (s₁.setTop (mkF m 6 #[.val (.ref a1), .val (.int (1 : Int32)), .val (.int p3), .val (.int p4), .val (.int (3 : Int32))] [(.int p3), (.int (3 : Int32))])) _
            exact k
          by_cases c6_4 : (3 : Int32) < p3
          · have P8 : ∀ t, Steps p.tables e below (s₁.setTop (mkF m 14 #[.val (.ref a1), .val (.int (1 : Int32)), .val (.int p3), .val (.int p4), .val (.int (3 : Int32))] [(.int p4), (.int b3)])) t → Steps p.tables e below (s₁.setTop (entryFrame m #[(.ref a1), (.int (1 : Int32)), (.int p3), (.int p4)] 5)) t := by
              intro t k
              refine P7 _ ?_
              refine XS.icmpNo X0.here hx rfl (hb hby d11_6) rfl (XT.ii_ge_f c6_4) ?_
              show Steps p.tables e below (s₁.setTop (mkF m 9 #[.val (.ref a1), .val (.int (1 : Int32)), .val (.int p3), .val (.int p4), .val (.int (3 : Int32))] [])) _
              refine XS.aloadN X0.here hx rfl (hb hby d11_9) rfl rfl ?_
              show Steps p.tables e below (s₁.setTop (mkF m 10 #[.val (.ref a1), .val (.int (1 : Int32)), .val (.int p3), .val (.int p4), .val (.int (3 : Int32))] [(.ref a1)])) _
              refine XS.iload X0.here hx rfl (hb hby d11_10) rfl ?_
              show Steps p.tables e below (s₁.setTop (mkF m 12 #[.val (.ref a1), .val (.int (1 : Int32)), .val (.int p3), .val (.int p4), .val (.int (3 : Int32))] [(.int (3 : Int32)), (.ref a1)])) _
              refine own_bal X0 hx hZ e0 A_a ⟨by decide, by decide⟩ (v := (.int b3)) rfl rfl rfl (hb hby d11_12) ?_
              show Steps p.tables e below (s₁.setTop (mkF m 13 #[.val (.ref a1), .val (.int (1 : Int32)), .val (.int p3), .val (.int p4), .val (.int (3 : Int32))] [(.int b3)])) _
              refine XS.iloadN X0.here hx rfl (hb hby d11_13) rfl ?_
              show Steps p.tables e below (s₁.setTop (mkF m 14 #[.val (.ref a1), .val (.int (1 : Int32)), .val (.int p3), .val (.int p4), .val (.int (3 : Int32))] [(.int p4), (.int b3)])) _
              exact k
            by_cases c14_5 : b3 = p4
            · have P9 : ∀ t, Steps p.tables e below (s₁.setTop (mkF m 19 #[.val (.ref a1), .val (.int (1 : Int32)), .val (.int p3), .val (.int p4), .val (.int (3 : Int32))] [(.int (3 : Int32))])) t → Steps p.tables e below (s₁.setTop (entryFrame m #[(.ref a1), (.int (1 : Int32)), (.int p3), (.int p4)] 5)) t := by
                intro t k
                refine P8 _ ?_
                refine XS.icmpNo X0.here hx rfl (hb hby d11_14) rfl (XT.ii_ne_f c14_5) ?_
                show Steps p.tables e below (s₁.setTop (mkF m 17 #[.val (.ref a1), .val (.int (1 : Int32)), .val (.int p3), .val (.int p4), .val (.int (3 : Int32))] [])) _
                refine XS.iload X0.here hx rfl (hb hby d11_17) rfl ?_
                show Steps p.tables e below (s₁.setTop (mkF m 19 #[.val (.ref a1), .val (.int (1 : Int32)), .val (.int p3), .val (.int p4), .val (.int (3 : Int32))] [(.int (3 : Int32))])) _
                exact k
              obtain ⟨fs, hr, hrun, hended, hW, hsame⟩ := X0.leave (v := some (.int (3 : Int32))) (fun h => by rw [Bd.returns] at h; cases h)
              refine ⟨_, _, P9 _ ?_, hrun, hended, _, _, rfl, ?_, ⟨_, rfl⟩, hW, hsame.mono (by decide) (by decide)⟩
              · exact retI X0 hx Bd.returns (hb hby d11_19) hr
              · show Q11 Z a1 p3 p4 kc b0 b1 b2 b3 h0 n0 _ s₁.heap _
                rw [e0]
                refine ⟨?_, N0, rfl⟩
                refine congrArg (fun z : Int32 => some (Value.int z)) ?_
                exact own_leaf_11 c6 c14 c6_2 c14_3 c6_4 c14_5 hto
            · have P10 : ∀ t, Steps p.tables e below (s₁.setTop (mkF m 27 #[.val (.ref a1), .val (.int (1 : Int32)), .val (.int p3), .val (.int p4), .val (.int (4 : Int32))] [(.int (-1 : Int32))])) t → Steps p.tables e below (s₁.setTop (entryFrame m #[(.ref a1), (.int (1 : Int32)), (.int p3), (.int p4)] 5)) t := by
                intro t k
                refine P8 _ ?_
                refine XS.icmpYes X0.here hx rfl (pc0 := 14) (pc' := 20) rfl (hb hby d11_14) rfl (XT.ii_ne_t c14_5) (by decide) (by decide) ?_
                show Steps p.tables e below (s₁.setTop (mkF m 20 #[.val (.ref a1), .val (.int (1 : Int32)), .val (.int p3), .val (.int p4), .val (.int (3 : Int32))] [])) _
                refine XS.iinc X0.here hx rfl (hb hby d11_20) rfl (l' := #[.val (.ref a1), .val (.int (1 : Int32)), .val (.int p3), .val (.int p4), .val (.int (4 : Int32))]) rfl ?_
                show Steps p.tables e below (s₁.setTop (mkF m 23 #[.val (.ref a1), .val (.int (1 : Int32)), .val (.int p3), .val (.int p4), .val (.int (4 : Int32))] [])) _
                refine XS.goto X0.here hx rfl (pc0 := 23) (pc' := 3) rfl (hb hby d11_23) (by decide) (by decide) ?_
                show Steps p.tables e below (s₁.setTop (mkF m 3 #[.val (.ref a1), .val (.int (1 : Int32)), .val (.int p3), .val (.int p4), .val (.int (4 : Int32))] [])) _
                refine XS.iload X0.here hx rfl (hb hby d11_3) rfl ?_
                show Steps p.tables e below (s₁.setTop (mkF m 5 #[.val (.ref a1), .val (.int (1 : Int32)), .val (.int p3), .val (.int p4), .val (.int (4 : Int32))] [(.int (4 : Int32))])) _
                refine XS.iloadN X0.here hx rfl (hb hby d11_5) rfl ?_
                show Steps p.tables e below (s₁.setTop (mkF m 6 #[.val (.ref a1), .val (.int (1 : Int32)), .val (.int p3), .val (.int p4), .val (.int (4 : Int32))] [(.int p3), (.int (4 : Int32))])) _
                refine XS.icmpYes X0.here hx rfl (pc0 := 6) (pc' := 26) rfl (hb hby d11_6) rfl (XT.ii_ge_t hto) (by decide) (by decide) ?_
                show Steps p.tables e below (s₁.setTop (mkF m 26 #[.val (.ref a1), .val (.int (1 : Int32)), .val (.int p3), .val (.int p4), .val (.int (4 : Int32))] [])) _
                refine XS.iconst X0.here hx rfl (hb hby d11_26) ?_
                show Steps p.tables e below (s₁.setTop (mkF m 27 #[.val (.ref a1), .val (.int (1 : Int32)), .val (.int p3), .val (.int p4), .val (.int (4 : Int32))] [(.int (-1 : Int32))])) _
                exact k
              obtain ⟨fs, hr, hrun, hended, hW, hsame⟩ := X0.leave (v := some (.int (-1 : Int32))) (fun h => by rw [Bd.returns] at h; cases h)
              refine ⟨_, _, P10 _ ?_, hrun, hended, _, _, rfl, ?_, ⟨_, rfl⟩, hW, hsame.mono (by decide) (by decide)⟩
              · exact retI X0 hx Bd.returns (hb hby d11_27) hr
              · show Q11 Z a1 p3 p4 kc b0 b1 b2 b3 h0 n0 _ s₁.heap _
                rw [e0]
                refine ⟨?_, N0, rfl⟩
                refine congrArg (fun z : Int32 => some (Value.int z)) ?_
                exact own_leaf_12 c6 c14 c6_2 c14_3 c6_4 c14_5 hto
          · have P11 : ∀ t, Steps p.tables e below (s₁.setTop (mkF m 27 #[.val (.ref a1), .val (.int (1 : Int32)), .val (.int p3), .val (.int p4), .val (.int (3 : Int32))] [(.int (-1 : Int32))])) t → Steps p.tables e below (s₁.setTop (entryFrame m #[(.ref a1), (.int (1 : Int32)), (.int p3), (.int p4)] 5)) t := by
              intro t k
              refine P7 _ ?_
              refine XS.icmpYes X0.here hx rfl (pc0 := 6) (pc' := 26) rfl (hb hby d11_6) rfl (XT.ii_ge_t c6_4) (by decide) (by decide) ?_
              show Steps p.tables e below (s₁.setTop (mkF m 26 #[.val (.ref a1), .val (.int (1 : Int32)), .val (.int p3), .val (.int p4), .val (.int (3 : Int32))] [])) _
              refine XS.iconst X0.here hx rfl (hb hby d11_26) ?_
              show Steps p.tables e below (s₁.setTop (mkF m 27 #[.val (.ref a1), .val (.int (1 : Int32)), .val (.int p3), .val (.int p4), .val (.int (3 : Int32))] [(.int (-1 : Int32))])) _
              exact k
            obtain ⟨fs, hr, hrun, hended, hW, hsame⟩ := X0.leave (v := some (.int (-1 : Int32))) (fun h => by rw [Bd.returns] at h; cases h)
            refine ⟨_, _, P11 _ ?_, hrun, hended, _, _, rfl, ?_, ⟨_, rfl⟩, hW, hsame.mono (by decide) (by decide)⟩
            · exact retI X0 hx Bd.returns (hb hby d11_27) hr
            · show Q11 Z a1 p3 p4 kc b0 b1 b2 b3 h0 n0 _ s₁.heap _
              rw [e0]
              refine ⟨?_, N0, rfl⟩
              refine congrArg (fun z : Int32 => some (Value.int z)) ?_
              exact own_leaf_13 c6 c14 c6_2 c14_3 c6_4 hto
      · have P12 : ∀ t, Steps p.tables e below (s₁.setTop (mkF m 27 #[.val (.ref a1), .val (.int (1 : Int32)), .val (.int p3), .val (.int p4), .val (.int (2 : Int32))] [(.int (-1 : Int32))])) t → Steps p.tables e below (s₁.setTop (entryFrame m #[(.ref a1), (.int (1 : Int32)), (.int p3), (.int p4)] 5)) t := by
          intro t k
          refine P4 _ ?_
          refine XS.icmpYes X0.here hx rfl (pc0 := 6) (pc' := 26) rfl (hb hby d11_6) rfl (XT.ii_ge_t c6_2) (by decide) (by decide) ?_
          show Steps p.tables e below (s₁.setTop (mkF m 26 #[.val (.ref a1), .val (.int (1 : Int32)), .val (.int p3), .val (.int p4), .val (.int (2 : Int32))] [])) _
          refine XS.iconst X0.here hx rfl (hb hby d11_26) ?_
          show Steps p.tables e below (s₁.setTop (mkF m 27 #[.val (.ref a1), .val (.int (1 : Int32)), .val (.int p3), .val (.int p4), .val (.int (2 : Int32))] [(.int (-1 : Int32))])) _
          exact k
        obtain ⟨fs, hr, hrun, hended, hW, hsame⟩ := X0.leave (v := some (.int (-1 : Int32))) (fun h => by rw [Bd.returns] at h; cases h)
        refine ⟨_, _, P12 _ ?_, hrun, hended, _, _, rfl, ?_, ⟨_, rfl⟩, hW, hsame.mono (by decide) (by decide)⟩
        · exact retI X0 hx Bd.returns (hb hby d11_27) hr
        · show Q11 Z a1 p3 p4 kc b0 b1 b2 b3 h0 n0 _ s₁.heap _
          rw [e0]
          refine ⟨?_, N0, rfl⟩
          refine congrArg (fun z : Int32 => some (Value.int z)) ?_
          exact own_leaf_14 c6 c14 c6_2 hto
  · have P13 : ∀ t, Steps p.tables e below (s₁.setTop (mkF m 27 #[.val (.ref a1), .val (.int (1 : Int32)), .val (.int p3), .val (.int p4), .val (.int (1 : Int32))] [(.int (-1 : Int32))])) t → Steps p.tables e below (s₁.setTop (entryFrame m #[(.ref a1), (.int (1 : Int32)), (.int p3), (.int p4)] 5)) t := by
      intro t k
      refine P1 _ ?_
      refine XS.icmpYes X0.here hx rfl (pc0 := 6) (pc' := 26) rfl (hb hby d11_6) rfl (XT.ii_ge_t c6) (by decide) (by decide) ?_
      show Steps p.tables e below (s₁.setTop (mkF m 26 #[.val (.ref a1), .val (.int (1 : Int32)), .val (.int p3), .val (.int p4), .val (.int (1 : Int32))] [])) _
      refine XS.iconst X0.here hx rfl (hb hby d11_26) ?_
      show Steps p.tables e below (s₁.setTop (mkF m 27 #[.val (.ref a1), .val (.int (1 : Int32)), .val (.int p3), .val (.int p4), .val (.int (1 : Int32))] [(.int (-1 : Int32))])) _
      exact k
    obtain ⟨fs, hr, hrun, hended, hW, hsame⟩ := X0.leave (v := some (.int (-1 : Int32))) (fun h => by rw [Bd.returns] at h; cases h)
    refine ⟨_, _, P13 _ ?_, hrun, hended, _, _, rfl, ?_, ⟨_, rfl⟩, hW, hsame.mono (by decide) (by decide)⟩
    · exact retI X0 hx Bd.returns (hb hby d11_27) hr
    · show Q11 Z a1 p3 p4 kc b0 b1 b2 b3 h0 n0 _ s₁.heap _
      rw [e0]
      refine ⟨?_, N0, rfl⟩
      refine congrArg (fun z : Int32 => some (Value.int z)) ?_
      exact own_leaf_15 c6 hto
theorem d12_0 : decode prog_5_method_4_code 0 = .ok (.iload_n 1, 1) := by decide +kernel
theorem d12_1 : decode prog_5_method_4_code 1 = .ok (.istore 4, 2) := by decide +kernel
theorem d12_3 : decode prog_5_method_4_code 3 = .ok (.iload 4, 2) := by decide +kernel
theorem d12_5 : decode prog_5_method_4_code 5 = .ok (.iload_n 2, 1) := by decide +kernel
theorem d12_6 : decode prog_5_method_4_code 6 = .ok (.if_icmp .ge 20, 3) := by decide +kernel
theorem d12_9 : decode prog_5_method_4_code 9 = .ok (.aload_n 0, 1) := by decide +kernel
theorem d12_10 : decode prog_5_method_4_code 10 = .ok (.iload 4, 2) := by decide +kernel
theorem d12_12 : decode prog_5_method_4_code 12 = .ok (.baload, 1) := by decide +kernel
theorem d12_13 : decode prog_5_method_4_code 13 = .ok (.iload_n 3, 1) := by decide +kernel
theorem d12_14 : decode prog_5_method_4_code 14 = .ok (.if_icmp .ne 6, 3) := by decide +kernel
theorem d12_17 : decode prog_5_method_4_code 17 = .ok (.iload 4, 2) := by decide +kernel
theorem d12_19 : decode prog_5_method_4_code 19 = .ok (.ireturn, 1) := by decide +kernel
theorem d12_20 : decode prog_5_method_4_code 20 = .ok (.iinc 4 1, 3) := by decide +kernel
theorem d12_23 : decode prog_5_method_4_code 23 = .ok (.goto (-20), 3) := by decide +kernel
theorem d12_26 : decode prog_5_method_4_code 26 = .ok (.iconst (-1), 1) := by decide +kernel
theorem d12_27 : decode prog_5_method_4_code 27 = .ok (.ireturn, 1) := by decide +kernel
theorem pn_12 : plainName "ledgerline/cli/LineReader" = true := by first | (simp [plainName, overriddenIn]; done) | decide +kernel
theorem ef_12 (m : MethodId) (x0 : Addr) (x1 : Int32) (x2 : Int32) (x3 : Int32) : entryFrame m #[(.ref x0), (.int x1), (.int x2), (.int x3)] 5 = mkF m 0 #[.val (.ref x0), .val (.int x1), .val (.int x2), .val (.int x3), .unset] [] := by first | (simp [entryFrame, mkF, argsToLocals, Value.category]; done) | rfl
def Q12 (Z : State) (a1 : Addr) (p3 : Int32) (p4 : Int32) (kc : ClassId) (b0 : Int32) (b1 : Int32) (b2 : Int32) (b3 : Int32) (h0 : Heap) (n0 : Nat) (v : Option Value) (h : Heap) (L : List Loc) : Prop := v = some (.int (own_ix (2 : Int32) p3 p4 b0 b1 b2 b3)) ∧ Fr n0 L ∧ h = h0
set_option maxRecDepth 65536 in
set_option maxHeartbeats 40000000 in
theorem rm12 (l : Launch) (Z : State) (a0 : Array Value) (hw : ∀ d ∈ tables_1, d.before a0 Z = true) (ws : List Jvm.Cond) (a1 : Addr) (p3 : Int32) (p4 : Int32) (kc : ClassId) (b0 : Int32) (b1 : Int32) (b2 : Int32) (b3 : Int32) (h0 : Heap) (n0 : Nat) (Z0 : n0 ≤ h0.size) (A_a : Arv Z h0 a1 kc .byte (4 : Int32) [(.int b0), (.int b1), (.int b2), (.int b3)] (.int (0 : Int32))) (hto : ¬ (4 : Int32) < p3) :
    MetFree l (⟨"ledgerline/cli/LineReader", "indexOf", "([BIIB)I"⟩ : MethodName) (head1 (Jvm.Cond.code (⟨"ledgerline/cli/LineReader", "indexOf", "([BIIB)I"⟩ : MethodName) prog_5_method_4_code 5 (some .int) :: ws) ({ frames := 0, cells := 0, slots := 0, locals := 0 } : Room)) (fun a U => a = #[(.ref a1), (.int (2 : Int32)), (.int p3), (.int p4)] ∧ Z.Warmed39 U.vm ∧ U.heap = h0) (fun _ _ _ _ _ => True) (fun _ U o U' => ∃ v L, o = .returned v ∧ Q12 Z a1 p3 p4 kc b0 b1 b2 b3 h0 n0 v U'.heap L ∧ FrameEnd U o U' L ({ frames := 0, cells := 0, slots := 0, locals := 0 } : Room).cells ({ frames := 0, cells := 0, slots := 0, locals := 0 } : Room).slots) := by
  refine MetFree.of_bodySF (plainFor_of_name pn_12) hisR ?_
  intro p e s m args below meth c s₁ Bd hml0 hP hK
  obtain ⟨rfl, hZ, hh⟩ := hP
  have hx := Bd.exec
  have hby := Bd.bytes
  have hml : c.maxLocals = 5 := hml0
  have hown : s.vm.findClass "ledgerline/cli/LineReader" = some m.cls := findClass_of_methodNamed Bd.named
  have hnm := (name_of_methodNamed Bd.named Bd.method).1
  have X0 : Stand p l e ({ frames := 0, cells := 0, slots := 0, locals := 0 } : Room) s m #[(.ref a1), (.int (2 : Int32)), (.int p3), (.int p4)] below meth c s₁ [] 0 0 := Stand.of_body Bd
  have e0 : s₁.heap = h0 := by rw [← hh, Bd.state]; rfl
  have N0 := Fr.nil n0
  have K0 : Keep h0 h0 [] := Keep.refl _ _
  have P0 : ∀ t, Steps p.tables e below (s₁.setTop (mkF m 0 #[.val (.ref a1), .val (.int (2 : Int32)), .val (.int p3), .val (.int p4), .unset] [])) t → Steps p.tables e below (s₁.setTop (entryFrame m #[(.ref a1), (.int (2 : Int32)), (.int p3), (.int p4)] 5)) t := fun t k => castTop (ef_12 m a1 (2 : Int32) p3 p4) k
  have P1 : ∀ t, Steps p.tables e below (s₁.setTop (mkF m 6 #[.val (.ref a1), .val (.int (2 : Int32)), .val (.int p3), .val (.int p4), .val (.int (2 : Int32))] [(.int p3), (.int (2 : Int32))])) t → Steps p.tables e below (s₁.setTop (entryFrame m #[(.ref a1), (.int (2 : Int32)), (.int p3), (.int p4)] 5)) t := by
    intro t k
    refine P0 _ ?_
    refine XS.iloadN X0.here hx rfl (hb hby d12_0) rfl ?_
    show Steps p.tables e below (s₁.setTop (mkF m 1 #[.val (.ref a1), .val (.int (2 : Int32)), .val (.int p3), .val (.int p4), .unset] [(.int (2 : Int32))])) _
    refine XS.istore X0.here hx rfl (hb hby d12_1) rfl (l' := #[.val (.ref a1), .val (.int (2 : Int32)), .val (.int p3), .val (.int p4), .val (.int (2 : Int32))]) rfl ?_
    show Steps p.tables e below (s₁.setTop (mkF m 3 #[.val (.ref a1), .val (.int (2 : Int32)), .val (.int p3), .val (.int p4), .val (.int (2 : Int32))] [])) _
    refine XS.iload X0.here hx rfl (hb hby d12_3) rfl ?_
    show Steps p.tables e below (s₁.setTop (mkF m 5 #[.val (.ref a1), .val (.int (2 : Int32)), .val (.int p3), .val (.int p4), .val (.int (2 : Int32))] [(.int (2 : Int32))])) _
    refine XS.iloadN X0.here hx rfl (hb hby d12_5) rfl ?_
    show Steps p.tables e below (s₁.setTop (mkF m 6 #[.val (.ref a1), .val (.int (2 : Int32)), .val (.int p3), .val (.int p4), .val (.int (2 : Int32))] [(.int p3), (.int (2 : Int32))])) _
    exact k
  by_cases c6 : (2 : Int32) < p3
  · have P2 : ∀ t, Steps p.tables e below (s₁.setTop (mkF m 14 #[.val (.ref a1), .val (.int (2 : Int32)), .val (.int p3), .val (.int p4), .val (.int (2 : Int32))] [(.int p4), (.int b2)])) t → Steps p.tables e below (s₁.setTop (entryFrame m #[(.ref a1), (.int (2 : Int32)), (.int p3), (.int p4)] 5)) t := by
      intro t k
      refine P1 _ ?_
      refine XS.icmpNo X0.here hx rfl (hb hby d12_6) rfl (XT.ii_ge_f c6) ?_
      show Steps p.tables e below (s₁.setTop (mkF m 9 #[.val (.ref a1), .val (.int (2 : Int32)), .val (.int p3), .val (.int p4), .val (.int (2 : Int32))] [])) _
      refine XS.aloadN X0.here hx rfl (hb hby d12_9) rfl rfl ?_
      show Steps p.tables e below (s₁.setTop (mkF m 10 #[.val (.ref a1), .val (.int (2 : Int32)), .val (.int p3), .val (.int p4), .val (.int (2 : Int32))] [(.ref a1)])) _
      refine XS.iload X0.here hx rfl (hb hby d12_10) rfl ?_
      show Steps p.tables e below (s₁.setTop (mkF m 12 #[.val (.ref a1), .val (.int (2 : Int32)), .val (.int p3), .val (.int p4), .val (.int (2 : Int32))] [(.int (2 : Int32)), (.ref a1)])) _
      refine own_bal X0 hx hZ e0 A_a ⟨by decide, by decide⟩ (v := (.int b2)) rfl rfl rfl (hb hby d12_12) ?_
      show Steps p.tables e below (s₁.setTop (mkF m 13 #[.val (.ref a1), .val (.int (2 : Int32)), .val (.int p3), .val (.int p4), .val (.int (2 : Int32))] [(.int b2)])) _
      refine XS.iloadN X0.here hx rfl (hb hby d12_13) rfl ?_
      show Steps p.tables e below (s₁.setTop (mkF m 14 #[.val (.ref a1), .val (.int (2 : Int32)), .val (.int p3), .val (.int p4), .val (.int (2 : Int32))] [(.int p4), (.int b2)])) _
      exact k
    by_cases c14 : b2 = p4
    · have P3 : ∀ t, Steps p.tables e below (s₁.setTop (mkF m 19 #[.val (.ref a1), .val (.int (2 : Int32)), .val (.int p3), .val (.int p4), .val (.int (2 : Int32))] [(.int (2 : Int32))])) t → Steps p.tables e below (s₁.setTop (entryFrame m #[(.ref a1), (.int (2 : Int32)), (.int p3), (.int p4)] 5)) t := by
        intro t k
        refine P2 _ ?_
        refine XS.icmpNo X0.here hx rfl (hb hby d12_14) rfl (XT.ii_ne_f c14) ?_
        show Steps p.tables e below (s₁.setTop (mkF m 17 #[.val (.ref a1), .val (.int (2 : Int32)), .val (.int p3), .val (.int p4), .val (.int (2 : Int32))] [])) _
        refine XS.iload X0.here hx rfl (hb hby d12_17) rfl ?_
        show Steps p.tables e below (s₁.setTop (mkF m 19 #[.val (.ref a1), .val (.int (2 : Int32)), .val (.int p3), .val (.int p4), .val (.int (2 : Int32))] [(.int (2 : Int32))])) _
        exact k
      obtain ⟨fs, hr, hrun, hended, hW, hsame⟩ := X0.leave (v := some (.int (2 : Int32))) (fun h => by rw [Bd.returns] at h; cases h)
      refine ⟨_, _, P3 _ ?_, hrun, hended, _, _, rfl, ?_, ⟨_, rfl⟩, hW, hsame.mono (by decide) (by decide)⟩
      · exact retI X0 hx Bd.returns (hb hby d12_19) hr
      · show Q12 Z a1 p3 p4 kc b0 b1 b2 b3 h0 n0 _ s₁.heap _
        rw [e0]
        refine ⟨?_, N0, rfl⟩
        refine congrArg (fun z : Int32 => some (Value.int z)) ?_
        exact own_leaf_16 c6 c14 hto
    · have P4 : ∀ t, Steps p.tables e below (s₁.setTop (mkF m 6 #[.val (.ref a1), .val (.int (2 : Int32)), .val (.int p3), .val (.int p4), .val (.int (3 : Int32))] [(.int p3), (.int (3 : Int32))])) t → Steps p.tables e below (s₁.setTop (entryFrame m #[(.ref a1), (.int (2 : Int32)), (.int p3), (.int p4)] 5)) t := by
        intro t k
        refine P2 _ ?_
        refine XS.icmpYes X0.here hx rfl (pc0 := 14) (pc' := 20) rfl (hb hby d12_14) rfl (XT.ii_ne_t c14) (by decide) (by decide) ?_
        show Steps p.tables e below (s₁.setTop (mkF m 20 #[.val (.ref a1), .val (.int (2 : Int32)), .val (.int p3), .val (.int p4), .val (.int (2 : Int32))] [])) _
        refine XS.iinc X0.here hx rfl (hb hby d12_20) rfl (l' := #[.val (.ref a1), .val (.int (2 : Int32)), .val (.int p3), .val (.int p4), .val (.int (3 : Int32))]) rfl ?_
        show Steps p.tables e below (s₁.setTop (mkF m 23 #[.val (.ref a1), .val (.int (2 : Int32)), .val (.int p3), .val (.int p4), .val (.int (3 : Int32))] [])) _
        refine XS.goto X0.here hx rfl (pc0 := 23) (pc' := 3) rfl (hb hby d12_23) (by decide) (by decide) ?_
        show Steps p.tables e below (s₁.setTop (mkF m 3 #[.val (.ref a1), .val (.int (2 : Int32)), .val (.int p3), .val (.int p4), .val (.int (3 : Int32))] [])) _
        refine XS.iload X0.here hx rfl (hb hby d12_3) rfl ?_
        show Steps p.tables e below (s₁.setTop (mkF m 5 #[.val (.ref a1), .val (.int (2 : Int32)), .val (.int p3), .val (.int p4), .val (.int (3 : Int32))] [(.int (3 : Int32))])) _
        refine XS.iloadN X0.here hx rfl (hb hby d12_5) rfl ?_
        show Steps p.tables e below (s₁.setTop (mkF m 6 #[.val (.ref a1), .val (.int (2 : Int32)), .val (.int p3), .val (.int p4), .val (.int (3 : Int32))] [(.int p3), (.int (3 : Int32))])) _
        exact k
      by_cases c6_2 : (3 : Int32) < p3
      · have P5 : ∀ t, Steps p.tables e below (s₁.setTop (mkF m 14 #[.val (.ref a1), .val (.int (2 : Int32)), .val (.int p3), .val (.int p4), .val (.int (3 : Int32))] [(.int p4), (.int b3)])) t → Steps p.tables e below (s₁.setTop (entryFrame m #[(.ref a1), (.int (2 : Int32)), (.int p3), (.int p4)] 5)) t := by
          intro t k
          refine P4 _ ?_
          refine XS.icmpNo X0.here hx rfl (hb hby d12_6) rfl (XT.ii_ge_f c6_2) ?_
          show Steps p.tables e below (s₁.setTop (mkF m 9 #[.val (.ref a1), .val (.int (2 : Int32)), .val (.int p3), .val (.int p4), .val (.int (3 : Int32))] [])) _
          refine XS.aloadN X0.here hx rfl (hb hby d12_9) rfl rfl ?_
          show Steps p.tables e below (s₁.setTop (mkF m 10 #[.val (.ref a1), .val (.int (2 : Int32)), .val (.int p3), .val (.int p4), .val (.int (3 : Int32))] [(.ref a1)])) _
          refine XS.iload X0.here hx rfl (hb hby d12_10) rfl ?_
          show Steps p.tables e below (s₁.setTop (mkF m 12 #[.val (.ref a1), .val (.int (2 : Int32)), .val (.int p3), .val (.int p4), .val (.int (3 : Int32))] [(.int (3 : Int32)), (.ref a1)])) _
          refine own_bal X0 hx hZ e0 A_a ⟨by decide, by decide⟩ (v := (.int b3)) rfl rfl rfl (hb hby d12_12) ?_
          show Steps p.tables e below (s₁.setTop (mkF m 13 #[.val (.ref a1), .val (.int (2 : Int32)), .val (.int p3), .val (.int p4), .val (.int (3 : Int32))] [(.int b3)])) _
          refine XS.iloadN X0.here hx rfl (hb hby d12_13) rfl ?_
          show Steps p.tables e below (s₁.setTop (mkF m 14 #[.val (.ref a1), .val (.int (2 : Int32)), .val (.int p3), .val (.int p4), .val (.int (3 : Int32))] [(.int p4), (.int b3)])) _
          exact k
        by_cases c14_3 : b3 = p4
        · have P6 : ∀ t, Steps p.tables e below (s₁.setTop (mkF m 19 #[.val (.ref a1), .val (.int (2 : Int32)), .val (.int p3), .val (.int p4), .val (.int (3 : Int32))] [(.int (3 : Int32))])) t → Steps p.tables e below (s₁.setTop (entryFrame m #[(.ref a1), (.int (2 : Int32)), (.int p3), (.int p4)] 5)) t := by
            intro t k
            refine P5 _ ?_
            refine XS.icmpNo X0.here hx rfl (hb hby d12_14) rfl (XT.ii_ne_f c14_3) ?_
            show Steps p.tables e below (s₁.setTop (mkF m 17 #[.val (.ref a1), .val (.int (2 : Int32)), .val (.int p3), .val (.int p4), .val (.int (3 : Int32))] [])) _
            refine XS.iload X0.here hx rfl (hb hby d12_17) rfl ?_
            show Steps p.tables e below (s₁.setTop (mkF m 19 #[.val (.ref a1), .val (.int (2 : Int32)), .val (.int p3), .val (.int p4), .val (.int (3 : Int32))] [(.int (3 : Int32))])) _
            exact k
          obtain ⟨fs, hr, hrun, hended, hW, hsame⟩ := X0.leave (v := some (.int (3 : Int32))) (fun h => by rw [Bd.returns] at h; cases h)
          refine ⟨_, _, P6 _ ?_, hrun, hended, _, _, rfl, ?_, ⟨_, rfl⟩, hW, hsame.mono (by decide) (by decide)⟩
          · exact retI X0 hx Bd.returns (hb hby d12_19) hr
          · show Q12 Z a1 p3 p4 kc b0 b1 b2 b3 h0 n0 _ s₁.heap _
            rw [e0]
            refine ⟨?_, N0, rfl⟩
            refine congrArg (fun z : Int32 => some (Value.int z)) ?_
            exact own_leaf_17 c6 c14 c6_2 c14_3 hto
        · have P7 : ∀ t, Steps p.tables e below (s₁.setTop (mkF m 27 #[.val (.ref a1), .val (.int (2 : Int32)), .val (.int p3), .val (.int p4), .val (.int (4 : Int32))] [(.int (-1 : Int32))])) t → Steps p.tables e below (s₁.setTop (entryFrame m #[(.ref a1), (.int (2 : Int32)), (.int p3), (.int p4)] 5)) t := by
            intro t k
            refine P5 _ ?_
            refine XS.icmpYes X0.here hx rfl (pc0 := 14) (pc' := 20) rfl (hb hby d12_14) rfl (XT.ii_ne_t c14_3) (by decide) (by decide) ?_
            show Steps p.tables e below (s₁.setTop (mkF m 20 #[.val (.ref a1), .val (.int (2 : Int32)), .val (.int p3), .val (.int p4), .val (.int (3 : Int32))] [])) _
            refine XS.iinc X0.here hx rfl (hb hby d12_20) rfl (l' := #[.val (.ref a1), .val (.int (2 : Int32)), .val (.int p3), .val (.int p4), .val (.int (4 : Int32))]) rfl ?_
            show Steps p.tables e below (s₁.setTop (mkF m 23 #[.val (.ref a1), .val (.int (2 : Int32)), .val (.int p3), .val (.int p4), .val (.int (4 : Int32))] [])) _
            refine XS.goto X0.here hx rfl (pc0 := 23) (pc' := 3) rfl (hb hby d12_23) (by decide) (by decide) ?_
            show Steps p.tables e below (s₁.setTop (mkF m 3 #[.val (.ref a1), .val (.int (2 : Int32)), .val (.int p3), .val (.int p4), .val (.int (4 : Int32))] [])) _
            refine XS.iload X0.here hx rfl (hb hby d12_3) rfl ?_
            show Steps p.tables e below (s₁.setTop (mkF m 5 #[.val (.ref a1), .val (.int (2 : Int32)), .val (.int p3), .val (.int p4), .val (.int (4 : Int32))] [(.int (4 : Int32))])) _
            refine XS.iloadN X0.here hx rfl (hb hby d12_5) rfl ?_
            show Steps p.tables e below (s₁.setTop (mkF m 6 #[.val (.ref a1), .val (.int (2 : Int32)), .val (.int p3), .val (.int p4), .val (.int (4 : Int32))] [(.int p3), (.int (4 : Int32))])) _
            refine XS.icmpYes X0.here hx rfl (pc0 := 6) (pc' := 26) rfl (hb hby d12_6) rfl (XT.ii_ge_t hto) (by decide) (by decide) ?_
            show Steps p.tables e below (s₁.setTop (mkF m 26 #[.val (.ref a1), .val (.int (2 : Int32)), .val (.int p3), .val (.int p4), .val (.int (4 : Int32))] [])) _
            refine XS.iconst X0.here hx rfl (hb hby d12_26) ?_
            show Steps p.tables e below (s₁.setTop (mkF m 27 #[.val (.ref a1), .val (.int (2 : Int32)), .val (.int p3), .val (.int p4), .val (.int (4 : Int32))] [(.int (-1 : Int32))])) _
            exact k
          obtain ⟨fs, hr, hrun, hended, hW, hsame⟩ := X0.leave (v := some (.int (-1 : Int32))) (fun h => by rw [Bd.returns] at h; cases h)
          refine ⟨_, _, P7 _ ?_, hrun, hended, _, _, rfl, ?_, ⟨_, rfl⟩, hW, hsame.mono (by decide) (by decide)⟩
          · exact retI X0 hx Bd.returns (hb hby d12_27) hr
          · show Q12 Z a1 p3 p4 kc b0 b1 b2 b3 h0 n0 _ s₁.heap _
            rw [e0]
            refine ⟨?_, N0, rfl⟩
            refine congrArg (fun z : Int32 => some (Value.int z)) ?_
            exact own_leaf_18 c6 c14 c6_2 c14_3 hto
      · have P8 : ∀ t, Steps p.tables e below (s₁.setTop (mkF m 27 #[.val (.ref a1), .val (.int (2 : Int32)), .val (.int p3), .val (.int p4), .val (.int (3 : Int32))] [(.int (-1 : Int32))])) t → Steps p.tables e below (s₁.setTop (entryFrame m #[(.ref a1), (.int (2 : Int32)), (.int p3), (.int p4)] 5)) t := by
          intro t k
          refine P4 _ ?_
          refine XS.icmpYes X0.here hx rfl (pc0 := 6) (pc' := 26) rfl (hb hby d12_6) rfl (XT.ii_ge_t c6_2) (by decide) (by decide) ?_
          show Steps p.tables e below (s₁.setTop (mkF m 26 #[.val (.ref a1), .val (.int (2 : Int32)), .val (.int p3), .val (.int p4), .val (.int (3 : Int32))] [])) _
          refine XS.iconst X0.here hx rfl (hb hby d12_26) ?_
          show Steps p.tables e below (s₁.setTop (mkF m 27 #[.val (.ref a1), .val (.int (2 : Int32)), .val (.int p3), .val (.int p4), .val (.int (3 : Int32))] [(.int (-1 : Int32))])) _
          exact k
        obtain ⟨fs, hr, hrun, hended, hW, hsame⟩ := X0.leave (v := some (.int (-1 : Int32))) (fun h => by rw [Bd.returns] at h; cases h)
        refine ⟨_, _, P8 _ ?_, hrun, hended, _, _, rfl, ?_, ⟨_, rfl⟩, hW, hsame.mono (by decide) (by decide)⟩
        · exact retI X0 hx Bd.returns (hb hby d12_27) hr
        · show Q12 Z a1 p3 p4 kc b0 b1 b2 b3 h0 n0 _ s₁.heap _
          rw [e0]
          refine ⟨?_, N0, rfl⟩
          refine congrArg (fun z : Int32 => some (Value.int z)) ?_
          exact own_leaf_19 c6 c14 c6_2 hto
  · have P9 : ∀ t, Steps p.tables e below (s₁.setTop (mkF m 27 #[.val (.ref a1), .val (.int (2 : Int32)), .val (.int p3), .val (.int p4), .val (.int (2 : Int32))] [(.int (-1 : Int32))])) t → Steps p.tables e below (s₁.setTop (entryFrame m #[(.ref a1), (.int (2 : Int32)), (.int p3), (.int p4)] 5)) t := by
      intro t k
      refine P1 _ ?_
      refine XS.icmpYes X0.here hx rfl (pc0 := 6) (pc' := 26) rfl (hb hby d12_6) rfl (XT.ii_ge_t c6) (by decide) (by decide) ?_
      show Steps p.tables e below (s₁.setTop (mkF m 26 #[.val (.ref a1), .val (.int (2 : Int32)), .val (.int p3), .val (.int p4), .val (.int (2 : Int32))] [])) _
      refine XS.iconst X0.here hx rfl (hb hby d12_26) ?_
      show Steps p.tables e below (s₁.setTop (mkF m 27 #[.val (.ref a1), .val (.int (2 : Int32)), .val (.int p3), .val (.int p4), .val (.int (2 : Int32))] [(.int (-1 : Int32))])) _
      exact k
    obtain ⟨fs, hr, hrun, hended, hW, hsame⟩ := X0.leave (v := some (.int (-1 : Int32))) (fun h => by rw [Bd.returns] at h; cases h)
    refine ⟨_, _, P9 _ ?_, hrun, hended, _, _, rfl, ?_, ⟨_, rfl⟩, hW, hsame.mono (by decide) (by decide)⟩
    · exact retI X0 hx Bd.returns (hb hby d12_27) hr
    · show Q12 Z a1 p3 p4 kc b0 b1 b2 b3 h0 n0 _ s₁.heap _
      rw [e0]
      refine ⟨?_, N0, rfl⟩
      refine congrArg (fun z : Int32 => some (Value.int z)) ?_
      exact own_leaf_20 c6 hto
theorem d13_0 : decode prog_5_method_4_code 0 = .ok (.iload_n 1, 1) := by decide +kernel
theorem d13_1 : decode prog_5_method_4_code 1 = .ok (.istore 4, 2) := by decide +kernel
theorem d13_3 : decode prog_5_method_4_code 3 = .ok (.iload 4, 2) := by decide +kernel
theorem d13_5 : decode prog_5_method_4_code 5 = .ok (.iload_n 2, 1) := by decide +kernel
theorem d13_6 : decode prog_5_method_4_code 6 = .ok (.if_icmp .ge 20, 3) := by decide +kernel
theorem d13_9 : decode prog_5_method_4_code 9 = .ok (.aload_n 0, 1) := by decide +kernel
theorem d13_10 : decode prog_5_method_4_code 10 = .ok (.iload 4, 2) := by decide +kernel
theorem d13_12 : decode prog_5_method_4_code 12 = .ok (.baload, 1) := by decide +kernel
theorem d13_13 : decode prog_5_method_4_code 13 = .ok (.iload_n 3, 1) := by decide +kernel
theorem d13_14 : decode prog_5_method_4_code 14 = .ok (.if_icmp .ne 6, 3) := by decide +kernel
theorem d13_17 : decode prog_5_method_4_code 17 = .ok (.iload 4, 2) := by decide +kernel
theorem d13_19 : decode prog_5_method_4_code 19 = .ok (.ireturn, 1) := by decide +kernel
theorem d13_20 : decode prog_5_method_4_code 20 = .ok (.iinc 4 1, 3) := by decide +kernel
theorem d13_23 : decode prog_5_method_4_code 23 = .ok (.goto (-20), 3) := by decide +kernel
theorem d13_26 : decode prog_5_method_4_code 26 = .ok (.iconst (-1), 1) := by decide +kernel
theorem d13_27 : decode prog_5_method_4_code 27 = .ok (.ireturn, 1) := by decide +kernel
theorem pn_13 : plainName "ledgerline/cli/LineReader" = true := by first | (simp [plainName, overriddenIn]; done) | decide +kernel
theorem ef_13 (m : MethodId) (x0 : Addr) (x1 : Int32) (x2 : Int32) (x3 : Int32) : entryFrame m #[(.ref x0), (.int x1), (.int x2), (.int x3)] 5 = mkF m 0 #[.val (.ref x0), .val (.int x1), .val (.int x2), .val (.int x3), .unset] [] := by first | (simp [entryFrame, mkF, argsToLocals, Value.category]; done) | rfl
def Q13 (Z : State) (a1 : Addr) (p3 : Int32) (p4 : Int32) (kc : ClassId) (b0 : Int32) (b1 : Int32) (b2 : Int32) (b3 : Int32) (h0 : Heap) (n0 : Nat) (v : Option Value) (h : Heap) (L : List Loc) : Prop := v = some (.int (own_ix (3 : Int32) p3 p4 b0 b1 b2 b3)) ∧ Fr n0 L ∧ h = h0
set_option maxRecDepth 65536 in
set_option maxHeartbeats 40000000 in
theorem rm13 (l : Launch) (Z : State) (a0 : Array Value) (hw : ∀ d ∈ tables_1, d.before a0 Z = true) (ws : List Jvm.Cond) (a1 : Addr) (p3 : Int32) (p4 : Int32) (kc : ClassId) (b0 : Int32) (b1 : Int32) (b2 : Int32) (b3 : Int32) (h0 : Heap) (n0 : Nat) (Z0 : n0 ≤ h0.size) (A_a : Arv Z h0 a1 kc .byte (4 : Int32) [(.int b0), (.int b1), (.int b2), (.int b3)] (.int (0 : Int32))) (hto : ¬ (4 : Int32) < p3) :
    MetFree l (⟨"ledgerline/cli/LineReader", "indexOf", "([BIIB)I"⟩ : MethodName) (head1 (Jvm.Cond.code (⟨"ledgerline/cli/LineReader", "indexOf", "([BIIB)I"⟩ : MethodName) prog_5_method_4_code 5 (some .int) :: ws) ({ frames := 0, cells := 0, slots := 0, locals := 0 } : Room)) (fun a U => a = #[(.ref a1), (.int (3 : Int32)), (.int p3), (.int p4)] ∧ Z.Warmed39 U.vm ∧ U.heap = h0) (fun _ _ _ _ _ => True) (fun _ U o U' => ∃ v L, o = .returned v ∧ Q13 Z a1 p3 p4 kc b0 b1 b2 b3 h0 n0 v U'.heap L ∧ FrameEnd U o U' L ({ frames := 0, cells := 0, slots := 0, locals := 0 } : Room).cells ({ frames := 0, cells := 0, slots := 0, locals := 0 } : Room).slots) := by
  refine MetFree.of_bodySF (plainFor_of_name pn_13) hisR ?_
  intro p e s m args below meth c s₁ Bd hml0 hP hK
  obtain ⟨rfl, hZ, hh⟩ := hP
  have hx := Bd.exec
  have hby := Bd.bytes
  have hml : c.maxLocals = 5 := hml0
  have hown : s.vm.findClass "ledgerline/cli/LineReader" = some m.cls := findClass_of_methodNamed Bd.named
  have hnm := (name_of_methodNamed Bd.named Bd.method).1
  have X0 : Stand p l e ({ frames := 0, cells := 0, slots := 0, locals := 0 } : Room) s m #[(.ref a1), (.int (3 : Int32)), (.int p3), (.int p4)] below meth c s₁ [] 0 0 := Stand.of_body Bd
  have e0 : s₁.heap = h0 := by rw [← hh, Bd.state]; rfl
  have N0 := Fr.nil n0
  have K0 : Keep h0 h0 [] := Keep.refl _ _
  have P0 : ∀ t, Steps p.tables e below (s₁.setTop (mkF m 0 #[.val (.ref a1), .val (.int (3 : Int32)), .val (.int p3), .val (.int p4), .unset] [])) t → Steps p.tables e below (s₁.setTop (entryFrame m #[(.ref a1), (.int (3 : Int32)), (.int p3), (.int p4)] 5)) t := fun t k => castTop (ef_13 m a1 (3 : Int32) p3 p4) k
  have P1 : ∀ t, Steps p.tables e below (s₁.setTop (mkF m 6 #[.val (.ref a1), .val (.int (3 : Int32)), .val (.int p3), .val (.int p4), .val (.int (3 : Int32))] [(.int p3), (.int (3 : Int32))])) t → Steps p.tables e below (s₁.setTop (entryFrame m #[(.ref a1), (.int (3 : Int32)), (.int p3), (.int p4)] 5)) t := by
    intro t k
    refine P0 _ ?_
    refine XS.iloadN X0.here hx rfl (hb hby d13_0) rfl ?_
    show Steps p.tables e below (s₁.setTop (mkF m 1 #[.val (.ref a1), .val (.int (3 : Int32)), .val (.int p3), .val (.int p4), .unset] [(.int (3 : Int32))])) _
    refine XS.istore X0.here hx rfl (hb hby d13_1) rfl (l' := #[.val (.ref a1), .val (.int (3 : Int32)), .val (.int p3), .val (.int p4), .val (.int (3 : Int32))]) rfl ?_
    show Steps p.tables e below (s₁.setTop (mkF m 3 #[.val (.ref a1), .val (.int (3 : Int32)), .val (.int p3), .val (.int p4), .val (.int (3 : Int32))] [])) _
    refine XS.iload X0.here hx rfl (hb hby d13_3) rfl ?_
    show Steps p.tables e below (s₁.setTop (mkF m 5 #[.val (.ref a1), .val (.int (3 : Int32)), .val (.int p3), .val (.int p4), .val (.int (3 : Int32))] [(.int (3 : Int32))])) _
    refine XS.iloadN X0.here hx rfl (hb hby d13_5) rfl ?_
    show Steps p.tables e below (s₁.setTop (mkF m 6 #[.val (.ref a1), .val (.int (3 : Int32)), .val (.int p3), .val (.int p4), .val (.int (3 : Int32))] [(.int p3), (.int (3 : Int32))])) _
    exact k
  by_cases c6 : (3 : Int32) < p3
  · have P2 : ∀ t, Steps p.tables e below (s₁.setTop (mkF m 14 #[.val (.ref a1), .val (.int (3 : Int32)), .val (.int p3), .val (.int p4), .val (.int (3 : Int32))] [(.int p4), (.int b3)])) t → Steps p.tables e below (s₁.setTop (entryFrame m #[(.ref a1), (.int (3 : Int32)), (.int p3), (.int p4)] 5)) t := by
      intro t k
      refine P1 _ ?_
      refine XS.icmpNo X0.here hx rfl (hb hby d13_6) rfl (XT.ii_ge_f c6) ?_
      show Steps p.tables e below (s₁.setTop (mkF m 9 #[.val (.ref a1), .val (.int (3 : Int32)), .val (.int p3), .val (.int p4), .val (.int (3 : Int32))] [])) _
      refine XS.aloadN X0.here hx rfl (hb hby d13_9) rfl rfl ?_
      show Steps p.tables e below (s₁.setTop (mkF m 10 #[.val (.ref a1), .val (.int (3 : Int32)), .val (.int p3), .val (.int p4), .val (.int (3 : Int32))] [(.ref a1)])) _
      refine XS.iload X0.here hx rfl (hb hby d13_10) rfl ?_
      show Steps p.tables e below (s₁.setTop (mkF m 12 #[.val (.ref a1), .val (.int (3 : Int32)), .val (.int p3), .val (.int p4), .val (.int (3 : Int32))] [(.int (3 : Int32)), (.ref a1)])) _
      refine own_bal X0 hx hZ e0 A_a ⟨by decide, by decide⟩ (v := (.int b3)) rfl rfl rfl (hb hby d13_12) ?_
      show Steps p.tables e below (s₁.setTop (mkF m 13 #[.val (.ref a1), .val (.int (3 : Int32)), .val (.int p3), .val (.int p4), .val (.int (3 : Int32))] [(.int b3)])) _
      refine XS.iloadN X0.here hx rfl (hb hby d13_13) rfl ?_
      show Steps p.tables e below (s₁.setTop (mkF m 14 #[.val (.ref a1), .val (.int (3 : Int32)), .val (.int p3), .val (.int p4), .val (.int (3 : Int32))] [(.int p4), (.int b3)])) _
      exact k
    by_cases c14 : b3 = p4
    · have P3 : ∀ t, Steps p.tables e below (s₁.setTop (mkF m 19 #[.val (.ref a1), .val (.int (3 : Int32)), .val (.int p3), .val (.int p4), .val (.int (3 : Int32))] [(.int (3 : Int32))])) t → Steps p.tables e below (s₁.setTop (entryFrame m #[(.ref a1), (.int (3 : Int32)), (.int p3), (.int p4)] 5)) t := by
        intro t k
        refine P2 _ ?_
        refine XS.icmpNo X0.here hx rfl (hb hby d13_14) rfl (XT.ii_ne_f c14) ?_
        show Steps p.tables e below (s₁.setTop (mkF m 17 #[.val (.ref a1), .val (.int (3 : Int32)), .val (.int p3), .val (.int p4), .val (.int (3 : Int32))] [])) _
        refine XS.iload X0.here hx rfl (hb hby d13_17) rfl ?_
        show Steps p.tables e below (s₁.setTop (mkF m 19 #[.val (.ref a1), .val (.int (3 : Int32)), .val (.int p3), .val (.int p4), .val (.int (3 : Int32))] [(.int (3 : Int32))])) _
        exact k
      obtain ⟨fs, hr, hrun, hended, hW, hsame⟩ := X0.leave (v := some (.int (3 : Int32))) (fun h => by rw [Bd.returns] at h; cases h)
      refine ⟨_, _, P3 _ ?_, hrun, hended, _, _, rfl, ?_, ⟨_, rfl⟩, hW, hsame.mono (by decide) (by decide)⟩
      · exact retI X0 hx Bd.returns (hb hby d13_19) hr
      · show Q13 Z a1 p3 p4 kc b0 b1 b2 b3 h0 n0 _ s₁.heap _
        rw [e0]
        refine ⟨?_, N0, rfl⟩
        refine congrArg (fun z : Int32 => some (Value.int z)) ?_
        exact own_leaf_21 c6 c14 hto
    · have P4 : ∀ t, Steps p.tables e below (s₁.setTop (mkF m 27 #[.val (.ref a1), .val (.int (3 : Int32)), .val (.int p3), .val (.int p4), .val (.int (4 : Int32))] [(.int (-1 : Int32))])) t → Steps p.tables e below (s₁.setTop (entryFrame m #[(.ref a1), (.int (3 : Int32)), (.int p3), (.int p4)] 5)) t := by
        intro t k
        refine P2 _ ?_
        refine XS.icmpYes X0.here hx rfl (pc0 := 14) (pc' := 20) rfl (hb hby d13_14) rfl (XT.ii_ne_t c14) (by decide) (by decide) ?_
        show Steps p.tables e below (s₁.setTop (mkF m 20 #[.val (.ref a1), .val (.int (3 : Int32)), .val (.int p3), .val (.int p4), .val (.int (3 : Int32))] [])) _
        refine XS.iinc X0.here hx rfl (hb hby d13_20) rfl (l' := #[.val (.ref a1), .val (.int (3 : Int32)), .val (.int p3), .val (.int p4), .val (.int (4 : Int32))]) rfl ?_
        show Steps p.tables e below (s₁.setTop (mkF m 23 #[.val (.ref a1), .val (.int (3 : Int32)), .val (.int p3), .val (.int p4), .val (.int (4 : Int32))] [])) _
        refine XS.goto X0.here hx rfl (pc0 := 23) (pc' := 3) rfl (hb hby d13_23) (by decide) (by decide) ?_
        show Steps p.tables e below (s₁.setTop (mkF m 3 #[.val (.ref a1), .val (.int (3 : Int32)), .val (.int p3), .val (.int p4), .val (.int (4 : Int32))] [])) _
        refine XS.iload X0.here hx rfl (hb hby d13_3) rfl ?_
        show Steps p.tables e below (s₁.setTop (mkF m 5 #[.val (.ref a1), .val (.int (3 : Int32)), .val (.int p3), .val (.int p4), .val (.int (4 : Int32))] [(.int (4 : Int32))])) _
        refine XS.iloadN X0.here hx rfl (hb hby d13_5) rfl ?_
        show Steps p.tables e below (s₁.setTop (mkF m 6 #[.val (.ref a1), .val (.int (3 : Int32)), .val (.int p3), .val (.int p4), .val (.int (4 : Int32))] [(.int p3), (.int (4 : Int32))])) _
        refine XS.icmpYes X0.here hx rfl (pc0 := 6) (pc' := 26) rfl (hb hby d13_6) rfl (XT.ii_ge_t hto) (by decide) (by decide) ?_
        show Steps p.tables e below (s₁.setTop (mkF m 26 #[.val (.ref a1), .val (.int (3 : Int32)), .val (.int p3), .val (.int p4), .val (.int (4 : Int32))] [])) _
        refine XS.iconst X0.here hx rfl (hb hby d13_26) ?_
        show Steps p.tables e below (s₁.setTop (mkF m 27 #[.val (.ref a1), .val (.int (3 : Int32)), .val (.int p3), .val (.int p4), .val (.int (4 : Int32))] [(.int (-1 : Int32))])) _
        exact k
      obtain ⟨fs, hr, hrun, hended, hW, hsame⟩ := X0.leave (v := some (.int (-1 : Int32))) (fun h => by rw [Bd.returns] at h; cases h)
      refine ⟨_, _, P4 _ ?_, hrun, hended, _, _, rfl, ?_, ⟨_, rfl⟩, hW, hsame.mono (by decide) (by decide)⟩
      · exact retI X0 hx Bd.returns (hb hby d13_27) hr
      · show Q13 Z a1 p3 p4 kc b0 b1 b2 b3 h0 n0 _ s₁.heap _
        rw [e0]
        refine ⟨?_, N0, rfl⟩
        refine congrArg (fun z : Int32 => some (Value.int z)) ?_
        exact own_leaf_22 c6 c14 hto
  · have P5 : ∀ t, Steps p.tables e below (s₁.setTop (mkF m 27 #[.val (.ref a1), .val (.int (3 : Int32)), .val (.int p3), .val (.int p4), .val (.int (3 : Int32))] [(.int (-1 : Int32))])) t → Steps p.tables e below (s₁.setTop (entryFrame m #[(.ref a1), (.int (3 : Int32)), (.int p3), (.int p4)] 5)) t := by
      intro t k
      refine P1 _ ?_
      refine XS.icmpYes X0.here hx rfl (pc0 := 6) (pc' := 26) rfl (hb hby d13_6) rfl (XT.ii_ge_t c6) (by decide) (by decide) ?_
      show Steps p.tables e below (s₁.setTop (mkF m 26 #[.val (.ref a1), .val (.int (3 : Int32)), .val (.int p3), .val (.int p4), .val (.int (3 : Int32))] [])) _
      refine XS.iconst X0.here hx rfl (hb hby d13_26) ?_
      show Steps p.tables e below (s₁.setTop (mkF m 27 #[.val (.ref a1), .val (.int (3 : Int32)), .val (.int p3), .val (.int p4), .val (.int (3 : Int32))] [(.int (-1 : Int32))])) _
      exact k
    obtain ⟨fs, hr, hrun, hended, hW, hsame⟩ := X0.leave (v := some (.int (-1 : Int32))) (fun h => by rw [Bd.returns] at h; cases h)
    refine ⟨_, _, P5 _ ?_, hrun, hended, _, _, rfl, ?_, ⟨_, rfl⟩, hW, hsame.mono (by decide) (by decide)⟩
    · exact retI X0 hx Bd.returns (hb hby d13_27) hr
    · show Q13 Z a1 p3 p4 kc b0 b1 b2 b3 h0 n0 _ s₁.heap _
      rw [e0]
      refine ⟨?_, N0, rfl⟩
      refine congrArg (fun z : Int32 => some (Value.int z)) ?_
      exact own_leaf_23 c6 hto
theorem d14_0 : decode prog_5_method_4_code 0 = .ok (.iload_n 1, 1) := by decide +kernel
theorem d14_1 : decode prog_5_method_4_code 1 = .ok (.istore 4, 2) := by decide +kernel
theorem d14_3 : decode prog_5_method_4_code 3 = .ok (.iload 4, 2) := by decide +kernel
theorem d14_5 : decode prog_5_method_4_code 5 = .ok (.iload_n 2, 1) := by decide +kernel
theorem d14_6 : decode prog_5_method_4_code 6 = .ok (.if_icmp .ge 20, 3) := by decide +kernel
theorem d14_26 : decode prog_5_method_4_code 26 = .ok (.iconst (-1), 1) := by decide +kernel
theorem d14_27 : decode prog_5_method_4_code 27 = .ok (.ireturn, 1) := by decide +kernel
theorem pn_14 : plainName "ledgerline/cli/LineReader" = true := by first | (simp [plainName, overriddenIn]; done) | decide +kernel
theorem ef_14 (m : MethodId) (x0 : Addr) (x1 : Int32) (x2 : Int32) (x3 : Int32) : entryFrame m #[(.ref x0), (.int x1), (.int x2), (.int x3)] 5 = mkF m 0 #[.val (.ref x0), .val (.int x1), .val (.int x2), .val (.int x3), .unset] [] := by first | (simp [entryFrame, mkF, argsToLocals, Value.category]; done) | rfl
def Q14 (Z : State) (a1 : Addr) (p3 : Int32) (p4 : Int32) (kc : ClassId) (b0 : Int32) (b1 : Int32) (b2 : Int32) (b3 : Int32) (h0 : Heap) (n0 : Nat) (v : Option Value) (h : Heap) (L : List Loc) : Prop := v = some (.int (own_ix (4 : Int32) p3 p4 b0 b1 b2 b3)) ∧ Fr n0 L ∧ h = h0
set_option maxRecDepth 65536 in
set_option maxHeartbeats 40000000 in
theorem rm14 (l : Launch) (Z : State) (a0 : Array Value) (hw : ∀ d ∈ tables_1, d.before a0 Z = true) (ws : List Jvm.Cond) (a1 : Addr) (p3 : Int32) (p4 : Int32) (kc : ClassId) (b0 : Int32) (b1 : Int32) (b2 : Int32) (b3 : Int32) (h0 : Heap) (n0 : Nat) (Z0 : n0 ≤ h0.size) (A_a : Arv Z h0 a1 kc .byte (4 : Int32) [(.int b0), (.int b1), (.int b2), (.int b3)] (.int (0 : Int32))) (hto : ¬ (4 : Int32) < p3) :
    MetFree l (⟨"ledgerline/cli/LineReader", "indexOf", "([BIIB)I"⟩ : MethodName) (head1 (Jvm.Cond.code (⟨"ledgerline/cli/LineReader", "indexOf", "([BIIB)I"⟩ : MethodName) prog_5_method_4_code 5 (some .int) :: ws) ({ frames := 0, cells := 0, slots := 0, locals := 0 } : Room)) (fun a U => a = #[(.ref a1), (.int (4 : Int32)), (.int p3), (.int p4)] ∧ Z.Warmed39 U.vm ∧ U.heap = h0) (fun _ _ _ _ _ => True) (fun _ U o U' => ∃ v L, o = .returned v ∧ Q14 Z a1 p3 p4 kc b0 b1 b2 b3 h0 n0 v U'.heap L ∧ FrameEnd U o U' L ({ frames := 0, cells := 0, slots := 0, locals := 0 } : Room).cells ({ frames := 0, cells := 0, slots := 0, locals := 0 } : Room).slots) := by
  refine MetFree.of_bodySF (plainFor_of_name pn_14) hisR ?_
  intro p e s m args below meth c s₁ Bd hml0 hP hK
  obtain ⟨rfl, hZ, hh⟩ := hP
  have hx := Bd.exec
  have hby := Bd.bytes
  have hml : c.maxLocals = 5 := hml0
  have hown : s.vm.findClass "ledgerline/cli/LineReader" = some m.cls := findClass_of_methodNamed Bd.named
  have hnm := (name_of_methodNamed Bd.named Bd.method).1
  have X0 : Stand p l e ({ frames := 0, cells := 0, slots := 0, locals := 0 } : Room) s m #[(.ref a1), (.int (4 : Int32)), (.int p3), (.int p4)] below meth c s₁ [] 0 0 := Stand.of_body Bd
  have e0 : s₁.heap = h0 := by rw [← hh, Bd.state]; rfl
  have N0 := Fr.nil n0
  have K0 : Keep h0 h0 [] := Keep.refl _ _
  have P0 : ∀ t, Steps p.tables e below (s₁.setTop (mkF m 0 #[.val (.ref a1), .val (.int (4 : Int32)), .val (.int p3), .val (.int p4), .unset] [])) t → Steps p.tables e below (s₁.setTop (entryFrame m #[(.ref a1), (.int (4 : Int32)), (.int p3), (.int p4)] 5)) t := fun t k => castTop (ef_14 m a1 (4 : Int32) p3 p4) k
  have P1 : ∀ t, Steps p.tables e below (s₁.setTop (mkF m 27 #[.val (.ref a1), .val (.int (4 : Int32)), .val (.int p3), .val (.int p4), .val (.int (4 : Int32))] [(.int (-1 : Int32))])) t → Steps p.tables e below (s₁.setTop (entryFrame m #[(.ref a1), (.int (4 : Int32)), (.int p3), (.int p4)] 5)) t := by
    intro t k
    refine P0 _ ?_
    refine XS.iloadN X0.here hx rfl (hb hby d14_0) rfl ?_
    show Steps p.tables e below (s₁.setTop (mkF m 1 #[.val (.ref a1), .val (.int (4 : Int32)), .val (.int p3), .val (.int p4), .unset] [(.int (4 : Int32))])) _
    refine XS.istore X0.here hx rfl (hb hby d14_1) rfl (l' := #[.val (.ref a1), .val (.int (4 : Int32)), .val (.int p3), .val (.int p4), .val (.int (4 : Int32))]) rfl ?_
    show Steps p.tables e below (s₁.setTop (mkF m 3 #[.val (.ref a1), .val (.int (4 : Int32)), .val (.int p3), .val (.int p4), .val (.int (4 : Int32))] [])) _
    refine XS.iload X0.here hx rfl (hb hby d14_3) rfl ?_
    show Steps p.tables e below (s₁.setTop (mkF m 5 #[.val (.ref a1), .val (.int (4 : Int32)), .val (.int p3), .val (.int p4), .val (.int (4 : Int32))] [(.int (4 : Int32))])) _
    refine XS.iloadN X0.here hx rfl (hb hby d14_5) rfl ?_
    show Steps p.tables e below (s₁.setTop (mkF m 6 #[.val (.ref a1), .val (.int (4 : Int32)), .val (.int p3), .val (.int p4), .val (.int (4 : Int32))] [(.int p3), (.int (4 : Int32))])) _
    refine XS.icmpYes X0.here hx rfl (pc0 := 6) (pc' := 26) rfl (hb hby d14_6) rfl (XT.ii_ge_t hto) (by decide) (by decide) ?_
    show Steps p.tables e below (s₁.setTop (mkF m 26 #[.val (.ref a1), .val (.int (4 : Int32)), .val (.int p3), .val (.int p4), .val (.int (4 : Int32))] [])) _
    refine XS.iconst X0.here hx rfl (hb hby d14_26) ?_
    show Steps p.tables e below (s₁.setTop (mkF m 27 #[.val (.ref a1), .val (.int (4 : Int32)), .val (.int p3), .val (.int p4), .val (.int (4 : Int32))] [(.int (-1 : Int32))])) _
    exact k
  obtain ⟨fs, hr, hrun, hended, hW, hsame⟩ := X0.leave (v := some (.int (-1 : Int32))) (fun h => by rw [Bd.returns] at h; cases h)
  refine ⟨_, _, P1 _ ?_, hrun, hended, _, _, rfl, ?_, ⟨_, rfl⟩, hW, hsame.mono (by decide) (by decide)⟩
  · exact retI X0 hx Bd.returns (hb hby d14_27) hr
  · show Q14 Z a1 p3 p4 kc b0 b1 b2 b3 h0 n0 _ s₁.heap _
    rw [e0]
    refine ⟨?_, N0, rfl⟩
    refine congrArg (fun z : Int32 => some (Value.int z)) ?_
    exact own_leaf_24 hto
def Q3 (Z : State) (a1 : Addr) (p2 p3 p4 : Int32) (kc : ClassId) (b0 b1 b2 b3 : Int32) (h0 : Heap) (n0 : Nat) (v : Option Value) (h : Heap) (L : List Loc) : Prop := v = some (.int (own_ix p2 p3 p4 b0 b1 b2 b3)) ∧ Fr n0 L ∧ h = h0
theorem rm3 (l : Launch) (Z : State) (a0 : Array Value) (hw : ∀ d ∈ tables_1, d.before a0 Z = true) (ws : List Jvm.Cond) (a1 : Addr) (p2 p3 p4 : Int32) (kc : ClassId) (b0 b1 b2 b3 : Int32) (h0 : Heap) (n0 : Nat) (Z0 : n0 ≤ h0.size) (A_a : Arv Z h0 a1 kc .byte (4 : Int32) [(.int b0), (.int b1), (.int b2), (.int b3)] (.int (0 : Int32))) (hto : ¬ (4 : Int32) < p3) (hf : 0 ≤ p2.toInt ∧ p2.toInt < 5) :
    MetFree l (⟨"ledgerline/cli/LineReader", "indexOf", "([BIIB)I"⟩ : MethodName) (head1 (Jvm.Cond.code (⟨"ledgerline/cli/LineReader", "indexOf", "([BIIB)I"⟩ : MethodName) prog_5_method_4_code 5 (some .int) :: ws) ({ frames := 0, cells := 0, slots := 0, locals := 0 } : Room)) (fun a U => a = #[(.ref a1), (.int p2), (.int p3), (.int p4)] ∧ Z.Warmed39 U.vm ∧ U.heap = h0) (fun _ _ _ _ _ => True) (fun _ U o U' => ∃ v L, o = .returned v ∧ Q3 Z a1 p2 p3 p4 kc b0 b1 b2 b3 h0 n0 v U'.heap L ∧ FrameEnd U o U' L ({ frames := 0, cells := 0, slots := 0, locals := 0 } : Room).cells ({ frames := 0, cells := 0, slots := 0, locals := 0 } : Room).slots) := by
  rcases own_5 hf with rfl | rfl | rfl | rfl | rfl
  · exact rm10 l Z a0 hw ws a1 p3 p4 kc b0 b1 b2 b3 h0 n0 Z0 A_a hto
  · exact rm11 l Z a0 hw ws a1 p3 p4 kc b0 b1 b2 b3 h0 n0 Z0 A_a hto
  · exact rm12 l Z a0 hw ws a1 p3 p4 kc b0 b1 b2 b3 h0 n0 Z0 A_a hto
  · exact rm13 l Z a0 hw ws a1 p3 p4 kc b0 b1 b2 b3 h0 n0 Z0 A_a hto
  · exact rm14 l Z a0 hw ws a1 p3 p4 kc b0 b1 b2 b3 h0 n0 Z0 A_a hto
theorem pn_0 : plainName "ledgerline/cli/LineReaderIndexOfPinLaw" = true := by first | (simp [plainName, overriddenIn]; done) | decide +kernel
theorem ef_0 (m : MethodId) (x0 : Int32) (x1 : Int32) (x2 : Int32) (x3 : Int32) (x4 : Int32) : entryFrame m #[(.int x0), (.int x1), (.int x2), (.int x3), (.int x4)] maxLocals = mkF m 0 #[.val (.int x0), .val (.int x1), .val (.int x2), .val (.int x3), .val (.int x4), .unset, .unset, .unset, .unset, .unset] [] := by first | (simp [entryFrame, mkF, argsToLocals, Value.category, maxLocals]; done) | rfl
def Q0 (Z : State) (p1 : Int32) (p2 : Int32) (p3 : Int32) (p4 : Int32) (p5 : Int32) (h0 : Heap) (n0 : Nat) (v : Option Value) (h : Heap) (L : List Loc) : Prop := v = some (.int 1) ∧ Fr n0 L
set_option maxRecDepth 65536 in
set_option maxHeartbeats 40000000 in
theorem rm0 (l : Launch) (Z : State) (a0 : Array Value) (hw : ∀ d ∈ tables_1, d.before a0 Z = true) (ws : List Jvm.Cond) (p1 : Int32) (p2 : Int32) (p3 : Int32) (p4 : Int32) (p5 : Int32) (h0 : Heap) (n0 : Nat) (Z0 : n0 ≤ h0.size) :
    MetFree l x (head1 (Jvm.Cond.code x code maxLocals ret :: ws) room_1) (fun a U => a = #[(.int p1), (.int p2), (.int p3), (.int p4), (.int p5)] ∧ Z.Warmed39 U.vm ∧ U.heap = h0) (fun _ _ _ _ _ => True) (fun _ U o U' => ∃ v L, o = .returned v ∧ Q0 Z p1 p2 p3 p4 p5 h0 n0 v U'.heap L ∧ FrameEnd U o U' L room_1.cells room_1.slots) := by
  refine MetFree.of_bodySF (plainFor_of_name pn_0) hisR ?_
  intro p e s m args below meth c s₁ Bd hml0 hP hK
  obtain ⟨rfl, hZ, hh⟩ := hP
  have hx := Bd.exec
  have hby := Bd.bytes
  have hml : c.maxLocals = 10 := hml0
  have hown : s.vm.findClass "ledgerline/cli/LineReaderIndexOfPinLaw" = some m.cls := findClass_of_methodNamed Bd.named
  have hnm := (name_of_methodNamed Bd.named Bd.method).1
  have X0 : Stand p l e room_1 s m #[(.int p1), (.int p2), (.int p3), (.int p4), (.int p5)] below meth c s₁ [] 0 0 := Stand.of_body Bd
  have e0 : s₁.heap = h0 := by rw [← hh, Bd.state]; rfl
  have N0 := Fr.nil n0
  have K0 : Keep h0 h0 [] := Keep.refl _ _
  have P0 : ∀ t, Steps p.tables e below (s₁.setTop (mkF m 0 #[.val (.int p1), .val (.int p2), .val (.int p3), .val (.int p4), .val (.int p5), .unset, .unset, .unset, .unset, .unset] [])) t → Steps p.tables e below (s₁.setTop (entryFrame m #[(.int p1), (.int p2), (.int p3), (.int p4), (.int p5)] maxLocals)) t := fun t k => castTop (ef_0 m p1 p2 p3 p4 p5) k
  have P1 : ∀ t, Steps p.tables e below (s₁.setTop (mkF m 4 #[.val (.int p1), .val (.int p2), .val (.int p3), .val (.int p4), .val (.int p5), .val (.int (p3.toInt8.toInt32)), .unset, .unset, .unset, .unset] [])) t → Steps p.tables e below (s₁.setTop (entryFrame m #[(.int p1), (.int p2), (.int p3), (.int p4), (.int p5)] maxLocals)) t := by
    intro t k
    refine P0 _ ?_
    refine XS.iloadN X0.here hx rfl (hb hby at_0) rfl ?_
    show Steps p.tables e below (s₁.setTop (mkF m 1 #[.val (.int p1), .val (.int p2), .val (.int p3), .val (.int p4), .val (.int p5), .unset, .unset, .unset, .unset, .unset] [(.int p3)])) _
    refine XT.i2b X0.here hx rfl (hb hby at_1) rfl ?_
    show Steps p.tables e below (s₁.setTop (mkF m 2 #[.val (.int p1), .val (.int p2), .val (.int p3), .val (.int p4), .val (.int p5), .unset, .unset, .unset, .unset, .unset] [(.int (p3.toInt8.toInt32))])) _
    refine XS.istore X0.here hx rfl (hb hby at_2) rfl (l' := #[.val (.int p1), .val (.int p2), .val (.int p3), .val (.int p4), .val (.int p5), .val (.int (p3.toInt8.toInt32)), .unset, .unset, .unset, .unset]) rfl ?_
    show Steps p.tables e below (s₁.setTop (mkF m 4 #[.val (.int p1), .val (.int p2), .val (.int p3), .val (.int p4), .val (.int p5), .val (.int (p3.toInt8.toInt32)), .unset, .unset, .unset, .unset] [])) _
    exact k
  obtain ⟨wt, hwt⟩ : ∃ z : Int32, z = (p3.toInt8.toInt32) := ⟨_, rfl⟩
  rw [← hwt] at P1
  have P2 : ∀ t, Steps p.tables e below (s₁.setTop (mkF m 5 #[.val (.int p1), .val (.int p2), .val (.int p3), .val (.int p4), .val (.int p5), .val (.int wt), .unset, .unset, .unset, .unset] [(.int (4 : Int32))])) t → Steps p.tables e below (s₁.setTop (entryFrame m #[(.int p1), (.int p2), (.int p3), (.int p4), (.int p5)] maxLocals)) t := by
    intro t k
    refine P1 _ ?_
    refine XS.iconst X0.here hx rfl (hb hby at_4) ?_
    show Steps p.tables e below (s₁.setTop (mkF m 5 #[.val (.int p1), .val (.int p2), .val (.int p3), .val (.int p4), .val (.int p5), .val (.int wt), .unset, .unset, .unset, .unset] [(.int (4 : Int32))])) _
    exact k
  obtain ⟨T3, h3, k3, X3, e3, E3, A3, st3⟩ := newP X0 hx hZ (hw _ (List.mem_of_getElem? (i := 0) rfl)) e0 (g := (mkF m 5 #[.val (.int p1), .val (.int p2), .val (.int p3), .val (.int p4), .val (.int p5), .val (.int wt), .unset, .unset, .unset, .unset] [(.int (4 : Int32))])) rfl (hb hby at_5) rfl (by decide) (cap := 4) (by decide) (by decide) (by decide) (by decide)
  obtain ⟨ba, g3⟩ : ∃ z, z = h0.size := ⟨_, rfl⟩
  rw [← g3] at A3 st3
  obtain ⟨kc_ba, hkc_ba⟩ : ∃ z, z = k3 := ⟨_, rfl⟩
  rw [← hkc_ba] at A3
  have F4 : Arv Z h3 ba kc_ba .byte (4 : Int32) [(.int (0 : Int32)), (.int (0 : Int32)), (.int (0 : Int32)), (.int (0 : Int32))] (.int (0 : Int32)) := (Arv.new A3 (by decide)).pad (pad_rep [] (.int (0 : Int32)) 4)
  have Z5 : n0 ≤ h3.size := Nat.le_trans Z0 E3.1
  have K6 : Keep h0 h3 [] := K0.ext E3
  have g_ba : n0 ≤ ba := Nat.le_trans Z0 (Nat.le_of_eq g3.symm)
  have sz_ba : h0.size ≤ ba := Nat.le_trans K0.1 (Nat.le_of_eq g3.symm)
  have P7 : ∀ t, Steps p.tables e below (T3.setTop (mkF m 7 #[.val (.int p1), .val (.int p2), .val (.int p3), .val (.int p4), .val (.int p5), .val (.int wt), .unset, .unset, .unset, .unset] [(.ref ba)])) t → Steps p.tables e below (s₁.setTop (entryFrame m #[(.int p1), (.int p2), (.int p3), (.int p4), (.int p5)] maxLocals)) t := fun t k => P2 _ (st3 _ k)
  have P8 : ∀ t, Steps p.tables e below (T3.setTop (mkF m 16 #[.val (.int p1), .val (.int p2), .val (.int p3), .val (.int p4), .val (.int p5), .val (.int wt), .val (.ref ba), .unset, .unset, .unset] [(.int p3), (.int p1), (.int p2), (.int (0 : Int32)), (.int (0 : Int32)), (.ref ba)])) t → Steps p.tables e below (s₁.setTop (entryFrame m #[(.int p1), (.int p2), (.int p3), (.int p4), (.int p5)] maxLocals)) t := by
    intro t k
    refine P7 _ ?_
    refine XS.astore X3.here hx rfl (hb hby at_7) rfl rfl (l' := #[.val (.int p1), .val (.int p2), .val (.int p3), .val (.int p4), .val (.int p5), .val (.int wt), .val (.ref ba), .unset, .unset, .unset]) rfl ?_
    show Steps p.tables e below (T3.setTop (mkF m 9 #[.val (.int p1), .val (.int p2), .val (.int p3), .val (.int p4), .val (.int p5), .val (.int wt), .val (.ref ba), .unset, .unset, .unset] [])) _
    refine XS.aload X3.here hx rfl (hb hby at_9) rfl rfl ?_
    show Steps p.tables e below (T3.setTop (mkF m 11 #[.val (.int p1), .val (.int p2), .val (.int p3), .val (.int p4), .val (.int p5), .val (.int wt), .val (.ref ba), .unset, .unset, .unset] [(.ref ba)])) _
    refine XS.iconst X3.here hx rfl (hb hby at_11) ?_
    show Steps p.tables e below (T3.setTop (mkF m 12 #[.val (.int p1), .val (.int p2), .val (.int p3), .val (.int p4), .val (.int p5), .val (.int wt), .val (.ref ba), .unset, .unset, .unset] [(.int (0 : Int32)), (.ref ba)])) _
    refine XS.iconst X3.here hx rfl (hb hby at_12) ?_
    show Steps p.tables e below (T3.setTop (mkF m 13 #[.val (.int p1), .val (.int p2), .val (.int p3), .val (.int p4), .val (.int p5), .val (.int wt), .val (.ref ba), .unset, .unset, .unset] [(.int (0 : Int32)), (.int (0 : Int32)), (.ref ba)])) _
    refine XS.iloadN X3.here hx rfl (hb hby at_13) rfl ?_
    show Steps p.tables e below (T3.setTop (mkF m 14 #[.val (.int p1), .val (.int p2), .val (.int p3), .val (.int p4), .val (.int p5), .val (.int wt), .val (.ref ba), .unset, .unset, .unset] [(.int p2), (.int (0 : Int32)), (.int (0 : Int32)), (.ref ba)])) _
    refine XS.iloadN X3.here hx rfl (hb hby at_14) rfl ?_
    show Steps p.tables e below (T3.setTop (mkF m 15 #[.val (.int p1), .val (.int p2), .val (.int p3), .val (.int p4), .val (.int p5), .val (.int wt), .val (.ref ba), .unset, .unset, .unset] [(.int p1), (.int p2), (.int (0 : Int32)), (.int (0 : Int32)), (.ref ba)])) _
    refine XS.iloadN X3.here hx rfl (hb hby at_15) rfl ?_
    show Steps p.tables e below (T3.setTop (mkF m 16 #[.val (.int p1), .val (.int p2), .val (.int p3), .val (.int p4), .val (.int p5), .val (.int wt), .val (.ref ba), .unset, .unset, .unset] [(.int p3), (.int p1), (.int p2), (.int (0 : Int32)), (.int (0 : Int32)), (.ref ba)])) _
    exact k
  obtain ⟨_, _, ⟨T9, L9, k9, n9⟩, -, X9, ⟨Lc9, hQ9, l9, y9, z9⟩, st9⟩ := Jvm.LawKit.callS X3 hx (y := (⟨"ledgerline/cli/LineReaderIndexOfPinLaw", "cell", "(IIII)B"⟩ : MethodName)) hown (mvT hZ (hw _ (List.mem_of_getElem? (i := 1) rfl))) (mvT hZ (hw _ (List.mem_of_getElem? (i := 2) rfl))) (mvT hZ (hw _ (List.mem_of_getElem? (i := 3) rfl))) (mvT hZ (hw _ (List.mem_of_getElem? (i := 4) rfl))) (by decide) (backOf (W := 2) (rm1 l Z a0 hw [] (0 : Int32) p2 p1 p3  h3 n0 Z5 ) hZ (hw _ (List.mem_of_getElem? (i := 4) rfl)) (hw _ (List.mem_of_getElem? (i := 3) rfl)) (by decide) (by decide)) (g := (mkF m 16 #[.val (.int p1), .val (.int p2), .val (.int p3), .val (.int p4), .val (.int p5), .val (.int wt), .val (.ref ba), .unset, .unset, .unset] [(.int p3), (.int p1), (.int p2), (.int (0 : Int32)), (.int (0 : Int32)), (.ref ba)])) rfl (by rw [hml]; rfl) (argsL := [(.int (0 : Int32)), (.int p2), (.int p1), (.int p3)]) (rest := [(.int (0 : Int32)), (.ref ba)]) (lenOf pd_0 rfl) rfl (by show 2 * 0 + _ ≤ _; exact Nat.le_of_eq rfl) (hb hby at_16) (fun _ _ => ⟨rfl, e3, (by decide : 1 + 0 ≤ _), (by decide : 4 + 0 ≤ _)⟩)
  dsimp only [Pt.U, Pt.locs, Pt.cells, Pt.slots] at X9 l9 y9 z9 st9 hQ9
  subst l9 y9 z9
  obtain ⟨z9v, rfl, N9q, e9⟩ := hQ9
  have N9 := Fr.app N0 N9q
  have P10 : ∀ t, Steps p.tables e below (T9.setTop (mkF m 19 #[.val (.int p1), .val (.int p2), .val (.int p3), .val (.int p4), .val (.int p5), .val (.int wt), .val (.ref ba), .unset, .unset, .unset] [(.int z9v), (.int (0 : Int32)), (.ref ba)])) t → Steps p.tables e below (s₁.setTop (entryFrame m #[(.int p1), (.int p2), (.int p3), (.int p4), (.int p5)] maxLocals)) t := fun t k => P8 _ (st9 _ k)
  obtain ⟨cl11, Ar11, q11, S11, M11, H11, G11⟩ := F4
  have in11 : ¬ ((0 : Int32) < 0 ∨ cl11.slots.size ≤ ((0 : Int32)).toNatClampNeg) := inb_of S11 ⟨by decide, by decide⟩
  obtain ⟨T11, h11, X11, e11, W11, st11⟩ := stB X9 hx hZ e9 Ar11 (j := (0 : Int32)) in11 (g := (mkF m 19 #[.val (.int p1), .val (.int p2), .val (.int p3), .val (.int p4), .val (.int p5), .val (.int wt), .val (.ref ba), .unset, .unset, .unset] [(.int z9v), (.int (0 : Int32)), (.ref ba)])) rfl rfl (hb hby at_19)
  have F12 : Arv Z h11 ba kc_ba .byte (4 : Int32) [(.int (nar .byte z9v)), (.int (0 : Int32)), (.int (0 : Int32)), (.int (0 : Int32))] (.int (0 : Int32)) := Arv.set Ar11 q11 S11 M11 H11 G11 (fits_nar_byte _) W11 0 rfl (Nat.le_of_ble_eq_true rfl)
  have Z13 : n0 ≤ h11.size := Nat.le_trans Z5 (Keep.of_wr W11).1
  have K14 : Keep h0 h11 [] := K6.wr W11 (Or.inr sz_ba)
  have N11 := Fr.snoc X11 N9 g_ba
  have P15 : ∀ t, Steps p.tables e below (T11.setTop (mkF m 20 #[.val (.int p1), .val (.int p2), .val (.int p3), .val (.int p4), .val (.int p5), .val (.int wt), .val (.ref ba), .unset, .unset, .unset] [])) t → Steps p.tables e below (s₁.setTop (entryFrame m #[(.int p1), (.int p2), (.int p3), (.int p4), (.int p5)] maxLocals)) t := fun t k => P10 _ (st11 _ k)
  have P16 : ∀ t, Steps p.tables e below (T11.setTop (mkF m 27 #[.val (.int p1), .val (.int p2), .val (.int p3), .val (.int p4), .val (.int p5), .val (.int wt), .val (.ref ba), .unset, .unset, .unset] [(.int p3), (.int p1), (.int p2), (.int (1 : Int32)), (.int (1 : Int32)), (.ref ba)])) t → Steps p.tables e below (s₁.setTop (entryFrame m #[(.int p1), (.int p2), (.int p3), (.int p4), (.int p5)] maxLocals)) t := by
    intro t k
    refine P15 _ ?_
    refine XS.aload X11.here hx rfl (hb hby at_20) rfl rfl ?_
    show Steps p.tables e below (T11.setTop (mkF m 22 #[.val (.int p1), .val (.int p2), .val (.int p3), .val (.int p4), .val (.int p5), .val (.int wt), .val (.ref ba), .unset, .unset, .unset] [(.ref ba)])) _
    refine XS.iconst X11.here hx rfl (hb hby at_22) ?_
    show Steps p.tables e below (T11.setTop (mkF m 23 #[.val (.int p1), .val (.int p2), .val (.int p3), .val (.int p4), .val (.int p5), .val (.int wt), .val (.ref ba), .unset, .unset, .unset] [(.int (1 : Int32)), (.ref ba)])) _
    refine XS.iconst X11.here hx rfl (hb hby at_23) ?_
    show Steps p.tables e below (T11.setTop (mkF m 24 #[.val (.int p1), .val (.int p2), .val (.int p3), .val (.int p4), .val (.int p5), .val (.int wt), .val (.ref ba), .unset, .unset, .unset] [(.int (1 : Int32)), (.int (1 : Int32)), (.ref ba)])) _
    refine XS.iloadN X11.here hx rfl (hb hby at_24) rfl ?_
    show Steps p.tables e below (T11.setTop (mkF m 25 #[.val (.int p1), .val (.int p2), .val (.int p3), .val (.int p4), .val (.int p5), .val (.int wt), .val (.ref ba), .unset, .unset, .unset] [(.int p2), (.int (1 : Int32)), (.int (1 : Int32)), (.ref ba)])) _
    refine XS.iloadN X11.here hx rfl (hb hby at_25) rfl ?_
    show Steps p.tables e below (T11.setTop (mkF m 26 #[.val (.int p1), .val (.int p2), .val (.int p3), .val (.int p4), .val (.int p5), .val (.int wt), .val (.ref ba), .unset, .unset, .unset] [(.int p1), (.int p2), (.int (1 : Int32)), (.int (1 : Int32)), (.ref ba)])) _
    refine XS.iloadN X11.here hx rfl (hb hby at_26) rfl ?_
    show Steps p.tables e below (T11.setTop (mkF m 27 #[.val (.int p1), .val (.int p2), .val (.int p3), .val (.int p4), .val (.int p5), .val (.int wt), .val (.ref ba), .unset, .unset, .unset] [(.int p3), (.int p1), (.int p2), (.int (1 : Int32)), (.int (1 : Int32)), (.ref ba)])) _
    exact k
  obtain ⟨_, _, ⟨T17, L17, k17, n17⟩, -, X17, ⟨Lc17, hQ17, l17, y17, z17⟩, st17⟩ := Jvm.LawKit.callS X11 hx (y := (⟨"ledgerline/cli/LineReaderIndexOfPinLaw", "cell", "(IIII)B"⟩ : MethodName)) hown (mvT hZ (hw _ (List.mem_of_getElem? (i := 1) rfl))) (mvT hZ (hw _ (List.mem_of_getElem? (i := 2) rfl))) (mvT hZ (hw _ (List.mem_of_getElem? (i := 3) rfl))) (mvT hZ (hw _ (List.mem_of_getElem? (i := 4) rfl))) (by decide) (backOf (W := 2) (rm1 l Z a0 hw [] (1 : Int32) p2 p1 p3  h11 n0 Z13 ) hZ (hw _ (List.mem_of_getElem? (i := 4) rfl)) (hw _ (List.mem_of_getElem? (i := 3) rfl)) (by decide) (by decide)) (g := (mkF m 27 #[.val (.int p1), .val (.int p2), .val (.int p3), .val (.int p4), .val (.int p5), .val (.int wt), .val (.ref ba), .unset, .unset, .unset] [(.int p3), (.int p1), (.int p2), (.int (1 : Int32)), (.int (1 : Int32)), (.ref ba)])) rfl (by rw [hml]; rfl) (argsL := [(.int (1 : Int32)), (.int p2), (.int p1), (.int p3)]) (rest := [(.int (1 : Int32)), (.ref ba)]) (lenOf pd_0 rfl) rfl (by show 2 * 0 + _ ≤ _; exact Nat.le_of_eq rfl) (hb hby at_27) (fun _ _ => ⟨rfl, e11, (by decide : 1 + 0 ≤ _), (by decide : 4 + 0 ≤ _)⟩)
  dsimp only [Pt.U, Pt.locs, Pt.cells, Pt.slots] at X17 l17 y17 z17 st17 hQ17
  subst l17 y17 z17
  obtain ⟨z17v, rfl, N17q, e17⟩ := hQ17
  have N17 := Fr.app N11 N17q
  have P18 : ∀ t, Steps p.tables e below (T17.setTop (mkF m 30 #[.val (.int p1), .val (.int p2), .val (.int p3), .val (.int p4), .val (.int p5), .val (.int wt), .val (.ref ba), .unset, .unset, .unset] [(.int z17v), (.int (1 : Int32)), (.ref ba)])) t → Steps p.tables e below (s₁.setTop (entryFrame m #[(.int p1), (.int p2), (.int p3), (.int p4), (.int p5)] maxLocals)) t := fun t k => P16 _ (st17 _ k)
  obtain ⟨cl19, Ar19, q19, S19, M19, H19, G19⟩ := F12
  have in19 : ¬ ((1 : Int32) < 0 ∨ cl19.slots.size ≤ ((1 : Int32)).toNatClampNeg) := inb_of S19 ⟨by decide, by decide⟩
  obtain ⟨T19, h19, X19, e19, W19, st19⟩ := stB X17 hx hZ e17 Ar19 (j := (1 : Int32)) in19 (g := (mkF m 30 #[.val (.int p1), .val (.int p2), .val (.int p3), .val (.int p4), .val (.int p5), .val (.int wt), .val (.ref ba), .unset, .unset, .unset] [(.int z17v), (.int (1 : Int32)), (.ref ba)])) rfl rfl (hb hby at_30)
  have F20 : Arv Z h19 ba kc_ba .byte (4 : Int32) [(.int (nar .byte z9v)), (.int (nar .byte z17v)), (.int (0 : Int32)), (.int (0 : Int32))] (.int (0 : Int32)) := Arv.set Ar19 q19 S19 M19 H19 G19 (fits_nar_byte _) W19 1 rfl (Nat.le_of_ble_eq_true rfl)
  have Z21 : n0 ≤ h19.size := Nat.le_trans Z13 (Keep.of_wr W19).1
  have K22 : Keep h0 h19 [] := K14.wr W19 (Or.inr sz_ba)
  have N19 := Fr.snoc X19 N17 g_ba
  have P23 : ∀ t, Steps p.tables e below (T19.setTop (mkF m 31 #[.val (.int p1), .val (.int p2), .val (.int p3), .val (.int p4), .val (.int p5), .val (.int wt), .val (.ref ba), .unset, .unset, .unset] [])) t → Steps p.tables e below (s₁.setTop (entryFrame m #[(.int p1), (.int p2), (.int p3), (.int p4), (.int p5)] maxLocals)) t := fun t k => P18 _ (st19 _ k)
  have P24 : ∀ t, Steps p.tables e below (T19.setTop (mkF m 38 #[.val (.int p1), .val (.int p2), .val (.int p3), .val (.int p4), .val (.int p5), .val (.int wt), .val (.ref ba), .unset, .unset, .unset] [(.int p3), (.int p1), (.int p2), (.int (2 : Int32)), (.int (2 : Int32)), (.ref ba)])) t → Steps p.tables e below (s₁.setTop (entryFrame m #[(.int p1), (.int p2), (.int p3), (.int p4), (.int p5)] maxLocals)) t := by
    intro t k
    refine P23 _ ?_
    refine XS.aload X19.here hx rfl (hb hby at_31) rfl rfl ?_
    show Steps p.tables e below (T19.setTop (mkF m 33 #[.val (.int p1), .val (.int p2), .val (.int p3), .val (.int p4), .val (.int p5), .val (.int wt), .val (.ref ba), .unset, .unset, .unset] [(.ref ba)])) _
    refine XS.iconst X19.here hx rfl (hb hby at_33) ?_
    show Steps p.tables e below (T19.setTop (mkF m 34 #[.val (.int p1), .val (.int p2), .val (.int p3), .val (.int p4), .val (.int p5), .val (.int wt), .val (.ref ba), .unset, .unset, .unset] [(.int (2 : Int32)), (.ref ba)])) _
    refine XS.iconst X19.here hx rfl (hb hby at_34) ?_
    show Steps p.tables e below (T19.setTop (mkF m 35 #[.val (.int p1), .val (.int p2), .val (.int p3), .val (.int p4), .val (.int p5), .val (.int wt), .val (.ref ba), .unset, .unset, .unset] [(.int (2 : Int32)), (.int (2 : Int32)), (.ref ba)])) _
    refine XS.iloadN X19.here hx rfl (hb hby at_35) rfl ?_
    show Steps p.tables e below (T19.setTop (mkF m 36 #[.val (.int p1), .val (.int p2), .val (.int p3), .val (.int p4), .val (.int p5), .val (.int wt), .val (.ref ba), .unset, .unset, .unset] [(.int p2), (.int (2 : Int32)), (.int (2 : Int32)), (.ref ba)])) _
    refine XS.iloadN X19.here hx rfl (hb hby at_36) rfl ?_
    show Steps p.tables e below (T19.setTop (mkF m 37 #[.val (.int p1), .val (.int p2), .val (.int p3), .val (.int p4), .val (.int p5), .val (.int wt), .val (.ref ba), .unset, .unset, .unset] [(.int p1), (.int p2), (.int (2 : Int32)), (.int (2 : Int32)), (.ref ba)])) _
    refine XS.iloadN X19.here hx rfl (hb hby at_37) rfl ?_
    show Steps p.tables e below (T19.setTop (mkF m 38 #[.val (.int p1), .val (.int p2), .val (.int p3), .val (.int p4), .val (.int p5), .val (.int wt), .val (.ref ba), .unset, .unset, .unset] [(.int p3), (.int p1), (.int p2), (.int (2 : Int32)), (.int (2 : Int32)), (.ref ba)])) _
    exact k
  obtain ⟨_, _, ⟨T25, L25, k25, n25⟩, -, X25, ⟨Lc25, hQ25, l25, y25, z25⟩, st25⟩ := Jvm.LawKit.callS X19 hx (y := (⟨"ledgerline/cli/LineReaderIndexOfPinLaw", "cell", "(IIII)B"⟩ : MethodName)) hown (mvT hZ (hw _ (List.mem_of_getElem? (i := 1) rfl))) (mvT hZ (hw _ (List.mem_of_getElem? (i := 2) rfl))) (mvT hZ (hw _ (List.mem_of_getElem? (i := 3) rfl))) (mvT hZ (hw _ (List.mem_of_getElem? (i := 4) rfl))) (by decide) (backOf (W := 2) (rm1 l Z a0 hw [] (2 : Int32) p2 p1 p3  h19 n0 Z21 ) hZ (hw _ (List.mem_of_getElem? (i := 4) rfl)) (hw _ (List.mem_of_getElem? (i := 3) rfl)) (by decide) (by decide)) (g := (mkF m 38 #[.val (.int p1), .val (.int p2), .val (.int p3), .val (.int p4), .val (.int p5), .val (.int wt), .val (.ref ba), .unset, .unset, .unset] [(.int p3), (.int p1), (.int p2), (.int (2 : Int32)), (.int (2 : Int32)), (.ref ba)])) rfl (by rw [hml]; rfl) (argsL := [(.int (2 : Int32)), (.int p2), (.int p1), (.int p3)]) (rest := [(.int (2 : Int32)), (.ref ba)]) (lenOf pd_0 rfl) rfl (by show 2 * 0 + _ ≤ _; exact Nat.le_of_eq rfl) (hb hby at_38) (fun _ _ => ⟨rfl, e19, (by decide : 1 + 0 ≤ _), (by decide : 4 + 0 ≤ _)⟩)
  dsimp only [Pt.U, Pt.locs, Pt.cells, Pt.slots] at X25 l25 y25 z25 st25 hQ25
  subst l25 y25 z25
  obtain ⟨z25v, rfl, N25q, e25⟩ := hQ25
  have N25 := Fr.app N19 N25q
  have P26 : ∀ t, Steps p.tables e below (T25.setTop (mkF m 41 #[.val (.int p1), .val (.int p2), .val (.int p3), .val (.int p4), .val (.int p5), .val (.int wt), .val (.ref ba), .unset, .unset, .unset] [(.int z25v), (.int (2 : Int32)), (.ref ba)])) t → Steps p.tables e below (s₁.setTop (entryFrame m #[(.int p1), (.int p2), (.int p3), (.int p4), (.int p5)] maxLocals)) t := fun t k => P24 _ (st25 _ k)
  obtain ⟨cl27, Ar27, q27, S27, M27, H27, G27⟩ := F20
  have in27 : ¬ ((2 : Int32) < 0 ∨ cl27.slots.size ≤ ((2 : Int32)).toNatClampNeg) := inb_of S27 ⟨by decide, by decide⟩
  obtain ⟨T27, h27, X27, e27, W27, st27⟩ := stB X25 hx hZ e25 Ar27 (j := (2 : Int32)) in27 (g := (mkF m 41 #[.val (.int p1), .val (.int p2), .val (.int p3), .val (.int p4), .val (.int p5), .val (.int wt), .val (.ref ba), .unset, .unset, .unset] [(.int z25v), (.int (2 : Int32)), (.ref ba)])) rfl rfl (hb hby at_41)
  have F28 : Arv Z h27 ba kc_ba .byte (4 : Int32) [(.int (nar .byte z9v)), (.int (nar .byte z17v)), (.int (nar .byte z25v)), (.int (0 : Int32))] (.int (0 : Int32)) := Arv.set Ar27 q27 S27 M27 H27 G27 (fits_nar_byte _) W27 2 rfl (Nat.le_of_ble_eq_true rfl)
  have Z29 : n0 ≤ h27.size := Nat.le_trans Z21 (Keep.of_wr W27).1
  have K30 : Keep h0 h27 [] := K22.wr W27 (Or.inr sz_ba)
  have N27 := Fr.snoc X27 N25 g_ba
  have P31 : ∀ t, Steps p.tables e below (T27.setTop (mkF m 42 #[.val (.int p1), .val (.int p2), .val (.int p3), .val (.int p4), .val (.int p5), .val (.int wt), .val (.ref ba), .unset, .unset, .unset] [])) t → Steps p.tables e below (s₁.setTop (entryFrame m #[(.int p1), (.int p2), (.int p3), (.int p4), (.int p5)] maxLocals)) t := fun t k => P26 _ (st27 _ k)
  have P32 : ∀ t, Steps p.tables e below (T27.setTop (mkF m 49 #[.val (.int p1), .val (.int p2), .val (.int p3), .val (.int p4), .val (.int p5), .val (.int wt), .val (.ref ba), .unset, .unset, .unset] [(.int p3), (.int p1), (.int p2), (.int (3 : Int32)), (.int (3 : Int32)), (.ref ba)])) t → Steps p.tables e below (s₁.setTop (entryFrame m #[(.int p1), (.int p2), (.int p3), (.int p4), (.int p5)] maxLocals)) t := by
    intro t k
    refine P31 _ ?_
    refine XS.aload X27.here hx rfl (hb hby at_42) rfl rfl ?_
    show Steps p.tables e below (T27.setTop (mkF m 44 #[.val (.int p1), .val (.int p2), .val (.int p3), .val (.int p4), .val (.int p5), .val (.int wt), .val (.ref ba), .unset, .unset, .unset] [(.ref ba)])) _
    refine XS.iconst X27.here hx rfl (hb hby at_44) ?_
    show Steps p.tables e below (T27.setTop (mkF m 45 #[.val (.int p1), .val (.int p2), .val (.int p3), .val (.int p4), .val (.int p5), .val (.int wt), .val (.ref ba), .unset, .unset, .unset] [(.int (3 : Int32)), (.ref ba)])) _
    refine XS.iconst X27.here hx rfl (hb hby at_45) ?_
    show Steps p.tables e below (T27.setTop (mkF m 46 #[.val (.int p1), .val (.int p2), .val (.int p3), .val (.int p4), .val (.int p5), .val (.int wt), .val (.ref ba), .unset, .unset, .unset] [(.int (3 : Int32)), (.int (3 : Int32)), (.ref ba)])) _
    refine XS.iloadN X27.here hx rfl (hb hby at_46) rfl ?_
    show Steps p.tables e below (T27.setTop (mkF m 47 #[.val (.int p1), .val (.int p2), .val (.int p3), .val (.int p4), .val (.int p5), .val (.int wt), .val (.ref ba), .unset, .unset, .unset] [(.int p2), (.int (3 : Int32)), (.int (3 : Int32)), (.ref ba)])) _
    refine XS.iloadN X27.here hx rfl (hb hby at_47) rfl ?_
    show Steps p.tables e below (T27.setTop (mkF m 48 #[.val (.int p1), .val (.int p2), .val (.int p3), .val (.int p4), .val (.int p5), .val (.int wt), .val (.ref ba), .unset, .unset, .unset] [(.int p1), (.int p2), (.int (3 : Int32)), (.int (3 : Int32)), (.ref ba)])) _
    refine XS.iloadN X27.here hx rfl (hb hby at_48) rfl ?_
    show Steps p.tables e below (T27.setTop (mkF m 49 #[.val (.int p1), .val (.int p2), .val (.int p3), .val (.int p4), .val (.int p5), .val (.int wt), .val (.ref ba), .unset, .unset, .unset] [(.int p3), (.int p1), (.int p2), (.int (3 : Int32)), (.int (3 : Int32)), (.ref ba)])) _
    exact k
  obtain ⟨_, _, ⟨T33, L33, k33, n33⟩, -, X33, ⟨Lc33, hQ33, l33, y33, z33⟩, st33⟩ := Jvm.LawKit.callS X27 hx (y := (⟨"ledgerline/cli/LineReaderIndexOfPinLaw", "cell", "(IIII)B"⟩ : MethodName)) hown (mvT hZ (hw _ (List.mem_of_getElem? (i := 1) rfl))) (mvT hZ (hw _ (List.mem_of_getElem? (i := 2) rfl))) (mvT hZ (hw _ (List.mem_of_getElem? (i := 3) rfl))) (mvT hZ (hw _ (List.mem_of_getElem? (i := 4) rfl))) (by decide) (backOf (W := 2) (rm1 l Z a0 hw [] (3 : Int32) p2 p1 p3  h27 n0 Z29 ) hZ (hw _ (List.mem_of_getElem? (i := 4) rfl)) (hw _ (List.mem_of_getElem? (i := 3) rfl)) (by decide) (by decide)) (g := (mkF m 49 #[.val (.int p1), .val (.int p2), .val (.int p3), .val (.int p4), .val (.int p5), .val (.int wt), .val (.ref ba), .unset, .unset, .unset] [(.int p3), (.int p1), (.int p2), (.int (3 : Int32)), (.int (3 : Int32)), (.ref ba)])) rfl (by rw [hml]; rfl) (argsL := [(.int (3 : Int32)), (.int p2), (.int p1), (.int p3)]) (rest := [(.int (3 : Int32)), (.ref ba)]) (lenOf pd_0 rfl) rfl (by show 2 * 0 + _ ≤ _; exact Nat.le_of_eq rfl) (hb hby at_49) (fun _ _ => ⟨rfl, e27, (by decide : 1 + 0 ≤ _), (by decide : 4 + 0 ≤ _)⟩)
  dsimp only [Pt.U, Pt.locs, Pt.cells, Pt.slots] at X33 l33 y33 z33 st33 hQ33
  subst l33 y33 z33
  obtain ⟨z33v, rfl, N33q, e33⟩ := hQ33
  have N33 := Fr.app N27 N33q
  have P34 : ∀ t, Steps p.tables e below (T33.setTop (mkF m 52 #[.val (.int p1), .val (.int p2), .val (.int p3), .val (.int p4), .val (.int p5), .val (.int wt), .val (.ref ba), .unset, .unset, .unset] [(.int z33v), (.int (3 : Int32)), (.ref ba)])) t → Steps p.tables e below (s₁.setTop (entryFrame m #[(.int p1), (.int p2), (.int p3), (.int p4), (.int p5)] maxLocals)) t := fun t k => P32 _ (st33 _ k)
  obtain ⟨cl35, Ar35, q35, S35, M35, H35, G35⟩ := F28
  have in35 : ¬ ((3 : Int32) < 0 ∨ cl35.slots.size ≤ ((3 : Int32)).toNatClampNeg) := inb_of S35 ⟨by decide, by decide⟩
  obtain ⟨T35, h35, X35, e35, W35, st35⟩ := stB X33 hx hZ e33 Ar35 (j := (3 : Int32)) in35 (g := (mkF m 52 #[.val (.int p1), .val (.int p2), .val (.int p3), .val (.int p4), .val (.int p5), .val (.int wt), .val (.ref ba), .unset, .unset, .unset] [(.int z33v), (.int (3 : Int32)), (.ref ba)])) rfl rfl (hb hby at_52)
  have F36 : Arv Z h35 ba kc_ba .byte (4 : Int32) [(.int (nar .byte z9v)), (.int (nar .byte z17v)), (.int (nar .byte z25v)), (.int (nar .byte z33v))] (.int (0 : Int32)) := Arv.set Ar35 q35 S35 M35 H35 G35 (fits_nar_byte _) W35 3 rfl (Nat.le_of_ble_eq_true rfl)
  have Z37 : n0 ≤ h35.size := Nat.le_trans Z29 (Keep.of_wr W35).1
  have K38 : Keep h0 h35 [] := K30.wr W35 (Or.inr sz_ba)
  have N35 := Fr.snoc X35 N33 g_ba
  have P39 : ∀ t, Steps p.tables e below (T35.setTop (mkF m 53 #[.val (.int p1), .val (.int p2), .val (.int p3), .val (.int p4), .val (.int p5), .val (.int wt), .val (.ref ba), .unset, .unset, .unset] [])) t → Steps p.tables e below (s₁.setTop (entryFrame m #[(.int p1), (.int p2), (.int p3), (.int p4), (.int p5)] maxLocals)) t := fun t k => P34 _ (st35 _ k)
  have P40 : ∀ t, Steps p.tables e below (T35.setTop (mkF m 61 #[.val (.int p1), .val (.int p2), .val (.int p3), .val (.int p4), .val (.int p5), .val (.int wt), .val (.ref ba), .val (.int ((p4 &&& (2147483647 : Int32)) % (5 : Int32))), .unset, .unset] [])) t → Steps p.tables e below (s₁.setTop (entryFrame m #[(.int p1), (.int p2), (.int p3), (.int p4), (.int p5)] maxLocals)) t := by
    intro t k
    refine P39 _ ?_
    refine XS.iloadN X35.here hx rfl (hb hby at_53) rfl ?_
    show Steps p.tables e below (T35.setTop (mkF m 54 #[.val (.int p1), .val (.int p2), .val (.int p3), .val (.int p4), .val (.int p5), .val (.int wt), .val (.ref ba), .unset, .unset, .unset] [(.int p4)])) _
    refine Jvm.Stand.ldcI X35 hx hown (mvT hZ (hw _ (List.mem_of_getElem? (i := 5) rfl))) rfl (hb hby at_54) ?_
    show Steps p.tables e below (T35.setTop (mkF m 56 #[.val (.int p1), .val (.int p2), .val (.int p3), .val (.int p4), .val (.int p5), .val (.int wt), .val (.ref ba), .unset, .unset, .unset] [(.int (2147483647 : Int32)), (.int p4)])) _
    refine XS.iand X35.here hx rfl (hb hby at_56) rfl ?_
    show Steps p.tables e below (T35.setTop (mkF m 57 #[.val (.int p1), .val (.int p2), .val (.int p3), .val (.int p4), .val (.int p5), .val (.int wt), .val (.ref ba), .unset, .unset, .unset] [(.int (p4 &&& (2147483647 : Int32)))])) _
    refine XS.iconst X35.here hx rfl (hb hby at_57) ?_
    show Steps p.tables e below (T35.setTop (mkF m 58 #[.val (.int p1), .val (.int p2), .val (.int p3), .val (.int p4), .val (.int p5), .val (.int wt), .val (.ref ba), .unset, .unset, .unset] [(.int (5 : Int32)), (.int (p4 &&& (2147483647 : Int32)))])) _
    refine iremM X35 hx rfl (hb hby at_58) rfl (by decide) ?_
    show Steps p.tables e below (T35.setTop (mkF m 59 #[.val (.int p1), .val (.int p2), .val (.int p3), .val (.int p4), .val (.int p5), .val (.int wt), .val (.ref ba), .unset, .unset, .unset] [(.int ((p4 &&& (2147483647 : Int32)) % (5 : Int32)))])) _
    refine XS.istore X35.here hx rfl (hb hby at_59) rfl (l' := #[.val (.int p1), .val (.int p2), .val (.int p3), .val (.int p4), .val (.int p5), .val (.int wt), .val (.ref ba), .val (.int ((p4 &&& (2147483647 : Int32)) % (5 : Int32))), .unset, .unset]) rfl ?_
    show Steps p.tables e below (T35.setTop (mkF m 61 #[.val (.int p1), .val (.int p2), .val (.int p3), .val (.int p4), .val (.int p5), .val (.int wt), .val (.ref ba), .val (.int ((p4 &&& (2147483647 : Int32)) % (5 : Int32))), .unset, .unset] [])) _
    exact k
  obtain ⟨fr, hfr⟩ : ∃ z : Int32, z = ((p4 &&& (2147483647 : Int32)) % (5 : Int32)) := ⟨_, rfl⟩
  rw [← hfr] at P40
  have hfr := own_rem hfr (by decide : (5 : Int32).toInt = 5) (by decide)
  have P41 : ∀ t, Steps p.tables e below (T35.setTop (mkF m 70 #[.val (.int p1), .val (.int p2), .val (.int p3), .val (.int p4), .val (.int p5), .val (.int wt), .val (.ref ba), .val (.int fr), .val (.int ((p5 &&& (2147483647 : Int32)) % (5 : Int32))), .unset] [])) t → Steps p.tables e below (s₁.setTop (entryFrame m #[(.int p1), (.int p2), (.int p3), (.int p4), (.int p5)] maxLocals)) t := by
    intro t k
    refine P40 _ ?_
    refine XS.iload X35.here hx rfl (hb hby at_61) rfl ?_
    show Steps p.tables e below (T35.setTop (mkF m 63 #[.val (.int p1), .val (.int p2), .val (.int p3), .val (.int p4), .val (.int p5), .val (.int wt), .val (.ref ba), .val (.int fr), .unset, .unset] [(.int p5)])) _
    refine Jvm.Stand.ldcI X35 hx hown (mvT hZ (hw _ (List.mem_of_getElem? (i := 5) rfl))) rfl (hb hby at_63) ?_
    show Steps p.tables e below (T35.setTop (mkF m 65 #[.val (.int p1), .val (.int p2), .val (.int p3), .val (.int p4), .val (.int p5), .val (.int wt), .val (.ref ba), .val (.int fr), .unset, .unset] [(.int (2147483647 : Int32)), (.int p5)])) _
    refine XS.iand X35.here hx rfl (hb hby at_65) rfl ?_
    show Steps p.tables e below (T35.setTop (mkF m 66 #[.val (.int p1), .val (.int p2), .val (.int p3), .val (.int p4), .val (.int p5), .val (.int wt), .val (.ref ba), .val (.int fr), .unset, .unset] [(.int (p5 &&& (2147483647 : Int32)))])) _
    refine XS.iconst X35.here hx rfl (hb hby at_66) ?_
    show Steps p.tables e below (T35.setTop (mkF m 67 #[.val (.int p1), .val (.int p2), .val (.int p3), .val (.int p4), .val (.int p5), .val (.int wt), .val (.ref ba), .val (.int fr), .unset, .unset] [(.int (5 : Int32)), (.int (p5 &&& (2147483647 : Int32)))])) _
    refine iremM X35 hx rfl (hb hby at_67) rfl (by decide) ?_
    show Steps p.tables e below (T35.setTop (mkF m 68 #[.val (.int p1), .val (.int p2), .val (.int p3), .val (.int p4), .val (.int p5), .val (.int wt), .val (.ref ba), .val (.int fr), .unset, .unset] [(.int ((p5 &&& (2147483647 : Int32)) % (5 : Int32)))])) _
    refine XS.istore X35.here hx rfl (hb hby at_68) rfl (l' := #[.val (.int p1), .val (.int p2), .val (.int p3), .val (.int p4), .val (.int p5), .val (.int wt), .val (.ref ba), .val (.int fr), .val (.int ((p5 &&& (2147483647 : Int32)) % (5 : Int32))), .unset]) rfl ?_
    show Steps p.tables e below (T35.setTop (mkF m 70 #[.val (.int p1), .val (.int p2), .val (.int p3), .val (.int p4), .val (.int p5), .val (.int wt), .val (.ref ba), .val (.int fr), .val (.int ((p5 &&& (2147483647 : Int32)) % (5 : Int32))), .unset] [])) _
    exact k
  obtain ⟨to, hto⟩ : ∃ z : Int32, z = ((p5 &&& (2147483647 : Int32)) % (5 : Int32)) := ⟨_, rfl⟩
  rw [← hto] at P41
  have hto5 := own_rem hto (by decide : (5 : Int32).toInt = 5) (by decide)
  have hto : ¬ (4 : Int32) < to := by
    rw [Int32.lt_iff_toInt_lt]; show ¬ (4 : Int) < to.toInt; omega
  have P42 : ∀ t, Steps p.tables e below (T35.setTop (mkF m 79 #[.val (.int p1), .val (.int p2), .val (.int p3), .val (.int p4), .val (.int p5), .val (.int wt), .val (.ref ba), .val (.int fr), .val (.int to), .unset] [(.int wt), (.int to), (.int fr), (.int (0 : Int32)), (.ref ba)])) t → Steps p.tables e below (s₁.setTop (entryFrame m #[(.int p1), (.int p2), (.int p3), (.int p4), (.int p5)] maxLocals)) t := by
    intro t k
    refine P41 _ ?_
    refine XS.aload X35.here hx rfl (hb hby at_70) rfl rfl ?_
    show Steps p.tables e below (T35.setTop (mkF m 72 #[.val (.int p1), .val (.int p2), .val (.int p3), .val (.int p4), .val (.int p5), .val (.int wt), .val (.ref ba), .val (.int fr), .val (.int to), .unset] [(.ref ba)])) _
    refine XS.iconst X35.here hx rfl (hb hby at_72) ?_
    show Steps p.tables e below (T35.setTop (mkF m 73 #[.val (.int p1), .val (.int p2), .val (.int p3), .val (.int p4), .val (.int p5), .val (.int wt), .val (.ref ba), .val (.int fr), .val (.int to), .unset] [(.int (0 : Int32)), (.ref ba)])) _
    refine XS.iload X35.here hx rfl (hb hby at_73) rfl ?_
    show Steps p.tables e below (T35.setTop (mkF m 75 #[.val (.int p1), .val (.int p2), .val (.int p3), .val (.int p4), .val (.int p5), .val (.int wt), .val (.ref ba), .val (.int fr), .val (.int to), .unset] [(.int fr), (.int (0 : Int32)), (.ref ba)])) _
    refine XS.iload X35.here hx rfl (hb hby at_75) rfl ?_
    show Steps p.tables e below (T35.setTop (mkF m 77 #[.val (.int p1), .val (.int p2), .val (.int p3), .val (.int p4), .val (.int p5), .val (.int wt), .val (.ref ba), .val (.int fr), .val (.int to), .unset] [(.int to), (.int fr), (.int (0 : Int32)), (.ref ba)])) _
    refine XS.iload X35.here hx rfl (hb hby at_77) rfl ?_
    show Steps p.tables e below (T35.setTop (mkF m 79 #[.val (.int p1), .val (.int p2), .val (.int p3), .val (.int p4), .val (.int p5), .val (.int wt), .val (.ref ba), .val (.int fr), .val (.int to), .unset] [(.int wt), (.int to), (.int fr), (.int (0 : Int32)), (.ref ba)])) _
    exact k
  obtain ⟨_, _, ⟨T43, L43, k43, n43⟩, -, X43, ⟨Lc43, hQ43, l43, y43, z43⟩, st43⟩ := Jvm.LawKit.callS X35 hx (y := (⟨"ledgerline/cli/LineReaderIndexOfPinLaw", "hit", "([BIIIB)Z"⟩ : MethodName)) hown (mvT hZ (hw _ (List.mem_of_getElem? (i := 6) rfl))) (mvT hZ (hw _ (List.mem_of_getElem? (i := 7) rfl))) (mvT hZ (hw _ (List.mem_of_getElem? (i := 3) rfl))) (mvT hZ (hw _ (List.mem_of_getElem? (i := 8) rfl))) (by decide) (backOf (W := 0) (rm2 l Z a0 hw [] ba (0 : Int32) fr to wt kc_ba [(.int (nar .byte z9v)), (.int (nar .byte z17v)), (.int (nar .byte z25v)), (.int (nar .byte z33v))] (nar .byte z9v) h35 n0 Z37 F36 ⟨by decide, by decide⟩ rfl) hZ (hw _ (List.mem_of_getElem? (i := 8) rfl)) (hw _ (List.mem_of_getElem? (i := 3) rfl)) (by decide) (by decide)) (g := (mkF m 79 #[.val (.int p1), .val (.int p2), .val (.int p3), .val (.int p4), .val (.int p5), .val (.int wt), .val (.ref ba), .val (.int fr), .val (.int to), .unset] [(.int wt), (.int to), (.int fr), (.int (0 : Int32)), (.ref ba)])) rfl (by rw [hml]; rfl) (argsL := [(.ref ba), (.int (0 : Int32)), (.int fr), (.int to), (.int wt)]) (rest := []) (lenOf pd_1 rfl) rfl (by show 2 * 0 + _ ≤ _; exact Nat.le_of_eq rfl) (hb hby at_79) (fun _ _ => ⟨rfl, e35, (by decide : 1 + 0 ≤ _), (by decide : 4 + 0 ≤ _)⟩)
  dsimp only [Pt.U, Pt.locs, Pt.cells, Pt.slots] at X43 l43 y43 z43 st43 hQ43
  subst l43 y43 z43
  obtain ⟨rfl, N43q, e43⟩ := hQ43
  have N43 := Fr.app N35 N43q
  have P44 : ∀ t, Steps p.tables e below (T43.setTop (mkF m 82 #[.val (.int p1), .val (.int p2), .val (.int p3), .val (.int p4), .val (.int p5), .val (.int wt), .val (.ref ba), .val (.int fr), .val (.int to), .unset] [(.int (if (0 : Int32) < fr then (0 : Int32) else (if (0 : Int32) < to then (if (nar .byte z9v) = wt then (1 : Int32) else (0 : Int32)) else (0 : Int32))))])) t → Steps p.tables e below (s₁.setTop (entryFrame m #[(.int p1), (.int p2), (.int p3), (.int p4), (.int p5)] maxLocals)) t := fun t k => P42 _ (st43 _ k)
  obtain ⟨q0, hq0⟩ : ∃ z : Int32, z = (if (0 : Int32) < fr then (0 : Int32) else (if (0 : Int32) < to then (if (nar .byte z9v) = wt then (1 : Int32) else (0 : Int32)) else (0 : Int32))) := ⟨_, rfl⟩
  rw [← hq0] at P44
  by_cases c82 : q0 = (0 : Int32)
  · have P45 : ∀ t, Steps p.tables e below (T43.setTop (mkF m 100 #[.val (.int p1), .val (.int p2), .val (.int p3), .val (.int p4), .val (.int p5), .val (.int wt), .val (.ref ba), .val (.int fr), .val (.int to), .unset] [(.int wt), (.int to), (.int fr), (.int (1 : Int32)), (.ref ba)])) t → Steps p.tables e below (s₁.setTop (entryFrame m #[(.int p1), (.int p2), (.int p3), (.int p4), (.int p5)] maxLocals)) t := by
      intro t k
      refine P44 _ ?_
      refine XS.ifYes X43.here hx rfl (pc0 := 82) (pc' := 91) rfl (hb hby at_82) rfl (XT.i0_eq_t c82) (by decide) (by decide) ?_
      show Steps p.tables e below (T43.setTop (mkF m 91 #[.val (.int p1), .val (.int p2), .val (.int p3), .val (.int p4), .val (.int p5), .val (.int wt), .val (.ref ba), .val (.int fr), .val (.int to), .unset] [])) _
      refine XS.aload X43.here hx rfl (hb hby at_91) rfl rfl ?_
      show Steps p.tables e below (T43.setTop (mkF m 93 #[.val (.int p1), .val (.int p2), .val (.int p3), .val (.int p4), .val (.int p5), .val (.int wt), .val (.ref ba), .val (.int fr), .val (.int to), .unset] [(.ref ba)])) _
      refine XS.iconst X43.here hx rfl (hb hby at_93) ?_
      show Steps p.tables e below (T43.setTop (mkF m 94 #[.val (.int p1), .val (.int p2), .val (.int p3), .val (.int p4), .val (.int p5), .val (.int wt), .val (.ref ba), .val (.int fr), .val (.int to), .unset] [(.int (1 : Int32)), (.ref ba)])) _
      refine XS.iload X43.here hx rfl (hb hby at_94) rfl ?_
      show Steps p.tables e below (T43.setTop (mkF m 96 #[.val (.int p1), .val (.int p2), .val (.int p3), .val (.int p4), .val (.int p5), .val (.int wt), .val (.ref ba), .val (.int fr), .val (.int to), .unset] [(.int fr), (.int (1 : Int32)), (.ref ba)])) _
      refine XS.iload X43.here hx rfl (hb hby at_96) rfl ?_
      show Steps p.tables e below (T43.setTop (mkF m 98 #[.val (.int p1), .val (.int p2), .val (.int p3), .val (.int p4), .val (.int p5), .val (.int wt), .val (.ref ba), .val (.int fr), .val (.int to), .unset] [(.int to), (.int fr), (.int (1 : Int32)), (.ref ba)])) _
      refine XS.iload X43.here hx rfl (hb hby at_98) rfl ?_
      show Steps p.tables e below (T43.setTop (mkF m 100 #[.val (.int p1), .val (.int p2), .val (.int p3), .val (.int p4), .val (.int p5), .val (.int wt), .val (.ref ba), .val (.int fr), .val (.int to), .unset] [(.int wt), (.int to), (.int fr), (.int (1 : Int32)), (.ref ba)])) _
      exact k
    obtain ⟨_, _, ⟨T46, L46, k46, n46⟩, -, X46, ⟨Lc46, hQ46, l46, y46, z46⟩, st46⟩ := Jvm.LawKit.callS X43 hx (y := (⟨"ledgerline/cli/LineReaderIndexOfPinLaw", "hit", "([BIIIB)Z"⟩ : MethodName)) hown (mvT hZ (hw _ (List.mem_of_getElem? (i := 6) rfl))) (mvT hZ (hw _ (List.mem_of_getElem? (i := 7) rfl))) (mvT hZ (hw _ (List.mem_of_getElem? (i := 3) rfl))) (mvT hZ (hw _ (List.mem_of_getElem? (i := 8) rfl))) (by decide) (backOf (W := 0) (rm2 l Z a0 hw [] ba (1 : Int32) fr to wt kc_ba [(.int (nar .byte z9v)), (.int (nar .byte z17v)), (.int (nar .byte z25v)), (.int (nar .byte z33v))] (nar .byte z17v) h35 n0 Z37 F36 ⟨by decide, by decide⟩ rfl) hZ (hw _ (List.mem_of_getElem? (i := 8) rfl)) (hw _ (List.mem_of_getElem? (i := 3) rfl)) (by decide) (by decide)) (g := (mkF m 100 #[.val (.int p1), .val (.int p2), .val (.int p3), .val (.int p4), .val (.int p5), .val (.int wt), .val (.ref ba), .val (.int fr), .val (.int to), .unset] [(.int wt), (.int to), (.int fr), (.int (1 : Int32)), (.ref ba)])) rfl (by rw [hml]; rfl) (argsL := [(.ref ba), (.int (1 : Int32)), (.int fr), (.int to), (.int wt)]) (rest := []) (lenOf pd_1 rfl) rfl (by show 2 * 0 + _ ≤ _; exact Nat.le_of_eq rfl) (hb hby at_100) (fun _ _ => ⟨rfl, e43, (by decide : 1 + 0 ≤ _), (by decide : 4 + 0 ≤ _)⟩)
    dsimp only [Pt.U, Pt.locs, Pt.cells, Pt.slots] at X46 l46 y46 z46 st46 hQ46
    subst l46 y46 z46
    obtain ⟨rfl, N46q, e46⟩ := hQ46
    have N46 := Fr.app N43 N46q
    have P47 : ∀ t, Steps p.tables e below (T46.setTop (mkF m 103 #[.val (.int p1), .val (.int p2), .val (.int p3), .val (.int p4), .val (.int p5), .val (.int wt), .val (.ref ba), .val (.int fr), .val (.int to), .unset] [(.int (if (1 : Int32) < fr then (0 : Int32) else (if (1 : Int32) < to then (if (nar .byte z17v) = wt then (1 : Int32) else (0 : Int32)) else (0 : Int32))))])) t → Steps p.tables e below (s₁.setTop (entryFrame m #[(.int p1), (.int p2), (.int p3), (.int p4), (.int p5)] maxLocals)) t := fun t k => P45 _ (st46 _ k)
    obtain ⟨q1, hq1⟩ : ∃ z : Int32, z = (if (1 : Int32) < fr then (0 : Int32) else (if (1 : Int32) < to then (if (nar .byte z17v) = wt then (1 : Int32) else (0 : Int32)) else (0 : Int32))) := ⟨_, rfl⟩
    rw [← hq1] at P47
    by_cases c103 : q1 = (0 : Int32)
    · have P48 : ∀ t, Steps p.tables e below (T46.setTop (mkF m 121 #[.val (.int p1), .val (.int p2), .val (.int p3), .val (.int p4), .val (.int p5), .val (.int wt), .val (.ref ba), .val (.int fr), .val (.int to), .unset] [(.int wt), (.int to), (.int fr), (.int (2 : Int32)), (.ref ba)])) t → Steps p.tables e below (s₁.setTop (entryFrame m #[(.int p1), (.int p2), (.int p3), (.int p4), (.int p5)] maxLocals)) t := by
        intro t k
        refine P47 _ ?_
        refine XS.ifYes X46.here hx rfl (pc0 := 103) (pc' := 112) rfl (hb hby at_103) rfl (XT.i0_eq_t c103) (by decide) (by decide) ?_
        show Steps p.tables e below (T46.setTop (mkF m 112 #[.val (.int p1), .val (.int p2), .val (.int p3), .val (.int p4), .val (.int p5), .val (.int wt), .val (.ref ba), .val (.int fr), .val (.int to), .unset] [])) _
        refine XS.aload X46.here hx rfl (hb hby at_112) rfl rfl ?_
        show Steps p.tables e below (T46.setTop (mkF m 114 #[.val (.int p1), .val (.int p2), .val (.int p3), .val (.int p4), .val (.int p5), .val (.int wt), .val (.ref ba), .val (.int fr), .val (.int to), .unset] [(.ref ba)])) _
        refine XS.iconst X46.here hx rfl (hb hby at_114) ?_
        show Steps p.tables e below (T46.setTop (mkF m 115 #[.val (.int p1), .val (.int p2), .val (.int p3), .val (.int p4), .val (.int p5), .val (.int wt), .val (.ref ba), .val (.int fr), .val (.int to), .unset] [(.int (2 : Int32)), (.ref ba)])) _
        refine XS.iload X46.here hx rfl (hb hby at_115) rfl ?_
        show Steps p.tables e below (T46.setTop (mkF m 117 #[.val (.int p1), .val (.int p2), .val (.int p3), .val (.int p4), .val (.int p5), .val (.int wt), .val (.ref ba), .val (.int fr), .val (.int to), .unset] [(.int fr), (.int (2 : Int32)), (.ref ba)])) _
        refine XS.iload X46.here hx rfl (hb hby at_117) rfl ?_
        show Steps p.tables e below (T46.setTop (mkF m 119 #[.val (.int p1), .val (.int p2), .val (.int p3), .val (.int p4), .val (.int p5), .val (.int wt), .val (.ref ba), .val (.int fr), .val (.int to), .unset] [(.int to), (.int fr), (.int (2 : Int32)), (.ref ba)])) _
        refine XS.iload X46.here hx rfl (hb hby at_119) rfl ?_
        show Steps p.tables e below (T46.setTop (mkF m 121 #[.val (.int p1), .val (.int p2), .val (.int p3), .val (.int p4), .val (.int p5), .val (.int wt), .val (.ref ba), .val (.int fr), .val (.int to), .unset] [(.int wt), (.int to), (.int fr), (.int (2 : Int32)), (.ref ba)])) _
        exact k
      obtain ⟨_, _, ⟨T49, L49, k49, n49⟩, -, X49, ⟨Lc49, hQ49, l49, y49, z49⟩, st49⟩ := Jvm.LawKit.callS X46 hx (y := (⟨"ledgerline/cli/LineReaderIndexOfPinLaw", "hit", "([BIIIB)Z"⟩ : MethodName)) hown (mvT hZ (hw _ (List.mem_of_getElem? (i := 6) rfl))) (mvT hZ (hw _ (List.mem_of_getElem? (i := 7) rfl))) (mvT hZ (hw _ (List.mem_of_getElem? (i := 3) rfl))) (mvT hZ (hw _ (List.mem_of_getElem? (i := 8) rfl))) (by decide) (backOf (W := 0) (rm2 l Z a0 hw [] ba (2 : Int32) fr to wt kc_ba [(.int (nar .byte z9v)), (.int (nar .byte z17v)), (.int (nar .byte z25v)), (.int (nar .byte z33v))] (nar .byte z25v) h35 n0 Z37 F36 ⟨by decide, by decide⟩ rfl) hZ (hw _ (List.mem_of_getElem? (i := 8) rfl)) (hw _ (List.mem_of_getElem? (i := 3) rfl)) (by decide) (by decide)) (g := (mkF m 121 #[.val (.int p1), .val (.int p2), .val (.int p3), .val (.int p4), .val (.int p5), .val (.int wt), .val (.ref ba), .val (.int fr), .val (.int to), .unset] [(.int wt), (.int to), (.int fr), (.int (2 : Int32)), (.ref ba)])) rfl (by rw [hml]; rfl) (argsL := [(.ref ba), (.int (2 : Int32)), (.int fr), (.int to), (.int wt)]) (rest := []) (lenOf pd_1 rfl) rfl (by show 2 * 0 + _ ≤ _; exact Nat.le_of_eq rfl) (hb hby at_121) (fun _ _ => ⟨rfl, e46, (by decide : 1 + 0 ≤ _), (by decide : 4 + 0 ≤ _)⟩)
      dsimp only [Pt.U, Pt.locs, Pt.cells, Pt.slots] at X49 l49 y49 z49 st49 hQ49
      subst l49 y49 z49
      obtain ⟨rfl, N49q, e49⟩ := hQ49
      have N49 := Fr.app N46 N49q
      have P50 : ∀ t, Steps p.tables e below (T49.setTop (mkF m 124 #[.val (.int p1), .val (.int p2), .val (.int p3), .val (.int p4), .val (.int p5), .val (.int wt), .val (.ref ba), .val (.int fr), .val (.int to), .unset] [(.int (if (2 : Int32) < fr then (0 : Int32) else (if (2 : Int32) < to then (if (nar .byte z25v) = wt then (1 : Int32) else (0 : Int32)) else (0 : Int32))))])) t → Steps p.tables e below (s₁.setTop (entryFrame m #[(.int p1), (.int p2), (.int p3), (.int p4), (.int p5)] maxLocals)) t := fun t k => P48 _ (st49 _ k)
      obtain ⟨q2, hq2⟩ : ∃ z : Int32, z = (if (2 : Int32) < fr then (0 : Int32) else (if (2 : Int32) < to then (if (nar .byte z25v) = wt then (1 : Int32) else (0 : Int32)) else (0 : Int32))) := ⟨_, rfl⟩
      rw [← hq2] at P50
      by_cases c124 : q2 = (0 : Int32)
      · have P51 : ∀ t, Steps p.tables e below (T49.setTop (mkF m 142 #[.val (.int p1), .val (.int p2), .val (.int p3), .val (.int p4), .val (.int p5), .val (.int wt), .val (.ref ba), .val (.int fr), .val (.int to), .unset] [(.int wt), (.int to), (.int fr), (.int (3 : Int32)), (.ref ba)])) t → Steps p.tables e below (s₁.setTop (entryFrame m #[(.int p1), (.int p2), (.int p3), (.int p4), (.int p5)] maxLocals)) t := by
          intro t k
          refine P50 _ ?_
          refine XS.ifYes X49.here hx rfl (pc0 := 124) (pc' := 133) rfl (hb hby at_124) rfl (XT.i0_eq_t c124) (by decide) (by decide) ?_
          show Steps p.tables e below (T49.setTop (mkF m 133 #[.val (.int p1), .val (.int p2), .val (.int p3), .val (.int p4), .val (.int p5), .val (.int wt), .val (.ref ba), .val (.int fr), .val (.int to), .unset] [])) _
          refine XS.aload X49.here hx rfl (hb hby at_133) rfl rfl ?_
          show Steps p.tables e below (T49.setTop (mkF m 135 #[.val (.int p1), .val (.int p2), .val (.int p3), .val (.int p4), .val (.int p5), .val (.int wt), .val (.ref ba), .val (.int fr), .val (.int to), .unset] [(.ref ba)])) _
          refine XS.iconst X49.here hx rfl (hb hby at_135) ?_
          show Steps p.tables e below (T49.setTop (mkF m 136 #[.val (.int p1), .val (.int p2), .val (.int p3), .val (.int p4), .val (.int p5), .val (.int wt), .val (.ref ba), .val (.int fr), .val (.int to), .unset] [(.int (3 : Int32)), (.ref ba)])) _
          refine XS.iload X49.here hx rfl (hb hby at_136) rfl ?_
          show Steps p.tables e below (T49.setTop (mkF m 138 #[.val (.int p1), .val (.int p2), .val (.int p3), .val (.int p4), .val (.int p5), .val (.int wt), .val (.ref ba), .val (.int fr), .val (.int to), .unset] [(.int fr), (.int (3 : Int32)), (.ref ba)])) _
          refine XS.iload X49.here hx rfl (hb hby at_138) rfl ?_
          show Steps p.tables e below (T49.setTop (mkF m 140 #[.val (.int p1), .val (.int p2), .val (.int p3), .val (.int p4), .val (.int p5), .val (.int wt), .val (.ref ba), .val (.int fr), .val (.int to), .unset] [(.int to), (.int fr), (.int (3 : Int32)), (.ref ba)])) _
          refine XS.iload X49.here hx rfl (hb hby at_140) rfl ?_
          show Steps p.tables e below (T49.setTop (mkF m 142 #[.val (.int p1), .val (.int p2), .val (.int p3), .val (.int p4), .val (.int p5), .val (.int wt), .val (.ref ba), .val (.int fr), .val (.int to), .unset] [(.int wt), (.int to), (.int fr), (.int (3 : Int32)), (.ref ba)])) _
          exact k
        obtain ⟨_, _, ⟨T52, L52, k52, n52⟩, -, X52, ⟨Lc52, hQ52, l52, y52, z52⟩, st52⟩ := Jvm.LawKit.callS X49 hx (y := (⟨"ledgerline/cli/LineReaderIndexOfPinLaw", "hit", "([BIIIB)Z"⟩ : MethodName)) hown (mvT hZ (hw _ (List.mem_of_getElem? (i := 6) rfl))) (mvT hZ (hw _ (List.mem_of_getElem? (i := 7) rfl))) (mvT hZ (hw _ (List.mem_of_getElem? (i := 3) rfl))) (mvT hZ (hw _ (List.mem_of_getElem? (i := 8) rfl))) (by decide) (backOf (W := 0) (rm2 l Z a0 hw [] ba (3 : Int32) fr to wt kc_ba [(.int (nar .byte z9v)), (.int (nar .byte z17v)), (.int (nar .byte z25v)), (.int (nar .byte z33v))] (nar .byte z33v) h35 n0 Z37 F36 ⟨by decide, by decide⟩ rfl) hZ (hw _ (List.mem_of_getElem? (i := 8) rfl)) (hw _ (List.mem_of_getElem? (i := 3) rfl)) (by decide) (by decide)) (g := (mkF m 142 #[.val (.int p1), .val (.int p2), .val (.int p3), .val (.int p4), .val (.int p5), .val (.int wt), .val (.ref ba), .val (.int fr), .val (.int to), .unset] [(.int wt), (.int to), (.int fr), (.int (3 : Int32)), (.ref ba)])) rfl (by rw [hml]; rfl) (argsL := [(.ref ba), (.int (3 : Int32)), (.int fr), (.int to), (.int wt)]) (rest := []) (lenOf pd_1 rfl) rfl (by show 2 * 0 + _ ≤ _; exact Nat.le_of_eq rfl) (hb hby at_142) (fun _ _ => ⟨rfl, e49, (by decide : 1 + 0 ≤ _), (by decide : 4 + 0 ≤ _)⟩)
        dsimp only [Pt.U, Pt.locs, Pt.cells, Pt.slots] at X52 l52 y52 z52 st52 hQ52
        subst l52 y52 z52
        obtain ⟨rfl, N52q, e52⟩ := hQ52
        have N52 := Fr.app N49 N52q
        have P53 : ∀ t, Steps p.tables e below (T52.setTop (mkF m 145 #[.val (.int p1), .val (.int p2), .val (.int p3), .val (.int p4), .val (.int p5), .val (.int wt), .val (.ref ba), .val (.int fr), .val (.int to), .unset] [(.int (if (3 : Int32) < fr then (0 : Int32) else (if (3 : Int32) < to then (if (nar .byte z33v) = wt then (1 : Int32) else (0 : Int32)) else (0 : Int32))))])) t → Steps p.tables e below (s₁.setTop (entryFrame m #[(.int p1), (.int p2), (.int p3), (.int p4), (.int p5)] maxLocals)) t := fun t k => P51 _ (st52 _ k)
        obtain ⟨q3, hq3⟩ : ∃ z : Int32, z = (if (3 : Int32) < fr then (0 : Int32) else (if (3 : Int32) < to then (if (nar .byte z33v) = wt then (1 : Int32) else (0 : Int32)) else (0 : Int32))) := ⟨_, rfl⟩
        rw [← hq3] at P53
        by_cases c145 : q3 = (0 : Int32)
        · have P54 : ∀ t, Steps p.tables e below (T52.setTop (mkF m 165 #[.val (.int p1), .val (.int p2), .val (.int p3), .val (.int p4), .val (.int p5), .val (.int wt), .val (.ref ba), .val (.int fr), .val (.int to), .val (.int (-1 : Int32))] [(.int wt), (.int to), (.int fr), (.ref ba)])) t → Steps p.tables e below (s₁.setTop (entryFrame m #[(.int p1), (.int p2), (.int p3), (.int p4), (.int p5)] maxLocals)) t := by
            intro t k
            refine P53 _ ?_
            refine XS.ifYes X52.here hx rfl (pc0 := 145) (pc' := 154) rfl (hb hby at_145) rfl (XT.i0_eq_t c145) (by decide) (by decide) ?_
            show Steps p.tables e below (T52.setTop (mkF m 154 #[.val (.int p1), .val (.int p2), .val (.int p3), .val (.int p4), .val (.int p5), .val (.int wt), .val (.ref ba), .val (.int fr), .val (.int to), .unset] [])) _
            refine XS.iconst X52.here hx rfl (hb hby at_154) ?_
            show Steps p.tables e below (T52.setTop (mkF m 155 #[.val (.int p1), .val (.int p2), .val (.int p3), .val (.int p4), .val (.int p5), .val (.int wt), .val (.ref ba), .val (.int fr), .val (.int to), .unset] [(.int (-1 : Int32))])) _
            refine XS.istore X52.here hx rfl (hb hby at_155) rfl (l' := #[.val (.int p1), .val (.int p2), .val (.int p3), .val (.int p4), .val (.int p5), .val (.int wt), .val (.ref ba), .val (.int fr), .val (.int to), .val (.int (-1 : Int32))]) rfl ?_
            show Steps p.tables e below (T52.setTop (mkF m 157 #[.val (.int p1), .val (.int p2), .val (.int p3), .val (.int p4), .val (.int p5), .val (.int wt), .val (.ref ba), .val (.int fr), .val (.int to), .val (.int (-1 : Int32))] [])) _
            refine XS.aload X52.here hx rfl (hb hby at_157) rfl rfl ?_
            show Steps p.tables e below (T52.setTop (mkF m 159 #[.val (.int p1), .val (.int p2), .val (.int p3), .val (.int p4), .val (.int p5), .val (.int wt), .val (.ref ba), .val (.int fr), .val (.int to), .val (.int (-1 : Int32))] [(.ref ba)])) _
            refine XS.iload X52.here hx rfl (hb hby at_159) rfl ?_
            show Steps p.tables e below (T52.setTop (mkF m 161 #[.val (.int p1), .val (.int p2), .val (.int p3), .val (.int p4), .val (.int p5), .val (.int wt), .val (.ref ba), .val (.int fr), .val (.int to), .val (.int (-1 : Int32))] [(.int fr), (.ref ba)])) _
            refine XS.iload X52.here hx rfl (hb hby at_161) rfl ?_
            show Steps p.tables e below (T52.setTop (mkF m 163 #[.val (.int p1), .val (.int p2), .val (.int p3), .val (.int p4), .val (.int p5), .val (.int wt), .val (.ref ba), .val (.int fr), .val (.int to), .val (.int (-1 : Int32))] [(.int to), (.int fr), (.ref ba)])) _
            refine XS.iload X52.here hx rfl (hb hby at_163) rfl ?_
            show Steps p.tables e below (T52.setTop (mkF m 165 #[.val (.int p1), .val (.int p2), .val (.int p3), .val (.int p4), .val (.int p5), .val (.int wt), .val (.ref ba), .val (.int fr), .val (.int to), .val (.int (-1 : Int32))] [(.int wt), (.int to), (.int fr), (.ref ba)])) _
            exact k
          obtain ⟨_, _, ⟨T55, L55, k55, n55⟩, -, X55, ⟨Lc55, hQ55, l55, y55, z55⟩, st55⟩ := Jvm.LawKit.callS X52 hx (y := (⟨"ledgerline/cli/LineReader", "indexOf", "([BIIB)I"⟩ : MethodName)) hown (mvT hZ (hw _ (List.mem_of_getElem? (i := 9) rfl))) (mvT hZ (hw _ (List.mem_of_getElem? (i := 10) rfl))) (mvT hZ (hw _ (List.mem_of_getElem? (i := 11) rfl))) (mvT hZ (hw _ (List.mem_of_getElem? (i := 12) rfl))) (by decide) (backOf (W := 0) (rm3 l Z a0 hw [] ba fr to wt kc_ba (nar .byte z9v) (nar .byte z17v) (nar .byte z25v) (nar .byte z33v) h35 n0 Z37 F36 hto hfr) hZ (hw _ (List.mem_of_getElem? (i := 12) rfl)) (hw _ (List.mem_of_getElem? (i := 11) rfl)) (by decide) (by decide)) (g := (mkF m 165 #[.val (.int p1), .val (.int p2), .val (.int p3), .val (.int p4), .val (.int p5), .val (.int wt), .val (.ref ba), .val (.int fr), .val (.int to), .val (.int (-1 : Int32))] [(.int wt), (.int to), (.int fr), (.ref ba)])) rfl (by rw [hml]; rfl) (argsL := [(.ref ba), (.int fr), (.int to), (.int wt)]) (rest := []) (lenOf pd_2 rfl) rfl (by show 2 * 0 + _ ≤ _; exact Nat.le_of_eq rfl) (hb hby at_165) (fun _ _ => ⟨rfl, e52, (by decide : 1 + 0 ≤ _), (by decide : 4 + 0 ≤ _)⟩)
          dsimp only [Pt.U, Pt.locs, Pt.cells, Pt.slots] at X55 l55 y55 z55 st55 hQ55
          subst l55 y55 z55
          obtain ⟨rfl, N55q, e55⟩ := hQ55
          have N55 := Fr.app N52 N55q
          have P56 : ∀ t, Steps p.tables e below (T55.setTop (mkF m 168 #[.val (.int p1), .val (.int p2), .val (.int p3), .val (.int p4), .val (.int p5), .val (.int wt), .val (.ref ba), .val (.int fr), .val (.int to), .val (.int (-1 : Int32))] [(.int (own_ix fr to wt (nar .byte z9v) (nar .byte z17v) (nar .byte z25v) (nar .byte z33v)))])) t → Steps p.tables e below (s₁.setTop (entryFrame m #[(.int p1), (.int p2), (.int p3), (.int p4), (.int p5)] maxLocals)) t := fun t k => P54 _ (st55 _ k)
          obtain ⟨r, hr⟩ : ∃ z : Int32, z = (own_ix fr to wt (nar .byte z9v) (nar .byte z17v) (nar .byte z25v) (nar .byte z33v)) := ⟨_, rfl⟩
          rw [← hr] at P56
          have re : r = (-1 : Int32) := by
            rw [hr]
            unfold own_ix
            rw [if_neg (own_no hq0 c82), if_neg (own_no hq1 c103), if_neg (own_no hq2 c124), if_neg (own_no hq3 c145)]
          have P57 : ∀ t, Steps p.tables e below (T55.setTop (mkF m 178 #[.val (.int p1), .val (.int p2), .val (.int p3), .val (.int p4), .val (.int p5), .val (.int wt), .val (.ref ba), .val (.int fr), .val (.int to), .val (.int (-1 : Int32))] [(.int (1 : Int32))])) t → Steps p.tables e below (s₁.setTop (entryFrame m #[(.int p1), (.int p2), (.int p3), (.int p4), (.int p5)] maxLocals)) t := by
            intro t k
            refine P56 _ ?_
            refine XS.iload X55.here hx rfl (hb hby at_168) rfl ?_
            show Steps p.tables e below (T55.setTop (mkF m 170 #[.val (.int p1), .val (.int p2), .val (.int p3), .val (.int p4), .val (.int p5), .val (.int wt), .val (.ref ba), .val (.int fr), .val (.int to), .val (.int (-1 : Int32))] [(.int (-1 : Int32)), (.int r)])) _
            refine XS.icmpNo X55.here hx rfl (hb hby at_170) rfl (XT.ii_ne_f re) ?_
            show Steps p.tables e below (T55.setTop (mkF m 173 #[.val (.int p1), .val (.int p2), .val (.int p3), .val (.int p4), .val (.int p5), .val (.int wt), .val (.ref ba), .val (.int fr), .val (.int to), .val (.int (-1 : Int32))] [])) _
            refine XS.iconst X55.here hx rfl (hb hby at_173) ?_
            show Steps p.tables e below (T55.setTop (mkF m 174 #[.val (.int p1), .val (.int p2), .val (.int p3), .val (.int p4), .val (.int p5), .val (.int wt), .val (.ref ba), .val (.int fr), .val (.int to), .val (.int (-1 : Int32))] [(.int (1 : Int32))])) _
            refine XS.goto X55.here hx rfl (pc0 := 174) (pc' := 178) rfl (hb hby at_174) (by decide) (by decide) ?_
            show Steps p.tables e below (T55.setTop (mkF m 178 #[.val (.int p1), .val (.int p2), .val (.int p3), .val (.int p4), .val (.int p5), .val (.int wt), .val (.ref ba), .val (.int fr), .val (.int to), .val (.int (-1 : Int32))] [(.int (1 : Int32))])) _
            exact k
          obtain ⟨fs, hr, hrun, hended, hW, hsame⟩ := X55.leave (v := some (.int (1 : Int32))) (fun h => by rw [Bd.returns] at h; cases h)
          refine ⟨_, _, P57 _ ?_, hrun, hended, _, _, rfl, ?_, ⟨_, rfl⟩, hW, hsame.mono (by decide) (by decide)⟩
          · exact retN X55 hx (t := .boolean) Bd.returns (by simp) (hb hby at_178) hr
          · show Q0 Z p1 p2 p3 p4 p5 h0 n0 _ T55.heap _
            rw [e55]
            exact ⟨rfl, N55⟩
        · have P58 : ∀ t, Steps p.tables e below (T52.setTop (mkF m 165 #[.val (.int p1), .val (.int p2), .val (.int p3), .val (.int p4), .val (.int p5), .val (.int wt), .val (.ref ba), .val (.int fr), .val (.int to), .val (.int (3 : Int32))] [(.int wt), (.int to), (.int fr), (.ref ba)])) t → Steps p.tables e below (s₁.setTop (entryFrame m #[(.int p1), (.int p2), (.int p3), (.int p4), (.int p5)] maxLocals)) t := by
            intro t k
            refine P53 _ ?_
            refine XS.ifNo X52.here hx rfl (hb hby at_145) rfl (XT.i0_eq_f c145) ?_
            show Steps p.tables e below (T52.setTop (mkF m 148 #[.val (.int p1), .val (.int p2), .val (.int p3), .val (.int p4), .val (.int p5), .val (.int wt), .val (.ref ba), .val (.int fr), .val (.int to), .unset] [])) _
            refine XS.iconst X52.here hx rfl (hb hby at_148) ?_
            show Steps p.tables e below (T52.setTop (mkF m 149 #[.val (.int p1), .val (.int p2), .val (.int p3), .val (.int p4), .val (.int p5), .val (.int wt), .val (.ref ba), .val (.int fr), .val (.int to), .unset] [(.int (3 : Int32))])) _
            refine XS.istore X52.here hx rfl (hb hby at_149) rfl (l' := #[.val (.int p1), .val (.int p2), .val (.int p3), .val (.int p4), .val (.int p5), .val (.int wt), .val (.ref ba), .val (.int fr), .val (.int to), .val (.int (3 : Int32))]) rfl ?_
            show Steps p.tables e below (T52.setTop (mkF m 151 #[.val (.int p1), .val (.int p2), .val (.int p3), .val (.int p4), .val (.int p5), .val (.int wt), .val (.ref ba), .val (.int fr), .val (.int to), .val (.int (3 : Int32))] [])) _
            refine XS.goto X52.here hx rfl (pc0 := 151) (pc' := 157) rfl (hb hby at_151) (by decide) (by decide) ?_
            show Steps p.tables e below (T52.setTop (mkF m 157 #[.val (.int p1), .val (.int p2), .val (.int p3), .val (.int p4), .val (.int p5), .val (.int wt), .val (.ref ba), .val (.int fr), .val (.int to), .val (.int (3 : Int32))] [])) _
            refine XS.aload X52.here hx rfl (hb hby at_157) rfl rfl ?_
            show Steps p.tables e below (T52.setTop (mkF m 159 #[.val (.int p1), .val (.int p2), .val (.int p3), .val (.int p4), .val (.int p5), .val (.int wt), .val (.ref ba), .val (.int fr), .val (.int to), .val (.int (3 : Int32))] [(.ref ba)])) _
            refine XS.iload X52.here hx rfl (hb hby at_159) rfl ?_
            show Steps p.tables e below (T52.setTop (mkF m 161 #[.val (.int p1), .val (.int p2), .val (.int p3), .val (.int p4), .val (.int p5), .val (.int wt), .val (.ref ba), .val (.int fr), .val (.int to), .val (.int (3 : Int32))] [(.int fr), (.ref ba)])) _
            refine XS.iload X52.here hx rfl (hb hby at_161) rfl ?_
            show Steps p.tables e below (T52.setTop (mkF m 163 #[.val (.int p1), .val (.int p2), .val (.int p3), .val (.int p4), .val (.int p5), .val (.int wt), .val (.ref ba), .val (.int fr), .val (.int to), .val (.int (3 : Int32))] [(.int to), (.int fr), (.ref ba)])) _
            refine XS.iload X52.here hx rfl (hb hby at_163) rfl ?_
            show Steps p.tables e below (T52.setTop (mkF m 165 #[.val (.int p1), .val (.int p2), .val (.int p3), .val (.int p4), .val (.int p5), .val (.int wt), .val (.ref ba), .val (.int fr), .val (.int to), .val (.int (3 : Int32))] [(.int wt), (.int to), (.int fr), (.ref ba)])) _
            exact k
          obtain ⟨_, _, ⟨T59, L59, k59, n59⟩, -, X59, ⟨Lc59, hQ59, l59, y59, z59⟩, st59⟩ := Jvm.LawKit.callS X52 hx (y := (⟨"ledgerline/cli/LineReader", "indexOf", "([BIIB)I"⟩ : MethodName)) hown (mvT hZ (hw _ (List.mem_of_getElem? (i := 9) rfl))) (mvT hZ (hw _ (List.mem_of_getElem? (i := 10) rfl))) (mvT hZ (hw _ (List.mem_of_getElem? (i := 11) rfl))) (mvT hZ (hw _ (List.mem_of_getElem? (i := 12) rfl))) (by decide) (backOf (W := 0) (rm3 l Z a0 hw [] ba fr to wt kc_ba (nar .byte z9v) (nar .byte z17v) (nar .byte z25v) (nar .byte z33v) h35 n0 Z37 F36 hto hfr) hZ (hw _ (List.mem_of_getElem? (i := 12) rfl)) (hw _ (List.mem_of_getElem? (i := 11) rfl)) (by decide) (by decide)) (g := (mkF m 165 #[.val (.int p1), .val (.int p2), .val (.int p3), .val (.int p4), .val (.int p5), .val (.int wt), .val (.ref ba), .val (.int fr), .val (.int to), .val (.int (3 : Int32))] [(.int wt), (.int to), (.int fr), (.ref ba)])) rfl (by rw [hml]; rfl) (argsL := [(.ref ba), (.int fr), (.int to), (.int wt)]) (rest := []) (lenOf pd_2 rfl) rfl (by show 2 * 0 + _ ≤ _; exact Nat.le_of_eq rfl) (hb hby at_165) (fun _ _ => ⟨rfl, e52, (by decide : 1 + 0 ≤ _), (by decide : 4 + 0 ≤ _)⟩)
          dsimp only [Pt.U, Pt.locs, Pt.cells, Pt.slots] at X59 l59 y59 z59 st59 hQ59
          subst l59 y59 z59
          obtain ⟨rfl, N59q, e59⟩ := hQ59
          have N59 := Fr.app N52 N59q
          have P60 : ∀ t, Steps p.tables e below (T59.setTop (mkF m 168 #[.val (.int p1), .val (.int p2), .val (.int p3), .val (.int p4), .val (.int p5), .val (.int wt), .val (.ref ba), .val (.int fr), .val (.int to), .val (.int (3 : Int32))] [(.int (own_ix fr to wt (nar .byte z9v) (nar .byte z17v) (nar .byte z25v) (nar .byte z33v)))])) t → Steps p.tables e below (s₁.setTop (entryFrame m #[(.int p1), (.int p2), (.int p3), (.int p4), (.int p5)] maxLocals)) t := fun t k => P58 _ (st59 _ k)
          obtain ⟨r, hr⟩ : ∃ z : Int32, z = (own_ix fr to wt (nar .byte z9v) (nar .byte z17v) (nar .byte z25v) (nar .byte z33v)) := ⟨_, rfl⟩
          rw [← hr] at P60
          have re : r = (3 : Int32) := by
            rw [hr]
            unfold own_ix
            rw [if_neg (own_no hq0 c82), if_neg (own_no hq1 c103), if_neg (own_no hq2 c124), if_pos (own_yes hq3 c145)]
          have P61 : ∀ t, Steps p.tables e below (T59.setTop (mkF m 178 #[.val (.int p1), .val (.int p2), .val (.int p3), .val (.int p4), .val (.int p5), .val (.int wt), .val (.ref ba), .val (.int fr), .val (.int to), .val (.int (3 : Int32))] [(.int (1 : Int32))])) t → Steps p.tables e below (s₁.setTop (entryFrame m #[(.int p1), (.int p2), (.int p3), (.int p4), (.int p5)] maxLocals)) t := by
            intro t k
            refine P60 _ ?_
            refine XS.iload X59.here hx rfl (hb hby at_168) rfl ?_
            show Steps p.tables e below (T59.setTop (mkF m 170 #[.val (.int p1), .val (.int p2), .val (.int p3), .val (.int p4), .val (.int p5), .val (.int wt), .val (.ref ba), .val (.int fr), .val (.int to), .val (.int (3 : Int32))] [(.int (3 : Int32)), (.int r)])) _
            refine XS.icmpNo X59.here hx rfl (hb hby at_170) rfl (XT.ii_ne_f re) ?_
            show Steps p.tables e below (T59.setTop (mkF m 173 #[.val (.int p1), .val (.int p2), .val (.int p3), .val (.int p4), .val (.int p5), .val (.int wt), .val (.ref ba), .val (.int fr), .val (.int to), .val (.int (3 : Int32))] [])) _
            refine XS.iconst X59.here hx rfl (hb hby at_173) ?_
            show Steps p.tables e below (T59.setTop (mkF m 174 #[.val (.int p1), .val (.int p2), .val (.int p3), .val (.int p4), .val (.int p5), .val (.int wt), .val (.ref ba), .val (.int fr), .val (.int to), .val (.int (3 : Int32))] [(.int (1 : Int32))])) _
            refine XS.goto X59.here hx rfl (pc0 := 174) (pc' := 178) rfl (hb hby at_174) (by decide) (by decide) ?_
            show Steps p.tables e below (T59.setTop (mkF m 178 #[.val (.int p1), .val (.int p2), .val (.int p3), .val (.int p4), .val (.int p5), .val (.int wt), .val (.ref ba), .val (.int fr), .val (.int to), .val (.int (3 : Int32))] [(.int (1 : Int32))])) _
            exact k
          obtain ⟨fs, hr, hrun, hended, hW, hsame⟩ := X59.leave (v := some (.int (1 : Int32))) (fun h => by rw [Bd.returns] at h; cases h)
          refine ⟨_, _, P61 _ ?_, hrun, hended, _, _, rfl, ?_, ⟨_, rfl⟩, hW, hsame.mono (by decide) (by decide)⟩
          · exact retN X59 hx (t := .boolean) Bd.returns (by simp) (hb hby at_178) hr
          · show Q0 Z p1 p2 p3 p4 p5 h0 n0 _ T59.heap _
            rw [e59]
            exact ⟨rfl, N59⟩
      · have P62 : ∀ t, Steps p.tables e below (T49.setTop (mkF m 165 #[.val (.int p1), .val (.int p2), .val (.int p3), .val (.int p4), .val (.int p5), .val (.int wt), .val (.ref ba), .val (.int fr), .val (.int to), .val (.int (2 : Int32))] [(.int wt), (.int to), (.int fr), (.ref ba)])) t → Steps p.tables e below (s₁.setTop (entryFrame m #[(.int p1), (.int p2), (.int p3), (.int p4), (.int p5)] maxLocals)) t := by
          intro t k
          refine P50 _ ?_
          refine XS.ifNo X49.here hx rfl (hb hby at_124) rfl (XT.i0_eq_f c124) ?_
          show Steps p.tables e below (T49.setTop (mkF m 127 #[.val (.int p1), .val (.int p2), .val (.int p3), .val (.int p4), .val (.int p5), .val (.int wt), .val (.ref ba), .val (.int fr), .val (.int to), .unset] [])) _
          refine XS.iconst X49.here hx rfl (hb hby at_127) ?_
          show Steps p.tables e below (T49.setTop (mkF m 128 #[.val (.int p1), .val (.int p2), .val (.int p3), .val (.int p4), .val (.int p5), .val (.int wt), .val (.ref ba), .val (.int fr), .val (.int to), .unset] [(.int (2 : Int32))])) _
          refine XS.istore X49.here hx rfl (hb hby at_128) rfl (l' := #[.val (.int p1), .val (.int p2), .val (.int p3), .val (.int p4), .val (.int p5), .val (.int wt), .val (.ref ba), .val (.int fr), .val (.int to), .val (.int (2 : Int32))]) rfl ?_
          show Steps p.tables e below (T49.setTop (mkF m 130 #[.val (.int p1), .val (.int p2), .val (.int p3), .val (.int p4), .val (.int p5), .val (.int wt), .val (.ref ba), .val (.int fr), .val (.int to), .val (.int (2 : Int32))] [])) _
          refine XS.goto X49.here hx rfl (pc0 := 130) (pc' := 157) rfl (hb hby at_130) (by decide) (by decide) ?_
          show Steps p.tables e below (T49.setTop (mkF m 157 #[.val (.int p1), .val (.int p2), .val (.int p3), .val (.int p4), .val (.int p5), .val (.int wt), .val (.ref ba), .val (.int fr), .val (.int to), .val (.int (2 : Int32))] [])) _
          refine XS.aload X49.here hx rfl (hb hby at_157) rfl rfl ?_
          show Steps p.tables e below (T49.setTop (mkF m 159 #[.val (.int p1), .val (.int p2), .val (.int p3), .val (.int p4), .val (.int p5), .val (.int wt), .val (.ref ba), .val (.int fr), .val (.int to), .val (.int (2 : Int32))] [(.ref ba)])) _
          refine XS.iload X49.here hx rfl (hb hby at_159) rfl ?_
          show Steps p.tables e below (T49.setTop (mkF m 161 #[.val (.int p1), .val (.int p2), .val (.int p3), .val (.int p4), .val (.int p5), .val (.int wt), .val (.ref ba), .val (.int fr), .val (.int to), .val (.int (2 : Int32))] [(.int fr), (.ref ba)])) _
          refine XS.iload X49.here hx rfl (hb hby at_161) rfl ?_
          show Steps p.tables e below (T49.setTop (mkF m 163 #[.val (.int p1), .val (.int p2), .val (.int p3), .val (.int p4), .val (.int p5), .val (.int wt), .val (.ref ba), .val (.int fr), .val (.int to), .val (.int (2 : Int32))] [(.int to), (.int fr), (.ref ba)])) _
          refine XS.iload X49.here hx rfl (hb hby at_163) rfl ?_
          show Steps p.tables e below (T49.setTop (mkF m 165 #[.val (.int p1), .val (.int p2), .val (.int p3), .val (.int p4), .val (.int p5), .val (.int wt), .val (.ref ba), .val (.int fr), .val (.int to), .val (.int (2 : Int32))] [(.int wt), (.int to), (.int fr), (.ref ba)])) _
          exact k
        obtain ⟨_, _, ⟨T63, L63, k63, n63⟩, -, X63, ⟨Lc63, hQ63, l63, y63, z63⟩, st63⟩ := Jvm.LawKit.callS X49 hx (y := (⟨"ledgerline/cli/LineReader", "indexOf", "([BIIB)I"⟩ : MethodName)) hown (mvT hZ (hw _ (List.mem_of_getElem? (i := 9) rfl))) (mvT hZ (hw _ (List.mem_of_getElem? (i := 10) rfl))) (mvT hZ (hw _ (List.mem_of_getElem? (i := 11) rfl))) (mvT hZ (hw _ (List.mem_of_getElem? (i := 12) rfl))) (by decide) (backOf (W := 0) (rm3 l Z a0 hw [] ba fr to wt kc_ba (nar .byte z9v) (nar .byte z17v) (nar .byte z25v) (nar .byte z33v) h35 n0 Z37 F36 hto hfr) hZ (hw _ (List.mem_of_getElem? (i := 12) rfl)) (hw _ (List.mem_of_getElem? (i := 11) rfl)) (by decide) (by decide)) (g := (mkF m 165 #[.val (.int p1), .val (.int p2), .val (.int p3), .val (.int p4), .val (.int p5), .val (.int wt), .val (.ref ba), .val (.int fr), .val (.int to), .val (.int (2 : Int32))] [(.int wt), (.int to), (.int fr), (.ref ba)])) rfl (by rw [hml]; rfl) (argsL := [(.ref ba), (.int fr), (.int to), (.int wt)]) (rest := []) (lenOf pd_2 rfl) rfl (by show 2 * 0 + _ ≤ _; exact Nat.le_of_eq rfl) (hb hby at_165) (fun _ _ => ⟨rfl, e49, (by decide : 1 + 0 ≤ _), (by decide : 4 + 0 ≤ _)⟩)
        dsimp only [Pt.U, Pt.locs, Pt.cells, Pt.slots] at X63 l63 y63 z63 st63 hQ63
        subst l63 y63 z63
        obtain ⟨rfl, N63q, e63⟩ := hQ63
        have N63 := Fr.app N49 N63q
        have P64 : ∀ t, Steps p.tables e below (T63.setTop (mkF m 168 #[.val (.int p1), .val (.int p2), .val (.int p3), .val (.int p4), .val (.int p5), .val (.int wt), .val (.ref ba), .val (.int fr), .val (.int to), .val (.int (2 : Int32))] [(.int (own_ix fr to wt (nar .byte z9v) (nar .byte z17v) (nar .byte z25v) (nar .byte z33v)))])) t → Steps p.tables e below (s₁.setTop (entryFrame m #[(.int p1), (.int p2), (.int p3), (.int p4), (.int p5)] maxLocals)) t := fun t k => P62 _ (st63 _ k)
        obtain ⟨r, hr⟩ : ∃ z : Int32, z = (own_ix fr to wt (nar .byte z9v) (nar .byte z17v) (nar .byte z25v) (nar .byte z33v)) := ⟨_, rfl⟩
        rw [← hr] at P64
        have re : r = (2 : Int32) := by
          rw [hr]
          unfold own_ix
          rw [if_neg (own_no hq0 c82), if_neg (own_no hq1 c103), if_pos (own_yes hq2 c124)]
        have P65 : ∀ t, Steps p.tables e below (T63.setTop (mkF m 178 #[.val (.int p1), .val (.int p2), .val (.int p3), .val (.int p4), .val (.int p5), .val (.int wt), .val (.ref ba), .val (.int fr), .val (.int to), .val (.int (2 : Int32))] [(.int (1 : Int32))])) t → Steps p.tables e below (s₁.setTop (entryFrame m #[(.int p1), (.int p2), (.int p3), (.int p4), (.int p5)] maxLocals)) t := by
          intro t k
          refine P64 _ ?_
          refine XS.iload X63.here hx rfl (hb hby at_168) rfl ?_
          show Steps p.tables e below (T63.setTop (mkF m 170 #[.val (.int p1), .val (.int p2), .val (.int p3), .val (.int p4), .val (.int p5), .val (.int wt), .val (.ref ba), .val (.int fr), .val (.int to), .val (.int (2 : Int32))] [(.int (2 : Int32)), (.int r)])) _
          refine XS.icmpNo X63.here hx rfl (hb hby at_170) rfl (XT.ii_ne_f re) ?_
          show Steps p.tables e below (T63.setTop (mkF m 173 #[.val (.int p1), .val (.int p2), .val (.int p3), .val (.int p4), .val (.int p5), .val (.int wt), .val (.ref ba), .val (.int fr), .val (.int to), .val (.int (2 : Int32))] [])) _
          refine XS.iconst X63.here hx rfl (hb hby at_173) ?_
          show Steps p.tables e below (T63.setTop (mkF m 174 #[.val (.int p1), .val (.int p2), .val (.int p3), .val (.int p4), .val (.int p5), .val (.int wt), .val (.ref ba), .val (.int fr), .val (.int to), .val (.int (2 : Int32))] [(.int (1 : Int32))])) _
          refine XS.goto X63.here hx rfl (pc0 := 174) (pc' := 178) rfl (hb hby at_174) (by decide) (by decide) ?_
          show Steps p.tables e below (T63.setTop (mkF m 178 #[.val (.int p1), .val (.int p2), .val (.int p3), .val (.int p4), .val (.int p5), .val (.int wt), .val (.ref ba), .val (.int fr), .val (.int to), .val (.int (2 : Int32))] [(.int (1 : Int32))])) _
          exact k
        obtain ⟨fs, hr, hrun, hended, hW, hsame⟩ := X63.leave (v := some (.int (1 : Int32))) (fun h => by rw [Bd.returns] at h; cases h)
        refine ⟨_, _, P65 _ ?_, hrun, hended, _, _, rfl, ?_, ⟨_, rfl⟩, hW, hsame.mono (by decide) (by decide)⟩
        · exact retN X63 hx (t := .boolean) Bd.returns (by simp) (hb hby at_178) hr
        · show Q0 Z p1 p2 p3 p4 p5 h0 n0 _ T63.heap _
          rw [e63]
          exact ⟨rfl, N63⟩
    · have P66 : ∀ t, Steps p.tables e below (T46.setTop (mkF m 165 #[.val (.int p1), .val (.int p2), .val (.int p3), .val (.int p4), .val (.int p5), .val (.int wt), .val (.ref ba), .val (.int fr), .val (.int to), .val (.int (1 : Int32))] [(.int wt), (.int to), (.int fr), (.ref ba)])) t → Steps p.tables e below (s₁.setTop (entryFrame m #[(.int p1), (.int p2), (.int p3), (.int p4), (.int p5)] maxLocals)) t := by
        intro t k
        refine P47 _ ?_
        refine XS.ifNo X46.here hx rfl (hb hby at_103) rfl (XT.i0_eq_f c103) ?_
        show Steps p.tables e below (T46.setTop (mkF m 106 #[.val (.int p1), .val (.int p2), .val (.int p3), .val (.int p4), .val (.int p5), .val (.int wt), .val (.ref ba), .val (.int fr), .val (.int to), .unset] [])) _
        refine XS.iconst X46.here hx rfl (hb hby at_106) ?_
        show Steps p.tables e below (T46.setTop (mkF m 107 #[.val (.int p1), .val (.int p2), .val (.int p3), .val (.int p4), .val (.int p5), .val (.int wt), .val (.ref ba), .val (.int fr), .val (.int to), .unset] [(.int (1 : Int32))])) _
        refine XS.istore X46.here hx rfl (hb hby at_107) rfl (l' := #[.val (.int p1), .val (.int p2), .val (.int p3), .val (.int p4), .val (.int p5), .val (.int wt), .val (.ref ba), .val (.int fr), .val (.int to), .val (.int (1 : Int32))]) rfl ?_
        show Steps p.tables e below (T46.setTop (mkF m 109 #[.val (.int p1), .val (.int p2), .val (.int p3), .val (.int p4), .val (.int p5), .val (.int wt), .val (.ref ba), .val (.int fr), .val (.int to), .val (.int (1 : Int32))] [])) _
        refine XS.goto X46.here hx rfl (pc0 := 109) (pc' := 157) rfl (hb hby at_109) (by decide) (by decide) ?_
        show Steps p.tables e below (T46.setTop (mkF m 157 #[.val (.int p1), .val (.int p2), .val (.int p3), .val (.int p4), .val (.int p5), .val (.int wt), .val (.ref ba), .val (.int fr), .val (.int to), .val (.int (1 : Int32))] [])) _
        refine XS.aload X46.here hx rfl (hb hby at_157) rfl rfl ?_
        show Steps p.tables e below (T46.setTop (mkF m 159 #[.val (.int p1), .val (.int p2), .val (.int p3), .val (.int p4), .val (.int p5), .val (.int wt), .val (.ref ba), .val (.int fr), .val (.int to), .val (.int (1 : Int32))] [(.ref ba)])) _
        refine XS.iload X46.here hx rfl (hb hby at_159) rfl ?_
        show Steps p.tables e below (T46.setTop (mkF m 161 #[.val (.int p1), .val (.int p2), .val (.int p3), .val (.int p4), .val (.int p5), .val (.int wt), .val (.ref ba), .val (.int fr), .val (.int to), .val (.int (1 : Int32))] [(.int fr), (.ref ba)])) _
        refine XS.iload X46.here hx rfl (hb hby at_161) rfl ?_
        show Steps p.tables e below (T46.setTop (mkF m 163 #[.val (.int p1), .val (.int p2), .val (.int p3), .val (.int p4), .val (.int p5), .val (.int wt), .val (.ref ba), .val (.int fr), .val (.int to), .val (.int (1 : Int32))] [(.int to), (.int fr), (.ref ba)])) _
        refine XS.iload X46.here hx rfl (hb hby at_163) rfl ?_
        show Steps p.tables e below (T46.setTop (mkF m 165 #[.val (.int p1), .val (.int p2), .val (.int p3), .val (.int p4), .val (.int p5), .val (.int wt), .val (.ref ba), .val (.int fr), .val (.int to), .val (.int (1 : Int32))] [(.int wt), (.int to), (.int fr), (.ref ba)])) _
        exact k
      obtain ⟨_, _, ⟨T67, L67, k67, n67⟩, -, X67, ⟨Lc67, hQ67, l67, y67, z67⟩, st67⟩ := Jvm.LawKit.callS X46 hx (y := (⟨"ledgerline/cli/LineReader", "indexOf", "([BIIB)I"⟩ : MethodName)) hown (mvT hZ (hw _ (List.mem_of_getElem? (i := 9) rfl))) (mvT hZ (hw _ (List.mem_of_getElem? (i := 10) rfl))) (mvT hZ (hw _ (List.mem_of_getElem? (i := 11) rfl))) (mvT hZ (hw _ (List.mem_of_getElem? (i := 12) rfl))) (by decide) (backOf (W := 0) (rm3 l Z a0 hw [] ba fr to wt kc_ba (nar .byte z9v) (nar .byte z17v) (nar .byte z25v) (nar .byte z33v) h35 n0 Z37 F36 hto hfr) hZ (hw _ (List.mem_of_getElem? (i := 12) rfl)) (hw _ (List.mem_of_getElem? (i := 11) rfl)) (by decide) (by decide)) (g := (mkF m 165 #[.val (.int p1), .val (.int p2), .val (.int p3), .val (.int p4), .val (.int p5), .val (.int wt), .val (.ref ba), .val (.int fr), .val (.int to), .val (.int (1 : Int32))] [(.int wt), (.int to), (.int fr), (.ref ba)])) rfl (by rw [hml]; rfl) (argsL := [(.ref ba), (.int fr), (.int to), (.int wt)]) (rest := []) (lenOf pd_2 rfl) rfl (by show 2 * 0 + _ ≤ _; exact Nat.le_of_eq rfl) (hb hby at_165) (fun _ _ => ⟨rfl, e46, (by decide : 1 + 0 ≤ _), (by decide : 4 + 0 ≤ _)⟩)
      dsimp only [Pt.U, Pt.locs, Pt.cells, Pt.slots] at X67 l67 y67 z67 st67 hQ67
      subst l67 y67 z67
      obtain ⟨rfl, N67q, e67⟩ := hQ67
      have N67 := Fr.app N46 N67q
      have P68 : ∀ t, Steps p.tables e below (T67.setTop (mkF m 168 #[.val (.int p1), .val (.int p2), .val (.int p3), .val (.int p4), .val (.int p5), .val (.int wt), .val (.ref ba), .val (.int fr), .val (.int to), .val (.int (1 : Int32))] [(.int (own_ix fr to wt (nar .byte z9v) (nar .byte z17v) (nar .byte z25v) (nar .byte z33v)))])) t → Steps p.tables e below (s₁.setTop (entryFrame m #[(.int p1), (.int p2), (.int p3), (.int p4), (.int p5)] maxLocals)) t := fun t k => P66 _ (st67 _ k)
      obtain ⟨r, hr⟩ : ∃ z : Int32, z = (own_ix fr to wt (nar .byte z9v) (nar .byte z17v) (nar .byte z25v) (nar .byte z33v)) := ⟨_, rfl⟩
      rw [← hr] at P68
      have re : r = (1 : Int32) := by
        rw [hr]
        unfold own_ix
        rw [if_neg (own_no hq0 c82), if_pos (own_yes hq1 c103)]
      have P69 : ∀ t, Steps p.tables e below (T67.setTop (mkF m 178 #[.val (.int p1), .val (.int p2), .val (.int p3), .val (.int p4), .val (.int p5), .val (.int wt), .val (.ref ba), .val (.int fr), .val (.int to), .val (.int (1 : Int32))] [(.int (1 : Int32))])) t → Steps p.tables e below (s₁.setTop (entryFrame m #[(.int p1), (.int p2), (.int p3), (.int p4), (.int p5)] maxLocals)) t := by
        intro t k
        refine P68 _ ?_
        refine XS.iload X67.here hx rfl (hb hby at_168) rfl ?_
        show Steps p.tables e below (T67.setTop (mkF m 170 #[.val (.int p1), .val (.int p2), .val (.int p3), .val (.int p4), .val (.int p5), .val (.int wt), .val (.ref ba), .val (.int fr), .val (.int to), .val (.int (1 : Int32))] [(.int (1 : Int32)), (.int r)])) _
        refine XS.icmpNo X67.here hx rfl (hb hby at_170) rfl (XT.ii_ne_f re) ?_
        show Steps p.tables e below (T67.setTop (mkF m 173 #[.val (.int p1), .val (.int p2), .val (.int p3), .val (.int p4), .val (.int p5), .val (.int wt), .val (.ref ba), .val (.int fr), .val (.int to), .val (.int (1 : Int32))] [])) _
        refine XS.iconst X67.here hx rfl (hb hby at_173) ?_
        show Steps p.tables e below (T67.setTop (mkF m 174 #[.val (.int p1), .val (.int p2), .val (.int p3), .val (.int p4), .val (.int p5), .val (.int wt), .val (.ref ba), .val (.int fr), .val (.int to), .val (.int (1 : Int32))] [(.int (1 : Int32))])) _
        refine XS.goto X67.here hx rfl (pc0 := 174) (pc' := 178) rfl (hb hby at_174) (by decide) (by decide) ?_
        show Steps p.tables e below (T67.setTop (mkF m 178 #[.val (.int p1), .val (.int p2), .val (.int p3), .val (.int p4), .val (.int p5), .val (.int wt), .val (.ref ba), .val (.int fr), .val (.int to), .val (.int (1 : Int32))] [(.int (1 : Int32))])) _
        exact k
      obtain ⟨fs, hr, hrun, hended, hW, hsame⟩ := X67.leave (v := some (.int (1 : Int32))) (fun h => by rw [Bd.returns] at h; cases h)
      refine ⟨_, _, P69 _ ?_, hrun, hended, _, _, rfl, ?_, ⟨_, rfl⟩, hW, hsame.mono (by decide) (by decide)⟩
      · exact retN X67 hx (t := .boolean) Bd.returns (by simp) (hb hby at_178) hr
      · show Q0 Z p1 p2 p3 p4 p5 h0 n0 _ T67.heap _
        rw [e67]
        exact ⟨rfl, N67⟩
  · have P70 : ∀ t, Steps p.tables e below (T43.setTop (mkF m 165 #[.val (.int p1), .val (.int p2), .val (.int p3), .val (.int p4), .val (.int p5), .val (.int wt), .val (.ref ba), .val (.int fr), .val (.int to), .val (.int (0 : Int32))] [(.int wt), (.int to), (.int fr), (.ref ba)])) t → Steps p.tables e below (s₁.setTop (entryFrame m #[(.int p1), (.int p2), (.int p3), (.int p4), (.int p5)] maxLocals)) t := by
      intro t k
      refine P44 _ ?_
      refine XS.ifNo X43.here hx rfl (hb hby at_82) rfl (XT.i0_eq_f c82) ?_
      show Steps p.tables e below (T43.setTop (mkF m 85 #[.val (.int p1), .val (.int p2), .val (.int p3), .val (.int p4), .val (.int p5), .val (.int wt), .val (.ref ba), .val (.int fr), .val (.int to), .unset] [])) _
      refine XS.iconst X43.here hx rfl (hb hby at_85) ?_
      show Steps p.tables e below (T43.setTop (mkF m 86 #[.val (.int p1), .val (.int p2), .val (.int p3), .val (.int p4), .val (.int p5), .val (.int wt), .val (.ref ba), .val (.int fr), .val (.int to), .unset] [(.int (0 : Int32))])) _
      refine XS.istore X43.here hx rfl (hb hby at_86) rfl (l' := #[.val (.int p1), .val (.int p2), .val (.int p3), .val (.int p4), .val (.int p5), .val (.int wt), .val (.ref ba), .val (.int fr), .val (.int to), .val (.int (0 : Int32))]) rfl ?_
      show Steps p.tables e below (T43.setTop (mkF m 88 #[.val (.int p1), .val (.int p2), .val (.int p3), .val (.int p4), .val (.int p5), .val (.int wt), .val (.ref ba), .val (.int fr), .val (.int to), .val (.int (0 : Int32))] [])) _
      refine XS.goto X43.here hx rfl (pc0 := 88) (pc' := 157) rfl (hb hby at_88) (by decide) (by decide) ?_
      show Steps p.tables e below (T43.setTop (mkF m 157 #[.val (.int p1), .val (.int p2), .val (.int p3), .val (.int p4), .val (.int p5), .val (.int wt), .val (.ref ba), .val (.int fr), .val (.int to), .val (.int (0 : Int32))] [])) _
      refine XS.aload X43.here hx rfl (hb hby at_157) rfl rfl ?_
      show Steps p.tables e below (T43.setTop (mkF m 159 #[.val (.int p1), .val (.int p2), .val (.int p3), .val (.int p4), .val (.int p5), .val (.int wt), .val (.ref ba), .val (.int fr), .val (.int to), .val (.int (0 : Int32))] [(.ref ba)])) _
      refine XS.iload X43.here hx rfl (hb hby at_159) rfl ?_
      show Steps p.tables e below (T43.setTop (mkF m 161 #[.val (.int p1), .val (.int p2), .val (.int p3), .val (.int p4), .val (.int p5), .val (.int wt), .val (.ref ba), .val (.int fr), .val (.int to), .val (.int (0 : Int32))] [(.int fr), (.ref ba)])) _
      refine XS.iload X43.here hx rfl (hb hby at_161) rfl ?_
      show Steps p.tables e below (T43.setTop (mkF m 163 #[.val (.int p1), .val (.int p2), .val (.int p3), .val (.int p4), .val (.int p5), .val (.int wt), .val (.ref ba), .val (.int fr), .val (.int to), .val (.int (0 : Int32))] [(.int to), (.int fr), (.ref ba)])) _
      refine XS.iload X43.here hx rfl (hb hby at_163) rfl ?_
      show Steps p.tables e below (T43.setTop (mkF m 165 #[.val (.int p1), .val (.int p2), .val (.int p3), .val (.int p4), .val (.int p5), .val (.int wt), .val (.ref ba), .val (.int fr), .val (.int to), .val (.int (0 : Int32))] [(.int wt), (.int to), (.int fr), (.ref ba)])) _
      exact k
    obtain ⟨_, _, ⟨T71, L71, k71, n71⟩, -, X71, ⟨Lc71, hQ71, l71, y71, z71⟩, st71⟩ := Jvm.LawKit.callS X43 hx (y := (⟨"ledgerline/cli/LineReader", "indexOf", "([BIIB)I"⟩ : MethodName)) hown (mvT hZ (hw _ (List.mem_of_getElem? (i := 9) rfl))) (mvT hZ (hw _ (List.mem_of_getElem? (i := 10) rfl))) (mvT hZ (hw _ (List.mem_of_getElem? (i := 11) rfl))) (mvT hZ (hw _ (List.mem_of_getElem? (i := 12) rfl))) (by decide) (backOf (W := 0) (rm3 l Z a0 hw [] ba fr to wt kc_ba (nar .byte z9v) (nar .byte z17v) (nar .byte z25v) (nar .byte z33v) h35 n0 Z37 F36 hto hfr) hZ (hw _ (List.mem_of_getElem? (i := 12) rfl)) (hw _ (List.mem_of_getElem? (i := 11) rfl)) (by decide) (by decide)) (g := (mkF m 165 #[.val (.int p1), .val (.int p2), .val (.int p3), .val (.int p4), .val (.int p5), .val (.int wt), .val (.ref ba), .val (.int fr), .val (.int to), .val (.int (0 : Int32))] [(.int wt), (.int to), (.int fr), (.ref ba)])) rfl (by rw [hml]; rfl) (argsL := [(.ref ba), (.int fr), (.int to), (.int wt)]) (rest := []) (lenOf pd_2 rfl) rfl (by show 2 * 0 + _ ≤ _; exact Nat.le_of_eq rfl) (hb hby at_165) (fun _ _ => ⟨rfl, e43, (by decide : 1 + 0 ≤ _), (by decide : 4 + 0 ≤ _)⟩)
    dsimp only [Pt.U, Pt.locs, Pt.cells, Pt.slots] at X71 l71 y71 z71 st71 hQ71
    subst l71 y71 z71
    obtain ⟨rfl, N71q, e71⟩ := hQ71
    have N71 := Fr.app N43 N71q
    have P72 : ∀ t, Steps p.tables e below (T71.setTop (mkF m 168 #[.val (.int p1), .val (.int p2), .val (.int p3), .val (.int p4), .val (.int p5), .val (.int wt), .val (.ref ba), .val (.int fr), .val (.int to), .val (.int (0 : Int32))] [(.int (own_ix fr to wt (nar .byte z9v) (nar .byte z17v) (nar .byte z25v) (nar .byte z33v)))])) t → Steps p.tables e below (s₁.setTop (entryFrame m #[(.int p1), (.int p2), (.int p3), (.int p4), (.int p5)] maxLocals)) t := fun t k => P70 _ (st71 _ k)
    obtain ⟨r, hr⟩ : ∃ z : Int32, z = (own_ix fr to wt (nar .byte z9v) (nar .byte z17v) (nar .byte z25v) (nar .byte z33v)) := ⟨_, rfl⟩
    rw [← hr] at P72
    have re : r = (0 : Int32) := by
      rw [hr]
      unfold own_ix
      rw [if_pos (own_yes hq0 c82)]
    have P73 : ∀ t, Steps p.tables e below (T71.setTop (mkF m 178 #[.val (.int p1), .val (.int p2), .val (.int p3), .val (.int p4), .val (.int p5), .val (.int wt), .val (.ref ba), .val (.int fr), .val (.int to), .val (.int (0 : Int32))] [(.int (1 : Int32))])) t → Steps p.tables e below (s₁.setTop (entryFrame m #[(.int p1), (.int p2), (.int p3), (.int p4), (.int p5)] maxLocals)) t := by
      intro t k
      refine P72 _ ?_
      refine XS.iload X71.here hx rfl (hb hby at_168) rfl ?_
      show Steps p.tables e below (T71.setTop (mkF m 170 #[.val (.int p1), .val (.int p2), .val (.int p3), .val (.int p4), .val (.int p5), .val (.int wt), .val (.ref ba), .val (.int fr), .val (.int to), .val (.int (0 : Int32))] [(.int (0 : Int32)), (.int r)])) _
      refine XS.icmpNo X71.here hx rfl (hb hby at_170) rfl (XT.ii_ne_f re) ?_
      show Steps p.tables e below (T71.setTop (mkF m 173 #[.val (.int p1), .val (.int p2), .val (.int p3), .val (.int p4), .val (.int p5), .val (.int wt), .val (.ref ba), .val (.int fr), .val (.int to), .val (.int (0 : Int32))] [])) _
      refine XS.iconst X71.here hx rfl (hb hby at_173) ?_
      show Steps p.tables e below (T71.setTop (mkF m 174 #[.val (.int p1), .val (.int p2), .val (.int p3), .val (.int p4), .val (.int p5), .val (.int wt), .val (.ref ba), .val (.int fr), .val (.int to), .val (.int (0 : Int32))] [(.int (1 : Int32))])) _
      refine XS.goto X71.here hx rfl (pc0 := 174) (pc' := 178) rfl (hb hby at_174) (by decide) (by decide) ?_
      show Steps p.tables e below (T71.setTop (mkF m 178 #[.val (.int p1), .val (.int p2), .val (.int p3), .val (.int p4), .val (.int p5), .val (.int wt), .val (.ref ba), .val (.int fr), .val (.int to), .val (.int (0 : Int32))] [(.int (1 : Int32))])) _
      exact k
    obtain ⟨fs, hr, hrun, hended, hW, hsame⟩ := X71.leave (v := some (.int (1 : Int32))) (fun h => by rw [Bd.returns] at h; cases h)
    refine ⟨_, _, P73 _ ?_, hrun, hended, _, _, rfl, ?_, ⟨_, rfl⟩, hW, hsame.mono (by decide) (by decide)⟩
    · exact retN X71 hx (t := .boolean) Bd.returns (by simp) (hb hby at_178) hr
    · show Q0 Z p1 p2 p3 p4 p5 h0 n0 _ T71.heap _
      rw [e71]
      exact ⟨rfl, N71⟩
set_option maxRecDepth 65536 in
set_option maxHeartbeats 40000000 in
theorem comes_1 {Post : Tables → Env → Array Value → State → Outcome → State → Prop} (hpost : ∀ tb e args s v u, (limb_1_1.after args s (.returned v) u = true ∧ limb_1_2.after args s (.returned v) u = true ∧ True) → FrameEnd s (.returned v) u (Jvm.fieldLocs frame_1_writes args s ++ Jvm.arrayLocs frame_1_arrays args s ++ Jvm.staticLocs frame_1_statics s) 16 128 → Post tb e args s (.returned v) u) :
    ArmFor flags0 classFile x code maxLocals ret World_1 tables_1 room_1 Calls_1 rest_1 Pre_1 Post := by
  intro l hfl _ _ p e ha hc hk s m args below hf hA hF happ hP
  obtain ⟨hcalls, hrest, hpre⟩ := hP
  obtain ⟨-, -, -, hnamed, -, -, -, hat⟩ := (Spec.applies_iff hf).mp happ
  obtain ⟨hg, hn⟩ := and_e (Cond.before_iff.mp (show (Jvm.Cond.and given_1 narrow_1).before args s = true from hpre))
  obtain ⟨g1, g2⟩ := and_e hg
  obtain ⟨g3, g4⟩ := and_e g2
  obtain ⟨g5, g6⟩ := and_e g4
  obtain ⟨g7, g8⟩ := and_e g6
  obtain ⟨g9, g10⟩ := and_e g8
  obtain ⟨w0, w1, w2, w3, w4, rfl⟩ : ∃ w0 w1 w2 w3 w4 : Value, args = #[w0, w1, w2, w3, w4] := by
    have hs : args.size = 5 := by simpa [Cond.value, given_1] using g1
    obtain ⟨L⟩ := args
    match L, hs with
    | [w0, w1, w2, w3, w4], _ => exact ⟨w0, w1, w2, w3, w4, rfl⟩
  have hw := fun d (hd : d ∈ tables_1) => atoms_spec (ws := Jvm.Cond.code x code maxLocals ret :: tables_1) hat d (List.mem_cons_of_mem _ hd)
  have hfit : Fit s := fun {y c} hc i hi => by
    obtain ⟨ha, rfl⟩ := Array.getElem?_eq_some_iff.mp hc
    have q := List.all_eq_true.mp ((Array.all_eq_true_iff_forall_mem.mp hF) _ (Array.getElem_mem ha)) i (List.mem_range.mpr hi)
    simpa [Array.getElem?_eq_getElem hi] using q
  obtain ⟨i0, ei0⟩ := is_v g3
  obtain rfl : w0 = (.int i0) := Option.some.inj ei0
  obtain ⟨i1, ei1⟩ := is_v g5
  obtain rfl : w1 = (.int i1) := Option.some.inj ei1
  obtain ⟨i2, ei2⟩ := is_v g7
  obtain rfl : w2 = (.int i2) := Option.some.inj ei2
  obtain ⟨i3, ei3⟩ := is_v g9
  obtain rfl : w3 = (.int i3) := Option.some.inj ei3
  obtain ⟨i4, ei4⟩ := is_v g10
  obtain rfl : w4 = (.int i4) := Option.some.inj ei4
  obtain ⟨n, o, h1, h2, h3, _, L, rfl, ⟨rfl, N⟩, hq⟩ := rm0 l s _ hw tables_1 i0 i1 i2 i3 i4  s.heap s.heap.size (Nat.le_refl _)  p e ha hc hk s m _ below hf ((Spec.applies_iff_loose hf).mp happ).1 ⟨rfl, State.Warmed39.refl s, rfl⟩ trivial
  refine ⟨n, _, h1, h2, h3, hpost _ _ _ _ _ _ ⟨Cond.after_iff.mpr rfl, Cond.after_iff.mpr (eq_i res_at (Term.int_eval (1)) rfl), trivial⟩ ⟨hq.1, hq.2.1, (hq.2.2.sift fun y hy => Or.inr (N y hy)).mono (by decide) (by decide)⟩⟩
theorem main_1_1 : Claimed_1_1 := comes_1 fun _ _ _ _ _ _ h hF => ⟨h.1, hF⟩
theorem main_1_2 : Claimed_1_2 := comes_1 fun _ _ _ _ _ _ h hF => ⟨h.2.1, hF⟩
end Jvm.Pilot.@@N@@
namespace Jvm.Pilot.@@N@@
open Jvm Jvm.ClassFile Sem Op Lib Jvm.Free Jvm.Stand Jvm.Pilot.@@N@@.Jvm.D
/-! MADE BY PROGRAM (witnessworld.py) out of the Statement's table words and the real class files: 9 classes; the members and pool entries that the words name. The judged class is class 1, her method 3. -/
namespace start1
open Jvm.ClassFile
def u (s : String) : CpInfo := .utf8 (stringToUtf16 s)
/-- a pool by its gaps: so many unusable entries, then the entry; so many at the end -/
def gap : Nat → List CpInfo → List CpInfo
  | 0, r => r
  | n + 1, r => .unusable :: gap n r
def poolList (es : List (Nat × CpInfo)) (last : Nat) : List CpInfo := es.foldr (fun e r => gap e.1 (e.2 :: r)) (gap last [])
def pool (es : List (Nat × CpInfo)) (last : Nat) : Array CpInfo := ⟨poolList es last⟩
def fileOf (pool : Array CpInfo) (this : Nat) (attrs : Array Attribute := #[]) (ms : Array MethodInfo := #[]) (fl : Nat := 33) (sup : Nat := 0) (ifs : Array Nat := #[]) (fds : Array FieldInfo := #[]) : ClassFile where
  minorVersion := 0
  majorVersion := 65
  constantPool := pool
  accessFlags := fl
  thisClass := this
  superClass := sup
  interfaces := ifs
  fields := fds
  methods := ms
  attributes := attrs
def plain (name : String) (sup : Option ClassId) : Class where
  name := name
  kind := .ordinary
  loader := none
  accessFlags := 33
  super := sup
  interfaces := #[]
  cf := none
  fields := #[]
  methods := #[]
  instanceTypes := #[]
  staticTypes := #[]
  resolved := #[]
  callSites := []
  init := .initialized
  statics := none
  mirror := none

def pool0 : Array CpInfo := pool [(5, u "<init>"), (0, u "()V"), (1, .class_ 10), (1, u "java/lang/Object")] 113

def k0m0 : Method := { name := "<init>", desc := "()V", sig := { parameters := [], returnType := none }, accessFlags := 1, code := none }
/-- java/lang/Object -/
def k0 : Class := { plain "java/lang/Object" none with
  accessFlags := 33
  interfaces := #[]
  cf := some (fileOf pool0 8 #[] #[{ accessFlags := 1, nameIndex := 5, descriptorIndex := 6, attributes := #[] }] 33 0 #[] #[])
  fields := #[]
  methods := #[k0m0]
  instanceTypes := #[]
  staticTypes := #[]
  resolved := Array.replicate 124 none
  statics := none }

def pool1 : Array CpInfo := pool [(2, .class_ 4), (1, u "java/lang/Object"), (0, u "<init>"), (0, u "()V"), (0, .methodref 8 9), (0, .class_ 10), (0, .nameAndType 11 12), (0, u "ledgerline/cli/LineReaderIndexOfPinLaw"), (0, u "cell"), (0, u "(IIII)B"), (0, .integer 2147483647), (0, .methodref 8 15), (0, .nameAndType 16 17), (0, u "hit"), (0, u "([BIIIB)Z"), (0, .methodref 19 20), (0, .class_ 21), (0, .nameAndType 22 23), (0, u "ledgerline/cli/LineReader"), (0, u "indexOf"), (0, u "([BIIB)I"), (3, u "law"), (0, u "(IIIII)Z")] 4

def k1m0 : Method := { name := "<init>", desc := "()V", sig := { parameters := [], returnType := none }, accessFlags := 1, code := none }
def k1c1 : Code := { maxStack := 3, maxLocals := 4, code := method_2_code, exceptionTable := #[], attributes := #[] }
def k1m1 : Method := { name := "cell", desc := "(IIII)B", sig := { parameters := [.int, .int, .int, .int], returnType := some .byte }, accessFlags := 10, code := some k1c1 }
def k1c2 : Code := { maxStack := 2, maxLocals := 5, code := method_3_code, exceptionTable := #[], attributes := #[] }
def k1m2 : Method := { name := "hit", desc := "([BIIIB)Z", sig := { parameters := [(.array .byte), .int, .int, .int, .byte], returnType := some .boolean }, accessFlags := 10, code := some k1c2 }
def k1c3 : Code := { maxStack := 6, maxLocals := 10, code := code, exceptionTable := #[], attributes := #[] }
def k1m3 : Method := { name := "law", desc := "(IIIII)Z", sig := { parameters := [.int, .int, .int, .int, .int], returnType := some .boolean }, accessFlags := 9, code := some k1c3 }
/-- ledgerline/cli/LineReaderIndexOfPinLaw -/
def k1 : Class := { plain "ledgerline/cli/LineReaderIndexOfPinLaw" (some 0) with
  accessFlags := 49
  interfaces := #[]
  cf := some (fileOf pool1 8 #[] #[{ accessFlags := 1, nameIndex := 5, descriptorIndex := 6, attributes := #[] }, { accessFlags := 10, nameIndex := 11, descriptorIndex := 12, attributes := #[] }, { accessFlags := 10, nameIndex := 16, descriptorIndex := 17, attributes := #[] }, { accessFlags := 9, nameIndex := 27, descriptorIndex := 28, attributes := #[] }] 49 2 #[] #[])
  fields := #[]
  methods := #[k1m0, k1m1, k1m2, k1m3]
  instanceTypes := #[]
  staticTypes := #[]
  resolved := Array.replicate 33 none
  statics := none }

def pool2 : Array CpInfo := pool [(2, .class_ 4), (1, u "java/lang/Object"), (4, .class_ 11), (1, u "ledgerline/cli/LineReader"), (0, u "buffer"), (0, u "[B"), (5, u "parts"), (0, u "Ljava/util/List;"), (2, u "in"), (0, u "Ljava/io/InputStream;"), (2, u "maxLineBytes"), (0, u "I"), (2, u "cut"), (0, u "Z"), (2, u "start"), (2, u "end"), (2, u "indexOf"), (0, u "([BIIB)I"), (16, u "partsLength")] 63

def k2c0 : Code := { maxStack := 2, maxLocals := 5, code := prog_5_method_4_code, exceptionTable := #[], attributes := #[] }
def k2m0 : Method := { name := "indexOf", desc := "([BIIB)I", sig := { parameters := [(.array .byte), .int, .int, .byte], returnType := some .int }, accessFlags := 8, code := some k2c0 }
/-- ledgerline/cli/LineReader -/
def k2 : Class := { plain "ledgerline/cli/LineReader" (some 0) with
  accessFlags := 48
  interfaces := #[]
  cf := some (fileOf pool2 9 #[] #[{ accessFlags := 8, nameIndex := 41, descriptorIndex := 42, attributes := #[] }] 48 2 #[] #[{ accessFlags := 18, nameIndex := 23, descriptorIndex := 24, attributes := #[] }, { accessFlags := 18, nameIndex := 27, descriptorIndex := 28, attributes := #[] }, { accessFlags := 18, nameIndex := 12, descriptorIndex := 13, attributes := #[] }, { accessFlags := 2, nameIndex := 35, descriptorIndex := 28, attributes := #[] }, { accessFlags := 2, nameIndex := 38, descriptorIndex := 28, attributes := #[] }, { accessFlags := 18, nameIndex := 19, descriptorIndex := 20, attributes := #[] }, { accessFlags := 2, nameIndex := 59, descriptorIndex := 28, attributes := #[] }, { accessFlags := 2, nameIndex := 31, descriptorIndex := 32, attributes := #[] }])
  fields := #[{ name := "in", type := (.object "java/io/InputStream"), accessFlags := 18, slot := 0, constantValue := 0 }, { name := "maxLineBytes", type := .int, accessFlags := 18, slot := 1, constantValue := 0 }, { name := "buffer", type := (.array .byte), accessFlags := 18, slot := 2, constantValue := 0 }, { name := "start", type := .int, accessFlags := 2, slot := 3, constantValue := 0 }, { name := "end", type := .int, accessFlags := 2, slot := 4, constantValue := 0 }, { name := "parts", type := (.object "java/util/List"), accessFlags := 18, slot := 5, constantValue := 0 }, { name := "partsLength", type := .int, accessFlags := 2, slot := 6, constantValue := 0 }, { name := "cut", type := .boolean, accessFlags := 2, slot := 7, constantValue := 0 }]
  methods := #[k2m0]
  instanceTypes := #[(.object "java/io/InputStream"), .int, (.array .byte), .int, .int, (.object "java/util/List"), .int, .boolean]
  staticTypes := #[]
  resolved := Array.replicate 123 none
  statics := none }

def pool3 : Array CpInfo := pool [(1, u "java/lang/Cloneable"), (0, .class_ 1), (0, u "java/lang/Object"), (0, .class_ 3)] 3

/-- java/lang/Cloneable -/
def k3 : Class := { plain "java/lang/Cloneable" (some 0) with
  accessFlags := 1537
  interfaces := #[]
  cf := some (fileOf pool3 2 #[] #[] 1537 4 #[] #[])
  fields := #[]
  methods := #[]
  instanceTypes := #[]
  staticTypes := #[]
  resolved := Array.replicate 8 none
  statics := none }

def pool4 : Array CpInfo := pool [(1, u "java/io/Serializable"), (0, .class_ 1), (0, u "java/lang/Object"), (0, .class_ 3)] 3

/-- java/io/Serializable -/
def k4 : Class := { plain "java/io/Serializable" (some 0) with
  accessFlags := 1537
  interfaces := #[]
  cf := some (fileOf pool4 2 #[] #[] 1537 4 #[] #[])
  fields := #[]
  methods := #[]
  instanceTypes := #[]
  staticTypes := #[]
  resolved := Array.replicate 8 none
  statics := none }

/-- the primitive byte -/
def k5 : Class := { plain "byte" none with kind := .primitive 'B', accessFlags := 0x411 }
/-- [B -/
def k6 : Class := { plain "[B" (some 0) with kind := .array 5 .byte, interfaces := #[3, 4], accessFlags := 1041 }

/-- the primitive int -/
def k7 : Class := { plain "int" none with kind := .primitive 'I', accessFlags := 0x411 }
/-- [I -/
def k8 : Class := { plain "[I" (some 0) with kind := .array 7 .int, interfaces := #[3, 4], accessFlags := 1041 }

def heap : Heap := #[]
def classes : Array Class := #[k0, k1, k2, k3, k4, k5, k6, k7, k8]
def interned : List (Array UInt16 × Addr) := []
def slotsUsed : Nat := 0
def theMethod : MethodId := ⟨1, 3⟩
def args0 : Array Value := #[.int 1, .int 2, .int 3, .int 4, .int 5]
def aboutOver (below : List Frame) : State where
  vm := { classes := classes, interned := interned.toArray }
  heap := heap
  slotsUsed := slotsUsed
  threads := #[{ frames := .invoking theMethod args0 :: below }]
def below0 : List Frame := [.native { method := ⟨0, 0⟩, args := #[] }]
def about1 : State := aboutOver below0
def p0 : Program := .bare "" "" ""
def e0 : Env := launch0.env 0 0 0
theorem w_frames : about1.frames = Frame.invoking theMethod args0 :: below0 := rfl
set_option maxRecDepth 65536 in
theorem w_args : argsFit about1.vm theMethod args0 = true := by decide +kernel
set_option maxRecDepth 65536 in
theorem w_heap : heapFits about1 = true := by decide +kernel
set_option maxRecDepth 65536 in
theorem w_runnable : about1.curStatus? = some .runnable := by decide +kernel
set_option maxRecDepth 65536 in
theorem w_alone : about1.alone = true := by decide +kernel
set_option maxRecDepth 65536 in
theorem w_named : about1.methodNamed? x = some theMethod := by decide +kernel
set_option maxRecDepth 65536 in
theorem w_hears : about1.hears theMethod below0 = true := by decide +kernel
set_option maxRecDepth 65536 in
theorem w_ripe : about1.ripe theMethod args0 below0 = true := by decide +kernel
theorem w_running : about1.status = .running := rfl
set_option maxRecDepth 65536 in
theorem w_room : about1.hasRoom e0.platform room_1 = true :=
  launch0.hasRoom_least _ room_1 (by decide +kernel) (by decide +kernel) (by decide +kernel) (by decide +kernel) (by decide +kernel) (by decide +kernel)
theorem allAtoms_all (ts : List Jvm.Cond) (a : Array Jvm.Value) (st : Jvm.State) : (allAtoms ts).before a st = ts.all (fun c => c.before a st) := by
  induction ts with
  | nil => rfl
  | cons c t ih =>
    show (Jvm.Cond.and c (allAtoms t)).before a st = _
    rw [Jvm.Cond.before_and, ih, List.all_cons]
def words1 : List Jvm.Cond := Jvm.Cond.code x code maxLocals ret :: tables_1
/-- a 'code' word, met by the world's own term for the bytes: nothing is compared byte by byte -/
theorem code_word {y : MethodName} {bytes : ByteArray} {mx : Nat} {rt : Option FieldType} {a : Array Value} {s : State} {m : MethodId} {meth : Method} {c : Code} (h1 : s.methodNamed? y = some m) (h2 : s.vm.method? m = some meth) (h3 : meth.code = some c) (h4 : c.code = bytes)
    (h5 : (c.maxLocals == mx && c.exceptionTable.isEmpty && decide (c.maxStack ≤ mostOperands) && decide (meth.sig.returnType = rt) && !meth.locks && decide (parseMethodDescriptor y.desc = some meth.sig)) = true) : (Jvm.Cond.code y bytes mx rt).before a s = true := by
  simp only [Bool.and_eq_true, beq_iff_eq, Bool.not_eq_true', decide_eq_true_eq] at h5
  obtain ⟨⟨⟨⟨⟨g1, g2⟩, g3⟩, g4⟩, g5⟩, g6⟩ := h5
  simp [Cond.before, Cond.holds, Cond.value, h1, h2, h3, h4, g1, g2, g3, g4, g5, g6]
def isCode : Jvm.Cond → Bool
  | .code _ _ _ _ => true
  | _ => false
theorem all_split {L : List Jvm.Cond} {P : Jvm.Cond → Bool} (h1 : L.all (fun c => isCode c || P c) = true) (h2 : ∀ c ∈ L.filter isCode, P c = true) : L.all P = true := by
  refine List.all_eq_true.mpr fun c hc => ?_
  have h := List.all_eq_true.mp h1 c hc
  rcases Bool.eq_false_or_eq_true (isCode c) with hi | hi
  · exact h2 c (List.mem_filter.mpr ⟨hc, hi⟩)
  · simpa [hi] using h
set_option maxRecDepth 65536 in
theorem w_c0 : (Jvm.Cond.code x code maxLocals ret).before args0 about1 = true := code_word (m := ⟨1, 3⟩) (meth := k1m3) (c := k1c3) (by decide +kernel) rfl rfl rfl (by decide +kernel)
set_option maxRecDepth 65536 in
theorem w_c1 : (Jvm.Cond.code ({ cls := "ledgerline/cli/LineReaderIndexOfPinLaw", name := "cell", desc := "(IIII)B" } : Jvm.MethodName) method_2_code (4 : Nat) (Option.some Jvm.ClassFile.FieldType.byte)).before args0 about1 = true := code_word (m := ⟨1, 1⟩) (meth := k1m1) (c := k1c1) (by decide +kernel) rfl rfl rfl (by decide +kernel)
set_option maxRecDepth 65536 in
theorem w_c2 : (Jvm.Cond.code ({ cls := "ledgerline/cli/LineReaderIndexOfPinLaw", name := "hit", desc := "([BIIIB)Z" } : Jvm.MethodName) method_3_code (5 : Nat) (Option.some Jvm.ClassFile.FieldType.boolean)).before args0 about1 = true := code_word (m := ⟨1, 2⟩) (meth := k1m2) (c := k1c2) (by decide +kernel) rfl rfl rfl (by decide +kernel)
set_option maxRecDepth 65536 in
theorem w_c3 : (Jvm.Cond.code ({ cls := "ledgerline/cli/LineReader", name := "indexOf", desc := "([BIIB)I" } : Jvm.MethodName) prog_5_method_4_code (5 : Nat) (Option.some Jvm.ClassFile.FieldType.int)).before args0 about1 = true := code_word (m := ⟨2, 0⟩) (meth := k2m0) (c := k2c0) (by decide +kernel) rfl rfl rfl (by decide +kernel)
def codes1 : List Jvm.Cond := [Jvm.Cond.code x code maxLocals ret, Jvm.Cond.code ({ cls := "ledgerline/cli/LineReaderIndexOfPinLaw", name := "cell", desc := "(IIII)B" } : Jvm.MethodName) method_2_code (4 : Nat) (Option.some Jvm.ClassFile.FieldType.byte), Jvm.Cond.code ({ cls := "ledgerline/cli/LineReaderIndexOfPinLaw", name := "hit", desc := "([BIIIB)Z" } : Jvm.MethodName) method_3_code (5 : Nat) (Option.some Jvm.ClassFile.FieldType.boolean), Jvm.Cond.code ({ cls := "ledgerline/cli/LineReader", name := "indexOf", desc := "([BIIB)I" } : Jvm.MethodName) prog_5_method_4_code (5 : Nat) (Option.some Jvm.ClassFile.FieldType.int)]
set_option maxRecDepth 65536 in
theorem codes_eq : words1.filter isCode = codes1 := rfl
theorem w_codes : ∀ c ∈ words1.filter isCode, c.before args0 about1 = true := by
  rw [codes_eq]
  intro c hc
  simp only [codes1, List.mem_cons, List.not_mem_nil, or_false] at hc
  rcases hc with rfl | rfl | rfl | rfl
  · exact w_c0
  · exact w_c1
  · exact w_c2
  · exact w_c3
set_option maxRecDepth 65536 in
theorem w_t1 : words1.all (fun c => isCode c || c.before args0 about1) = true := by decide +kernel
theorem w_tables : (allAtoms (Jvm.Cond.code x code maxLocals ret :: tables_1)).before args0 about1 = true := by
  rw [allAtoms_all]
  show words1.all (fun c => c.before args0 about1) = true
  refine all_split ?_ w_codes
  rw [w_t1]
set_option maxRecDepth 65536 in
theorem w_case : (Jvm.Cond.and given_1 narrow_1).before args0 about1 = true := by decide +kernel
theorem w_applies : (headSpec (Jvm.Cond.code x code maxLocals ret :: tables_1) room_1).applies x e0.platform about1 = true :=
  (Spec.applies_iff w_frames).mpr ⟨w_running, w_runnable, w_alone, w_named, w_hears, w_ripe, w_room, w_tables⟩
theorem atStart : AtStart classFile x code maxLocals ret World_1 tables_1 room_1 Calls_1 rest_1 Pre_1 launch0 p0 e0 about1 theMethod args0 below0 :=
  ⟨lists_1, trivial, launch0.admits_env _ _ _, launch0.least_env, fairChoices_fair.cas, fairChoices_fair.clock, w_frames, w_args, w_heap, w_applies, trivial, trivial, w_case⟩
end start1
theorem witness_1 : WitnessClaimed_1 := ⟨start1.p0, start1.e0, start1.about1, start1.theMethod, start1.args0, start1.below0, start1.atStart⟩
end Jvm.Pilot.@@N@@

import JvmDerived
import JvmDerived.Pilot.@@N@@Statement
import JvmDerived.Pilot.@@N@@Code
set_option linter.unusedVariables false
set_option linter.unusedSimpArgs false
namespace Jvm.RoadKit
open Sem ClassFile Op Lib Jvm.Stand Jvm.Free Jvm.LawKit
section New
variable {p : Program} {l : Launch} {e : Env} {R : Room} {s : State} {m : MethodId} {args : Array Value} {below : List Frame} {meth : Method} {c : Code} {T : State} {locs : List Loc} {cells slots : Nat}
theorem retI (X : Stand p l e R s m args below meth c T locs cells slots) (hx : p.tables.exec = Jvm.exec) {pc : Nat} {Ls : Array Slot} {z : Int32} {rest : List Value} (hret : meth.sig.returnType = some .int) (hd : decode c.code pc = .ok (.ireturn, 1)) {fs : List Frame}
    (hl : ∀ (f : JFrame) (acts : List Action), f.method = m → f.locked = none → f.entered = [] → (doReturn e (T.setTop f) acts (some (.int z))).1 = T.setFrames fs) : Steps p.tables e below (T.setTop (mkF m pc Ls (.int z :: rest))) (T.setFrames fs) := by
  have hm' : T.vm.method? m = some meth := X.method'
  have hn : narrow .int (.int z) = .int z := rfl
  show Steps p.tables e below (T.setTop { method := m, pc := pc, locals := Ls, stack := _ :: rest, locked := none }) _
  jvm_step X.here [X.here.top, hx, hd, hm', hret, hn]
  first | (intro acts; rw [hl _ acts rfl rfl rfl]) | rw [hl _ _ rfl rfl rfl]
  exact Steps.refl _
end New
end Jvm.RoadKit
namespace Jvm.Pilot.@@N@@
open Jvm Jvm.ClassFile Sem Op Lib Jvm.Free Jvm.Stand Jvm.LawKit Jvm.RoadKit Bundle Jvm.Pilot.@@N@@.Jvm.D

theorem own_nb {c : Prop} [Decidable c] : nar .boolean (if c then (1 : Int32) else (0 : Int32)) = (if c then (1 : Int32) else (0 : Int32)) := by
  by_cases h : c
  · rw [if_pos h]; rfl
  · rw [if_neg h]; rfl
theorem own_n1 : nar .boolean (1 : Int32) = (1 : Int32) := rfl
theorem own_n0 : nar .boolean (0 : Int32) = (0 : Int32) := rfl

theorem own_pos {x y : Int32} (h : x = y &&& (2147483647 : Int32)) : ¬ x < (0 : Int32) := by
  have := c_mask y 2147483647 31 (by decide) (by decide)
  rw [← h] at this
  rw [Int32.lt_iff_toInt_lt]
  show ¬ x.toInt < 0
  omega
theorem own_rem {x y d : Int32} {D : Int} (h : x = (y &&& (2147483647 : Int32)) % d) (hd : d.toInt = D) (hD : 0 < D) : 0 ≤ x.toInt ∧ x.toInt < D := by
  have h1 := c_mask y 2147483647 31 (by decide) (by decide)
  have h2 := c_iremV (y &&& 2147483647) d
  rw [← h, hd] at h2
  have h3 := h2.1 (by omega) hD
  omega

section OwnArr
variable {p : Program} {l : Launch} {e : Env} {R : Room} {s : State} {m : MethodId} {args : Array Value} {below : List Frame} {meth : Method} {c : Code} {T : State} {locs : List Loc} {cells slots : Nat} {Z : State} {h : Heap} {a : Addr} {k : ClassId} {n : Int32} {vs : List Value} {d : Value}
theorem own_len {ty : FieldType} {g : JFrame} {target : State} (X : Stand p l e R s m args below meth c T locs cells slots) (hx : p.tables.exec = Jvm.exec) (hZ : Z.Warmed39 s.vm) (eT : T.heap = h) (A : Arv Z h a k ty n vs d) (hg : g.method = m) {rest : List Value} (hs : g.stack = .ref a :: rest) (hd : decode c.code g.pc = .ok (.arraylength, 1))
    (hr : Steps p.tables e below (T.setTop { g with pc := g.pc + 1, stack := .int n :: rest }) target) : Steps p.tables e below (T.setTop g) target := by
  obtain ⟨cl, Ar, -, S, M, -, -⟩ := A
  refine X.arraylength hx (by rw [eT]; exact Ar.1) (State.isArrayOf_alike hZ.alike Ar.2.1) hg hs hd _ ?_
  rw [len_of S M]
  exact hr
theorem own_bal {g : JFrame} {target : State} (X : Stand p l e R s m args below meth c T locs cells slots) (hx : p.tables.exec = Jvm.exec) (hZ : Z.Warmed39 s.vm) (eT : T.heap = h) (A : Arv Z h a k .byte n vs d) {j : Int32} (hj : ¬ j < 0 ∧ j < n) {v : Value} (hv : vs.getD j.toNatClampNeg d = v) (hg : g.method = m) {rest : List Value} (hs : g.stack = .int j :: .ref a :: rest) (hd : decode c.code g.pc = .ok (.baload, 1))
    (hr : Steps p.tables e below (T.setTop { g with pc := g.pc + 1, stack := v :: rest }) target) : Steps p.tables e below (T.setTop g) target := by
  obtain ⟨cl, Ar, -, S, M, H, -⟩ := A
  have hin := inb_of S hj
  exact X.baloadBytes hx (by rw [eT]; exact Ar.1) (State.isArrayOf_alike hZ.alike Ar.2.1) Ar.2.2 hin (Has.at H hin hv) hg hs hd _ hr
end OwnArr
theorem own_9 {k : Int32} (h : 0 ≤ k.toInt ∧ k.toInt < 9) : k = (0 : Int32) ∨ k = (1 : Int32) ∨ k = (2 : Int32) ∨ k = (3 : Int32) ∨ k = (4 : Int32) ∨ k = (5 : Int32) ∨ k = (6 : Int32) ∨ k = (7 : Int32) ∨ k = (8 : Int32) := by
  have e : ∀ j : Int32, k.toInt = j.toInt → k = j := fun j q => Int32.toInt_inj.mp q
  have q : k.toInt = 0 ∨ k.toInt = 1 ∨ k.toInt = 2 ∨ k.toInt = 3 ∨ k.toInt = 4 ∨ k.toInt = 5 ∨ k.toInt = 6 ∨ k.toInt = 7 ∨ k.toInt = 8 := by omega
  rcases q with q | q | q | q | q | q | q | q | q
  · exact Or.inl (e 0 q)
  · exact Or.inr (Or.inl (e 1 q))
  · exact Or.inr (Or.inr (Or.inl (e 2 q)))
  · exact Or.inr (Or.inr (Or.inr (Or.inl (e 3 q))))
  · exact Or.inr (Or.inr (Or.inr (Or.inr (Or.inl (e 4 q)))))
  · exact Or.inr (Or.inr (Or.inr (Or.inr (Or.inr (Or.inl (e 5 q))))))
  · exact Or.inr (Or.inr (Or.inr (Or.inr (Or.inr (Or.inr (Or.inl (e 6 q)))))))
  · exact Or.inr (Or.inr (Or.inr (Or.inr (Or.inr (Or.inr (Or.inr (Or.inl (e 7 q))))))))
  · exact Or.inr (Or.inr (Or.inr (Or.inr (Or.inr (Or.inr (Or.inr (Or.inr (e 8 q))))))))
def own_be (bv : Nat → Int32) (sn : Nat) : Nat → Int64
  | 0 => 0
  | k + 1 => (own_be bv sn k <<< ((8 : Int32).toInt64 &&& 63)) ||| ((bv (sn + k) &&& (255 : Int32)).toInt64)
theorem own_be_s (bv : Nat → Int32) (sn k : Nat) : own_be bv sn (k + 1) = (own_be bv sn k <<< ((8 : Int32).toInt64 &&& 63)) ||| ((bv (sn + k) &&& (255 : Int32)).toInt64) := rfl
theorem own_nat {j : Int32} {n : Nat} (h : j.toInt = n) : j.toNatClampNeg = n := by
  have := nat_of (j := j) (by rw [Int32.lt_iff_toInt_lt]; show ¬ j.toInt < 0; omega)
  omega

theorem own_nz {s p : Int32} (h : s = ((p &&& (2147483647 : Int32)) % (9 : Int32))) : ((9 : Int32) - s) ≠ 0 := by
  have h1 := own_rem h (by decide : (9 : Int32).toInt = 9) (by decide)
  have h2 : ((9 : Int32) - s).toInt = 9 - s.toInt := XT.sub32 (x := 9) ⟨by show -2 ^ 31 ≤ (9 : Int) - s.toInt; omega, by show (9 : Int) - s.toInt < 2 ^ 31; omega⟩
  intro h3
  rw [h3] at h2
  have : (0 : Int32).toInt = 0 := rfl
  omega
theorem own_rg {s c p q : Int32} (h : s = ((p &&& (2147483647 : Int32)) % (9 : Int32))) (hc : c = ((q &&& (2147483647 : Int32)) % ((9 : Int32) - s))) : ∃ sn cn : Nat, s.toInt = sn ∧ c.toInt = cn ∧ sn + cn ≤ 8 := by
  have h1 := own_rem h (by decide : (9 : Int32).toInt = 9) (by decide)
  have h2 : ((9 : Int32) - s).toInt = 9 - s.toInt := XT.sub32 (x := 9) ⟨by show -2 ^ 31 ≤ (9 : Int) - s.toInt; omega, by show (9 : Int) - s.toInt < 2 ^ 31; omega⟩
  have h3 := own_rem hc h2 (by omega)
  exact ⟨s.toInt.toNat, c.toInt.toNat, by omega, by omega, by omega⟩
theorem own_emod {a b : Int64} (h : a.toInt % 18446744073709551616 = b.toInt % 18446744073709551616) : a = b := by
  have h1 := rng64 a
  have h2 := rng64 b
  exact Int64.toInt_inj.mp (by omega)
theorem own_us0 (x : Int64) : (XT.ushrL x (0 : Int32)).toInt = x.toInt := by
  have h0 : ((0 : Int32).toInt64.toUInt64 &&& Int64.toUInt64 63) = 0 := by decide
  unfold XT.ushrL
  rw [h0]
  have : (x.toUInt64 >>> (0 : UInt64)) = x.toUInt64 := by simp
  rw [this]; rfl
theorem own_us8 (x : Int64) : (XT.ushrL x (8 : Int32)).toInt = (x.toInt % 18446744073709551616) / 256 := by
  have h0 : ((8 : Int32).toInt64.toUInt64 &&& Int64.toUInt64 63) = ((8 : Int32) &&& 0x3f).toInt64.toUInt64 := by decide
  unfold XT.ushrL
  rw [h0]
  exact c_lushr x 8 8 (by decide) (by decide)
theorem own_us16 (x : Int64) : (XT.ushrL x (16 : Int32)).toInt = (x.toInt % 18446744073709551616) / 65536 := by
  have h0 : ((16 : Int32).toInt64.toUInt64 &&& Int64.toUInt64 63) = ((16 : Int32) &&& 0x3f).toInt64.toUInt64 := by decide
  unfold XT.ushrL
  rw [h0]
  exact c_lushr x 16 16 (by decide) (by decide)
theorem own_us24 (x : Int64) : (XT.ushrL x (24 : Int32)).toInt = (x.toInt % 18446744073709551616) / 16777216 := by
  have h0 : ((24 : Int32).toInt64.toUInt64 &&& Int64.toUInt64 63) = ((24 : Int32) &&& 0x3f).toInt64.toUInt64 := by decide
  unfold XT.ushrL
  rw [h0]
  exact c_lushr x 24 24 (by decide) (by decide)
theorem own_us32 (x : Int64) : (XT.ushrL x (32 : Int32)).toInt = (x.toInt % 18446744073709551616) / 4294967296 := by
  have h0 : ((32 : Int32).toInt64.toUInt64 &&& Int64.toUInt64 63) = ((32 : Int32) &&& 0x3f).toInt64.toUInt64 := by decide
  unfold XT.ushrL
  rw [h0]
  exact c_lushr x 32 32 (by decide) (by decide)
theorem own_us40 (x : Int64) : (XT.ushrL x (40 : Int32)).toInt = (x.toInt % 18446744073709551616) / 1099511627776 := by
  have h0 : ((40 : Int32).toInt64.toUInt64 &&& Int64.toUInt64 63) = ((40 : Int32) &&& 0x3f).toInt64.toUInt64 := by decide
  unfold XT.ushrL
  rw [h0]
  exact c_lushr x 40 40 (by decide) (by decide)
theorem own_us48 (x : Int64) : (XT.ushrL x (48 : Int32)).toInt = (x.toInt % 18446744073709551616) / 281474976710656 := by
  have h0 : ((48 : Int32).toInt64.toUInt64 &&& Int64.toUInt64 63) = ((48 : Int32) &&& 0x3f).toInt64.toUInt64 := by decide
  unfold XT.ushrL
  rw [h0]
  exact c_lushr x 48 48 (by decide) (by decide)
theorem own_us56 (x : Int64) : (XT.ushrL x (56 : Int32)).toInt = (x.toInt % 18446744073709551616) / 72057594037927936 := by
  have h0 : ((56 : Int32).toInt64.toUInt64 &&& Int64.toUInt64 63) = ((56 : Int32) &&& 0x3f).toInt64.toUInt64 := by decide
  unfold XT.ushrL
  rw [h0]
  exact c_lushr x 56 56 (by decide) (by decide)
theorem own_us64 (x : Int64) : (XT.ushrL x (64 : Int32)).toInt = x.toInt := by
  have h0 : ((64 : Int32).toInt64.toUInt64 &&& Int64.toUInt64 63) = 0 := by decide
  unfold XT.ushrL
  rw [h0]
  have : (x.toUInt64 >>> (0 : UInt64)) = x.toUInt64 := by simp
  rw [this]; rfl
theorem own_by {o z : Int32} (h : o = nar .byte (z.toInt8.toInt32)) : ((o &&& (255 : Int32)).toInt64).toInt = z.toInt % 256 := by
  have h3 := c_i2b z
  have h4 := c_i2b (z.toInt8.toInt32)
  have h5 : o.toInt = ((z.toInt8.toInt32).toInt8.toInt32).toInt := by rw [h]; rfl
  have h6 := c_mask o 255 8 (by decide) (by decide)
  have h7 := c_i2l (o &&& (255 : Int32))
  omega
theorem own_bj {x : Int64} {g : Int32} {X : Nat} (hX : (X : Int) = x.toInt % 18446744073709551616) {bv : Nat → Int32} (hB : bv = (fun j => ([(nar .byte (((XT.ushrL x (56 : Int32)).toInt32).toInt8.toInt32)), (nar .byte (((XT.ushrL x (48 : Int32)).toInt32).toInt8.toInt32)), (nar .byte (((XT.ushrL x (40 : Int32)).toInt32).toInt8.toInt32)), (nar .byte (((XT.ushrL x (32 : Int32)).toInt32).toInt8.toInt32)), (nar .byte (((XT.ushrL x (24 : Int32)).toInt32).toInt8.toInt32)), (nar .byte (((XT.ushrL x (16 : Int32)).toInt32).toInt8.toInt32)), (nar .byte (((XT.ushrL x (8 : Int32)).toInt32).toInt8.toInt32)), (nar .byte ((x.toInt32).toInt8.toInt32)), (nar .byte (g.toInt8.toInt32))] : List Int32).getD j 0)) (j : Nat) (hj : j < 8) : ((bv j &&& (255 : Int32)).toInt64).toInt = ((X / 2 ^ (8 * (7 - j)) % 256 : Nat) : Int) := by
  match j, hj with
  | 0, _ =>
    have h1 := own_by (o := bv 0) (z := (XT.ushrL x (56 : Int32)).toInt32) (by rw [hB]; rfl)
    have h2 := c_l2i (XT.ushrL x (56 : Int32))
    have h3 := own_us56 x
    show _ = ((X / 72057594037927936 % 256 : Nat) : Int)
    omega
  | 1, _ =>
    have h1 := own_by (o := bv 1) (z := (XT.ushrL x (48 : Int32)).toInt32) (by rw [hB]; rfl)
    have h2 := c_l2i (XT.ushrL x (48 : Int32))
    have h3 := own_us48 x
    show _ = ((X / 281474976710656 % 256 : Nat) : Int)
    omega
  | 2, _ =>
    have h1 := own_by (o := bv 2) (z := (XT.ushrL x (40 : Int32)).toInt32) (by rw [hB]; rfl)
    have h2 := c_l2i (XT.ushrL x (40 : Int32))
    have h3 := own_us40 x
    show _ = ((X / 1099511627776 % 256 : Nat) : Int)
    omega
  | 3, _ =>
    have h1 := own_by (o := bv 3) (z := (XT.ushrL x (32 : Int32)).toInt32) (by rw [hB]; rfl)
    have h2 := c_l2i (XT.ushrL x (32 : Int32))
    have h3 := own_us32 x
    show _ = ((X / 4294967296 % 256 : Nat) : Int)
    omega
  | 4, _ =>
    have h1 := own_by (o := bv 4) (z := (XT.ushrL x (24 : Int32)).toInt32) (by rw [hB]; rfl)
    have h2 := c_l2i (XT.ushrL x (24 : Int32))
    have h3 := own_us24 x
    show _ = ((X / 16777216 % 256 : Nat) : Int)
    omega
  | 5, _ =>
    have h1 := own_by (o := bv 5) (z := (XT.ushrL x (16 : Int32)).toInt32) (by rw [hB]; rfl)
    have h2 := c_l2i (XT.ushrL x (16 : Int32))
    have h3 := own_us16 x
    show _ = ((X / 65536 % 256 : Nat) : Int)
    omega
  | 6, _ =>
    have h1 := own_by (o := bv 6) (z := (XT.ushrL x (8 : Int32)).toInt32) (by rw [hB]; rfl)
    have h2 := c_l2i (XT.ushrL x (8 : Int32))
    have h3 := own_us8 x
    show _ = ((X / 256 % 256 : Nat) : Int)
    omega
  | 7, _ =>
    have h1 := own_by (o := bv 7) (z := x.toInt32) (by rw [hB]; rfl)
    have h2 := c_l2i x
    show _ = ((X / 1 % 256 : Nat) : Int)
    omega
  | n + 8, hj => omega
theorem own_inv {x : Int64} {g : Int32} {X : Nat} (hX : (X : Int) = x.toInt % 18446744073709551616) {bv : Nat → Int32} (hB : bv = (fun j => ([(nar .byte (((XT.ushrL x (56 : Int32)).toInt32).toInt8.toInt32)), (nar .byte (((XT.ushrL x (48 : Int32)).toInt32).toInt8.toInt32)), (nar .byte (((XT.ushrL x (40 : Int32)).toInt32).toInt8.toInt32)), (nar .byte (((XT.ushrL x (32 : Int32)).toInt32).toInt8.toInt32)), (nar .byte (((XT.ushrL x (24 : Int32)).toInt32).toInt8.toInt32)), (nar .byte (((XT.ushrL x (16 : Int32)).toInt32).toInt8.toInt32)), (nar .byte (((XT.ushrL x (8 : Int32)).toInt32).toInt8.toInt32)), (nar .byte ((x.toInt32).toInt8.toInt32)), (nar .byte (g.toInt8.toInt32))] : List Int32).getD j 0)) (sn k : Nat) (hk : sn + k ≤ 8) : (own_be bv sn k).toInt % 18446744073709551616 = ((X / 2 ^ (8 * (8 - sn - k)) % 2 ^ (8 * k) : Nat) : Int) := by
  induction k with
  | zero =>
    have : (X / 2 ^ (8 * (8 - sn - 0)) % 2 ^ (8 * 0) : Nat) = 0 := by simp [Nat.mod_one]
    rw [this]; rfl
  | succ k ih =>
    have ih := ih (by omega)
    have hb := own_bj hX hB (sn + k) (by omega)
    obtain ⟨e, he⟩ : ∃ e, e = 8 * (8 - sn - (k + 1)) := ⟨_, rfl⟩
    have he1 : 8 * (8 - sn - k) = e + 8 := by omega
    have he2 : 8 * (7 - (sn + k)) = e := by omega
    rw [he1] at ih
    rw [he2] at hb
    rw [← he]
    obtain ⟨Y, hY⟩ : ∃ Y, Y = X / 2 ^ e := ⟨_, rfl⟩
    have h1 : X / 2 ^ (e + 8) = Y / 256 := by rw [hY, Nat.pow_add, Nat.div_div_eq_div_mul]
    rw [h1] at ih
    rw [← hY] at hb ⊢
    obtain ⟨M, hM⟩ : ∃ M, M = 2 ^ (8 * k) := ⟨_, rfl⟩
    have h2 : 2 ^ (8 * (k + 1)) = 256 * M := by rw [hM, Nat.mul_add, Nat.pow_add, Nat.mul_comm]
    have h3 : M ≤ 2 ^ 56 := by rw [hM]; exact Nat.pow_le_pow_right (by decide) (by omega)
    have h4 : 0 < M := by rw [hM]; exact Nat.pow_pos (by decide)
    rw [h2, Nat.mod_mul]
    rw [← hM] at ih
    have h5 := Nat.mod_lt (Y / 256) h4
    obtain ⟨Q, hQ⟩ : ∃ Q, Q = Y / 256 % M := ⟨_, rfl⟩
    rw [← hQ] at ih h5 ⊢
    rw [own_be_s]
    have h6 : (((own_be bv sn k) <<< ((8 : Int32).toInt64 &&& 63)).toInt - (own_be bv sn k).toInt * (2 ^ 8 : Nat)) % 18446744073709551616 = 0 := by
      have h0 : ((8 : Int32).toInt64 &&& 63) = ((8 : Int32) &&& 0x3f).toInt64 := by decide
      rw [h0]; exact c_lshl _ 8 8 (by decide)
    obtain ⟨A, hA⟩ : ∃ A, A = (own_be bv sn k) <<< ((8 : Int32).toInt64 &&& 63) := ⟨_, rfl⟩
    rw [← hA] at h6 ⊢
    obtain ⟨b, hb'⟩ : ∃ b, b = ((bv (sn + k) &&& (255 : Int32)).toInt64) := ⟨_, rfl⟩
    rw [← hb'] at hb ⊢
    have r1 := rng64 A
    have h7 := c_orL A b 8 (by decide) 256 (by decide) (by omega) (by omega) (by omega)
    omega
theorem own_and1 (y : Int64) : y &&& (-1 : Int64) = y := by
  apply Int64.toBitVec_inj.mp
  show y.toBitVec &&& (-1 : Int64).toBitVec = y.toBitVec
  have : (-1 : Int64).toBitVec = BitVec.allOnes 64 := by decide
  rw [this, BitVec.and_allOnes]
theorem own_ex {x e : Int64} {X : Nat} (hX : (X : Int) = x.toInt % 18446744073709551616) {s c : Int32} {sn cn : Nat} (hs : s.toInt = sn) (hc : c.toInt = cn) (hle : sn + cn ≤ 8) (he : e = ((XT.ushrL x ((8 : Int32) * (((8 : Int32) - s) - c))) &&& (if c = (8 : Int32) then (-1 : Int64) else (((1 : Int64) <<< (((8 : Int32) * c).toInt64 &&& 63)) - (1 : Int64))))) : e.toInt % 18446744073709551616 = ((X / 2 ^ (8 * (8 - sn - cn)) % 2 ^ (8 * cn) : Nat) : Int) := by
  have q : (0 ≤ s.toInt ∧ s.toInt < 9) ∧ (0 ≤ c.toInt ∧ c.toInt < 9) := ⟨by omega, by omega⟩
  have rx := rng64 x
  rcases own_9 q.2 with rfl | rfl | rfl | rfl | rfl | rfl | rfl | rfl | rfl
  · have hcn : cn = 0 := by have : (0 : Int32).toInt = 0 := rfl; omega
    subst hcn
    rw [if_neg (by decide), show (((1 : Int64) <<< (((8 : Int32) * (0 : Int32)).toInt64 &&& 63)) - (1 : Int64)) = (0 : Int64) from by decide] at he
    have hm := c_maskL (XT.ushrL x ((8 : Int32) * (((8 : Int32) - s) - 0))) 0 0 (by decide) (by decide)
    rw [← he] at hm
    rcases own_9 q.1 with rfl | rfl | rfl | rfl | rfl | rfl | rfl | rfl | rfl
    · have hsn : sn = 0 := by have : (0 : Int32).toInt = 0 := rfl; omega
      subst hsn
      have hu := own_us64 x
      rw [show ((8 : Int32) * (((8 : Int32) - 0) - 0)) = (64 : Int32) from by decide] at hm
      show e.toInt % 18446744073709551616 = ((X / 18446744073709551616 % 1 : Nat) : Int)
      have hm' : e.toInt = (XT.ushrL x (64 : Int32)).toInt % ((1 : Nat) : Int) := hm
      omega
    · have hsn : sn = 1 := by have : (1 : Int32).toInt = 1 := rfl; omega
      subst hsn
      have hu := own_us56 x
      rw [show ((8 : Int32) * (((8 : Int32) - 1) - 0)) = (56 : Int32) from by decide] at hm
      show e.toInt % 18446744073709551616 = ((X / 72057594037927936 % 1 : Nat) : Int)
      have hm' : e.toInt = (XT.ushrL x (56 : Int32)).toInt % ((1 : Nat) : Int) := hm
      omega
    · have hsn : sn = 2 := by have : (2 : Int32).toInt = 2 := rfl; omega
      subst hsn
      have hu := own_us48 x
      rw [show ((8 : Int32) * (((8 : Int32) - 2) - 0)) = (48 : Int32) from by decide] at hm
      show e.toInt % 18446744073709551616 = ((X / 281474976710656 % 1 : Nat) : Int)
      have hm' : e.toInt = (XT.ushrL x (48 : Int32)).toInt % ((1 : Nat) : Int) := hm
      omega
    · have hsn : sn = 3 := by have : (3 : Int32).toInt = 3 := rfl; omega
      subst hsn
      have hu := own_us40 x
      rw [show ((8 : Int32) * (((8 : Int32) - 3) - 0)) = (40 : Int32) from by decide] at hm
      show e.toInt % 18446744073709551616 = ((X / 1099511627776 % 1 : Nat) : Int)
      have hm' : e.toInt = (XT.ushrL x (40 : Int32)).toInt % ((1 : Nat) : Int) := hm
      omega
    · have hsn : sn = 4 := by have : (4 : Int32).toInt = 4 := rfl; omega
      subst hsn
      have hu := own_us32 x
      rw [show ((8 : Int32) * (((8 : Int32) - 4) - 0)) = (32 : Int32) from by decide] at hm
      show e.toInt % 18446744073709551616 = ((X / 4294967296 % 1 : Nat) : Int)
      have hm' : e.toInt = (XT.ushrL x (32 : Int32)).toInt % ((1 : Nat) : Int) := hm
      omega
    · have hsn : sn = 5 := by have : (5 : Int32).toInt = 5 := rfl; omega
      subst hsn
      have hu := own_us24 x
      rw [show ((8 : Int32) * (((8 : Int32) - 5) - 0)) = (24 : Int32) from by decide] at hm
      show e.toInt % 18446744073709551616 = ((X / 16777216 % 1 : Nat) : Int)
      have hm' : e.toInt = (XT.ushrL x (24 : Int32)).toInt % ((1 : Nat) : Int) := hm
      omega
    · have hsn : sn = 6 := by have : (6 : Int32).toInt = 6 := rfl; omega
      subst hsn
      have hu := own_us16 x
      rw [show ((8 : Int32) * (((8 : Int32) - 6) - 0)) = (16 : Int32) from by decide] at hm
      show e.toInt % 18446744073709551616 = ((X / 65536 % 1 : Nat) : Int)
      have hm' : e.toInt = (XT.ushrL x (16 : Int32)).toInt % ((1 : Nat) : Int) := hm
      omega
    · have hsn : sn = 7 := by have : (7 : Int32).toInt = 7 := rfl; omega
      subst hsn
      have hu := own_us8 x
      rw [show ((8 : Int32) * (((8 : Int32) - 7) - 0)) = (8 : Int32) from by decide] at hm
      show e.toInt % 18446744073709551616 = ((X / 256 % 1 : Nat) : Int)
      have hm' : e.toInt = (XT.ushrL x (8 : Int32)).toInt % ((1 : Nat) : Int) := hm
      omega
    · have hsn : sn = 8 := by have : (8 : Int32).toInt = 8 := rfl; omega
      subst hsn
      have hu := own_us0 x
      rw [show ((8 : Int32) * (((8 : Int32) - 8) - 0)) = (0 : Int32) from by decide] at hm
      show e.toInt % 18446744073709551616 = ((X / 1 % 1 : Nat) : Int)
      have hm' : e.toInt = (XT.ushrL x (0 : Int32)).toInt % ((1 : Nat) : Int) := hm
      omega
  · have hcn : cn = 1 := by have : (1 : Int32).toInt = 1 := rfl; omega
    subst hcn
    rw [if_neg (by decide), show (((1 : Int64) <<< (((8 : Int32) * (1 : Int32)).toInt64 &&& 63)) - (1 : Int64)) = (255 : Int64) from by decide] at he
    have hm := c_maskL (XT.ushrL x ((8 : Int32) * (((8 : Int32) - s) - 1))) 255 8 (by decide) (by decide)
    rw [← he] at hm
    rcases own_9 q.1 with rfl | rfl | rfl | rfl | rfl | rfl | rfl | rfl | rfl
    · have hsn : sn = 0 := by have : (0 : Int32).toInt = 0 := rfl; omega
      subst hsn
      have hu := own_us56 x
      rw [show ((8 : Int32) * (((8 : Int32) - 0) - 1)) = (56 : Int32) from by decide] at hm
      show e.toInt % 18446744073709551616 = ((X / 72057594037927936 % 256 : Nat) : Int)
      have hm' : e.toInt = (XT.ushrL x (56 : Int32)).toInt % ((256 : Nat) : Int) := hm
      omega
    · have hsn : sn = 1 := by have : (1 : Int32).toInt = 1 := rfl; omega
      subst hsn
      have hu := own_us48 x
      rw [show ((8 : Int32) * (((8 : Int32) - 1) - 1)) = (48 : Int32) from by decide] at hm
      show e.toInt % 18446744073709551616 = ((X / 281474976710656 % 256 : Nat) : Int)
      have hm' : e.toInt = (XT.ushrL x (48 : Int32)).toInt % ((256 : Nat) : Int) := hm
      omega
    · have hsn : sn = 2 := by have : (2 : Int32).toInt = 2 := rfl; omega
      subst hsn
      have hu := own_us40 x
      rw [show ((8 : Int32) * (((8 : Int32) - 2) - 1)) = (40 : Int32) from by decide] at hm
      show e.toInt % 18446744073709551616 = ((X / 1099511627776 % 256 : Nat) : Int)
      have hm' : e.toInt = (XT.ushrL x (40 : Int32)).toInt % ((256 : Nat) : Int) := hm
      omega
    · have hsn : sn = 3 := by have : (3 : Int32).toInt = 3 := rfl; omega
      subst hsn
      have hu := own_us32 x
      rw [show ((8 : Int32) * (((8 : Int32) - 3) - 1)) = (32 : Int32) from by decide] at hm
      show e.toInt % 18446744073709551616 = ((X / 4294967296 % 256 : Nat) : Int)
      have hm' : e.toInt = (XT.ushrL x (32 : Int32)).toInt % ((256 : Nat) : Int) := hm
      omega
    · have hsn : sn = 4 := by have : (4 : Int32).toInt = 4 := rfl; omega
      subst hsn
      have hu := own_us24 x
      rw [show ((8 : Int32) * (((8 : Int32) - 4) - 1)) = (24 : Int32) from by decide] at hm
      show e.toInt % 18446744073709551616 = ((X / 16777216 % 256 : Nat) : Int)
      have hm' : e.toInt = (XT.ushrL x (24 : Int32)).toInt % ((256 : Nat) : Int) := hm
      omega
    · have hsn : sn = 5 := by have : (5 : Int32).toInt = 5 := rfl; omega
      subst hsn
      have hu := own_us16 x
      rw [show ((8 : Int32) * (((8 : Int32) - 5) - 1)) = (16 : Int32) from by decide] at hm
      show e.toInt % 18446744073709551616 = ((X / 65536 % 256 : Nat) : Int)
      have hm' : e.toInt = (XT.ushrL x (16 : Int32)).toInt % ((256 : Nat) : Int) := hm
      omega
    · have hsn : sn = 6 := by have : (6 : Int32).toInt = 6 := rfl; omega
      subst hsn
      have hu := own_us8 x
      rw [show ((8 : Int32) * (((8 : Int32) - 6) - 1)) = (8 : Int32) from by decide] at hm
      show e.toInt % 18446744073709551616 = ((X / 256 % 256 : Nat) : Int)
      have hm' : e.toInt = (XT.ushrL x (8 : Int32)).toInt % ((256 : Nat) : Int) := hm
      omega
    · have hsn : sn = 7 := by have : (7 : Int32).toInt = 7 := rfl; omega
      subst hsn
      have hu := own_us0 x
      rw [show ((8 : Int32) * (((8 : Int32) - 7) - 1)) = (0 : Int32) from by decide] at hm
      show e.toInt % 18446744073709551616 = ((X / 1 % 256 : Nat) : Int)
      have hm' : e.toInt = (XT.ushrL x (0 : Int32)).toInt % ((256 : Nat) : Int) := hm
      omega
    · exfalso; have : (8 : Int32).toInt = 8 := rfl; omega
  · have hcn : cn = 2 := by have : (2 : Int32).toInt = 2 := rfl; omega
    subst hcn
    rw [if_neg (by decide), show (((1 : Int64) <<< (((8 : Int32) * (2 : Int32)).toInt64 &&& 63)) - (1 : Int64)) = (65535 : Int64) from by decide] at he
    have hm := c_maskL (XT.ushrL x ((8 : Int32) * (((8 : Int32) - s) - 2))) 65535 16 (by decide) (by decide)
    rw [← he] at hm
    rcases own_9 q.1 with rfl | rfl | rfl | rfl | rfl | rfl | rfl | rfl | rfl
    · have hsn : sn = 0 := by have : (0 : Int32).toInt = 0 := rfl; omega
      subst hsn
      have hu := own_us48 x
      rw [show ((8 : Int32) * (((8 : Int32) - 0) - 2)) = (48 : Int32) from by decide] at hm
      show e.toInt % 18446744073709551616 = ((X / 281474976710656 % 65536 : Nat) : Int)
      have hm' : e.toInt = (XT.ushrL x (48 : Int32)).toInt % ((65536 : Nat) : Int) := hm
      omega
    · have hsn : sn = 1 := by have : (1 : Int32).toInt = 1 := rfl; omega
      subst hsn
      have hu := own_us40 x
      rw [show ((8 : Int32) * (((8 : Int32) - 1) - 2)) = (40 : Int32) from by decide] at hm
      show e.toInt % 18446744073709551616 = ((X / 1099511627776 % 65536 : Nat) : Int)
      have hm' : e.toInt = (XT.ushrL x (40 : Int32)).toInt % ((65536 : Nat) : Int) := hm
      omega
    · have hsn : sn = 2 := by have : (2 : Int32).toInt = 2 := rfl; omega
      subst hsn
      have hu := own_us32 x
      rw [show ((8 : Int32) * (((8 : Int32) - 2) - 2)) = (32 : Int32) from by decide] at hm
      show e.toInt % 18446744073709551616 = ((X / 4294967296 % 65536 : Nat) : Int)
      have hm' : e.toInt = (XT.ushrL x (32 : Int32)).toInt % ((65536 : Nat) : Int) := hm
      omega
    · have hsn : sn = 3 := by have : (3 : Int32).toInt = 3 := rfl; omega
      subst hsn
      have hu := own_us24 x
      rw [show ((8 : Int32) * (((8 : Int32) - 3) - 2)) = (24 : Int32) from by decide] at hm
      show e.toInt % 18446744073709551616 = ((X / 16777216 % 65536 : Nat) : Int)
      have hm' : e.toInt = (XT.ushrL x (24 : Int32)).toInt % ((65536 : Nat) : Int) := hm
      omega
    · have hsn : sn = 4 := by have : (4 : Int32).toInt = 4 := rfl; omega
      subst hsn
      have hu := own_us16 x
      rw [show ((8 : Int32) * (((8 : Int32) - 4) - 2)) = (16 : Int32) from by decide] at hm
      show e.toInt % 18446744073709551616 = ((X / 65536 % 65536 : Nat) : Int)
      have hm' : e.toInt = (XT.ushrL x (16 : Int32)).toInt % ((65536 : Nat) : Int) := hm
      omega
    · have hsn : sn = 5 := by have : (5 : Int32).toInt = 5 := rfl; omega
      subst hsn
      have hu := own_us8 x
      rw [show ((8 : Int32) * (((8 : Int32) - 5) - 2)) = (8 : Int32) from by decide] at hm
      show e.toInt % 18446744073709551616 = ((X / 256 % 65536 : Nat) : Int)
      have hm' : e.toInt = (XT.ushrL x (8 : Int32)).toInt % ((65536 : Nat) : Int) := hm
      omega
    · have hsn : sn = 6 := by have : (6 : Int32).toInt = 6 := rfl; omega
      subst hsn
      have hu := own_us0 x
      rw [show ((8 : Int32) * (((8 : Int32) - 6) - 2)) = (0 : Int32) from by decide] at hm
      show e.toInt % 18446744073709551616 = ((X / 1 % 65536 : Nat) : Int)
      have hm' : e.toInt = (XT.ushrL x (0 : Int32)).toInt % ((65536 : Nat) : Int) := hm
      omega
    · exfalso; have : (7 : Int32).toInt = 7 := rfl; omega
    · exfalso; have : (8 : Int32).toInt = 8 := rfl; omega
  · have hcn : cn = 3 := by have : (3 : Int32).toInt = 3 := rfl; omega
    subst hcn
    rw [if_neg (by decide), show (((1 : Int64) <<< (((8 : Int32) * (3 : Int32)).toInt64 &&& 63)) - (1 : Int64)) = (16777215 : Int64) from by decide] at he
    have hm := c_maskL (XT.ushrL x ((8 : Int32) * (((8 : Int32) - s) - 3))) 16777215 24 (by decide) (by decide)
    rw [← he] at hm
    rcases own_9 q.1 with rfl | rfl | rfl | rfl | rfl | rfl | rfl | rfl | rfl
    · have hsn : sn = 0 := by have : (0 : Int32).toInt = 0 := rfl; omega
      subst hsn
      have hu := own_us40 x
      rw [show ((8 : Int32) * (((8 : Int32) - 0) - 3)) = (40 : Int32) from by decide] at hm
      show e.toInt % 18446744073709551616 = ((X / 1099511627776 % 16777216 : Nat) : Int)
      have hm' : e.toInt = (XT.ushrL x (40 : Int32)).toInt % ((16777216 : Nat) : Int) := hm
      omega
    · have hsn : sn = 1 := by have : (1 : Int32).toInt = 1 := rfl; omega
      subst hsn
      have hu := own_us32 x
      rw [show ((8 : Int32) * (((8 : Int32) - 1) - 3)) = (32 : Int32) from by decide] at hm
      show e.toInt % 18446744073709551616 = ((X / 4294967296 % 16777216 : Nat) : Int)
      have hm' : e.toInt = (XT.ushrL x (32 : Int32)).toInt % ((16777216 : Nat) : Int) := hm
      omega
    · have hsn : sn = 2 := by have : (2 : Int32).toInt = 2 := rfl; omega
      subst hsn
      have hu := own_us24 x
      rw [show ((8 : Int32) * (((8 : Int32) - 2) - 3)) = (24 : Int32) from by decide] at hm
      show e.toInt % 18446744073709551616 = ((X / 16777216 % 16777216 : Nat) : Int)
      have hm' : e.toInt = (XT.ushrL x (24 : Int32)).toInt % ((16777216 : Nat) : Int) := hm
      omega
    · have hsn : sn = 3 := by have : (3 : Int32).toInt = 3 := rfl; omega
      subst hsn
      have hu := own_us16 x
      rw [show ((8 : Int32) * (((8 : Int32) - 3) - 3)) = (16 : Int32) from by decide] at hm
      show e.toInt % 18446744073709551616 = ((X / 65536 % 16777216 : Nat) : Int)
      have hm' : e.toInt = (XT.ushrL x (16 : Int32)).toInt % ((16777216 : Nat) : Int) := hm
      omega
    · have hsn : sn = 4 := by have : (4 : Int32).toInt = 4 := rfl; omega
      subst hsn
      have hu := own_us8 x
      rw [show ((8 : Int32) * (((8 : Int32) - 4) - 3)) = (8 : Int32) from by decide] at hm
      show e.toInt % 18446744073709551616 = ((X / 256 % 16777216 : Nat) : Int)
      have hm' : e.toInt = (XT.ushrL x (8 : Int32)).toInt % ((16777216 : Nat) : Int) := hm
      omega
    · have hsn : sn = 5 := by have : (5 : Int32).toInt = 5 := rfl; omega
      subst hsn
      have hu := own_us0 x
      rw [show ((8 : Int32) * (((8 : Int32) - 5) - 3)) = (0 : Int32) from by decide] at hm
      show e.toInt % 18446744073709551616 = ((X / 1 % 16777216 : Nat) : Int)
      have hm' : e.toInt = (XT.ushrL x (0 : Int32)).toInt % ((16777216 : Nat) : Int) := hm
      omega
    · exfalso; have : (6 : Int32).toInt = 6 := rfl; omega
    · exfalso; have : (7 : Int32).toInt = 7 := rfl; omega
    · exfalso; have : (8 : Int32).toInt = 8 := rfl; omega
  · have hcn : cn = 4 := by have : (4 : Int32).toInt = 4 := rfl; omega
    subst hcn
    rw [if_neg (by decide), show (((1 : Int64) <<< (((8 : Int32) * (4 : Int32)).toInt64 &&& 63)) - (1 : Int64)) = (4294967295 : Int64) from by decide] at he
    have hm := c_maskL (XT.ushrL x ((8 : Int32) * (((8 : Int32) - s) - 4))) 4294967295 32 (by decide) (by decide)
    rw [← he] at hm
    rcases own_9 q.1 with rfl | rfl | rfl | rfl | rfl | rfl | rfl | rfl | rfl
    · have hsn : sn = 0 := by have : (0 : Int32).toInt = 0 := rfl; omega
      subst hsn
      have hu := own_us32 x
      rw [show ((8 : Int32) * (((8 : Int32) - 0) - 4)) = (32 : Int32) from by decide] at hm
      show e.toInt % 18446744073709551616 = ((X / 4294967296 % 4294967296 : Nat) : Int)
      have hm' : e.toInt = (XT.ushrL x (32 : Int32)).toInt % ((4294967296 : Nat) : Int) := hm
      omega
    · have hsn : sn = 1 := by have : (1 : Int32).toInt = 1 := rfl; omega
      subst hsn
      have hu := own_us24 x
      rw [show ((8 : Int32) * (((8 : Int32) - 1) - 4)) = (24 : Int32) from by decide] at hm
      show e.toInt % 18446744073709551616 = ((X / 16777216 % 4294967296 : Nat) : Int)
      have hm' : e.toInt = (XT.ushrL x (24 : Int32)).toInt % ((4294967296 : Nat) : Int) := hm
      omega
    · have hsn : sn = 2 := by have : (2 : Int32).toInt = 2 := rfl; omega
      subst hsn
      have hu := own_us16 x
      rw [show ((8 : Int32) * (((8 : Int32) - 2) - 4)) = (16 : Int32) from by decide] at hm
      show e.toInt % 18446744073709551616 = ((X / 65536 % 4294967296 : Nat) : Int)
      have hm' : e.toInt = (XT.ushrL x (16 : Int32)).toInt % ((4294967296 : Nat) : Int) := hm
      omega
    · have hsn : sn = 3 := by have : (3 : Int32).toInt = 3 := rfl; omega
      subst hsn
      have hu := own_us8 x
      rw [show ((8 : Int32) * (((8 : Int32) - 3) - 4)) = (8 : Int32) from by decide] at hm
      show e.toInt % 18446744073709551616 = ((X / 256 % 4294967296 : Nat) : Int)
      have hm' : e.toInt = (XT.ushrL x (8 : Int32)).toInt % ((4294967296 : Nat) : Int) := hm
      omega
    · have hsn : sn = 4 := by have : (4 : Int32).toInt = 4 := rfl; omega
      subst hsn
      have hu := own_us0 x
      rw [show ((8 : Int32) * (((8 : Int32) - 4) - 4)) = (0 : Int32) from by decide] at hm
      show e.toInt % 18446744073709551616 = ((X / 1 % 4294967296 : Nat) : Int)
      have hm' : e.toInt = (XT.ushrL x (0 : Int32)).toInt % ((4294967296 : Nat) : Int) := hm
      omega
    · exfalso; have : (5 : Int32).toInt = 5 := rfl; omega
    · exfalso; have : (6 : Int32).toInt = 6 := rfl; omega
    · exfalso; have : (7 : Int32).toInt = 7 := rfl; omega
    · exfalso; have : (8 : Int32).toInt = 8 := rfl; omega
  · have hcn : cn = 5 := by have : (5 : Int32).toInt = 5 := rfl; omega
    subst hcn
    rw [if_neg (by decide), show (((1 : Int64) <<< (((8 : Int32) * (5 : Int32)).toInt64 &&& 63)) - (1 : Int64)) = (1099511627775 : Int64) from by decide] at he
    have hm := c_maskL (XT.ushrL x ((8 : Int32) * (((8 : Int32) - s) - 5))) 1099511627775 40 (by decide) (by decide)
    rw [← he] at hm
    rcases own_9 q.1 with rfl | rfl | rfl | rfl | rfl | rfl | rfl | rfl | rfl
    · have hsn : sn = 0 := by have : (0 : Int32).toInt = 0 := rfl; omega
      subst hsn
      have hu := own_us24 x
      rw [show ((8 : Int32) * (((8 : Int32) - 0) - 5)) = (24 : Int32) from by decide] at hm
      show e.toInt % 18446744073709551616 = ((X / 16777216 % 1099511627776 : Nat) : Int)
      have hm' : e.toInt = (XT.ushrL x (24 : Int32)).toInt % ((1099511627776 : Nat) : Int) := hm
      omega
    · have hsn : sn = 1 := by have : (1 : Int32).toInt = 1 := rfl; omega
      subst hsn
      have hu := own_us16 x
      rw [show ((8 : Int32) * (((8 : Int32) - 1) - 5)) = (16 : Int32) from by decide] at hm
      show e.toInt % 18446744073709551616 = ((X / 65536 % 1099511627776 : Nat) : Int)
      have hm' : e.toInt = (XT.ushrL x (16 : Int32)).toInt % ((1099511627776 : Nat) : Int) := hm
      omega
    · have hsn : sn = 2 := by have : (2 : Int32).toInt = 2 := rfl; omega
      subst hsn
      have hu := own_us8 x
      rw [show ((8 : Int32) * (((8 : Int32) - 2) - 5)) = (8 : Int32) from by decide] at hm
      show e.toInt % 18446744073709551616 = ((X / 256 % 1099511627776 : Nat) : Int)
      have hm' : e.toInt = (XT.ushrL x (8 : Int32)).toInt % ((1099511627776 : Nat) : Int) := hm
      omega
    · have hsn : sn = 3 := by have : (3 : Int32).toInt = 3 := rfl; omega
      subst hsn
      have hu := own_us0 x
      rw [show ((8 : Int32) * (((8 : Int32) - 3) - 5)) = (0 : Int32) from by decide] at hm
      show e.toInt % 18446744073709551616 = ((X / 1 % 1099511627776 : Nat) : Int)
      have hm' : e.toInt = (XT.ushrL x (0 : Int32)).toInt % ((1099511627776 : Nat) : Int) := hm
      omega
    · exfalso; have : (4 : Int32).toInt = 4 := rfl; omega
    · exfalso; have : (5 : Int32).toInt = 5 := rfl; omega
    · exfalso; have : (6 : Int32).toInt = 6 := rfl; omega
    · exfalso; have : (7 : Int32).toInt = 7 := rfl; omega
    · exfalso; have : (8 : Int32).toInt = 8 := rfl; omega
  · have hcn : cn = 6 := by have : (6 : Int32).toInt = 6 := rfl; omega
    subst hcn
    rw [if_neg (by decide), show (((1 : Int64) <<< (((8 : Int32) * (6 : Int32)).toInt64 &&& 63)) - (1 : Int64)) = (281474976710655 : Int64) from by decide] at he
    have hm := c_maskL (XT.ushrL x ((8 : Int32) * (((8 : Int32) - s) - 6))) 281474976710655 48 (by decide) (by decide)
    rw [← he] at hm
    rcases own_9 q.1 with rfl | rfl | rfl | rfl | rfl | rfl | rfl | rfl | rfl
    · have hsn : sn = 0 := by have : (0 : Int32).toInt = 0 := rfl; omega
      subst hsn
      have hu := own_us16 x
      rw [show ((8 : Int32) * (((8 : Int32) - 0) - 6)) = (16 : Int32) from by decide] at hm
      show e.toInt % 18446744073709551616 = ((X / 65536 % 281474976710656 : Nat) : Int)
      have hm' : e.toInt = (XT.ushrL x (16 : Int32)).toInt % ((281474976710656 : Nat) : Int) := hm
      omega
    · have hsn : sn = 1 := by have : (1 : Int32).toInt = 1 := rfl; omega
      subst hsn
      have hu := own_us8 x
      rw [show ((8 : Int32) * (((8 : Int32) - 1) - 6)) = (8 : Int32) from by decide] at hm
      show e.toInt % 18446744073709551616 = ((X / 256 % 281474976710656 : Nat) : Int)
      have hm' : e.toInt = (XT.ushrL x (8 : Int32)).toInt % ((281474976710656 : Nat) : Int) := hm
      omega
    · have hsn : sn = 2 := by have : (2 : Int32).toInt = 2 := rfl; omega
      subst hsn
      have hu := own_us0 x
      rw [show ((8 : Int32) * (((8 : Int32) - 2) - 6)) = (0 : Int32) from by decide] at hm
      show e.toInt % 18446744073709551616 = ((X / 1 % 281474976710656 : Nat) : Int)
      have hm' : e.toInt = (XT.ushrL x (0 : Int32)).toInt % ((281474976710656 : Nat) : Int) := hm
      omega
    · exfalso; have : (3 : Int32).toInt = 3 := rfl; omega
    · exfalso; have : (4 : Int32).toInt = 4 := rfl; omega
    · exfalso; have : (5 : Int32).toInt = 5 := rfl; omega
    · exfalso; have : (6 : Int32).toInt = 6 := rfl; omega
    · exfalso; have : (7 : Int32).toInt = 7 := rfl; omega
    · exfalso; have : (8 : Int32).toInt = 8 := rfl; omega
  · have hcn : cn = 7 := by have : (7 : Int32).toInt = 7 := rfl; omega
    subst hcn
    rw [if_neg (by decide), show (((1 : Int64) <<< (((8 : Int32) * (7 : Int32)).toInt64 &&& 63)) - (1 : Int64)) = (72057594037927935 : Int64) from by decide] at he
    have hm := c_maskL (XT.ushrL x ((8 : Int32) * (((8 : Int32) - s) - 7))) 72057594037927935 56 (by decide) (by decide)
    rw [← he] at hm
    rcases own_9 q.1 with rfl | rfl | rfl | rfl | rfl | rfl | rfl | rfl | rfl
    · have hsn : sn = 0 := by have : (0 : Int32).toInt = 0 := rfl; omega
      subst hsn
      have hu := own_us8 x
      rw [show ((8 : Int32) * (((8 : Int32) - 0) - 7)) = (8 : Int32) from by decide] at hm
      show e.toInt % 18446744073709551616 = ((X / 256 % 72057594037927936 : Nat) : Int)
      have hm' : e.toInt = (XT.ushrL x (8 : Int32)).toInt % ((72057594037927936 : Nat) : Int) := hm
      omega
    · have hsn : sn = 1 := by have : (1 : Int32).toInt = 1 := rfl; omega
      subst hsn
      have hu := own_us0 x
      rw [show ((8 : Int32) * (((8 : Int32) - 1) - 7)) = (0 : Int32) from by decide] at hm
      show e.toInt % 18446744073709551616 = ((X / 1 % 72057594037927936 : Nat) : Int)
      have hm' : e.toInt = (XT.ushrL x (0 : Int32)).toInt % ((72057594037927936 : Nat) : Int) := hm
      omega
    · exfalso; have : (2 : Int32).toInt = 2 := rfl; omega
    · exfalso; have : (3 : Int32).toInt = 3 := rfl; omega
    · exfalso; have : (4 : Int32).toInt = 4 := rfl; omega
    · exfalso; have : (5 : Int32).toInt = 5 := rfl; omega
    · exfalso; have : (6 : Int32).toInt = 6 := rfl; omega
    · exfalso; have : (7 : Int32).toInt = 7 := rfl; omega
    · exfalso; have : (8 : Int32).toInt = 8 := rfl; omega
  · have hcn : cn = 8 := by have : (8 : Int32).toInt = 8 := rfl; omega
    subst hcn
    rw [if_pos (by decide), own_and1] at he
    rcases own_9 q.1 with rfl | rfl | rfl | rfl | rfl | rfl | rfl | rfl | rfl
    · have hsn : sn = 0 := by have : (0 : Int32).toInt = 0 := rfl; omega
      subst hsn
      have hu := own_us0 x
      rw [show ((8 : Int32) * (((8 : Int32) - 0) - 8)) = (0 : Int32) from by decide] at he
      show e.toInt % 18446744073709551616 = ((X / 1 % 18446744073709551616 : Nat) : Int)
      rw [he, hu]
      omega
    · exfalso; have : (1 : Int32).toInt = 1 := rfl; omega
    · exfalso; have : (2 : Int32).toInt = 2 := rfl; omega
    · exfalso; have : (3 : Int32).toInt = 3 := rfl; omega
    · exfalso; have : (4 : Int32).toInt = 4 := rfl; omega
    · exfalso; have : (5 : Int32).toInt = 5 := rfl; omega
    · exfalso; have : (6 : Int32).toInt = 6 := rfl; omega
    · exfalso; have : (7 : Int32).toInt = 7 := rfl; omega
    · exfalso; have : (8 : Int32).toInt = 8 := rfl; omega
theorem own_plain {x ex ac : Int64} {g s c : Int32} {sn cn : Nat} (hs : s.toInt = sn) (hc : c.toInt = cn) (hle : sn + cn ≤ 8) {bv : Nat → Int32} (hB : bv = (fun j => ([(nar .byte (((XT.ushrL x (56 : Int32)).toInt32).toInt8.toInt32)), (nar .byte (((XT.ushrL x (48 : Int32)).toInt32).toInt8.toInt32)), (nar .byte (((XT.ushrL x (40 : Int32)).toInt32).toInt8.toInt32)), (nar .byte (((XT.ushrL x (32 : Int32)).toInt32).toInt8.toInt32)), (nar .byte (((XT.ushrL x (24 : Int32)).toInt32).toInt8.toInt32)), (nar .byte (((XT.ushrL x (16 : Int32)).toInt32).toInt8.toInt32)), (nar .byte (((XT.ushrL x (8 : Int32)).toInt32).toInt8.toInt32)), (nar .byte ((x.toInt32).toInt8.toInt32)), (nar .byte (g.toInt8.toInt32))] : List Int32).getD j 0)) (he : ex = ((XT.ushrL x ((8 : Int32) * (((8 : Int32) - s) - c))) &&& (if c = (8 : Int32) then (-1 : Int64) else (((1 : Int64) <<< (((8 : Int32) * c).toInt64 &&& 63)) - (1 : Int64))))) (ha : ac = (own_be bv sn cn)) : ac = ex := by
  obtain ⟨X, hX⟩ : ∃ X : Nat, (X : Int) = x.toInt % 18446744073709551616 := ⟨(x.toInt % 18446744073709551616).toNat, by omega⟩
  apply own_emod
  rw [own_ex hX hs hc hle he, ha, own_inv hX hB sn cn hle]

theorem pd_0 : parseMethodDescriptor "(I)J" = some ⟨[.int], some .long⟩ := by decide +kernel
theorem pd_1 : parseMethodDescriptor "([BII)J" = some ⟨[(.array .byte), .int, .int], some .long⟩ := by decide +kernel
theorem d1_0 : decode method_2_code 0 = .ok (.iload_n 0, 1) := by decide +kernel
theorem d1_1 : decode method_2_code 1 = .ok (.bipush 8, 2) := by decide +kernel
theorem d1_3 : decode method_2_code 3 = .ok (.if_icmp .ne 7, 3) := by decide +kernel
theorem d1_6 : decode method_2_code 6 = .ok (.ldc2_w 7, 3) := by decide +kernel
theorem d1_9 : decode method_2_code 9 = .ok (.lreturn, 1) := by decide +kernel
theorem d1_10 : decode method_2_code 10 = .ok (.lconst 1, 1) := by decide +kernel
theorem d1_11 : decode method_2_code 11 = .ok (.bipush 8, 2) := by decide +kernel
theorem d1_13 : decode method_2_code 13 = .ok (.iload_n 0, 1) := by decide +kernel
theorem d1_14 : decode method_2_code 14 = .ok (.imul, 1) := by decide +kernel
theorem d1_15 : decode method_2_code 15 = .ok (.lshl, 1) := by decide +kernel
theorem d1_16 : decode method_2_code 16 = .ok (.lconst 1, 1) := by decide +kernel
theorem d1_17 : decode method_2_code 17 = .ok (.lsub, 1) := by decide +kernel
theorem d1_18 : decode method_2_code 18 = .ok (.lreturn, 1) := by decide +kernel
theorem pn_1 : plainName "com/example/basewright/basewright/EncoderBigEndianPinLaw" = true := by first | (simp [plainName, overriddenIn]; done) | decide +kernel
theorem ef_1 (m : MethodId) (x0 : Int32) : entryFrame m #[(.int x0)] 1 = mkF m 0 #[.val (.int x0)] [] := by first | (simp [entryFrame, mkF, argsToLocals, Value.category]; done) | rfl
def Q1 (Z : State) (p1 : Int32) (h0 : Heap) (n0 : Nat) (v : Option Value) (h : Heap) (L : List Loc) : Prop := v = some (.long (if p1 = (8 : Int32) then (-1 : Int64) else (((1 : Int64) <<< (((8 : Int32) * p1).toInt64 &&& 63)) - (1 : Int64)))) ∧ Fr n0 L ∧ h = h0
set_option maxRecDepth 65536 in
set_option maxHeartbeats 40000000 in
theorem rm1 (l : Launch) (Z : State) (a0 : Array Value) (hw : ∀ d ∈ tables_1, d.before a0 Z = true) (ws : List Jvm.Cond) (p1 : Int32) (h0 : Heap) (n0 : Nat) (Z0 : n0 ≤ h0.size) :
    MetFree l (⟨"com/example/basewright/basewright/EncoderBigEndianPinLaw", "mask", "(I)J"⟩ : MethodName) (head1 (Jvm.Cond.code (⟨"com/example/basewright/basewright/EncoderBigEndianPinLaw", "mask", "(I)J"⟩ : MethodName) method_2_code 1 (some .long) :: ws) ({ frames := 0, cells := 0, slots := 0, locals := 0 } : Room)) (fun a U => a = #[(.int p1)] ∧ Z.Warmed39 U.vm ∧ U.heap = h0) (fun _ _ _ _ _ => True) (fun _ U o U' => ∃ v L, o = .returned v ∧ Q1 Z p1 h0 n0 v U'.heap L ∧ FrameEnd U o U' L ({ frames := 0, cells := 0, slots := 0, locals := 0 } : Room).cells ({ frames := 0, cells := 0, slots := 0, locals := 0 } : Room).slots) := by
  refine MetFree.of_bodySF (plainFor_of_name pn_1) hisR ?_
  intro p e s m args below meth c s₁ Bd hml0 hP hK
  obtain ⟨rfl, hZ, hh⟩ := hP
  have hx := Bd.exec
  have hby := Bd.bytes
  have hml : c.maxLocals = 1 := hml0
  have hown : s.vm.findClass "com/example/basewright/basewright/EncoderBigEndianPinLaw" = some m.cls := findClass_of_methodNamed Bd.named
  have hnm := (name_of_methodNamed Bd.named Bd.method).1
  have X0 : Stand p l e ({ frames := 0, cells := 0, slots := 0, locals := 0 } : Room) s m #[(.int p1)] below meth c s₁ [] 0 0 := Stand.of_body Bd
  have e0 : s₁.heap = h0 := by rw [← hh, Bd.state]; rfl
  have N0 := Fr.nil n0
  have K0 : Keep h0 h0 [] := Keep.refl _ _
  have P0 : ∀ t, Steps p.tables e below (s₁.setTop (mkF m 0 #[.val (.int p1)] [])) t → Steps p.tables e below (s₁.setTop (entryFrame m #[(.int p1)] 1)) t := fun t k => castTop (ef_1 m p1) k
  have P1 : ∀ t, Steps p.tables e below (s₁.setTop (mkF m 3 #[.val (.int p1)] [(.int (8 : Int32)), (.int p1)])) t → Steps p.tables e below (s₁.setTop (entryFrame m #[(.int p1)] 1)) t := by
    intro t k
    refine P0 _ ?_
    refine XS.iloadN X0.here hx rfl (hb hby d1_0) rfl ?_
    show Steps p.tables e below (s₁.setTop (mkF m 1 #[.val (.int p1)] [(.int p1)])) _
    refine XS.bipush X0.here hx rfl (hb hby d1_1) ?_
    show Steps p.tables e below (s₁.setTop (mkF m 3 #[.val (.int p1)] [(.int (8 : Int32)), (.int p1)])) _
    exact k
  by_cases c3 : p1 = (8 : Int32)
  · have P2 : ∀ t, Steps p.tables e below (s₁.setTop (mkF m 9 #[.val (.int p1)] [(.long (-1 : Int64))])) t → Steps p.tables e below (s₁.setTop (entryFrame m #[(.int p1)] 1)) t := by
      intro t k
      refine P1 _ ?_
      refine XS.icmpNo X0.here hx rfl (hb hby d1_3) rfl (XT.ii_ne_f c3) ?_
      show Steps p.tables e below (s₁.setTop (mkF m 6 #[.val (.int p1)] [])) _
      refine Jvm.Stand.ldc2J X0 hx hown (mvT hZ (hw _ (List.mem_of_getElem? (i := 10) rfl))) rfl (hb hby d1_6) ?_
      show Steps p.tables e below (s₁.setTop (mkF m 9 #[.val (.int p1)] [(.long (-1 : Int64))])) _
      exact k
    obtain ⟨fs, hr, hrun, hended, hW, hsame⟩ := X0.leave (v := some (.long (-1 : Int64))) (fun h => by rw [Bd.returns] at h; cases h)
    refine ⟨_, _, P2 _ ?_, hrun, hended, _, _, rfl, ?_, ⟨_, rfl⟩, hW, hsame.mono (by decide) (by decide)⟩
    · exact X0.lreturnOut hx Bd.returns (hb hby d1_9) hr
    · show Q1 Z p1 h0 n0 _ s₁.heap _
      rw [e0]
      exact ⟨by rw [if_pos c3], N0, rfl⟩
  · have P3 : ∀ t, Steps p.tables e below (s₁.setTop (mkF m 18 #[.val (.int p1)] [(.long (((1 : Int64) <<< (((8 : Int32) * p1).toInt64 &&& 63)) - (1 : Int64)))])) t → Steps p.tables e below (s₁.setTop (entryFrame m #[(.int p1)] 1)) t := by
      intro t k
      refine P1 _ ?_
      refine XS.icmpYes X0.here hx rfl (pc0 := 3) (pc' := 10) rfl (hb hby d1_3) rfl (XT.ii_ne_t c3) (by decide) (by decide) ?_
      show Steps p.tables e below (s₁.setTop (mkF m 10 #[.val (.int p1)] [])) _
      refine XT.lconst X0.here hx rfl (hb hby d1_10) ?_
      show Steps p.tables e below (s₁.setTop (mkF m 11 #[.val (.int p1)] [(.long (1 : Int64))])) _
      refine XS.bipush X0.here hx rfl (hb hby d1_11) ?_
      show Steps p.tables e below (s₁.setTop (mkF m 13 #[.val (.int p1)] [(.int (8 : Int32)), (.long (1 : Int64))])) _
      refine XS.iloadN X0.here hx rfl (hb hby d1_13) rfl ?_
      show Steps p.tables e below (s₁.setTop (mkF m 14 #[.val (.int p1)] [(.int p1), (.int (8 : Int32)), (.long (1 : Int64))])) _
      refine XS.imul X0.here hx rfl (hb hby d1_14) rfl ?_
      show Steps p.tables e below (s₁.setTop (mkF m 15 #[.val (.int p1)] [(.int ((8 : Int32) * p1)), (.long (1 : Int64))])) _
      refine XT.lshl X0.here hx rfl (hb hby d1_15) rfl ?_
      show Steps p.tables e below (s₁.setTop (mkF m 16 #[.val (.int p1)] [(.long ((1 : Int64) <<< (((8 : Int32) * p1).toInt64 &&& 63)))])) _
      refine XT.lconst X0.here hx rfl (hb hby d1_16) ?_
      show Steps p.tables e below (s₁.setTop (mkF m 17 #[.val (.int p1)] [(.long (1 : Int64)), (.long ((1 : Int64) <<< (((8 : Int32) * p1).toInt64 &&& 63)))])) _
      refine XT.lsub X0.here hx rfl (hb hby d1_17) rfl ?_
      show Steps p.tables e below (s₁.setTop (mkF m 18 #[.val (.int p1)] [(.long (((1 : Int64) <<< (((8 : Int32) * p1).toInt64 &&& 63)) - (1 : Int64)))])) _
      exact k
    obtain ⟨fs, hr, hrun, hended, hW, hsame⟩ := X0.leave (v := some (.long (((1 : Int64) <<< (((8 : Int32) * p1).toInt64 &&& 63)) - (1 : Int64)))) (fun h => by rw [Bd.returns] at h; cases h)
    refine ⟨_, _, P3 _ ?_, hrun, hended, _, _, rfl, ?_, ⟨_, rfl⟩, hW, hsame.mono (by decide) (by decide)⟩
    · exact X0.lreturnOut hx Bd.returns (hb hby d1_18) hr
    · show Q1 Z p1 h0 n0 _ s₁.heap _
      rw [e0]
      exact ⟨by rw [if_neg c3], N0, rfl⟩
theorem d2_0 : decode prog_19_method_13_code 0 = .ok (.lconst 0, 1) := by decide +kernel
theorem d2_1 : decode prog_19_method_13_code 1 = .ok (.lstore_n 3, 1) := by decide +kernel
theorem d2_2 : decode prog_19_method_13_code 2 = .ok (.iload_n 1, 1) := by decide +kernel
theorem d2_3 : decode prog_19_method_13_code 3 = .ok (.istore 5, 2) := by decide +kernel
theorem d2_5 : decode prog_19_method_13_code 5 = .ok (.iload 5, 2) := by decide +kernel
theorem d2_7 : decode prog_19_method_13_code 7 = .ok (.iload_n 1, 1) := by decide +kernel
theorem d2_8 : decode prog_19_method_13_code 8 = .ok (.iload_n 2, 1) := by decide +kernel
theorem d2_9 : decode prog_19_method_13_code 9 = .ok (.iadd, 1) := by decide +kernel
theorem d2_10 : decode prog_19_method_13_code 10 = .ok (.if_icmp .ge 24, 3) := by decide +kernel
theorem d2_13 : decode prog_19_method_13_code 13 = .ok (.lload_n 3, 1) := by decide +kernel
theorem d2_14 : decode prog_19_method_13_code 14 = .ok (.bipush 8, 2) := by decide +kernel
theorem d2_16 : decode prog_19_method_13_code 16 = .ok (.lshl, 1) := by decide +kernel
theorem d2_17 : decode prog_19_method_13_code 17 = .ok (.aload_n 0, 1) := by decide +kernel
theorem d2_18 : decode prog_19_method_13_code 18 = .ok (.iload 5, 2) := by decide +kernel
theorem d2_20 : decode prog_19_method_13_code 20 = .ok (.baload, 1) := by decide +kernel
theorem d2_21 : decode prog_19_method_13_code 21 = .ok (.sipush 255, 3) := by decide +kernel
theorem d2_24 : decode prog_19_method_13_code 24 = .ok (.iand, 1) := by decide +kernel
theorem d2_25 : decode prog_19_method_13_code 25 = .ok (.i2l, 1) := by decide +kernel
theorem d2_26 : decode prog_19_method_13_code 26 = .ok (.lor, 1) := by decide +kernel
theorem d2_27 : decode prog_19_method_13_code 27 = .ok (.lstore_n 3, 1) := by decide +kernel
theorem d2_28 : decode prog_19_method_13_code 28 = .ok (.iinc 5 1, 3) := by decide +kernel
theorem d2_31 : decode prog_19_method_13_code 31 = .ok (.goto (-26), 3) := by decide +kernel
theorem d2_34 : decode prog_19_method_13_code 34 = .ok (.lload_n 3, 1) := by decide +kernel
theorem d2_35 : decode prog_19_method_13_code 35 = .ok (.lreturn, 1) := by decide +kernel
set_option maxRecDepth 65536 in
set_option maxHeartbeats 40000000 in
theorem tn_turn {p : Program} {l : Launch} {e : Env} {R : Room} {s : State} {m : MethodId} {args : Array Value} {below : List Frame} {meth : Method} {c : Code} {T : State} {locs : List Loc} {cells slots : Nat} {Z : State} {a0 : Array Value} {h0 : Heap} (a1 : Addr) (p2 : Int32) (p3 : Int32) (acc : Int64) (iv : Int32) (kc : ClassId) (vs : List Value) (bw : Int32)
    (X0 : Stand p l e R s m args below meth c T locs cells slots) (hx : p.tables.exec = Jvm.exec) (hZ : Z.Warmed39 s.vm) (hw : ∀ d ∈ tables_1, d.before a0 Z = true) (hby : c.code = prog_19_method_13_code) (hown : s.vm.findClass "com/example/basewright/basewright/Encoder" = some m.cls) (e0 : T.heap = h0) (A_a : Arv Z h0 a1 kc .byte (9 : Int32) vs (.int (0 : Int32))) (hlt : iv < (p2 + p3)) (hj : ¬ iv < (0 : Int32) ∧ iv < (9 : Int32)) (hv : vs.getD iv.toNatClampNeg (.int (0 : Int32)) = .int bw) :
    ∀ t, Steps p.tables e below (T.setTop (mkF m 5 #[.val (.ref a1), .val (.int p2), .val (.int p3), .val (.long ((acc <<< ((8 : Int32).toInt64 &&& 63)) ||| ((bw &&& (255 : Int32)).toInt64))), .second, .val (.int (iv + (1 : Int32)))] [])) t → Steps p.tables e below (T.setTop (mkF m 5 #[.val (.ref a1), .val (.int p2), .val (.int p3), .val (.long acc), .second, .val (.int iv)] [])) t := by
  intro t k
  refine XS.iload X0.here hx rfl (hb hby d2_5) rfl ?_
  show Steps p.tables e below (T.setTop (mkF m 7 #[.val (.ref a1), .val (.int p2), .val (.int p3), .val (.long acc), .second, .val (.int iv)] [(.int iv)])) _
  refine XS.iloadN X0.here hx rfl (hb hby d2_7) rfl ?_
  show Steps p.tables e below (T.setTop (mkF m 8 #[.val (.ref a1), .val (.int p2), .val (.int p3), .val (.long acc), .second, .val (.int iv)] [(.int p2), (.int iv)])) _
  refine XS.iloadN X0.here hx rfl (hb hby d2_8) rfl ?_
  show Steps p.tables e below (T.setTop (mkF m 9 #[.val (.ref a1), .val (.int p2), .val (.int p3), .val (.long acc), .second, .val (.int iv)] [(.int p3), (.int p2), (.int iv)])) _
  refine XS.iadd X0.here hx rfl (hb hby d2_9) rfl ?_
  show Steps p.tables e below (T.setTop (mkF m 10 #[.val (.ref a1), .val (.int p2), .val (.int p3), .val (.long acc), .second, .val (.int iv)] [(.int (p2 + p3)), (.int iv)])) _
  refine XS.icmpNo X0.here hx rfl (hb hby d2_10) rfl (XT.ii_ge_f hlt) ?_
  show Steps p.tables e below (T.setTop (mkF m 13 #[.val (.ref a1), .val (.int p2), .val (.int p3), .val (.long acc), .second, .val (.int iv)] [])) _
  refine XT.lloadN X0.here hx rfl (hb hby d2_13) rfl ?_
  show Steps p.tables e below (T.setTop (mkF m 14 #[.val (.ref a1), .val (.int p2), .val (.int p3), .val (.long acc), .second, .val (.int iv)] [(.long acc)])) _
  refine XS.bipush X0.here hx rfl (hb hby d2_14) ?_
  show Steps p.tables e below (T.setTop (mkF m 16 #[.val (.ref a1), .val (.int p2), .val (.int p3), .val (.long acc), .second, .val (.int iv)] [(.int (8 : Int32)), (.long acc)])) _
  refine XT.lshl X0.here hx rfl (hb hby d2_16) rfl ?_
  show Steps p.tables e below (T.setTop (mkF m 17 #[.val (.ref a1), .val (.int p2), .val (.int p3), .val (.long acc), .second, .val (.int iv)] [(.long (acc <<< ((8 : Int32).toInt64 &&& 63)))])) _
  refine XS.aloadN X0.here hx rfl (hb hby d2_17) rfl rfl ?_
  show Steps p.tables e below (T.setTop (mkF m 18 #[.val (.ref a1), .val (.int p2), .val (.int p3), .val (.long acc), .second, .val (.int iv)] [(.ref a1), (.long (acc <<< ((8 : Int32).toInt64 &&& 63)))])) _
  refine XS.iload X0.here hx rfl (hb hby d2_18) rfl ?_
  show Steps p.tables e below (T.setTop (mkF m 20 #[.val (.ref a1), .val (.int p2), .val (.int p3), .val (.long acc), .second, .val (.int iv)] [(.int iv), (.ref a1), (.long (acc <<< ((8 : Int32).toInt64 &&& 63)))])) _
  refine own_bal X0 hx hZ e0 A_a hj (v := (.int bw)) hv rfl rfl (hb hby d2_20) ?_
  show Steps p.tables e below (T.setTop (mkF m 21 #[.val (.ref a1), .val (.int p2), .val (.int p3), .val (.long acc), .second, .val (.int iv)] [(.int bw), (.long (acc <<< ((8 : Int32).toInt64 &&& 63)))])) _
  refine XS.sipush X0.here hx rfl (hb hby d2_21) ?_
  show Steps p.tables e below (T.setTop (mkF m 24 #[.val (.ref a1), .val (.int p2), .val (.int p3), .val (.long acc), .second, .val (.int iv)] [(.int (255 : Int32)), (.int bw), (.long (acc <<< ((8 : Int32).toInt64 &&& 63)))])) _
  refine XS.iand X0.here hx rfl (hb hby d2_24) rfl ?_
  show Steps p.tables e below (T.setTop (mkF m 25 #[.val (.ref a1), .val (.int p2), .val (.int p3), .val (.long acc), .second, .val (.int iv)] [(.int (bw &&& (255 : Int32))), (.long (acc <<< ((8 : Int32).toInt64 &&& 63)))])) _
  refine XT.i2l X0.here hx rfl (hb hby d2_25) rfl ?_
  show Steps p.tables e below (T.setTop (mkF m 26 #[.val (.ref a1), .val (.int p2), .val (.int p3), .val (.long acc), .second, .val (.int iv)] [(.long ((bw &&& (255 : Int32)).toInt64)), (.long (acc <<< ((8 : Int32).toInt64 &&& 63)))])) _
  refine XT.lor X0.here hx rfl (hb hby d2_26) rfl ?_
  show Steps p.tables e below (T.setTop (mkF m 27 #[.val (.ref a1), .val (.int p2), .val (.int p3), .val (.long acc), .second, .val (.int iv)] [(.long ((acc <<< ((8 : Int32).toInt64 &&& 63)) ||| ((bw &&& (255 : Int32)).toInt64)))])) _
  refine XT.lstoreN X0.here hx rfl (hb hby d2_27) rfl (l' := #[.val (.ref a1), .val (.int p2), .val (.int p3), .val (.long ((acc <<< ((8 : Int32).toInt64 &&& 63)) ||| ((bw &&& (255 : Int32)).toInt64))), .second, .val (.int iv)]) rfl ?_
  show Steps p.tables e below (T.setTop (mkF m 28 #[.val (.ref a1), .val (.int p2), .val (.int p3), .val (.long ((acc <<< ((8 : Int32).toInt64 &&& 63)) ||| ((bw &&& (255 : Int32)).toInt64))), .second, .val (.int iv)] [])) _
  refine XS.iinc X0.here hx rfl (hb hby d2_28) rfl (l' := #[.val (.ref a1), .val (.int p2), .val (.int p3), .val (.long ((acc <<< ((8 : Int32).toInt64 &&& 63)) ||| ((bw &&& (255 : Int32)).toInt64))), .second, .val (.int (iv + (1 : Int32)))]) rfl ?_
  show Steps p.tables e below (T.setTop (mkF m 31 #[.val (.ref a1), .val (.int p2), .val (.int p3), .val (.long ((acc <<< ((8 : Int32).toInt64 &&& 63)) ||| ((bw &&& (255 : Int32)).toInt64))), .second, .val (.int (iv + (1 : Int32)))] [])) _
  refine XS.goto X0.here hx rfl (pc0 := 31) (pc' := 5) rfl (hb hby d2_31) (by decide) (by decide) ?_
  show Steps p.tables e below (T.setTop (mkF m 5 #[.val (.ref a1), .val (.int p2), .val (.int p3), .val (.long ((acc <<< ((8 : Int32).toInt64 &&& 63)) ||| ((bw &&& (255 : Int32)).toInt64))), .second, .val (.int (iv + (1 : Int32)))] [])) _
  exact k
set_option maxRecDepth 65536 in
set_option maxHeartbeats 40000000 in
theorem tn_leave {p : Program} {l : Launch} {e : Env} {R : Room} {s : State} {m : MethodId} {args : Array Value} {below : List Frame} {meth : Method} {c : Code} {T : State} {locs : List Loc} {cells slots : Nat} {Z : State} {a0 : Array Value} {h0 : Heap} (a1 : Addr) (p2 : Int32) (p3 : Int32) (acc : Int64) (iv : Int32)
    (X0 : Stand p l e R s m args below meth c T locs cells slots) (hx : p.tables.exec = Jvm.exec) (hZ : Z.Warmed39 s.vm) (hw : ∀ d ∈ tables_1, d.before a0 Z = true) (hby : c.code = prog_19_method_13_code) (hown : s.vm.findClass "com/example/basewright/basewright/Encoder" = some m.cls) (e0 : T.heap = h0) (hge : ¬ iv < (p2 + p3)) :
    ∀ t, Steps p.tables e below (T.setTop (mkF m 34 #[.val (.ref a1), .val (.int p2), .val (.int p3), .val (.long acc), .second, .val (.int iv)] [])) t → Steps p.tables e below (T.setTop (mkF m 5 #[.val (.ref a1), .val (.int p2), .val (.int p3), .val (.long acc), .second, .val (.int iv)] [])) t := by
  intro t k
  refine XS.iload X0.here hx rfl (hb hby d2_5) rfl ?_
  show Steps p.tables e below (T.setTop (mkF m 7 #[.val (.ref a1), .val (.int p2), .val (.int p3), .val (.long acc), .second, .val (.int iv)] [(.int iv)])) _
  refine XS.iloadN X0.here hx rfl (hb hby d2_7) rfl ?_
  show Steps p.tables e below (T.setTop (mkF m 8 #[.val (.ref a1), .val (.int p2), .val (.int p3), .val (.long acc), .second, .val (.int iv)] [(.int p2), (.int iv)])) _
  refine XS.iloadN X0.here hx rfl (hb hby d2_8) rfl ?_
  show Steps p.tables e below (T.setTop (mkF m 9 #[.val (.ref a1), .val (.int p2), .val (.int p3), .val (.long acc), .second, .val (.int iv)] [(.int p3), (.int p2), (.int iv)])) _
  refine XS.iadd X0.here hx rfl (hb hby d2_9) rfl ?_
  show Steps p.tables e below (T.setTop (mkF m 10 #[.val (.ref a1), .val (.int p2), .val (.int p3), .val (.long acc), .second, .val (.int iv)] [(.int (p2 + p3)), (.int iv)])) _
  refine XS.icmpYes X0.here hx rfl (pc0 := 10) (pc' := 34) rfl (hb hby d2_10) rfl (XT.ii_ge_t hge) (by decide) (by decide) ?_
  show Steps p.tables e below (T.setTop (mkF m 34 #[.val (.ref a1), .val (.int p2), .val (.int p3), .val (.long acc), .second, .val (.int iv)] [])) _
  exact k
set_option maxRecDepth 65536 in
theorem own_loop {p : Program} {l : Launch} {e : Env} {R : Room} {s : State} {m : MethodId} {args : Array Value} {below : List Frame} {meth : Method} {c : Code} {T : State} {locs : List Loc} {cells slots : Nat} {Z : State} {a0 : Array Value} {h0 : Heap} (a1 : Addr) (p2 p3 : Int32) (kc : ClassId) (vs : List Value) (bv : Nat → Int32) (sn cn : Nat)
    (X0 : Stand p l e R s m args below meth c T locs cells slots) (hx : p.tables.exec = Jvm.exec) (hZ : Z.Warmed39 s.vm) (hw : ∀ d ∈ tables_1, d.before a0 Z = true) (hby : c.code = prog_19_method_13_code) (hown : s.vm.findClass "com/example/basewright/basewright/Encoder" = some m.cls) (e0 : T.heap = h0) (A_a : Arv Z h0 a1 kc .byte (9 : Int32) vs (.int (0 : Int32)))
    (hvs : ∀ j, j < 9 → vs.getD j (.int (0 : Int32)) = .int (bv j)) (h2 : p2.toInt = sn) (h3 : p3.toInt = cn) (hle : sn + cn ≤ 8) (k : Nat) : ∀ (i : Nat) (iv : Int32) (acc : Int64), i + k = cn → iv.toInt = ((sn + i : Nat) : Int) → acc = own_be bv sn i →
      ∃ jv : Int32, ∀ t, Steps p.tables e below (T.setTop (mkF m 34 #[.val (.ref a1), .val (.int p2), .val (.int p3), .val (.long (own_be bv sn cn)), .second, .val (.int jv)] [])) t → Steps p.tables e below (T.setTop (mkF m 5 #[.val (.ref a1), .val (.int p2), .val (.int p3), .val (.long acc), .second, .val (.int iv)] [])) t := by
  have hsum : (p2 + p3).toInt = ((sn + cn : Nat) : Int) := by rw [XT.add32 ⟨by omega, by omega⟩]; omega
  induction k with
  | zero =>
    intro i iv acc h4 h5 h6
    have hi : i = cn := by omega
    subst hi
    refine ⟨iv, fun t k => ?_⟩
    refine tn_leave a1 p2 p3 acc iv X0 hx hZ hw hby hown e0 ?_ t ?_
    · rw [Int32.lt_iff_toInt_lt]; omega
    · rw [h6]; exact k
  | succ k ih =>
    intro i iv acc h4 h5 h6
    have hlt : iv < (p2 + p3) := by rw [Int32.lt_iff_toInt_lt]; omega
    have hj : ¬ iv < (0 : Int32) ∧ iv < (9 : Int32) := by
      rw [Int32.lt_iff_toInt_lt, Int32.lt_iff_toInt_lt]
      exact ⟨by show ¬ iv.toInt < 0; omega, by show iv.toInt < 9; omega⟩
    have hv : vs.getD iv.toNatClampNeg (.int (0 : Int32)) = .int (bv (sn + i)) := by rw [own_nat h5]; exact hvs _ (by omega)
    have hn : (iv + (1 : Int32)).toInt = ((sn + (i + 1) : Nat) : Int) := by rw [XT.add32 (y := 1) ⟨by show -2 ^ 31 ≤ iv.toInt + 1; omega, by show iv.toInt + 1 < 2 ^ 31; omega⟩]; show iv.toInt + 1 = _; omega
    obtain ⟨jv, hk⟩ := ih (i + 1) (iv + (1 : Int32)) _ (by omega) hn (by rw [own_be_s, ← h6])
    exact ⟨jv, fun t k => tn_turn a1 p2 p3 acc iv kc vs (bv (sn + i)) X0 hx hZ hw hby hown e0 A_a hlt hj hv t (hk t k)⟩
theorem pn_2 : plainName "com/example/basewright/basewright/Encoder" = true := by first | (simp [plainName, overriddenIn]; done) | decide +kernel
theorem ef_2 (m : MethodId) (x0 : Addr) (x1 : Int32) (x2 : Int32) : entryFrame m #[(.ref x0), (.int x1), (.int x2)] 6 = mkF m 0 #[.val (.ref x0), .val (.int x1), .val (.int x2), .unset, .unset, .unset] [] := by first | (simp [entryFrame, mkF, argsToLocals, Value.category]; done) | rfl
def Q2 (Z : State) (a1 : Addr) (p2 : Int32) (p3 : Int32) (kc : ClassId) (vs : List Value) (bv : Nat → Int32) (sn : Nat) (cn : Nat) (h0 : Heap) (n0 : Nat) (v : Option Value) (h : Heap) (L : List Loc) : Prop := v = some (.long (own_be bv sn cn)) ∧ Fr n0 L ∧ h = h0
set_option maxRecDepth 65536 in
set_option maxHeartbeats 40000000 in
theorem rm2 (l : Launch) (Z : State) (a0 : Array Value) (hw : ∀ d ∈ tables_1, d.before a0 Z = true) (ws : List Jvm.Cond) (a1 : Addr) (p2 : Int32) (p3 : Int32) (kc : ClassId) (vs : List Value) (bv : Nat → Int32) (sn : Nat) (cn : Nat) (h0 : Heap) (n0 : Nat) (Z0 : n0 ≤ h0.size) (A_a : Arv Z h0 a1 kc .byte (9 : Int32) vs (.int (0 : Int32))) (hvs : ∀ j, j < 9 → vs.getD j (.int (0 : Int32)) = .int (bv j)) (h2 : p2.toInt = sn) (h3 : p3.toInt = cn) (hle : sn + cn ≤ 8) :
    MetFree l (⟨"com/example/basewright/basewright/Encoder", "bigEndian", "([BII)J"⟩ : MethodName) (head1 (Jvm.Cond.code (⟨"com/example/basewright/basewright/Encoder", "bigEndian", "([BII)J"⟩ : MethodName) prog_19_method_13_code 6 (some .long) :: ws) ({ frames := 0, cells := 0, slots := 0, locals := 0 } : Room)) (fun a U => a = #[(.ref a1), (.int p2), (.int p3)] ∧ Z.Warmed39 U.vm ∧ U.heap = h0) (fun _ _ _ _ _ => True) (fun _ U o U' => ∃ v L, o = .returned v ∧ Q2 Z a1 p2 p3 kc vs bv sn cn h0 n0 v U'.heap L ∧ FrameEnd U o U' L ({ frames := 0, cells := 0, slots := 0, locals := 0 } : Room).cells ({ frames := 0, cells := 0, slots := 0, locals := 0 } : Room).slots) := by
  refine MetFree.of_bodySF (plainFor_of_name pn_2) hisR ?_
  intro p e s m args below meth c s₁ Bd hml0 hP hK
  obtain ⟨rfl, hZ, hh⟩ := hP
  have hx := Bd.exec
  have hby := Bd.bytes
  have hml : c.maxLocals = 6 := hml0
  have hown : s.vm.findClass "com/example/basewright/basewright/Encoder" = some m.cls := findClass_of_methodNamed Bd.named
  have hnm := (name_of_methodNamed Bd.named Bd.method).1
  have X0 : Stand p l e ({ frames := 0, cells := 0, slots := 0, locals := 0 } : Room) s m #[(.ref a1), (.int p2), (.int p3)] below meth c s₁ [] 0 0 := Stand.of_body Bd
  have e0 : s₁.heap = h0 := by rw [← hh, Bd.state]; rfl
  have N0 := Fr.nil n0
  have K0 : Keep h0 h0 [] := Keep.refl _ _
  have P0 : ∀ t, Steps p.tables e below (s₁.setTop (mkF m 0 #[.val (.ref a1), .val (.int p2), .val (.int p3), .unset, .unset, .unset] [])) t → Steps p.tables e below (s₁.setTop (entryFrame m #[(.ref a1), (.int p2), (.int p3)] 6)) t := fun t k => castTop (ef_2 m a1 p2 p3) k
  have P1 : ∀ t, Steps p.tables e below (s₁.setTop (mkF m 5 #[.val (.ref a1), .val (.int p2), .val (.int p3), .val (.long (0 : Int64)), .second, .val (.int p2)] [])) t → Steps p.tables e below (s₁.setTop (entryFrame m #[(.ref a1), (.int p2), (.int p3)] 6)) t := by
    intro t k
    refine P0 _ ?_
    refine XT.lconst X0.here hx rfl (hb hby d2_0) ?_
    show Steps p.tables e below (s₁.setTop (mkF m 1 #[.val (.ref a1), .val (.int p2), .val (.int p3), .unset, .unset, .unset] [(.long (0 : Int64))])) _
    refine XT.lstoreN X0.here hx rfl (hb hby d2_1) rfl (l' := #[.val (.ref a1), .val (.int p2), .val (.int p3), .val (.long (0 : Int64)), .second, .unset]) rfl ?_
    show Steps p.tables e below (s₁.setTop (mkF m 2 #[.val (.ref a1), .val (.int p2), .val (.int p3), .val (.long (0 : Int64)), .second, .unset] [])) _
    refine XS.iloadN X0.here hx rfl (hb hby d2_2) rfl ?_
    show Steps p.tables e below (s₁.setTop (mkF m 3 #[.val (.ref a1), .val (.int p2), .val (.int p3), .val (.long (0 : Int64)), .second, .unset] [(.int p2)])) _
    refine XS.istore X0.here hx rfl (hb hby d2_3) rfl (l' := #[.val (.ref a1), .val (.int p2), .val (.int p3), .val (.long (0 : Int64)), .second, .val (.int p2)]) rfl ?_
    show Steps p.tables e below (s₁.setTop (mkF m 5 #[.val (.ref a1), .val (.int p2), .val (.int p3), .val (.long (0 : Int64)), .second, .val (.int p2)] [])) _
    exact k
  obtain ⟨jv, hL⟩ := own_loop a1 p2 p3 kc vs bv sn cn X0 hx hZ hw hby hown e0 A_a hvs h2 h3 hle cn 0 p2 (0 : Int64) (by omega) (by omega) rfl
  have P2 : ∀ t, Steps p.tables e below (s₁.setTop (mkF m 34 #[.val (.ref a1), .val (.int p2), .val (.int p3), .val (.long (own_be bv sn cn)), .second, .val (.int jv)] [])) t → Steps p.tables e below (s₁.setTop (entryFrame m #[(.ref a1), (.int p2), (.int p3)] 6)) t := fun t k => P1 _ (hL _ k)
  have P3 : ∀ t, Steps p.tables e below (s₁.setTop (mkF m 35 #[.val (.ref a1), .val (.int p2), .val (.int p3), .val (.long (own_be bv sn cn)), .second, .val (.int jv)] [(.long (own_be bv sn cn))])) t → Steps p.tables e below (s₁.setTop (entryFrame m #[(.ref a1), (.int p2), (.int p3)] 6)) t := by
    intro t k
    refine P2 _ ?_
    refine XT.lloadN X0.here hx rfl (hb hby d2_34) rfl ?_
    show Steps p.tables e below (s₁.setTop (mkF m 35 #[.val (.ref a1), .val (.int p2), .val (.int p3), .val (.long (own_be bv sn cn)), .second, .val (.int jv)] [(.long (own_be bv sn cn))])) _
    exact k
  obtain ⟨fs, hr, hrun, hended, hW, hsame⟩ := X0.leave (v := some (.long (own_be bv sn cn))) (fun h => by rw [Bd.returns] at h; cases h)
  refine ⟨_, _, P3 _ ?_, hrun, hended, _, _, rfl, ?_, ⟨_, rfl⟩, hW, hsame.mono (by decide) (by decide)⟩
  · exact X0.lreturnOut hx Bd.returns (hb hby d2_35) hr
  · show Q2 Z a1 p2 p3 kc vs bv sn cn h0 n0 _ s₁.heap _
    rw [e0]
    exact ⟨rfl, N0, rfl⟩
theorem pn_0 : plainName "com/example/basewright/basewright/EncoderBigEndianPinLaw" = true := by first | (simp [plainName, overriddenIn]; done) | decide +kernel
theorem ef_0 (m : MethodId) (x0 : Int64) (x1 : Int32) (x2 : Int32) (x3 : Int32) : entryFrame m #[(.long x0), (.int x1), (.int x2), (.int x3)] maxLocals = mkF m 0 #[.val (.long x0), .second, .val (.int x1), .val (.int x2), .val (.int x3), .unset, .unset, .unset, .unset, .unset, .unset, .unset] [] := by first | (simp [entryFrame, mkF, argsToLocals, Value.category, maxLocals]; done) | rfl
def Q0 (Z : State) (q1 : Int64) (p2 : Int32) (p3 : Int32) (p4 : Int32) (h0 : Heap) (n0 : Nat) (v : Option Value) (h : Heap) (L : List Loc) : Prop := v = some (.int 1) ∧ Fr n0 L
set_option maxRecDepth 65536 in
set_option maxHeartbeats 40000000 in
theorem rm0 (l : Launch) (Z : State) (a0 : Array Value) (hw : ∀ d ∈ tables_1, d.before a0 Z = true) (ws : List Jvm.Cond) (q1 : Int64) (p2 : Int32) (p3 : Int32) (p4 : Int32) (h0 : Heap) (n0 : Nat) (Z0 : n0 ≤ h0.size) :
    MetFree l x (head1 (Jvm.Cond.code x code maxLocals ret :: ws) room_1) (fun a U => a = #[(.long q1), (.int p2), (.int p3), (.int p4)] ∧ Z.Warmed39 U.vm ∧ U.heap = h0) (fun _ _ _ _ _ => True) (fun _ U o U' => ∃ v L, o = .returned v ∧ Q0 Z q1 p2 p3 p4 h0 n0 v U'.heap L ∧ FrameEnd U o U' L room_1.cells room_1.slots) := by
  refine MetFree.of_bodySF (plainFor_of_name pn_0) hisR ?_
  intro p e s m args below meth c s₁ Bd hml0 hP hK
  obtain ⟨rfl, hZ, hh⟩ := hP
  have hx := Bd.exec
  have hby := Bd.bytes
  have hml : c.maxLocals = 12 := hml0
  have hown : s.vm.findClass "com/example/basewright/basewright/EncoderBigEndianPinLaw" = some m.cls := findClass_of_methodNamed Bd.named
  have hnm := (name_of_methodNamed Bd.named Bd.method).1
  have X0 : Stand p l e room_1 s m #[(.long q1), (.int p2), (.int p3), (.int p4)] below meth c s₁ [] 0 0 := Stand.of_body Bd
  have e0 : s₁.heap = h0 := by rw [← hh, Bd.state]; rfl
  have N0 := Fr.nil n0
  have K0 : Keep h0 h0 [] := Keep.refl _ _
  have P0 : ∀ t, Steps p.tables e below (s₁.setTop (mkF m 0 #[.val (.long q1), .second, .val (.int p2), .val (.int p3), .val (.int p4), .unset, .unset, .unset, .unset, .unset, .unset, .unset] [])) t → Steps p.tables e below (s₁.setTop (entryFrame m #[(.long q1), (.int p2), (.int p3), (.int p4)] maxLocals)) t := fun t k => castTop (ef_0 m q1 p2 p3 p4) k
  have P1 : ∀ t, Steps p.tables e below (s₁.setTop (mkF m 2 #[.val (.long q1), .second, .val (.int p2), .val (.int p3), .val (.int p4), .unset, .unset, .unset, .unset, .unset, .unset, .unset] [(.int (9 : Int32))])) t → Steps p.tables e below (s₁.setTop (entryFrame m #[(.long q1), (.int p2), (.int p3), (.int p4)] maxLocals)) t := by
    intro t k
    refine P0 _ ?_
    refine XS.bipush X0.here hx rfl (hb hby at_0) ?_
    show Steps p.tables e below (s₁.setTop (mkF m 2 #[.val (.long q1), .second, .val (.int p2), .val (.int p3), .val (.int p4), .unset, .unset, .unset, .unset, .unset, .unset, .unset] [(.int (9 : Int32))])) _
    exact k
  obtain ⟨T2, h2, k2, X2, e2, E2, A2, st2⟩ := newP X0 hx hZ (hw _ (List.mem_of_getElem? (i := 0) rfl)) e0 (g := (mkF m 2 #[.val (.long q1), .second, .val (.int p2), .val (.int p3), .val (.int p4), .unset, .unset, .unset, .unset, .unset, .unset, .unset] [(.int (9 : Int32))])) rfl (hb hby at_2) rfl (by decide) (cap := 9) (by decide) (by decide) (by decide) (by decide)
  obtain ⟨ba, g2⟩ : ∃ z, z = h0.size := ⟨_, rfl⟩
  rw [← g2] at A2 st2
  obtain ⟨kc_ba, hkc_ba⟩ : ∃ z, z = k2 := ⟨_, rfl⟩
  rw [← hkc_ba] at A2
  have F3 : Arv Z h2 ba kc_ba .byte (9 : Int32) [(.int (0 : Int32)), (.int (0 : Int32)), (.int (0 : Int32)), (.int (0 : Int32)), (.int (0 : Int32)), (.int (0 : Int32)), (.int (0 : Int32)), (.int (0 : Int32)), (.int (0 : Int32))] (.int (0 : Int32)) := (Arv.new A2 (by decide)).pad (pad_rep [] (.int (0 : Int32)) 9)
  have Z4 : n0 ≤ h2.size := Nat.le_trans Z0 E2.1
  have K5 : Keep h0 h2 [] := K0.ext E2
  have g_ba : n0 ≤ ba := Nat.le_trans Z0 (Nat.le_of_eq g2.symm)
  have sz_ba : h0.size ≤ ba := Nat.le_trans K0.1 (Nat.le_of_eq g2.symm)
  have P6 : ∀ t, Steps p.tables e below (T2.setTop (mkF m 4 #[.val (.long q1), .second, .val (.int p2), .val (.int p3), .val (.int p4), .unset, .unset, .unset, .unset, .unset, .unset, .unset] [(.ref ba)])) t → Steps p.tables e below (s₁.setTop (entryFrame m #[(.long q1), (.int p2), (.int p3), (.int p4)] maxLocals)) t := fun t k => P1 _ (st2 _ k)
  have P7 : ∀ t, Steps p.tables e below (T2.setTop (mkF m 15 #[.val (.long q1), .second, .val (.int p2), .val (.int p3), .val (.int p4), .val (.ref ba), .unset, .unset, .unset, .unset, .unset, .unset] [(.int (((XT.ushrL q1 (56 : Int32)).toInt32).toInt8.toInt32)), (.int (0 : Int32)), (.ref ba)])) t → Steps p.tables e below (s₁.setTop (entryFrame m #[(.long q1), (.int p2), (.int p3), (.int p4)] maxLocals)) t := by
    intro t k
    refine P6 _ ?_
    refine XS.astore X2.here hx rfl (hb hby at_4) rfl rfl (l' := #[.val (.long q1), .second, .val (.int p2), .val (.int p3), .val (.int p4), .val (.ref ba), .unset, .unset, .unset, .unset, .unset, .unset]) rfl ?_
    show Steps p.tables e below (T2.setTop (mkF m 6 #[.val (.long q1), .second, .val (.int p2), .val (.int p3), .val (.int p4), .val (.ref ba), .unset, .unset, .unset, .unset, .unset, .unset] [])) _
    refine XS.aload X2.here hx rfl (hb hby at_6) rfl rfl ?_
    show Steps p.tables e below (T2.setTop (mkF m 8 #[.val (.long q1), .second, .val (.int p2), .val (.int p3), .val (.int p4), .val (.ref ba), .unset, .unset, .unset, .unset, .unset, .unset] [(.ref ba)])) _
    refine XS.iconst X2.here hx rfl (hb hby at_8) ?_
    show Steps p.tables e below (T2.setTop (mkF m 9 #[.val (.long q1), .second, .val (.int p2), .val (.int p3), .val (.int p4), .val (.ref ba), .unset, .unset, .unset, .unset, .unset, .unset] [(.int (0 : Int32)), (.ref ba)])) _
    refine XT.lloadN X2.here hx rfl (hb hby at_9) rfl ?_
    show Steps p.tables e below (T2.setTop (mkF m 10 #[.val (.long q1), .second, .val (.int p2), .val (.int p3), .val (.int p4), .val (.ref ba), .unset, .unset, .unset, .unset, .unset, .unset] [(.long q1), (.int (0 : Int32)), (.ref ba)])) _
    refine XS.bipush X2.here hx rfl (hb hby at_10) ?_
    show Steps p.tables e below (T2.setTop (mkF m 12 #[.val (.long q1), .second, .val (.int p2), .val (.int p3), .val (.int p4), .val (.ref ba), .unset, .unset, .unset, .unset, .unset, .unset] [(.int (56 : Int32)), (.long q1), (.int (0 : Int32)), (.ref ba)])) _
    refine XT.lushr X2.here hx rfl (hb hby at_12) rfl ?_
    show Steps p.tables e below (T2.setTop (mkF m 13 #[.val (.long q1), .second, .val (.int p2), .val (.int p3), .val (.int p4), .val (.ref ba), .unset, .unset, .unset, .unset, .unset, .unset] [(.long (XT.ushrL q1 (56 : Int32))), (.int (0 : Int32)), (.ref ba)])) _
    refine XT.l2i X2.here hx rfl (hb hby at_13) rfl ?_
    show Steps p.tables e below (T2.setTop (mkF m 14 #[.val (.long q1), .second, .val (.int p2), .val (.int p3), .val (.int p4), .val (.ref ba), .unset, .unset, .unset, .unset, .unset, .unset] [(.int ((XT.ushrL q1 (56 : Int32)).toInt32)), (.int (0 : Int32)), (.ref ba)])) _
    refine XT.i2b X2.here hx rfl (hb hby at_14) rfl ?_
    show Steps p.tables e below (T2.setTop (mkF m 15 #[.val (.long q1), .second, .val (.int p2), .val (.int p3), .val (.int p4), .val (.ref ba), .unset, .unset, .unset, .unset, .unset, .unset] [(.int (((XT.ushrL q1 (56 : Int32)).toInt32).toInt8.toInt32)), (.int (0 : Int32)), (.ref ba)])) _
    exact k
  obtain ⟨cl8, Ar8, q8, S8, M8, H8, G8⟩ := F3
  have in8 : ¬ ((0 : Int32) < 0 ∨ cl8.slots.size ≤ ((0 : Int32)).toNatClampNeg) := inb_of S8 ⟨by decide, by decide⟩
  obtain ⟨T8, h8, X8, e8, W8, st8⟩ := stB X2 hx hZ e2 Ar8 (j := (0 : Int32)) in8 (g := (mkF m 15 #[.val (.long q1), .second, .val (.int p2), .val (.int p3), .val (.int p4), .val (.ref ba), .unset, .unset, .unset, .unset, .unset, .unset] [(.int (((XT.ushrL q1 (56 : Int32)).toInt32).toInt8.toInt32)), (.int (0 : Int32)), (.ref ba)])) rfl rfl (hb hby at_15)
  have F9 : Arv Z h8 ba kc_ba .byte (9 : Int32) [(.int (nar .byte (((XT.ushrL q1 (56 : Int32)).toInt32).toInt8.toInt32))), (.int (0 : Int32)), (.int (0 : Int32)), (.int (0 : Int32)), (.int (0 : Int32)), (.int (0 : Int32)), (.int (0 : Int32)), (.int (0 : Int32)), (.int (0 : Int32))] (.int (0 : Int32)) := Arv.set Ar8 q8 S8 M8 H8 G8 (fits_nar_byte _) W8 0 rfl (Nat.le_of_ble_eq_true rfl)
  have Z10 : n0 ≤ h8.size := Nat.le_trans Z4 (Keep.of_wr W8).1
  have K11 : Keep h0 h8 [] := K5.wr W8 (Or.inr sz_ba)
  have N8 := Fr.snoc X8 N0 g_ba
  have P12 : ∀ t, Steps p.tables e below (T8.setTop (mkF m 16 #[.val (.long q1), .second, .val (.int p2), .val (.int p3), .val (.int p4), .val (.ref ba), .unset, .unset, .unset, .unset, .unset, .unset] [])) t → Steps p.tables e below (s₁.setTop (entryFrame m #[(.long q1), (.int p2), (.int p3), (.int p4)] maxLocals)) t := fun t k => P7 _ (st8 _ k)
  have P13 : ∀ t, Steps p.tables e below (T8.setTop (mkF m 25 #[.val (.long q1), .second, .val (.int p2), .val (.int p3), .val (.int p4), .val (.ref ba), .unset, .unset, .unset, .unset, .unset, .unset] [(.int (((XT.ushrL q1 (48 : Int32)).toInt32).toInt8.toInt32)), (.int (1 : Int32)), (.ref ba)])) t → Steps p.tables e below (s₁.setTop (entryFrame m #[(.long q1), (.int p2), (.int p3), (.int p4)] maxLocals)) t := by
    intro t k
    refine P12 _ ?_
    refine XS.aload X8.here hx rfl (hb hby at_16) rfl rfl ?_
    show Steps p.tables e below (T8.setTop (mkF m 18 #[.val (.long q1), .second, .val (.int p2), .val (.int p3), .val (.int p4), .val (.ref ba), .unset, .unset, .unset, .unset, .unset, .unset] [(.ref ba)])) _
    refine XS.iconst X8.here hx rfl (hb hby at_18) ?_
    show Steps p.tables e below (T8.setTop (mkF m 19 #[.val (.long q1), .second, .val (.int p2), .val (.int p3), .val (.int p4), .val (.ref ba), .unset, .unset, .unset, .unset, .unset, .unset] [(.int (1 : Int32)), (.ref ba)])) _
    refine XT.lloadN X8.here hx rfl (hb hby at_19) rfl ?_
    show Steps p.tables e below (T8.setTop (mkF m 20 #[.val (.long q1), .second, .val (.int p2), .val (.int p3), .val (.int p4), .val (.ref ba), .unset, .unset, .unset, .unset, .unset, .unset] [(.long q1), (.int (1 : Int32)), (.ref ba)])) _
    refine XS.bipush X8.here hx rfl (hb hby at_20) ?_
    show Steps p.tables e below (T8.setTop (mkF m 22 #[.val (.long q1), .second, .val (.int p2), .val (.int p3), .val (.int p4), .val (.ref ba), .unset, .unset, .unset, .unset, .unset, .unset] [(.int (48 : Int32)), (.long q1), (.int (1 : Int32)), (.ref ba)])) _
    refine XT.lushr X8.here hx rfl (hb hby at_22) rfl ?_
    show Steps p.tables e below (T8.setTop (mkF m 23 #[.val (.long q1), .second, .val (.int p2), .val (.int p3), .val (.int p4), .val (.ref ba), .unset, .unset, .unset, .unset, .unset, .unset] [(.long (XT.ushrL q1 (48 : Int32))), (.int (1 : Int32)), (.ref ba)])) _
    refine XT.l2i X8.here hx rfl (hb hby at_23) rfl ?_
    show Steps p.tables e below (T8.setTop (mkF m 24 #[.val (.long q1), .second, .val (.int p2), .val (.int p3), .val (.int p4), .val (.ref ba), .unset, .unset, .unset, .unset, .unset, .unset] [(.int ((XT.ushrL q1 (48 : Int32)).toInt32)), (.int (1 : Int32)), (.ref ba)])) _
    refine XT.i2b X8.here hx rfl (hb hby at_24) rfl ?_
    show Steps p.tables e below (T8.setTop (mkF m 25 #[.val (.long q1), .second, .val (.int p2), .val (.int p3), .val (.int p4), .val (.ref ba), .unset, .unset, .unset, .unset, .unset, .unset] [(.int (((XT.ushrL q1 (48 : Int32)).toInt32).toInt8.toInt32)), (.int (1 : Int32)), (.ref ba)])) _
    exact k
  obtain ⟨cl14, Ar14, q14, S14, M14, H14, G14⟩ := F9
  have in14 : ¬ ((1 : Int32) < 0 ∨ cl14.slots.size ≤ ((1 : Int32)).toNatClampNeg) := inb_of S14 ⟨by decide, by decide⟩
  obtain ⟨T14, h14, X14, e14, W14, st14⟩ := stB X8 hx hZ e8 Ar14 (j := (1 : Int32)) in14 (g := (mkF m 25 #[.val (.long q1), .second, .val (.int p2), .val (.int p3), .val (.int p4), .val (.ref ba), .unset, .unset, .unset, .unset, .unset, .unset] [(.int (((XT.ushrL q1 (48 : Int32)).toInt32).toInt8.toInt32)), (.int (1 : Int32)), (.ref ba)])) rfl rfl (hb hby at_25)
  have F15 : Arv Z h14 ba kc_ba .byte (9 : Int32) [(.int (nar .byte (((XT.ushrL q1 (56 : Int32)).toInt32).toInt8.toInt32))), (.int (nar .byte (((XT.ushrL q1 (48 : Int32)).toInt32).toInt8.toInt32))), (.int (0 : Int32)), (.int (0 : Int32)), (.int (0 : Int32)), (.int (0 : Int32)), (.int (0 : Int32)), (.int (0 : Int32)), (.int (0 : Int32))] (.int (0 : Int32)) := Arv.set Ar14 q14 S14 M14 H14 G14 (fits_nar_byte _) W14 1 rfl (Nat.le_of_ble_eq_true rfl)
  have Z16 : n0 ≤ h14.size := Nat.le_trans Z10 (Keep.of_wr W14).1
  have K17 : Keep h0 h14 [] := K11.wr W14 (Or.inr sz_ba)
  have N14 := Fr.snoc X14 N8 g_ba
  have P18 : ∀ t, Steps p.tables e below (T14.setTop (mkF m 26 #[.val (.long q1), .second, .val (.int p2), .val (.int p3), .val (.int p4), .val (.ref ba), .unset, .unset, .unset, .unset, .unset, .unset] [])) t → Steps p.tables e below (s₁.setTop (entryFrame m #[(.long q1), (.int p2), (.int p3), (.int p4)] maxLocals)) t := fun t k => P13 _ (st14 _ k)
  have P19 : ∀ t, Steps p.tables e below (T14.setTop (mkF m 35 #[.val (.long q1), .second, .val (.int p2), .val (.int p3), .val (.int p4), .val (.ref ba), .unset, .unset, .unset, .unset, .unset, .unset] [(.int (((XT.ushrL q1 (40 : Int32)).toInt32).toInt8.toInt32)), (.int (2 : Int32)), (.ref ba)])) t → Steps p.tables e below (s₁.setTop (entryFrame m #[(.long q1), (.int p2), (.int p3), (.int p4)] maxLocals)) t := by
    intro t k
    refine P18 _ ?_
    refine XS.aload X14.here hx rfl (hb hby at_26) rfl rfl ?_
    show Steps p.tables e below (T14.setTop (mkF m 28 #[.val (.long q1), .second, .val (.int p2), .val (.int p3), .val (.int p4), .val (.ref ba), .unset, .unset, .unset, .unset, .unset, .unset] [(.ref ba)])) _
    refine XS.iconst X14.here hx rfl (hb hby at_28) ?_
    show Steps p.tables e below (T14.setTop (mkF m 29 #[.val (.long q1), .second, .val (.int p2), .val (.int p3), .val (.int p4), .val (.ref ba), .unset, .unset, .unset, .unset, .unset, .unset] [(.int (2 : Int32)), (.ref ba)])) _
    refine XT.lloadN X14.here hx rfl (hb hby at_29) rfl ?_
    show Steps p.tables e below (T14.setTop (mkF m 30 #[.val (.long q1), .second, .val (.int p2), .val (.int p3), .val (.int p4), .val (.ref ba), .unset, .unset, .unset, .unset, .unset, .unset] [(.long q1), (.int (2 : Int32)), (.ref ba)])) _
    refine XS.bipush X14.here hx rfl (hb hby at_30) ?_
    show Steps p.tables e below (T14.setTop (mkF m 32 #[.val (.long q1), .second, .val (.int p2), .val (.int p3), .val (.int p4), .val (.ref ba), .unset, .unset, .unset, .unset, .unset, .unset] [(.int (40 : Int32)), (.long q1), (.int (2 : Int32)), (.ref ba)])) _
    refine XT.lushr X14.here hx rfl (hb hby at_32) rfl ?_
    show Steps p.tables e below (T14.setTop (mkF m 33 #[.val (.long q1), .second, .val (.int p2), .val (.int p3), .val (.int p4), .val (.ref ba), .unset, .unset, .unset, .unset, .unset, .unset] [(.long (XT.ushrL q1 (40 : Int32))), (.int (2 : Int32)), (.ref ba)])) _
    refine XT.l2i X14.here hx rfl (hb hby at_33) rfl ?_
    show Steps p.tables e below (T14.setTop (mkF m 34 #[.val (.long q1), .second, .val (.int p2), .val (.int p3), .val (.int p4), .val (.ref ba), .unset, .unset, .unset, .unset, .unset, .unset] [(.int ((XT.ushrL q1 (40 : Int32)).toInt32)), (.int (2 : Int32)), (.ref ba)])) _
    refine XT.i2b X14.here hx rfl (hb hby at_34) rfl ?_
    show Steps p.tables e below (T14.setTop (mkF m 35 #[.val (.long q1), .second, .val (.int p2), .val (.int p3), .val (.int p4), .val (.ref ba), .unset, .unset, .unset, .unset, .unset, .unset] [(.int (((XT.ushrL q1 (40 : Int32)).toInt32).toInt8.toInt32)), (.int (2 : Int32)), (.ref ba)])) _
    exact k
  obtain ⟨cl20, Ar20, q20, S20, M20, H20, G20⟩ := F15
  have in20 : ¬ ((2 : Int32) < 0 ∨ cl20.slots.size ≤ ((2 : Int32)).toNatClampNeg) := inb_of S20 ⟨by decide, by decide⟩
  obtain ⟨T20, h20, X20, e20, W20, st20⟩ := stB X14 hx hZ e14 Ar20 (j := (2 : Int32)) in20 (g := (mkF m 35 #[.val (.long q1), .second, .val (.int p2), .val (.int p3), .val (.int p4), .val (.ref ba), .unset, .unset, .unset, .unset, .unset, .unset] [(.int (((XT.ushrL q1 (40 : Int32)).toInt32).toInt8.toInt32)), (.int (2 : Int32)), (.ref ba)])) rfl rfl (hb hby at_35)
  have F21 : Arv Z h20 ba kc_ba .byte (9 : Int32) [(.int (nar .byte (((XT.ushrL q1 (56 : Int32)).toInt32).toInt8.toInt32))), (.int (nar .byte (((XT.ushrL q1 (48 : Int32)).toInt32).toInt8.toInt32))), (.int (nar .byte (((XT.ushrL q1 (40 : Int32)).toInt32).toInt8.toInt32))), (.int (0 : Int32)), (.int (0 : Int32)), (.int (0 : Int32)), (.int (0 : Int32)), (.int (0 : Int32)), (.int (0 : Int32))] (.int (0 : Int32)) := Arv.set Ar20 q20 S20 M20 H20 G20 (fits_nar_byte _) W20 2 rfl (Nat.le_of_ble_eq_true rfl)
  have Z22 : n0 ≤ h20.size := Nat.le_trans Z16 (Keep.of_wr W20).1
  have K23 : Keep h0 h20 [] := K17.wr W20 (Or.inr sz_ba)
  have N20 := Fr.snoc X20 N14 g_ba
  have P24 : ∀ t, Steps p.tables e below (T20.setTop (mkF m 36 #[.val (.long q1), .second, .val (.int p2), .val (.int p3), .val (.int p4), .val (.ref ba), .unset, .unset, .unset, .unset, .unset, .unset] [])) t → Steps p.tables e below (s₁.setTop (entryFrame m #[(.long q1), (.int p2), (.int p3), (.int p4)] maxLocals)) t := fun t k => P19 _ (st20 _ k)
  have P25 : ∀ t, Steps p.tables e below (T20.setTop (mkF m 45 #[.val (.long q1), .second, .val (.int p2), .val (.int p3), .val (.int p4), .val (.ref ba), .unset, .unset, .unset, .unset, .unset, .unset] [(.int (((XT.ushrL q1 (32 : Int32)).toInt32).toInt8.toInt32)), (.int (3 : Int32)), (.ref ba)])) t → Steps p.tables e below (s₁.setTop (entryFrame m #[(.long q1), (.int p2), (.int p3), (.int p4)] maxLocals)) t := by
    intro t k
    refine P24 _ ?_
    refine XS.aload X20.here hx rfl (hb hby at_36) rfl rfl ?_
    show Steps p.tables e below (T20.setTop (mkF m 38 #[.val (.long q1), .second, .val (.int p2), .val (.int p3), .val (.int p4), .val (.ref ba), .unset, .unset, .unset, .unset, .unset, .unset] [(.ref ba)])) _
    refine XS.iconst X20.here hx rfl (hb hby at_38) ?_
    show Steps p.tables e below (T20.setTop (mkF m 39 #[.val (.long q1), .second, .val (.int p2), .val (.int p3), .val (.int p4), .val (.ref ba), .unset, .unset, .unset, .unset, .unset, .unset] [(.int (3 : Int32)), (.ref ba)])) _
    refine XT.lloadN X20.here hx rfl (hb hby at_39) rfl ?_
    show Steps p.tables e below (T20.setTop (mkF m 40 #[.val (.long q1), .second, .val (.int p2), .val (.int p3), .val (.int p4), .val (.ref ba), .unset, .unset, .unset, .unset, .unset, .unset] [(.long q1), (.int (3 : Int32)), (.ref ba)])) _
    refine XS.bipush X20.here hx rfl (hb hby at_40) ?_
    show Steps p.tables e below (T20.setTop (mkF m 42 #[.val (.long q1), .second, .val (.int p2), .val (.int p3), .val (.int p4), .val (.ref ba), .unset, .unset, .unset, .unset, .unset, .unset] [(.int (32 : Int32)), (.long q1), (.int (3 : Int32)), (.ref ba)])) _
    refine XT.lushr X20.here hx rfl (hb hby at_42) rfl ?_
    show Steps p.tables e below (T20.setTop (mkF m 43 #[.val (.long q1), .second, .val (.int p2), .val (.int p3), .val (.int p4), .val (.ref ba), .unset, .unset, .unset, .unset, .unset, .unset] [(.long (XT.ushrL q1 (32 : Int32))), (.int (3 : Int32)), (.ref ba)])) _
    refine XT.l2i X20.here hx rfl (hb hby at_43) rfl ?_
    show Steps p.tables e below (T20.setTop (mkF m 44 #[.val (.long q1), .second, .val (.int p2), .val (.int p3), .val (.int p4), .val (.ref ba), .unset, .unset, .unset, .unset, .unset, .unset] [(.int ((XT.ushrL q1 (32 : Int32)).toInt32)), (.int (3 : Int32)), (.ref ba)])) _
    refine XT.i2b X20.here hx rfl (hb hby at_44) rfl ?_
    show Steps p.tables e below (T20.setTop (mkF m 45 #[.val (.long q1), .second, .val (.int p2), .val (.int p3), .val (.int p4), .val (.ref ba), .unset, .unset, .unset, .unset, .unset, .unset] [(.int (((XT.ushrL q1 (32 : Int32)).toInt32).toInt8.toInt32)), (.int (3 : Int32)), (.ref ba)])) _
    exact k
  obtain ⟨cl26, Ar26, q26, S26, M26, H26, G26⟩ := F21
  have in26 : ¬ ((3 : Int32) < 0 ∨ cl26.slots.size ≤ ((3 : Int32)).toNatClampNeg) := inb_of S26 ⟨by decide, by decide⟩
  obtain ⟨T26, h26, X26, e26, W26, st26⟩ := stB X20 hx hZ e20 Ar26 (j := (3 : Int32)) in26 (g := (mkF m 45 #[.val (.long q1), .second, .val (.int p2), .val (.int p3), .val (.int p4), .val (.ref ba), .unset, .unset, .unset, .unset, .unset, .unset] [(.int (((XT.ushrL q1 (32 : Int32)).toInt32).toInt8.toInt32)), (.int (3 : Int32)), (.ref ba)])) rfl rfl (hb hby at_45)
  have F27 : Arv Z h26 ba kc_ba .byte (9 : Int32) [(.int (nar .byte (((XT.ushrL q1 (56 : Int32)).toInt32).toInt8.toInt32))), (.int (nar .byte (((XT.ushrL q1 (48 : Int32)).toInt32).toInt8.toInt32))), (.int (nar .byte (((XT.ushrL q1 (40 : Int32)).toInt32).toInt8.toInt32))), (.int (nar .byte (((XT.ushrL q1 (32 : Int32)).toInt32).toInt8.toInt32))), (.int (0 : Int32)), (.int (0 : Int32)), (.int (0 : Int32)), (.int (0 : Int32)), (.int (0 : Int32))] (.int (0 : Int32)) := Arv.set Ar26 q26 S26 M26 H26 G26 (fits_nar_byte _) W26 3 rfl (Nat.le_of_ble_eq_true rfl)
  have Z28 : n0 ≤ h26.size := Nat.le_trans Z22 (Keep.of_wr W26).1
  have K29 : Keep h0 h26 [] := K23.wr W26 (Or.inr sz_ba)
  have N26 := Fr.snoc X26 N20 g_ba
  have P30 : ∀ t, Steps p.tables e below (T26.setTop (mkF m 46 #[.val (.long q1), .second, .val (.int p2), .val (.int p3), .val (.int p4), .val (.ref ba), .unset, .unset, .unset, .unset, .unset, .unset] [])) t → Steps p.tables e below (s₁.setTop (entryFrame m #[(.long q1), (.int p2), (.int p3), (.int p4)] maxLocals)) t := fun t k => P25 _ (st26 _ k)
  have P31 : ∀ t, Steps p.tables e below (T26.setTop (mkF m 55 #[.val (.long q1), .second, .val (.int p2), .val (.int p3), .val (.int p4), .val (.ref ba), .unset, .unset, .unset, .unset, .unset, .unset] [(.int (((XT.ushrL q1 (24 : Int32)).toInt32).toInt8.toInt32)), (.int (4 : Int32)), (.ref ba)])) t → Steps p.tables e below (s₁.setTop (entryFrame m #[(.long q1), (.int p2), (.int p3), (.int p4)] maxLocals)) t := by
    intro t k
    refine P30 _ ?_
    refine XS.aload X26.here hx rfl (hb hby at_46) rfl rfl ?_
    show Steps p.tables e below (T26.setTop (mkF m 48 #[.val (.long q1), .second, .val (.int p2), .val (.int p3), .val (.int p4), .val (.ref ba), .unset, .unset, .unset, .unset, .unset, .unset] [(.ref ba)])) _
    refine XS.iconst X26.here hx rfl (hb hby at_48) ?_
    show Steps p.tables e below (T26.setTop (mkF m 49 #[.val (.long q1), .second, .val (.int p2), .val (.int p3), .val (.int p4), .val (.ref ba), .unset, .unset, .unset, .unset, .unset, .unset] [(.int (4 : Int32)), (.ref ba)])) _
    refine XT.lloadN X26.here hx rfl (hb hby at_49) rfl ?_
    show Steps p.tables e below (T26.setTop (mkF m 50 #[.val (.long q1), .second, .val (.int p2), .val (.int p3), .val (.int p4), .val (.ref ba), .unset, .unset, .unset, .unset, .unset, .unset] [(.long q1), (.int (4 : Int32)), (.ref ba)])) _
    refine XS.bipush X26.here hx rfl (hb hby at_50) ?_
    show Steps p.tables e below (T26.setTop (mkF m 52 #[.val (.long q1), .second, .val (.int p2), .val (.int p3), .val (.int p4), .val (.ref ba), .unset, .unset, .unset, .unset, .unset, .unset] [(.int (24 : Int32)), (.long q1), (.int (4 : Int32)), (.ref ba)])) _
    refine XT.lushr X26.here hx rfl (hb hby at_52) rfl ?_
    show Steps p.tables e below (T26.setTop (mkF m 53 #[.val (.long q1), .second, .val (.int p2), .val (.int p3), .val (.int p4), .val (.ref ba), .unset, .unset, .unset, .unset, .unset, .unset] [(.long (XT.ushrL q1 (24 : Int32))), (.int (4 : Int32)), (.ref ba)])) _
    refine XT.l2i X26.here hx rfl (hb hby at_53) rfl ?_
    show Steps p.tables e below (T26.setTop (mkF m 54 #[.val (.long q1), .second, .val (.int p2), .val (.int p3), .val (.int p4), .val (.ref ba), .unset, .unset, .unset, .unset, .unset, .unset] [(.int ((XT.ushrL q1 (24 : Int32)).toInt32)), (.int (4 : Int32)), (.ref ba)])) _
    refine XT.i2b X26.here hx rfl (hb hby at_54) rfl ?_
    show Steps p.tables e below (T26.setTop (mkF m 55 #[.val (.long q1), .second, .val (.int p2), .val (.int p3), .val (.int p4), .val (.ref ba), .unset, .unset, .unset, .unset, .unset, .unset] [(.int (((XT.ushrL q1 (24 : Int32)).toInt32).toInt8.toInt32)), (.int (4 : Int32)), (.ref ba)])) _
    exact k
  obtain ⟨cl32, Ar32, q32, S32, M32, H32, G32⟩ := F27
  have in32 : ¬ ((4 : Int32) < 0 ∨ cl32.slots.size ≤ ((4 : Int32)).toNatClampNeg) := inb_of S32 ⟨by decide, by decide⟩
  obtain ⟨T32, h32, X32, e32, W32, st32⟩ := stB X26 hx hZ e26 Ar32 (j := (4 : Int32)) in32 (g := (mkF m 55 #[.val (.long q1), .second, .val (.int p2), .val (.int p3), .val (.int p4), .val (.ref ba), .unset, .unset, .unset, .unset, .unset, .unset] [(.int (((XT.ushrL q1 (24 : Int32)).toInt32).toInt8.toInt32)), (.int (4 : Int32)), (.ref ba)])) rfl rfl (hb hby at_55)
  have F33 : Arv Z h32 ba kc_ba .byte (9 : Int32) [(.int (nar .byte (((XT.ushrL q1 (56 : Int32)).toInt32).toInt8.toInt32))), (.int (nar .byte (((XT.ushrL q1 (48 : Int32)).toInt32).toInt8.toInt32))), (.int (nar .byte (((XT.ushrL q1 (40 : Int32)).toInt32).toInt8.toInt32))), (.int (nar .byte (((XT.ushrL q1 (32 : Int32)).toInt32).toInt8.toInt32))), (.int (nar .byte (((XT.ushrL q1 (24 : Int32)).toInt32).toInt8.toInt32))), (.int (0 : Int32)), (.int (0 : Int32)), (.int (0 : Int32)), (.int (0 : Int32))] (.int (0 : Int32)) := Arv.set Ar32 q32 S32 M32 H32 G32 (fits_nar_byte _) W32 4 rfl (Nat.le_of_ble_eq_true rfl)
  have Z34 : n0 ≤ h32.size := Nat.le_trans Z28 (Keep.of_wr W32).1
  have K35 : Keep h0 h32 [] := K29.wr W32 (Or.inr sz_ba)
  have N32 := Fr.snoc X32 N26 g_ba
  have P36 : ∀ t, Steps p.tables e below (T32.setTop (mkF m 56 #[.val (.long q1), .second, .val (.int p2), .val (.int p3), .val (.int p4), .val (.ref ba), .unset, .unset, .unset, .unset, .unset, .unset] [])) t → Steps p.tables e below (s₁.setTop (entryFrame m #[(.long q1), (.int p2), (.int p3), (.int p4)] maxLocals)) t := fun t k => P31 _ (st32 _ k)
  have P37 : ∀ t, Steps p.tables e below (T32.setTop (mkF m 65 #[.val (.long q1), .second, .val (.int p2), .val (.int p3), .val (.int p4), .val (.ref ba), .unset, .unset, .unset, .unset, .unset, .unset] [(.int (((XT.ushrL q1 (16 : Int32)).toInt32).toInt8.toInt32)), (.int (5 : Int32)), (.ref ba)])) t → Steps p.tables e below (s₁.setTop (entryFrame m #[(.long q1), (.int p2), (.int p3), (.int p4)] maxLocals)) t := by
    intro t k
    refine P36 _ ?_
    refine XS.aload X32.here hx rfl (hb hby at_56) rfl rfl ?_
    show Steps p.tables e below (T32.setTop (mkF m 58 #[.val (.long q1), .second, .val (.int p2), .val (.int p3), .val (.int p4), .val (.ref ba), .unset, .unset, .unset, .unset, .unset, .unset] [(.ref ba)])) _
    refine XS.iconst X32.here hx rfl (hb hby at_58) ?_
    show Steps p.tables e below (T32.setTop (mkF m 59 #[.val (.long q1), .second, .val (.int p2), .val (.int p3), .val (.int p4), .val (.ref ba), .unset, .unset, .unset, .unset, .unset, .unset] [(.int (5 : Int32)), (.ref ba)])) _
    refine XT.lloadN X32.here hx rfl (hb hby at_59) rfl ?_
    show Steps p.tables e below (T32.setTop (mkF m 60 #[.val (.long q1), .second, .val (.int p2), .val (.int p3), .val (.int p4), .val (.ref ba), .unset, .unset, .unset, .unset, .unset, .unset] [(.long q1), (.int (5 : Int32)), (.ref ba)])) _
    refine XS.bipush X32.here hx rfl (hb hby at_60) ?_
    show Steps p.tables e below (T32.setTop (mkF m 62 #[.val (.long q1), .second, .val (.int p2), .val (.int p3), .val (.int p4), .val (.ref ba), .unset, .unset, .unset, .unset, .unset, .unset] [(.int (16 : Int32)), (.long q1), (.int (5 : Int32)), (.ref ba)])) _
    refine XT.lushr X32.here hx rfl (hb hby at_62) rfl ?_
    show Steps p.tables e below (T32.setTop (mkF m 63 #[.val (.long q1), .second, .val (.int p2), .val (.int p3), .val (.int p4), .val (.ref ba), .unset, .unset, .unset, .unset, .unset, .unset] [(.long (XT.ushrL q1 (16 : Int32))), (.int (5 : Int32)), (.ref ba)])) _
    refine XT.l2i X32.here hx rfl (hb hby at_63) rfl ?_
    show Steps p.tables e below (T32.setTop (mkF m 64 #[.val (.long q1), .second, .val (.int p2), .val (.int p3), .val (.int p4), .val (.ref ba), .unset, .unset, .unset, .unset, .unset, .unset] [(.int ((XT.ushrL q1 (16 : Int32)).toInt32)), (.int (5 : Int32)), (.ref ba)])) _
    refine XT.i2b X32.here hx rfl (hb hby at_64) rfl ?_
    show Steps p.tables e below (T32.setTop (mkF m 65 #[.val (.long q1), .second, .val (.int p2), .val (.int p3), .val (.int p4), .val (.ref ba), .unset, .unset, .unset, .unset, .unset, .unset] [(.int (((XT.ushrL q1 (16 : Int32)).toInt32).toInt8.toInt32)), (.int (5 : Int32)), (.ref ba)])) _
    exact k
  obtain ⟨cl38, Ar38, q38, S38, M38, H38, G38⟩ := F33
  have in38 : ¬ ((5 : Int32) < 0 ∨ cl38.slots.size ≤ ((5 : Int32)).toNatClampNeg) := inb_of S38 ⟨by decide, by decide⟩
  obtain ⟨T38, h38, X38, e38, W38, st38⟩ := stB X32 hx hZ e32 Ar38 (j := (5 : Int32)) in38 (g := (mkF m 65 #[.val (.long q1), .second, .val (.int p2), .val (.int p3), .val (.int p4), .val (.ref ba), .unset, .unset, .unset, .unset, .unset, .unset] [(.int (((XT.ushrL q1 (16 : Int32)).toInt32).toInt8.toInt32)), (.int (5 : Int32)), (.ref ba)])) rfl rfl (hb hby at_65)
  have F39 : Arv Z h38 ba kc_ba .byte (9 : Int32) [(.int (nar .byte (((XT.ushrL q1 (56 : Int32)).toInt32).toInt8.toInt32))), (.int (nar .byte (((XT.ushrL q1 (48 : Int32)).toInt32).toInt8.toInt32))), (.int (nar .byte (((XT.ushrL q1 (40 : Int32)).toInt32).toInt8.toInt32))), (.int (nar .byte (((XT.ushrL q1 (32 : Int32)).toInt32).toInt8.toInt32))), (.int (nar .byte (((XT.ushrL q1 (24 : Int32)).toInt32).toInt8.toInt32))), (.int (nar .byte (((XT.ushrL q1 (16 : Int32)).toInt32).toInt8.toInt32))), (.int (0 : Int32)), (.int (0 : Int32)), (.int (0 : Int32))] (.int (0 : Int32)) := Arv.set Ar38 q38 S38 M38 H38 G38 (fits_nar_byte _) W38 5 rfl (Nat.le_of_ble_eq_true rfl)
  have Z40 : n0 ≤ h38.size := Nat.le_trans Z34 (Keep.of_wr W38).1
  have K41 : Keep h0 h38 [] := K35.wr W38 (Or.inr sz_ba)
  have N38 := Fr.snoc X38 N32 g_ba
  have P42 : ∀ t, Steps p.tables e below (T38.setTop (mkF m 66 #[.val (.long q1), .second, .val (.int p2), .val (.int p3), .val (.int p4), .val (.ref ba), .unset, .unset, .unset, .unset, .unset, .unset] [])) t → Steps p.tables e below (s₁.setTop (entryFrame m #[(.long q1), (.int p2), (.int p3), (.int p4)] maxLocals)) t := fun t k => P37 _ (st38 _ k)
  have P43 : ∀ t, Steps p.tables e below (T38.setTop (mkF m 76 #[.val (.long q1), .second, .val (.int p2), .val (.int p3), .val (.int p4), .val (.ref ba), .unset, .unset, .unset, .unset, .unset, .unset] [(.int (((XT.ushrL q1 (8 : Int32)).toInt32).toInt8.toInt32)), (.int (6 : Int32)), (.ref ba)])) t → Steps p.tables e below (s₁.setTop (entryFrame m #[(.long q1), (.int p2), (.int p3), (.int p4)] maxLocals)) t := by
    intro t k
    refine P42 _ ?_
    refine XS.aload X38.here hx rfl (hb hby at_66) rfl rfl ?_
    show Steps p.tables e below (T38.setTop (mkF m 68 #[.val (.long q1), .second, .val (.int p2), .val (.int p3), .val (.int p4), .val (.ref ba), .unset, .unset, .unset, .unset, .unset, .unset] [(.ref ba)])) _
    refine XS.bipush X38.here hx rfl (hb hby at_68) ?_
    show Steps p.tables e below (T38.setTop (mkF m 70 #[.val (.long q1), .second, .val (.int p2), .val (.int p3), .val (.int p4), .val (.ref ba), .unset, .unset, .unset, .unset, .unset, .unset] [(.int (6 : Int32)), (.ref ba)])) _
    refine XT.lloadN X38.here hx rfl (hb hby at_70) rfl ?_
    show Steps p.tables e below (T38.setTop (mkF m 71 #[.val (.long q1), .second, .val (.int p2), .val (.int p3), .val (.int p4), .val (.ref ba), .unset, .unset, .unset, .unset, .unset, .unset] [(.long q1), (.int (6 : Int32)), (.ref ba)])) _
    refine XS.bipush X38.here hx rfl (hb hby at_71) ?_
    show Steps p.tables e below (T38.setTop (mkF m 73 #[.val (.long q1), .second, .val (.int p2), .val (.int p3), .val (.int p4), .val (.ref ba), .unset, .unset, .unset, .unset, .unset, .unset] [(.int (8 : Int32)), (.long q1), (.int (6 : Int32)), (.ref ba)])) _
    refine XT.lushr X38.here hx rfl (hb hby at_73) rfl ?_
    show Steps p.tables e below (T38.setTop (mkF m 74 #[.val (.long q1), .second, .val (.int p2), .val (.int p3), .val (.int p4), .val (.ref ba), .unset, .unset, .unset, .unset, .unset, .unset] [(.long (XT.ushrL q1 (8 : Int32))), (.int (6 : Int32)), (.ref ba)])) _
    refine XT.l2i X38.here hx rfl (hb hby at_74) rfl ?_
    show Steps p.tables e below (T38.setTop (mkF m 75 #[.val (.long q1), .second, .val (.int p2), .val (.int p3), .val (.int p4), .val (.ref ba), .unset, .unset, .unset, .unset, .unset, .unset] [(.int ((XT.ushrL q1 (8 : Int32)).toInt32)), (.int (6 : Int32)), (.ref ba)])) _
    refine XT.i2b X38.here hx rfl (hb hby at_75) rfl ?_
    show Steps p.tables e below (T38.setTop (mkF m 76 #[.val (.long q1), .second, .val (.int p2), .val (.int p3), .val (.int p4), .val (.ref ba), .unset, .unset, .unset, .unset, .unset, .unset] [(.int (((XT.ushrL q1 (8 : Int32)).toInt32).toInt8.toInt32)), (.int (6 : Int32)), (.ref ba)])) _
    exact k
  obtain ⟨cl44, Ar44, q44, S44, M44, H44, G44⟩ := F39
  have in44 : ¬ ((6 : Int32) < 0 ∨ cl44.slots.size ≤ ((6 : Int32)).toNatClampNeg) := inb_of S44 ⟨by decide, by decide⟩
  obtain ⟨T44, h44, X44, e44, W44, st44⟩ := stB X38 hx hZ e38 Ar44 (j := (6 : Int32)) in44 (g := (mkF m 76 #[.val (.long q1), .second, .val (.int p2), .val (.int p3), .val (.int p4), .val (.ref ba), .unset, .unset, .unset, .unset, .unset, .unset] [(.int (((XT.ushrL q1 (8 : Int32)).toInt32).toInt8.toInt32)), (.int (6 : Int32)), (.ref ba)])) rfl rfl (hb hby at_76)
  have F45 : Arv Z h44 ba kc_ba .byte (9 : Int32) [(.int (nar .byte (((XT.ushrL q1 (56 : Int32)).toInt32).toInt8.toInt32))), (.int (nar .byte (((XT.ushrL q1 (48 : Int32)).toInt32).toInt8.toInt32))), (.int (nar .byte (((XT.ushrL q1 (40 : Int32)).toInt32).toInt8.toInt32))), (.int (nar .byte (((XT.ushrL q1 (32 : Int32)).toInt32).toInt8.toInt32))), (.int (nar .byte (((XT.ushrL q1 (24 : Int32)).toInt32).toInt8.toInt32))), (.int (nar .byte (((XT.ushrL q1 (16 : Int32)).toInt32).toInt8.toInt32))), (.int (nar .byte (((XT.ushrL q1 (8 : Int32)).toInt32).toInt8.toInt32))), (.int (0 : Int32)), (.int (0 : Int32))] (.int (0 : Int32)) := Arv.set Ar44 q44 S44 M44 H44 G44 (fits_nar_byte _) W44 6 rfl (Nat.le_of_ble_eq_true rfl)
  have Z46 : n0 ≤ h44.size := Nat.le_trans Z40 (Keep.of_wr W44).1
  have K47 : Keep h0 h44 [] := K41.wr W44 (Or.inr sz_ba)
  have N44 := Fr.snoc X44 N38 g_ba
  have P48 : ∀ t, Steps p.tables e below (T44.setTop (mkF m 77 #[.val (.long q1), .second, .val (.int p2), .val (.int p3), .val (.int p4), .val (.ref ba), .unset, .unset, .unset, .unset, .unset, .unset] [])) t → Steps p.tables e below (s₁.setTop (entryFrame m #[(.long q1), (.int p2), (.int p3), (.int p4)] maxLocals)) t := fun t k => P43 _ (st44 _ k)
  have P49 : ∀ t, Steps p.tables e below (T44.setTop (mkF m 84 #[.val (.long q1), .second, .val (.int p2), .val (.int p3), .val (.int p4), .val (.ref ba), .unset, .unset, .unset, .unset, .unset, .unset] [(.int ((q1.toInt32).toInt8.toInt32)), (.int (7 : Int32)), (.ref ba)])) t → Steps p.tables e below (s₁.setTop (entryFrame m #[(.long q1), (.int p2), (.int p3), (.int p4)] maxLocals)) t := by
    intro t k
    refine P48 _ ?_
    refine XS.aload X44.here hx rfl (hb hby at_77) rfl rfl ?_
    show Steps p.tables e below (T44.setTop (mkF m 79 #[.val (.long q1), .second, .val (.int p2), .val (.int p3), .val (.int p4), .val (.ref ba), .unset, .unset, .unset, .unset, .unset, .unset] [(.ref ba)])) _
    refine XS.bipush X44.here hx rfl (hb hby at_79) ?_
    show Steps p.tables e below (T44.setTop (mkF m 81 #[.val (.long q1), .second, .val (.int p2), .val (.int p3), .val (.int p4), .val (.ref ba), .unset, .unset, .unset, .unset, .unset, .unset] [(.int (7 : Int32)), (.ref ba)])) _
    refine XT.lloadN X44.here hx rfl (hb hby at_81) rfl ?_
    show Steps p.tables e below (T44.setTop (mkF m 82 #[.val (.long q1), .second, .val (.int p2), .val (.int p3), .val (.int p4), .val (.ref ba), .unset, .unset, .unset, .unset, .unset, .unset] [(.long q1), (.int (7 : Int32)), (.ref ba)])) _
    refine XT.l2i X44.here hx rfl (hb hby at_82) rfl ?_
    show Steps p.tables e below (T44.setTop (mkF m 83 #[.val (.long q1), .second, .val (.int p2), .val (.int p3), .val (.int p4), .val (.ref ba), .unset, .unset, .unset, .unset, .unset, .unset] [(.int (q1.toInt32)), (.int (7 : Int32)), (.ref ba)])) _
    refine XT.i2b X44.here hx rfl (hb hby at_83) rfl ?_
    show Steps p.tables e below (T44.setTop (mkF m 84 #[.val (.long q1), .second, .val (.int p2), .val (.int p3), .val (.int p4), .val (.ref ba), .unset, .unset, .unset, .unset, .unset, .unset] [(.int ((q1.toInt32).toInt8.toInt32)), (.int (7 : Int32)), (.ref ba)])) _
    exact k
  obtain ⟨cl50, Ar50, q50, S50, M50, H50, G50⟩ := F45
  have in50 : ¬ ((7 : Int32) < 0 ∨ cl50.slots.size ≤ ((7 : Int32)).toNatClampNeg) := inb_of S50 ⟨by decide, by decide⟩
  obtain ⟨T50, h50, X50, e50, W50, st50⟩ := stB X44 hx hZ e44 Ar50 (j := (7 : Int32)) in50 (g := (mkF m 84 #[.val (.long q1), .second, .val (.int p2), .val (.int p3), .val (.int p4), .val (.ref ba), .unset, .unset, .unset, .unset, .unset, .unset] [(.int ((q1.toInt32).toInt8.toInt32)), (.int (7 : Int32)), (.ref ba)])) rfl rfl (hb hby at_84)
  have F51 : Arv Z h50 ba kc_ba .byte (9 : Int32) [(.int (nar .byte (((XT.ushrL q1 (56 : Int32)).toInt32).toInt8.toInt32))), (.int (nar .byte (((XT.ushrL q1 (48 : Int32)).toInt32).toInt8.toInt32))), (.int (nar .byte (((XT.ushrL q1 (40 : Int32)).toInt32).toInt8.toInt32))), (.int (nar .byte (((XT.ushrL q1 (32 : Int32)).toInt32).toInt8.toInt32))), (.int (nar .byte (((XT.ushrL q1 (24 : Int32)).toInt32).toInt8.toInt32))), (.int (nar .byte (((XT.ushrL q1 (16 : Int32)).toInt32).toInt8.toInt32))), (.int (nar .byte (((XT.ushrL q1 (8 : Int32)).toInt32).toInt8.toInt32))), (.int (nar .byte ((q1.toInt32).toInt8.toInt32))), (.int (0 : Int32))] (.int (0 : Int32)) := Arv.set Ar50 q50 S50 M50 H50 G50 (fits_nar_byte _) W50 7 rfl (Nat.le_of_ble_eq_true rfl)
  have Z52 : n0 ≤ h50.size := Nat.le_trans Z46 (Keep.of_wr W50).1
  have K53 : Keep h0 h50 [] := K47.wr W50 (Or.inr sz_ba)
  have N50 := Fr.snoc X50 N44 g_ba
  have P54 : ∀ t, Steps p.tables e below (T50.setTop (mkF m 85 #[.val (.long q1), .second, .val (.int p2), .val (.int p3), .val (.int p4), .val (.ref ba), .unset, .unset, .unset, .unset, .unset, .unset] [])) t → Steps p.tables e below (s₁.setTop (entryFrame m #[(.long q1), (.int p2), (.int p3), (.int p4)] maxLocals)) t := fun t k => P49 _ (st50 _ k)
  have P55 : ∀ t, Steps p.tables e below (T50.setTop (mkF m 91 #[.val (.long q1), .second, .val (.int p2), .val (.int p3), .val (.int p4), .val (.ref ba), .unset, .unset, .unset, .unset, .unset, .unset] [(.int (p2.toInt8.toInt32)), (.int (8 : Int32)), (.ref ba)])) t → Steps p.tables e below (s₁.setTop (entryFrame m #[(.long q1), (.int p2), (.int p3), (.int p4)] maxLocals)) t := by
    intro t k
    refine P54 _ ?_
    refine XS.aload X50.here hx rfl (hb hby at_85) rfl rfl ?_
    show Steps p.tables e below (T50.setTop (mkF m 87 #[.val (.long q1), .second, .val (.int p2), .val (.int p3), .val (.int p4), .val (.ref ba), .unset, .unset, .unset, .unset, .unset, .unset] [(.ref ba)])) _
    refine XS.bipush X50.here hx rfl (hb hby at_87) ?_
    show Steps p.tables e below (T50.setTop (mkF m 89 #[.val (.long q1), .second, .val (.int p2), .val (.int p3), .val (.int p4), .val (.ref ba), .unset, .unset, .unset, .unset, .unset, .unset] [(.int (8 : Int32)), (.ref ba)])) _
    refine XS.iloadN X50.here hx rfl (hb hby at_89) rfl ?_
    show Steps p.tables e below (T50.setTop (mkF m 90 #[.val (.long q1), .second, .val (.int p2), .val (.int p3), .val (.int p4), .val (.ref ba), .unset, .unset, .unset, .unset, .unset, .unset] [(.int p2), (.int (8 : Int32)), (.ref ba)])) _
    refine XT.i2b X50.here hx rfl (hb hby at_90) rfl ?_
    show Steps p.tables e below (T50.setTop (mkF m 91 #[.val (.long q1), .second, .val (.int p2), .val (.int p3), .val (.int p4), .val (.ref ba), .unset, .unset, .unset, .unset, .unset, .unset] [(.int (p2.toInt8.toInt32)), (.int (8 : Int32)), (.ref ba)])) _
    exact k
  obtain ⟨cl56, Ar56, q56, S56, M56, H56, G56⟩ := F51
  have in56 : ¬ ((8 : Int32) < 0 ∨ cl56.slots.size ≤ ((8 : Int32)).toNatClampNeg) := inb_of S56 ⟨by decide, by decide⟩
  obtain ⟨T56, h56, X56, e56, W56, st56⟩ := stB X50 hx hZ e50 Ar56 (j := (8 : Int32)) in56 (g := (mkF m 91 #[.val (.long q1), .second, .val (.int p2), .val (.int p3), .val (.int p4), .val (.ref ba), .unset, .unset, .unset, .unset, .unset, .unset] [(.int (p2.toInt8.toInt32)), (.int (8 : Int32)), (.ref ba)])) rfl rfl (hb hby at_91)
  have F57 : Arv Z h56 ba kc_ba .byte (9 : Int32) [(.int (nar .byte (((XT.ushrL q1 (56 : Int32)).toInt32).toInt8.toInt32))), (.int (nar .byte (((XT.ushrL q1 (48 : Int32)).toInt32).toInt8.toInt32))), (.int (nar .byte (((XT.ushrL q1 (40 : Int32)).toInt32).toInt8.toInt32))), (.int (nar .byte (((XT.ushrL q1 (32 : Int32)).toInt32).toInt8.toInt32))), (.int (nar .byte (((XT.ushrL q1 (24 : Int32)).toInt32).toInt8.toInt32))), (.int (nar .byte (((XT.ushrL q1 (16 : Int32)).toInt32).toInt8.toInt32))), (.int (nar .byte (((XT.ushrL q1 (8 : Int32)).toInt32).toInt8.toInt32))), (.int (nar .byte ((q1.toInt32).toInt8.toInt32))), (.int (nar .byte (p2.toInt8.toInt32)))] (.int (0 : Int32)) := Arv.set Ar56 q56 S56 M56 H56 G56 (fits_nar_byte _) W56 8 rfl (Nat.le_of_ble_eq_true rfl)
  have Z58 : n0 ≤ h56.size := Nat.le_trans Z52 (Keep.of_wr W56).1
  have K59 : Keep h0 h56 [] := K53.wr W56 (Or.inr sz_ba)
  have N56 := Fr.snoc X56 N50 g_ba
  have P60 : ∀ t, Steps p.tables e below (T56.setTop (mkF m 92 #[.val (.long q1), .second, .val (.int p2), .val (.int p3), .val (.int p4), .val (.ref ba), .unset, .unset, .unset, .unset, .unset, .unset] [])) t → Steps p.tables e below (s₁.setTop (entryFrame m #[(.long q1), (.int p2), (.int p3), (.int p4)] maxLocals)) t := fun t k => P55 _ (st56 _ k)
  have P61 : ∀ t, Steps p.tables e below (T56.setTop (mkF m 101 #[.val (.long q1), .second, .val (.int p2), .val (.int p3), .val (.int p4), .val (.ref ba), .val (.int ((p3 &&& (2147483647 : Int32)) % (9 : Int32))), .unset, .unset, .unset, .unset, .unset] [])) t → Steps p.tables e below (s₁.setTop (entryFrame m #[(.long q1), (.int p2), (.int p3), (.int p4)] maxLocals)) t := by
    intro t k
    refine P60 _ ?_
    refine XS.iloadN X56.here hx rfl (hb hby at_92) rfl ?_
    show Steps p.tables e below (T56.setTop (mkF m 93 #[.val (.long q1), .second, .val (.int p2), .val (.int p3), .val (.int p4), .val (.ref ba), .unset, .unset, .unset, .unset, .unset, .unset] [(.int p3)])) _
    refine Jvm.Stand.ldcI X56 hx hown (mvT hZ (hw _ (List.mem_of_getElem? (i := 1) rfl))) rfl (hb hby at_93) ?_
    show Steps p.tables e below (T56.setTop (mkF m 95 #[.val (.long q1), .second, .val (.int p2), .val (.int p3), .val (.int p4), .val (.ref ba), .unset, .unset, .unset, .unset, .unset, .unset] [(.int (2147483647 : Int32)), (.int p3)])) _
    refine XS.iand X56.here hx rfl (hb hby at_95) rfl ?_
    show Steps p.tables e below (T56.setTop (mkF m 96 #[.val (.long q1), .second, .val (.int p2), .val (.int p3), .val (.int p4), .val (.ref ba), .unset, .unset, .unset, .unset, .unset, .unset] [(.int (p3 &&& (2147483647 : Int32)))])) _
    refine XS.bipush X56.here hx rfl (hb hby at_96) ?_
    show Steps p.tables e below (T56.setTop (mkF m 98 #[.val (.long q1), .second, .val (.int p2), .val (.int p3), .val (.int p4), .val (.ref ba), .unset, .unset, .unset, .unset, .unset, .unset] [(.int (9 : Int32)), (.int (p3 &&& (2147483647 : Int32)))])) _
    refine iremM X56 hx rfl (hb hby at_98) rfl (by decide) ?_
    show Steps p.tables e below (T56.setTop (mkF m 99 #[.val (.long q1), .second, .val (.int p2), .val (.int p3), .val (.int p4), .val (.ref ba), .unset, .unset, .unset, .unset, .unset, .unset] [(.int ((p3 &&& (2147483647 : Int32)) % (9 : Int32)))])) _
    refine XS.istore X56.here hx rfl (hb hby at_99) rfl (l' := #[.val (.long q1), .second, .val (.int p2), .val (.int p3), .val (.int p4), .val (.ref ba), .val (.int ((p3 &&& (2147483647 : Int32)) % (9 : Int32))), .unset, .unset, .unset, .unset, .unset]) rfl ?_
    show Steps p.tables e below (T56.setTop (mkF m 101 #[.val (.long q1), .second, .val (.int p2), .val (.int p3), .val (.int p4), .val (.ref ba), .val (.int ((p3 &&& (2147483647 : Int32)) % (9 : Int32))), .unset, .unset, .unset, .unset, .unset] [])) _
    exact k
  obtain ⟨sv, hsv⟩ : ∃ z : Int32, z = ((p3 &&& (2147483647 : Int32)) % (9 : Int32)) := ⟨_, rfl⟩
  rw [← hsv] at P61
  have hnz := own_nz hsv
  have P62 : ∀ t, Steps p.tables e below (T56.setTop (mkF m 114 #[.val (.long q1), .second, .val (.int p2), .val (.int p3), .val (.int p4), .val (.ref ba), .val (.int sv), .val (.int ((p4 &&& (2147483647 : Int32)) % ((9 : Int32) - sv))), .unset, .unset, .unset, .unset] [])) t → Steps p.tables e below (s₁.setTop (entryFrame m #[(.long q1), (.int p2), (.int p3), (.int p4)] maxLocals)) t := by
    intro t k
    refine P61 _ ?_
    refine XS.iload X56.here hx rfl (hb hby at_101) rfl ?_
    show Steps p.tables e below (T56.setTop (mkF m 103 #[.val (.long q1), .second, .val (.int p2), .val (.int p3), .val (.int p4), .val (.ref ba), .val (.int sv), .unset, .unset, .unset, .unset, .unset] [(.int p4)])) _
    refine Jvm.Stand.ldcI X56 hx hown (mvT hZ (hw _ (List.mem_of_getElem? (i := 1) rfl))) rfl (hb hby at_103) ?_
    show Steps p.tables e below (T56.setTop (mkF m 105 #[.val (.long q1), .second, .val (.int p2), .val (.int p3), .val (.int p4), .val (.ref ba), .val (.int sv), .unset, .unset, .unset, .unset, .unset] [(.int (2147483647 : Int32)), (.int p4)])) _
    refine XS.iand X56.here hx rfl (hb hby at_105) rfl ?_
    show Steps p.tables e below (T56.setTop (mkF m 106 #[.val (.long q1), .second, .val (.int p2), .val (.int p3), .val (.int p4), .val (.ref ba), .val (.int sv), .unset, .unset, .unset, .unset, .unset] [(.int (p4 &&& (2147483647 : Int32)))])) _
    refine XS.bipush X56.here hx rfl (hb hby at_106) ?_
    show Steps p.tables e below (T56.setTop (mkF m 108 #[.val (.long q1), .second, .val (.int p2), .val (.int p3), .val (.int p4), .val (.ref ba), .val (.int sv), .unset, .unset, .unset, .unset, .unset] [(.int (9 : Int32)), (.int (p4 &&& (2147483647 : Int32)))])) _
    refine XS.iload X56.here hx rfl (hb hby at_108) rfl ?_
    show Steps p.tables e below (T56.setTop (mkF m 110 #[.val (.long q1), .second, .val (.int p2), .val (.int p3), .val (.int p4), .val (.ref ba), .val (.int sv), .unset, .unset, .unset, .unset, .unset] [(.int sv), (.int (9 : Int32)), (.int (p4 &&& (2147483647 : Int32)))])) _
    refine XS.isub X56.here hx rfl (hb hby at_110) rfl ?_
    show Steps p.tables e below (T56.setTop (mkF m 111 #[.val (.long q1), .second, .val (.int p2), .val (.int p3), .val (.int p4), .val (.ref ba), .val (.int sv), .unset, .unset, .unset, .unset, .unset] [(.int ((9 : Int32) - sv)), (.int (p4 &&& (2147483647 : Int32)))])) _
    refine iremM X56 hx rfl (hb hby at_111) rfl hnz ?_
    show Steps p.tables e below (T56.setTop (mkF m 112 #[.val (.long q1), .second, .val (.int p2), .val (.int p3), .val (.int p4), .val (.ref ba), .val (.int sv), .unset, .unset, .unset, .unset, .unset] [(.int ((p4 &&& (2147483647 : Int32)) % ((9 : Int32) - sv)))])) _
    refine XS.istore X56.here hx rfl (hb hby at_112) rfl (l' := #[.val (.long q1), .second, .val (.int p2), .val (.int p3), .val (.int p4), .val (.ref ba), .val (.int sv), .val (.int ((p4 &&& (2147483647 : Int32)) % ((9 : Int32) - sv))), .unset, .unset, .unset, .unset]) rfl ?_
    show Steps p.tables e below (T56.setTop (mkF m 114 #[.val (.long q1), .second, .val (.int p2), .val (.int p3), .val (.int p4), .val (.ref ba), .val (.int sv), .val (.int ((p4 &&& (2147483647 : Int32)) % ((9 : Int32) - sv))), .unset, .unset, .unset, .unset] [])) _
    exact k
  obtain ⟨cv, hcv⟩ : ∃ z : Int32, z = ((p4 &&& (2147483647 : Int32)) % ((9 : Int32) - sv)) := ⟨_, rfl⟩
  rw [← hcv] at P62
  obtain ⟨svn, cvn, hsn, hcn, hle⟩ := own_rg hsv hcv
  obtain ⟨own_B, hB, own_Bv⟩ : ∃ bv : Nat → Int32, bv = (fun j => ([(nar .byte (((XT.ushrL q1 (56 : Int32)).toInt32).toInt8.toInt32)), (nar .byte (((XT.ushrL q1 (48 : Int32)).toInt32).toInt8.toInt32)), (nar .byte (((XT.ushrL q1 (40 : Int32)).toInt32).toInt8.toInt32)), (nar .byte (((XT.ushrL q1 (32 : Int32)).toInt32).toInt8.toInt32)), (nar .byte (((XT.ushrL q1 (24 : Int32)).toInt32).toInt8.toInt32)), (nar .byte (((XT.ushrL q1 (16 : Int32)).toInt32).toInt8.toInt32)), (nar .byte (((XT.ushrL q1 (8 : Int32)).toInt32).toInt8.toInt32)), (nar .byte ((q1.toInt32).toInt8.toInt32)), (nar .byte (p2.toInt8.toInt32))] : List Int32).getD j 0) ∧ ∀ j, j < 9 → ([(.int (nar .byte (((XT.ushrL q1 (56 : Int32)).toInt32).toInt8.toInt32))), (.int (nar .byte (((XT.ushrL q1 (48 : Int32)).toInt32).toInt8.toInt32))), (.int (nar .byte (((XT.ushrL q1 (40 : Int32)).toInt32).toInt8.toInt32))), (.int (nar .byte (((XT.ushrL q1 (32 : Int32)).toInt32).toInt8.toInt32))), (.int (nar .byte (((XT.ushrL q1 (24 : Int32)).toInt32).toInt8.toInt32))), (.int (nar .byte (((XT.ushrL q1 (16 : Int32)).toInt32).toInt8.toInt32))), (.int (nar .byte (((XT.ushrL q1 (8 : Int32)).toInt32).toInt8.toInt32))), (.int (nar .byte ((q1.toInt32).toInt8.toInt32))), (.int (nar .byte (p2.toInt8.toInt32)))] : List Value).getD j (.int (0 : Int32)) = .int (bv j) := ⟨_, rfl, fun j hj => by
    match j, hj with
    | 0, _ => rfl
    | 1, _ => rfl
    | 2, _ => rfl
    | 3, _ => rfl
    | 4, _ => rfl
    | 5, _ => rfl
    | 6, _ => rfl
    | 7, _ => rfl
    | 8, _ => rfl
    | n + 9, hj => omega⟩
  have P63 : ∀ t, Steps p.tables e below (T56.setTop (mkF m 129 #[.val (.long q1), .second, .val (.int p2), .val (.int p3), .val (.int p4), .val (.ref ba), .val (.int sv), .val (.int cv), .unset, .unset, .unset, .unset] [(.int cv), (.long (XT.ushrL q1 ((8 : Int32) * (((8 : Int32) - sv) - cv))))])) t → Steps p.tables e below (s₁.setTop (entryFrame m #[(.long q1), (.int p2), (.int p3), (.int p4)] maxLocals)) t := by
    intro t k
    refine P62 _ ?_
    refine XT.lloadN X56.here hx rfl (hb hby at_114) rfl ?_
    show Steps p.tables e below (T56.setTop (mkF m 115 #[.val (.long q1), .second, .val (.int p2), .val (.int p3), .val (.int p4), .val (.ref ba), .val (.int sv), .val (.int cv), .unset, .unset, .unset, .unset] [(.long q1)])) _
    refine XS.bipush X56.here hx rfl (hb hby at_115) ?_
    show Steps p.tables e below (T56.setTop (mkF m 117 #[.val (.long q1), .second, .val (.int p2), .val (.int p3), .val (.int p4), .val (.ref ba), .val (.int sv), .val (.int cv), .unset, .unset, .unset, .unset] [(.int (8 : Int32)), (.long q1)])) _
    refine XS.bipush X56.here hx rfl (hb hby at_117) ?_
    show Steps p.tables e below (T56.setTop (mkF m 119 #[.val (.long q1), .second, .val (.int p2), .val (.int p3), .val (.int p4), .val (.ref ba), .val (.int sv), .val (.int cv), .unset, .unset, .unset, .unset] [(.int (8 : Int32)), (.int (8 : Int32)), (.long q1)])) _
    refine XS.iload X56.here hx rfl (hb hby at_119) rfl ?_
    show Steps p.tables e below (T56.setTop (mkF m 121 #[.val (.long q1), .second, .val (.int p2), .val (.int p3), .val (.int p4), .val (.ref ba), .val (.int sv), .val (.int cv), .unset, .unset, .unset, .unset] [(.int sv), (.int (8 : Int32)), (.int (8 : Int32)), (.long q1)])) _
    refine XS.isub X56.here hx rfl (hb hby at_121) rfl ?_
    show Steps p.tables e below (T56.setTop (mkF m 122 #[.val (.long q1), .second, .val (.int p2), .val (.int p3), .val (.int p4), .val (.ref ba), .val (.int sv), .val (.int cv), .unset, .unset, .unset, .unset] [(.int ((8 : Int32) - sv)), (.int (8 : Int32)), (.long q1)])) _
    refine XS.iload X56.here hx rfl (hb hby at_122) rfl ?_
    show Steps p.tables e below (T56.setTop (mkF m 124 #[.val (.long q1), .second, .val (.int p2), .val (.int p3), .val (.int p4), .val (.ref ba), .val (.int sv), .val (.int cv), .unset, .unset, .unset, .unset] [(.int cv), (.int ((8 : Int32) - sv)), (.int (8 : Int32)), (.long q1)])) _
    refine XS.isub X56.here hx rfl (hb hby at_124) rfl ?_
    show Steps p.tables e below (T56.setTop (mkF m 125 #[.val (.long q1), .second, .val (.int p2), .val (.int p3), .val (.int p4), .val (.ref ba), .val (.int sv), .val (.int cv), .unset, .unset, .unset, .unset] [(.int (((8 : Int32) - sv) - cv)), (.int (8 : Int32)), (.long q1)])) _
    refine XS.imul X56.here hx rfl (hb hby at_125) rfl ?_
    show Steps p.tables e below (T56.setTop (mkF m 126 #[.val (.long q1), .second, .val (.int p2), .val (.int p3), .val (.int p4), .val (.ref ba), .val (.int sv), .val (.int cv), .unset, .unset, .unset, .unset] [(.int ((8 : Int32) * (((8 : Int32) - sv) - cv))), (.long q1)])) _
    refine XT.lushr X56.here hx rfl (hb hby at_126) rfl ?_
    show Steps p.tables e below (T56.setTop (mkF m 127 #[.val (.long q1), .second, .val (.int p2), .val (.int p3), .val (.int p4), .val (.ref ba), .val (.int sv), .val (.int cv), .unset, .unset, .unset, .unset] [(.long (XT.ushrL q1 ((8 : Int32) * (((8 : Int32) - sv) - cv))))])) _
    refine XS.iload X56.here hx rfl (hb hby at_127) rfl ?_
    show Steps p.tables e below (T56.setTop (mkF m 129 #[.val (.long q1), .second, .val (.int p2), .val (.int p3), .val (.int p4), .val (.ref ba), .val (.int sv), .val (.int cv), .unset, .unset, .unset, .unset] [(.int cv), (.long (XT.ushrL q1 ((8 : Int32) * (((8 : Int32) - sv) - cv))))])) _
    exact k
  obtain ⟨_, _, ⟨T64, L64, k64, n64⟩, -, X64, ⟨Lc64, hQ64, l64, y64, z64⟩, st64⟩ := Jvm.LawKit.callS X56 hx (y := (⟨"com/example/basewright/basewright/EncoderBigEndianPinLaw", "mask", "(I)J"⟩ : MethodName)) hown (mvT hZ (hw _ (List.mem_of_getElem? (i := 2) rfl))) (mvT hZ (hw _ (List.mem_of_getElem? (i := 3) rfl))) (mvT hZ (hw _ (List.mem_of_getElem? (i := 4) rfl))) (mvT hZ (hw _ (List.mem_of_getElem? (i := 5) rfl))) (by decide) (backOf (W := 2) (rm1 l Z a0 hw [] cv  h56 n0 Z58 ) hZ (hw _ (List.mem_of_getElem? (i := 5) rfl)) (hw _ (List.mem_of_getElem? (i := 4) rfl)) (by decide) (by decide)) (g := (mkF m 129 #[.val (.long q1), .second, .val (.int p2), .val (.int p3), .val (.int p4), .val (.ref ba), .val (.int sv), .val (.int cv), .unset, .unset, .unset, .unset] [(.int cv), (.long (XT.ushrL q1 ((8 : Int32) * (((8 : Int32) - sv) - cv))))])) rfl (by rw [hml]; rfl) (argsL := [(.int cv)]) (rest := [(.long (XT.ushrL q1 ((8 : Int32) * (((8 : Int32) - sv) - cv))))]) (lenOf pd_0 rfl) rfl (by show 2 * 0 + _ ≤ _; exact Nat.le_of_eq rfl) (hb hby at_129) (fun _ _ => ⟨rfl, e56, (by decide : 1 + 0 ≤ _), (by decide : 9 + 0 ≤ _)⟩)
  dsimp only [Pt.U, Pt.locs, Pt.cells, Pt.slots] at X64 l64 y64 z64 st64 hQ64
  subst l64 y64 z64
  obtain ⟨rfl, N64q, e64⟩ := hQ64
  have N64 := Fr.app N56 N64q
  have P65 : ∀ t, Steps p.tables e below (T64.setTop (mkF m 132 #[.val (.long q1), .second, .val (.int p2), .val (.int p3), .val (.int p4), .val (.ref ba), .val (.int sv), .val (.int cv), .unset, .unset, .unset, .unset] [(.long (if cv = (8 : Int32) then (-1 : Int64) else (((1 : Int64) <<< (((8 : Int32) * cv).toInt64 &&& 63)) - (1 : Int64)))), (.long (XT.ushrL q1 ((8 : Int32) * (((8 : Int32) - sv) - cv))))])) t → Steps p.tables e below (s₁.setTop (entryFrame m #[(.long q1), (.int p2), (.int p3), (.int p4)] maxLocals)) t := fun t k => P63 _ (st64 _ k)
  have P66 : ∀ t, Steps p.tables e below (T64.setTop (mkF m 135 #[.val (.long q1), .second, .val (.int p2), .val (.int p3), .val (.int p4), .val (.ref ba), .val (.int sv), .val (.int cv), .val (.long ((XT.ushrL q1 ((8 : Int32) * (((8 : Int32) - sv) - cv))) &&& (if cv = (8 : Int32) then (-1 : Int64) else (((1 : Int64) <<< (((8 : Int32) * cv).toInt64 &&& 63)) - (1 : Int64))))), .second, .unset, .unset] [])) t → Steps p.tables e below (s₁.setTop (entryFrame m #[(.long q1), (.int p2), (.int p3), (.int p4)] maxLocals)) t := by
    intro t k
    refine P65 _ ?_
    refine XT.land X64.here hx rfl (hb hby at_132) rfl ?_
    show Steps p.tables e below (T64.setTop (mkF m 133 #[.val (.long q1), .second, .val (.int p2), .val (.int p3), .val (.int p4), .val (.ref ba), .val (.int sv), .val (.int cv), .unset, .unset, .unset, .unset] [(.long ((XT.ushrL q1 ((8 : Int32) * (((8 : Int32) - sv) - cv))) &&& (if cv = (8 : Int32) then (-1 : Int64) else (((1 : Int64) <<< (((8 : Int32) * cv).toInt64 &&& 63)) - (1 : Int64)))))])) _
    refine XT.lstore X64.here hx rfl (hb hby at_133) rfl (l' := #[.val (.long q1), .second, .val (.int p2), .val (.int p3), .val (.int p4), .val (.ref ba), .val (.int sv), .val (.int cv), .val (.long ((XT.ushrL q1 ((8 : Int32) * (((8 : Int32) - sv) - cv))) &&& (if cv = (8 : Int32) then (-1 : Int64) else (((1 : Int64) <<< (((8 : Int32) * cv).toInt64 &&& 63)) - (1 : Int64))))), .second, .unset, .unset]) rfl ?_
    show Steps p.tables e below (T64.setTop (mkF m 135 #[.val (.long q1), .second, .val (.int p2), .val (.int p3), .val (.int p4), .val (.ref ba), .val (.int sv), .val (.int cv), .val (.long ((XT.ushrL q1 ((8 : Int32) * (((8 : Int32) - sv) - cv))) &&& (if cv = (8 : Int32) then (-1 : Int64) else (((1 : Int64) <<< (((8 : Int32) * cv).toInt64 &&& 63)) - (1 : Int64))))), .second, .unset, .unset] [])) _
    exact k
  obtain ⟨ex, hex⟩ : ∃ z : Int64, z = ((XT.ushrL q1 ((8 : Int32) * (((8 : Int32) - sv) - cv))) &&& (if cv = (8 : Int32) then (-1 : Int64) else (((1 : Int64) <<< (((8 : Int32) * cv).toInt64 &&& 63)) - (1 : Int64)))) := ⟨_, rfl⟩
  rw [← hex] at P66
  have P67 : ∀ t, Steps p.tables e below (T64.setTop (mkF m 141 #[.val (.long q1), .second, .val (.int p2), .val (.int p3), .val (.int p4), .val (.ref ba), .val (.int sv), .val (.int cv), .val (.long ex), .second, .unset, .unset] [(.int cv), (.int sv), (.ref ba)])) t → Steps p.tables e below (s₁.setTop (entryFrame m #[(.long q1), (.int p2), (.int p3), (.int p4)] maxLocals)) t := by
    intro t k
    refine P66 _ ?_
    refine XS.aload X64.here hx rfl (hb hby at_135) rfl rfl ?_
    show Steps p.tables e below (T64.setTop (mkF m 137 #[.val (.long q1), .second, .val (.int p2), .val (.int p3), .val (.int p4), .val (.ref ba), .val (.int sv), .val (.int cv), .val (.long ex), .second, .unset, .unset] [(.ref ba)])) _
    refine XS.iload X64.here hx rfl (hb hby at_137) rfl ?_
    show Steps p.tables e below (T64.setTop (mkF m 139 #[.val (.long q1), .second, .val (.int p2), .val (.int p3), .val (.int p4), .val (.ref ba), .val (.int sv), .val (.int cv), .val (.long ex), .second, .unset, .unset] [(.int sv), (.ref ba)])) _
    refine XS.iload X64.here hx rfl (hb hby at_139) rfl ?_
    show Steps p.tables e below (T64.setTop (mkF m 141 #[.val (.long q1), .second, .val (.int p2), .val (.int p3), .val (.int p4), .val (.ref ba), .val (.int sv), .val (.int cv), .val (.long ex), .second, .unset, .unset] [(.int cv), (.int sv), (.ref ba)])) _
    exact k
  obtain ⟨_, _, ⟨T68, L68, k68, n68⟩, -, X68, ⟨Lc68, hQ68, l68, y68, z68⟩, st68⟩ := Jvm.LawKit.callS X64 hx (y := (⟨"com/example/basewright/basewright/Encoder", "bigEndian", "([BII)J"⟩ : MethodName)) hown (mvT hZ (hw _ (List.mem_of_getElem? (i := 6) rfl))) (mvT hZ (hw _ (List.mem_of_getElem? (i := 7) rfl))) (mvT hZ (hw _ (List.mem_of_getElem? (i := 8) rfl))) (mvT hZ (hw _ (List.mem_of_getElem? (i := 9) rfl))) (by decide) (backOf (W := 0) (rm2 l Z a0 hw [] ba sv cv kc_ba [(.int (nar .byte (((XT.ushrL q1 (56 : Int32)).toInt32).toInt8.toInt32))), (.int (nar .byte (((XT.ushrL q1 (48 : Int32)).toInt32).toInt8.toInt32))), (.int (nar .byte (((XT.ushrL q1 (40 : Int32)).toInt32).toInt8.toInt32))), (.int (nar .byte (((XT.ushrL q1 (32 : Int32)).toInt32).toInt8.toInt32))), (.int (nar .byte (((XT.ushrL q1 (24 : Int32)).toInt32).toInt8.toInt32))), (.int (nar .byte (((XT.ushrL q1 (16 : Int32)).toInt32).toInt8.toInt32))), (.int (nar .byte (((XT.ushrL q1 (8 : Int32)).toInt32).toInt8.toInt32))), (.int (nar .byte ((q1.toInt32).toInt8.toInt32))), (.int (nar .byte (p2.toInt8.toInt32)))] own_B svn cvn h56 n0 Z58 F57 own_Bv hsn hcn hle) hZ (hw _ (List.mem_of_getElem? (i := 9) rfl)) (hw _ (List.mem_of_getElem? (i := 8) rfl)) (by decide) (by decide)) (g := (mkF m 141 #[.val (.long q1), .second, .val (.int p2), .val (.int p3), .val (.int p4), .val (.ref ba), .val (.int sv), .val (.int cv), .val (.long ex), .second, .unset, .unset] [(.int cv), (.int sv), (.ref ba)])) rfl (by rw [hml]; rfl) (argsL := [(.ref ba), (.int sv), (.int cv)]) (rest := []) (lenOf pd_1 rfl) rfl (by show 2 * 0 + _ ≤ _; exact Nat.le_of_eq rfl) (hb hby at_141) (fun _ _ => ⟨rfl, e64, (by decide : 1 + 0 ≤ _), (by decide : 9 + 0 ≤ _)⟩)
  dsimp only [Pt.U, Pt.locs, Pt.cells, Pt.slots] at X68 l68 y68 z68 st68 hQ68
  subst l68 y68 z68
  obtain ⟨rfl, N68q, e68⟩ := hQ68
  have N68 := Fr.app N64 N68q
  have P69 : ∀ t, Steps p.tables e below (T68.setTop (mkF m 144 #[.val (.long q1), .second, .val (.int p2), .val (.int p3), .val (.int p4), .val (.ref ba), .val (.int sv), .val (.int cv), .val (.long ex), .second, .unset, .unset] [(.long (own_be own_B svn cvn))])) t → Steps p.tables e below (s₁.setTop (entryFrame m #[(.long q1), (.int p2), (.int p3), (.int p4)] maxLocals)) t := fun t k => P67 _ (st68 _ k)
  have P70 : ∀ t, Steps p.tables e below (T68.setTop (mkF m 146 #[.val (.long q1), .second, .val (.int p2), .val (.int p3), .val (.int p4), .val (.ref ba), .val (.int sv), .val (.int cv), .val (.long ex), .second, .val (.long (own_be own_B svn cvn)), .second] [])) t → Steps p.tables e below (s₁.setTop (entryFrame m #[(.long q1), (.int p2), (.int p3), (.int p4)] maxLocals)) t := by
    intro t k
    refine P69 _ ?_
    refine XT.lstore X68.here hx rfl (hb hby at_144) rfl (l' := #[.val (.long q1), .second, .val (.int p2), .val (.int p3), .val (.int p4), .val (.ref ba), .val (.int sv), .val (.int cv), .val (.long ex), .second, .val (.long (own_be own_B svn cvn)), .second]) rfl ?_
    show Steps p.tables e below (T68.setTop (mkF m 146 #[.val (.long q1), .second, .val (.int p2), .val (.int p3), .val (.int p4), .val (.ref ba), .val (.int sv), .val (.int cv), .val (.long ex), .second, .val (.long (own_be own_B svn cvn)), .second] [])) _
    exact k
  obtain ⟨ac, hac⟩ : ∃ z : Int64, z = (own_be own_B svn cvn) := ⟨_, rfl⟩
  rw [← hac] at P70
  have re : ac = ex := own_plain hsn hcn hle hB hex hac
  have P71 : ∀ t, Steps p.tables e below (T68.setTop (mkF m 159 #[.val (.long q1), .second, .val (.int p2), .val (.int p3), .val (.int p4), .val (.ref ba), .val (.int sv), .val (.int cv), .val (.long ex), .second, .val (.long ac), .second] [(.int (1 : Int32))])) t → Steps p.tables e below (s₁.setTop (entryFrame m #[(.long q1), (.int p2), (.int p3), (.int p4)] maxLocals)) t := by
    intro t k
    refine P70 _ ?_
    refine XT.lload X68.here hx rfl (hb hby at_146) rfl ?_
    show Steps p.tables e below (T68.setTop (mkF m 148 #[.val (.long q1), .second, .val (.int p2), .val (.int p3), .val (.int p4), .val (.ref ba), .val (.int sv), .val (.int cv), .val (.long ex), .second, .val (.long ac), .second] [(.long ac)])) _
    refine XT.lload X68.here hx rfl (hb hby at_148) rfl ?_
    show Steps p.tables e below (T68.setTop (mkF m 150 #[.val (.long q1), .second, .val (.int p2), .val (.int p3), .val (.int p4), .val (.ref ba), .val (.int sv), .val (.int cv), .val (.long ex), .second, .val (.long ac), .second] [(.long ex), (.long ac)])) _
    refine XT.lcmp X68.here hx rfl (hb hby at_150) rfl ?_
    show Steps p.tables e below (T68.setTop (mkF m 151 #[.val (.long q1), .second, .val (.int p2), .val (.int p3), .val (.int p4), .val (.ref ba), .val (.int sv), .val (.int cv), .val (.long ex), .second, .val (.long ac), .second] [(.int (XT.cmpL ac ex))])) _
    refine XS.ifNo X68.here hx rfl (hb hby at_151) rfl (XT.ll_ne_f re) ?_
    show Steps p.tables e below (T68.setTop (mkF m 154 #[.val (.long q1), .second, .val (.int p2), .val (.int p3), .val (.int p4), .val (.ref ba), .val (.int sv), .val (.int cv), .val (.long ex), .second, .val (.long ac), .second] [])) _
    refine XS.iconst X68.here hx rfl (hb hby at_154) ?_
    show Steps p.tables e below (T68.setTop (mkF m 155 #[.val (.long q1), .second, .val (.int p2), .val (.int p3), .val (.int p4), .val (.ref ba), .val (.int sv), .val (.int cv), .val (.long ex), .second, .val (.long ac), .second] [(.int (1 : Int32))])) _
    refine XS.goto X68.here hx rfl (pc0 := 155) (pc' := 159) rfl (hb hby at_155) (by decide) (by decide) ?_
    show Steps p.tables e below (T68.setTop (mkF m 159 #[.val (.long q1), .second, .val (.int p2), .val (.int p3), .val (.int p4), .val (.ref ba), .val (.int sv), .val (.int cv), .val (.long ex), .second, .val (.long ac), .second] [(.int (1 : Int32))])) _
    exact k
  obtain ⟨fs, hr, hrun, hended, hW, hsame⟩ := X68.leave (v := some (.int (1 : Int32))) (fun h => by rw [Bd.returns] at h; cases h)
  refine ⟨_, _, P71 _ ?_, hrun, hended, _, _, rfl, ?_, ⟨_, rfl⟩, hW, hsame.mono (by decide) (by decide)⟩
  · exact retN X68 hx (t := .boolean) Bd.returns (by simp) (hb hby at_159) hr
  · show Q0 Z q1 p2 p3 p4 h0 n0 _ T68.heap _
    rw [e68]
    exact ⟨rfl, N68⟩
set_option maxRecDepth 65536 in
set_option maxHeartbeats 40000000 in
theorem comes_1 {Post : Tables → Env → Array Value → State → Outcome → State → Prop} (hpost : ∀ tb e args s v u, (limb_1_1.after args s (.returned v) u = true ∧ limb_1_2.after args s (.returned v) u = true ∧ True) → FrameEnd s (.returned v) u (Jvm.fieldLocs frame_1_writes args s ++ Jvm.arrayLocs frame_1_arrays args s ++ Jvm.staticLocs frame_1_statics s) 16 128 → Post tb e args s (.returned v) u) :
    ArmFor flags0 classFile x code maxLocals ret World_1 tables_1 room_1 Calls_1 rest_1 Pre_1 Post := by
  intro l hfl _ _ p e ha hc hk s m args below hf hA hF happ hP
  obtain ⟨hcalls, hrest, hpre⟩ := hP
  obtain ⟨-, -, -, hnamed, -, -, -, hat⟩ := (Spec.applies_iff hf).mp happ
  obtain ⟨hg, hn⟩ := and_e (Cond.before_iff.mp (show (Jvm.Cond.and given_1 narrow_1).before args s = true from hpre))
  obtain ⟨g1, g2⟩ := and_e hg
  obtain ⟨g3, g4⟩ := and_e g2
  obtain ⟨g5, g6⟩ := and_e g4
  obtain ⟨g7, g8⟩ := and_e g6
  obtain ⟨w0, w1, w2, w3, rfl⟩ : ∃ w0 w1 w2 w3 : Value, args = #[w0, w1, w2, w3] := by
    have hs : args.size = 4 := by simpa [Cond.value, given_1] using g1
    obtain ⟨L⟩ := args
    match L, hs with
    | [w0, w1, w2, w3], _ => exact ⟨w0, w1, w2, w3, rfl⟩
  have hw := fun d (hd : d ∈ tables_1) => atoms_spec (ws := Jvm.Cond.code x code maxLocals ret :: tables_1) hat d (List.mem_cons_of_mem _ hd)
  have hfit : Fit s := fun {y c} hc i hi => by
    obtain ⟨ha, rfl⟩ := Array.getElem?_eq_some_iff.mp hc
    have q := List.all_eq_true.mp ((Array.all_eq_true_iff_forall_mem.mp hF) _ (Array.getElem_mem ha)) i (List.mem_range.mpr hi)
    simpa [Array.getElem?_eq_getElem hi] using q
  obtain ⟨i0, ei0⟩ := isL_v g3
  obtain rfl : w0 = (.long i0) := Option.some.inj ei0
  obtain ⟨i1, ei1⟩ := is_v g5
  obtain rfl : w1 = (.int i1) := Option.some.inj ei1
  obtain ⟨i2, ei2⟩ := is_v g7
  obtain rfl : w2 = (.int i2) := Option.some.inj ei2
  obtain ⟨i3, ei3⟩ := is_v g8
  obtain rfl : w3 = (.int i3) := Option.some.inj ei3
  obtain ⟨n, o, h1, h2, h3, _, L, rfl, ⟨rfl, N⟩, hq⟩ := rm0 l s _ hw tables_1 i0 i1 i2 i3  s.heap s.heap.size (Nat.le_refl _)  p e ha hc hk s m _ below hf ((Spec.applies_iff_loose hf).mp happ).1 ⟨rfl, State.Warmed39.refl s, rfl⟩ trivial
  refine ⟨n, _, h1, h2, h3, hpost _ _ _ _ _ _ ⟨Cond.after_iff.mpr rfl, Cond.after_iff.mpr (eq_i res_at (Term.int_eval (1)) rfl), trivial⟩ ⟨hq.1, hq.2.1, (hq.2.2.sift fun y hy => Or.inr (N y hy)).mono (by decide) (by decide)⟩⟩
theorem main_1_1 : Claimed_1_1 := comes_1 fun _ _ _ _ _ _ h hF => ⟨h.1, hF⟩
theorem main_1_2 : Claimed_1_2 := comes_1 fun _ _ _ _ _ _ h hF => ⟨h.2.1, hF⟩
end Jvm.Pilot.@@N@@
namespace Jvm.Pilot.@@N@@
open Jvm Jvm.ClassFile Sem Op Lib Jvm.Free Jvm.Stand Jvm.Pilot.@@N@@.Jvm.D
/-! MADE BY PROGRAM (witnessworld.py) out of the Statement's table words and the real class files: 9 classes; the members and pool entries that the words name. The judged class is class 1, her method 2. -/
namespace start1
open Jvm.ClassFile
def u (s : String) : CpInfo := .utf8 (stringToUtf16 s)
/-- a pool by its gaps: so many unusable entries, then the entry; so many at the end -/
def gap : Nat → List CpInfo → List CpInfo
  | 0, r => r
  | n + 1, r => .unusable :: gap n r
def poolList (es : List (Nat × CpInfo)) (last : Nat) : List CpInfo := es.foldr (fun e r => gap e.1 (e.2 :: r)) (gap last [])
def pool (es : List (Nat × CpInfo)) (last : Nat) : Array CpInfo := ⟨poolList es last⟩
def fileOf (pool : Array CpInfo) (this : Nat) (attrs : Array Attribute := #[]) (ms : Array MethodInfo := #[]) (fl : Nat := 33) (sup : Nat := 0) (ifs : Array Nat := #[]) (fds : Array FieldInfo := #[]) : ClassFile where
  minorVersion := 0
  majorVersion := 65
  constantPool := pool
  accessFlags := fl
  thisClass := this
  superClass := sup
  interfaces := ifs
  fields := fds
  methods := ms
  attributes := attrs
def plain (name : String) (sup : Option ClassId) : Class where
  name := name
  kind := .ordinary
  loader := none
  accessFlags := 33
  super := sup
  interfaces := #[]
  cf := none
  fields := #[]
  methods := #[]
  instanceTypes := #[]
  staticTypes := #[]
  resolved := #[]
  callSites := []
  init := .initialized
  statics := none
  mirror := none

def pool0 : Array CpInfo := pool [(5, u "<init>"), (0, u "()V"), (1, .class_ 10), (1, u "java/lang/Object")] 113

def k0m0 : Method := { name := "<init>", desc := "()V", sig := { parameters := [], returnType := none }, accessFlags := 1, code := none }
/-- java/lang/Object -/
def k0 : Class := { plain "java/lang/Object" none with
  accessFlags := 33
  interfaces := #[]
  cf := some (fileOf pool0 8 #[] #[{ accessFlags := 1, nameIndex := 5, descriptorIndex := 6, attributes := #[] }] 33 0 #[] #[])
  fields := #[]
  methods := #[k0m0]
  instanceTypes := #[]
  staticTypes := #[]
  resolved := Array.replicate 124 none
  statics := none }

def pool1 : Array CpInfo := pool [(2, .class_ 4), (1, u "java/lang/Object"), (0, u "<init>"), (0, u "()V"), (0, .long 18446744073709551615), (1, .integer 2147483647), (0, .methodref 11 12), (0, .class_ 13), (0, .nameAndType 14 15), (0, u "com/example/basewright/basewright/EncoderBigEndianPinLaw"), (0, u "mask"), (0, u "(I)J"), (0, .methodref 17 18), (0, .class_ 19), (0, .nameAndType 20 21), (0, u "com/example/basewright/basewright/Encoder"), (0, u "bigEndian"), (0, u "([BII)J"), (3, u "law"), (0, u "(JIII)Z")] 4

def k1m0 : Method := { name := "<init>", desc := "()V", sig := { parameters := [], returnType := none }, accessFlags := 2, code := none }
def k1c1 : Code := { maxStack := 4, maxLocals := 1, code := method_2_code, exceptionTable := #[], attributes := #[] }
def k1m1 : Method := { name := "mask", desc := "(I)J", sig := { parameters := [.int], returnType := some .long }, accessFlags := 10, code := some k1c1 }
def k1c2 : Code := { maxStack := 5, maxLocals := 12, code := code, exceptionTable := #[], attributes := #[] }
def k1m2 : Method := { name := "law", desc := "(JIII)Z", sig := { parameters := [.long, .int, .int, .int], returnType := some .boolean }, accessFlags := 9, code := some k1c2 }
/-- com/example/basewright/basewright/EncoderBigEndianPinLaw -/
def k1 : Class := { plain "com/example/basewright/basewright/EncoderBigEndianPinLaw" (some 0) with
  accessFlags := 49
  interfaces := #[]
  cf := some (fileOf pool1 11 #[] #[{ accessFlags := 2, nameIndex := 5, descriptorIndex := 6, attributes := #[] }, { accessFlags := 10, nameIndex := 14, descriptorIndex := 15, attributes := #[] }, { accessFlags := 9, nameIndex := 25, descriptorIndex := 26, attributes := #[] }] 49 2 #[] #[])
  fields := #[]
  methods := #[k1m0, k1m1, k1m2]
  instanceTypes := #[]
  staticTypes := #[]
  resolved := Array.replicate 31 none
  statics := none }

def pool2 : Array CpInfo := pool [(2, .class_ 4), (1, u "java/lang/Object"), (0, u "<init>"), (0, u "()V"), (1, .class_ 10), (1, u "com/example/basewright/basewright/Encoder"), (37, .class_ 49), (0, u "com/example/basewright/basewright/Encoder$KeptOpen"), (39, u "bigEndian"), (0, u "([BII)J")] 6

def k2m0 : Method := { name := "<init>", desc := "()V", sig := { parameters := [], returnType := none }, accessFlags := 0, code := none }
def k2c1 : Code := { maxStack := 4, maxLocals := 6, code := prog_19_method_13_code, exceptionTable := #[], attributes := #[] }
def k2m1 : Method := { name := "bigEndian", desc := "([BII)J", sig := { parameters := [(.array .byte), .int, .int], returnType := some .long }, accessFlags := 8, code := some k2c1 }
/-- com/example/basewright/basewright/Encoder -/
def k2 : Class := { plain "com/example/basewright/basewright/Encoder" (some 0) with
  accessFlags := 1057
  interfaces := #[]
  cf := some (fileOf pool2 8 #[.nestMembers #[48]] #[{ accessFlags := 0, nameIndex := 5, descriptorIndex := 6, attributes := #[] }, { accessFlags := 8, nameIndex := 89, descriptorIndex := 90, attributes := #[] }] 1057 2 #[] #[])
  fields := #[]
  methods := #[k2m0, k2m1]
  instanceTypes := #[]
  staticTypes := #[]
  resolved := Array.replicate 97 none
  statics := none }

def pool3 : Array CpInfo := pool [(1, u "java/lang/Cloneable"), (0, .class_ 1), (0, u "java/lang/Object"), (0, .class_ 3)] 3

/-- java/lang/Cloneable -/
def k3 : Class := { plain "java/lang/Cloneable" (some 0) with
  accessFlags := 1537
  interfaces := #[]
  cf := some (fileOf pool3 2 #[] #[] 1537 4 #[] #[])
  fields := #[]
  methods := #[]
  instanceTypes := #[]
  staticTypes := #[]
  resolved := Array.replicate 8 none
  statics := none }

def pool4 : Array CpInfo := pool [(1, u "java/io/Serializable"), (0, .class_ 1), (0, u "java/lang/Object"), (0, .class_ 3)] 3

/-- java/io/Serializable -/
def k4 : Class := { plain "java/io/Serializable" (some 0) with
  accessFlags := 1537
  interfaces := #[]
  cf := some (fileOf pool4 2 #[] #[] 1537 4 #[] #[])
  fields := #[]
  methods := #[]
  instanceTypes := #[]
  staticTypes := #[]
  resolved := Array.replicate 8 none
  statics := none }

/-- the primitive byte -/
def k5 : Class := { plain "byte" none with kind := .primitive 'B', accessFlags := 0x411 }
/-- [B -/
def k6 : Class := { plain "[B" (some 0) with kind := .array 5 .byte, interfaces := #[3, 4], accessFlags := 1041 }

/-- the primitive int -/
def k7 : Class := { plain "int" none with kind := .primitive 'I', accessFlags := 0x411 }
/-- [I -/
def k8 : Class := { plain "[I" (some 0) with kind := .array 7 .int, interfaces := #[3, 4], accessFlags := 1041 }

def heap : Heap := #[]
def classes : Array Class := #[k0, k1, k2, k3, k4, k5, k6, k7, k8]
def interned : List (Array UInt16 × Addr) := []
def slotsUsed : Nat := 0
def theMethod : MethodId := ⟨1, 2⟩
def args0 : Array Value := #[.long 1, .int 2, .int 3, .int 4]
def aboutOver (below : List Frame) : State where
  vm := { classes := classes, interned := interned.toArray }
  heap := heap
  slotsUsed := slotsUsed
  threads := #[{ frames := .invoking theMethod args0 :: below }]
def below0 : List Frame := [.native { method := ⟨0, 0⟩, args := #[] }]
def about1 : State := aboutOver below0
def p0 : Program := .bare "" "" ""
def e0 : Env := launch0.env 0 0 0
theorem w_frames : about1.frames = Frame.invoking theMethod args0 :: below0 := rfl
set_option maxRecDepth 65536 in
theorem w_args : argsFit about1.vm theMethod args0 = true := by decide +kernel
set_option maxRecDepth 65536 in
theorem w_heap : heapFits about1 = true := by decide +kernel
set_option maxRecDepth 65536 in
theorem w_runnable : about1.curStatus? = some .runnable := by decide +kernel
set_option maxRecDepth 65536 in
theorem w_alone : about1.alone = true := by decide +kernel
set_option maxRecDepth 65536 in
theorem w_named : about1.methodNamed? x = some theMethod := by decide +kernel
set_option maxRecDepth 65536 in
theorem w_hears : about1.hears theMethod below0 = true := by decide +kernel
set_option maxRecDepth 65536 in
theorem w_ripe : about1.ripe theMethod args0 below0 = true := by decide +kernel
theorem w_running : about1.status = .running := rfl
set_option maxRecDepth 65536 in
theorem w_room : about1.hasRoom e0.platform room_1 = true :=
  launch0.hasRoom_least _ room_1 (by decide +kernel) (by decide +kernel) (by decide +kernel) (by decide +kernel) (by decide +kernel) (by decide +kernel)
theorem allAtoms_all (ts : List Jvm.Cond) (a : Array Jvm.Value) (st : Jvm.State) : (allAtoms ts).before a st = ts.all (fun c => c.before a st) := by
  induction ts with
  | nil => rfl
  | cons c t ih =>
    show (Jvm.Cond.and c (allAtoms t)).before a st = _
    rw [Jvm.Cond.before_and, ih, List.all_cons]
def words1 : List Jvm.Cond := Jvm.Cond.code x code maxLocals ret :: tables_1
/-- a 'code' word, met by the world's own term for the bytes: nothing is compared byte by byte -/
theorem code_word {y : MethodName} {bytes : ByteArray} {mx : Nat} {rt : Option FieldType} {a : Array Value} {s : State} {m : MethodId} {meth : Method} {c : Code} (h1 : s.methodNamed? y = some m) (h2 : s.vm.method? m = some meth) (h3 : meth.code = some c) (h4 : c.code = bytes)
    (h5 : (c.maxLocals == mx && c.exceptionTable.isEmpty && decide (c.maxStack ≤ mostOperands) && decide (meth.sig.returnType = rt) && !meth.locks && decide (parseMethodDescriptor y.desc = some meth.sig)) = true) : (Jvm.Cond.code y bytes mx rt).before a s = true := by
  simp only [Bool.and_eq_true, beq_iff_eq, Bool.not_eq_true', decide_eq_true_eq] at h5
  obtain ⟨⟨⟨⟨⟨g1, g2⟩, g3⟩, g4⟩, g5⟩, g6⟩ := h5
  simp [Cond.before, Cond.holds, Cond.value, h1, h2, h3, h4, g1, g2, g3, g4, g5, g6]
def isCode : Jvm.Cond → Bool
  | .code _ _ _ _ => true
  | _ => false
theorem all_split {L : List Jvm.Cond} {P : Jvm.Cond → Bool} (h1 : L.all (fun c => isCode c || P c) = true) (h2 : ∀ c ∈ L.filter isCode, P c = true) : L.all P = true := by
  refine List.all_eq_true.mpr fun c hc => ?_
  have h := List.all_eq_true.mp h1 c hc
  rcases Bool.eq_false_or_eq_true (isCode c) with hi | hi
  · exact h2 c (List.mem_filter.mpr ⟨hc, hi⟩)
  · simpa [hi] using h
set_option maxRecDepth 65536 in
theorem w_c0 : (Jvm.Cond.code x code maxLocals ret).before args0 about1 = true := code_word (m := ⟨1, 2⟩) (meth := k1m2) (c := k1c2) (by decide +kernel) rfl rfl rfl (by decide +kernel)
set_option maxRecDepth 65536 in
theorem w_c1 : (Jvm.Cond.code ({ cls := "com/example/basewright/basewright/EncoderBigEndianPinLaw", name := "mask", desc := "(I)J" } : Jvm.MethodName) method_2_code (1 : Nat) (Option.some Jvm.ClassFile.FieldType.long)).before args0 about1 = true := code_word (m := ⟨1, 1⟩) (meth := k1m1) (c := k1c1) (by decide +kernel) rfl rfl rfl (by decide +kernel)
set_option maxRecDepth 65536 in
theorem w_c2 : (Jvm.Cond.code ({ cls := "com/example/basewright/basewright/Encoder", name := "bigEndian", desc := "([BII)J" } : Jvm.MethodName) prog_19_method_13_code (6 : Nat) (Option.some Jvm.ClassFile.FieldType.long)).before args0 about1 = true := code_word (m := ⟨2, 1⟩) (meth := k2m1) (c := k2c1) (by decide +kernel) rfl rfl rfl (by decide +kernel)
def codes1 : List Jvm.Cond := [Jvm.Cond.code x code maxLocals ret, Jvm.Cond.code ({ cls := "com/example/basewright/basewright/EncoderBigEndianPinLaw", name := "mask", desc := "(I)J" } : Jvm.MethodName) method_2_code (1 : Nat) (Option.some Jvm.ClassFile.FieldType.long), Jvm.Cond.code ({ cls := "com/example/basewright/basewright/Encoder", name := "bigEndian", desc := "([BII)J" } : Jvm.MethodName) prog_19_method_13_code (6 : Nat) (Option.some Jvm.ClassFile.FieldType.long)]
set_option maxRecDepth 65536 in
theorem codes_eq : words1.filter isCode = codes1 := rfl
theorem w_codes : ∀ c ∈ words1.filter isCode, c.before args0 about1 = true := by
  rw [codes_eq]
  intro c hc
  simp only [codes1, List.mem_cons, List.not_mem_nil, or_false] at hc
  rcases hc with rfl | rfl | rfl
  · exact w_c0
  · exact w_c1
  · exact w_c2
set_option maxRecDepth 65536 in
theorem w_t1 : words1.all (fun c => isCode c || c.before args0 about1) = true := by decide +kernel
theorem w_tables : (allAtoms (Jvm.Cond.code x code maxLocals ret :: tables_1)).before args0 about1 = true := by
  rw [allAtoms_all]
  show words1.all (fun c => c.before args0 about1) = true
  refine all_split ?_ w_codes
  rw [w_t1]
set_option maxRecDepth 65536 in
theorem w_case : (Jvm.Cond.and given_1 narrow_1).before args0 about1 = true := by decide +kernel
theorem w_applies : (headSpec (Jvm.Cond.code x code maxLocals ret :: tables_1) room_1).applies x e0.platform about1 = true :=
  (Spec.applies_iff w_frames).mpr ⟨w_running, w_runnable, w_alone, w_named, w_hears, w_ripe, w_room, w_tables⟩
theorem atStart : AtStart classFile x code maxLocals ret World_1 tables_1 room_1 Calls_1 rest_1 Pre_1 launch0 p0 e0 about1 theMethod args0 below0 :=
  ⟨lists_1, trivial, launch0.admits_env _ _ _, launch0.least_env, fairChoices_fair.cas, fairChoices_fair.clock, w_frames, w_args, w_heap, w_applies, trivial, trivial, w_case⟩
end start1
theorem witness_1 : WitnessClaimed_1 := ⟨start1.p0, start1.e0, start1.about1, start1.theMethod, start1.args0, start1.below0, start1.atStart⟩
end Jvm.Pilot.@@N@@

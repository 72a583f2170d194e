import JvmDerived
import JvmDerived.Pilot.@@N@@Statement
import JvmDerived.Pilot.@@N@@Code
set_option linter.unusedVariables false
set_option linter.unusedSimpArgs false
namespace Jvm.RoadKit
open Sem ClassFile Op Lib Jvm.Stand Jvm.Free Jvm.LawKit
section New
variable {p : Program} {l : Launch} {e : Env} {R : Room} {s : State} {m : MethodId} {args : Array Value} {below : List Frame} {meth : Method} {c : Code} {T : State} {locs : List Loc} {cells slots : Nat}
theorem retI (X : Stand p l e R s m args below meth c T locs cells slots) (hx : p.tables.exec = Jvm.exec) {pc : Nat} {Ls : Array Slot} {z : Int32} {rest : List Value} (hret : meth.sig.returnType = some .int) (hd : decode c.code pc = .ok (.ireturn, 1)) {fs : List Frame}
    (hl : ∀ (f : JFrame) (acts : List Action), f.method = m → f.locked = none → f.entered = [] → (doReturn e (T.setTop f) acts (some (.int z))).1 = T.setFrames fs) : Steps p.tables e below (T.setTop (mkF m pc Ls (.int z :: rest))) (T.setFrames fs) := by
  have hm' : T.vm.method? m = some meth := X.method'
  have hn : narrow .int (.int z) = .int z := rfl
  show Steps p.tables e below (T.setTop { method := m, pc := pc, locals := Ls, stack := _ :: rest, locked := none }) _
  jvm_step X.here [X.here.top, hx, hd, hm', hret, hn]
  first | (intro acts; rw [hl _ acts rfl rfl rfl]) | rw [hl _ _ rfl rfl rfl]
  exact Steps.refl _
end New
end Jvm.RoadKit
namespace Jvm.Pilot.@@N@@
open Jvm Jvm.ClassFile Sem Op Lib Jvm.Free Jvm.Stand Jvm.LawKit Jvm.RoadKit Bundle Jvm.Pilot.@@N@@.Jvm.D

theorem own_gen {p : Program} {l : Launch} {e : Env} {R : Room} {s : State} {m : MethodId} {args : Array Value} {below : List Frame} {meth : Method} {c : Code} {T : State} {locs : List Loc} {cells slots n0 : Nat}
    (X : Stand p l e R s m args below meth c T locs cells slots) (N : Fr n0 locs) : ∃ LL, Stand p l e R s m args below meth c T LL cells slots ∧ Fr n0 LL := ⟨_, X, N⟩
theorem own_nb {c : Prop} [Decidable c] : nar .boolean (if c then (1 : Int32) else (0 : Int32)) = (if c then (1 : Int32) else (0 : Int32)) := by
  by_cases h : c
  · rw [if_pos h]; rfl
  · rw [if_neg h]; rfl
theorem own_n1 : nar .boolean (1 : Int32) = (1 : Int32) := rfl
theorem own_n0 : nar .boolean (0 : Int32) = (0 : Int32) := rfl

theorem own_pos {x y : Int32} (h : x = y &&& (2147483647 : Int32)) : ¬ x < (0 : Int32) := by
  have := c_mask y 2147483647 31 (by decide) (by decide)
  rw [← h] at this
  rw [Int32.lt_iff_toInt_lt]
  show ¬ x.toInt < 0
  omega
theorem own_rem {x y d : Int32} {D : Int} (h : x = (y &&& (2147483647 : Int32)) % d) (hd : d.toInt = D) (hD : 0 < D) : 0 ≤ x.toInt ∧ x.toInt < D := by
  have h1 := c_mask y 2147483647 31 (by decide) (by decide)
  have h2 := c_iremV (y &&& 2147483647) d
  rw [← h, hd] at h2
  have h3 := h2.1 (by omega) hD
  omega

theorem own_fldI {args : Array Value} {s : State} {t : Jvm.Term} {x : Addr} {C n d : String} {k : Int32} (ht : t.eval args s none [] s = some (.ref x)) (h : (Jvm.Cond.eq (Jvm.Term.field t C n d) (Jvm.Term.int k)).value args s none s [] = some true) : Fld s s.heap x C n d (.int k) := by
  have e1 := fld_at (C := C) (n := n) (dd := d) ht
  cases hf : s.fieldOf? x C n d with
  | none => rw [hf] at e1; simp [Jvm.Cond.value, e1] at h
  | some u =>
    rw [hf] at e1
    have e2 : (Jvm.Term.int k).eval args s none [] s = some (.int k) := rfl
    cases u <;> simp [Jvm.Cond.value, e1, e2] at h
    subst h
    exact Fld.start hf
theorem own_fldN {args : Array Value} {s : State} {t : Jvm.Term} {x : Addr} {C n d : String} (ht : t.eval args s none [] s = some (.ref x)) (h : (Jvm.Cond.eq (Jvm.Term.field t C n d) Jvm.Term.null).value args s none s [] = some true) : Fld s s.heap x C n d .null := by
  have e1 := fld_at (C := C) (n := n) (dd := d) ht
  have e2 := null_v h
  exact Fld.start (e1.symm.trans e2)
theorem own_fldR {args : Array Value} {s : State} {t u : Jvm.Term} {x y : Addr} {C n d : String} (ht : t.eval args s none [] s = some (.ref x)) (hu : u.eval args s none [] s = some (.ref y)) (h : (Jvm.Cond.eq (Jvm.Term.field t C n d) u).value args s none s [] = some true) : Fld s s.heap x C n d (.ref y) := by
  have e1 := fld_at (C := C) (n := n) (dd := d) ht
  cases hf : s.fieldOf? x C n d with
  | none => rw [hf] at e1; simp [Jvm.Cond.value, e1] at h
  | some w =>
    rw [hf] at e1
    cases w <;> simp [Jvm.Cond.value, e1, hu] at h
    subst h
    exact Fld.start hf
theorem own_fldJ {args : Array Value} {s : State} {t : Jvm.Term} {x : Addr} {C n d : String} {k : Int64} (ht : t.eval args s none [] s = some (.ref x)) (h : (Jvm.Cond.eq (Jvm.Term.field t C n d) (Jvm.Term.long k)).value args s none s [] = some true) : Fld s s.heap x C n d (.long k) := by
  have e1 := fld_at (C := C) (n := n) (dd := d) ht
  cases hf : s.fieldOf? x C n d with
  | none => rw [hf] at e1; simp [Jvm.Cond.value, e1] at h
  | some u =>
    rw [hf] at e1
    have e2 : (Jvm.Term.long k).eval args s none [] s = some (.long k) := rfl
    cases u <;> simp [Jvm.Cond.value, e1, e2] at h
    subst h
    exact Fld.start hf

section OwnArr
variable {p : Program} {l : Launch} {e : Env} {R : Room} {s : State} {m : MethodId} {args : Array Value} {below : List Frame} {meth : Method} {c : Code} {T : State} {locs : List Loc} {cells slots : Nat} {Z : State} {h : Heap} {a : Addr} {k : ClassId} {n : Int32} {vs : List Value} {d : Value}
theorem own_len {ty : FieldType} {g : JFrame} {target : State} (X : Stand p l e R s m args below meth c T locs cells slots) (hx : p.tables.exec = Jvm.exec) (hZ : Z.Warmed39 s.vm) (eT : T.heap = h) (A : Arv Z h a k ty n vs d) (hg : g.method = m) {rest : List Value} (hs : g.stack = .ref a :: rest) (hd : decode c.code g.pc = .ok (.arraylength, 1))
    (hr : Steps p.tables e below (T.setTop { g with pc := g.pc + 1, stack := .int n :: rest }) target) : Steps p.tables e below (T.setTop g) target := by
  obtain ⟨cl, Ar, -, S, M, -, -⟩ := A
  refine X.arraylength hx (by rw [eT]; exact Ar.1) (State.isArrayOf_alike hZ.alike Ar.2.1) hg hs hd _ ?_
  rw [len_of S M]
  exact hr
theorem own_ial {g : JFrame} {target : State} (X : Stand p l e R s m args below meth c T locs cells slots) (hx : p.tables.exec = Jvm.exec) (hZ : Z.Warmed39 s.vm) (eT : T.heap = h) (A : Arv Z h a k .int n vs d) {j : Int32} (hj : ¬ j < 0 ∧ j < n) {v : Value} (hv : vs.getD j.toNatClampNeg d = v) (hg : g.method = m) {rest : List Value} (hs : g.stack = .int j :: .ref a :: rest) (hd : decode c.code g.pc = .ok (.iaload, 1))
    (hr : Steps p.tables e below (T.setTop { g with pc := g.pc + 1, stack := v :: rest }) target) : Steps p.tables e below (T.setTop g) target := by
  obtain ⟨cl, Ar, -, S, M, H, -⟩ := A
  have hin := inb_of S hj
  exact X.iaload hx (by rw [eT]; exact Ar.1) (State.isArrayOf_alike hZ.alike Ar.2.1) Ar.2.2 hin (Has.at H hin hv) hg hs hd _ hr
end OwnArr
theorem own_13 {k : Int32} (h : 0 ≤ k.toInt ∧ k.toInt < 13) : k = (0 : Int32) ∨ k = (1 : Int32) ∨ k = (2 : Int32) ∨ k = (3 : Int32) ∨ k = (4 : Int32) ∨ k = (5 : Int32) ∨ k = (6 : Int32) ∨ k = (7 : Int32) ∨ k = (8 : Int32) ∨ k = (9 : Int32) ∨ k = (10 : Int32) ∨ k = (11 : Int32) ∨ k = (12 : Int32) := by
  have e : ∀ j : Int32, k.toInt = j.toInt → k = j := fun j q => Int32.toInt_inj.mp q
  have q : k.toInt = 0 ∨ k.toInt = 1 ∨ k.toInt = 2 ∨ k.toInt = 3 ∨ k.toInt = 4 ∨ k.toInt = 5 ∨ k.toInt = 6 ∨ k.toInt = 7 ∨ k.toInt = 8 ∨ k.toInt = 9 ∨ k.toInt = 10 ∨ k.toInt = 11 ∨ k.toInt = 12 := by omega
  rcases q with q | q | q | q | q | q | q | q | q | q | q | q | q
  · exact Or.inl (e 0 q)
  · exact Or.inr (Or.inl (e 1 q))
  · exact Or.inr (Or.inr (Or.inl (e 2 q)))
  · exact Or.inr (Or.inr (Or.inr (Or.inl (e 3 q))))
  · exact Or.inr (Or.inr (Or.inr (Or.inr (Or.inl (e 4 q)))))
  · exact Or.inr (Or.inr (Or.inr (Or.inr (Or.inr (Or.inl (e 5 q))))))
  · exact Or.inr (Or.inr (Or.inr (Or.inr (Or.inr (Or.inr (Or.inl (e 6 q)))))))
  · exact Or.inr (Or.inr (Or.inr (Or.inr (Or.inr (Or.inr (Or.inr (Or.inl (e 7 q))))))))
  · exact Or.inr (Or.inr (Or.inr (Or.inr (Or.inr (Or.inr (Or.inr (Or.inr (Or.inl (e 8 q)))))))))
  · exact Or.inr (Or.inr (Or.inr (Or.inr (Or.inr (Or.inr (Or.inr (Or.inr (Or.inr (Or.inl (e 9 q))))))))))
  · exact Or.inr (Or.inr (Or.inr (Or.inr (Or.inr (Or.inr (Or.inr (Or.inr (Or.inr (Or.inr (Or.inl (e 10 q)))))))))))
  · exact Or.inr (Or.inr (Or.inr (Or.inr (Or.inr (Or.inr (Or.inr (Or.inr (Or.inr (Or.inr (Or.inr (Or.inl (e 11 q))))))))))))
  · exact Or.inr (Or.inr (Or.inr (Or.inr (Or.inr (Or.inr (Or.inr (Or.inr (Or.inr (Or.inr (Or.inr (Or.inr (e 12 q))))))))))))
def own_lo (k : Int32) : Int32 := (if k = (0 : Int32) then (3 : Int32) else (if k = (1 : Int32) then (4 : Int32) else (if k = (2 : Int32) then (1 : Int32) else (if k = (3 : Int32) then (0 : Int32) else (if k = (4 : Int32) then (2 : Int32) else (if k = (5 : Int32) then (1 : Int32) else (if k = (6 : Int32) then (0 : Int32) else (if k = (7 : Int32) then (0 : Int32) else (if k = (8 : Int32) then (0 : Int32) else (if k = (9 : Int32) then (0 : Int32) else (if k = (10 : Int32) then (0 : Int32) else (if k = (11 : Int32) then (0 : Int32) else (0 : Int32)))))))))))))
theorem own_getlo {k : Int32} (h : 0 ≤ k.toInt ∧ k.toInt < 13) : ([(.int (3 : Int32)), (.int (4 : Int32)), (.int (1 : Int32)), (.int (0 : Int32)), (.int (2 : Int32)), (.int (1 : Int32)), (.int (0 : Int32)), (.int (0 : Int32)), (.int (0 : Int32)), (.int (0 : Int32)), (.int (0 : Int32)), (.int (0 : Int32)), (.int (0 : Int32))] : List Value).getD k.toNatClampNeg (.int (0 : Int32)) = .int (own_lo k) := by
  rcases own_13 h with rfl | rfl | rfl | rfl | rfl | rfl | rfl | rfl | rfl | rfl | rfl | rfl | rfl <;> rfl
def own_hi (k : Int32) : Int32 := (if k = (0 : Int32) then (3 : Int32) else (if k = (1 : Int32) then (4 : Int32) else (if k = (2 : Int32) then (1 : Int32) else (if k = (3 : Int32) then (4 : Int32) else (if k = (4 : Int32) then (2 : Int32) else (if k = (5 : Int32) then (1 : Int32) else (if k = (6 : Int32) then (0 : Int32) else (if k = (7 : Int32) then (2 : Int32) else (if k = (8 : Int32) then (1 : Int32) else (if k = (9 : Int32) then (1 : Int32) else (if k = (10 : Int32) then (1 : Int32) else (if k = (11 : Int32) then (0 : Int32) else (1 : Int32)))))))))))))
theorem own_gethi {k : Int32} (h : 0 ≤ k.toInt ∧ k.toInt < 13) : ([(.int (3 : Int32)), (.int (4 : Int32)), (.int (1 : Int32)), (.int (4 : Int32)), (.int (2 : Int32)), (.int (1 : Int32)), (.int (0 : Int32)), (.int (2 : Int32)), (.int (1 : Int32)), (.int (1 : Int32)), (.int (1 : Int32)), (.int (0 : Int32)), (.int (1 : Int32))] : List Value).getD k.toNatClampNeg (.int (0 : Int32)) = .int (own_hi k) := by
  rcases own_13 h with rfl | rfl | rfl | rfl | rfl | rfl | rfl | rfl | rfl | rfl | rfl | rfl | rfl <;> rfl
theorem own_in {k n : Int32} {D : Int} (h : 0 ≤ k.toInt ∧ k.toInt < D) (hn : n.toInt = D) : ¬ k < (0 : Int32) ∧ k < n := by
  rw [Int32.lt_iff_toInt_lt, Int32.lt_iff_toInt_lt, hn]
  exact ⟨by show ¬ k.toInt < 0; omega, h.2⟩

theorem pd_0 : parseMethodDescriptor "(I)Lledgerline/node/Api;" = some ⟨[.int], some (.object "ledgerline/node/Api")⟩ := by decide +kernel
theorem pd_1 : parseMethodDescriptor "(S)Z" = some ⟨[.short], some .boolean⟩ := by decide +kernel
theorem d2_0 : decode method_3_code 0 = .ok (.iload_n 0, 1) := by decide +kernel
theorem d2_1 : decode method_3_code 1 = .ok (.ifCond .ne 7, 3) := by decide +kernel
theorem d2_4 : decode method_3_code 4 = .ok (.getstatic 20, 3) := by decide +kernel
theorem d2_7 : decode method_3_code 7 = .ok (.areturn, 1) := by decide +kernel
theorem d2_8 : decode method_3_code 8 = .ok (.iload_n 0, 1) := by decide +kernel
theorem d2_9 : decode method_3_code 9 = .ok (.iconst 1, 1) := by decide +kernel
theorem d2_10 : decode method_3_code 10 = .ok (.if_icmp .ne 7, 3) := by decide +kernel
theorem d2_13 : decode method_3_code 13 = .ok (.getstatic 24, 3) := by decide +kernel
theorem d2_16 : decode method_3_code 16 = .ok (.areturn, 1) := by decide +kernel
theorem d2_17 : decode method_3_code 17 = .ok (.iload_n 0, 1) := by decide +kernel
theorem d2_18 : decode method_3_code 18 = .ok (.iconst 2, 1) := by decide +kernel
theorem d2_19 : decode method_3_code 19 = .ok (.if_icmp .ne 7, 3) := by decide +kernel
theorem d2_22 : decode method_3_code 22 = .ok (.getstatic 27, 3) := by decide +kernel
theorem d2_25 : decode method_3_code 25 = .ok (.areturn, 1) := by decide +kernel
theorem d2_26 : decode method_3_code 26 = .ok (.iload_n 0, 1) := by decide +kernel
theorem d2_27 : decode method_3_code 27 = .ok (.iconst 3, 1) := by decide +kernel
theorem d2_28 : decode method_3_code 28 = .ok (.if_icmp .ne 7, 3) := by decide +kernel
theorem d2_31 : decode method_3_code 31 = .ok (.getstatic 30, 3) := by decide +kernel
theorem d2_34 : decode method_3_code 34 = .ok (.areturn, 1) := by decide +kernel
theorem d2_35 : decode method_3_code 35 = .ok (.iload_n 0, 1) := by decide +kernel
theorem d2_36 : decode method_3_code 36 = .ok (.iconst 4, 1) := by decide +kernel
theorem d2_37 : decode method_3_code 37 = .ok (.if_icmp .ne 7, 3) := by decide +kernel
theorem d2_40 : decode method_3_code 40 = .ok (.getstatic 33, 3) := by decide +kernel
theorem d2_43 : decode method_3_code 43 = .ok (.areturn, 1) := by decide +kernel
theorem d2_44 : decode method_3_code 44 = .ok (.iload_n 0, 1) := by decide +kernel
theorem d2_45 : decode method_3_code 45 = .ok (.iconst 5, 1) := by decide +kernel
theorem d2_46 : decode method_3_code 46 = .ok (.if_icmp .ne 7, 3) := by decide +kernel
theorem d2_49 : decode method_3_code 49 = .ok (.getstatic 36, 3) := by decide +kernel
theorem d2_52 : decode method_3_code 52 = .ok (.areturn, 1) := by decide +kernel
theorem d2_53 : decode method_3_code 53 = .ok (.iload_n 0, 1) := by decide +kernel
theorem d2_54 : decode method_3_code 54 = .ok (.bipush 6, 2) := by decide +kernel
theorem d2_56 : decode method_3_code 56 = .ok (.if_icmp .ne 7, 3) := by decide +kernel
theorem d2_59 : decode method_3_code 59 = .ok (.getstatic 39, 3) := by decide +kernel
theorem d2_62 : decode method_3_code 62 = .ok (.areturn, 1) := by decide +kernel
theorem d2_63 : decode method_3_code 63 = .ok (.iload_n 0, 1) := by decide +kernel
theorem d2_64 : decode method_3_code 64 = .ok (.bipush 7, 2) := by decide +kernel
theorem d2_66 : decode method_3_code 66 = .ok (.if_icmp .ne 7, 3) := by decide +kernel
theorem d2_69 : decode method_3_code 69 = .ok (.getstatic 42, 3) := by decide +kernel
theorem d2_72 : decode method_3_code 72 = .ok (.areturn, 1) := by decide +kernel
theorem d2_73 : decode method_3_code 73 = .ok (.iload_n 0, 1) := by decide +kernel
theorem d2_74 : decode method_3_code 74 = .ok (.bipush 8, 2) := by decide +kernel
theorem d2_76 : decode method_3_code 76 = .ok (.if_icmp .ne 7, 3) := by decide +kernel
theorem d2_79 : decode method_3_code 79 = .ok (.getstatic 45, 3) := by decide +kernel
theorem d2_82 : decode method_3_code 82 = .ok (.areturn, 1) := by decide +kernel
theorem d2_83 : decode method_3_code 83 = .ok (.iload_n 0, 1) := by decide +kernel
theorem d2_84 : decode method_3_code 84 = .ok (.bipush 9, 2) := by decide +kernel
theorem d2_86 : decode method_3_code 86 = .ok (.if_icmp .ne 7, 3) := by decide +kernel
theorem d2_89 : decode method_3_code 89 = .ok (.getstatic 48, 3) := by decide +kernel
theorem d2_92 : decode method_3_code 92 = .ok (.areturn, 1) := by decide +kernel
theorem d2_93 : decode method_3_code 93 = .ok (.iload_n 0, 1) := by decide +kernel
theorem d2_94 : decode method_3_code 94 = .ok (.bipush 10, 2) := by decide +kernel
theorem d2_96 : decode method_3_code 96 = .ok (.if_icmp .ne 7, 3) := by decide +kernel
theorem d2_99 : decode method_3_code 99 = .ok (.getstatic 51, 3) := by decide +kernel
theorem d2_102 : decode method_3_code 102 = .ok (.areturn, 1) := by decide +kernel
theorem d2_103 : decode method_3_code 103 = .ok (.iload_n 0, 1) := by decide +kernel
theorem d2_104 : decode method_3_code 104 = .ok (.bipush 11, 2) := by decide +kernel
theorem d2_106 : decode method_3_code 106 = .ok (.if_icmp .ne 7, 3) := by decide +kernel
theorem d2_109 : decode method_3_code 109 = .ok (.getstatic 54, 3) := by decide +kernel
theorem d2_112 : decode method_3_code 112 = .ok (.areturn, 1) := by decide +kernel
theorem d2_113 : decode method_3_code 113 = .ok (.getstatic 57, 3) := by decide +kernel
theorem d2_116 : decode method_3_code 116 = .ok (.areturn, 1) := by decide +kernel
theorem pn_2 : plainName "ledgerline/node/ApiServesPinLaw" = true := by first | (simp [plainName, overriddenIn]; done) | decide +kernel
theorem ef_2 (m : MethodId) (x0 : Int32) : entryFrame m #[(.int x0)] 1 = mkF m 0 #[.val (.int x0)] [] := by first | (simp [entryFrame, mkF, argsToLocals, Value.category]; done) | rfl
def Q2 (Z : State) (p1 : Int32) (w_PRODUCE : Addr) (w_FETCH : Addr) (w_LIST_OFFSETS : Addr) (w_METADATA : Addr) (w_OFFSET_COMMIT : Addr) (w_OFFSET_FETCH : Addr) (w_FIND_COORDINATOR : Addr) (w_JOIN_GROUP : Addr) (w_HEARTBEAT : Addr) (w_LEAVE_GROUP : Addr) (w_SYNC_GROUP : Addr) (w_API_VERSIONS : Addr) (w_INIT_PRODUCER_ID : Addr) (h0 : Heap) (n0 : Nat) (v : Option Value) (h : Heap) (L : List Loc) : Prop := ∃ b : Addr, v = some (.ref b) ∧ Fr n0 L ∧ h = h0 ∧ Exa Z h0 b "ledgerline/node/Api" ∧ Fld Z h0 b "ledgerline/node/Api" "minVersion" "S" (.int (own_lo p1)) ∧ Fld Z h0 b "ledgerline/node/Api" "maxVersion" "S" (.int (own_hi p1))
set_option maxRecDepth 65536 in
set_option maxHeartbeats 40000000 in
theorem rm2 (l : Launch) (Z : State) (a0 : Array Value) (hw : ∀ d ∈ tables_1, d.before a0 Z = true) (ws : List Jvm.Cond) (p1 : Int32) (w_PRODUCE : Addr) (w_FETCH : Addr) (w_LIST_OFFSETS : Addr) (w_METADATA : Addr) (w_OFFSET_COMMIT : Addr) (w_OFFSET_FETCH : Addr) (w_FIND_COORDINATOR : Addr) (w_JOIN_GROUP : Addr) (w_HEARTBEAT : Addr) (w_LEAVE_GROUP : Addr) (w_SYNC_GROUP : Addr) (w_API_VERSIONS : Addr) (w_INIT_PRODUCER_ID : Addr) (h0 : Heap) (n0 : Nat) (Z0 : n0 ≤ h0.size) (S_PRODUCE : Sta Z h0 "ledgerline/node/Api" "PRODUCE" "Lledgerline/node/Api;" (.ref w_PRODUCE)) (S_FETCH : Sta Z h0 "ledgerline/node/Api" "FETCH" "Lledgerline/node/Api;" (.ref w_FETCH)) (S_LIST_OFFSETS : Sta Z h0 "ledgerline/node/Api" "LIST_OFFSETS" "Lledgerline/node/Api;" (.ref w_LIST_OFFSETS)) (S_METADATA : Sta Z h0 "ledgerline/node/Api" "METADATA" "Lledgerline/node/Api;" (.ref w_METADATA)) (S_OFFSET_COMMIT : Sta Z h0 "ledgerline/node/Api" "OFFSET_COMMIT" "Lledgerline/node/Api;" (.ref w_OFFSET_COMMIT)) (S_OFFSET_FETCH : Sta Z h0 "ledgerline/node/Api" "OFFSET_FETCH" "Lledgerline/node/Api;" (.ref w_OFFSET_FETCH)) (S_FIND_COORDINATOR : Sta Z h0 "ledgerline/node/Api" "FIND_COORDINATOR" "Lledgerline/node/Api;" (.ref w_FIND_COORDINATOR)) (S_JOIN_GROUP : Sta Z h0 "ledgerline/node/Api" "JOIN_GROUP" "Lledgerline/node/Api;" (.ref w_JOIN_GROUP)) (S_HEARTBEAT : Sta Z h0 "ledgerline/node/Api" "HEARTBEAT" "Lledgerline/node/Api;" (.ref w_HEARTBEAT)) (S_LEAVE_GROUP : Sta Z h0 "ledgerline/node/Api" "LEAVE_GROUP" "Lledgerline/node/Api;" (.ref w_LEAVE_GROUP)) (S_SYNC_GROUP : Sta Z h0 "ledgerline/node/Api" "SYNC_GROUP" "Lledgerline/node/Api;" (.ref w_SYNC_GROUP)) (S_API_VERSIONS : Sta Z h0 "ledgerline/node/Api" "API_VERSIONS" "Lledgerline/node/Api;" (.ref w_API_VERSIONS)) (S_INIT_PRODUCER_ID : Sta Z h0 "ledgerline/node/Api" "INIT_PRODUCER_ID" "Lledgerline/node/Api;" (.ref w_INIT_PRODUCER_ID)) (E_PRODUCE : Exa Z h0 w_PRODUCE "ledgerline/node/Api") (E_FETCH : Exa Z h0 w_FETCH "ledgerline/node/Api") (E_LIST_OFFSETS : Exa Z h0 w_LIST_OFFSETS "ledgerline/node/Api") (E_METADATA : Exa Z h0 w_METADATA "ledgerline/node/Api") (E_OFFSET_COMMIT : Exa Z h0 w_OFFSET_COMMIT "ledgerline/node/Api") (E_OFFSET_FETCH : Exa Z h0 w_OFFSET_FETCH "ledgerline/node/Api") (E_FIND_COORDINATOR : Exa Z h0 w_FIND_COORDINATOR "ledgerline/node/Api") (E_JOIN_GROUP : Exa Z h0 w_JOIN_GROUP "ledgerline/node/Api") (E_HEARTBEAT : Exa Z h0 w_HEARTBEAT "ledgerline/node/Api") (E_LEAVE_GROUP : Exa Z h0 w_LEAVE_GROUP "ledgerline/node/Api") (E_SYNC_GROUP : Exa Z h0 w_SYNC_GROUP "ledgerline/node/Api") (E_API_VERSIONS : Exa Z h0 w_API_VERSIONS "ledgerline/node/Api") (E_INIT_PRODUCER_ID : Exa Z h0 w_INIT_PRODUCER_ID "ledgerline/node/Api") (A_PRODUCE : Fld Z h0 w_PRODUCE "ledgerline/node/Api" "minVersion" "S" (.int (3 : Int32))) (A_FETCH : Fld Z h0 w_FETCH "ledgerline/node/Api" "minVersion" "S" (.int (4 : Int32))) (A_LIST_OFFSETS : Fld Z h0 w_LIST_OFFSETS "ledgerline/node/Api" "minVersion" "S" (.int (1 : Int32))) (A_METADATA : Fld Z h0 w_METADATA "ledgerline/node/Api" "minVersion" "S" (.int (0 : Int32))) (A_OFFSET_COMMIT : Fld Z h0 w_OFFSET_COMMIT "ledgerline/node/Api" "minVersion" "S" (.int (2 : Int32))) (A_OFFSET_FETCH : Fld Z h0 w_OFFSET_FETCH "ledgerline/node/Api" "minVersion" "S" (.int (1 : Int32))) (A_FIND_COORDINATOR : Fld Z h0 w_FIND_COORDINATOR "ledgerline/node/Api" "minVersion" "S" (.int (0 : Int32))) (A_JOIN_GROUP : Fld Z h0 w_JOIN_GROUP "ledgerline/node/Api" "minVersion" "S" (.int (0 : Int32))) (A_HEARTBEAT : Fld Z h0 w_HEARTBEAT "ledgerline/node/Api" "minVersion" "S" (.int (0 : Int32))) (A_LEAVE_GROUP : Fld Z h0 w_LEAVE_GROUP "ledgerline/node/Api" "minVersion" "S" (.int (0 : Int32))) (A_SYNC_GROUP : Fld Z h0 w_SYNC_GROUP "ledgerline/node/Api" "minVersion" "S" (.int (0 : Int32))) (A_API_VERSIONS : Fld Z h0 w_API_VERSIONS "ledgerline/node/Api" "minVersion" "S" (.int (0 : Int32))) (A_INIT_PRODUCER_ID : Fld Z h0 w_INIT_PRODUCER_ID "ledgerline/node/Api" "minVersion" "S" (.int (0 : Int32))) (B_PRODUCE : Fld Z h0 w_PRODUCE "ledgerline/node/Api" "maxVersion" "S" (.int (3 : Int32))) (B_FETCH : Fld Z h0 w_FETCH "ledgerline/node/Api" "maxVersion" "S" (.int (4 : Int32))) (B_LIST_OFFSETS : Fld Z h0 w_LIST_OFFSETS "ledgerline/node/Api" "maxVersion" "S" (.int (1 : Int32))) (B_METADATA : Fld Z h0 w_METADATA "ledgerline/node/Api" "maxVersion" "S" (.int (4 : Int32))) (B_OFFSET_COMMIT : Fld Z h0 w_OFFSET_COMMIT "ledgerline/node/Api" "maxVersion" "S" (.int (2 : Int32))) (B_OFFSET_FETCH : Fld Z h0 w_OFFSET_FETCH "ledgerline/node/Api" "maxVersion" "S" (.int (1 : Int32))) (B_FIND_COORDINATOR : Fld Z h0 w_FIND_COORDINATOR "ledgerline/node/Api" "maxVersion" "S" (.int (0 : Int32))) (B_JOIN_GROUP : Fld Z h0 w_JOIN_GROUP "ledgerline/node/Api" "maxVersion" "S" (.int (2 : Int32))) (B_HEARTBEAT : Fld Z h0 w_HEARTBEAT "ledgerline/node/Api" "maxVersion" "S" (.int (1 : Int32))) (B_LEAVE_GROUP : Fld Z h0 w_LEAVE_GROUP "ledgerline/node/Api" "maxVersion" "S" (.int (1 : Int32))) (B_SYNC_GROUP : Fld Z h0 w_SYNC_GROUP "ledgerline/node/Api" "maxVersion" "S" (.int (1 : Int32))) (B_API_VERSIONS : Fld Z h0 w_API_VERSIONS "ledgerline/node/Api" "maxVersion" "S" (.int (0 : Int32))) (B_INIT_PRODUCER_ID : Fld Z h0 w_INIT_PRODUCER_ID "ledgerline/node/Api" "maxVersion" "S" (.int (1 : Int32))) :
    MetFree l (⟨"ledgerline/node/ApiServesPinLaw", "pick", "(I)Lledgerline/node/Api;"⟩ : MethodName) (head1 (Jvm.Cond.code (⟨"ledgerline/node/ApiServesPinLaw", "pick", "(I)Lledgerline/node/Api;"⟩ : MethodName) method_3_code 1 (some (.object "ledgerline/node/Api")) :: ws) ({ frames := 0, cells := 0, slots := 0, locals := 0 } : Room)) (fun a U => a = #[(.int p1)] ∧ Z.Warmed39 U.vm ∧ U.heap = h0) (fun _ _ _ _ _ => True) (fun _ U o U' => ∃ v L, o = .returned v ∧ Q2 Z p1 w_PRODUCE w_FETCH w_LIST_OFFSETS w_METADATA w_OFFSET_COMMIT w_OFFSET_FETCH w_FIND_COORDINATOR w_JOIN_GROUP w_HEARTBEAT w_LEAVE_GROUP w_SYNC_GROUP w_API_VERSIONS w_INIT_PRODUCER_ID h0 n0 v U'.heap L ∧ FrameEnd U o U' L ({ frames := 0, cells := 0, slots := 0, locals := 0 } : Room).cells ({ frames := 0, cells := 0, slots := 0, locals := 0 } : Room).slots) := by
  refine MetFree.of_bodySF (plainFor_of_name pn_2) hisR ?_
  intro p e s m args below meth c s₁ Bd hml0 hP hK
  obtain ⟨rfl, hZ, hh⟩ := hP
  have hx := Bd.exec
  have hby := Bd.bytes
  have hml : c.maxLocals = 1 := hml0
  have hown : s.vm.findClass "ledgerline/node/ApiServesPinLaw" = some m.cls := findClass_of_methodNamed Bd.named
  have hnm := (name_of_methodNamed Bd.named Bd.method).1
  have X0 : Stand p l e ({ frames := 0, cells := 0, slots := 0, locals := 0 } : Room) s m #[(.int p1)] below meth c s₁ [] 0 0 := Stand.of_body Bd
  have e0 : s₁.heap = h0 := by rw [← hh, Bd.state]; rfl
  have N0 := Fr.nil n0
  have K0 : Keep h0 h0 [] := Keep.refl _ _
  have P0 : ∀ t, Steps p.tables e below (s₁.setTop (mkF m 0 #[.val (.int p1)] [])) t → Steps p.tables e below (s₁.setTop (entryFrame m #[(.int p1)] 1)) t := fun t k => castTop (ef_2 m p1) k
  have P1 : ∀ t, Steps p.tables e below (s₁.setTop (mkF m 1 #[.val (.int p1)] [(.int p1)])) t → Steps p.tables e below (s₁.setTop (entryFrame m #[(.int p1)] 1)) t := by
    intro t k
    refine P0 _ ?_
    refine XS.iloadN X0.here hx rfl (hb hby d2_0) rfl ?_
    show Steps p.tables e below (s₁.setTop (mkF m 1 #[.val (.int p1)] [(.int p1)])) _
    exact k
  by_cases c1 : p1 = (0 : Int32)
  · have P2 : ∀ t, Steps p.tables e below (s₁.setTop (mkF m 4 #[.val (.int p1)] [])) t → Steps p.tables e below (s₁.setTop (entryFrame m #[(.int p1)] 1)) t := by
      intro t k
      refine P1 _ ?_
      refine XS.ifNo X0.here hx rfl (hb hby d2_1) rfl (XT.i0_ne_f c1) ?_
      show Steps p.tables e below (s₁.setTop (mkF m 4 #[.val (.int p1)] [])) _
      exact k
    obtain ⟨T3, X3, e3, st3⟩ := getS2 X0 hx hZ hown (host := "") (Or.inl (hw _ (List.mem_of_getElem? (i := 6) rfl))) Via.refl e0 S_PRODUCE (g := (mkF m 4 #[.val (.int p1)] [])) rfl (hb hby d2_4)
    have P4 : ∀ t, Steps p.tables e below (T3.setTop (mkF m 7 #[.val (.int p1)] [(.ref w_PRODUCE)])) t → Steps p.tables e below (s₁.setTop (entryFrame m #[(.int p1)] 1)) t := fun t k => P2 _ (st3 _ k)
    obtain ⟨fs, hr, hrun, hended, hW, hsame⟩ := X3.leave (v := some (.ref w_PRODUCE)) (fun h => by rw [Bd.returns] at h; cases h)
    refine ⟨_, _, P4 _ ?_, hrun, hended, _, _, rfl, ?_, ⟨_, rfl⟩, hW, hsame.mono (by decide) (by decide)⟩
    · jvm_step X3.here [X3.here.top, hx, (hb hby d2_7), X3.method', Bd.returns, Value.isRef, FieldType.isReference]
      first | (intro acts; rw [hr _ acts rfl rfl rfl]) | rw [hr _ _ rfl rfl rfl]
      exact Steps.refl _
    · show Q2 Z p1 w_PRODUCE w_FETCH w_LIST_OFFSETS w_METADATA w_OFFSET_COMMIT w_OFFSET_FETCH w_FIND_COORDINATOR w_JOIN_GROUP w_HEARTBEAT w_LEAVE_GROUP w_SYNC_GROUP w_API_VERSIONS w_INIT_PRODUCER_ID h0 n0 _ T3.heap _
      rw [e3]
      refine ⟨w_PRODUCE, rfl, N0, rfl, E_PRODUCE, ?_, ?_⟩
      · unfold own_lo; rw [if_pos c1]; exact A_PRODUCE
      · unfold own_hi; rw [if_pos c1]; exact B_PRODUCE
  · have P5 : ∀ t, Steps p.tables e below (s₁.setTop (mkF m 10 #[.val (.int p1)] [(.int (1 : Int32)), (.int p1)])) t → Steps p.tables e below (s₁.setTop (entryFrame m #[(.int p1)] 1)) t := by
      intro t k
      refine P1 _ ?_
      refine XS.ifYes X0.here hx rfl (pc0 := 1) (pc' := 8) rfl (hb hby d2_1) rfl (XT.i0_ne_t c1) (by decide) (by decide) ?_
      show Steps p.tables e below (s₁.setTop (mkF m 8 #[.val (.int p1)] [])) _
      refine XS.iloadN X0.here hx rfl (hb hby d2_8) rfl ?_
      show Steps p.tables e below (s₁.setTop (mkF m 9 #[.val (.int p1)] [(.int p1)])) _
      refine XS.iconst X0.here hx rfl (hb hby d2_9) ?_
      show Steps p.tables e below (s₁.setTop (mkF m 10 #[.val (.int p1)] [(.int (1 : Int32)), (.int p1)])) _
      exact k
    by_cases c10 : p1 = (1 : Int32)
    · have P6 : ∀ t, Steps p.tables e below (s₁.setTop (mkF m 13 #[.val (.int p1)] [])) t → Steps p.tables e below (s₁.setTop (entryFrame m #[(.int p1)] 1)) t := by
        intro t k
        refine P5 _ ?_
        refine XS.icmpNo X0.here hx rfl (hb hby d2_10) rfl (XT.ii_ne_f c10) ?_
        show Steps p.tables e below (s₁.setTop (mkF m 13 #[.val (.int p1)] [])) _
        exact k
      obtain ⟨T7, X7, e7, st7⟩ := getS2 X0 hx hZ hown (host := "") (Or.inl (hw _ (List.mem_of_getElem? (i := 18) rfl))) Via.refl e0 S_FETCH (g := (mkF m 13 #[.val (.int p1)] [])) rfl (hb hby d2_13)
      have P8 : ∀ t, Steps p.tables e below (T7.setTop (mkF m 16 #[.val (.int p1)] [(.ref w_FETCH)])) t → Steps p.tables e below (s₁.setTop (entryFrame m #[(.int p1)] 1)) t := fun t k => P6 _ (st7 _ k)
      obtain ⟨fs, hr, hrun, hended, hW, hsame⟩ := X7.leave (v := some (.ref w_FETCH)) (fun h => by rw [Bd.returns] at h; cases h)
      refine ⟨_, _, P8 _ ?_, hrun, hended, _, _, rfl, ?_, ⟨_, rfl⟩, hW, hsame.mono (by decide) (by decide)⟩
      · jvm_step X7.here [X7.here.top, hx, (hb hby d2_16), X7.method', Bd.returns, Value.isRef, FieldType.isReference]
        first | (intro acts; rw [hr _ acts rfl rfl rfl]) | rw [hr _ _ rfl rfl rfl]
        exact Steps.refl _
      · show Q2 Z p1 w_PRODUCE w_FETCH w_LIST_OFFSETS w_METADATA w_OFFSET_COMMIT w_OFFSET_FETCH w_FIND_COORDINATOR w_JOIN_GROUP w_HEARTBEAT w_LEAVE_GROUP w_SYNC_GROUP w_API_VERSIONS w_INIT_PRODUCER_ID h0 n0 _ T7.heap _
        rw [e7]
        refine ⟨w_FETCH, rfl, N0, rfl, E_FETCH, ?_, ?_⟩
        · unfold own_lo; rw [if_neg c1, if_pos c10]; exact A_FETCH
        · unfold own_hi; rw [if_neg c1, if_pos c10]; exact B_FETCH
    · have P9 : ∀ t, Steps p.tables e below (s₁.setTop (mkF m 19 #[.val (.int p1)] [(.int (2 : Int32)), (.int p1)])) t → Steps p.tables e below (s₁.setTop (entryFrame m #[(.int p1)] 1)) t := by
        intro t k
        refine P5 _ ?_
        refine XS.icmpYes X0.here hx rfl (pc0 := 10) (pc' := 17) rfl (hb hby d2_10) rfl (XT.ii_ne_t c10) (by decide) (by decide) ?_
        show Steps p.tables e below (s₁.setTop (mkF m 17 #[.val (.int p1)] [])) _
        refine XS.iloadN X0.here hx rfl (hb hby d2_17) rfl ?_
        show Steps p.tables e below (s₁.setTop (mkF m 18 #[.val (.int p1)] [(.int p1)])) _
        refine XS.iconst X0.here hx rfl (hb hby d2_18) ?_
        show Steps p.tables e below (s₁.setTop (mkF m 19 #[.val (.int p1)] [(.int (2 : Int32)), (.int p1)])) _
        exact k
      by_cases c19 : p1 = (2 : Int32)
      · have P10 : ∀ t, Steps p.tables e below (s₁.setTop (mkF m 22 #[.val (.int p1)] [])) t → Steps p.tables e below (s₁.setTop (entryFrame m #[(.int p1)] 1)) t := by
          intro t k
          refine P9 _ ?_
          refine XS.icmpNo X0.here hx rfl (hb hby d2_19) rfl (XT.ii_ne_f c19) ?_
          show Steps p.tables e below (s₁.setTop (mkF m 22 #[.val (.int p1)] [])) _
          exact k
        obtain ⟨T11, X11, e11, st11⟩ := getS2 X0 hx hZ hown (host := "") (Or.inl (hw _ (List.mem_of_getElem? (i := 34) rfl))) Via.refl e0 S_LIST_OFFSETS (g := (mkF m 22 #[.val (.int p1)] [])) rfl (hb hby d2_22)
        have P12 : ∀ t, Steps p.tables e below (T11.setTop (mkF m 25 #[.val (.int p1)] [(.ref w_LIST_OFFSETS)])) t → Steps p.tables e below (s₁.setTop (entryFrame m #[(.int p1)] 1)) t := fun t k => P10 _ (st11 _ k)
        obtain ⟨fs, hr, hrun, hended, hW, hsame⟩ := X11.leave (v := some (.ref w_LIST_OFFSETS)) (fun h => by rw [Bd.returns] at h; cases h)
        refine ⟨_, _, P12 _ ?_, hrun, hended, _, _, rfl, ?_, ⟨_, rfl⟩, hW, hsame.mono (by decide) (by decide)⟩
        · jvm_step X11.here [X11.here.top, hx, (hb hby d2_25), X11.method', Bd.returns, Value.isRef, FieldType.isReference]
          first | (intro acts; rw [hr _ acts rfl rfl rfl]) | rw [hr _ _ rfl rfl rfl]
          exact Steps.refl _
        · show Q2 Z p1 w_PRODUCE w_FETCH w_LIST_OFFSETS w_METADATA w_OFFSET_COMMIT w_OFFSET_FETCH w_FIND_COORDINATOR w_JOIN_GROUP w_HEARTBEAT w_LEAVE_GROUP w_SYNC_GROUP w_API_VERSIONS w_INIT_PRODUCER_ID h0 n0 _ T11.heap _
          rw [e11]
          refine ⟨w_LIST_OFFSETS, rfl, N0, rfl, E_LIST_OFFSETS, ?_, ?_⟩
          · unfold own_lo; rw [if_neg c1, if_neg c10, if_pos c19]; exact A_LIST_OFFSETS
          · unfold own_hi; rw [if_neg c1, if_neg c10, if_pos c19]; exact B_LIST_OFFSETS
      · have P13 : ∀ t, Steps p.tables e below (s₁.setTop (mkF m 28 #[.val (.int p1)] [(.int (3 : Int32)), (.int p1)])) t → Steps p.tables e below (s₁.setTop (entryFrame m #[(.int p1)] 1)) t := by
          intro t k
          refine P9 _ ?_
          refine XS.icmpYes X0.here hx rfl (pc0 := 19) (pc' := 26) rfl (hb hby d2_19) rfl (XT.ii_ne_t c19) (by decide) (by decide) ?_
          show Steps p.tables e below (s₁.setTop (mkF m 26 #[.val (.int p1)] [])) _
          refine XS.iloadN X0.here hx rfl (hb hby d2_26) rfl ?_
          show Steps p.tables e below (s₁.setTop (mkF m 27 #[.val (.int p1)] [(.int p1)])) _
          refine XS.iconst X0.here hx rfl (hb hby d2_27) ?_
          show Steps p.tables e below (s₁.setTop (mkF m 28 #[.val (.int p1)] [(.int (3 : Int32)), (.int p1)])) _
          exact k
        by_cases c28 : p1 = (3 : Int32)
        · have P14 : ∀ t, Steps p.tables e below (s₁.setTop (mkF m 31 #[.val (.int p1)] [])) t → Steps p.tables e below (s₁.setTop (entryFrame m #[(.int p1)] 1)) t := by
            intro t k
            refine P13 _ ?_
            refine XS.icmpNo X0.here hx rfl (hb hby d2_28) rfl (XT.ii_ne_f c28) ?_
            show Steps p.tables e below (s₁.setTop (mkF m 31 #[.val (.int p1)] [])) _
            exact k
          obtain ⟨T15, X15, e15, st15⟩ := getS2 X0 hx hZ hown (host := "") (Or.inl (hw _ (List.mem_of_getElem? (i := 22) rfl))) Via.refl e0 S_METADATA (g := (mkF m 31 #[.val (.int p1)] [])) rfl (hb hby d2_31)
          have P16 : ∀ t, Steps p.tables e below (T15.setTop (mkF m 34 #[.val (.int p1)] [(.ref w_METADATA)])) t → Steps p.tables e below (s₁.setTop (entryFrame m #[(.int p1)] 1)) t := fun t k => P14 _ (st15 _ k)
          obtain ⟨fs, hr, hrun, hended, hW, hsame⟩ := X15.leave (v := some (.ref w_METADATA)) (fun h => by rw [Bd.returns] at h; cases h)
          refine ⟨_, _, P16 _ ?_, hrun, hended, _, _, rfl, ?_, ⟨_, rfl⟩, hW, hsame.mono (by decide) (by decide)⟩
          · jvm_step X15.here [X15.here.top, hx, (hb hby d2_34), X15.method', Bd.returns, Value.isRef, FieldType.isReference]
            first | (intro acts; rw [hr _ acts rfl rfl rfl]) | rw [hr _ _ rfl rfl rfl]
            exact Steps.refl _
          · show Q2 Z p1 w_PRODUCE w_FETCH w_LIST_OFFSETS w_METADATA w_OFFSET_COMMIT w_OFFSET_FETCH w_FIND_COORDINATOR w_JOIN_GROUP w_HEARTBEAT w_LEAVE_GROUP w_SYNC_GROUP w_API_VERSIONS w_INIT_PRODUCER_ID h0 n0 _ T15.heap _
            rw [e15]
            refine ⟨w_METADATA, rfl, N0, rfl, E_METADATA, ?_, ?_⟩
            · unfold own_lo; rw [if_neg c1, if_neg c10, if_neg c19, if_pos c28]; exact A_METADATA
            · unfold own_hi; rw [if_neg c1, if_neg c10, if_neg c19, if_pos c28]; exact B_METADATA
        · have P17 : ∀ t, Steps p.tables e below (s₁.setTop (mkF m 37 #[.val (.int p1)] [(.int (4 : Int32)), (.int p1)])) t → Steps p.tables e below (s₁.setTop (entryFrame m #[(.int p1)] 1)) t := by
            intro t k
            refine P13 _ ?_
            refine XS.icmpYes X0.here hx rfl (pc0 := 28) (pc' := 35) rfl (hb hby d2_28) rfl (XT.ii_ne_t c28) (by decide) (by decide) ?_
            show Steps p.tables e below (s₁.setTop (mkF m 35 #[.val (.int p1)] [])) _
            refine XS.iloadN X0.here hx rfl (hb hby d2_35) rfl ?_
            show Steps p.tables e below (s₁.setTop (mkF m 36 #[.val (.int p1)] [(.int p1)])) _
            refine XS.iconst X0.here hx rfl (hb hby d2_36) ?_
            show Steps p.tables e below (s₁.setTop (mkF m 37 #[.val (.int p1)] [(.int (4 : Int32)), (.int p1)])) _
            exact k
          by_cases c37 : p1 = (4 : Int32)
          · have P18 : ∀ t, Steps p.tables e below (s₁.setTop (mkF m 40 #[.val (.int p1)] [])) t → Steps p.tables e below (s₁.setTop (entryFrame m #[(.int p1)] 1)) t := by
              intro t k
              refine P17 _ ?_
              refine XS.icmpNo X0.here hx rfl (hb hby d2_37) rfl (XT.ii_ne_f c37) ?_
              show Steps p.tables e below (s₁.setTop (mkF m 40 #[.val (.int p1)] [])) _
              exact k
            obtain ⟨T19, X19, e19, st19⟩ := getS2 X0 hx hZ hown (host := "") (Or.inl (hw _ (List.mem_of_getElem? (i := 20) rfl))) Via.refl e0 S_OFFSET_COMMIT (g := (mkF m 40 #[.val (.int p1)] [])) rfl (hb hby d2_40)
            have P20 : ∀ t, Steps p.tables e below (T19.setTop (mkF m 43 #[.val (.int p1)] [(.ref w_OFFSET_COMMIT)])) t → Steps p.tables e below (s₁.setTop (entryFrame m #[(.int p1)] 1)) t := fun t k => P18 _ (st19 _ k)
            obtain ⟨fs, hr, hrun, hended, hW, hsame⟩ := X19.leave (v := some (.ref w_OFFSET_COMMIT)) (fun h => by rw [Bd.returns] at h; cases h)
            refine ⟨_, _, P20 _ ?_, hrun, hended, _, _, rfl, ?_, ⟨_, rfl⟩, hW, hsame.mono (by decide) (by decide)⟩
            · jvm_step X19.here [X19.here.top, hx, (hb hby d2_43), X19.method', Bd.returns, Value.isRef, FieldType.isReference]
              first | (intro acts; rw [hr _ acts rfl rfl rfl]) | rw [hr _ _ rfl rfl rfl]
              exact Steps.refl _
            · show Q2 Z p1 w_PRODUCE w_FETCH w_LIST_OFFSETS w_METADATA w_OFFSET_COMMIT w_OFFSET_FETCH w_FIND_COORDINATOR w_JOIN_GROUP w_HEARTBEAT w_LEAVE_GROUP w_SYNC_GROUP w_API_VERSIONS w_INIT_PRODUCER_ID h0 n0 _ T19.heap _
              rw [e19]
              refine ⟨w_OFFSET_COMMIT, rfl, N0, rfl, E_OFFSET_COMMIT, ?_, ?_⟩
              · unfold own_lo; rw [if_neg c1, if_neg c10, if_neg c19, if_neg c28, if_pos c37]; exact A_OFFSET_COMMIT
              · unfold own_hi; rw [if_neg c1, if_neg c10, if_neg c19, if_neg c28, if_pos c37]; exact B_OFFSET_COMMIT
          · have P21 : ∀ t, Steps p.tables e below (s₁.setTop (mkF m 46 #[.val (.int p1)] [(.int (5 : Int32)), (.int p1)])) t → Steps p.tables e below (s₁.setTop (entryFrame m #[(.int p1)] 1)) t := by
              intro t k
              refine P17 _ ?_
              refine XS.icmpYes X0.here hx rfl (pc0 := 37) (pc' := 44) rfl (hb hby d2_37) rfl (XT.ii_ne_t c37) (by decide) (by decide) ?_
              show Steps p.tables e below (s₁.setTop (mkF m 44 #[.val (.int p1)] [])) _
              refine XS.iloadN X0.here hx rfl (hb hby d2_44) rfl ?_
              show Steps p.tables e below (s₁.setTop (mkF m 45 #[.val (.int p1)] [(.int p1)])) _
              refine XS.iconst X0.here hx rfl (hb hby d2_45) ?_
              show Steps p.tables e below (s₁.setTop (mkF m 46 #[.val (.int p1)] [(.int (5 : Int32)), (.int p1)])) _
              exact k
            by_cases c46 : p1 = (5 : Int32)
            · have P22 : ∀ t, Steps p.tables e below (s₁.setTop (mkF m 49 #[.val (.int p1)] [])) t → Steps p.tables e below (s₁.setTop (entryFrame m #[(.int p1)] 1)) t := by
                intro t k
                refine P21 _ ?_
                refine XS.icmpNo X0.here hx rfl (hb hby d2_46) rfl (XT.ii_ne_f c46) ?_
                show Steps p.tables e below (s₁.setTop (mkF m 49 #[.val (.int p1)] [])) _
                exact k
              obtain ⟨T23, X23, e23, st23⟩ := getS2 X0 hx hZ hown (host := "") (Or.inl (hw _ (List.mem_of_getElem? (i := 26) rfl))) Via.refl e0 S_OFFSET_FETCH (g := (mkF m 49 #[.val (.int p1)] [])) rfl (hb hby d2_49)
              have P24 : ∀ t, Steps p.tables e below (T23.setTop (mkF m 52 #[.val (.int p1)] [(.ref w_OFFSET_FETCH)])) t → Steps p.tables e below (s₁.setTop (entryFrame m #[(.int p1)] 1)) t := fun t k => P22 _ (st23 _ k)
              obtain ⟨fs, hr, hrun, hended, hW, hsame⟩ := X23.leave (v := some (.ref w_OFFSET_FETCH)) (fun h => by rw [Bd.returns] at h; cases h)
              refine ⟨_, _, P24 _ ?_, hrun, hended, _, _, rfl, ?_, ⟨_, rfl⟩, hW, hsame.mono (by decide) (by decide)⟩
              · jvm_step X23.here [X23.here.top, hx, (hb hby d2_52), X23.method', Bd.returns, Value.isRef, FieldType.isReference]
                first | (intro acts; rw [hr _ acts rfl rfl rfl]) | rw [hr _ _ rfl rfl rfl]
                exact Steps.refl _
              · show Q2 Z p1 w_PRODUCE w_FETCH w_LIST_OFFSETS w_METADATA w_OFFSET_COMMIT w_OFFSET_FETCH w_FIND_COORDINATOR w_JOIN_GROUP w_HEARTBEAT w_LEAVE_GROUP w_SYNC_GROUP w_API_VERSIONS w_INIT_PRODUCER_ID h0 n0 _ T23.heap _
                rw [e23]
                refine ⟨w_OFFSET_FETCH, rfl, N0, rfl, E_OFFSET_FETCH, ?_, ?_⟩
                · unfold own_lo; rw [if_neg c1, if_neg c10, if_neg c19, if_neg c28, if_neg c37, if_pos c46]; exact A_OFFSET_FETCH
                · unfold own_hi; rw [if_neg c1, if_neg c10, if_neg c19, if_neg c28, if_neg c37, if_pos c46]; exact B_OFFSET_FETCH
            · have P25 : ∀ t, Steps p.tables e below (s₁.setTop (mkF m 56 #[.val (.int p1)] [(.int (6 : Int32)), (.int p1)])) t → Steps p.tables e below (s₁.setTop (entryFrame m #[(.int p1)] 1)) t := by
                intro t k
                refine P21 _ ?_
                refine XS.icmpYes X0.here hx rfl (pc0 := 46) (pc' := 53) rfl (hb hby d2_46) rfl (XT.ii_ne_t c46) (by decide) (by decide) ?_
                show Steps p.tables e below (s₁.setTop (mkF m 53 #[.val (.int p1)] [])) _
                refine XS.iloadN X0.here hx rfl (hb hby d2_53) rfl ?_
                show Steps p.tables e below (s₁.setTop (mkF m 54 #[.val (.int p1)] [(.int p1)])) _
                refine XS.bipush X0.here hx rfl (hb hby d2_54) ?_
                show Steps p.tables e below (s₁.setTop (mkF m 56 #[.val (.int p1)] [(.int (6 : Int32)), (.int p1)])) _
                exact k
              by_cases c56 : p1 = (6 : Int32)
              · have P26 : ∀ t, Steps p.tables e below (s₁.setTop (mkF m 59 #[.val (.int p1)] [])) t → Steps p.tables e below (s₁.setTop (entryFrame m #[(.int p1)] 1)) t := by
                  intro t k
                  refine P25 _ ?_
                  refine XS.icmpNo X0.here hx rfl (hb hby d2_56) rfl (XT.ii_ne_f c56) ?_
                  show Steps p.tables e below (s₁.setTop (mkF m 59 #[.val (.int p1)] [])) _
                  exact k
                obtain ⟨T27, X27, e27, st27⟩ := getS2 X0 hx hZ hown (host := "") (Or.inl (hw _ (List.mem_of_getElem? (i := 28) rfl))) Via.refl e0 S_FIND_COORDINATOR (g := (mkF m 59 #[.val (.int p1)] [])) rfl (hb hby d2_59)
                have P28 : ∀ t, Steps p.tables e below (T27.setTop (mkF m 62 #[.val (.int p1)] [(.ref w_FIND_COORDINATOR)])) t → Steps p.tables e below (s₁.setTop (entryFrame m #[(.int p1)] 1)) t := fun t k => P26 _ (st27 _ k)
                obtain ⟨fs, hr, hrun, hended, hW, hsame⟩ := X27.leave (v := some (.ref w_FIND_COORDINATOR)) (fun h => by rw [Bd.returns] at h; cases h)
                refine ⟨_, _, P28 _ ?_, hrun, hended, _, _, rfl, ?_, ⟨_, rfl⟩, hW, hsame.mono (by decide) (by decide)⟩
                · jvm_step X27.here [X27.here.top, hx, (hb hby d2_62), X27.method', Bd.returns, Value.isRef, FieldType.isReference]
                  first | (intro acts; rw [hr _ acts rfl rfl rfl]) | rw [hr _ _ rfl rfl rfl]
                  exact Steps.refl _
                · show Q2 Z p1 w_PRODUCE w_FETCH w_LIST_OFFSETS w_METADATA w_OFFSET_COMMIT w_OFFSET_FETCH w_FIND_COORDINATOR w_JOIN_GROUP w_HEARTBEAT w_LEAVE_GROUP w_SYNC_GROUP w_API_VERSIONS w_INIT_PRODUCER_ID h0 n0 _ T27.heap _
                  rw [e27]
                  refine ⟨w_FIND_COORDINATOR, rfl, N0, rfl, E_FIND_COORDINATOR, ?_, ?_⟩
                  · unfold own_lo; rw [if_neg c1, if_neg c10, if_neg c19, if_neg c28, if_neg c37, if_neg c46, if_pos c56]; exact A_FIND_COORDINATOR
                  · unfold own_hi; rw [if_neg c1, if_neg c10, if_neg c19, if_neg c28, if_neg c37, if_neg c46, if_pos c56]; exact B_FIND_COORDINATOR
              · have P29 : ∀ t, Steps p.tables e below (s₁.setTop (mkF m 66 #[.val (.int p1)] [(.int (7 : Int32)), (.int p1)])) t → Steps p.tables e below (s₁.setTop (entryFrame m #[(.int p1)] 1)) t := by
                  intro t k
                  refine P25 _ ?_
                  refine XS.icmpYes X0.here hx rfl (pc0 := 56) (pc' := 63) rfl (hb hby d2_56) rfl (XT.ii_ne_t c56) (by decide) (by decide) ?_
                  show Steps p.tables e below (s₁.setTop (mkF m 63 #[.val (.int p1)] [])) _
                  refine XS.iloadN X0.here hx rfl (hb hby d2_63) rfl ?_
                  show Steps p.tables e below (s₁.setTop (mkF m 64 #[.val (.int p1)] [(.int p1)])) _
                  refine XS.bipush X0.here hx rfl (hb hby d2_64) ?_
                  show Steps p.tables e below (s₁.setTop (mkF m 66 #[.val (.int p1)] [(.int (7 : Int32)), (.int p1)])) _
                  exact k
                by_cases c66 : p1 = (7 : Int32)
                · have P30 : ∀ t, Steps p.tables e below (s₁.setTop (mkF m 69 #[.val (.int p1)] [])) t → Steps p.tables e below (s₁.setTop (entryFrame m #[(.int p1)] 1)) t := by
                    intro t k
                    refine P29 _ ?_
                    refine XS.icmpNo X0.here hx rfl (hb hby d2_66) rfl (XT.ii_ne_f c66) ?_
                    show Steps p.tables e below (s₁.setTop (mkF m 69 #[.val (.int p1)] [])) _
                    exact k
                  obtain ⟨T31, X31, e31, st31⟩ := getS2 X0 hx hZ hown (host := "") (Or.inl (hw _ (List.mem_of_getElem? (i := 40) rfl))) Via.refl e0 S_JOIN_GROUP (g := (mkF m 69 #[.val (.int p1)] [])) rfl (hb hby d2_69)
                  have P32 : ∀ t, Steps p.tables e below (T31.setTop (mkF m 72 #[.val (.int p1)] [(.ref w_JOIN_GROUP)])) t → Steps p.tables e below (s₁.setTop (entryFrame m #[(.int p1)] 1)) t := fun t k => P30 _ (st31 _ k)
                  obtain ⟨fs, hr, hrun, hended, hW, hsame⟩ := X31.leave (v := some (.ref w_JOIN_GROUP)) (fun h => by rw [Bd.returns] at h; cases h)
                  refine ⟨_, _, P32 _ ?_, hrun, hended, _, _, rfl, ?_, ⟨_, rfl⟩, hW, hsame.mono (by decide) (by decide)⟩
                  · jvm_step X31.here [X31.here.top, hx, (hb hby d2_72), X31.method', Bd.returns, Value.isRef, FieldType.isReference]
                    first | (intro acts; rw [hr _ acts rfl rfl rfl]) | rw [hr _ _ rfl rfl rfl]
                    exact Steps.refl _
                  · show Q2 Z p1 w_PRODUCE w_FETCH w_LIST_OFFSETS w_METADATA w_OFFSET_COMMIT w_OFFSET_FETCH w_FIND_COORDINATOR w_JOIN_GROUP w_HEARTBEAT w_LEAVE_GROUP w_SYNC_GROUP w_API_VERSIONS w_INIT_PRODUCER_ID h0 n0 _ T31.heap _
                    rw [e31]
                    refine ⟨w_JOIN_GROUP, rfl, N0, rfl, E_JOIN_GROUP, ?_, ?_⟩
                    · unfold own_lo; rw [if_neg c1, if_neg c10, if_neg c19, if_neg c28, if_neg c37, if_neg c46, if_neg c56, if_pos c66]; exact A_JOIN_GROUP
                    · unfold own_hi; rw [if_neg c1, if_neg c10, if_neg c19, if_neg c28, if_neg c37, if_neg c46, if_neg c56, if_pos c66]; exact B_JOIN_GROUP
                · have P33 : ∀ t, Steps p.tables e below (s₁.setTop (mkF m 76 #[.val (.int p1)] [(.int (8 : Int32)), (.int p1)])) t → Steps p.tables e below (s₁.setTop (entryFrame m #[(.int p1)] 1)) t := by
                    intro t k
                    refine P29 _ ?_
                    refine XS.icmpYes X0.here hx rfl (pc0 := 66) (pc' := 73) rfl (hb hby d2_66) rfl (XT.ii_ne_t c66) (by decide) (by decide) ?_
                    show Steps p.tables e below (s₁.setTop (mkF m 73 #[.val (.int p1)] [])) _
                    refine XS.iloadN X0.here hx rfl (hb hby d2_73) rfl ?_
                    show Steps p.tables e below (s₁.setTop (mkF m 74 #[.val (.int p1)] [(.int p1)])) _
                    refine XS.bipush X0.here hx rfl (hb hby d2_74) ?_
                    show Steps p.tables e below (s₁.setTop (mkF m 76 #[.val (.int p1)] [(.int (8 : Int32)), (.int p1)])) _
                    exact k
                  by_cases c76 : p1 = (8 : Int32)
                  · have P34 : ∀ t, Steps p.tables e below (s₁.setTop (mkF m 79 #[.val (.int p1)] [])) t → Steps p.tables e below (s₁.setTop (entryFrame m #[(.int p1)] 1)) t := by
                      intro t k
                      refine P33 _ ?_
                      refine XS.icmpNo X0.here hx rfl (hb hby d2_76) rfl (XT.ii_ne_f c76) ?_
                      show Steps p.tables e below (s₁.setTop (mkF m 79 #[.val (.int p1)] [])) _
                      exact k
                    obtain ⟨T35, X35, e35, st35⟩ := getS2 X0 hx hZ hown (host := "") (Or.inl (hw _ (List.mem_of_getElem? (i := 30) rfl))) Via.refl e0 S_HEARTBEAT (g := (mkF m 79 #[.val (.int p1)] [])) rfl (hb hby d2_79)
                    have P36 : ∀ t, Steps p.tables e below (T35.setTop (mkF m 82 #[.val (.int p1)] [(.ref w_HEARTBEAT)])) t → Steps p.tables e below (s₁.setTop (entryFrame m #[(.int p1)] 1)) t := fun t k => P34 _ (st35 _ k)
                    obtain ⟨fs, hr, hrun, hended, hW, hsame⟩ := X35.leave (v := some (.ref w_HEARTBEAT)) (fun h => by rw [Bd.returns] at h; cases h)
                    refine ⟨_, _, P36 _ ?_, hrun, hended, _, _, rfl, ?_, ⟨_, rfl⟩, hW, hsame.mono (by decide) (by decide)⟩
                    · jvm_step X35.here [X35.here.top, hx, (hb hby d2_82), X35.method', Bd.returns, Value.isRef, FieldType.isReference]
                      first | (intro acts; rw [hr _ acts rfl rfl rfl]) | rw [hr _ _ rfl rfl rfl]
                      exact Steps.refl _
                    · show Q2 Z p1 w_PRODUCE w_FETCH w_LIST_OFFSETS w_METADATA w_OFFSET_COMMIT w_OFFSET_FETCH w_FIND_COORDINATOR w_JOIN_GROUP w_HEARTBEAT w_LEAVE_GROUP w_SYNC_GROUP w_API_VERSIONS w_INIT_PRODUCER_ID h0 n0 _ T35.heap _
                      rw [e35]
                      refine ⟨w_HEARTBEAT, rfl, N0, rfl, E_HEARTBEAT, ?_, ?_⟩
                      · unfold own_lo; rw [if_neg c1, if_neg c10, if_neg c19, if_neg c28, if_neg c37, if_neg c46, if_neg c56, if_neg c66, if_pos c76]; exact A_HEARTBEAT
                      · unfold own_hi; rw [if_neg c1, if_neg c10, if_neg c19, if_neg c28, if_neg c37, if_neg c46, if_neg c56, if_neg c66, if_pos c76]; exact B_HEARTBEAT
                  · have P37 : ∀ t, Steps p.tables e below (s₁.setTop (mkF m 86 #[.val (.int p1)] [(.int (9 : Int32)), (.int p1)])) t → Steps p.tables e below (s₁.setTop (entryFrame m #[(.int p1)] 1)) t := by
                      intro t k
                      refine P33 _ ?_
                      refine XS.icmpYes X0.here hx rfl (pc0 := 76) (pc' := 83) rfl (hb hby d2_76) rfl (XT.ii_ne_t c76) (by decide) (by decide) ?_
                      show Steps p.tables e below (s₁.setTop (mkF m 83 #[.val (.int p1)] [])) _
                      refine XS.iloadN X0.here hx rfl (hb hby d2_83) rfl ?_
                      show Steps p.tables e below (s₁.setTop (mkF m 84 #[.val (.int p1)] [(.int p1)])) _
                      refine XS.bipush X0.here hx rfl (hb hby d2_84) ?_
                      show Steps p.tables e below (s₁.setTop (mkF m 86 #[.val (.int p1)] [(.int (9 : Int32)), (.int p1)])) _
                      exact k
                    by_cases c86 : p1 = (9 : Int32)
                    · have P38 : ∀ t, Steps p.tables e below (s₁.setTop (mkF m 89 #[.val (.int p1)] [])) t → Steps p.tables e below (s₁.setTop (entryFrame m #[(.int p1)] 1)) t := by
                        intro t k
                        refine P37 _ ?_
                        refine XS.icmpNo X0.here hx rfl (hb hby d2_86) rfl (XT.ii_ne_f c86) ?_
                        show Steps p.tables e below (s₁.setTop (mkF m 89 #[.val (.int p1)] [])) _
                        exact k
                      obtain ⟨T39, X39, e39, st39⟩ := getS2 X0 hx hZ hown (host := "") (Or.inl (hw _ (List.mem_of_getElem? (i := 24) rfl))) Via.refl e0 S_LEAVE_GROUP (g := (mkF m 89 #[.val (.int p1)] [])) rfl (hb hby d2_89)
                      have P40 : ∀ t, Steps p.tables e below (T39.setTop (mkF m 92 #[.val (.int p1)] [(.ref w_LEAVE_GROUP)])) t → Steps p.tables e below (s₁.setTop (entryFrame m #[(.int p1)] 1)) t := fun t k => P38 _ (st39 _ k)
                      obtain ⟨fs, hr, hrun, hended, hW, hsame⟩ := X39.leave (v := some (.ref w_LEAVE_GROUP)) (fun h => by rw [Bd.returns] at h; cases h)
                      refine ⟨_, _, P40 _ ?_, hrun, hended, _, _, rfl, ?_, ⟨_, rfl⟩, hW, hsame.mono (by decide) (by decide)⟩
                      · jvm_step X39.here [X39.here.top, hx, (hb hby d2_92), X39.method', Bd.returns, Value.isRef, FieldType.isReference]
                        first | (intro acts; rw [hr _ acts rfl rfl rfl]) | rw [hr _ _ rfl rfl rfl]
                        exact Steps.refl _
                      · show Q2 Z p1 w_PRODUCE w_FETCH w_LIST_OFFSETS w_METADATA w_OFFSET_COMMIT w_OFFSET_FETCH w_FIND_COORDINATOR w_JOIN_GROUP w_HEARTBEAT w_LEAVE_GROUP w_SYNC_GROUP w_API_VERSIONS w_INIT_PRODUCER_ID h0 n0 _ T39.heap _
                        rw [e39]
                        refine ⟨w_LEAVE_GROUP, rfl, N0, rfl, E_LEAVE_GROUP, ?_, ?_⟩
                        · unfold own_lo; rw [if_neg c1, if_neg c10, if_neg c19, if_neg c28, if_neg c37, if_neg c46, if_neg c56, if_neg c66, if_neg c76, if_pos c86]; exact A_LEAVE_GROUP
                        · unfold own_hi; rw [if_neg c1, if_neg c10, if_neg c19, if_neg c28, if_neg c37, if_neg c46, if_neg c56, if_neg c66, if_neg c76, if_pos c86]; exact B_LEAVE_GROUP
                    · have P41 : ∀ t, Steps p.tables e below (s₁.setTop (mkF m 96 #[.val (.int p1)] [(.int (10 : Int32)), (.int p1)])) t → Steps p.tables e below (s₁.setTop (entryFrame m #[(.int p1)] 1)) t := by
                        intro t k
                        refine P37 _ ?_
                        refine XS.icmpYes X0.here hx rfl (pc0 := 86) (pc' := 93) rfl (hb hby d2_86) rfl (XT.ii_ne_t c86) (by decide) (by decide) ?_
                        show Steps p.tables e below (s₁.setTop (mkF m 93 #[.val (.int p1)] [])) _
                        refine XS.iloadN X0.here hx rfl (hb hby d2_93) rfl ?_
                        show Steps p.tables e below (s₁.setTop (mkF m 94 #[.val (.int p1)] [(.int p1)])) _
                        refine XS.bipush X0.here hx rfl (hb hby d2_94) ?_
                        show Steps p.tables e below (s₁.setTop (mkF m 96 #[.val (.int p1)] [(.int (10 : Int32)), (.int p1)])) _
                        exact k
                      by_cases c96 : p1 = (10 : Int32)
                      · have P42 : ∀ t, Steps p.tables e below (s₁.setTop (mkF m 99 #[.val (.int p1)] [])) t → Steps p.tables e below (s₁.setTop (entryFrame m #[(.int p1)] 1)) t := by
                          intro t k
                          refine P41 _ ?_
                          refine XS.icmpNo X0.here hx rfl (hb hby d2_96) rfl (XT.ii_ne_f c96) ?_
                          show Steps p.tables e below (s₁.setTop (mkF m 99 #[.val (.int p1)] [])) _
                          exact k
                        obtain ⟨T43, X43, e43, st43⟩ := getS2 X0 hx hZ hown (host := "") (Or.inl (hw _ (List.mem_of_getElem? (i := 36) rfl))) Via.refl e0 S_SYNC_GROUP (g := (mkF m 99 #[.val (.int p1)] [])) rfl (hb hby d2_99)
                        have P44 : ∀ t, Steps p.tables e below (T43.setTop (mkF m 102 #[.val (.int p1)] [(.ref w_SYNC_GROUP)])) t → Steps p.tables e below (s₁.setTop (entryFrame m #[(.int p1)] 1)) t := fun t k => P42 _ (st43 _ k)
                        obtain ⟨fs, hr, hrun, hended, hW, hsame⟩ := X43.leave (v := some (.ref w_SYNC_GROUP)) (fun h => by rw [Bd.returns] at h; cases h)
                        refine ⟨_, _, P44 _ ?_, hrun, hended, _, _, rfl, ?_, ⟨_, rfl⟩, hW, hsame.mono (by decide) (by decide)⟩
                        · jvm_step X43.here [X43.here.top, hx, (hb hby d2_102), X43.method', Bd.returns, Value.isRef, FieldType.isReference]
                          first | (intro acts; rw [hr _ acts rfl rfl rfl]) | rw [hr _ _ rfl rfl rfl]
                          exact Steps.refl _
                        · show Q2 Z p1 w_PRODUCE w_FETCH w_LIST_OFFSETS w_METADATA w_OFFSET_COMMIT w_OFFSET_FETCH w_FIND_COORDINATOR w_JOIN_GROUP w_HEARTBEAT w_LEAVE_GROUP w_SYNC_GROUP w_API_VERSIONS w_INIT_PRODUCER_ID h0 n0 _ T43.heap _
                          rw [e43]
                          refine ⟨w_SYNC_GROUP, rfl, N0, rfl, E_SYNC_GROUP, ?_, ?_⟩
                          · unfold own_lo; rw [if_neg c1, if_neg c10, if_neg c19, if_neg c28, if_neg c37, if_neg c46, if_neg c56, if_neg c66, if_neg c76, if_neg c86, if_pos c96]; exact A_SYNC_GROUP
                          · unfold own_hi; rw [if_neg c1, if_neg c10, if_neg c19, if_neg c28, if_neg c37, if_neg c46, if_neg c56, if_neg c66, if_neg c76, if_neg c86, if_pos c96]; exact B_SYNC_GROUP
                      · have P45 : ∀ t, Steps p.tables e below (s₁.setTop (mkF m 106 #[.val (.int p1)] [(.int (11 : Int32)), (.int p1)])) t → Steps p.tables e below (s₁.setTop (entryFrame m #[(.int p1)] 1)) t := by
                          intro t k
                          refine P41 _ ?_
                          refine XS.icmpYes X0.here hx rfl (pc0 := 96) (pc' := 103) rfl (hb hby d2_96) rfl (XT.ii_ne_t c96) (by decide) (by decide) ?_
                          show Steps p.tables e below (s₁.setTop (mkF m 103 #[.val (.int p1)] [])) _
                          refine XS.iloadN X0.here hx rfl (hb hby d2_103) rfl ?_
                          show Steps p.tables e below (s₁.setTop (mkF m 104 #[.val (.int p1)] [(.int p1)])) _
                          refine XS.bipush X0.here hx rfl (hb hby d2_104) ?_
                          show Steps p.tables e below (s₁.setTop (mkF m 106 #[.val (.int p1)] [(.int (11 : Int32)), (.int p1)])) _
                          exact k
                        by_cases c106 : p1 = (11 : Int32)
                        · have P46 : ∀ t, Steps p.tables e below (s₁.setTop (mkF m 109 #[.val (.int p1)] [])) t → Steps p.tables e below (s₁.setTop (entryFrame m #[(.int p1)] 1)) t := by
                            intro t k
                            refine P45 _ ?_
                            refine XS.icmpNo X0.here hx rfl (hb hby d2_106) rfl (XT.ii_ne_f c106) ?_
                            show Steps p.tables e below (s₁.setTop (mkF m 109 #[.val (.int p1)] [])) _
                            exact k
                          obtain ⟨T47, X47, e47, st47⟩ := getS2 X0 hx hZ hown (host := "") (Or.inl (hw _ (List.mem_of_getElem? (i := 38) rfl))) Via.refl e0 S_API_VERSIONS (g := (mkF m 109 #[.val (.int p1)] [])) rfl (hb hby d2_109)
                          have P48 : ∀ t, Steps p.tables e below (T47.setTop (mkF m 112 #[.val (.int p1)] [(.ref w_API_VERSIONS)])) t → Steps p.tables e below (s₁.setTop (entryFrame m #[(.int p1)] 1)) t := fun t k => P46 _ (st47 _ k)
                          obtain ⟨fs, hr, hrun, hended, hW, hsame⟩ := X47.leave (v := some (.ref w_API_VERSIONS)) (fun h => by rw [Bd.returns] at h; cases h)
                          refine ⟨_, _, P48 _ ?_, hrun, hended, _, _, rfl, ?_, ⟨_, rfl⟩, hW, hsame.mono (by decide) (by decide)⟩
                          · jvm_step X47.here [X47.here.top, hx, (hb hby d2_112), X47.method', Bd.returns, Value.isRef, FieldType.isReference]
                            first | (intro acts; rw [hr _ acts rfl rfl rfl]) | rw [hr _ _ rfl rfl rfl]
                            exact Steps.refl _
                          · show Q2 Z p1 w_PRODUCE w_FETCH w_LIST_OFFSETS w_METADATA w_OFFSET_COMMIT w_OFFSET_FETCH w_FIND_COORDINATOR w_JOIN_GROUP w_HEARTBEAT w_LEAVE_GROUP w_SYNC_GROUP w_API_VERSIONS w_INIT_PRODUCER_ID h0 n0 _ T47.heap _
                            rw [e47]
                            refine ⟨w_API_VERSIONS, rfl, N0, rfl, E_API_VERSIONS, ?_, ?_⟩
                            · unfold own_lo; rw [if_neg c1, if_neg c10, if_neg c19, if_neg c28, if_neg c37, if_neg c46, if_neg c56, if_neg c66, if_neg c76, if_neg c86, if_neg c96, if_pos c106]; exact A_API_VERSIONS
                            · unfold own_hi; rw [if_neg c1, if_neg c10, if_neg c19, if_neg c28, if_neg c37, if_neg c46, if_neg c56, if_neg c66, if_neg c76, if_neg c86, if_neg c96, if_pos c106]; exact B_API_VERSIONS
                        · have P49 : ∀ t, Steps p.tables e below (s₁.setTop (mkF m 113 #[.val (.int p1)] [])) t → Steps p.tables e below (s₁.setTop (entryFrame m #[(.int p1)] 1)) t := by
                            intro t k
                            refine P45 _ ?_
                            refine XS.icmpYes X0.here hx rfl (pc0 := 106) (pc' := 113) rfl (hb hby d2_106) rfl (XT.ii_ne_t c106) (by decide) (by decide) ?_
                            show Steps p.tables e below (s₁.setTop (mkF m 113 #[.val (.int p1)] [])) _
                            exact k
                          obtain ⟨T50, X50, e50, st50⟩ := getS2 X0 hx hZ hown (host := "") (Or.inl (hw _ (List.mem_of_getElem? (i := 32) rfl))) Via.refl e0 S_INIT_PRODUCER_ID (g := (mkF m 113 #[.val (.int p1)] [])) rfl (hb hby d2_113)
                          have P51 : ∀ t, Steps p.tables e below (T50.setTop (mkF m 116 #[.val (.int p1)] [(.ref w_INIT_PRODUCER_ID)])) t → Steps p.tables e below (s₁.setTop (entryFrame m #[(.int p1)] 1)) t := fun t k => P49 _ (st50 _ k)
                          obtain ⟨fs, hr, hrun, hended, hW, hsame⟩ := X50.leave (v := some (.ref w_INIT_PRODUCER_ID)) (fun h => by rw [Bd.returns] at h; cases h)
                          refine ⟨_, _, P51 _ ?_, hrun, hended, _, _, rfl, ?_, ⟨_, rfl⟩, hW, hsame.mono (by decide) (by decide)⟩
                          · jvm_step X50.here [X50.here.top, hx, (hb hby d2_116), X50.method', Bd.returns, Value.isRef, FieldType.isReference]
                            first | (intro acts; rw [hr _ acts rfl rfl rfl]) | rw [hr _ _ rfl rfl rfl]
                            exact Steps.refl _
                          · show Q2 Z p1 w_PRODUCE w_FETCH w_LIST_OFFSETS w_METADATA w_OFFSET_COMMIT w_OFFSET_FETCH w_FIND_COORDINATOR w_JOIN_GROUP w_HEARTBEAT w_LEAVE_GROUP w_SYNC_GROUP w_API_VERSIONS w_INIT_PRODUCER_ID h0 n0 _ T50.heap _
                            rw [e50]
                            refine ⟨w_INIT_PRODUCER_ID, rfl, N0, rfl, E_INIT_PRODUCER_ID, ?_, ?_⟩
                            · unfold own_lo; rw [if_neg c1, if_neg c10, if_neg c19, if_neg c28, if_neg c37, if_neg c46, if_neg c56, if_neg c66, if_neg c76, if_neg c86, if_neg c96, if_neg c106]; exact A_INIT_PRODUCER_ID
                            · unfold own_hi; rw [if_neg c1, if_neg c10, if_neg c19, if_neg c28, if_neg c37, if_neg c46, if_neg c56, if_neg c66, if_neg c76, if_neg c86, if_neg c96, if_neg c106]; exact B_INIT_PRODUCER_ID
theorem d1_0 : decode prog_60_method_5_code 0 = .ok (.iload_n 1, 1) := by decide +kernel
theorem d1_1 : decode prog_60_method_5_code 1 = .ok (.aload_n 0, 1) := by decide +kernel
theorem d1_2 : decode prog_60_method_5_code 2 = .ok (.getfield 66, 3) := by decide +kernel
theorem d1_5 : decode prog_60_method_5_code 5 = .ok (.if_icmp .lt 15, 3) := by decide +kernel
theorem d1_8 : decode prog_60_method_5_code 8 = .ok (.iload_n 1, 1) := by decide +kernel
theorem d1_9 : decode prog_60_method_5_code 9 = .ok (.aload_n 0, 1) := by decide +kernel
theorem d1_10 : decode prog_60_method_5_code 10 = .ok (.getfield 69, 3) := by decide +kernel
theorem d1_13 : decode prog_60_method_5_code 13 = .ok (.if_icmp .gt 7, 3) := by decide +kernel
theorem d1_16 : decode prog_60_method_5_code 16 = .ok (.iconst 1, 1) := by decide +kernel
theorem d1_17 : decode prog_60_method_5_code 17 = .ok (.goto 4, 3) := by decide +kernel
theorem d1_20 : decode prog_60_method_5_code 20 = .ok (.iconst 0, 1) := by decide +kernel
theorem d1_21 : decode prog_60_method_5_code 21 = .ok (.ireturn, 1) := by decide +kernel
theorem pn_1 : plainName "ledgerline/node/Api" = true := by first | (simp [plainName, overriddenIn]; done) | decide +kernel
theorem ef_1 (m : MethodId) (x0 : Addr) (x1 : Int32) : entryFrame m #[(.ref x0), (.int x1)] 2 = mkF m 0 #[.val (.ref x0), .val (.int x1)] [] := by first | (simp [entryFrame, mkF, argsToLocals, Value.category]; done) | rfl
def Q1 (Z : State) (a1 : Addr) (p2 : Int32) (w1 : Int32) (w2 : Int32) (h0 : Heap) (n0 : Nat) (v : Option Value) (h : Heap) (L : List Loc) : Prop := v = some (.int (if p2 < w1 then (0 : Int32) else (if w2 < p2 then (0 : Int32) else (1 : Int32)))) ∧ Fr n0 L ∧ h = h0
set_option maxRecDepth 65536 in
set_option maxHeartbeats 40000000 in
theorem rm1 (l : Launch) (Z : State) (a0 : Array Value) (hw : ∀ d ∈ tables_1, d.before a0 Z = true) (ws : List Jvm.Cond) (a1 : Addr) (p2 : Int32) (w1 : Int32) (w2 : Int32) (h0 : Heap) (n0 : Nat) (Z0 : n0 ≤ h0.size) (F_minVersion : Fld Z h0 a1 "ledgerline/node/Api" "minVersion" "S" (.int w1)) (F_maxVersion : Fld Z h0 a1 "ledgerline/node/Api" "maxVersion" "S" (.int w2)) :
    MetFree l (⟨"ledgerline/node/Api", "serves", "(S)Z"⟩ : MethodName) (head1 (Jvm.Cond.code (⟨"ledgerline/node/Api", "serves", "(S)Z"⟩ : MethodName) prog_60_method_5_code 2 (some .boolean) :: ws) ({ frames := 0, cells := 0, slots := 0, locals := 0 } : Room)) (fun a U => a = #[(.ref a1), (.int p2)] ∧ Z.Warmed39 U.vm ∧ U.heap = h0) (fun _ _ _ _ _ => True) (fun _ U o U' => ∃ v L, o = .returned v ∧ Q1 Z a1 p2 w1 w2 h0 n0 v U'.heap L ∧ FrameEnd U o U' L ({ frames := 0, cells := 0, slots := 0, locals := 0 } : Room).cells ({ frames := 0, cells := 0, slots := 0, locals := 0 } : Room).slots) := by
  refine MetFree.of_bodySF (plainFor_of_name pn_1) hisR ?_
  intro p e s m args below meth c s₁ Bd hml0 hP hK
  obtain ⟨rfl, hZ, hh⟩ := hP
  have hx := Bd.exec
  have hby := Bd.bytes
  have hml : c.maxLocals = 2 := hml0
  have hown : s.vm.findClass "ledgerline/node/Api" = some m.cls := findClass_of_methodNamed Bd.named
  have hnm := (name_of_methodNamed Bd.named Bd.method).1
  have X0 : Stand p l e ({ frames := 0, cells := 0, slots := 0, locals := 0 } : Room) s m #[(.ref a1), (.int p2)] below meth c s₁ [] 0 0 := Stand.of_body Bd
  have e0 : s₁.heap = h0 := by rw [← hh, Bd.state]; rfl
  have N0 := Fr.nil n0
  have K0 : Keep h0 h0 [] := Keep.refl _ _
  have P0 : ∀ t, Steps p.tables e below (s₁.setTop (mkF m 0 #[.val (.ref a1), .val (.int p2)] [])) t → Steps p.tables e below (s₁.setTop (entryFrame m #[(.ref a1), (.int p2)] 2)) t := fun t k => castTop (ef_1 m a1 p2) k
  have P1 : ∀ t, Steps p.tables e below (s₁.setTop (mkF m 2 #[.val (.ref a1), .val (.int p2)] [(.ref a1), (.int p2)])) t → Steps p.tables e below (s₁.setTop (entryFrame m #[(.ref a1), (.int p2)] 2)) t := by
    intro t k
    refine P0 _ ?_
    refine XS.iloadN X0.here hx rfl (hb hby d1_0) rfl ?_
    show Steps p.tables e below (s₁.setTop (mkF m 1 #[.val (.ref a1), .val (.int p2)] [(.int p2)])) _
    refine XS.aloadN X0.here hx rfl (hb hby d1_1) rfl rfl ?_
    show Steps p.tables e below (s₁.setTop (mkF m 2 #[.val (.ref a1), .val (.int p2)] [(.ref a1), (.int p2)])) _
    exact k
  obtain ⟨T2, X2, e2, st2⟩ := getF X0 hx hZ hown (host := "") (Or.inl (hw _ (List.mem_of_getElem? (i := 14) rfl))) Via.refl e0 F_minVersion (g := (mkF m 2 #[.val (.ref a1), .val (.int p2)] [(.ref a1), (.int p2)])) rfl rfl (hb hby d1_2)
  have P3 : ∀ t, Steps p.tables e below (T2.setTop (mkF m 5 #[.val (.ref a1), .val (.int p2)] [(.int w1), (.int p2)])) t → Steps p.tables e below (s₁.setTop (entryFrame m #[(.ref a1), (.int p2)] 2)) t := fun t k => P1 _ (st2 _ k)
  by_cases c5 : p2 < w1
  · have P4 : ∀ t, Steps p.tables e below (T2.setTop (mkF m 21 #[.val (.ref a1), .val (.int p2)] [(.int (0 : Int32))])) t → Steps p.tables e below (s₁.setTop (entryFrame m #[(.ref a1), (.int p2)] 2)) t := by
      intro t k
      refine P3 _ ?_
      refine XS.icmpYes X2.here hx rfl (pc0 := 5) (pc' := 20) rfl (hb hby d1_5) rfl (XT.ii_lt_t c5) (by decide) (by decide) ?_
      show Steps p.tables e below (T2.setTop (mkF m 20 #[.val (.ref a1), .val (.int p2)] [])) _
      refine XS.iconst X2.here hx rfl (hb hby d1_20) ?_
      show Steps p.tables e below (T2.setTop (mkF m 21 #[.val (.ref a1), .val (.int p2)] [(.int (0 : Int32))])) _
      exact k
    obtain ⟨fs, hr, hrun, hended, hW, hsame⟩ := X2.leave (v := some (.int (0 : Int32))) (fun h => by rw [Bd.returns] at h; cases h)
    refine ⟨_, _, P4 _ ?_, hrun, hended, _, _, rfl, ?_, ⟨_, rfl⟩, hW, hsame.mono (by decide) (by decide)⟩
    · exact retN X2 hx (t := .boolean) Bd.returns (by simp) (hb hby d1_21) hr
    · show Q1 Z a1 p2 w1 w2 h0 n0 _ T2.heap _
      rw [e2]
      exact ⟨by rw [if_pos c5], N0, rfl⟩
  · have P5 : ∀ t, Steps p.tables e below (T2.setTop (mkF m 10 #[.val (.ref a1), .val (.int p2)] [(.ref a1), (.int p2)])) t → Steps p.tables e below (s₁.setTop (entryFrame m #[(.ref a1), (.int p2)] 2)) t := by
      intro t k
      refine P3 _ ?_
      refine XS.icmpNo X2.here hx rfl (hb hby d1_5) rfl (XT.ii_lt_f c5) ?_
      show Steps p.tables e below (T2.setTop (mkF m 8 #[.val (.ref a1), .val (.int p2)] [])) _
      refine XS.iloadN X2.here hx rfl (hb hby d1_8) rfl ?_
      show Steps p.tables e below (T2.setTop (mkF m 9 #[.val (.ref a1), .val (.int p2)] [(.int p2)])) _
      refine XS.aloadN X2.here hx rfl (hb hby d1_9) rfl rfl ?_
      show Steps p.tables e below (T2.setTop (mkF m 10 #[.val (.ref a1), .val (.int p2)] [(.ref a1), (.int p2)])) _
      exact k
    obtain ⟨T6, X6, e6, st6⟩ := getF X2 hx hZ hown (host := "") (Or.inl (hw _ (List.mem_of_getElem? (i := 16) rfl))) Via.refl e2 F_maxVersion (g := (mkF m 10 #[.val (.ref a1), .val (.int p2)] [(.ref a1), (.int p2)])) rfl rfl (hb hby d1_10)
    have P7 : ∀ t, Steps p.tables e below (T6.setTop (mkF m 13 #[.val (.ref a1), .val (.int p2)] [(.int w2), (.int p2)])) t → Steps p.tables e below (s₁.setTop (entryFrame m #[(.ref a1), (.int p2)] 2)) t := fun t k => P5 _ (st6 _ k)
    by_cases c13 : w2 < p2
    · have P8 : ∀ t, Steps p.tables e below (T6.setTop (mkF m 21 #[.val (.ref a1), .val (.int p2)] [(.int (0 : Int32))])) t → Steps p.tables e below (s₁.setTop (entryFrame m #[(.ref a1), (.int p2)] 2)) t := by
        intro t k
        refine P7 _ ?_
        refine XS.icmpYes X6.here hx rfl (pc0 := 13) (pc' := 20) rfl (hb hby d1_13) rfl (XT.ii_gt_t c13) (by decide) (by decide) ?_
        show Steps p.tables e below (T6.setTop (mkF m 20 #[.val (.ref a1), .val (.int p2)] [])) _
        refine XS.iconst X6.here hx rfl (hb hby d1_20) ?_
        show Steps p.tables e below (T6.setTop (mkF m 21 #[.val (.ref a1), .val (.int p2)] [(.int (0 : Int32))])) _
        exact k
      obtain ⟨fs, hr, hrun, hended, hW, hsame⟩ := X6.leave (v := some (.int (0 : Int32))) (fun h => by rw [Bd.returns] at h; cases h)
      refine ⟨_, _, P8 _ ?_, hrun, hended, _, _, rfl, ?_, ⟨_, rfl⟩, hW, hsame.mono (by decide) (by decide)⟩
      · exact retN X6 hx (t := .boolean) Bd.returns (by simp) (hb hby d1_21) hr
      · show Q1 Z a1 p2 w1 w2 h0 n0 _ T6.heap _
        rw [e6]
        exact ⟨by rw [if_neg c5, if_pos c13], N0, rfl⟩
    · have P9 : ∀ t, Steps p.tables e below (T6.setTop (mkF m 21 #[.val (.ref a1), .val (.int p2)] [(.int (1 : Int32))])) t → Steps p.tables e below (s₁.setTop (entryFrame m #[(.ref a1), (.int p2)] 2)) t := by
        intro t k
        refine P7 _ ?_
        refine XS.icmpNo X6.here hx rfl (hb hby d1_13) rfl (XT.ii_gt_f c13) ?_
        show Steps p.tables e below (T6.setTop (mkF m 16 #[.val (.ref a1), .val (.int p2)] [])) _
        refine XS.iconst X6.here hx rfl (hb hby d1_16) ?_
        show Steps p.tables e below (T6.setTop (mkF m 17 #[.val (.ref a1), .val (.int p2)] [(.int (1 : Int32))])) _
        refine XS.goto X6.here hx rfl (pc0 := 17) (pc' := 21) rfl (hb hby d1_17) (by decide) (by decide) ?_
        show Steps p.tables e below (T6.setTop (mkF m 21 #[.val (.ref a1), .val (.int p2)] [(.int (1 : Int32))])) _
        exact k
      obtain ⟨fs, hr, hrun, hended, hW, hsame⟩ := X6.leave (v := some (.int (1 : Int32))) (fun h => by rw [Bd.returns] at h; cases h)
      refine ⟨_, _, P9 _ ?_, hrun, hended, _, _, rfl, ?_, ⟨_, rfl⟩, hW, hsame.mono (by decide) (by decide)⟩
      · exact retN X6 hx (t := .boolean) Bd.returns (by simp) (hb hby d1_21) hr
      · show Q1 Z a1 p2 w1 w2 h0 n0 _ T6.heap _
        rw [e6]
        exact ⟨by rw [if_neg c5, if_neg c13], N0, rfl⟩
theorem pn_0 : plainName "ledgerline/node/ApiServesPinLaw" = true := by first | (simp [plainName, overriddenIn]; done) | decide +kernel
theorem ef_0 (m : MethodId) (x0 : Int32) (x1 : Int32) : entryFrame m #[(.int x0), (.int x1)] maxLocals = mkF m 0 #[.val (.int x0), .val (.int x1), .unset, .unset, .unset, .unset, .unset, .unset] [] := by first | (simp [entryFrame, mkF, argsToLocals, Value.category, maxLocals]; done) | rfl
def Q0 (Z : State) (p1 : Int32) (p2 : Int32) (w_PRODUCE : Addr) (w_FETCH : Addr) (w_LIST_OFFSETS : Addr) (w_METADATA : Addr) (w_OFFSET_COMMIT : Addr) (w_OFFSET_FETCH : Addr) (w_FIND_COORDINATOR : Addr) (w_JOIN_GROUP : Addr) (w_HEARTBEAT : Addr) (w_LEAVE_GROUP : Addr) (w_SYNC_GROUP : Addr) (w_API_VERSIONS : Addr) (w_INIT_PRODUCER_ID : Addr) (h0 : Heap) (n0 : Nat) (v : Option Value) (h : Heap) (L : List Loc) : Prop := v = some (.int 1) ∧ Fr n0 L
set_option maxRecDepth 65536 in
set_option maxHeartbeats 40000000 in
theorem rm0 (l : Launch) (Z : State) (a0 : Array Value) (hw : ∀ d ∈ tables_1, d.before a0 Z = true) (ws : List Jvm.Cond) (p1 : Int32) (p2 : Int32) (w_PRODUCE : Addr) (w_FETCH : Addr) (w_LIST_OFFSETS : Addr) (w_METADATA : Addr) (w_OFFSET_COMMIT : Addr) (w_OFFSET_FETCH : Addr) (w_FIND_COORDINATOR : Addr) (w_JOIN_GROUP : Addr) (w_HEARTBEAT : Addr) (w_LEAVE_GROUP : Addr) (w_SYNC_GROUP : Addr) (w_API_VERSIONS : Addr) (w_INIT_PRODUCER_ID : Addr) (h0 : Heap) (n0 : Nat) (Z0 : n0 ≤ h0.size) (O0 : Old Z n0 h0) (S_PRODUCE : Sta Z Z.heap "ledgerline/node/Api" "PRODUCE" "Lledgerline/node/Api;" (.ref w_PRODUCE)) (S_FETCH : Sta Z Z.heap "ledgerline/node/Api" "FETCH" "Lledgerline/node/Api;" (.ref w_FETCH)) (S_LIST_OFFSETS : Sta Z Z.heap "ledgerline/node/Api" "LIST_OFFSETS" "Lledgerline/node/Api;" (.ref w_LIST_OFFSETS)) (S_METADATA : Sta Z Z.heap "ledgerline/node/Api" "METADATA" "Lledgerline/node/Api;" (.ref w_METADATA)) (S_OFFSET_COMMIT : Sta Z Z.heap "ledgerline/node/Api" "OFFSET_COMMIT" "Lledgerline/node/Api;" (.ref w_OFFSET_COMMIT)) (S_OFFSET_FETCH : Sta Z Z.heap "ledgerline/node/Api" "OFFSET_FETCH" "Lledgerline/node/Api;" (.ref w_OFFSET_FETCH)) (S_FIND_COORDINATOR : Sta Z Z.heap "ledgerline/node/Api" "FIND_COORDINATOR" "Lledgerline/node/Api;" (.ref w_FIND_COORDINATOR)) (S_JOIN_GROUP : Sta Z Z.heap "ledgerline/node/Api" "JOIN_GROUP" "Lledgerline/node/Api;" (.ref w_JOIN_GROUP)) (S_HEARTBEAT : Sta Z Z.heap "ledgerline/node/Api" "HEARTBEAT" "Lledgerline/node/Api;" (.ref w_HEARTBEAT)) (S_LEAVE_GROUP : Sta Z Z.heap "ledgerline/node/Api" "LEAVE_GROUP" "Lledgerline/node/Api;" (.ref w_LEAVE_GROUP)) (S_SYNC_GROUP : Sta Z Z.heap "ledgerline/node/Api" "SYNC_GROUP" "Lledgerline/node/Api;" (.ref w_SYNC_GROUP)) (S_API_VERSIONS : Sta Z Z.heap "ledgerline/node/Api" "API_VERSIONS" "Lledgerline/node/Api;" (.ref w_API_VERSIONS)) (S_INIT_PRODUCER_ID : Sta Z Z.heap "ledgerline/node/Api" "INIT_PRODUCER_ID" "Lledgerline/node/Api;" (.ref w_INIT_PRODUCER_ID)) (E_PRODUCE : Exa Z Z.heap w_PRODUCE "ledgerline/node/Api") (E_FETCH : Exa Z Z.heap w_FETCH "ledgerline/node/Api") (E_LIST_OFFSETS : Exa Z Z.heap w_LIST_OFFSETS "ledgerline/node/Api") (E_METADATA : Exa Z Z.heap w_METADATA "ledgerline/node/Api") (E_OFFSET_COMMIT : Exa Z Z.heap w_OFFSET_COMMIT "ledgerline/node/Api") (E_OFFSET_FETCH : Exa Z Z.heap w_OFFSET_FETCH "ledgerline/node/Api") (E_FIND_COORDINATOR : Exa Z Z.heap w_FIND_COORDINATOR "ledgerline/node/Api") (E_JOIN_GROUP : Exa Z Z.heap w_JOIN_GROUP "ledgerline/node/Api") (E_HEARTBEAT : Exa Z Z.heap w_HEARTBEAT "ledgerline/node/Api") (E_LEAVE_GROUP : Exa Z Z.heap w_LEAVE_GROUP "ledgerline/node/Api") (E_SYNC_GROUP : Exa Z Z.heap w_SYNC_GROUP "ledgerline/node/Api") (E_API_VERSIONS : Exa Z Z.heap w_API_VERSIONS "ledgerline/node/Api") (E_INIT_PRODUCER_ID : Exa Z Z.heap w_INIT_PRODUCER_ID "ledgerline/node/Api") (A_PRODUCE : Fld Z Z.heap w_PRODUCE "ledgerline/node/Api" "minVersion" "S" (.int (3 : Int32))) (A_FETCH : Fld Z Z.heap w_FETCH "ledgerline/node/Api" "minVersion" "S" (.int (4 : Int32))) (A_LIST_OFFSETS : Fld Z Z.heap w_LIST_OFFSETS "ledgerline/node/Api" "minVersion" "S" (.int (1 : Int32))) (A_METADATA : Fld Z Z.heap w_METADATA "ledgerline/node/Api" "minVersion" "S" (.int (0 : Int32))) (A_OFFSET_COMMIT : Fld Z Z.heap w_OFFSET_COMMIT "ledgerline/node/Api" "minVersion" "S" (.int (2 : Int32))) (A_OFFSET_FETCH : Fld Z Z.heap w_OFFSET_FETCH "ledgerline/node/Api" "minVersion" "S" (.int (1 : Int32))) (A_FIND_COORDINATOR : Fld Z Z.heap w_FIND_COORDINATOR "ledgerline/node/Api" "minVersion" "S" (.int (0 : Int32))) (A_JOIN_GROUP : Fld Z Z.heap w_JOIN_GROUP "ledgerline/node/Api" "minVersion" "S" (.int (0 : Int32))) (A_HEARTBEAT : Fld Z Z.heap w_HEARTBEAT "ledgerline/node/Api" "minVersion" "S" (.int (0 : Int32))) (A_LEAVE_GROUP : Fld Z Z.heap w_LEAVE_GROUP "ledgerline/node/Api" "minVersion" "S" (.int (0 : Int32))) (A_SYNC_GROUP : Fld Z Z.heap w_SYNC_GROUP "ledgerline/node/Api" "minVersion" "S" (.int (0 : Int32))) (A_API_VERSIONS : Fld Z Z.heap w_API_VERSIONS "ledgerline/node/Api" "minVersion" "S" (.int (0 : Int32))) (A_INIT_PRODUCER_ID : Fld Z Z.heap w_INIT_PRODUCER_ID "ledgerline/node/Api" "minVersion" "S" (.int (0 : Int32))) (B_PRODUCE : Fld Z Z.heap w_PRODUCE "ledgerline/node/Api" "maxVersion" "S" (.int (3 : Int32))) (B_FETCH : Fld Z Z.heap w_FETCH "ledgerline/node/Api" "maxVersion" "S" (.int (4 : Int32))) (B_LIST_OFFSETS : Fld Z Z.heap w_LIST_OFFSETS "ledgerline/node/Api" "maxVersion" "S" (.int (1 : Int32))) (B_METADATA : Fld Z Z.heap w_METADATA "ledgerline/node/Api" "maxVersion" "S" (.int (4 : Int32))) (B_OFFSET_COMMIT : Fld Z Z.heap w_OFFSET_COMMIT "ledgerline/node/Api" "maxVersion" "S" (.int (2 : Int32))) (B_OFFSET_FETCH : Fld Z Z.heap w_OFFSET_FETCH "ledgerline/node/Api" "maxVersion" "S" (.int (1 : Int32))) (B_FIND_COORDINATOR : Fld Z Z.heap w_FIND_COORDINATOR "ledgerline/node/Api" "maxVersion" "S" (.int (0 : Int32))) (B_JOIN_GROUP : Fld Z Z.heap w_JOIN_GROUP "ledgerline/node/Api" "maxVersion" "S" (.int (2 : Int32))) (B_HEARTBEAT : Fld Z Z.heap w_HEARTBEAT "ledgerline/node/Api" "maxVersion" "S" (.int (1 : Int32))) (B_LEAVE_GROUP : Fld Z Z.heap w_LEAVE_GROUP "ledgerline/node/Api" "maxVersion" "S" (.int (1 : Int32))) (B_SYNC_GROUP : Fld Z Z.heap w_SYNC_GROUP "ledgerline/node/Api" "maxVersion" "S" (.int (1 : Int32))) (B_API_VERSIONS : Fld Z Z.heap w_API_VERSIONS "ledgerline/node/Api" "maxVersion" "S" (.int (0 : Int32))) (B_INIT_PRODUCER_ID : Fld Z Z.heap w_INIT_PRODUCER_ID "ledgerline/node/Api" "maxVersion" "S" (.int (1 : Int32))) :
    MetFree l x (head1 (Jvm.Cond.code x code maxLocals ret :: ws) room_1) (fun a U => a = #[(.int p1), (.int p2)] ∧ Z.Warmed39 U.vm ∧ U.heap = h0) (fun _ _ _ _ _ => True) (fun _ U o U' => ∃ v L, o = .returned v ∧ Q0 Z p1 p2 w_PRODUCE w_FETCH w_LIST_OFFSETS w_METADATA w_OFFSET_COMMIT w_OFFSET_FETCH w_FIND_COORDINATOR w_JOIN_GROUP w_HEARTBEAT w_LEAVE_GROUP w_SYNC_GROUP w_API_VERSIONS w_INIT_PRODUCER_ID h0 n0 v U'.heap L ∧ FrameEnd U o U' L room_1.cells room_1.slots) := by
  refine MetFree.of_bodySF (plainFor_of_name pn_0) hisR ?_
  intro p e s m args below meth c s₁ Bd hml0 hP hK
  obtain ⟨rfl, hZ, hh⟩ := hP
  have hx := Bd.exec
  have hby := Bd.bytes
  have hml : c.maxLocals = 8 := hml0
  have hown : s.vm.findClass "ledgerline/node/ApiServesPinLaw" = some m.cls := findClass_of_methodNamed Bd.named
  have hnm := (name_of_methodNamed Bd.named Bd.method).1
  have X0 : Stand p l e room_1 s m #[(.int p1), (.int p2)] below meth c s₁ [] 0 0 := Stand.of_body Bd
  have e0 : s₁.heap = h0 := by rw [← hh, Bd.state]; rfl
  have N0 := Fr.nil n0
  have K0 : Keep h0 h0 [] := Keep.refl _ _
  have P0 : ∀ t, Steps p.tables e below (s₁.setTop (mkF m 0 #[.val (.int p1), .val (.int p2), .unset, .unset, .unset, .unset, .unset, .unset] [])) t → Steps p.tables e below (s₁.setTop (entryFrame m #[(.int p1), (.int p2)] maxLocals)) t := fun t k => castTop (ef_0 m p1 p2) k
  have P1 : ∀ t, Steps p.tables e below (s₁.setTop (mkF m 8 #[.val (.int p1), .val (.int p2), .val (.int ((p1 &&& (2147483647 : Int32)) % (13 : Int32))), .unset, .unset, .unset, .unset, .unset] [])) t → Steps p.tables e below (s₁.setTop (entryFrame m #[(.int p1), (.int p2)] maxLocals)) t := by
    intro t k
    refine P0 _ ?_
    refine XS.iloadN X0.here hx rfl (hb hby at_0) rfl ?_
    show Steps p.tables e below (s₁.setTop (mkF m 1 #[.val (.int p1), .val (.int p2), .unset, .unset, .unset, .unset, .unset, .unset] [(.int p1)])) _
    refine Jvm.Stand.ldcI X0 hx hown (mvT hZ (hw _ (List.mem_of_getElem? (i := 0) rfl))) rfl (hb hby at_1) ?_
    show Steps p.tables e below (s₁.setTop (mkF m 3 #[.val (.int p1), .val (.int p2), .unset, .unset, .unset, .unset, .unset, .unset] [(.int (2147483647 : Int32)), (.int p1)])) _
    refine XS.iand X0.here hx rfl (hb hby at_3) rfl ?_
    show Steps p.tables e below (s₁.setTop (mkF m 4 #[.val (.int p1), .val (.int p2), .unset, .unset, .unset, .unset, .unset, .unset] [(.int (p1 &&& (2147483647 : Int32)))])) _
    refine XS.bipush X0.here hx rfl (hb hby at_4) ?_
    show Steps p.tables e below (s₁.setTop (mkF m 6 #[.val (.int p1), .val (.int p2), .unset, .unset, .unset, .unset, .unset, .unset] [(.int (13 : Int32)), (.int (p1 &&& (2147483647 : Int32)))])) _
    refine iremM X0 hx rfl (hb hby at_6) rfl (by decide) ?_
    show Steps p.tables e below (s₁.setTop (mkF m 7 #[.val (.int p1), .val (.int p2), .unset, .unset, .unset, .unset, .unset, .unset] [(.int ((p1 &&& (2147483647 : Int32)) % (13 : Int32)))])) _
    refine XS.istoreN X0.here hx rfl (hb hby at_7) rfl (l' := #[.val (.int p1), .val (.int p2), .val (.int ((p1 &&& (2147483647 : Int32)) % (13 : Int32))), .unset, .unset, .unset, .unset, .unset]) rfl ?_
    show Steps p.tables e below (s₁.setTop (mkF m 8 #[.val (.int p1), .val (.int p2), .val (.int ((p1 &&& (2147483647 : Int32)) % (13 : Int32))), .unset, .unset, .unset, .unset, .unset] [])) _
    exact k
  obtain ⟨kx, hkx⟩ : ∃ z : Int32, z = ((p1 &&& (2147483647 : Int32)) % (13 : Int32)) := ⟨_, rfl⟩
  rw [← hkx] at P1
  have hkr := own_rem hkx (by decide : (13 : Int32).toInt = 13) (by decide)
  have hkin : ¬ kx < (0 : Int32) ∧ kx < (13 : Int32) := own_in hkr (by decide)
  have P2 : ∀ t, Steps p.tables e below (s₁.setTop (mkF m 11 #[.val (.int p1), .val (.int p2), .val (.int kx), .val (.int (p2.toInt16.toInt32)), .unset, .unset, .unset, .unset] [])) t → Steps p.tables e below (s₁.setTop (entryFrame m #[(.int p1), (.int p2)] maxLocals)) t := by
    intro t k
    refine P1 _ ?_
    refine XS.iloadN X0.here hx rfl (hb hby at_8) rfl ?_
    show Steps p.tables e below (s₁.setTop (mkF m 9 #[.val (.int p1), .val (.int p2), .val (.int kx), .unset, .unset, .unset, .unset, .unset] [(.int p2)])) _
    refine XT.i2s X0.here hx rfl (hb hby at_9) rfl ?_
    show Steps p.tables e below (s₁.setTop (mkF m 10 #[.val (.int p1), .val (.int p2), .val (.int kx), .unset, .unset, .unset, .unset, .unset] [(.int (p2.toInt16.toInt32))])) _
    refine XS.istoreN X0.here hx rfl (hb hby at_10) rfl (l' := #[.val (.int p1), .val (.int p2), .val (.int kx), .val (.int (p2.toInt16.toInt32)), .unset, .unset, .unset, .unset]) rfl ?_
    show Steps p.tables e below (s₁.setTop (mkF m 11 #[.val (.int p1), .val (.int p2), .val (.int kx), .val (.int (p2.toInt16.toInt32)), .unset, .unset, .unset, .unset] [])) _
    exact k
  obtain ⟨sv, hsv⟩ : ∃ z : Int32, z = (p2.toInt16.toInt32) := ⟨_, rfl⟩
  rw [← hsv] at P2
  have P3 : ∀ t, Steps p.tables e below (s₁.setTop (mkF m 13 #[.val (.int p1), .val (.int p2), .val (.int kx), .val (.int sv), .unset, .unset, .unset, .unset] [(.int (13 : Int32))])) t → Steps p.tables e below (s₁.setTop (entryFrame m #[(.int p1), (.int p2)] maxLocals)) t := by
    intro t k
    refine P2 _ ?_
    refine XS.bipush X0.here hx rfl (hb hby at_11) ?_
    show Steps p.tables e below (s₁.setTop (mkF m 13 #[.val (.int p1), .val (.int p2), .val (.int kx), .val (.int sv), .unset, .unset, .unset, .unset] [(.int (13 : Int32))])) _
    exact k
  obtain ⟨T4, h4, k4, X4, e4, E4, A4, st4⟩ := newP X0 hx hZ (hw _ (List.mem_of_getElem? (i := 1) rfl)) e0 (g := (mkF m 13 #[.val (.int p1), .val (.int p2), .val (.int kx), .val (.int sv), .unset, .unset, .unset, .unset] [(.int (13 : Int32))])) rfl (hb hby at_13) rfl (by decide) (cap := 13) (by decide) (by decide) (by decide) (by decide)
  obtain ⟨blo, g4⟩ : ∃ z, z = h0.size := ⟨_, rfl⟩
  rw [← g4] at A4 st4
  have F5 : Old Z n0 h4 := O0.ext E4
  obtain ⟨kc_blo, hkc_blo⟩ : ∃ z, z = k4 := ⟨_, rfl⟩
  rw [← hkc_blo] at A4
  have F6 : Arv Z h4 blo kc_blo .int (13 : Int32) [(.int (0 : Int32)), (.int (0 : Int32)), (.int (0 : Int32)), (.int (0 : Int32)), (.int (0 : Int32)), (.int (0 : Int32)), (.int (0 : Int32)), (.int (0 : Int32)), (.int (0 : Int32)), (.int (0 : Int32)), (.int (0 : Int32)), (.int (0 : Int32)), (.int (0 : Int32))] (.int (0 : Int32)) := (Arv.new A4 (by decide)).pad (pad_rep [] (.int (0 : Int32)) 13)
  have Z7 : n0 ≤ h4.size := Nat.le_trans Z0 E4.1
  have K8 : Keep h0 h4 [] := K0.ext E4
  have g_blo : n0 ≤ blo := Nat.le_trans Z0 (Nat.le_of_eq g4.symm)
  have sz_blo : h0.size ≤ blo := Nat.le_trans K0.1 (Nat.le_of_eq g4.symm)
  have P9 : ∀ t, Steps p.tables e below (T4.setTop (mkF m 15 #[.val (.int p1), .val (.int p2), .val (.int kx), .val (.int sv), .unset, .unset, .unset, .unset] [(.ref blo)])) t → Steps p.tables e below (s₁.setTop (entryFrame m #[(.int p1), (.int p2)] maxLocals)) t := fun t k => P3 _ (st4 _ k)
  have P10 : ∀ t, Steps p.tables e below (T4.setTop (mkF m 18 #[.val (.int p1), .val (.int p2), .val (.int kx), .val (.int sv), .unset, .unset, .unset, .unset] [(.int (3 : Int32)), (.int (0 : Int32)), (.ref blo), (.ref blo)])) t → Steps p.tables e below (s₁.setTop (entryFrame m #[(.int p1), (.int p2)] maxLocals)) t := by
    intro t k
    refine P9 _ ?_
    refine XS.dup X4.here hx rfl (hb hby at_15) rfl rfl ?_
    show Steps p.tables e below (T4.setTop (mkF m 16 #[.val (.int p1), .val (.int p2), .val (.int kx), .val (.int sv), .unset, .unset, .unset, .unset] [(.ref blo), (.ref blo)])) _
    refine XS.iconst X4.here hx rfl (hb hby at_16) ?_
    show Steps p.tables e below (T4.setTop (mkF m 17 #[.val (.int p1), .val (.int p2), .val (.int kx), .val (.int sv), .unset, .unset, .unset, .unset] [(.int (0 : Int32)), (.ref blo), (.ref blo)])) _
    refine XS.iconst X4.here hx rfl (hb hby at_17) ?_
    show Steps p.tables e below (T4.setTop (mkF m 18 #[.val (.int p1), .val (.int p2), .val (.int kx), .val (.int sv), .unset, .unset, .unset, .unset] [(.int (3 : Int32)), (.int (0 : Int32)), (.ref blo), (.ref blo)])) _
    exact k
  obtain ⟨cl11, Ar11, q11, S11, M11, H11, G11⟩ := F6
  have in11 : ¬ ((0 : Int32) < 0 ∨ cl11.slots.size ≤ ((0 : Int32)).toNatClampNeg) := inb_of S11 ⟨by decide, by decide⟩
  obtain ⟨T11, h11, X11, e11, W11, st11⟩ := stI X4 hx hZ e4 Ar11 (j := (0 : Int32)) in11 (g := (mkF m 18 #[.val (.int p1), .val (.int p2), .val (.int kx), .val (.int sv), .unset, .unset, .unset, .unset] [(.int (3 : Int32)), (.int (0 : Int32)), (.ref blo), (.ref blo)])) rfl rfl (hb hby at_18)
  have F12 : Old Z n0 h11 := F5.wr W11 g_blo
  have F13 : Arv Z h11 blo kc_blo .int (13 : Int32) [(.int (3 : Int32)), (.int (0 : Int32)), (.int (0 : Int32)), (.int (0 : Int32)), (.int (0 : Int32)), (.int (0 : Int32)), (.int (0 : Int32)), (.int (0 : Int32)), (.int (0 : Int32)), (.int (0 : Int32)), (.int (0 : Int32)), (.int (0 : Int32)), (.int (0 : Int32))] (.int (0 : Int32)) := Arv.set Ar11 q11 S11 M11 H11 G11 rfl W11 0 rfl (Nat.le_of_ble_eq_true rfl)
  have Z14 : n0 ≤ h11.size := Nat.le_trans Z7 (Keep.of_wr W11).1
  have K15 : Keep h0 h11 [] := K8.wr W11 (Or.inr sz_blo)
  obtain ⟨LL11, X11, N11⟩ := own_gen X11 (Fr.snoc X11 N0 g_blo)
  have P16 : ∀ t, Steps p.tables e below (T11.setTop (mkF m 19 #[.val (.int p1), .val (.int p2), .val (.int kx), .val (.int sv), .unset, .unset, .unset, .unset] [(.ref blo)])) t → Steps p.tables e below (s₁.setTop (entryFrame m #[(.int p1), (.int p2)] maxLocals)) t := fun t k => P10 _ (st11 _ k)
  have P17 : ∀ t, Steps p.tables e below (T11.setTop (mkF m 22 #[.val (.int p1), .val (.int p2), .val (.int kx), .val (.int sv), .unset, .unset, .unset, .unset] [(.int (4 : Int32)), (.int (1 : Int32)), (.ref blo), (.ref blo)])) t → Steps p.tables e below (s₁.setTop (entryFrame m #[(.int p1), (.int p2)] maxLocals)) t := by
    intro t k
    refine P16 _ ?_
    refine XS.dup X11.here hx rfl (hb hby at_19) rfl rfl ?_
    show Steps p.tables e below (T11.setTop (mkF m 20 #[.val (.int p1), .val (.int p2), .val (.int kx), .val (.int sv), .unset, .unset, .unset, .unset] [(.ref blo), (.ref blo)])) _
    refine XS.iconst X11.here hx rfl (hb hby at_20) ?_
    show Steps p.tables e below (T11.setTop (mkF m 21 #[.val (.int p1), .val (.int p2), .val (.int kx), .val (.int sv), .unset, .unset, .unset, .unset] [(.int (1 : Int32)), (.ref blo), (.ref blo)])) _
    refine XS.iconst X11.here hx rfl (hb hby at_21) ?_
    show Steps p.tables e below (T11.setTop (mkF m 22 #[.val (.int p1), .val (.int p2), .val (.int kx), .val (.int sv), .unset, .unset, .unset, .unset] [(.int (4 : Int32)), (.int (1 : Int32)), (.ref blo), (.ref blo)])) _
    exact k
  obtain ⟨cl18, Ar18, q18, S18, M18, H18, G18⟩ := F13
  have in18 : ¬ ((1 : Int32) < 0 ∨ cl18.slots.size ≤ ((1 : Int32)).toNatClampNeg) := inb_of S18 ⟨by decide, by decide⟩
  obtain ⟨T18, h18, X18, e18, W18, st18⟩ := stI X11 hx hZ e11 Ar18 (j := (1 : Int32)) in18 (g := (mkF m 22 #[.val (.int p1), .val (.int p2), .val (.int kx), .val (.int sv), .unset, .unset, .unset, .unset] [(.int (4 : Int32)), (.int (1 : Int32)), (.ref blo), (.ref blo)])) rfl rfl (hb hby at_22)
  have F19 : Old Z n0 h18 := F12.wr W18 g_blo
  have F20 : Arv Z h18 blo kc_blo .int (13 : Int32) [(.int (3 : Int32)), (.int (4 : Int32)), (.int (0 : Int32)), (.int (0 : Int32)), (.int (0 : Int32)), (.int (0 : Int32)), (.int (0 : Int32)), (.int (0 : Int32)), (.int (0 : Int32)), (.int (0 : Int32)), (.int (0 : Int32)), (.int (0 : Int32)), (.int (0 : Int32))] (.int (0 : Int32)) := Arv.set Ar18 q18 S18 M18 H18 G18 rfl W18 1 rfl (Nat.le_of_ble_eq_true rfl)
  have Z21 : n0 ≤ h18.size := Nat.le_trans Z14 (Keep.of_wr W18).1
  have K22 : Keep h0 h18 [] := K15.wr W18 (Or.inr sz_blo)
  obtain ⟨LL18, X18, N18⟩ := own_gen X18 (Fr.snoc X18 N11 g_blo)
  have P23 : ∀ t, Steps p.tables e below (T18.setTop (mkF m 23 #[.val (.int p1), .val (.int p2), .val (.int kx), .val (.int sv), .unset, .unset, .unset, .unset] [(.ref blo)])) t → Steps p.tables e below (s₁.setTop (entryFrame m #[(.int p1), (.int p2)] maxLocals)) t := fun t k => P17 _ (st18 _ k)
  have P24 : ∀ t, Steps p.tables e below (T18.setTop (mkF m 26 #[.val (.int p1), .val (.int p2), .val (.int kx), .val (.int sv), .unset, .unset, .unset, .unset] [(.int (1 : Int32)), (.int (2 : Int32)), (.ref blo), (.ref blo)])) t → Steps p.tables e below (s₁.setTop (entryFrame m #[(.int p1), (.int p2)] maxLocals)) t := by
    intro t k
    refine P23 _ ?_
    refine XS.dup X18.here hx rfl (hb hby at_23) rfl rfl ?_
    show Steps p.tables e below (T18.setTop (mkF m 24 #[.val (.int p1), .val (.int p2), .val (.int kx), .val (.int sv), .unset, .unset, .unset, .unset] [(.ref blo), (.ref blo)])) _
    refine XS.iconst X18.here hx rfl (hb hby at_24) ?_
    show Steps p.tables e below (T18.setTop (mkF m 25 #[.val (.int p1), .val (.int p2), .val (.int kx), .val (.int sv), .unset, .unset, .unset, .unset] [(.int (2 : Int32)), (.ref blo), (.ref blo)])) _
    refine XS.iconst X18.here hx rfl (hb hby at_25) ?_
    show Steps p.tables e below (T18.setTop (mkF m 26 #[.val (.int p1), .val (.int p2), .val (.int kx), .val (.int sv), .unset, .unset, .unset, .unset] [(.int (1 : Int32)), (.int (2 : Int32)), (.ref blo), (.ref blo)])) _
    exact k
  obtain ⟨cl25, Ar25, q25, S25, M25, H25, G25⟩ := F20
  have in25 : ¬ ((2 : Int32) < 0 ∨ cl25.slots.size ≤ ((2 : Int32)).toNatClampNeg) := inb_of S25 ⟨by decide, by decide⟩
  obtain ⟨T25, h25, X25, e25, W25, st25⟩ := stI X18 hx hZ e18 Ar25 (j := (2 : Int32)) in25 (g := (mkF m 26 #[.val (.int p1), .val (.int p2), .val (.int kx), .val (.int sv), .unset, .unset, .unset, .unset] [(.int (1 : Int32)), (.int (2 : Int32)), (.ref blo), (.ref blo)])) rfl rfl (hb hby at_26)
  have F26 : Old Z n0 h25 := F19.wr W25 g_blo
  have F27 : Arv Z h25 blo kc_blo .int (13 : Int32) [(.int (3 : Int32)), (.int (4 : Int32)), (.int (1 : Int32)), (.int (0 : Int32)), (.int (0 : Int32)), (.int (0 : Int32)), (.int (0 : Int32)), (.int (0 : Int32)), (.int (0 : Int32)), (.int (0 : Int32)), (.int (0 : Int32)), (.int (0 : Int32)), (.int (0 : Int32))] (.int (0 : Int32)) := Arv.set Ar25 q25 S25 M25 H25 G25 rfl W25 2 rfl (Nat.le_of_ble_eq_true rfl)
  have Z28 : n0 ≤ h25.size := Nat.le_trans Z21 (Keep.of_wr W25).1
  have K29 : Keep h0 h25 [] := K22.wr W25 (Or.inr sz_blo)
  obtain ⟨LL25, X25, N25⟩ := own_gen X25 (Fr.snoc X25 N18 g_blo)
  have P30 : ∀ t, Steps p.tables e below (T25.setTop (mkF m 27 #[.val (.int p1), .val (.int p2), .val (.int kx), .val (.int sv), .unset, .unset, .unset, .unset] [(.ref blo)])) t → Steps p.tables e below (s₁.setTop (entryFrame m #[(.int p1), (.int p2)] maxLocals)) t := fun t k => P24 _ (st25 _ k)
  have P31 : ∀ t, Steps p.tables e below (T25.setTop (mkF m 30 #[.val (.int p1), .val (.int p2), .val (.int kx), .val (.int sv), .unset, .unset, .unset, .unset] [(.int (0 : Int32)), (.int (3 : Int32)), (.ref blo), (.ref blo)])) t → Steps p.tables e below (s₁.setTop (entryFrame m #[(.int p1), (.int p2)] maxLocals)) t := by
    intro t k
    refine P30 _ ?_
    refine XS.dup X25.here hx rfl (hb hby at_27) rfl rfl ?_
    show Steps p.tables e below (T25.setTop (mkF m 28 #[.val (.int p1), .val (.int p2), .val (.int kx), .val (.int sv), .unset, .unset, .unset, .unset] [(.ref blo), (.ref blo)])) _
    refine XS.iconst X25.here hx rfl (hb hby at_28) ?_
    show Steps p.tables e below (T25.setTop (mkF m 29 #[.val (.int p1), .val (.int p2), .val (.int kx), .val (.int sv), .unset, .unset, .unset, .unset] [(.int (3 : Int32)), (.ref blo), (.ref blo)])) _
    refine XS.iconst X25.here hx rfl (hb hby at_29) ?_
    show Steps p.tables e below (T25.setTop (mkF m 30 #[.val (.int p1), .val (.int p2), .val (.int kx), .val (.int sv), .unset, .unset, .unset, .unset] [(.int (0 : Int32)), (.int (3 : Int32)), (.ref blo), (.ref blo)])) _
    exact k
  obtain ⟨cl32, Ar32, q32, S32, M32, H32, G32⟩ := F27
  have in32 : ¬ ((3 : Int32) < 0 ∨ cl32.slots.size ≤ ((3 : Int32)).toNatClampNeg) := inb_of S32 ⟨by decide, by decide⟩
  obtain ⟨T32, h32, X32, e32, W32, st32⟩ := stI X25 hx hZ e25 Ar32 (j := (3 : Int32)) in32 (g := (mkF m 30 #[.val (.int p1), .val (.int p2), .val (.int kx), .val (.int sv), .unset, .unset, .unset, .unset] [(.int (0 : Int32)), (.int (3 : Int32)), (.ref blo), (.ref blo)])) rfl rfl (hb hby at_30)
  have F33 : Old Z n0 h32 := F26.wr W32 g_blo
  have F34 : Arv Z h32 blo kc_blo .int (13 : Int32) [(.int (3 : Int32)), (.int (4 : Int32)), (.int (1 : Int32)), (.int (0 : Int32)), (.int (0 : Int32)), (.int (0 : Int32)), (.int (0 : Int32)), (.int (0 : Int32)), (.int (0 : Int32)), (.int (0 : Int32)), (.int (0 : Int32)), (.int (0 : Int32)), (.int (0 : Int32))] (.int (0 : Int32)) := Arv.set Ar32 q32 S32 M32 H32 G32 rfl W32 3 rfl (Nat.le_of_ble_eq_true rfl)
  have Z35 : n0 ≤ h32.size := Nat.le_trans Z28 (Keep.of_wr W32).1
  have K36 : Keep h0 h32 [] := K29.wr W32 (Or.inr sz_blo)
  obtain ⟨LL32, X32, N32⟩ := own_gen X32 (Fr.snoc X32 N25 g_blo)
  have P37 : ∀ t, Steps p.tables e below (T32.setTop (mkF m 31 #[.val (.int p1), .val (.int p2), .val (.int kx), .val (.int sv), .unset, .unset, .unset, .unset] [(.ref blo)])) t → Steps p.tables e below (s₁.setTop (entryFrame m #[(.int p1), (.int p2)] maxLocals)) t := fun t k => P31 _ (st32 _ k)
  have P38 : ∀ t, Steps p.tables e below (T32.setTop (mkF m 34 #[.val (.int p1), .val (.int p2), .val (.int kx), .val (.int sv), .unset, .unset, .unset, .unset] [(.int (2 : Int32)), (.int (4 : Int32)), (.ref blo), (.ref blo)])) t → Steps p.tables e below (s₁.setTop (entryFrame m #[(.int p1), (.int p2)] maxLocals)) t := by
    intro t k
    refine P37 _ ?_
    refine XS.dup X32.here hx rfl (hb hby at_31) rfl rfl ?_
    show Steps p.tables e below (T32.setTop (mkF m 32 #[.val (.int p1), .val (.int p2), .val (.int kx), .val (.int sv), .unset, .unset, .unset, .unset] [(.ref blo), (.ref blo)])) _
    refine XS.iconst X32.here hx rfl (hb hby at_32) ?_
    show Steps p.tables e below (T32.setTop (mkF m 33 #[.val (.int p1), .val (.int p2), .val (.int kx), .val (.int sv), .unset, .unset, .unset, .unset] [(.int (4 : Int32)), (.ref blo), (.ref blo)])) _
    refine XS.iconst X32.here hx rfl (hb hby at_33) ?_
    show Steps p.tables e below (T32.setTop (mkF m 34 #[.val (.int p1), .val (.int p2), .val (.int kx), .val (.int sv), .unset, .unset, .unset, .unset] [(.int (2 : Int32)), (.int (4 : Int32)), (.ref blo), (.ref blo)])) _
    exact k
  obtain ⟨cl39, Ar39, q39, S39, M39, H39, G39⟩ := F34
  have in39 : ¬ ((4 : Int32) < 0 ∨ cl39.slots.size ≤ ((4 : Int32)).toNatClampNeg) := inb_of S39 ⟨by decide, by decide⟩
  obtain ⟨T39, h39, X39, e39, W39, st39⟩ := stI X32 hx hZ e32 Ar39 (j := (4 : Int32)) in39 (g := (mkF m 34 #[.val (.int p1), .val (.int p2), .val (.int kx), .val (.int sv), .unset, .unset, .unset, .unset] [(.int (2 : Int32)), (.int (4 : Int32)), (.ref blo), (.ref blo)])) rfl rfl (hb hby at_34)
  have F40 : Old Z n0 h39 := F33.wr W39 g_blo
  have F41 : Arv Z h39 blo kc_blo .int (13 : Int32) [(.int (3 : Int32)), (.int (4 : Int32)), (.int (1 : Int32)), (.int (0 : Int32)), (.int (2 : Int32)), (.int (0 : Int32)), (.int (0 : Int32)), (.int (0 : Int32)), (.int (0 : Int32)), (.int (0 : Int32)), (.int (0 : Int32)), (.int (0 : Int32)), (.int (0 : Int32))] (.int (0 : Int32)) := Arv.set Ar39 q39 S39 M39 H39 G39 rfl W39 4 rfl (Nat.le_of_ble_eq_true rfl)
  have Z42 : n0 ≤ h39.size := Nat.le_trans Z35 (Keep.of_wr W39).1
  have K43 : Keep h0 h39 [] := K36.wr W39 (Or.inr sz_blo)
  obtain ⟨LL39, X39, N39⟩ := own_gen X39 (Fr.snoc X39 N32 g_blo)
  have P44 : ∀ t, Steps p.tables e below (T39.setTop (mkF m 35 #[.val (.int p1), .val (.int p2), .val (.int kx), .val (.int sv), .unset, .unset, .unset, .unset] [(.ref blo)])) t → Steps p.tables e below (s₁.setTop (entryFrame m #[(.int p1), (.int p2)] maxLocals)) t := fun t k => P38 _ (st39 _ k)
  have P45 : ∀ t, Steps p.tables e below (T39.setTop (mkF m 38 #[.val (.int p1), .val (.int p2), .val (.int kx), .val (.int sv), .unset, .unset, .unset, .unset] [(.int (1 : Int32)), (.int (5 : Int32)), (.ref blo), (.ref blo)])) t → Steps p.tables e below (s₁.setTop (entryFrame m #[(.int p1), (.int p2)] maxLocals)) t := by
    intro t k
    refine P44 _ ?_
    refine XS.dup X39.here hx rfl (hb hby at_35) rfl rfl ?_
    show Steps p.tables e below (T39.setTop (mkF m 36 #[.val (.int p1), .val (.int p2), .val (.int kx), .val (.int sv), .unset, .unset, .unset, .unset] [(.ref blo), (.ref blo)])) _
    refine XS.iconst X39.here hx rfl (hb hby at_36) ?_
    show Steps p.tables e below (T39.setTop (mkF m 37 #[.val (.int p1), .val (.int p2), .val (.int kx), .val (.int sv), .unset, .unset, .unset, .unset] [(.int (5 : Int32)), (.ref blo), (.ref blo)])) _
    refine XS.iconst X39.here hx rfl (hb hby at_37) ?_
    show Steps p.tables e below (T39.setTop (mkF m 38 #[.val (.int p1), .val (.int p2), .val (.int kx), .val (.int sv), .unset, .unset, .unset, .unset] [(.int (1 : Int32)), (.int (5 : Int32)), (.ref blo), (.ref blo)])) _
    exact k
  obtain ⟨cl46, Ar46, q46, S46, M46, H46, G46⟩ := F41
  have in46 : ¬ ((5 : Int32) < 0 ∨ cl46.slots.size ≤ ((5 : Int32)).toNatClampNeg) := inb_of S46 ⟨by decide, by decide⟩
  obtain ⟨T46, h46, X46, e46, W46, st46⟩ := stI X39 hx hZ e39 Ar46 (j := (5 : Int32)) in46 (g := (mkF m 38 #[.val (.int p1), .val (.int p2), .val (.int kx), .val (.int sv), .unset, .unset, .unset, .unset] [(.int (1 : Int32)), (.int (5 : Int32)), (.ref blo), (.ref blo)])) rfl rfl (hb hby at_38)
  have F47 : Old Z n0 h46 := F40.wr W46 g_blo
  have F48 : Arv Z h46 blo kc_blo .int (13 : Int32) [(.int (3 : Int32)), (.int (4 : Int32)), (.int (1 : Int32)), (.int (0 : Int32)), (.int (2 : Int32)), (.int (1 : Int32)), (.int (0 : Int32)), (.int (0 : Int32)), (.int (0 : Int32)), (.int (0 : Int32)), (.int (0 : Int32)), (.int (0 : Int32)), (.int (0 : Int32))] (.int (0 : Int32)) := Arv.set Ar46 q46 S46 M46 H46 G46 rfl W46 5 rfl (Nat.le_of_ble_eq_true rfl)
  have Z49 : n0 ≤ h46.size := Nat.le_trans Z42 (Keep.of_wr W46).1
  have K50 : Keep h0 h46 [] := K43.wr W46 (Or.inr sz_blo)
  obtain ⟨LL46, X46, N46⟩ := own_gen X46 (Fr.snoc X46 N39 g_blo)
  have P51 : ∀ t, Steps p.tables e below (T46.setTop (mkF m 39 #[.val (.int p1), .val (.int p2), .val (.int kx), .val (.int sv), .unset, .unset, .unset, .unset] [(.ref blo)])) t → Steps p.tables e below (s₁.setTop (entryFrame m #[(.int p1), (.int p2)] maxLocals)) t := fun t k => P45 _ (st46 _ k)
  have P52 : ∀ t, Steps p.tables e below (T46.setTop (mkF m 43 #[.val (.int p1), .val (.int p2), .val (.int kx), .val (.int sv), .unset, .unset, .unset, .unset] [(.int (0 : Int32)), (.int (6 : Int32)), (.ref blo), (.ref blo)])) t → Steps p.tables e below (s₁.setTop (entryFrame m #[(.int p1), (.int p2)] maxLocals)) t := by
    intro t k
    refine P51 _ ?_
    refine XS.dup X46.here hx rfl (hb hby at_39) rfl rfl ?_
    show Steps p.tables e below (T46.setTop (mkF m 40 #[.val (.int p1), .val (.int p2), .val (.int kx), .val (.int sv), .unset, .unset, .unset, .unset] [(.ref blo), (.ref blo)])) _
    refine XS.bipush X46.here hx rfl (hb hby at_40) ?_
    show Steps p.tables e below (T46.setTop (mkF m 42 #[.val (.int p1), .val (.int p2), .val (.int kx), .val (.int sv), .unset, .unset, .unset, .unset] [(.int (6 : Int32)), (.ref blo), (.ref blo)])) _
    refine XS.iconst X46.here hx rfl (hb hby at_42) ?_
    show Steps p.tables e below (T46.setTop (mkF m 43 #[.val (.int p1), .val (.int p2), .val (.int kx), .val (.int sv), .unset, .unset, .unset, .unset] [(.int (0 : Int32)), (.int (6 : Int32)), (.ref blo), (.ref blo)])) _
    exact k
  obtain ⟨cl53, Ar53, q53, S53, M53, H53, G53⟩ := F48
  have in53 : ¬ ((6 : Int32) < 0 ∨ cl53.slots.size ≤ ((6 : Int32)).toNatClampNeg) := inb_of S53 ⟨by decide, by decide⟩
  obtain ⟨T53, h53, X53, e53, W53, st53⟩ := stI X46 hx hZ e46 Ar53 (j := (6 : Int32)) in53 (g := (mkF m 43 #[.val (.int p1), .val (.int p2), .val (.int kx), .val (.int sv), .unset, .unset, .unset, .unset] [(.int (0 : Int32)), (.int (6 : Int32)), (.ref blo), (.ref blo)])) rfl rfl (hb hby at_43)
  have F54 : Old Z n0 h53 := F47.wr W53 g_blo
  have F55 : Arv Z h53 blo kc_blo .int (13 : Int32) [(.int (3 : Int32)), (.int (4 : Int32)), (.int (1 : Int32)), (.int (0 : Int32)), (.int (2 : Int32)), (.int (1 : Int32)), (.int (0 : Int32)), (.int (0 : Int32)), (.int (0 : Int32)), (.int (0 : Int32)), (.int (0 : Int32)), (.int (0 : Int32)), (.int (0 : Int32))] (.int (0 : Int32)) := Arv.set Ar53 q53 S53 M53 H53 G53 rfl W53 6 rfl (Nat.le_of_ble_eq_true rfl)
  have Z56 : n0 ≤ h53.size := Nat.le_trans Z49 (Keep.of_wr W53).1
  have K57 : Keep h0 h53 [] := K50.wr W53 (Or.inr sz_blo)
  obtain ⟨LL53, X53, N53⟩ := own_gen X53 (Fr.snoc X53 N46 g_blo)
  have P58 : ∀ t, Steps p.tables e below (T53.setTop (mkF m 44 #[.val (.int p1), .val (.int p2), .val (.int kx), .val (.int sv), .unset, .unset, .unset, .unset] [(.ref blo)])) t → Steps p.tables e below (s₁.setTop (entryFrame m #[(.int p1), (.int p2)] maxLocals)) t := fun t k => P52 _ (st53 _ k)
  have P59 : ∀ t, Steps p.tables e below (T53.setTop (mkF m 48 #[.val (.int p1), .val (.int p2), .val (.int kx), .val (.int sv), .unset, .unset, .unset, .unset] [(.int (0 : Int32)), (.int (7 : Int32)), (.ref blo), (.ref blo)])) t → Steps p.tables e below (s₁.setTop (entryFrame m #[(.int p1), (.int p2)] maxLocals)) t := by
    intro t k
    refine P58 _ ?_
    refine XS.dup X53.here hx rfl (hb hby at_44) rfl rfl ?_
    show Steps p.tables e below (T53.setTop (mkF m 45 #[.val (.int p1), .val (.int p2), .val (.int kx), .val (.int sv), .unset, .unset, .unset, .unset] [(.ref blo), (.ref blo)])) _
    refine XS.bipush X53.here hx rfl (hb hby at_45) ?_
    show Steps p.tables e below (T53.setTop (mkF m 47 #[.val (.int p1), .val (.int p2), .val (.int kx), .val (.int sv), .unset, .unset, .unset, .unset] [(.int (7 : Int32)), (.ref blo), (.ref blo)])) _
    refine XS.iconst X53.here hx rfl (hb hby at_47) ?_
    show Steps p.tables e below (T53.setTop (mkF m 48 #[.val (.int p1), .val (.int p2), .val (.int kx), .val (.int sv), .unset, .unset, .unset, .unset] [(.int (0 : Int32)), (.int (7 : Int32)), (.ref blo), (.ref blo)])) _
    exact k
  obtain ⟨cl60, Ar60, q60, S60, M60, H60, G60⟩ := F55
  have in60 : ¬ ((7 : Int32) < 0 ∨ cl60.slots.size ≤ ((7 : Int32)).toNatClampNeg) := inb_of S60 ⟨by decide, by decide⟩
  obtain ⟨T60, h60, X60, e60, W60, st60⟩ := stI X53 hx hZ e53 Ar60 (j := (7 : Int32)) in60 (g := (mkF m 48 #[.val (.int p1), .val (.int p2), .val (.int kx), .val (.int sv), .unset, .unset, .unset, .unset] [(.int (0 : Int32)), (.int (7 : Int32)), (.ref blo), (.ref blo)])) rfl rfl (hb hby at_48)
  have F61 : Old Z n0 h60 := F54.wr W60 g_blo
  have F62 : Arv Z h60 blo kc_blo .int (13 : Int32) [(.int (3 : Int32)), (.int (4 : Int32)), (.int (1 : Int32)), (.int (0 : Int32)), (.int (2 : Int32)), (.int (1 : Int32)), (.int (0 : Int32)), (.int (0 : Int32)), (.int (0 : Int32)), (.int (0 : Int32)), (.int (0 : Int32)), (.int (0 : Int32)), (.int (0 : Int32))] (.int (0 : Int32)) := Arv.set Ar60 q60 S60 M60 H60 G60 rfl W60 7 rfl (Nat.le_of_ble_eq_true rfl)
  have Z63 : n0 ≤ h60.size := Nat.le_trans Z56 (Keep.of_wr W60).1
  have K64 : Keep h0 h60 [] := K57.wr W60 (Or.inr sz_blo)
  obtain ⟨LL60, X60, N60⟩ := own_gen X60 (Fr.snoc X60 N53 g_blo)
  have P65 : ∀ t, Steps p.tables e below (T60.setTop (mkF m 49 #[.val (.int p1), .val (.int p2), .val (.int kx), .val (.int sv), .unset, .unset, .unset, .unset] [(.ref blo)])) t → Steps p.tables e below (s₁.setTop (entryFrame m #[(.int p1), (.int p2)] maxLocals)) t := fun t k => P59 _ (st60 _ k)
  have P66 : ∀ t, Steps p.tables e below (T60.setTop (mkF m 53 #[.val (.int p1), .val (.int p2), .val (.int kx), .val (.int sv), .unset, .unset, .unset, .unset] [(.int (0 : Int32)), (.int (8 : Int32)), (.ref blo), (.ref blo)])) t → Steps p.tables e below (s₁.setTop (entryFrame m #[(.int p1), (.int p2)] maxLocals)) t := by
    intro t k
    refine P65 _ ?_
    refine XS.dup X60.here hx rfl (hb hby at_49) rfl rfl ?_
    show Steps p.tables e below (T60.setTop (mkF m 50 #[.val (.int p1), .val (.int p2), .val (.int kx), .val (.int sv), .unset, .unset, .unset, .unset] [(.ref blo), (.ref blo)])) _
    refine XS.bipush X60.here hx rfl (hb hby at_50) ?_
    show Steps p.tables e below (T60.setTop (mkF m 52 #[.val (.int p1), .val (.int p2), .val (.int kx), .val (.int sv), .unset, .unset, .unset, .unset] [(.int (8 : Int32)), (.ref blo), (.ref blo)])) _
    refine XS.iconst X60.here hx rfl (hb hby at_52) ?_
    show Steps p.tables e below (T60.setTop (mkF m 53 #[.val (.int p1), .val (.int p2), .val (.int kx), .val (.int sv), .unset, .unset, .unset, .unset] [(.int (0 : Int32)), (.int (8 : Int32)), (.ref blo), (.ref blo)])) _
    exact k
  obtain ⟨cl67, Ar67, q67, S67, M67, H67, G67⟩ := F62
  have in67 : ¬ ((8 : Int32) < 0 ∨ cl67.slots.size ≤ ((8 : Int32)).toNatClampNeg) := inb_of S67 ⟨by decide, by decide⟩
  obtain ⟨T67, h67, X67, e67, W67, st67⟩ := stI X60 hx hZ e60 Ar67 (j := (8 : Int32)) in67 (g := (mkF m 53 #[.val (.int p1), .val (.int p2), .val (.int kx), .val (.int sv), .unset, .unset, .unset, .unset] [(.int (0 : Int32)), (.int (8 : Int32)), (.ref blo), (.ref blo)])) rfl rfl (hb hby at_53)
  have F68 : Old Z n0 h67 := F61.wr W67 g_blo
  have F69 : Arv Z h67 blo kc_blo .int (13 : Int32) [(.int (3 : Int32)), (.int (4 : Int32)), (.int (1 : Int32)), (.int (0 : Int32)), (.int (2 : Int32)), (.int (1 : Int32)), (.int (0 : Int32)), (.int (0 : Int32)), (.int (0 : Int32)), (.int (0 : Int32)), (.int (0 : Int32)), (.int (0 : Int32)), (.int (0 : Int32))] (.int (0 : Int32)) := Arv.set Ar67 q67 S67 M67 H67 G67 rfl W67 8 rfl (Nat.le_of_ble_eq_true rfl)
  have Z70 : n0 ≤ h67.size := Nat.le_trans Z63 (Keep.of_wr W67).1
  have K71 : Keep h0 h67 [] := K64.wr W67 (Or.inr sz_blo)
  obtain ⟨LL67, X67, N67⟩ := own_gen X67 (Fr.snoc X67 N60 g_blo)
  have P72 : ∀ t, Steps p.tables e below (T67.setTop (mkF m 54 #[.val (.int p1), .val (.int p2), .val (.int kx), .val (.int sv), .unset, .unset, .unset, .unset] [(.ref blo)])) t → Steps p.tables e below (s₁.setTop (entryFrame m #[(.int p1), (.int p2)] maxLocals)) t := fun t k => P66 _ (st67 _ k)
  have P73 : ∀ t, Steps p.tables e below (T67.setTop (mkF m 58 #[.val (.int p1), .val (.int p2), .val (.int kx), .val (.int sv), .unset, .unset, .unset, .unset] [(.int (0 : Int32)), (.int (9 : Int32)), (.ref blo), (.ref blo)])) t → Steps p.tables e below (s₁.setTop (entryFrame m #[(.int p1), (.int p2)] maxLocals)) t := by
    intro t k
    refine P72 _ ?_
    refine XS.dup X67.here hx rfl (hb hby at_54) rfl rfl ?_
    show Steps p.tables e below (T67.setTop (mkF m 55 #[.val (.int p1), .val (.int p2), .val (.int kx), .val (.int sv), .unset, .unset, .unset, .unset] [(.ref blo), (.ref blo)])) _
    refine XS.bipush X67.here hx rfl (hb hby at_55) ?_
    show Steps p.tables e below (T67.setTop (mkF m 57 #[.val (.int p1), .val (.int p2), .val (.int kx), .val (.int sv), .unset, .unset, .unset, .unset] [(.int (9 : Int32)), (.ref blo), (.ref blo)])) _
    refine XS.iconst X67.here hx rfl (hb hby at_57) ?_
    show Steps p.tables e below (T67.setTop (mkF m 58 #[.val (.int p1), .val (.int p2), .val (.int kx), .val (.int sv), .unset, .unset, .unset, .unset] [(.int (0 : Int32)), (.int (9 : Int32)), (.ref blo), (.ref blo)])) _
    exact k
  obtain ⟨cl74, Ar74, q74, S74, M74, H74, G74⟩ := F69
  have in74 : ¬ ((9 : Int32) < 0 ∨ cl74.slots.size ≤ ((9 : Int32)).toNatClampNeg) := inb_of S74 ⟨by decide, by decide⟩
  obtain ⟨T74, h74, X74, e74, W74, st74⟩ := stI X67 hx hZ e67 Ar74 (j := (9 : Int32)) in74 (g := (mkF m 58 #[.val (.int p1), .val (.int p2), .val (.int kx), .val (.int sv), .unset, .unset, .unset, .unset] [(.int (0 : Int32)), (.int (9 : Int32)), (.ref blo), (.ref blo)])) rfl rfl (hb hby at_58)
  have F75 : Old Z n0 h74 := F68.wr W74 g_blo
  have F76 : Arv Z h74 blo kc_blo .int (13 : Int32) [(.int (3 : Int32)), (.int (4 : Int32)), (.int (1 : Int32)), (.int (0 : Int32)), (.int (2 : Int32)), (.int (1 : Int32)), (.int (0 : Int32)), (.int (0 : Int32)), (.int (0 : Int32)), (.int (0 : Int32)), (.int (0 : Int32)), (.int (0 : Int32)), (.int (0 : Int32))] (.int (0 : Int32)) := Arv.set Ar74 q74 S74 M74 H74 G74 rfl W74 9 rfl (Nat.le_of_ble_eq_true rfl)
  have Z77 : n0 ≤ h74.size := Nat.le_trans Z70 (Keep.of_wr W74).1
  have K78 : Keep h0 h74 [] := K71.wr W74 (Or.inr sz_blo)
  obtain ⟨LL74, X74, N74⟩ := own_gen X74 (Fr.snoc X74 N67 g_blo)
  have P79 : ∀ t, Steps p.tables e below (T74.setTop (mkF m 59 #[.val (.int p1), .val (.int p2), .val (.int kx), .val (.int sv), .unset, .unset, .unset, .unset] [(.ref blo)])) t → Steps p.tables e below (s₁.setTop (entryFrame m #[(.int p1), (.int p2)] maxLocals)) t := fun t k => P73 _ (st74 _ k)
  have P80 : ∀ t, Steps p.tables e below (T74.setTop (mkF m 63 #[.val (.int p1), .val (.int p2), .val (.int kx), .val (.int sv), .unset, .unset, .unset, .unset] [(.int (0 : Int32)), (.int (10 : Int32)), (.ref blo), (.ref blo)])) t → Steps p.tables e below (s₁.setTop (entryFrame m #[(.int p1), (.int p2)] maxLocals)) t := by
    intro t k
    refine P79 _ ?_
    refine XS.dup X74.here hx rfl (hb hby at_59) rfl rfl ?_
    show Steps p.tables e below (T74.setTop (mkF m 60 #[.val (.int p1), .val (.int p2), .val (.int kx), .val (.int sv), .unset, .unset, .unset, .unset] [(.ref blo), (.ref blo)])) _
    refine XS.bipush X74.here hx rfl (hb hby at_60) ?_
    show Steps p.tables e below (T74.setTop (mkF m 62 #[.val (.int p1), .val (.int p2), .val (.int kx), .val (.int sv), .unset, .unset, .unset, .unset] [(.int (10 : Int32)), (.ref blo), (.ref blo)])) _
    refine XS.iconst X74.here hx rfl (hb hby at_62) ?_
    show Steps p.tables e below (T74.setTop (mkF m 63 #[.val (.int p1), .val (.int p2), .val (.int kx), .val (.int sv), .unset, .unset, .unset, .unset] [(.int (0 : Int32)), (.int (10 : Int32)), (.ref blo), (.ref blo)])) _
    exact k
  obtain ⟨cl81, Ar81, q81, S81, M81, H81, G81⟩ := F76
  have in81 : ¬ ((10 : Int32) < 0 ∨ cl81.slots.size ≤ ((10 : Int32)).toNatClampNeg) := inb_of S81 ⟨by decide, by decide⟩
  obtain ⟨T81, h81, X81, e81, W81, st81⟩ := stI X74 hx hZ e74 Ar81 (j := (10 : Int32)) in81 (g := (mkF m 63 #[.val (.int p1), .val (.int p2), .val (.int kx), .val (.int sv), .unset, .unset, .unset, .unset] [(.int (0 : Int32)), (.int (10 : Int32)), (.ref blo), (.ref blo)])) rfl rfl (hb hby at_63)
  have F82 : Old Z n0 h81 := F75.wr W81 g_blo
  have F83 : Arv Z h81 blo kc_blo .int (13 : Int32) [(.int (3 : Int32)), (.int (4 : Int32)), (.int (1 : Int32)), (.int (0 : Int32)), (.int (2 : Int32)), (.int (1 : Int32)), (.int (0 : Int32)), (.int (0 : Int32)), (.int (0 : Int32)), (.int (0 : Int32)), (.int (0 : Int32)), (.int (0 : Int32)), (.int (0 : Int32))] (.int (0 : Int32)) := Arv.set Ar81 q81 S81 M81 H81 G81 rfl W81 10 rfl (Nat.le_of_ble_eq_true rfl)
  have Z84 : n0 ≤ h81.size := Nat.le_trans Z77 (Keep.of_wr W81).1
  have K85 : Keep h0 h81 [] := K78.wr W81 (Or.inr sz_blo)
  obtain ⟨LL81, X81, N81⟩ := own_gen X81 (Fr.snoc X81 N74 g_blo)
  have P86 : ∀ t, Steps p.tables e below (T81.setTop (mkF m 64 #[.val (.int p1), .val (.int p2), .val (.int kx), .val (.int sv), .unset, .unset, .unset, .unset] [(.ref blo)])) t → Steps p.tables e below (s₁.setTop (entryFrame m #[(.int p1), (.int p2)] maxLocals)) t := fun t k => P80 _ (st81 _ k)
  have P87 : ∀ t, Steps p.tables e below (T81.setTop (mkF m 68 #[.val (.int p1), .val (.int p2), .val (.int kx), .val (.int sv), .unset, .unset, .unset, .unset] [(.int (0 : Int32)), (.int (11 : Int32)), (.ref blo), (.ref blo)])) t → Steps p.tables e below (s₁.setTop (entryFrame m #[(.int p1), (.int p2)] maxLocals)) t := by
    intro t k
    refine P86 _ ?_
    refine XS.dup X81.here hx rfl (hb hby at_64) rfl rfl ?_
    show Steps p.tables e below (T81.setTop (mkF m 65 #[.val (.int p1), .val (.int p2), .val (.int kx), .val (.int sv), .unset, .unset, .unset, .unset] [(.ref blo), (.ref blo)])) _
    refine XS.bipush X81.here hx rfl (hb hby at_65) ?_
    show Steps p.tables e below (T81.setTop (mkF m 67 #[.val (.int p1), .val (.int p2), .val (.int kx), .val (.int sv), .unset, .unset, .unset, .unset] [(.int (11 : Int32)), (.ref blo), (.ref blo)])) _
    refine XS.iconst X81.here hx rfl (hb hby at_67) ?_
    show Steps p.tables e below (T81.setTop (mkF m 68 #[.val (.int p1), .val (.int p2), .val (.int kx), .val (.int sv), .unset, .unset, .unset, .unset] [(.int (0 : Int32)), (.int (11 : Int32)), (.ref blo), (.ref blo)])) _
    exact k
  obtain ⟨cl88, Ar88, q88, S88, M88, H88, G88⟩ := F83
  have in88 : ¬ ((11 : Int32) < 0 ∨ cl88.slots.size ≤ ((11 : Int32)).toNatClampNeg) := inb_of S88 ⟨by decide, by decide⟩
  obtain ⟨T88, h88, X88, e88, W88, st88⟩ := stI X81 hx hZ e81 Ar88 (j := (11 : Int32)) in88 (g := (mkF m 68 #[.val (.int p1), .val (.int p2), .val (.int kx), .val (.int sv), .unset, .unset, .unset, .unset] [(.int (0 : Int32)), (.int (11 : Int32)), (.ref blo), (.ref blo)])) rfl rfl (hb hby at_68)
  have F89 : Old Z n0 h88 := F82.wr W88 g_blo
  have F90 : Arv Z h88 blo kc_blo .int (13 : Int32) [(.int (3 : Int32)), (.int (4 : Int32)), (.int (1 : Int32)), (.int (0 : Int32)), (.int (2 : Int32)), (.int (1 : Int32)), (.int (0 : Int32)), (.int (0 : Int32)), (.int (0 : Int32)), (.int (0 : Int32)), (.int (0 : Int32)), (.int (0 : Int32)), (.int (0 : Int32))] (.int (0 : Int32)) := Arv.set Ar88 q88 S88 M88 H88 G88 rfl W88 11 rfl (Nat.le_of_ble_eq_true rfl)
  have Z91 : n0 ≤ h88.size := Nat.le_trans Z84 (Keep.of_wr W88).1
  have K92 : Keep h0 h88 [] := K85.wr W88 (Or.inr sz_blo)
  obtain ⟨LL88, X88, N88⟩ := own_gen X88 (Fr.snoc X88 N81 g_blo)
  have P93 : ∀ t, Steps p.tables e below (T88.setTop (mkF m 69 #[.val (.int p1), .val (.int p2), .val (.int kx), .val (.int sv), .unset, .unset, .unset, .unset] [(.ref blo)])) t → Steps p.tables e below (s₁.setTop (entryFrame m #[(.int p1), (.int p2)] maxLocals)) t := fun t k => P87 _ (st88 _ k)
  have P94 : ∀ t, Steps p.tables e below (T88.setTop (mkF m 73 #[.val (.int p1), .val (.int p2), .val (.int kx), .val (.int sv), .unset, .unset, .unset, .unset] [(.int (0 : Int32)), (.int (12 : Int32)), (.ref blo), (.ref blo)])) t → Steps p.tables e below (s₁.setTop (entryFrame m #[(.int p1), (.int p2)] maxLocals)) t := by
    intro t k
    refine P93 _ ?_
    refine XS.dup X88.here hx rfl (hb hby at_69) rfl rfl ?_
    show Steps p.tables e below (T88.setTop (mkF m 70 #[.val (.int p1), .val (.int p2), .val (.int kx), .val (.int sv), .unset, .unset, .unset, .unset] [(.ref blo), (.ref blo)])) _
    refine XS.bipush X88.here hx rfl (hb hby at_70) ?_
    show Steps p.tables e below (T88.setTop (mkF m 72 #[.val (.int p1), .val (.int p2), .val (.int kx), .val (.int sv), .unset, .unset, .unset, .unset] [(.int (12 : Int32)), (.ref blo), (.ref blo)])) _
    refine XS.iconst X88.here hx rfl (hb hby at_72) ?_
    show Steps p.tables e below (T88.setTop (mkF m 73 #[.val (.int p1), .val (.int p2), .val (.int kx), .val (.int sv), .unset, .unset, .unset, .unset] [(.int (0 : Int32)), (.int (12 : Int32)), (.ref blo), (.ref blo)])) _
    exact k
  obtain ⟨cl95, Ar95, q95, S95, M95, H95, G95⟩ := F90
  have in95 : ¬ ((12 : Int32) < 0 ∨ cl95.slots.size ≤ ((12 : Int32)).toNatClampNeg) := inb_of S95 ⟨by decide, by decide⟩
  obtain ⟨T95, h95, X95, e95, W95, st95⟩ := stI X88 hx hZ e88 Ar95 (j := (12 : Int32)) in95 (g := (mkF m 73 #[.val (.int p1), .val (.int p2), .val (.int kx), .val (.int sv), .unset, .unset, .unset, .unset] [(.int (0 : Int32)), (.int (12 : Int32)), (.ref blo), (.ref blo)])) rfl rfl (hb hby at_73)
  have F96 : Old Z n0 h95 := F89.wr W95 g_blo
  have F97 : Arv Z h95 blo kc_blo .int (13 : Int32) [(.int (3 : Int32)), (.int (4 : Int32)), (.int (1 : Int32)), (.int (0 : Int32)), (.int (2 : Int32)), (.int (1 : Int32)), (.int (0 : Int32)), (.int (0 : Int32)), (.int (0 : Int32)), (.int (0 : Int32)), (.int (0 : Int32)), (.int (0 : Int32)), (.int (0 : Int32))] (.int (0 : Int32)) := Arv.set Ar95 q95 S95 M95 H95 G95 rfl W95 12 rfl (Nat.le_of_ble_eq_true rfl)
  have Z98 : n0 ≤ h95.size := Nat.le_trans Z91 (Keep.of_wr W95).1
  have K99 : Keep h0 h95 [] := K92.wr W95 (Or.inr sz_blo)
  obtain ⟨LL95, X95, N95⟩ := own_gen X95 (Fr.snoc X95 N88 g_blo)
  have P100 : ∀ t, Steps p.tables e below (T95.setTop (mkF m 74 #[.val (.int p1), .val (.int p2), .val (.int kx), .val (.int sv), .unset, .unset, .unset, .unset] [(.ref blo)])) t → Steps p.tables e below (s₁.setTop (entryFrame m #[(.int p1), (.int p2)] maxLocals)) t := fun t k => P94 _ (st95 _ k)
  have P101 : ∀ t, Steps p.tables e below (T95.setTop (mkF m 78 #[.val (.int p1), .val (.int p2), .val (.int kx), .val (.int sv), .val (.ref blo), .unset, .unset, .unset] [(.int (13 : Int32))])) t → Steps p.tables e below (s₁.setTop (entryFrame m #[(.int p1), (.int p2)] maxLocals)) t := by
    intro t k
    refine P100 _ ?_
    refine XS.astore X95.here hx rfl (hb hby at_74) rfl rfl (l' := #[.val (.int p1), .val (.int p2), .val (.int kx), .val (.int sv), .val (.ref blo), .unset, .unset, .unset]) rfl ?_
    show Steps p.tables e below (T95.setTop (mkF m 76 #[.val (.int p1), .val (.int p2), .val (.int kx), .val (.int sv), .val (.ref blo), .unset, .unset, .unset] [])) _
    refine XS.bipush X95.here hx rfl (hb hby at_76) ?_
    show Steps p.tables e below (T95.setTop (mkF m 78 #[.val (.int p1), .val (.int p2), .val (.int kx), .val (.int sv), .val (.ref blo), .unset, .unset, .unset] [(.int (13 : Int32))])) _
    exact k
  obtain ⟨T102, h102, k102, X102, e102, E102, A102, st102⟩ := newP X95 hx hZ (hw _ (List.mem_of_getElem? (i := 1) rfl)) e95 (g := (mkF m 78 #[.val (.int p1), .val (.int p2), .val (.int kx), .val (.int sv), .val (.ref blo), .unset, .unset, .unset] [(.int (13 : Int32))])) rfl (hb hby at_78) rfl (by decide) (cap := 13) (by decide) (by decide) (by decide) (by decide)
  obtain ⟨bhi, g102⟩ : ∃ z, z = h95.size := ⟨_, rfl⟩
  rw [← g102] at A102 st102
  have F103 : Old Z n0 h102 := F96.ext E102
  have F104 : Arv Z h102 blo kc_blo .int (13 : Int32) [(.int (3 : Int32)), (.int (4 : Int32)), (.int (1 : Int32)), (.int (0 : Int32)), (.int (2 : Int32)), (.int (1 : Int32)), (.int (0 : Int32)), (.int (0 : Int32)), (.int (0 : Int32)), (.int (0 : Int32)), (.int (0 : Int32)), (.int (0 : Int32)), (.int (0 : Int32))] (.int (0 : Int32)) := F97.ext E102
  obtain ⟨kc_bhi, hkc_bhi⟩ : ∃ z, z = k102 := ⟨_, rfl⟩
  rw [← hkc_bhi] at A102
  have F105 : Arv Z h102 bhi kc_bhi .int (13 : Int32) [(.int (0 : Int32)), (.int (0 : Int32)), (.int (0 : Int32)), (.int (0 : Int32)), (.int (0 : Int32)), (.int (0 : Int32)), (.int (0 : Int32)), (.int (0 : Int32)), (.int (0 : Int32)), (.int (0 : Int32)), (.int (0 : Int32)), (.int (0 : Int32)), (.int (0 : Int32))] (.int (0 : Int32)) := (Arv.new A102 (by decide)).pad (pad_rep [] (.int (0 : Int32)) 13)
  have Z106 : n0 ≤ h102.size := Nat.le_trans Z98 E102.1
  have K107 : Keep h0 h102 [] := K99.ext E102
  have g_bhi : n0 ≤ bhi := Nat.le_trans Z98 (Nat.le_of_eq g102.symm)
  have sz_bhi : h0.size ≤ bhi := Nat.le_trans K99.1 (Nat.le_of_eq g102.symm)
  have ne_blo_bhi : blo ≠ bhi := Nat.ne_of_lt (Nat.lt_of_lt_of_le F97.lt (Nat.le_of_eq g102.symm))
  have P108 : ∀ t, Steps p.tables e below (T102.setTop (mkF m 80 #[.val (.int p1), .val (.int p2), .val (.int kx), .val (.int sv), .val (.ref blo), .unset, .unset, .unset] [(.ref bhi)])) t → Steps p.tables e below (s₁.setTop (entryFrame m #[(.int p1), (.int p2)] maxLocals)) t := fun t k => P101 _ (st102 _ k)
  have P109 : ∀ t, Steps p.tables e below (T102.setTop (mkF m 83 #[.val (.int p1), .val (.int p2), .val (.int kx), .val (.int sv), .val (.ref blo), .unset, .unset, .unset] [(.int (3 : Int32)), (.int (0 : Int32)), (.ref bhi), (.ref bhi)])) t → Steps p.tables e below (s₁.setTop (entryFrame m #[(.int p1), (.int p2)] maxLocals)) t := by
    intro t k
    refine P108 _ ?_
    refine XS.dup X102.here hx rfl (hb hby at_80) rfl rfl ?_
    show Steps p.tables e below (T102.setTop (mkF m 81 #[.val (.int p1), .val (.int p2), .val (.int kx), .val (.int sv), .val (.ref blo), .unset, .unset, .unset] [(.ref bhi), (.ref bhi)])) _
    refine XS.iconst X102.here hx rfl (hb hby at_81) ?_
    show Steps p.tables e below (T102.setTop (mkF m 82 #[.val (.int p1), .val (.int p2), .val (.int kx), .val (.int sv), .val (.ref blo), .unset, .unset, .unset] [(.int (0 : Int32)), (.ref bhi), (.ref bhi)])) _
    refine XS.iconst X102.here hx rfl (hb hby at_82) ?_
    show Steps p.tables e below (T102.setTop (mkF m 83 #[.val (.int p1), .val (.int p2), .val (.int kx), .val (.int sv), .val (.ref blo), .unset, .unset, .unset] [(.int (3 : Int32)), (.int (0 : Int32)), (.ref bhi), (.ref bhi)])) _
    exact k
  obtain ⟨cl110, Ar110, q110, S110, M110, H110, G110⟩ := F105
  have in110 : ¬ ((0 : Int32) < 0 ∨ cl110.slots.size ≤ ((0 : Int32)).toNatClampNeg) := inb_of S110 ⟨by decide, by decide⟩
  obtain ⟨T110, h110, X110, e110, W110, st110⟩ := stI X102 hx hZ e102 Ar110 (j := (0 : Int32)) in110 (g := (mkF m 83 #[.val (.int p1), .val (.int p2), .val (.int kx), .val (.int sv), .val (.ref blo), .unset, .unset, .unset] [(.int (3 : Int32)), (.int (0 : Int32)), (.ref bhi), (.ref bhi)])) rfl rfl (hb hby at_83)
  have F111 : Old Z n0 h110 := F103.wr W110 g_bhi
  have F112 : Arv Z h110 blo kc_blo .int (13 : Int32) [(.int (3 : Int32)), (.int (4 : Int32)), (.int (1 : Int32)), (.int (0 : Int32)), (.int (2 : Int32)), (.int (1 : Int32)), (.int (0 : Int32)), (.int (0 : Int32)), (.int (0 : Int32)), (.int (0 : Int32)), (.int (0 : Int32)), (.int (0 : Int32)), (.int (0 : Int32))] (.int (0 : Int32)) := F104.other W110 ne_blo_bhi
  have F113 : Arv Z h110 bhi kc_bhi .int (13 : Int32) [(.int (3 : Int32)), (.int (0 : Int32)), (.int (0 : Int32)), (.int (0 : Int32)), (.int (0 : Int32)), (.int (0 : Int32)), (.int (0 : Int32)), (.int (0 : Int32)), (.int (0 : Int32)), (.int (0 : Int32)), (.int (0 : Int32)), (.int (0 : Int32)), (.int (0 : Int32))] (.int (0 : Int32)) := Arv.set Ar110 q110 S110 M110 H110 G110 rfl W110 0 rfl (Nat.le_of_ble_eq_true rfl)
  have Z114 : n0 ≤ h110.size := Nat.le_trans Z106 (Keep.of_wr W110).1
  have K115 : Keep h0 h110 [] := K107.wr W110 (Or.inr sz_bhi)
  obtain ⟨LL110, X110, N110⟩ := own_gen X110 (Fr.snoc X110 N95 g_bhi)
  have P116 : ∀ t, Steps p.tables e below (T110.setTop (mkF m 84 #[.val (.int p1), .val (.int p2), .val (.int kx), .val (.int sv), .val (.ref blo), .unset, .unset, .unset] [(.ref bhi)])) t → Steps p.tables e below (s₁.setTop (entryFrame m #[(.int p1), (.int p2)] maxLocals)) t := fun t k => P109 _ (st110 _ k)
  have P117 : ∀ t, Steps p.tables e below (T110.setTop (mkF m 87 #[.val (.int p1), .val (.int p2), .val (.int kx), .val (.int sv), .val (.ref blo), .unset, .unset, .unset] [(.int (4 : Int32)), (.int (1 : Int32)), (.ref bhi), (.ref bhi)])) t → Steps p.tables e below (s₁.setTop (entryFrame m #[(.int p1), (.int p2)] maxLocals)) t := by
    intro t k
    refine P116 _ ?_
    refine XS.dup X110.here hx rfl (hb hby at_84) rfl rfl ?_
    show Steps p.tables e below (T110.setTop (mkF m 85 #[.val (.int p1), .val (.int p2), .val (.int kx), .val (.int sv), .val (.ref blo), .unset, .unset, .unset] [(.ref bhi), (.ref bhi)])) _
    refine XS.iconst X110.here hx rfl (hb hby at_85) ?_
    show Steps p.tables e below (T110.setTop (mkF m 86 #[.val (.int p1), .val (.int p2), .val (.int kx), .val (.int sv), .val (.ref blo), .unset, .unset, .unset] [(.int (1 : Int32)), (.ref bhi), (.ref bhi)])) _
    refine XS.iconst X110.here hx rfl (hb hby at_86) ?_
    show Steps p.tables e below (T110.setTop (mkF m 87 #[.val (.int p1), .val (.int p2), .val (.int kx), .val (.int sv), .val (.ref blo), .unset, .unset, .unset] [(.int (4 : Int32)), (.int (1 : Int32)), (.ref bhi), (.ref bhi)])) _
    exact k
  obtain ⟨cl118, Ar118, q118, S118, M118, H118, G118⟩ := F113
  have in118 : ¬ ((1 : Int32) < 0 ∨ cl118.slots.size ≤ ((1 : Int32)).toNatClampNeg) := inb_of S118 ⟨by decide, by decide⟩
  obtain ⟨T118, h118, X118, e118, W118, st118⟩ := stI X110 hx hZ e110 Ar118 (j := (1 : Int32)) in118 (g := (mkF m 87 #[.val (.int p1), .val (.int p2), .val (.int kx), .val (.int sv), .val (.ref blo), .unset, .unset, .unset] [(.int (4 : Int32)), (.int (1 : Int32)), (.ref bhi), (.ref bhi)])) rfl rfl (hb hby at_87)
  have F119 : Old Z n0 h118 := F111.wr W118 g_bhi
  have F120 : Arv Z h118 blo kc_blo .int (13 : Int32) [(.int (3 : Int32)), (.int (4 : Int32)), (.int (1 : Int32)), (.int (0 : Int32)), (.int (2 : Int32)), (.int (1 : Int32)), (.int (0 : Int32)), (.int (0 : Int32)), (.int (0 : Int32)), (.int (0 : Int32)), (.int (0 : Int32)), (.int (0 : Int32)), (.int (0 : Int32))] (.int (0 : Int32)) := F112.other W118 ne_blo_bhi
  have F121 : Arv Z h118 bhi kc_bhi .int (13 : Int32) [(.int (3 : Int32)), (.int (4 : Int32)), (.int (0 : Int32)), (.int (0 : Int32)), (.int (0 : Int32)), (.int (0 : Int32)), (.int (0 : Int32)), (.int (0 : Int32)), (.int (0 : Int32)), (.int (0 : Int32)), (.int (0 : Int32)), (.int (0 : Int32)), (.int (0 : Int32))] (.int (0 : Int32)) := Arv.set Ar118 q118 S118 M118 H118 G118 rfl W118 1 rfl (Nat.le_of_ble_eq_true rfl)
  have Z122 : n0 ≤ h118.size := Nat.le_trans Z114 (Keep.of_wr W118).1
  have K123 : Keep h0 h118 [] := K115.wr W118 (Or.inr sz_bhi)
  obtain ⟨LL118, X118, N118⟩ := own_gen X118 (Fr.snoc X118 N110 g_bhi)
  have P124 : ∀ t, Steps p.tables e below (T118.setTop (mkF m 88 #[.val (.int p1), .val (.int p2), .val (.int kx), .val (.int sv), .val (.ref blo), .unset, .unset, .unset] [(.ref bhi)])) t → Steps p.tables e below (s₁.setTop (entryFrame m #[(.int p1), (.int p2)] maxLocals)) t := fun t k => P117 _ (st118 _ k)
  have P125 : ∀ t, Steps p.tables e below (T118.setTop (mkF m 91 #[.val (.int p1), .val (.int p2), .val (.int kx), .val (.int sv), .val (.ref blo), .unset, .unset, .unset] [(.int (1 : Int32)), (.int (2 : Int32)), (.ref bhi), (.ref bhi)])) t → Steps p.tables e below (s₁.setTop (entryFrame m #[(.int p1), (.int p2)] maxLocals)) t := by
    intro t k
    refine P124 _ ?_
    refine XS.dup X118.here hx rfl (hb hby at_88) rfl rfl ?_
    show Steps p.tables e below (T118.setTop (mkF m 89 #[.val (.int p1), .val (.int p2), .val (.int kx), .val (.int sv), .val (.ref blo), .unset, .unset, .unset] [(.ref bhi), (.ref bhi)])) _
    refine XS.iconst X118.here hx rfl (hb hby at_89) ?_
    show Steps p.tables e below (T118.setTop (mkF m 90 #[.val (.int p1), .val (.int p2), .val (.int kx), .val (.int sv), .val (.ref blo), .unset, .unset, .unset] [(.int (2 : Int32)), (.ref bhi), (.ref bhi)])) _
    refine XS.iconst X118.here hx rfl (hb hby at_90) ?_
    show Steps p.tables e below (T118.setTop (mkF m 91 #[.val (.int p1), .val (.int p2), .val (.int kx), .val (.int sv), .val (.ref blo), .unset, .unset, .unset] [(.int (1 : Int32)), (.int (2 : Int32)), (.ref bhi), (.ref bhi)])) _
    exact k
  obtain ⟨cl126, Ar126, q126, S126, M126, H126, G126⟩ := F121
  have in126 : ¬ ((2 : Int32) < 0 ∨ cl126.slots.size ≤ ((2 : Int32)).toNatClampNeg) := inb_of S126 ⟨by decide, by decide⟩
  obtain ⟨T126, h126, X126, e126, W126, st126⟩ := stI X118 hx hZ e118 Ar126 (j := (2 : Int32)) in126 (g := (mkF m 91 #[.val (.int p1), .val (.int p2), .val (.int kx), .val (.int sv), .val (.ref blo), .unset, .unset, .unset] [(.int (1 : Int32)), (.int (2 : Int32)), (.ref bhi), (.ref bhi)])) rfl rfl (hb hby at_91)
  have F127 : Old Z n0 h126 := F119.wr W126 g_bhi
  have F128 : Arv Z h126 blo kc_blo .int (13 : Int32) [(.int (3 : Int32)), (.int (4 : Int32)), (.int (1 : Int32)), (.int (0 : Int32)), (.int (2 : Int32)), (.int (1 : Int32)), (.int (0 : Int32)), (.int (0 : Int32)), (.int (0 : Int32)), (.int (0 : Int32)), (.int (0 : Int32)), (.int (0 : Int32)), (.int (0 : Int32))] (.int (0 : Int32)) := F120.other W126 ne_blo_bhi
  have F129 : Arv Z h126 bhi kc_bhi .int (13 : Int32) [(.int (3 : Int32)), (.int (4 : Int32)), (.int (1 : Int32)), (.int (0 : Int32)), (.int (0 : Int32)), (.int (0 : Int32)), (.int (0 : Int32)), (.int (0 : Int32)), (.int (0 : Int32)), (.int (0 : Int32)), (.int (0 : Int32)), (.int (0 : Int32)), (.int (0 : Int32))] (.int (0 : Int32)) := Arv.set Ar126 q126 S126 M126 H126 G126 rfl W126 2 rfl (Nat.le_of_ble_eq_true rfl)
  have Z130 : n0 ≤ h126.size := Nat.le_trans Z122 (Keep.of_wr W126).1
  have K131 : Keep h0 h126 [] := K123.wr W126 (Or.inr sz_bhi)
  obtain ⟨LL126, X126, N126⟩ := own_gen X126 (Fr.snoc X126 N118 g_bhi)
  have P132 : ∀ t, Steps p.tables e below (T126.setTop (mkF m 92 #[.val (.int p1), .val (.int p2), .val (.int kx), .val (.int sv), .val (.ref blo), .unset, .unset, .unset] [(.ref bhi)])) t → Steps p.tables e below (s₁.setTop (entryFrame m #[(.int p1), (.int p2)] maxLocals)) t := fun t k => P125 _ (st126 _ k)
  have P133 : ∀ t, Steps p.tables e below (T126.setTop (mkF m 95 #[.val (.int p1), .val (.int p2), .val (.int kx), .val (.int sv), .val (.ref blo), .unset, .unset, .unset] [(.int (4 : Int32)), (.int (3 : Int32)), (.ref bhi), (.ref bhi)])) t → Steps p.tables e below (s₁.setTop (entryFrame m #[(.int p1), (.int p2)] maxLocals)) t := by
    intro t k
    refine P132 _ ?_
    refine XS.dup X126.here hx rfl (hb hby at_92) rfl rfl ?_
    show Steps p.tables e below (T126.setTop (mkF m 93 #[.val (.int p1), .val (.int p2), .val (.int kx), .val (.int sv), .val (.ref blo), .unset, .unset, .unset] [(.ref bhi), (.ref bhi)])) _
    refine XS.iconst X126.here hx rfl (hb hby at_93) ?_
    show Steps p.tables e below (T126.setTop (mkF m 94 #[.val (.int p1), .val (.int p2), .val (.int kx), .val (.int sv), .val (.ref blo), .unset, .unset, .unset] [(.int (3 : Int32)), (.ref bhi), (.ref bhi)])) _
    refine XS.iconst X126.here hx rfl (hb hby at_94) ?_
    show Steps p.tables e below (T126.setTop (mkF m 95 #[.val (.int p1), .val (.int p2), .val (.int kx), .val (.int sv), .val (.ref blo), .unset, .unset, .unset] [(.int (4 : Int32)), (.int (3 : Int32)), (.ref bhi), (.ref bhi)])) _
    exact k
  obtain ⟨cl134, Ar134, q134, S134, M134, H134, G134⟩ := F129
  have in134 : ¬ ((3 : Int32) < 0 ∨ cl134.slots.size ≤ ((3 : Int32)).toNatClampNeg) := inb_of S134 ⟨by decide, by decide⟩
  obtain ⟨T134, h134, X134, e134, W134, st134⟩ := stI X126 hx hZ e126 Ar134 (j := (3 : Int32)) in134 (g := (mkF m 95 #[.val (.int p1), .val (.int p2), .val (.int kx), .val (.int sv), .val (.ref blo), .unset, .unset, .unset] [(.int (4 : Int32)), (.int (3 : Int32)), (.ref bhi), (.ref bhi)])) rfl rfl (hb hby at_95)
  have F135 : Old Z n0 h134 := F127.wr W134 g_bhi
  have F136 : Arv Z h134 blo kc_blo .int (13 : Int32) [(.int (3 : Int32)), (.int (4 : Int32)), (.int (1 : Int32)), (.int (0 : Int32)), (.int (2 : Int32)), (.int (1 : Int32)), (.int (0 : Int32)), (.int (0 : Int32)), (.int (0 : Int32)), (.int (0 : Int32)), (.int (0 : Int32)), (.int (0 : Int32)), (.int (0 : Int32))] (.int (0 : Int32)) := F128.other W134 ne_blo_bhi
  have F137 : Arv Z h134 bhi kc_bhi .int (13 : Int32) [(.int (3 : Int32)), (.int (4 : Int32)), (.int (1 : Int32)), (.int (4 : Int32)), (.int (0 : Int32)), (.int (0 : Int32)), (.int (0 : Int32)), (.int (0 : Int32)), (.int (0 : Int32)), (.int (0 : Int32)), (.int (0 : Int32)), (.int (0 : Int32)), (.int (0 : Int32))] (.int (0 : Int32)) := Arv.set Ar134 q134 S134 M134 H134 G134 rfl W134 3 rfl (Nat.le_of_ble_eq_true rfl)
  have Z138 : n0 ≤ h134.size := Nat.le_trans Z130 (Keep.of_wr W134).1
  have K139 : Keep h0 h134 [] := K131.wr W134 (Or.inr sz_bhi)
  obtain ⟨LL134, X134, N134⟩ := own_gen X134 (Fr.snoc X134 N126 g_bhi)
  have P140 : ∀ t, Steps p.tables e below (T134.setTop (mkF m 96 #[.val (.int p1), .val (.int p2), .val (.int kx), .val (.int sv), .val (.ref blo), .unset, .unset, .unset] [(.ref bhi)])) t → Steps p.tables e below (s₁.setTop (entryFrame m #[(.int p1), (.int p2)] maxLocals)) t := fun t k => P133 _ (st134 _ k)
  have P141 : ∀ t, Steps p.tables e below (T134.setTop (mkF m 99 #[.val (.int p1), .val (.int p2), .val (.int kx), .val (.int sv), .val (.ref blo), .unset, .unset, .unset] [(.int (2 : Int32)), (.int (4 : Int32)), (.ref bhi), (.ref bhi)])) t → Steps p.tables e below (s₁.setTop (entryFrame m #[(.int p1), (.int p2)] maxLocals)) t := by
    intro t k
    refine P140 _ ?_
    refine XS.dup X134.here hx rfl (hb hby at_96) rfl rfl ?_
    show Steps p.tables e below (T134.setTop (mkF m 97 #[.val (.int p1), .val (.int p2), .val (.int kx), .val (.int sv), .val (.ref blo), .unset, .unset, .unset] [(.ref bhi), (.ref bhi)])) _
    refine XS.iconst X134.here hx rfl (hb hby at_97) ?_
    show Steps p.tables e below (T134.setTop (mkF m 98 #[.val (.int p1), .val (.int p2), .val (.int kx), .val (.int sv), .val (.ref blo), .unset, .unset, .unset] [(.int (4 : Int32)), (.ref bhi), (.ref bhi)])) _
    refine XS.iconst X134.here hx rfl (hb hby at_98) ?_
    show Steps p.tables e below (T134.setTop (mkF m 99 #[.val (.int p1), .val (.int p2), .val (.int kx), .val (.int sv), .val (.ref blo), .unset, .unset, .unset] [(.int (2 : Int32)), (.int (4 : Int32)), (.ref bhi), (.ref bhi)])) _
    exact k
  obtain ⟨cl142, Ar142, q142, S142, M142, H142, G142⟩ := F137
  have in142 : ¬ ((4 : Int32) < 0 ∨ cl142.slots.size ≤ ((4 : Int32)).toNatClampNeg) := inb_of S142 ⟨by decide, by decide⟩
  obtain ⟨T142, h142, X142, e142, W142, st142⟩ := stI X134 hx hZ e134 Ar142 (j := (4 : Int32)) in142 (g := (mkF m 99 #[.val (.int p1), .val (.int p2), .val (.int kx), .val (.int sv), .val (.ref blo), .unset, .unset, .unset] [(.int (2 : Int32)), (.int (4 : Int32)), (.ref bhi), (.ref bhi)])) rfl rfl (hb hby at_99)
  have F143 : Old Z n0 h142 := F135.wr W142 g_bhi
  have F144 : Arv Z h142 blo kc_blo .int (13 : Int32) [(.int (3 : Int32)), (.int (4 : Int32)), (.int (1 : Int32)), (.int (0 : Int32)), (.int (2 : Int32)), (.int (1 : Int32)), (.int (0 : Int32)), (.int (0 : Int32)), (.int (0 : Int32)), (.int (0 : Int32)), (.int (0 : Int32)), (.int (0 : Int32)), (.int (0 : Int32))] (.int (0 : Int32)) := F136.other W142 ne_blo_bhi
  have F145 : Arv Z h142 bhi kc_bhi .int (13 : Int32) [(.int (3 : Int32)), (.int (4 : Int32)), (.int (1 : Int32)), (.int (4 : Int32)), (.int (2 : Int32)), (.int (0 : Int32)), (.int (0 : Int32)), (.int (0 : Int32)), (.int (0 : Int32)), (.int (0 : Int32)), (.int (0 : Int32)), (.int (0 : Int32)), (.int (0 : Int32))] (.int (0 : Int32)) := Arv.set Ar142 q142 S142 M142 H142 G142 rfl W142 4 rfl (Nat.le_of_ble_eq_true rfl)
  have Z146 : n0 ≤ h142.size := Nat.le_trans Z138 (Keep.of_wr W142).1
  have K147 : Keep h0 h142 [] := K139.wr W142 (Or.inr sz_bhi)
  obtain ⟨LL142, X142, N142⟩ := own_gen X142 (Fr.snoc X142 N134 g_bhi)
  have P148 : ∀ t, Steps p.tables e below (T142.setTop (mkF m 100 #[.val (.int p1), .val (.int p2), .val (.int kx), .val (.int sv), .val (.ref blo), .unset, .unset, .unset] [(.ref bhi)])) t → Steps p.tables e below (s₁.setTop (entryFrame m #[(.int p1), (.int p2)] maxLocals)) t := fun t k => P141 _ (st142 _ k)
  have P149 : ∀ t, Steps p.tables e below (T142.setTop (mkF m 103 #[.val (.int p1), .val (.int p2), .val (.int kx), .val (.int sv), .val (.ref blo), .unset, .unset, .unset] [(.int (1 : Int32)), (.int (5 : Int32)), (.ref bhi), (.ref bhi)])) t → Steps p.tables e below (s₁.setTop (entryFrame m #[(.int p1), (.int p2)] maxLocals)) t := by
    intro t k
    refine P148 _ ?_
    refine XS.dup X142.here hx rfl (hb hby at_100) rfl rfl ?_
    show Steps p.tables e below (T142.setTop (mkF m 101 #[.val (.int p1), .val (.int p2), .val (.int kx), .val (.int sv), .val (.ref blo), .unset, .unset, .unset] [(.ref bhi), (.ref bhi)])) _
    refine XS.iconst X142.here hx rfl (hb hby at_101) ?_
    show Steps p.tables e below (T142.setTop (mkF m 102 #[.val (.int p1), .val (.int p2), .val (.int kx), .val (.int sv), .val (.ref blo), .unset, .unset, .unset] [(.int (5 : Int32)), (.ref bhi), (.ref bhi)])) _
    refine XS.iconst X142.here hx rfl (hb hby at_102) ?_
    show Steps p.tables e below (T142.setTop (mkF m 103 #[.val (.int p1), .val (.int p2), .val (.int kx), .val (.int sv), .val (.ref blo), .unset, .unset, .unset] [(.int (1 : Int32)), (.int (5 : Int32)), (.ref bhi), (.ref bhi)])) _
    exact k
  obtain ⟨cl150, Ar150, q150, S150, M150, H150, G150⟩ := F145
  have in150 : ¬ ((5 : Int32) < 0 ∨ cl150.slots.size ≤ ((5 : Int32)).toNatClampNeg) := inb_of S150 ⟨by decide, by decide⟩
  obtain ⟨T150, h150, X150, e150, W150, st150⟩ := stI X142 hx hZ e142 Ar150 (j := (5 : Int32)) in150 (g := (mkF m 103 #[.val (.int p1), .val (.int p2), .val (.int kx), .val (.int sv), .val (.ref blo), .unset, .unset, .unset] [(.int (1 : Int32)), (.int (5 : Int32)), (.ref bhi), (.ref bhi)])) rfl rfl (hb hby at_103)
  have F151 : Old Z n0 h150 := F143.wr W150 g_bhi
  have F152 : Arv Z h150 blo kc_blo .int (13 : Int32) [(.int (3 : Int32)), (.int (4 : Int32)), (.int (1 : Int32)), (.int (0 : Int32)), (.int (2 : Int32)), (.int (1 : Int32)), (.int (0 : Int32)), (.int (0 : Int32)), (.int (0 : Int32)), (.int (0 : Int32)), (.int (0 : Int32)), (.int (0 : Int32)), (.int (0 : Int32))] (.int (0 : Int32)) := F144.other W150 ne_blo_bhi
  have F153 : Arv Z h150 bhi kc_bhi .int (13 : Int32) [(.int (3 : Int32)), (.int (4 : Int32)), (.int (1 : Int32)), (.int (4 : Int32)), (.int (2 : Int32)), (.int (1 : Int32)), (.int (0 : Int32)), (.int (0 : Int32)), (.int (0 : Int32)), (.int (0 : Int32)), (.int (0 : Int32)), (.int (0 : Int32)), (.int (0 : Int32))] (.int (0 : Int32)) := Arv.set Ar150 q150 S150 M150 H150 G150 rfl W150 5 rfl (Nat.le_of_ble_eq_true rfl)
  have Z154 : n0 ≤ h150.size := Nat.le_trans Z146 (Keep.of_wr W150).1
  have K155 : Keep h0 h150 [] := K147.wr W150 (Or.inr sz_bhi)
  obtain ⟨LL150, X150, N150⟩ := own_gen X150 (Fr.snoc X150 N142 g_bhi)
  have P156 : ∀ t, Steps p.tables e below (T150.setTop (mkF m 104 #[.val (.int p1), .val (.int p2), .val (.int kx), .val (.int sv), .val (.ref blo), .unset, .unset, .unset] [(.ref bhi)])) t → Steps p.tables e below (s₁.setTop (entryFrame m #[(.int p1), (.int p2)] maxLocals)) t := fun t k => P149 _ (st150 _ k)
  have P157 : ∀ t, Steps p.tables e below (T150.setTop (mkF m 108 #[.val (.int p1), .val (.int p2), .val (.int kx), .val (.int sv), .val (.ref blo), .unset, .unset, .unset] [(.int (0 : Int32)), (.int (6 : Int32)), (.ref bhi), (.ref bhi)])) t → Steps p.tables e below (s₁.setTop (entryFrame m #[(.int p1), (.int p2)] maxLocals)) t := by
    intro t k
    refine P156 _ ?_
    refine XS.dup X150.here hx rfl (hb hby at_104) rfl rfl ?_
    show Steps p.tables e below (T150.setTop (mkF m 105 #[.val (.int p1), .val (.int p2), .val (.int kx), .val (.int sv), .val (.ref blo), .unset, .unset, .unset] [(.ref bhi), (.ref bhi)])) _
    refine XS.bipush X150.here hx rfl (hb hby at_105) ?_
    show Steps p.tables e below (T150.setTop (mkF m 107 #[.val (.int p1), .val (.int p2), .val (.int kx), .val (.int sv), .val (.ref blo), .unset, .unset, .unset] [(.int (6 : Int32)), (.ref bhi), (.ref bhi)])) _
    refine XS.iconst X150.here hx rfl (hb hby at_107) ?_
    show Steps p.tables e below (T150.setTop (mkF m 108 #[.val (.int p1), .val (.int p2), .val (.int kx), .val (.int sv), .val (.ref blo), .unset, .unset, .unset] [(.int (0 : Int32)), (.int (6 : Int32)), (.ref bhi), (.ref bhi)])) _
    exact k
  obtain ⟨cl158, Ar158, q158, S158, M158, H158, G158⟩ := F153
  have in158 : ¬ ((6 : Int32) < 0 ∨ cl158.slots.size ≤ ((6 : Int32)).toNatClampNeg) := inb_of S158 ⟨by decide, by decide⟩
  obtain ⟨T158, h158, X158, e158, W158, st158⟩ := stI X150 hx hZ e150 Ar158 (j := (6 : Int32)) in158 (g := (mkF m 108 #[.val (.int p1), .val (.int p2), .val (.int kx), .val (.int sv), .val (.ref blo), .unset, .unset, .unset] [(.int (0 : Int32)), (.int (6 : Int32)), (.ref bhi), (.ref bhi)])) rfl rfl (hb hby at_108)
  have F159 : Old Z n0 h158 := F151.wr W158 g_bhi
  have F160 : Arv Z h158 blo kc_blo .int (13 : Int32) [(.int (3 : Int32)), (.int (4 : Int32)), (.int (1 : Int32)), (.int (0 : Int32)), (.int (2 : Int32)), (.int (1 : Int32)), (.int (0 : Int32)), (.int (0 : Int32)), (.int (0 : Int32)), (.int (0 : Int32)), (.int (0 : Int32)), (.int (0 : Int32)), (.int (0 : Int32))] (.int (0 : Int32)) := F152.other W158 ne_blo_bhi
  have F161 : Arv Z h158 bhi kc_bhi .int (13 : Int32) [(.int (3 : Int32)), (.int (4 : Int32)), (.int (1 : Int32)), (.int (4 : Int32)), (.int (2 : Int32)), (.int (1 : Int32)), (.int (0 : Int32)), (.int (0 : Int32)), (.int (0 : Int32)), (.int (0 : Int32)), (.int (0 : Int32)), (.int (0 : Int32)), (.int (0 : Int32))] (.int (0 : Int32)) := Arv.set Ar158 q158 S158 M158 H158 G158 rfl W158 6 rfl (Nat.le_of_ble_eq_true rfl)
  have Z162 : n0 ≤ h158.size := Nat.le_trans Z154 (Keep.of_wr W158).1
  have K163 : Keep h0 h158 [] := K155.wr W158 (Or.inr sz_bhi)
  obtain ⟨LL158, X158, N158⟩ := own_gen X158 (Fr.snoc X158 N150 g_bhi)
  have P164 : ∀ t, Steps p.tables e below (T158.setTop (mkF m 109 #[.val (.int p1), .val (.int p2), .val (.int kx), .val (.int sv), .val (.ref blo), .unset, .unset, .unset] [(.ref bhi)])) t → Steps p.tables e below (s₁.setTop (entryFrame m #[(.int p1), (.int p2)] maxLocals)) t := fun t k => P157 _ (st158 _ k)
  have P165 : ∀ t, Steps p.tables e below (T158.setTop (mkF m 113 #[.val (.int p1), .val (.int p2), .val (.int kx), .val (.int sv), .val (.ref blo), .unset, .unset, .unset] [(.int (2 : Int32)), (.int (7 : Int32)), (.ref bhi), (.ref bhi)])) t → Steps p.tables e below (s₁.setTop (entryFrame m #[(.int p1), (.int p2)] maxLocals)) t := by
    intro t k
    refine P164 _ ?_
    refine XS.dup X158.here hx rfl (hb hby at_109) rfl rfl ?_
    show Steps p.tables e below (T158.setTop (mkF m 110 #[.val (.int p1), .val (.int p2), .val (.int kx), .val (.int sv), .val (.ref blo), .unset, .unset, .unset] [(.ref bhi), (.ref bhi)])) _
    refine XS.bipush X158.here hx rfl (hb hby at_110) ?_
    show Steps p.tables e below (T158.setTop (mkF m 112 #[.val (.int p1), .val (.int p2), .val (.int kx), .val (.int sv), .val (.ref blo), .unset, .unset, .unset] [(.int (7 : Int32)), (.ref bhi), (.ref bhi)])) _
    refine XS.iconst X158.here hx rfl (hb hby at_112) ?_
    show Steps p.tables e below (T158.setTop (mkF m 113 #[.val (.int p1), .val (.int p2), .val (.int kx), .val (.int sv), .val (.ref blo), .unset, .unset, .unset] [(.int (2 : Int32)), (.int (7 : Int32)), (.ref bhi), (.ref bhi)])) _
    exact k
  obtain ⟨cl166, Ar166, q166, S166, M166, H166, G166⟩ := F161
  have in166 : ¬ ((7 : Int32) < 0 ∨ cl166.slots.size ≤ ((7 : Int32)).toNatClampNeg) := inb_of S166 ⟨by decide, by decide⟩
  obtain ⟨T166, h166, X166, e166, W166, st166⟩ := stI X158 hx hZ e158 Ar166 (j := (7 : Int32)) in166 (g := (mkF m 113 #[.val (.int p1), .val (.int p2), .val (.int kx), .val (.int sv), .val (.ref blo), .unset, .unset, .unset] [(.int (2 : Int32)), (.int (7 : Int32)), (.ref bhi), (.ref bhi)])) rfl rfl (hb hby at_113)
  have F167 : Old Z n0 h166 := F159.wr W166 g_bhi
  have F168 : Arv Z h166 blo kc_blo .int (13 : Int32) [(.int (3 : Int32)), (.int (4 : Int32)), (.int (1 : Int32)), (.int (0 : Int32)), (.int (2 : Int32)), (.int (1 : Int32)), (.int (0 : Int32)), (.int (0 : Int32)), (.int (0 : Int32)), (.int (0 : Int32)), (.int (0 : Int32)), (.int (0 : Int32)), (.int (0 : Int32))] (.int (0 : Int32)) := F160.other W166 ne_blo_bhi
  have F169 : Arv Z h166 bhi kc_bhi .int (13 : Int32) [(.int (3 : Int32)), (.int (4 : Int32)), (.int (1 : Int32)), (.int (4 : Int32)), (.int (2 : Int32)), (.int (1 : Int32)), (.int (0 : Int32)), (.int (2 : Int32)), (.int (0 : Int32)), (.int (0 : Int32)), (.int (0 : Int32)), (.int (0 : Int32)), (.int (0 : Int32))] (.int (0 : Int32)) := Arv.set Ar166 q166 S166 M166 H166 G166 rfl W166 7 rfl (Nat.le_of_ble_eq_true rfl)
  have Z170 : n0 ≤ h166.size := Nat.le_trans Z162 (Keep.of_wr W166).1
  have K171 : Keep h0 h166 [] := K163.wr W166 (Or.inr sz_bhi)
  obtain ⟨LL166, X166, N166⟩ := own_gen X166 (Fr.snoc X166 N158 g_bhi)
  have P172 : ∀ t, Steps p.tables e below (T166.setTop (mkF m 114 #[.val (.int p1), .val (.int p2), .val (.int kx), .val (.int sv), .val (.ref blo), .unset, .unset, .unset] [(.ref bhi)])) t → Steps p.tables e below (s₁.setTop (entryFrame m #[(.int p1), (.int p2)] maxLocals)) t := fun t k => P165 _ (st166 _ k)
  have P173 : ∀ t, Steps p.tables e below (T166.setTop (mkF m 118 #[.val (.int p1), .val (.int p2), .val (.int kx), .val (.int sv), .val (.ref blo), .unset, .unset, .unset] [(.int (1 : Int32)), (.int (8 : Int32)), (.ref bhi), (.ref bhi)])) t → Steps p.tables e below (s₁.setTop (entryFrame m #[(.int p1), (.int p2)] maxLocals)) t := by
    intro t k
    refine P172 _ ?_
    refine XS.dup X166.here hx rfl (hb hby at_114) rfl rfl ?_
    show Steps p.tables e below (T166.setTop (mkF m 115 #[.val (.int p1), .val (.int p2), .val (.int kx), .val (.int sv), .val (.ref blo), .unset, .unset, .unset] [(.ref bhi), (.ref bhi)])) _
    refine XS.bipush X166.here hx rfl (hb hby at_115) ?_
    show Steps p.tables e below (T166.setTop (mkF m 117 #[.val (.int p1), .val (.int p2), .val (.int kx), .val (.int sv), .val (.ref blo), .unset, .unset, .unset] [(.int (8 : Int32)), (.ref bhi), (.ref bhi)])) _
    refine XS.iconst X166.here hx rfl (hb hby at_117) ?_
    show Steps p.tables e below (T166.setTop (mkF m 118 #[.val (.int p1), .val (.int p2), .val (.int kx), .val (.int sv), .val (.ref blo), .unset, .unset, .unset] [(.int (1 : Int32)), (.int (8 : Int32)), (.ref bhi), (.ref bhi)])) _
    exact k
  obtain ⟨cl174, Ar174, q174, S174, M174, H174, G174⟩ := F169
  have in174 : ¬ ((8 : Int32) < 0 ∨ cl174.slots.size ≤ ((8 : Int32)).toNatClampNeg) := inb_of S174 ⟨by decide, by decide⟩
  obtain ⟨T174, h174, X174, e174, W174, st174⟩ := stI X166 hx hZ e166 Ar174 (j := (8 : Int32)) in174 (g := (mkF m 118 #[.val (.int p1), .val (.int p2), .val (.int kx), .val (.int sv), .val (.ref blo), .unset, .unset, .unset] [(.int (1 : Int32)), (.int (8 : Int32)), (.ref bhi), (.ref bhi)])) rfl rfl (hb hby at_118)
  have F175 : Old Z n0 h174 := F167.wr W174 g_bhi
  have F176 : Arv Z h174 blo kc_blo .int (13 : Int32) [(.int (3 : Int32)), (.int (4 : Int32)), (.int (1 : Int32)), (.int (0 : Int32)), (.int (2 : Int32)), (.int (1 : Int32)), (.int (0 : Int32)), (.int (0 : Int32)), (.int (0 : Int32)), (.int (0 : Int32)), (.int (0 : Int32)), (.int (0 : Int32)), (.int (0 : Int32))] (.int (0 : Int32)) := F168.other W174 ne_blo_bhi
  have F177 : Arv Z h174 bhi kc_bhi .int (13 : Int32) [(.int (3 : Int32)), (.int (4 : Int32)), (.int (1 : Int32)), (.int (4 : Int32)), (.int (2 : Int32)), (.int (1 : Int32)), (.int (0 : Int32)), (.int (2 : Int32)), (.int (1 : Int32)), (.int (0 : Int32)), (.int (0 : Int32)), (.int (0 : Int32)), (.int (0 : Int32))] (.int (0 : Int32)) := Arv.set Ar174 q174 S174 M174 H174 G174 rfl W174 8 rfl (Nat.le_of_ble_eq_true rfl)
  have Z178 : n0 ≤ h174.size := Nat.le_trans Z170 (Keep.of_wr W174).1
  have K179 : Keep h0 h174 [] := K171.wr W174 (Or.inr sz_bhi)
  obtain ⟨LL174, X174, N174⟩ := own_gen X174 (Fr.snoc X174 N166 g_bhi)
  have P180 : ∀ t, Steps p.tables e below (T174.setTop (mkF m 119 #[.val (.int p1), .val (.int p2), .val (.int kx), .val (.int sv), .val (.ref blo), .unset, .unset, .unset] [(.ref bhi)])) t → Steps p.tables e below (s₁.setTop (entryFrame m #[(.int p1), (.int p2)] maxLocals)) t := fun t k => P173 _ (st174 _ k)
  have P181 : ∀ t, Steps p.tables e below (T174.setTop (mkF m 123 #[.val (.int p1), .val (.int p2), .val (.int kx), .val (.int sv), .val (.ref blo), .unset, .unset, .unset] [(.int (1 : Int32)), (.int (9 : Int32)), (.ref bhi), (.ref bhi)])) t → Steps p.tables e below (s₁.setTop (entryFrame m #[(.int p1), (.int p2)] maxLocals)) t := by
    intro t k
    refine P180 _ ?_
    refine XS.dup X174.here hx rfl (hb hby at_119) rfl rfl ?_
    show Steps p.tables e below (T174.setTop (mkF m 120 #[.val (.int p1), .val (.int p2), .val (.int kx), .val (.int sv), .val (.ref blo), .unset, .unset, .unset] [(.ref bhi), (.ref bhi)])) _
    refine XS.bipush X174.here hx rfl (hb hby at_120) ?_
    show Steps p.tables e below (T174.setTop (mkF m 122 #[.val (.int p1), .val (.int p2), .val (.int kx), .val (.int sv), .val (.ref blo), .unset, .unset, .unset] [(.int (9 : Int32)), (.ref bhi), (.ref bhi)])) _
    refine XS.iconst X174.here hx rfl (hb hby at_122) ?_
    show Steps p.tables e below (T174.setTop (mkF m 123 #[.val (.int p1), .val (.int p2), .val (.int kx), .val (.int sv), .val (.ref blo), .unset, .unset, .unset] [(.int (1 : Int32)), (.int (9 : Int32)), (.ref bhi), (.ref bhi)])) _
    exact k
  obtain ⟨cl182, Ar182, q182, S182, M182, H182, G182⟩ := F177
  have in182 : ¬ ((9 : Int32) < 0 ∨ cl182.slots.size ≤ ((9 : Int32)).toNatClampNeg) := inb_of S182 ⟨by decide, by decide⟩
  obtain ⟨T182, h182, X182, e182, W182, st182⟩ := stI X174 hx hZ e174 Ar182 (j := (9 : Int32)) in182 (g := (mkF m 123 #[.val (.int p1), .val (.int p2), .val (.int kx), .val (.int sv), .val (.ref blo), .unset, .unset, .unset] [(.int (1 : Int32)), (.int (9 : Int32)), (.ref bhi), (.ref bhi)])) rfl rfl (hb hby at_123)
  have F183 : Old Z n0 h182 := F175.wr W182 g_bhi
  have F184 : Arv Z h182 blo kc_blo .int (13 : Int32) [(.int (3 : Int32)), (.int (4 : Int32)), (.int (1 : Int32)), (.int (0 : Int32)), (.int (2 : Int32)), (.int (1 : Int32)), (.int (0 : Int32)), (.int (0 : Int32)), (.int (0 : Int32)), (.int (0 : Int32)), (.int (0 : Int32)), (.int (0 : Int32)), (.int (0 : Int32))] (.int (0 : Int32)) := F176.other W182 ne_blo_bhi
  have F185 : Arv Z h182 bhi kc_bhi .int (13 : Int32) [(.int (3 : Int32)), (.int (4 : Int32)), (.int (1 : Int32)), (.int (4 : Int32)), (.int (2 : Int32)), (.int (1 : Int32)), (.int (0 : Int32)), (.int (2 : Int32)), (.int (1 : Int32)), (.int (1 : Int32)), (.int (0 : Int32)), (.int (0 : Int32)), (.int (0 : Int32))] (.int (0 : Int32)) := Arv.set Ar182 q182 S182 M182 H182 G182 rfl W182 9 rfl (Nat.le_of_ble_eq_true rfl)
  have Z186 : n0 ≤ h182.size := Nat.le_trans Z178 (Keep.of_wr W182).1
  have K187 : Keep h0 h182 [] := K179.wr W182 (Or.inr sz_bhi)
  obtain ⟨LL182, X182, N182⟩ := own_gen X182 (Fr.snoc X182 N174 g_bhi)
  have P188 : ∀ t, Steps p.tables e below (T182.setTop (mkF m 124 #[.val (.int p1), .val (.int p2), .val (.int kx), .val (.int sv), .val (.ref blo), .unset, .unset, .unset] [(.ref bhi)])) t → Steps p.tables e below (s₁.setTop (entryFrame m #[(.int p1), (.int p2)] maxLocals)) t := fun t k => P181 _ (st182 _ k)
  have P189 : ∀ t, Steps p.tables e below (T182.setTop (mkF m 128 #[.val (.int p1), .val (.int p2), .val (.int kx), .val (.int sv), .val (.ref blo), .unset, .unset, .unset] [(.int (1 : Int32)), (.int (10 : Int32)), (.ref bhi), (.ref bhi)])) t → Steps p.tables e below (s₁.setTop (entryFrame m #[(.int p1), (.int p2)] maxLocals)) t := by
    intro t k
    refine P188 _ ?_
    refine XS.dup X182.here hx rfl (hb hby at_124) rfl rfl ?_
    show Steps p.tables e below (T182.setTop (mkF m 125 #[.val (.int p1), .val (.int p2), .val (.int kx), .val (.int sv), .val (.ref blo), .unset, .unset, .unset] [(.ref bhi), (.ref bhi)])) _
    refine XS.bipush X182.here hx rfl (hb hby at_125) ?_
    show Steps p.tables e below (T182.setTop (mkF m 127 #[.val (.int p1), .val (.int p2), .val (.int kx), .val (.int sv), .val (.ref blo), .unset, .unset, .unset] [(.int (10 : Int32)), (.ref bhi), (.ref bhi)])) _
    refine XS.iconst X182.here hx rfl (hb hby at_127) ?_
    show Steps p.tables e below (T182.setTop (mkF m 128 #[.val (.int p1), .val (.int p2), .val (.int kx), .val (.int sv), .val (.ref blo), .unset, .unset, .unset] [(.int (1 : Int32)), (.int (10 : Int32)), (.ref bhi), (.ref bhi)])) _
    exact k
  obtain ⟨cl190, Ar190, q190, S190, M190, H190, G190⟩ := F185
  have in190 : ¬ ((10 : Int32) < 0 ∨ cl190.slots.size ≤ ((10 : Int32)).toNatClampNeg) := inb_of S190 ⟨by decide, by decide⟩
  obtain ⟨T190, h190, X190, e190, W190, st190⟩ := stI X182 hx hZ e182 Ar190 (j := (10 : Int32)) in190 (g := (mkF m 128 #[.val (.int p1), .val (.int p2), .val (.int kx), .val (.int sv), .val (.ref blo), .unset, .unset, .unset] [(.int (1 : Int32)), (.int (10 : Int32)), (.ref bhi), (.ref bhi)])) rfl rfl (hb hby at_128)
  have F191 : Old Z n0 h190 := F183.wr W190 g_bhi
  have F192 : Arv Z h190 blo kc_blo .int (13 : Int32) [(.int (3 : Int32)), (.int (4 : Int32)), (.int (1 : Int32)), (.int (0 : Int32)), (.int (2 : Int32)), (.int (1 : Int32)), (.int (0 : Int32)), (.int (0 : Int32)), (.int (0 : Int32)), (.int (0 : Int32)), (.int (0 : Int32)), (.int (0 : Int32)), (.int (0 : Int32))] (.int (0 : Int32)) := F184.other W190 ne_blo_bhi
  have F193 : Arv Z h190 bhi kc_bhi .int (13 : Int32) [(.int (3 : Int32)), (.int (4 : Int32)), (.int (1 : Int32)), (.int (4 : Int32)), (.int (2 : Int32)), (.int (1 : Int32)), (.int (0 : Int32)), (.int (2 : Int32)), (.int (1 : Int32)), (.int (1 : Int32)), (.int (1 : Int32)), (.int (0 : Int32)), (.int (0 : Int32))] (.int (0 : Int32)) := Arv.set Ar190 q190 S190 M190 H190 G190 rfl W190 10 rfl (Nat.le_of_ble_eq_true rfl)
  have Z194 : n0 ≤ h190.size := Nat.le_trans Z186 (Keep.of_wr W190).1
  have K195 : Keep h0 h190 [] := K187.wr W190 (Or.inr sz_bhi)
  obtain ⟨LL190, X190, N190⟩ := own_gen X190 (Fr.snoc X190 N182 g_bhi)
  have P196 : ∀ t, Steps p.tables e below (T190.setTop (mkF m 129 #[.val (.int p1), .val (.int p2), .val (.int kx), .val (.int sv), .val (.ref blo), .unset, .unset, .unset] [(.ref bhi)])) t → Steps p.tables e below (s₁.setTop (entryFrame m #[(.int p1), (.int p2)] maxLocals)) t := fun t k => P189 _ (st190 _ k)
  have P197 : ∀ t, Steps p.tables e below (T190.setTop (mkF m 133 #[.val (.int p1), .val (.int p2), .val (.int kx), .val (.int sv), .val (.ref blo), .unset, .unset, .unset] [(.int (0 : Int32)), (.int (11 : Int32)), (.ref bhi), (.ref bhi)])) t → Steps p.tables e below (s₁.setTop (entryFrame m #[(.int p1), (.int p2)] maxLocals)) t := by
    intro t k
    refine P196 _ ?_
    refine XS.dup X190.here hx rfl (hb hby at_129) rfl rfl ?_
    show Steps p.tables e below (T190.setTop (mkF m 130 #[.val (.int p1), .val (.int p2), .val (.int kx), .val (.int sv), .val (.ref blo), .unset, .unset, .unset] [(.ref bhi), (.ref bhi)])) _
    refine XS.bipush X190.here hx rfl (hb hby at_130) ?_
    show Steps p.tables e below (T190.setTop (mkF m 132 #[.val (.int p1), .val (.int p2), .val (.int kx), .val (.int sv), .val (.ref blo), .unset, .unset, .unset] [(.int (11 : Int32)), (.ref bhi), (.ref bhi)])) _
    refine XS.iconst X190.here hx rfl (hb hby at_132) ?_
    show Steps p.tables e below (T190.setTop (mkF m 133 #[.val (.int p1), .val (.int p2), .val (.int kx), .val (.int sv), .val (.ref blo), .unset, .unset, .unset] [(.int (0 : Int32)), (.int (11 : Int32)), (.ref bhi), (.ref bhi)])) _
    exact k
  obtain ⟨cl198, Ar198, q198, S198, M198, H198, G198⟩ := F193
  have in198 : ¬ ((11 : Int32) < 0 ∨ cl198.slots.size ≤ ((11 : Int32)).toNatClampNeg) := inb_of S198 ⟨by decide, by decide⟩
  obtain ⟨T198, h198, X198, e198, W198, st198⟩ := stI X190 hx hZ e190 Ar198 (j := (11 : Int32)) in198 (g := (mkF m 133 #[.val (.int p1), .val (.int p2), .val (.int kx), .val (.int sv), .val (.ref blo), .unset, .unset, .unset] [(.int (0 : Int32)), (.int (11 : Int32)), (.ref bhi), (.ref bhi)])) rfl rfl (hb hby at_133)
  have F199 : Old Z n0 h198 := F191.wr W198 g_bhi
  have F200 : Arv Z h198 blo kc_blo .int (13 : Int32) [(.int (3 : Int32)), (.int (4 : Int32)), (.int (1 : Int32)), (.int (0 : Int32)), (.int (2 : Int32)), (.int (1 : Int32)), (.int (0 : Int32)), (.int (0 : Int32)), (.int (0 : Int32)), (.int (0 : Int32)), (.int (0 : Int32)), (.int (0 : Int32)), (.int (0 : Int32))] (.int (0 : Int32)) := F192.other W198 ne_blo_bhi
  have F201 : Arv Z h198 bhi kc_bhi .int (13 : Int32) [(.int (3 : Int32)), (.int (4 : Int32)), (.int (1 : Int32)), (.int (4 : Int32)), (.int (2 : Int32)), (.int (1 : Int32)), (.int (0 : Int32)), (.int (2 : Int32)), (.int (1 : Int32)), (.int (1 : Int32)), (.int (1 : Int32)), (.int (0 : Int32)), (.int (0 : Int32))] (.int (0 : Int32)) := Arv.set Ar198 q198 S198 M198 H198 G198 rfl W198 11 rfl (Nat.le_of_ble_eq_true rfl)
  have Z202 : n0 ≤ h198.size := Nat.le_trans Z194 (Keep.of_wr W198).1
  have K203 : Keep h0 h198 [] := K195.wr W198 (Or.inr sz_bhi)
  obtain ⟨LL198, X198, N198⟩ := own_gen X198 (Fr.snoc X198 N190 g_bhi)
  have P204 : ∀ t, Steps p.tables e below (T198.setTop (mkF m 134 #[.val (.int p1), .val (.int p2), .val (.int kx), .val (.int sv), .val (.ref blo), .unset, .unset, .unset] [(.ref bhi)])) t → Steps p.tables e below (s₁.setTop (entryFrame m #[(.int p1), (.int p2)] maxLocals)) t := fun t k => P197 _ (st198 _ k)
  have P205 : ∀ t, Steps p.tables e below (T198.setTop (mkF m 138 #[.val (.int p1), .val (.int p2), .val (.int kx), .val (.int sv), .val (.ref blo), .unset, .unset, .unset] [(.int (1 : Int32)), (.int (12 : Int32)), (.ref bhi), (.ref bhi)])) t → Steps p.tables e below (s₁.setTop (entryFrame m #[(.int p1), (.int p2)] maxLocals)) t := by
    intro t k
    refine P204 _ ?_
    refine XS.dup X198.here hx rfl (hb hby at_134) rfl rfl ?_
    show Steps p.tables e below (T198.setTop (mkF m 135 #[.val (.int p1), .val (.int p2), .val (.int kx), .val (.int sv), .val (.ref blo), .unset, .unset, .unset] [(.ref bhi), (.ref bhi)])) _
    refine XS.bipush X198.here hx rfl (hb hby at_135) ?_
    show Steps p.tables e below (T198.setTop (mkF m 137 #[.val (.int p1), .val (.int p2), .val (.int kx), .val (.int sv), .val (.ref blo), .unset, .unset, .unset] [(.int (12 : Int32)), (.ref bhi), (.ref bhi)])) _
    refine XS.iconst X198.here hx rfl (hb hby at_137) ?_
    show Steps p.tables e below (T198.setTop (mkF m 138 #[.val (.int p1), .val (.int p2), .val (.int kx), .val (.int sv), .val (.ref blo), .unset, .unset, .unset] [(.int (1 : Int32)), (.int (12 : Int32)), (.ref bhi), (.ref bhi)])) _
    exact k
  obtain ⟨cl206, Ar206, q206, S206, M206, H206, G206⟩ := F201
  have in206 : ¬ ((12 : Int32) < 0 ∨ cl206.slots.size ≤ ((12 : Int32)).toNatClampNeg) := inb_of S206 ⟨by decide, by decide⟩
  obtain ⟨T206, h206, X206, e206, W206, st206⟩ := stI X198 hx hZ e198 Ar206 (j := (12 : Int32)) in206 (g := (mkF m 138 #[.val (.int p1), .val (.int p2), .val (.int kx), .val (.int sv), .val (.ref blo), .unset, .unset, .unset] [(.int (1 : Int32)), (.int (12 : Int32)), (.ref bhi), (.ref bhi)])) rfl rfl (hb hby at_138)
  have F207 : Old Z n0 h206 := F199.wr W206 g_bhi
  have F208 : Arv Z h206 blo kc_blo .int (13 : Int32) [(.int (3 : Int32)), (.int (4 : Int32)), (.int (1 : Int32)), (.int (0 : Int32)), (.int (2 : Int32)), (.int (1 : Int32)), (.int (0 : Int32)), (.int (0 : Int32)), (.int (0 : Int32)), (.int (0 : Int32)), (.int (0 : Int32)), (.int (0 : Int32)), (.int (0 : Int32))] (.int (0 : Int32)) := F200.other W206 ne_blo_bhi
  have F209 : Arv Z h206 bhi kc_bhi .int (13 : Int32) [(.int (3 : Int32)), (.int (4 : Int32)), (.int (1 : Int32)), (.int (4 : Int32)), (.int (2 : Int32)), (.int (1 : Int32)), (.int (0 : Int32)), (.int (2 : Int32)), (.int (1 : Int32)), (.int (1 : Int32)), (.int (1 : Int32)), (.int (0 : Int32)), (.int (1 : Int32))] (.int (0 : Int32)) := Arv.set Ar206 q206 S206 M206 H206 G206 rfl W206 12 rfl (Nat.le_of_ble_eq_true rfl)
  have Z210 : n0 ≤ h206.size := Nat.le_trans Z202 (Keep.of_wr W206).1
  have K211 : Keep h0 h206 [] := K203.wr W206 (Or.inr sz_bhi)
  obtain ⟨LL206, X206, N206⟩ := own_gen X206 (Fr.snoc X206 N198 g_bhi)
  have P212 : ∀ t, Steps p.tables e below (T206.setTop (mkF m 139 #[.val (.int p1), .val (.int p2), .val (.int kx), .val (.int sv), .val (.ref blo), .unset, .unset, .unset] [(.ref bhi)])) t → Steps p.tables e below (s₁.setTop (entryFrame m #[(.int p1), (.int p2)] maxLocals)) t := fun t k => P205 _ (st206 _ k)
  have P213 : ∀ t, Steps p.tables e below (T206.setTop (mkF m 142 #[.val (.int p1), .val (.int p2), .val (.int kx), .val (.int sv), .val (.ref blo), .val (.ref bhi), .unset, .unset] [(.int kx)])) t → Steps p.tables e below (s₁.setTop (entryFrame m #[(.int p1), (.int p2)] maxLocals)) t := by
    intro t k
    refine P212 _ ?_
    refine XS.astore X206.here hx rfl (hb hby at_139) rfl rfl (l' := #[.val (.int p1), .val (.int p2), .val (.int kx), .val (.int sv), .val (.ref blo), .val (.ref bhi), .unset, .unset]) rfl ?_
    show Steps p.tables e below (T206.setTop (mkF m 141 #[.val (.int p1), .val (.int p2), .val (.int kx), .val (.int sv), .val (.ref blo), .val (.ref bhi), .unset, .unset] [])) _
    refine XS.iloadN X206.here hx rfl (hb hby at_141) rfl ?_
    show Steps p.tables e below (T206.setTop (mkF m 142 #[.val (.int p1), .val (.int p2), .val (.int kx), .val (.int sv), .val (.ref blo), .val (.ref bhi), .unset, .unset] [(.int kx)])) _
    exact k
  obtain ⟨_, _, ⟨T214, L214, k214, n214⟩, -, X214, ⟨Lc214, hQ214, l214, y214, z214⟩, st214⟩ := Jvm.LawKit.callS X206 hx (y := (⟨"ledgerline/node/ApiServesPinLaw", "pick", "(I)Lledgerline/node/Api;"⟩ : MethodName)) hown (mvT hZ (hw _ (List.mem_of_getElem? (i := 2) rfl))) (mvT hZ (hw _ (List.mem_of_getElem? (i := 3) rfl))) (mvT hZ (hw _ (List.mem_of_getElem? (i := 4) rfl))) (mvT hZ (hw _ (List.mem_of_getElem? (i := 5) rfl))) (by decide) (backOf (W := 0) (rm2 l Z a0 hw [] kx w_PRODUCE w_FETCH w_LIST_OFFSETS w_METADATA w_OFFSET_COMMIT w_OFFSET_FETCH w_FIND_COORDINATOR w_JOIN_GROUP w_HEARTBEAT w_LEAVE_GROUP w_SYNC_GROUP w_API_VERSIONS w_INIT_PRODUCER_ID h206 n0 Z210 (S_PRODUCE.ext F207.2) (S_FETCH.ext F207.2) (S_LIST_OFFSETS.ext F207.2) (S_METADATA.ext F207.2) (S_OFFSET_COMMIT.ext F207.2) (S_OFFSET_FETCH.ext F207.2) (S_FIND_COORDINATOR.ext F207.2) (S_JOIN_GROUP.ext F207.2) (S_HEARTBEAT.ext F207.2) (S_LEAVE_GROUP.ext F207.2) (S_SYNC_GROUP.ext F207.2) (S_API_VERSIONS.ext F207.2) (S_INIT_PRODUCER_ID.ext F207.2) (E_PRODUCE.ext F207.2) (E_FETCH.ext F207.2) (E_LIST_OFFSETS.ext F207.2) (E_METADATA.ext F207.2) (E_OFFSET_COMMIT.ext F207.2) (E_OFFSET_FETCH.ext F207.2) (E_FIND_COORDINATOR.ext F207.2) (E_JOIN_GROUP.ext F207.2) (E_HEARTBEAT.ext F207.2) (E_LEAVE_GROUP.ext F207.2) (E_SYNC_GROUP.ext F207.2) (E_API_VERSIONS.ext F207.2) (E_INIT_PRODUCER_ID.ext F207.2) (A_PRODUCE.ext F207.2) (A_FETCH.ext F207.2) (A_LIST_OFFSETS.ext F207.2) (A_METADATA.ext F207.2) (A_OFFSET_COMMIT.ext F207.2) (A_OFFSET_FETCH.ext F207.2) (A_FIND_COORDINATOR.ext F207.2) (A_JOIN_GROUP.ext F207.2) (A_HEARTBEAT.ext F207.2) (A_LEAVE_GROUP.ext F207.2) (A_SYNC_GROUP.ext F207.2) (A_API_VERSIONS.ext F207.2) (A_INIT_PRODUCER_ID.ext F207.2) (B_PRODUCE.ext F207.2) (B_FETCH.ext F207.2) (B_LIST_OFFSETS.ext F207.2) (B_METADATA.ext F207.2) (B_OFFSET_COMMIT.ext F207.2) (B_OFFSET_FETCH.ext F207.2) (B_FIND_COORDINATOR.ext F207.2) (B_JOIN_GROUP.ext F207.2) (B_HEARTBEAT.ext F207.2) (B_LEAVE_GROUP.ext F207.2) (B_SYNC_GROUP.ext F207.2) (B_API_VERSIONS.ext F207.2) (B_INIT_PRODUCER_ID.ext F207.2)) hZ (hw _ (List.mem_of_getElem? (i := 5) rfl)) (hw _ (List.mem_of_getElem? (i := 4) rfl)) (by decide) (by decide)) (g := (mkF m 142 #[.val (.int p1), .val (.int p2), .val (.int kx), .val (.int sv), .val (.ref blo), .val (.ref bhi), .unset, .unset] [(.int kx)])) rfl (by rw [hml]; rfl) (argsL := [(.int kx)]) (rest := []) (lenOf pd_0 rfl) rfl (by show 2 * 0 + _ ≤ _; exact Nat.le_of_eq rfl) (hb hby at_142) (fun _ _ => ⟨rfl, e206, (by decide : 2 + 0 ≤ _), (by decide : 26 + 0 ≤ _)⟩)
  dsimp only [Pt.U, Pt.locs, Pt.cells, Pt.slots] at X214 l214 y214 z214 st214 hQ214
  subst l214 y214 z214
  obtain ⟨bp, rfl, N214q, e214, Ebp, Abp, Bbp⟩ := hQ214
  have N214 := Fr.app N206 N214q
  have P215 : ∀ t, Steps p.tables e below (T214.setTop (mkF m 145 #[.val (.int p1), .val (.int p2), .val (.int kx), .val (.int sv), .val (.ref blo), .val (.ref bhi), .unset, .unset] [(.ref bp)])) t → Steps p.tables e below (s₁.setTop (entryFrame m #[(.int p1), (.int p2)] maxLocals)) t := fun t k => P213 _ (st214 _ k)
  have P216 : ∀ t, Steps p.tables e below (T214.setTop (mkF m 168 #[.val (.int p1), .val (.int p2), .val (.int kx), .val (.int sv), .val (.ref blo), .val (.ref bhi), .val (.ref bp), .unset] [(.int (if sv < (own_lo kx) then (0 : Int32) else (if (own_hi kx) < sv then (0 : Int32) else (1 : Int32))))])) t → Steps p.tables e below (s₁.setTop (entryFrame m #[(.int p1), (.int p2)] maxLocals)) t := by
    intro t k
    refine P215 _ ?_
    refine XS.astore X214.here hx rfl (hb hby at_145) rfl rfl (l' := #[.val (.int p1), .val (.int p2), .val (.int kx), .val (.int sv), .val (.ref blo), .val (.ref bhi), .val (.ref bp), .unset]) rfl ?_
    show Steps p.tables e below (T214.setTop (mkF m 147 #[.val (.int p1), .val (.int p2), .val (.int kx), .val (.int sv), .val (.ref blo), .val (.ref bhi), .val (.ref bp), .unset] [])) _
    refine XS.aload X214.here hx rfl (hb hby at_147) rfl rfl ?_
    show Steps p.tables e below (T214.setTop (mkF m 149 #[.val (.int p1), .val (.int p2), .val (.int kx), .val (.int sv), .val (.ref blo), .val (.ref bhi), .val (.ref bp), .unset] [(.ref blo)])) _
    refine XS.iloadN X214.here hx rfl (hb hby at_149) rfl ?_
    show Steps p.tables e below (T214.setTop (mkF m 150 #[.val (.int p1), .val (.int p2), .val (.int kx), .val (.int sv), .val (.ref blo), .val (.ref bhi), .val (.ref bp), .unset] [(.int kx), (.ref blo)])) _
    refine own_ial X214 hx hZ e214 F208 hkin (v := (.int (own_lo kx))) (own_getlo hkr) rfl rfl (hb hby at_150) ?_
    show Steps p.tables e below (T214.setTop (mkF m 151 #[.val (.int p1), .val (.int p2), .val (.int kx), .val (.int sv), .val (.ref blo), .val (.ref bhi), .val (.ref bp), .unset] [(.int (own_lo kx))])) _
    refine XS.iloadN X214.here hx rfl (hb hby at_151) rfl ?_
    show Steps p.tables e below (T214.setTop (mkF m 152 #[.val (.int p1), .val (.int p2), .val (.int kx), .val (.int sv), .val (.ref blo), .val (.ref bhi), .val (.ref bp), .unset] [(.int sv), (.int (own_lo kx))])) _
    by_cases c152 : sv < (own_lo kx)
    · try simp only [if_pos c152] at k
      refine XS.icmpYes X214.here hx rfl (pc0 := 152) (pc' := 167) rfl (hb hby at_152) rfl (XT.ii_gt_t c152) (by decide) (by decide) ?_
      show Steps p.tables e below (T214.setTop (mkF m 167 #[.val (.int p1), .val (.int p2), .val (.int kx), .val (.int sv), .val (.ref blo), .val (.ref bhi), .val (.ref bp), .unset] [])) _
      refine XS.iconst X214.here hx rfl (hb hby at_167) ?_
      show Steps p.tables e below (T214.setTop (mkF m 168 #[.val (.int p1), .val (.int p2), .val (.int kx), .val (.int sv), .val (.ref blo), .val (.ref bhi), .val (.ref bp), .unset] [(.int (0 : Int32))])) _
      exact k
    · try simp only [if_neg c152] at k
      refine XS.icmpNo X214.here hx rfl (hb hby at_152) rfl (XT.ii_gt_f c152) ?_
      show Steps p.tables e below (T214.setTop (mkF m 155 #[.val (.int p1), .val (.int p2), .val (.int kx), .val (.int sv), .val (.ref blo), .val (.ref bhi), .val (.ref bp), .unset] [])) _
      refine XS.iloadN X214.here hx rfl (hb hby at_155) rfl ?_
      show Steps p.tables e below (T214.setTop (mkF m 156 #[.val (.int p1), .val (.int p2), .val (.int kx), .val (.int sv), .val (.ref blo), .val (.ref bhi), .val (.ref bp), .unset] [(.int sv)])) _
      refine XS.aload X214.here hx rfl (hb hby at_156) rfl rfl ?_
      show Steps p.tables e below (T214.setTop (mkF m 158 #[.val (.int p1), .val (.int p2), .val (.int kx), .val (.int sv), .val (.ref blo), .val (.ref bhi), .val (.ref bp), .unset] [(.ref bhi), (.int sv)])) _
      refine XS.iloadN X214.here hx rfl (hb hby at_158) rfl ?_
      show Steps p.tables e below (T214.setTop (mkF m 159 #[.val (.int p1), .val (.int p2), .val (.int kx), .val (.int sv), .val (.ref blo), .val (.ref bhi), .val (.ref bp), .unset] [(.int kx), (.ref bhi), (.int sv)])) _
      refine own_ial X214 hx hZ e214 F209 hkin (v := (.int (own_hi kx))) (own_gethi hkr) rfl rfl (hb hby at_159) ?_
      show Steps p.tables e below (T214.setTop (mkF m 160 #[.val (.int p1), .val (.int p2), .val (.int kx), .val (.int sv), .val (.ref blo), .val (.ref bhi), .val (.ref bp), .unset] [(.int (own_hi kx)), (.int sv)])) _
      by_cases c160 : (own_hi kx) < sv
      · try simp only [if_pos c160] at k
        refine XS.icmpYes X214.here hx rfl (pc0 := 160) (pc' := 167) rfl (hb hby at_160) rfl (XT.ii_gt_t c160) (by decide) (by decide) ?_
        show Steps p.tables e below (T214.setTop (mkF m 167 #[.val (.int p1), .val (.int p2), .val (.int kx), .val (.int sv), .val (.ref blo), .val (.ref bhi), .val (.ref bp), .unset] [])) _
        refine XS.iconst X214.here hx rfl (hb hby at_167) ?_
        show Steps p.tables e below (T214.setTop (mkF m 168 #[.val (.int p1), .val (.int p2), .val (.int kx), .val (.int sv), .val (.ref blo), .val (.ref bhi), .val (.ref bp), .unset] [(.int (0 : Int32))])) _
        exact k
      · try simp only [if_neg c160] at k
        refine XS.icmpNo X214.here hx rfl (hb hby at_160) rfl (XT.ii_gt_f c160) ?_
        show Steps p.tables e below (T214.setTop (mkF m 163 #[.val (.int p1), .val (.int p2), .val (.int kx), .val (.int sv), .val (.ref blo), .val (.ref bhi), .val (.ref bp), .unset] [])) _
        refine XS.iconst X214.here hx rfl (hb hby at_163) ?_
        show Steps p.tables e below (T214.setTop (mkF m 164 #[.val (.int p1), .val (.int p2), .val (.int kx), .val (.int sv), .val (.ref blo), .val (.ref bhi), .val (.ref bp), .unset] [(.int (1 : Int32))])) _
        refine XS.goto X214.here hx rfl (pc0 := 164) (pc' := 168) rfl (hb hby at_164) (by decide) (by decide) ?_
        show Steps p.tables e below (T214.setTop (mkF m 168 #[.val (.int p1), .val (.int p2), .val (.int kx), .val (.int sv), .val (.ref blo), .val (.ref bhi), .val (.ref bp), .unset] [(.int (1 : Int32))])) _
        exact k
  obtain ⟨y152, hy152⟩ : ∃ z : Int32, z = (if sv < (own_lo kx) then (0 : Int32) else (if (own_hi kx) < sv then (0 : Int32) else (1 : Int32))) := ⟨_, rfl⟩
  rw [← hy152] at P216
  have P217 : ∀ t, Steps p.tables e below (T214.setTop (mkF m 173 #[.val (.int p1), .val (.int p2), .val (.int kx), .val (.int sv), .val (.ref blo), .val (.ref bhi), .val (.ref bp), .val (.int y152)] [(.int sv), (.ref bp)])) t → Steps p.tables e below (s₁.setTop (entryFrame m #[(.int p1), (.int p2)] maxLocals)) t := by
    intro t k
    refine P216 _ ?_
    refine XS.istore X214.here hx rfl (hb hby at_168) rfl (l' := #[.val (.int p1), .val (.int p2), .val (.int kx), .val (.int sv), .val (.ref blo), .val (.ref bhi), .val (.ref bp), .val (.int y152)]) rfl ?_
    show Steps p.tables e below (T214.setTop (mkF m 170 #[.val (.int p1), .val (.int p2), .val (.int kx), .val (.int sv), .val (.ref blo), .val (.ref bhi), .val (.ref bp), .val (.int y152)] [])) _
    refine XS.aload X214.here hx rfl (hb hby at_170) rfl rfl ?_
    show Steps p.tables e below (T214.setTop (mkF m 172 #[.val (.int p1), .val (.int p2), .val (.int kx), .val (.int sv), .val (.ref blo), .val (.ref bhi), .val (.ref bp), .val (.int y152)] [(.ref bp)])) _
    refine XS.iloadN X214.here hx rfl (hb hby at_172) rfl ?_
    show Steps p.tables e below (T214.setTop (mkF m 173 #[.val (.int p1), .val (.int p2), .val (.int kx), .val (.int sv), .val (.ref blo), .val (.ref bhi), .val (.ref bp), .val (.int y152)] [(.int sv), (.ref bp)])) _
    exact k
  obtain ⟨cq218, kq218, qa218, qb218, qc218⟩ := isOf hZ e214 Ebp
  obtain ⟨_, _, ⟨T218, L218, k218, n218⟩, -, X218, ⟨Lc218, hQ218, l218, y218, z218⟩, st218⟩ := X214.virtualBack hx (y := (⟨"ledgerline/node/Api", "serves", "(S)Z"⟩ : MethodName)) (z := (⟨"ledgerline/node/Api", "serves", "(S)Z"⟩ : MethodName)) hown (mvT hZ (hw _ (List.mem_of_getElem? (i := 9) rfl))) (mvT hZ (hw _ (List.mem_of_getElem? (i := 10) rfl))) (notFace_of_selects (args := #[]) (mvT hZ (hw _ (List.mem_of_getElem? (i := 12) rfl)))) (mvT hZ (hw _ (List.mem_of_getElem? (i := 12) rfl))) (mvT hZ (hw _ (List.mem_of_getElem? (i := 11) rfl))) (by decide) (backOf (W := 0) (rm1 l Z a0 hw [] bp sv (own_lo kx) (own_hi kx) h206 n0 Z210 Abp Bbp) hZ (hw _ (List.mem_of_getElem? (i := 13) rfl)) (hw _ (List.mem_of_getElem? (i := 7) rfl)) (by decide) (by decide)) qa218 qc218 (g := (mkF m 173 #[.val (.int p1), .val (.int p2), .val (.int kx), .val (.int sv), .val (.ref blo), .val (.ref bhi), .val (.ref bp), .val (.int y152)] [(.int sv), (.ref bp)])) rfl (by rw [hml]; rfl) (Steps.refl _) (argsL := [(.int sv)]) (rest := []) (lenOf pd_1 rfl) rfl (by show 2 * 0 + _ ≤ _; exact Nat.le_of_eq rfl) (hb hby at_173) (fun _ _ => ⟨rfl, e214, (by decide : 2 + 0 ≤ _), (by decide : 26 + 0 ≤ _)⟩)
  dsimp only [Pt.U, Pt.locs, Pt.cells, Pt.slots] at X218 l218 y218 z218 st218 hQ218
  subst l218 y218 z218
  obtain ⟨rfl, N218q, e218⟩ := hQ218
  have N218 := Fr.app N214 N218q
  have P219 : ∀ t, Steps p.tables e below (T218.setTop (mkF m 176 #[.val (.int p1), .val (.int p2), .val (.int kx), .val (.int sv), .val (.ref blo), .val (.ref bhi), .val (.ref bp), .val (.int y152)] [(.int (if sv < (own_lo kx) then (0 : Int32) else (if (own_hi kx) < sv then (0 : Int32) else (1 : Int32))))])) t → Steps p.tables e below (s₁.setTop (entryFrame m #[(.int p1), (.int p2)] maxLocals)) t := fun t k => P217 _ (st218.trans k)
  obtain ⟨r, hr⟩ : ∃ z : Int32, z = (if sv < (own_lo kx) then (0 : Int32) else (if (own_hi kx) < sv then (0 : Int32) else (1 : Int32))) := ⟨_, rfl⟩
  rw [← hr] at P219
  have re : r = y152 := by rw [hr, hy152]
  have P220 : ∀ t, Steps p.tables e below (T218.setTop (mkF m 186 #[.val (.int p1), .val (.int p2), .val (.int kx), .val (.int sv), .val (.ref blo), .val (.ref bhi), .val (.ref bp), .val (.int y152)] [(.int (1 : Int32))])) t → Steps p.tables e below (s₁.setTop (entryFrame m #[(.int p1), (.int p2)] maxLocals)) t := by
    intro t k
    refine P219 _ ?_
    refine XS.iload X218.here hx rfl (hb hby at_176) rfl ?_
    show Steps p.tables e below (T218.setTop (mkF m 178 #[.val (.int p1), .val (.int p2), .val (.int kx), .val (.int sv), .val (.ref blo), .val (.ref bhi), .val (.ref bp), .val (.int y152)] [(.int y152), (.int r)])) _
    refine XS.icmpNo X218.here hx rfl (hb hby at_178) rfl (XT.ii_ne_f re) ?_
    show Steps p.tables e below (T218.setTop (mkF m 181 #[.val (.int p1), .val (.int p2), .val (.int kx), .val (.int sv), .val (.ref blo), .val (.ref bhi), .val (.ref bp), .val (.int y152)] [])) _
    refine XS.iconst X218.here hx rfl (hb hby at_181) ?_
    show Steps p.tables e below (T218.setTop (mkF m 182 #[.val (.int p1), .val (.int p2), .val (.int kx), .val (.int sv), .val (.ref blo), .val (.ref bhi), .val (.ref bp), .val (.int y152)] [(.int (1 : Int32))])) _
    refine XS.goto X218.here hx rfl (pc0 := 182) (pc' := 186) rfl (hb hby at_182) (by decide) (by decide) ?_
    show Steps p.tables e below (T218.setTop (mkF m 186 #[.val (.int p1), .val (.int p2), .val (.int kx), .val (.int sv), .val (.ref blo), .val (.ref bhi), .val (.ref bp), .val (.int y152)] [(.int (1 : Int32))])) _
    exact k
  obtain ⟨fs, hr, hrun, hended, hW, hsame⟩ := X218.leave (v := some (.int (1 : Int32))) (fun h => by rw [Bd.returns] at h; cases h)
  refine ⟨_, _, P220 _ ?_, hrun, hended, _, _, rfl, ?_, ⟨_, rfl⟩, hW, hsame.mono (by decide) (by decide)⟩
  · exact retN X218 hx (t := .boolean) Bd.returns (by simp) (hb hby at_186) hr
  · show Q0 Z p1 p2 w_PRODUCE w_FETCH w_LIST_OFFSETS w_METADATA w_OFFSET_COMMIT w_OFFSET_FETCH w_FIND_COORDINATOR w_JOIN_GROUP w_HEARTBEAT w_LEAVE_GROUP w_SYNC_GROUP w_API_VERSIONS w_INIT_PRODUCER_ID h0 n0 _ T218.heap _
    rw [e218]
    exact ⟨rfl, N218⟩
set_option maxRecDepth 65536 in
set_option maxHeartbeats 40000000 in
theorem comes_1 {Post : Tables → Env → Array Value → State → Outcome → State → Prop} (hpost : ∀ tb e args s v u, (limb_1_1.after args s (.returned v) u = true ∧ limb_1_2.after args s (.returned v) u = true ∧ True) → FrameEnd s (.returned v) u (Jvm.fieldLocs frame_1_writes args s ++ Jvm.arrayLocs frame_1_arrays args s ++ Jvm.staticLocs frame_1_statics s) 16 128 → Post tb e args s (.returned v) u) :
    ArmFor flags0 classFile x code maxLocals ret World_1 tables_1 room_1 Calls_1 rest_1 Pre_1 Post := by
  intro l hfl _ _ p e ha hc hk s m args below hf hA hF happ hP
  obtain ⟨hcalls, hrest, hpre⟩ := hP
  obtain ⟨-, -, -, hnamed, -, -, -, hat⟩ := (Spec.applies_iff hf).mp happ
  obtain ⟨hg, hn⟩ := and_e (Cond.before_iff.mp (show (Jvm.Cond.and given_1 narrow_1).before args s = true from hpre))
  obtain ⟨g1, g2⟩ := and_e hg
  obtain ⟨g3, g4⟩ := and_e g2
  obtain ⟨w0, w1, rfl⟩ : ∃ w0 w1 : Value, args = #[w0, w1] := by
    have hs : args.size = 2 := by simpa [Cond.value, given_1] using g1
    obtain ⟨L⟩ := args
    match L, hs with
    | [w0, w1], _ => exact ⟨w0, w1, rfl⟩
  have hw := fun d (hd : d ∈ tables_1) => atoms_spec (ws := Jvm.Cond.code x code maxLocals ret :: tables_1) hat d (List.mem_cons_of_mem _ hd)
  have hfit : Fit s := fun {y c} hc i hi => by
    obtain ⟨ha, rfl⟩ := Array.getElem?_eq_some_iff.mp hc
    have q := List.all_eq_true.mp ((Array.all_eq_true_iff_forall_mem.mp hF) _ (Array.getElem_mem ha)) i (List.mem_range.mpr hi)
    simpa [Array.getElem?_eq_getElem hi] using q
  obtain ⟨i0, ei0⟩ := is_v g3
  obtain rfl : w0 = (.int i0) := Option.some.inj ei0
  obtain ⟨i1, ei1⟩ := is_v g4
  obtain rfl : w1 = (.int i1) := Option.some.inj ei1
  obtain ⟨t1, u1⟩ := and_e hn
  obtain ⟨t2, u2⟩ := and_e u1
  obtain ⟨t3, u3⟩ := and_e u2
  obtain ⟨t4, u4⟩ := and_e u3
  obtain ⟨t5, u5⟩ := and_e u4
  obtain ⟨t6, u6⟩ := and_e u5
  obtain ⟨t7, u7⟩ := and_e u6
  obtain ⟨t8, u8⟩ := and_e u7
  obtain ⟨t9, u9⟩ := and_e u8
  obtain ⟨t10, u10⟩ := and_e u9
  obtain ⟨t11, u11⟩ := and_e u10
  obtain ⟨t12, u12⟩ := and_e u11
  obtain ⟨t13, u13⟩ := and_e u12
  obtain ⟨t14, u14⟩ := and_e u13
  obtain ⟨t15, u15⟩ := and_e u14
  obtain ⟨t16, u16⟩ := and_e u15
  obtain ⟨t17, u17⟩ := and_e u16
  obtain ⟨t18, u18⟩ := and_e u17
  obtain ⟨t19, u19⟩ := and_e u18
  obtain ⟨t20, u20⟩ := and_e u19
  obtain ⟨t21, u21⟩ := and_e u20
  obtain ⟨t22, u22⟩ := and_e u21
  obtain ⟨t23, u23⟩ := and_e u22
  obtain ⟨t24, u24⟩ := and_e u23
  obtain ⟨t25, u25⟩ := and_e u24
  obtain ⟨t26, u26⟩ := and_e u25
  obtain ⟨t27, u27⟩ := and_e u26
  obtain ⟨t28, u28⟩ := and_e u27
  obtain ⟨t29, u29⟩ := and_e u28
  obtain ⟨t30, u30⟩ := and_e u29
  obtain ⟨t31, u31⟩ := and_e u30
  obtain ⟨t32, u32⟩ := and_e u31
  obtain ⟨t33, u33⟩ := and_e u32
  obtain ⟨t34, u34⟩ := and_e u33
  obtain ⟨t35, u35⟩ := and_e u34
  obtain ⟨t36, u36⟩ := and_e u35
  obtain ⟨t37, u37⟩ := and_e u36
  obtain ⟨t38, u38⟩ := and_e u37
  obtain ⟨w_PRODUCE, ev_PRODUCE⟩ := exa_v t1
  have E_PRODUCE := Exa.start ev_PRODUCE t1
  have S_PRODUCE := Sta.start ev_PRODUCE (Or.inr ⟨(hw _ (List.mem_of_getElem? (i := 7) rfl)), (hw _ (List.mem_of_getElem? (i := 8) rfl))⟩)
  have F_PRODUCE_minVersion := own_fldI ev_PRODUCE t2
  have F_PRODUCE_maxVersion := own_fldI ev_PRODUCE t3
  obtain ⟨w_FETCH, ev_FETCH⟩ := exa_v t4
  have E_FETCH := Exa.start ev_FETCH t4
  have S_FETCH := Sta.start ev_FETCH (Or.inr ⟨(hw _ (List.mem_of_getElem? (i := 7) rfl)), (hw _ (List.mem_of_getElem? (i := 19) rfl))⟩)
  have F_FETCH_minVersion := own_fldI ev_FETCH t5
  have F_FETCH_maxVersion := own_fldI ev_FETCH t35
  obtain ⟨w_LIST_OFFSETS, ev_LIST_OFFSETS⟩ := exa_v t25
  have E_LIST_OFFSETS := Exa.start ev_LIST_OFFSETS t25
  have S_LIST_OFFSETS := Sta.start ev_LIST_OFFSETS (Or.inr ⟨(hw _ (List.mem_of_getElem? (i := 7) rfl)), (hw _ (List.mem_of_getElem? (i := 35) rfl))⟩)
  have F_LIST_OFFSETS_minVersion := own_fldI ev_LIST_OFFSETS t26
  have F_LIST_OFFSETS_maxVersion := own_fldI ev_LIST_OFFSETS t27
  obtain ⟨w_METADATA, ev_METADATA⟩ := exa_v t9
  have E_METADATA := Exa.start ev_METADATA t9
  have S_METADATA := Sta.start ev_METADATA (Or.inr ⟨(hw _ (List.mem_of_getElem? (i := 7) rfl)), (hw _ (List.mem_of_getElem? (i := 23) rfl))⟩)
  have F_METADATA_minVersion := own_fldI ev_METADATA t10
  have F_METADATA_maxVersion := own_fldI ev_METADATA t28
  obtain ⟨w_OFFSET_COMMIT, ev_OFFSET_COMMIT⟩ := exa_v t6
  have E_OFFSET_COMMIT := Exa.start ev_OFFSET_COMMIT t6
  have S_OFFSET_COMMIT := Sta.start ev_OFFSET_COMMIT (Or.inr ⟨(hw _ (List.mem_of_getElem? (i := 7) rfl)), (hw _ (List.mem_of_getElem? (i := 21) rfl))⟩)
  have F_OFFSET_COMMIT_minVersion := own_fldI ev_OFFSET_COMMIT t7
  have F_OFFSET_COMMIT_maxVersion := own_fldI ev_OFFSET_COMMIT t8
  obtain ⟨w_OFFSET_FETCH, ev_OFFSET_FETCH⟩ := exa_v t14
  have E_OFFSET_FETCH := Exa.start ev_OFFSET_FETCH t14
  have S_OFFSET_FETCH := Sta.start ev_OFFSET_FETCH (Or.inr ⟨(hw _ (List.mem_of_getElem? (i := 7) rfl)), (hw _ (List.mem_of_getElem? (i := 27) rfl))⟩)
  have F_OFFSET_FETCH_minVersion := own_fldI ev_OFFSET_FETCH t15
  have F_OFFSET_FETCH_maxVersion := own_fldI ev_OFFSET_FETCH t16
  obtain ⟨w_FIND_COORDINATOR, ev_FIND_COORDINATOR⟩ := exa_v t17
  have E_FIND_COORDINATOR := Exa.start ev_FIND_COORDINATOR t17
  have S_FIND_COORDINATOR := Sta.start ev_FIND_COORDINATOR (Or.inr ⟨(hw _ (List.mem_of_getElem? (i := 7) rfl)), (hw _ (List.mem_of_getElem? (i := 29) rfl))⟩)
  have F_FIND_COORDINATOR_minVersion := own_fldI ev_FIND_COORDINATOR t18
  have F_FIND_COORDINATOR_maxVersion := own_fldI ev_FIND_COORDINATOR t19
  obtain ⟨w_JOIN_GROUP, ev_JOIN_GROUP⟩ := exa_v t37
  have E_JOIN_GROUP := Exa.start ev_JOIN_GROUP t37
  have S_JOIN_GROUP := Sta.start ev_JOIN_GROUP (Or.inr ⟨(hw _ (List.mem_of_getElem? (i := 7) rfl)), (hw _ (List.mem_of_getElem? (i := 41) rfl))⟩)
  have F_JOIN_GROUP_minVersion := own_fldI ev_JOIN_GROUP t38
  have F_JOIN_GROUP_maxVersion := own_fldI ev_JOIN_GROUP u38
  obtain ⟨w_HEARTBEAT, ev_HEARTBEAT⟩ := exa_v t20
  have E_HEARTBEAT := Exa.start ev_HEARTBEAT t20
  have S_HEARTBEAT := Sta.start ev_HEARTBEAT (Or.inr ⟨(hw _ (List.mem_of_getElem? (i := 7) rfl)), (hw _ (List.mem_of_getElem? (i := 31) rfl))⟩)
  have F_HEARTBEAT_minVersion := own_fldI ev_HEARTBEAT t21
  have F_HEARTBEAT_maxVersion := own_fldI ev_HEARTBEAT t29
  obtain ⟨w_LEAVE_GROUP, ev_LEAVE_GROUP⟩ := exa_v t11
  have E_LEAVE_GROUP := Exa.start ev_LEAVE_GROUP t11
  have S_LEAVE_GROUP := Sta.start ev_LEAVE_GROUP (Or.inr ⟨(hw _ (List.mem_of_getElem? (i := 7) rfl)), (hw _ (List.mem_of_getElem? (i := 25) rfl))⟩)
  have F_LEAVE_GROUP_minVersion := own_fldI ev_LEAVE_GROUP t12
  have F_LEAVE_GROUP_maxVersion := own_fldI ev_LEAVE_GROUP t13
  obtain ⟨w_SYNC_GROUP, ev_SYNC_GROUP⟩ := exa_v t30
  have E_SYNC_GROUP := Exa.start ev_SYNC_GROUP t30
  have S_SYNC_GROUP := Sta.start ev_SYNC_GROUP (Or.inr ⟨(hw _ (List.mem_of_getElem? (i := 7) rfl)), (hw _ (List.mem_of_getElem? (i := 37) rfl))⟩)
  have F_SYNC_GROUP_minVersion := own_fldI ev_SYNC_GROUP t31
  have F_SYNC_GROUP_maxVersion := own_fldI ev_SYNC_GROUP t36
  obtain ⟨w_API_VERSIONS, ev_API_VERSIONS⟩ := exa_v t32
  have E_API_VERSIONS := Exa.start ev_API_VERSIONS t32
  have S_API_VERSIONS := Sta.start ev_API_VERSIONS (Or.inr ⟨(hw _ (List.mem_of_getElem? (i := 7) rfl)), (hw _ (List.mem_of_getElem? (i := 39) rfl))⟩)
  have F_API_VERSIONS_minVersion := own_fldI ev_API_VERSIONS t33
  have F_API_VERSIONS_maxVersion := own_fldI ev_API_VERSIONS t34
  obtain ⟨w_INIT_PRODUCER_ID, ev_INIT_PRODUCER_ID⟩ := exa_v t22
  have E_INIT_PRODUCER_ID := Exa.start ev_INIT_PRODUCER_ID t22
  have S_INIT_PRODUCER_ID := Sta.start ev_INIT_PRODUCER_ID (Or.inr ⟨(hw _ (List.mem_of_getElem? (i := 7) rfl)), (hw _ (List.mem_of_getElem? (i := 33) rfl))⟩)
  have F_INIT_PRODUCER_ID_minVersion := own_fldI ev_INIT_PRODUCER_ID t23
  have F_INIT_PRODUCER_ID_maxVersion := own_fldI ev_INIT_PRODUCER_ID t24
  obtain ⟨n, o, h1, h2, h3, _, L, rfl, ⟨rfl, N⟩, hq⟩ := rm0 l s _ hw tables_1 i0 i1 w_PRODUCE w_FETCH w_LIST_OFFSETS w_METADATA w_OFFSET_COMMIT w_OFFSET_FETCH w_FIND_COORDINATOR w_JOIN_GROUP w_HEARTBEAT w_LEAVE_GROUP w_SYNC_GROUP w_API_VERSIONS w_INIT_PRODUCER_ID s.heap s.heap.size (Nat.le_refl _) (Old.start s) S_PRODUCE S_FETCH S_LIST_OFFSETS S_METADATA S_OFFSET_COMMIT S_OFFSET_FETCH S_FIND_COORDINATOR S_JOIN_GROUP S_HEARTBEAT S_LEAVE_GROUP S_SYNC_GROUP S_API_VERSIONS S_INIT_PRODUCER_ID E_PRODUCE E_FETCH E_LIST_OFFSETS E_METADATA E_OFFSET_COMMIT E_OFFSET_FETCH E_FIND_COORDINATOR E_JOIN_GROUP E_HEARTBEAT E_LEAVE_GROUP E_SYNC_GROUP E_API_VERSIONS E_INIT_PRODUCER_ID F_PRODUCE_minVersion F_FETCH_minVersion F_LIST_OFFSETS_minVersion F_METADATA_minVersion F_OFFSET_COMMIT_minVersion F_OFFSET_FETCH_minVersion F_FIND_COORDINATOR_minVersion F_JOIN_GROUP_minVersion F_HEARTBEAT_minVersion F_LEAVE_GROUP_minVersion F_SYNC_GROUP_minVersion F_API_VERSIONS_minVersion F_INIT_PRODUCER_ID_minVersion F_PRODUCE_maxVersion F_FETCH_maxVersion F_LIST_OFFSETS_maxVersion F_METADATA_maxVersion F_OFFSET_COMMIT_maxVersion F_OFFSET_FETCH_maxVersion F_FIND_COORDINATOR_maxVersion F_JOIN_GROUP_maxVersion F_HEARTBEAT_maxVersion F_LEAVE_GROUP_maxVersion F_SYNC_GROUP_maxVersion F_API_VERSIONS_maxVersion F_INIT_PRODUCER_ID_maxVersion p e ha hc hk s m _ below hf ((Spec.applies_iff_loose hf).mp happ).1 ⟨rfl, State.Warmed39.refl s, rfl⟩ trivial
  refine ⟨n, _, h1, h2, h3, hpost _ _ _ _ _ _ ⟨Cond.after_iff.mpr rfl, Cond.after_iff.mpr (eq_i res_at (Term.int_eval (1)) rfl), trivial⟩ ⟨hq.1, hq.2.1, (hq.2.2.sift fun y hy => Or.inr (N y hy)).mono (by decide) (by decide)⟩⟩
theorem main_1_1 : Claimed_1_1 := comes_1 fun _ _ _ _ _ _ h hF => ⟨h.1, hF⟩
theorem main_1_2 : Claimed_1_2 := comes_1 fun _ _ _ _ _ _ h hF => ⟨h.2.1, hF⟩
end Jvm.Pilot.@@N@@
namespace Jvm.Pilot.@@N@@
open Jvm Jvm.ClassFile Sem Op Lib Jvm.Free Jvm.Stand Jvm.Pilot.@@N@@.Jvm.D
/-! MADE BY PROGRAM (witnessworld.py) out of the Statement's table words and the real class files: 12 classes; the members and pool entries that the words name. The judged class is class 1, her method 1. -/
namespace start1
open Jvm.ClassFile
def u (s : String) : CpInfo := .utf8 (stringToUtf16 s)
/-- a pool by its gaps: so many unusable entries, then the entry; so many at the end -/
def gap : Nat → List CpInfo → List CpInfo
  | 0, r => r
  | n + 1, r => .unusable :: gap n r
def poolList (es : List (Nat × CpInfo)) (last : Nat) : List CpInfo := es.foldr (fun e r => gap e.1 (e.2 :: r)) (gap last [])
def pool (es : List (Nat × CpInfo)) (last : Nat) : Array CpInfo := ⟨poolList es last⟩
def fileOf (pool : Array CpInfo) (this : Nat) (attrs : Array Attribute := #[]) (ms : Array MethodInfo := #[]) (fl : Nat := 33) (sup : Nat := 0) (ifs : Array Nat := #[]) (fds : Array FieldInfo := #[]) : ClassFile where
  minorVersion := 0
  majorVersion := 65
  constantPool := pool
  accessFlags := fl
  thisClass := this
  superClass := sup
  interfaces := ifs
  fields := fds
  methods := ms
  attributes := attrs
def plain (name : String) (sup : Option ClassId) : Class where
  name := name
  kind := .ordinary
  loader := none
  accessFlags := 33
  super := sup
  interfaces := #[]
  cf := none
  fields := #[]
  methods := #[]
  instanceTypes := #[]
  staticTypes := #[]
  resolved := #[]
  callSites := []
  init := .initialized
  statics := none
  mirror := none

def pool0 : Array CpInfo := pool [(5, u "<init>"), (0, u "()V"), (1, .class_ 10), (1, u "java/lang/Object")] 113

def k0m0 : Method := { name := "<init>", desc := "()V", sig := { parameters := [], returnType := none }, accessFlags := 1, code := none }
/-- java/lang/Object -/
def k0 : Class := { plain "java/lang/Object" none with
  accessFlags := 33
  interfaces := #[]
  cf := some (fileOf pool0 8 #[] #[{ accessFlags := 1, nameIndex := 5, descriptorIndex := 6, attributes := #[] }] 33 0 #[] #[])
  fields := #[]
  methods := #[k0m0]
  instanceTypes := #[]
  staticTypes := #[]
  resolved := Array.replicate 124 none
  statics := none }

def pool1 : Array CpInfo := pool [(2, .class_ 4), (1, u "java/lang/Object"), (0, u "<init>"), (0, u "()V"), (0, .integer 2147483647), (0, .methodref 9 10), (0, .class_ 11), (0, .nameAndType 12 13), (0, u "ledgerline/node/ApiServesPinLaw"), (0, u "pick"), (0, u "(I)Lledgerline/node/Api;"), (0, .methodref 15 16), (0, .class_ 17), (0, .nameAndType 18 19), (0, u "ledgerline/node/Api"), (0, u "serves"), (0, u "(S)Z"), (0, .fieldref 15 21), (0, .nameAndType 22 23), (0, u "PRODUCE"), (0, u "Lledgerline/node/Api;"), (0, .fieldref 15 25), (0, .nameAndType 26 23), (0, u "FETCH"), (0, .fieldref 15 28), (0, .nameAndType 29 23), (0, u "LIST_OFFSETS"), (0, .fieldref 15 31), (0, .nameAndType 32 23), (0, u "METADATA"), (0, .fieldref 15 34), (0, .nameAndType 35 23), (0, u "OFFSET_COMMIT"), (0, .fieldref 15 37), (0, .nameAndType 38 23), (0, u "OFFSET_FETCH"), (0, .fieldref 15 40), (0, .nameAndType 41 23), (0, u "FIND_COORDINATOR"), (0, .fieldref 15 43), (0, .nameAndType 44 23), (0, u "JOIN_GROUP"), (0, .fieldref 15 46), (0, .nameAndType 47 23), (0, u "HEARTBEAT"), (0, .fieldref 15 49), (0, .nameAndType 50 23), (0, u "LEAVE_GROUP"), (0, .fieldref 15 52), (0, .nameAndType 53 23), (0, u "SYNC_GROUP"), (0, .fieldref 15 55), (0, .nameAndType 56 23), (0, u "API_VERSIONS"), (0, .fieldref 15 58), (0, .nameAndType 59 23), (0, u "INIT_PRODUCER_ID"), (2, u "law"), (0, u "(II)Z")] 5

def k1m0 : Method := { name := "<init>", desc := "()V", sig := { parameters := [], returnType := none }, accessFlags := 1, code := none }
def k1c1 : Code := { maxStack := 4, maxLocals := 8, code := code, exceptionTable := #[], attributes := #[] }
def k1m1 : Method := { name := "law", desc := "(II)Z", sig := { parameters := [.int, .int], returnType := some .boolean }, accessFlags := 9, code := some k1c1 }
def k1c2 : Code := { maxStack := 2, maxLocals := 1, code := method_3_code, exceptionTable := #[], attributes := #[] }
def k1m2 : Method := { name := "pick", desc := "(I)Lledgerline/node/Api;", sig := { parameters := [.int], returnType := some (.object "ledgerline/node/Api") }, accessFlags := 10, code := some k1c2 }
/-- ledgerline/node/ApiServesPinLaw -/
def k1 : Class := { plain "ledgerline/node/ApiServesPinLaw" (some 0) with
  accessFlags := 49
  interfaces := #[]
  cf := some (fileOf pool1 9 #[] #[{ accessFlags := 1, nameIndex := 5, descriptorIndex := 6, attributes := #[] }, { accessFlags := 9, nameIndex := 62, descriptorIndex := 63, attributes := #[] }, { accessFlags := 10, nameIndex := 12, descriptorIndex := 13, attributes := #[] }] 49 2 #[] #[])
  fields := #[]
  methods := #[k1m0, k1m1, k1m2]
  instanceTypes := #[]
  staticTypes := #[]
  resolved := Array.replicate 69 none
  statics := none }

def pool2 : Array CpInfo := pool [(1, .class_ 2), (0, u "java/lang/constant/Constable"), (0, .class_ 4), (0, u "java/lang/Object")] 6

/-- java/lang/constant/Constable -/
def k2 : Class := { plain "java/lang/constant/Constable" (some 0) with
  accessFlags := 1537
  interfaces := #[]
  cf := some (fileOf pool2 1 #[] #[] 1537 3 #[] #[])
  fields := #[]
  methods := #[]
  instanceTypes := #[]
  staticTypes := #[]
  resolved := Array.replicate 11 none
  statics := none }

def pool3 : Array CpInfo := pool [(1, .class_ 2), (0, u "java/lang/Comparable"), (0, .class_ 4), (0, u "java/lang/Object")] 7

/-- java/lang/Comparable -/
def k3 : Class := { plain "java/lang/Comparable" (some 0) with
  accessFlags := 1537
  interfaces := #[]
  cf := some (fileOf pool3 1 #[] #[] 1537 3 #[] #[])
  fields := #[]
  methods := #[]
  instanceTypes := #[]
  staticTypes := #[]
  resolved := Array.replicate 12 none
  statics := none }

def pool4 : Array CpInfo := pool [(1, .class_ 2), (0, u "java/io/Serializable"), (0, .class_ 4), (0, u "java/lang/Object")] 2

/-- java/io/Serializable -/
def k4 : Class := { plain "java/io/Serializable" (some 0) with
  accessFlags := 1537
  interfaces := #[]
  cf := some (fileOf pool4 1 #[] #[] 1537 3 #[] #[])
  fields := #[]
  methods := #[]
  instanceTypes := #[]
  staticTypes := #[]
  resolved := Array.replicate 7 none
  statics := none }

def pool5 : Array CpInfo := pool [(2, .class_ 4), (1, u "java/lang/Enum"), (0, u "name"), (0, u "Ljava/lang/String;"), (2, u "ordinal"), (0, u "I"), (1, .class_ 14), (1, u "java/lang/Object"), (4, u "hash"), (86, .class_ 108), (1, u "java/lang/Enum$EnumDesc"), (2, .class_ 112), (0, u "java/lang/constant/Constable"), (0, .class_ 114), (0, u "java/lang/Comparable"), (0, .class_ 116), (0, u "java/io/Serializable")] 87

/-- java/lang/Enum -/
def k5 : Class := { plain "java/lang/Enum" (some 0) with
  accessFlags := 1057
  interfaces := #[2, 3, 4]
  cf := some (fileOf pool5 2 #[.nestMembers #[106]] #[] 1057 12 #[111, 113, 115] #[{ accessFlags := 18, nameIndex := 5, descriptorIndex := 6, attributes := #[] }, { accessFlags := 18, nameIndex := 9, descriptorIndex := 10, attributes := #[] }, { accessFlags := 2, nameIndex := 19, descriptorIndex := 10, attributes := #[] }])
  fields := #[{ name := "name", type := (.object "java/lang/String"), accessFlags := 18, slot := 0, constantValue := 0 }, { name := "ordinal", type := .int, accessFlags := 18, slot := 1, constantValue := 0 }, { name := "hash", type := .int, accessFlags := 2, slot := 2, constantValue := 0 }]
  methods := #[]
  instanceTypes := #[(.object "java/lang/String"), .int, .int]
  staticTypes := #[]
  resolved := Array.replicate 204 none
  statics := none }

def pool6 : Array CpInfo := pool [(1, .class_ 2), (0, u "ledgerline/node/Api"), (2, u "PRODUCE"), (0, u "Lledgerline/node/Api;"), (2, u "FETCH"), (2, u "LIST_OFFSETS"), (2, u "METADATA"), (2, u "OFFSET_COMMIT"), (2, u "OFFSET_FETCH"), (2, u "FIND_COORDINATOR"), (2, u "JOIN_GROUP"), (2, u "HEARTBEAT"), (2, u "LEAVE_GROUP"), (2, u "SYNC_GROUP"), (2, u "API_VERSIONS"), (2, u "INIT_PRODUCER_ID"), (2, u "$VALUES"), (0, u "[Lledgerline/node/Api;"), (6, .class_ 55), (1, u "java/lang/Enum"), (8, u "key"), (0, u "S"), (0, .fieldref 1 67), (0, .nameAndType 68 65), (0, u "minVersion"), (0, .fieldref 1 70), (0, .nameAndType 71 65), (0, u "maxVersion"), (42, u "serves"), (0, u "(S)Z")] 5

def k6c0 : Code := { maxStack := 2, maxLocals := 2, code := prog_60_method_5_code, exceptionTable := #[], attributes := #[] }
def k6m0 : Method := { name := "serves", desc := "(S)Z", sig := { parameters := [.short], returnType := some .boolean }, accessFlags := 0, code := some k6c0 }
/-- ledgerline/node/Api -/
def k6 : Class := { plain "ledgerline/node/Api" (some 5) with
  accessFlags := 16432
  interfaces := #[]
  cf := some (fileOf pool6 1 #[] #[{ accessFlags := 0, nameIndex := 114, descriptorIndex := 115, attributes := #[] }] 16432 53 #[] #[{ accessFlags := 16409, nameIndex := 5, descriptorIndex := 6, attributes := #[] }, { accessFlags := 16409, nameIndex := 9, descriptorIndex := 6, attributes := #[] }, { accessFlags := 16409, nameIndex := 12, descriptorIndex := 6, attributes := #[] }, { accessFlags := 16409, nameIndex := 15, descriptorIndex := 6, attributes := #[] }, { accessFlags := 16409, nameIndex := 18, descriptorIndex := 6, attributes := #[] }, { accessFlags := 16409, nameIndex := 21, descriptorIndex := 6, attributes := #[] }, { accessFlags := 16409, nameIndex := 24, descriptorIndex := 6, attributes := #[] }, { accessFlags := 16409, nameIndex := 27, descriptorIndex := 6, attributes := #[] }, { accessFlags := 16409, nameIndex := 30, descriptorIndex := 6, attributes := #[] }, { accessFlags := 16409, nameIndex := 33, descriptorIndex := 6, attributes := #[] }, { accessFlags := 16409, nameIndex := 36, descriptorIndex := 6, attributes := #[] }, { accessFlags := 16409, nameIndex := 39, descriptorIndex := 6, attributes := #[] }, { accessFlags := 16409, nameIndex := 42, descriptorIndex := 6, attributes := #[] }, { accessFlags := 16, nameIndex := 64, descriptorIndex := 65, attributes := #[] }, { accessFlags := 16, nameIndex := 68, descriptorIndex := 65, attributes := #[] }, { accessFlags := 16, nameIndex := 71, descriptorIndex := 65, attributes := #[] }, { accessFlags := 4122, nameIndex := 45, descriptorIndex := 46, attributes := #[] }])
  fields := #[{ name := "PRODUCE", type := (.object "ledgerline/node/Api"), accessFlags := 16409, slot := 0, constantValue := 0 }, { name := "FETCH", type := (.object "ledgerline/node/Api"), accessFlags := 16409, slot := 1, constantValue := 0 }, { name := "LIST_OFFSETS", type := (.object "ledgerline/node/Api"), accessFlags := 16409, slot := 2, constantValue := 0 }, { name := "METADATA", type := (.object "ledgerline/node/Api"), accessFlags := 16409, slot := 3, constantValue := 0 }, { name := "OFFSET_COMMIT", type := (.object "ledgerline/node/Api"), accessFlags := 16409, slot := 4, constantValue := 0 }, { name := "OFFSET_FETCH", type := (.object "ledgerline/node/Api"), accessFlags := 16409, slot := 5, constantValue := 0 }, { name := "FIND_COORDINATOR", type := (.object "ledgerline/node/Api"), accessFlags := 16409, slot := 6, constantValue := 0 }, { name := "JOIN_GROUP", type := (.object "ledgerline/node/Api"), accessFlags := 16409, slot := 7, constantValue := 0 }, { name := "HEARTBEAT", type := (.object "ledgerline/node/Api"), accessFlags := 16409, slot := 8, constantValue := 0 }, { name := "LEAVE_GROUP", type := (.object "ledgerline/node/Api"), accessFlags := 16409, slot := 9, constantValue := 0 }, { name := "SYNC_GROUP", type := (.object "ledgerline/node/Api"), accessFlags := 16409, slot := 10, constantValue := 0 }, { name := "API_VERSIONS", type := (.object "ledgerline/node/Api"), accessFlags := 16409, slot := 11, constantValue := 0 }, { name := "INIT_PRODUCER_ID", type := (.object "ledgerline/node/Api"), accessFlags := 16409, slot := 12, constantValue := 0 }, { name := "key", type := .short, accessFlags := 16, slot := 3, constantValue := 0 }, { name := "minVersion", type := .short, accessFlags := 16, slot := 4, constantValue := 0 }, { name := "maxVersion", type := .short, accessFlags := 16, slot := 5, constantValue := 0 }, { name := "$VALUES", type := (.array (.object "ledgerline/node/Api")), accessFlags := 4122, slot := 13, constantValue := 0 }]
  methods := #[k6m0]
  instanceTypes := #[(.object "java/lang/String"), .int, .int, .short, .short, .short]
  staticTypes := #[(.object "ledgerline/node/Api"), (.object "ledgerline/node/Api"), (.object "ledgerline/node/Api"), (.object "ledgerline/node/Api"), (.object "ledgerline/node/Api"), (.object "ledgerline/node/Api"), (.object "ledgerline/node/Api"), (.object "ledgerline/node/Api"), (.object "ledgerline/node/Api"), (.object "ledgerline/node/Api"), (.object "ledgerline/node/Api"), (.object "ledgerline/node/Api"), (.object "ledgerline/node/Api"), (.array (.object "ledgerline/node/Api"))]
  resolved := Array.replicate 121 none
  statics := some 0 }

def pool7 : Array CpInfo := pool [(1, u "java/lang/Cloneable"), (0, .class_ 1), (0, u "java/lang/Object"), (0, .class_ 3)] 3

/-- java/lang/Cloneable -/
def k7 : Class := { plain "java/lang/Cloneable" (some 0) with
  accessFlags := 1537
  interfaces := #[]
  cf := some (fileOf pool7 2 #[] #[] 1537 4 #[] #[])
  fields := #[]
  methods := #[]
  instanceTypes := #[]
  staticTypes := #[]
  resolved := Array.replicate 8 none
  statics := none }

/-- the primitive byte -/
def k8 : Class := { plain "byte" none with kind := .primitive 'B', accessFlags := 0x411 }
/-- [B -/
def k9 : Class := { plain "[B" (some 0) with kind := .array 8 .byte, interfaces := #[7, 4], accessFlags := 1041 }

/-- the primitive int -/
def k10 : Class := { plain "int" none with kind := .primitive 'I', accessFlags := 0x411 }
/-- [I -/
def k11 : Class := { plain "[I" (some 0) with kind := .array 10 .int, interfaces := #[7, 4], accessFlags := 1041 }

def heap : Heap := #[{ cls := 6, slots := #[.ref 1, .ref 2, .ref 3, .ref 4, .ref 5, .ref 6, .ref 7, .ref 8, .ref 9, .ref 10, .ref 11, .ref 12, .ref 13, .null], vm := .statics 6 },
  { cls := 6, slots := #[.null, .int 0, .int 0, .int 0, .int 3, .int 3], vm := .none },
  { cls := 6, slots := #[.null, .int 1, .int 0, .int 0, .int 4, .int 4], vm := .none },
  { cls := 6, slots := #[.null, .int 2, .int 0, .int 0, .int 1, .int 1], vm := .none },
  { cls := 6, slots := #[.null, .int 3, .int 0, .int 0, .int 0, .int 4], vm := .none },
  { cls := 6, slots := #[.null, .int 4, .int 0, .int 0, .int 2, .int 2], vm := .none },
  { cls := 6, slots := #[.null, .int 5, .int 0, .int 0, .int 1, .int 1], vm := .none },
  { cls := 6, slots := #[.null, .int 6, .int 0, .int 0, .int 0, .int 0], vm := .none },
  { cls := 6, slots := #[.null, .int 7, .int 0, .int 0, .int 0, .int 2], vm := .none },
  { cls := 6, slots := #[.null, .int 8, .int 0, .int 0, .int 0, .int 1], vm := .none },
  { cls := 6, slots := #[.null, .int 9, .int 0, .int 0, .int 0, .int 1], vm := .none },
  { cls := 6, slots := #[.null, .int 10, .int 0, .int 0, .int 0, .int 1], vm := .none },
  { cls := 6, slots := #[.null, .int 11, .int 0, .int 0, .int 0, .int 0], vm := .none },
  { cls := 6, slots := #[.null, .int 12, .int 0, .int 0, .int 0, .int 1], vm := .none }]
def classes : Array Class := #[k0, k1, k2, k3, k4, k5, k6, k7, k8, k9, k10, k11]
def interned : List (Array UInt16 × Addr) := []
def slotsUsed : Nat := 92
def theMethod : MethodId := ⟨1, 1⟩
def args0 : Array Value := #[.int 3, .int 4]
def aboutOver (below : List Frame) : State where
  vm := { classes := classes, interned := interned.toArray }
  heap := heap
  slotsUsed := slotsUsed
  threads := #[{ frames := .invoking theMethod args0 :: below }]
def below0 : List Frame := [.native { method := ⟨0, 0⟩, args := #[] }]
def about1 : State := aboutOver below0
def p0 : Program := .bare "" "" ""
def e0 : Env := launch0.env 0 0 0
theorem w_frames : about1.frames = Frame.invoking theMethod args0 :: below0 := rfl
set_option maxRecDepth 65536 in
theorem w_args : argsFit about1.vm theMethod args0 = true := by decide +kernel
set_option maxRecDepth 65536 in
theorem w_heap : heapFits about1 = true := by decide +kernel
set_option maxRecDepth 65536 in
theorem w_runnable : about1.curStatus? = some .runnable := by decide +kernel
set_option maxRecDepth 65536 in
theorem w_alone : about1.alone = true := by decide +kernel
set_option maxRecDepth 65536 in
theorem w_named : about1.methodNamed? x = some theMethod := by decide +kernel
set_option maxRecDepth 65536 in
theorem w_hears : about1.hears theMethod below0 = true := by decide +kernel
set_option maxRecDepth 65536 in
theorem w_ripe : about1.ripe theMethod args0 below0 = true := by decide +kernel
theorem w_running : about1.status = .running := rfl
set_option maxRecDepth 65536 in
theorem w_room : about1.hasRoom e0.platform room_1 = true :=
  launch0.hasRoom_least _ room_1 (by decide +kernel) (by decide +kernel) (by decide +kernel) (by decide +kernel) (by decide +kernel) (by decide +kernel)
theorem allAtoms_all (ts : List Jvm.Cond) (a : Array Jvm.Value) (st : Jvm.State) : (allAtoms ts).before a st = ts.all (fun c => c.before a st) := by
  induction ts with
  | nil => rfl
  | cons c t ih =>
    show (Jvm.Cond.and c (allAtoms t)).before a st = _
    rw [Jvm.Cond.before_and, ih, List.all_cons]
def words1 : List Jvm.Cond := Jvm.Cond.code x code maxLocals ret :: tables_1
/-- a 'code' word, met by the world's own term for the bytes: nothing is compared byte by byte -/
theorem code_word {y : MethodName} {bytes : ByteArray} {mx : Nat} {rt : Option FieldType} {a : Array Value} {s : State} {m : MethodId} {meth : Method} {c : Code} (h1 : s.methodNamed? y = some m) (h2 : s.vm.method? m = some meth) (h3 : meth.code = some c) (h4 : c.code = bytes)
    (h5 : (c.maxLocals == mx && c.exceptionTable.isEmpty && decide (c.maxStack ≤ mostOperands) && decide (meth.sig.returnType = rt) && !meth.locks && decide (parseMethodDescriptor y.desc = some meth.sig)) = true) : (Jvm.Cond.code y bytes mx rt).before a s = true := by
  simp only [Bool.and_eq_true, beq_iff_eq, Bool.not_eq_true', decide_eq_true_eq] at h5
  obtain ⟨⟨⟨⟨⟨g1, g2⟩, g3⟩, g4⟩, g5⟩, g6⟩ := h5
  simp [Cond.before, Cond.holds, Cond.value, h1, h2, h3, h4, g1, g2, g3, g4, g5, g6]
def isCode : Jvm.Cond → Bool
  | .code _ _ _ _ => true
  | _ => false
theorem all_split {L : List Jvm.Cond} {P : Jvm.Cond → Bool} (h1 : L.all (fun c => isCode c || P c) = true) (h2 : ∀ c ∈ L.filter isCode, P c = true) : L.all P = true := by
  refine List.all_eq_true.mpr fun c hc => ?_
  have h := List.all_eq_true.mp h1 c hc
  rcases Bool.eq_false_or_eq_true (isCode c) with hi | hi
  · exact h2 c (List.mem_filter.mpr ⟨hc, hi⟩)
  · simpa [hi] using h
set_option maxRecDepth 65536 in
theorem w_c0 : (Jvm.Cond.code x code maxLocals ret).before args0 about1 = true := code_word (m := ⟨1, 1⟩) (meth := k1m1) (c := k1c1) (by decide +kernel) rfl rfl rfl (by decide +kernel)
set_option maxRecDepth 65536 in
theorem w_c1 : (Jvm.Cond.code ({ cls := "ledgerline/node/ApiServesPinLaw", name := "pick", desc := "(I)Lledgerline/node/Api;" } : Jvm.MethodName) method_3_code (1 : Nat) (Option.some (Jvm.ClassFile.FieldType.object "ledgerline/node/Api"))).before args0 about1 = true := code_word (m := ⟨1, 2⟩) (meth := k1m2) (c := k1c2) (by decide +kernel) rfl rfl rfl (by decide +kernel)
set_option maxRecDepth 65536 in
theorem w_c2 : (Jvm.Cond.code ({ cls := "ledgerline/node/Api", name := "serves", desc := "(S)Z" } : Jvm.MethodName) prog_60_method_5_code (2 : Nat) (Option.some Jvm.ClassFile.FieldType.boolean)).before args0 about1 = true := code_word (m := ⟨6, 0⟩) (meth := k6m0) (c := k6c0) (by decide +kernel) rfl rfl rfl (by decide +kernel)
def codes1 : List Jvm.Cond := [Jvm.Cond.code x code maxLocals ret, Jvm.Cond.code ({ cls := "ledgerline/node/ApiServesPinLaw", name := "pick", desc := "(I)Lledgerline/node/Api;" } : Jvm.MethodName) method_3_code (1 : Nat) (Option.some (Jvm.ClassFile.FieldType.object "ledgerline/node/Api")), Jvm.Cond.code ({ cls := "ledgerline/node/Api", name := "serves", desc := "(S)Z" } : Jvm.MethodName) prog_60_method_5_code (2 : Nat) (Option.some Jvm.ClassFile.FieldType.boolean)]
set_option maxRecDepth 65536 in
theorem codes_eq : words1.filter isCode = codes1 := rfl
theorem w_codes : ∀ c ∈ words1.filter isCode, c.before args0 about1 = true := by
  rw [codes_eq]
  intro c hc
  simp only [codes1, List.mem_cons, List.not_mem_nil, or_false] at hc
  rcases hc with rfl | rfl | rfl
  · exact w_c0
  · exact w_c1
  · exact w_c2
set_option maxRecDepth 65536 in
theorem w_t1 : (words1.take 24).all (fun c => isCode c || c.before args0 about1) = true := by decide +kernel
set_option maxRecDepth 65536 in
theorem w_t2 : (words1.drop 24).all (fun c => isCode c || c.before args0 about1) = true := by decide +kernel
theorem w_tables : (allAtoms (Jvm.Cond.code x code maxLocals ret :: tables_1)).before args0 about1 = true := by
  rw [allAtoms_all]
  show words1.all (fun c => c.before args0 about1) = true
  refine all_split ?_ w_codes
  rw [← List.take_append_drop 24 words1, List.all_append, w_t1, w_t2]
  rfl
set_option maxRecDepth 65536 in
theorem w_case : (Jvm.Cond.and given_1 narrow_1).before args0 about1 = true := by decide +kernel
theorem w_applies : (headSpec (Jvm.Cond.code x code maxLocals ret :: tables_1) room_1).applies x e0.platform about1 = true :=
  (Spec.applies_iff w_frames).mpr ⟨w_running, w_runnable, w_alone, w_named, w_hears, w_ripe, w_room, w_tables⟩
theorem atStart : AtStart classFile x code maxLocals ret World_1 tables_1 room_1 Calls_1 rest_1 Pre_1 launch0 p0 e0 about1 theMethod args0 below0 :=
  ⟨lists_1, trivial, launch0.admits_env _ _ _, launch0.least_env, fairChoices_fair.cas, fairChoices_fair.clock, w_frames, w_args, w_heap, w_applies, trivial, trivial, w_case⟩
end start1
theorem witness_1 : WitnessClaimed_1 := ⟨start1.p0, start1.e0, start1.about1, start1.theMethod, start1.args0, start1.below0, start1.atStart⟩
end Jvm.Pilot.@@N@@

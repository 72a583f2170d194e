import JvmDerived
import JvmDerived.Pilot.@@N@@Statement
import JvmDerived.Pilot.@@N@@Code
set_option linter.unusedVariables false
set_option linter.unusedSimpArgs false
namespace Jvm.RoadKit
open Sem ClassFile Op Lib Jvm.Stand Jvm.Free Jvm.LawKit
section New
variable {p : Program} {l : Launch} {e : Env} {R : Room} {s : State} {m : MethodId} {args : Array Value} {below : List Frame} {meth : Method} {c : Code} {T : State} {locs : List Loc} {cells slots : Nat}
theorem retI (X : Stand p l e R s m args below meth c T locs cells slots) (hx : p.tables.exec = Jvm.exec) {pc : Nat} {Ls : Array Slot} {z : Int32} {rest : List Value} (hret : meth.sig.returnType = some .int) (hd : decode c.code pc = .ok (.ireturn, 1)) {fs : List Frame}
    (hl : ∀ (f : JFrame) (acts : List Action), f.method = m → f.locked = none → f.entered = [] → (doReturn e (T.setTop f) acts (some (.int z))).1 = T.setFrames fs) : Steps p.tables e below (T.setTop (mkF m pc Ls (.int z :: rest))) (T.setFrames fs) := by
  have hm' : T.vm.method? m = some meth := X.method'
  have hn : narrow .int (.int z) = .int z := rfl
  show Steps p.tables e below (T.setTop { method := m, pc := pc, locals := Ls, stack := _ :: rest, locked := none }) _
  jvm_step X.here [X.here.top, hx, hd, hm', hret, hn]
  first | (intro acts; rw [hl _ acts rfl rfl rfl]) | rw [hl _ _ rfl rfl rfl]
  exact Steps.refl _
end New
end Jvm.RoadKit
namespace Jvm.Pilot.@@N@@
open Jvm Jvm.ClassFile Sem Op Lib Jvm.Free Jvm.Stand Jvm.LawKit Jvm.RoadKit Bundle Jvm.Pilot.@@N@@.Jvm.D

theorem own_nb {c : Prop} [Decidable c] : nar .boolean (if c then (1 : Int32) else (0 : Int32)) = (if c then (1 : Int32) else (0 : Int32)) := by
  by_cases h : c
  · rw [if_pos h]; rfl
  · rw [if_neg h]; rfl
theorem own_n1 : nar .boolean (1 : Int32) = (1 : Int32) := rfl
theorem own_n0 : nar .boolean (0 : Int32) = (0 : Int32) := rfl

theorem own_pos {x y : Int32} (h : x = y &&& (2147483647 : Int32)) : ¬ x < (0 : Int32) := by
  have := c_mask y 2147483647 31 (by decide) (by decide)
  rw [← h] at this
  rw [Int32.lt_iff_toInt_lt]
  show ¬ x.toInt < 0
  omega
theorem own_rem {x y d : Int32} {D : Int} (h : x = (y &&& (2147483647 : Int32)) % d) (hd : d.toInt = D) (hD : 0 < D) : 0 ≤ x.toInt ∧ x.toInt < D := by
  have h1 := c_mask y 2147483647 31 (by decide) (by decide)
  have h2 := c_iremV (y &&& 2147483647) d
  rw [← h, hd] at h2
  have h3 := h2.1 (by omega) hD
  omega

section OwnArr
variable {p : Program} {l : Launch} {e : Env} {R : Room} {s : State} {m : MethodId} {args : Array Value} {below : List Frame} {meth : Method} {c : Code} {T : State} {locs : List Loc} {cells slots : Nat} {Z : State} {h : Heap} {a : Addr} {k : ClassId} {n : Int32} {vs : List Value} {d : Value}
theorem own_len {ty : FieldType} {g : JFrame} {target : State} (X : Stand p l e R s m args below meth c T locs cells slots) (hx : p.tables.exec = Jvm.exec) (hZ : Z.Warmed39 s.vm) (eT : T.heap = h) (A : Arv Z h a k ty n vs d) (hg : g.method = m) {rest : List Value} (hs : g.stack = .ref a :: rest) (hd : decode c.code g.pc = .ok (.arraylength, 1))
    (hr : Steps p.tables e below (T.setTop { g with pc := g.pc + 1, stack := .int n :: rest }) target) : Steps p.tables e below (T.setTop g) target := by
  obtain ⟨cl, Ar, -, S, M, -, -⟩ := A
  refine X.arraylength hx (by rw [eT]; exact Ar.1) (State.isArrayOf_alike hZ.alike Ar.2.1) hg hs hd _ ?_
  rw [len_of S M]
  exact hr
theorem own_cal {g : JFrame} {target : State} (X : Stand p l e R s m args below meth c T locs cells slots) (hx : p.tables.exec = Jvm.exec) (hZ : Z.Warmed39 s.vm) (eT : T.heap = h) (A : Arv Z h a k .char n vs d) {j : Int32} (hj : ¬ j < 0 ∧ j < n) {v : Value} (hv : vs.getD j.toNatClampNeg d = v) (hg : g.method = m) {rest : List Value} (hs : g.stack = .int j :: .ref a :: rest) (hd : decode c.code g.pc = .ok (.caload, 1))
    (hr : Steps p.tables e below (T.setTop { g with pc := g.pc + 1, stack := v :: rest }) target) : Steps p.tables e below (T.setTop g) target := by
  obtain ⟨cl, Ar, -, S, M, H, -⟩ := A
  have hin := inb_of S hj
  exact X.caload hx (by rw [eT]; exact Ar.1) (State.isArrayOf_alike hZ.alike Ar.2.1) Ar.2.2 hin (Has.at H hin hv) hg hs hd _ hr
end OwnArr
def own_Af (Z : State) (h : Heap) (a : Addr) (k : ClassId) (ty : FieldType) (n : Int32) (f : Nat → Value) : Prop := ∃ c : Cell, Arr Z h a c ty ∧ c.cls = k ∧ c.slots.size = n.toNatClampNeg ∧ ¬ n < 0 ∧ (∀ i, i < c.slots.size → c.slots[i]? = some (f i)) ∧ ∀ i, i < c.slots.size → fits ty (f i) = true
section OwnAf
variable {Z : State} {h h' : Heap} {a b : Addr} {k : ClassId} {ty : FieldType} {n : Int32} {f g : Nat → Value} {sl : Nat} {v : Value} {ws : List Addr}
theorem own_Af.lt (F : own_Af Z h a k ty n f) : a < h.size := by obtain ⟨c, A, -⟩ := F; exact A.lt
theorem own_Af.ext (F : own_Af Z h a k ty n f) (E : Ext h h') : own_Af Z h' a k ty n f := by obtain ⟨c, A, r⟩ := F; exact ⟨c, A.ext E, r⟩
theorem own_Af.other (F : own_Af Z h b k ty n f) (W : Wr h h' a sl v) (q : b ≠ a) : own_Af Z h' b k ty n f := by obtain ⟨c, A, r⟩ := F; exact ⟨c, A.other W q, r⟩
theorem own_Af.keep (F : own_Af Z h a k ty n f) (K : Keep h h' ws) (q : a ∉ ws) : own_Af Z h' a k ty n f := by obtain ⟨c, A, r⟩ := F; exact ⟨c, ⟨K.2.1 a c A.1 q, A.2⟩, r⟩
theorem own_Af.new (A : Arr Z h a (newA k ty n) ty) (q : ¬ n < 0) : own_Af Z h a k ty n (fun _ => defaultValue ty) := by
  obtain ⟨c, h1, h2, h3, h4, h5, h6⟩ := Arv.new A q
  exact ⟨c, h1, h2, h3, h4, fun i hi => (h5 i hi).trans (by simp), fun i hi => by have := h6 i hi; simpa using this⟩
theorem own_Af.same (F : own_Af Z h a k ty n f) (q : ∀ i, i < n.toNatClampNeg → g i = f i) : own_Af Z h a k ty n g := by
  obtain ⟨c, h1, h2, h3, h4, h5, h6⟩ := F
  exact ⟨c, h1, h2, h3, h4, fun i hi => by rw [q i (h3 ▸ hi)]; exact h5 i hi, fun i hi => by rw [q i (h3 ▸ hi)]; exact h6 i hi⟩
theorem own_Af.set {c : Cell} {j : Nat} (A : Arr Z h a c ty) (q1 : c.cls = k) (S : c.slots.size = n.toNatClampNeg) (q3 : ¬ n < 0) (H : ∀ i, i < c.slots.size → c.slots[i]? = some (f i)) (G : ∀ i, i < c.slots.size → fits ty (f i) = true) (hv : fits ty v = true) (W : Wr h h' a j v) (hj : j < c.slots.size) : own_Af Z h' a k ty n (fun i => if i = j then v else f i) := by
  refine ⟨c.setSlot j v, A.same W, q1, by rw [sz_set]; exact S, q3, fun i hi => ?_, fun i hi => ?_⟩
  · rw [sz_set] at hi
    by_cases e : i = j
    · subst e; simp only [if_true]; simp [Cell.setSlot, hi]
    · simp only [e, if_false]
      rw [← H i hi]
      simp [Cell.setSlot, Array.getElem?_setIfInBounds, Ne.symm e]
  · rw [sz_set] at hi
    by_cases e : i = j
    · subst e; simp only [if_true]; exact hv
    · simp only [e, if_false]; exact G i hi
end OwnAf
section OwnAfRead
variable {p : Program} {l : Launch} {e : Env} {R : Room} {s : State} {m : MethodId} {args : Array Value} {below : List Frame} {meth : Method} {c : Code} {T : State} {locs : List Loc} {cells slots : Nat} {Z : State} {h : Heap} {a : Addr} {k : ClassId} {n : Int32} {f : Nat → Value}
theorem own_flen {ty : FieldType} {g : JFrame} {target : State} (X : Stand p l e R s m args below meth c T locs cells slots) (hx : p.tables.exec = Jvm.exec) (hZ : Z.Warmed39 s.vm) (eT : T.heap = h) (A : own_Af Z h a k ty n f) (hg : g.method = m) {rest : List Value} (hs : g.stack = .ref a :: rest) (hd : decode c.code g.pc = .ok (.arraylength, 1))
    (hr : Steps p.tables e below (T.setTop { g with pc := g.pc + 1, stack := .int n :: rest }) target) : Steps p.tables e below (T.setTop g) target := by
  obtain ⟨cl, Ar, -, S, M, -, -⟩ := A
  refine X.arraylength hx (by rw [eT]; exact Ar.1) (State.isArrayOf_alike hZ.alike Ar.2.1) hg hs hd _ ?_
  rw [len_of S M]
  exact hr
theorem own_fbal {g : JFrame} {target : State} (X : Stand p l e R s m args below meth c T locs cells slots) (hx : p.tables.exec = Jvm.exec) (hZ : Z.Warmed39 s.vm) (eT : T.heap = h) (A : own_Af Z h a k .byte n f) {j : Int32} (hj : ¬ j < 0 ∧ j < n) {v : Value} (hv : f j.toNatClampNeg = v) (hg : g.method = m) {rest : List Value} (hs : g.stack = .int j :: .ref a :: rest) (hd : decode c.code g.pc = .ok (.baload, 1))
    (hr : Steps p.tables e below (T.setTop { g with pc := g.pc + 1, stack := v :: rest }) target) : Steps p.tables e below (T.setTop g) target := by
  obtain ⟨cl, Ar, -, S, M, H, -⟩ := A
  have hin := inb_of S hj
  exact X.baloadBytes hx (by rw [eT]; exact Ar.1) (State.isArrayOf_alike hZ.alike Ar.2.1) Ar.2.2 hin (hv ▸ H _ (Nat.lt_of_not_le fun y => hin (Or.inr y))) hg hs hd _ hr
theorem own_fcal {g : JFrame} {target : State} (X : Stand p l e R s m args below meth c T locs cells slots) (hx : p.tables.exec = Jvm.exec) (hZ : Z.Warmed39 s.vm) (eT : T.heap = h) (A : own_Af Z h a k .char n f) {j : Int32} (hj : ¬ j < 0 ∧ j < n) {v : Value} (hv : f j.toNatClampNeg = v) (hg : g.method = m) {rest : List Value} (hs : g.stack = .int j :: .ref a :: rest) (hd : decode c.code g.pc = .ok (.caload, 1))
    (hr : Steps p.tables e below (T.setTop { g with pc := g.pc + 1, stack := v :: rest }) target) : Steps p.tables e below (T.setTop g) target := by
  obtain ⟨cl, Ar, -, S, M, H, -⟩ := A
  have hin := inb_of S hj
  exact X.caload hx (by rw [eT]; exact Ar.1) (State.isArrayOf_alike hZ.alike Ar.2.1) Ar.2.2 hin (hv ▸ H _ (Nat.lt_of_not_le fun y => hin (Or.inr y))) hg hs hd _ hr
theorem own_fsal {g : JFrame} {target : State} (X : Stand p l e R s m args below meth c T locs cells slots) (hx : p.tables.exec = Jvm.exec) (hZ : Z.Warmed39 s.vm) (eT : T.heap = h) (A : own_Af Z h a k .short n f) {j : Int32} (hj : ¬ j < 0 ∧ j < n) {v : Value} (hv : f j.toNatClampNeg = v) (hg : g.method = m) {rest : List Value} (hs : g.stack = .int j :: .ref a :: rest) (hd : decode c.code g.pc = .ok (.saload, 1))
    (hr : Steps p.tables e below (T.setTop { g with pc := g.pc + 1, stack := v :: rest }) target) : Steps p.tables e below (T.setTop g) target := by
  obtain ⟨cl, Ar, -, S, M, H, -⟩ := A
  have hin := inb_of S hj
  exact X.saload hx (by rw [eT]; exact Ar.1) (State.isArrayOf_alike hZ.alike Ar.2.1) Ar.2.2 hin (hv ▸ H _ (Nat.lt_of_not_le fun y => hin (Or.inr y))) hg hs hd _ hr
end OwnAfRead
def own_c (c : Int32) : Prop := 0 ≤ c.toInt ∧ c.toInt < 128
def own_cs (n : Int32) (cf : Nat → Int32) : Prop := ∀ i : Nat, (i : Int) < n.toInt → own_c (cf i)
theorem own_c255 {c : Int32} (h : own_c c) : ¬ (255 : Int32) < c := by rw [Int32.lt_iff_toInt_lt]; show ¬ (255 : Int) < c.toInt; have := h.2; omega
theorem own_c0 {c : Int32} (h : own_c c) : ¬ c < (0 : Int32) := by rw [Int32.lt_iff_toInt_lt]; show ¬ c.toInt < 0; have := h.1; omega
theorem own_cb {c : Int32} (h : own_c c) : nar .byte (c.toInt8.toInt32) = c := by
  have h1 := c_i2b c
  have h2 := c_i2b (c.toInt8.toInt32)
  have h3 := h.1
  have h4 := h.2
  apply Int32.toInt_inj.mp
  show ((c.toInt8.toInt32).toInt8.toInt32).toInt = c.toInt
  omega
theorem own_cc {c : Int32} (h : own_c c) : nar .char c = c := by
  have h1 := c_i2c c
  have h3 := h.1
  have h4 := h.2
  apply Int32.toInt_inj.mp
  show (c.toUInt32.toUInt16.toUInt32.toInt32).toInt = c.toInt
  omega
theorem own_nat {j : Int32} {n : Nat} (h : j.toInt = n) : j.toNatClampNeg = n := by
  have := nat_of (j := j) (by rw [Int32.lt_iff_toInt_lt]; show ¬ j.toInt < 0; omega)
  omega
theorem own_jn {j n : Int32} (h : 0 ≤ j.toInt) (h2 : j.toInt < n.toInt) : ¬ j < (0 : Int32) ∧ j < n := by
  rw [Int32.lt_iff_toInt_lt, Int32.lt_iff_toInt_lt]
  exact ⟨by show ¬ j.toInt < 0; omega, h2⟩
theorem own_inc {j : Int32} {n : Nat} (h : j.toInt = n) (hn : n < 100000) : (j + (1 : Int32)).toInt = ((n + 1 : Nat) : Int) := by
  rw [XT.add32 (y := 1) ⟨by show -2 ^ 31 ≤ j.toInt + 1; omega, by show j.toInt + 1 < 2 ^ 31; omega⟩]
  show j.toInt + 1 = _
  omega
theorem own_coder (n : Int32) : some (Value.int (nar .byte ((XT.ushr (n - n) (31 : Int32)).toInt8.toInt32))) = some (Value.int (0 : Int32)) := by
  rw [Int32.sub_self]; rfl
theorem own_conv {Z : State} {h : Heap} {a : Addr} {k : ClassId} {ty : FieldType} {n : Int32} {l : List Int32} (V : Arv Z h a k ty n (l.map Value.int) (.int (0 : Int32))) : own_Af Z h a k ty n (fun i => Value.int (l.getD i 0)) := by
  have q : ∀ i, (l.map Value.int).getD i (.int (0 : Int32)) = Value.int (l.getD i 0) := fun i => by
    simp only [List.getD_eq_getElem?_getD, List.getElem?_map]
    cases l[i]? <;> rfl
  obtain ⟨c, h1, h2, h3, h4, h5, h6⟩ := V
  exact ⟨c, h1, h2, h3, h4, fun i hi => by rw [h5 i hi, q], fun i hi => by show fits ty (Value.int (l.getD i 0)) = true; rw [← q]; exact h6 i hi⟩
theorem own_nneg {j : Int32} {n : Nat} (h : j.toInt = n) : ¬ j < (0 : Int32) := by rw [Int32.lt_iff_toInt_lt]; show ¬ j.toInt < 0; omega
theorem own_np {j : Int32} {n : Nat} (h : j.toInt = n) (h1 : 1 ≤ n) : ¬ j = (0 : Int32) := fun q => by
  rw [q] at h
  have : (0 : Int32).toInt = 0 := rfl
  omega
theorem own_0add {j : Int32} {n : Nat} (h : j.toInt = n) : ((0 : Int32) + j).toInt = n := by rw [Int32.zero_add]; exact h
theorem own_clone {p : Program} {l : Launch} {e : Env} {R : Room} {s : State} {m : MethodId} {args : Array Value} {below : List Frame} {meth : Method} {c : Code} {T : State} {locs : List Loc} {cells slots : Nat} {Z : State} {a0 : Array Value} {h : Heap} {a : Addr} {ty : FieldType}
    (X : Stand p l e R s m args below meth c T locs cells slots) (hx : p.tables.exec = Jvm.exec) (hZ : Z.Warmed39 s.vm) {own ad : String} {index : Nat} (hown : s.vm.findClass own = some m.cls)
    (w1 : (Jvm.Cond.methodLink own index ⟨ad, "clone", "()Ljava/lang/Object;"⟩).before a0 Z = true) (w2 : (Jvm.Cond.sameMethod ad "java/lang/Object" "clone" "()Ljava/lang/Object;").before a0 Z = true) (w3 : (Jvm.Cond.native ⟨"java/lang/Object", "clone", "()Ljava/lang/Object;"⟩).before a0 Z = true)
    (w4 : (Jvm.Cond.instanceMethod ⟨"java/lang/Object", "clone", "()Ljava/lang/Object;"⟩).before a0 Z = true) (w5 : (Jvm.Cond.selects ad ⟨ad, "clone", "()Ljava/lang/Object;"⟩ ⟨"java/lang/Object", "clone", "()Ljava/lang/Object;"⟩).before a0 Z = true) (w6 : (Jvm.Cond.castable ad "java/lang/Cloneable").before a0 Z = true)
    (eT : T.heap = h) {k : ClassId} {z : Int32} {f : Nat → Value} (F : own_Af Z h a k ty z f) (E : Exa Z h a ad) {g : JFrame} (hg : g.method = m) (hsize : g.locals.size = c.maxLocals) {rest : List Value} (hst : g.stack = .ref a :: rest) (hd : decode c.code g.pc = .ok (.invokevirtual index, 3))
    (hf : 1 ≤ R.frames) {W cap : Nat} (hW : 2 * g.monitorRoom + (rest.map fun v => v.category).sum ≤ W) (hl : W + 14 ≤ R.locals) (hcap : z.toNatClampNeg ≤ cap) (hc : cells + 1 ≤ R.cells) (hsl : slots + cap ≤ R.slots) :
    ∃ T' h', Stand p l e R s m args below meth c T' locs (cells + 1) (slots + cap) ∧ T'.heap = h' ∧ Ext h h' ∧ own_Af Z h' h.size k ty z f ∧ Exa Z h' h.size ad ∧
      ∀ target, Steps p.tables e below (T'.setTop { g with pc := g.pc + 3, stack := .ref h.size :: rest }) target → Steps p.tables e below (T.setTop g) target := by
  obtain ⟨cl, A, q1, S, q3, H, G⟩ := F
  have FC : FitC Z cl := fitC_of A fun i hi v hv => by rw [H i hi] at hv; cases hv; exact G i hi
  obtain ⟨T', h', X', e', ex, A', E', st⟩ := cloneA X hx hZ hown w1 w2 w3 w4 w5 w6 eT A E FC hg hsize hst hd hf hW hl (by rw [S]; exact hcap) hc hsl
  exact ⟨T', h', X', e', ex, ⟨cloneOf cl, A', q1, S, q3, H, G⟩, E', st⟩
def own_vf (cf : Nat → Int32) : Nat → Nat → Int32
  | 0, _ => (-1 : Int32)
  | k + 1, j => if j = (cf k).toNatClampNeg then Int32.ofNat k else own_vf cf k j
theorem own_vf_s (cf : Nat → Int32) (k j : Nat) : own_vf cf (k + 1) j = if j = (cf k).toNatClampNeg then Int32.ofNat k else own_vf cf k j := rfl
theorem own_ofn {iv : Int32} {k : Nat} (h : iv.toInt = k) (hk : k < 5000) : iv = Int32.ofNat k := by
  apply Int32.toInt_inj.mp
  rw [h]
  exact (Int32.toInt_ofNat_of_lt (by omega)).symm

def own_pv (cf : Nat → Int32) (n : Nat) (lf : Int32) (j : Nat) : Int32 := nar .short (((if lf = (0 : Int32) then (((cf (j / n)) <<< ((8 : Int32) &&& 31)) ||| (cf (j % n))) else (((cf (j % n)) <<< ((8 : Int32) &&& 31)) ||| (cf (j / n)))).toInt16.toInt32))
theorem own_div {iv pn : Int32} {i n : Nat} (h1 : iv.toInt = i) (h2 : pn.toInt = n) (hn : 0 < n) (hi : i < 100) (hn5 : n ≤ 4) : (iv / pn).toInt = ((i / n : Nat) : Int) ∧ (iv % pn).toInt = ((i % n : Nat) : Int) := by
  have hne : pn ≠ -1 := fun q => by rw [q] at h2; have : (-1 : Int32).toInt = -1 := rfl; omega
  have a1 := (c_idiv iv pn n h2 hne).1 (by omega)
  have a2 := (c_irem iv pn n h2).1 (by omega)
  rw [h1] at a1 a2
  exact ⟨by rw [a1]; omega, by rw [a2]; omega⟩
theorem own_sq {pn nq : Int32} {n : Nat} (h : nq = (pn * pn)) (h2 : pn.toInt = n) (hn4 : n ≤ 4) : nq.toInt = ((n * n : Nat) : Int) ∧ n * n ≤ 16 := by
  have h3 : n = 0 ∨ n = 1 ∨ n = 2 ∨ n = 3 ∨ n = 4 := by omega
  have e : ∀ j : Int32, pn.toInt = j.toInt → pn = j := fun j q => Int32.toInt_inj.mp q
  rcases h3 with rfl | rfl | rfl | rfl | rfl
  · rw [h, e 0 h2]; decide
  · rw [h, e 1 h2]; decide
  · rw [h, e 2 h2]; decide
  · rw [h, e 3 h2]; decide
  · rw [h, e 4 h2]; decide

def own_l4 (a b c d : Int32) : Nat → Int32 := fun i => ([a, b, c, d] : List Int32).getD i 0
theorem own_l4c {a b c d : Int32} (ha : own_c a) (hb : own_c b) (hc : own_c c) (hd : own_c d) (i : Nat) (hi : i < 4) : own_c (own_l4 a b c d i) := by
  match i, hi with
  | 0, _ => exact ha
  | 1, _ => exact hb
  | 2, _ => exact hc
  | 3, _ => exact hd
  | n + 4, h => omega
theorem own_l4s {a b c d : Int32} (ha : own_c a) (hb : own_c b) (hc : own_c c) (hd : own_c d) {n : Int32} (hn : n.toInt ≤ 4) : own_cs n (own_l4 a b c d) := fun i hi => own_l4c ha hb hc hd i (by omega)
theorem own_is {p j : Int32} {n : Nat} (h : p.toInt = n) (h2 : j.toInt = n) : p = j := Int32.toInt_inj.mp (by rw [h, h2])
theorem own_4 {p : Int32} {n : Nat} (h : p.toInt = n) (h1 : 1 ≤ n) (h4 : n ≤ 4) (c1 : ¬ p = (1 : Int32)) (c2 : ¬ p = (2 : Int32)) (c3 : ¬ p = (3 : Int32)) : p = (4 : Int32) := by
  have e : ∀ j : Int32, p.toInt = j.toInt → p = j := fun j q => Int32.toInt_inj.mp q
  have h3 : n = 1 ∨ n = 2 ∨ n = 3 ∨ n = 4 := by omega
  rcases h3 with rfl | rfl | rfl | rfl
  · exact absurd (e 1 h) c1
  · exact absurd (e 2 h) c2
  · exact absurd (e 3 h) c3
  · exact e 4 h
theorem own_ch {x q : Int32} (h : x = ((q &&& (127 : Int32)).toUInt32.toUInt16.toUInt32.toInt32)) : own_c x := by
  have h1 := c_mask q 127 7 (by decide) (by decide)
  have h2 := c_i2c (q &&& (127 : Int32))
  rw [← h] at h2
  exact ⟨by omega, by omega⟩
theorem own_nx {nx p : Int32} (h : nx = ((p &&& (2147483647 : Int32)) % (5 : Int32))) (h1 : ¬ ((p &&& (2147483647 : Int32)) % (5 : Int32)) = (0 : Int32)) : ∃ n : Nat, nx.toInt = n ∧ 1 ≤ n ∧ n ≤ 4 ∧ nx ≠ 0 := by
  have h2 := own_rem h (by decide : (5 : Int32).toInt = 5) (by decide)
  rw [← h] at h1
  have h3 : nx.toInt ≠ 0 := fun q => h1 (Int32.toInt_inj.mp q)
  exact ⟨nx.toInt.toNat, by omega, by omega, by omega, h1⟩
theorem own_ijr {d i nx : Int32} {n : Nat} (h : d = ((i &&& (2147483647 : Int32)) % nx)) (hn : nx.toInt = n) (h1 : 1 ≤ n) : 0 ≤ d.toInt ∧ d.toInt < n := own_rem h hn (by omega)
theorem own_ij {d i nx : Int32} {n : Nat} (h : d = ((i &&& (2147483647 : Int32)) % nx)) (hn : nx.toInt = n) (h1 : 1 ≤ n) (h4 : n ≤ 4) : ¬ d < (0 : Int32) ∧ d < (4 : Int32) := by
  have h2 := own_ijr h hn h1
  exact own_jn h2.1 (by show d.toInt < 4; omega)
theorem own_nbr {di dj nb nx i j : Int32} {n : Nat} (h1 : di = ((i &&& (2147483647 : Int32)) % nx)) (h2 : dj = ((j &&& (2147483647 : Int32)) % nx)) (h3 : nb = ((di * nx) + dj)) (hn : nx.toInt = n) (hn1 : 1 ≤ n) (hn4 : n ≤ 4) : ∃ a b : Nat, di.toInt = a ∧ dj.toInt = b ∧ a < n ∧ b < n ∧ nb.toInt = ((a * n + b : Nat) : Int) := by
  have r1 := own_ijr h1 hn hn1
  have r2 := own_ijr h2 hn hn1
  obtain ⟨a, ha⟩ : ∃ a : Nat, di.toInt = a := ⟨di.toInt.toNat, by omega⟩
  obtain ⟨b, hb⟩ : ∃ b : Nat, dj.toInt = b := ⟨dj.toInt.toNat, by omega⟩
  have la : a < n := by omega
  have lb : b < n := by omega
  have hm : a * n ≤ 3 * 4 := Nat.mul_le_mul (by omega) hn4
  have e1 : (di * nx).toInt = ((a * n : Nat) : Int) := by
    rw [XT.mul32 ⟨by rw [ha, hn]; have : (0 : Int) ≤ (a : Int) * (n : Int) := (by exact_mod_cast Nat.zero_le (a * n)); omega, by rw [ha, hn]; have : (a : Int) * (n : Int) ≤ 12 := (by exact_mod_cast hm); omega⟩, ha, hn]
    push_cast; rfl
  have e2 : nb.toInt = ((a * n + b : Nat) : Int) := by
    rw [h3, XT.add32 ⟨by rw [e1, hb]; omega, by rw [e1, hb]; omega⟩, e1, hb]; push_cast; rfl
  exact ⟨a, b, ha, hb, la, lb, e2⟩
theorem own_nbx {di dj nb nx nq i j : Int32} {n : Nat} (hq : nq = (nx * nx)) (h1 : di = ((i &&& (2147483647 : Int32)) % nx)) (h2 : dj = ((j &&& (2147483647 : Int32)) % nx)) (h3 : nb = ((di * nx) + dj)) (hn : nx.toInt = n) (hn1 : 1 ≤ n) (hn4 : n ≤ 4) : ¬ nb < (0 : Int32) ∧ nb < nq := by
  obtain ⟨a, b, ha, hb, la, lb, e⟩ := own_nbr h1 h2 h3 hn hn1 hn4
  have hs := own_sq hq hn hn4
  have hl : a * n + b < n * n := by
    have : (a + 1) * n ≤ n * n := Nat.mul_le_mul_right _ la
    rw [Nat.add_mul, Nat.one_mul] at this
    omega
  exact own_jn (by omega) (by rw [e, hs.1]; exact_mod_cast hl)
theorem own_gm {l : List Int32} (i : Nat) : (l.map Value.int).getD i (.int (0 : Int32)) = Value.int (l.getD i 0) := by
  simp only [List.getD_eq_getElem?_getD, List.getElem?_map]
  cases l[i]? <;> rfl
theorem own_sh {a b : Int32} (ha : own_c a) (hb : own_c b) : nar .short (((a <<< ((8 : Int32) &&& 31)) ||| b).toInt16.toInt32) = ((a <<< ((8 : Int32) &&& 31)) ||| b) := by
  have h1 := c_ishl a 8 8 (by decide)
  obtain ⟨A, hA⟩ : ∃ A, A = (a <<< ((8 : Int32) &&& 31)) := ⟨_, rfl⟩
  rw [← hA] at h1 ⊢
  have r1 := rng32 A
  have ha1 := ha.1
  have ha2 := ha.2
  have hb1 := hb.1
  have hb2 := hb.2
  have h2 := c_or A b 8 (by decide) 256 (by decide) (by omega) (by omega) (by omega)
  have r2 := rng32 (A ||| b)
  have h3 := c_i2s (A ||| b)
  have h4 := c_i2s ((A ||| b).toInt16.toInt32)
  apply Int32.toInt_inj.mp
  show (((A ||| b).toInt16.toInt32).toInt16.toInt32).toInt = (A ||| b).toInt
  omega
theorem own_fin {x0 x1 x2 x3 di dj nb nx lf f1 f2 x180 x187 i j : Int32} {n : Nat} (h1 : di = ((i &&& (2147483647 : Int32)) % nx)) (h2 : dj = ((j &&& (2147483647 : Int32)) % nx)) (h3 : nb = ((di * nx) + dj)) (hn : nx.toInt = n) (hn1 : 1 ≤ n) (hn4 : n ≤ 4) (k0 : own_c x0) (k1 : own_c x1) (k2 : own_c x2) (k3 : own_c x3)
    (e1 : x180 = (([x0, x1, x2, x3] : List Int32).getD (di).toNatClampNeg 0)) (e2 : x187 = (([x0, x1, x2, x3] : List Int32).getD (dj).toNatClampNeg 0)) (hf1 : f1 = (if lf = (0 : Int32) then x180 else x187)) (hf2 : f2 = (if lf = (0 : Int32) then x187 else x180)) :
    (own_pv (own_l4 x0 x1 x2 x3) n lf (nb).toNatClampNeg) = ((f1 <<< ((8 : Int32) &&& 31)) ||| f2) := by
  obtain ⟨a, b, ha, hb, la, lb, e⟩ := own_nbr h1 h2 h3 hn hn1 hn4
  have d1 : (a * n + b) / n = a := by rw [Nat.mul_comm, Nat.mul_add_div (by omega), Nat.div_eq_of_lt lb]; rfl
  have d2 : (a * n + b) % n = b := by rw [Nat.mul_comm, Nat.mul_add_mod, Nat.mod_eq_of_lt lb]
  have g1 : own_l4 x0 x1 x2 x3 a = x180 := by rw [e1, own_nat ha]; rfl
  have g2 : own_l4 x0 x1 x2 x3 b = x187 := by rw [e2, own_nat hb]; rfl
  have c1 : own_c x180 := g1 ▸ own_l4c k0 k1 k2 k3 a (by omega)
  have c2 : own_c x187 := g2 ▸ own_l4c k0 k1 k2 k3 b (by omega)
  rw [own_nat e]
  unfold own_pv
  rw [d1, d2, g1, g2, hf1, hf2]
  by_cases q : lf = (0 : Int32)
  · simp only [if_pos q]; exact own_sh c1 c2
  · simp only [if_neg q]; exact own_sh c2 c1

theorem own_str {Z : State} {a0 : Array Value} (hw : ∀ d ∈ tables_1, d.before a0 Z = true) : ∀ d ∈ Bundle.stringAtoms, d.before a0 Z = true := fun d hd => hw d (by simpa using (List.all_eq_true.mp (by decide +kernel : (Bundle.stringAtoms.all fun d => tables_1.contains d) = true)) d hd)
theorem own_ew {Z : State} {a0 : Array Value} (hw : ∀ d ∈ tables_1, d.before a0 Z = true) : EW Z a0 consts_1 := EW.cons (text := "") (hw _ (List.mem_of_getElem? (i := 93) rfl)) (fun c hc => by simp at hc) EW.nil
theorem own_chk {Z : State} {EL : List (String × Nat)} {vm : Vm} {h h' : Heap} (H : CHv Z EL vm h) (K : Keep h h' []) : CHv Z EL vm h' := (H.step (fun y _ cell q => K.2.1 y cell q (by simp))).1
theorem own_ref {s : State} {a0 : Array Value} {own text : String} {index : Nat} {a : Addr} (w : (Jvm.Cond.stringLink own index text).before a0 s = true) (L : Lit s own index a) : (Jvm.Cond.stringRef own index text).before a0 s = true := by
  have L' : s.resolvedAt? own index = some (.string a) := L
  simp only [Cond.before, Cond.holds, Cond.value] at w ⊢
  cases hc : s.vm.findClass own with
  | none => simp [hc] at w
  | some cc =>
    simp only [hc, Option.map_some, beq_iff_eq, Option.some.injEq, Bool.and_eq_true] at w ⊢
    refine ⟨w.1, ?_⟩
    rw [L']
theorem own_exaB {Z s : State} {a0 : Array Value} {EL : List (String × Nat)} {vm : Vm} {h : Heap} {own text : String} {index : Nat} {mc : ClassId} {a b : Addr} (hZ : Z.Warmed39 vm) (hf : vm.findClass own = some mc) (w : (Jvm.Cond.stringLink own index text).before a0 Z = true) (hmem : (own, index) ∈ EL)
    (H : CHv Z EL vm h) (L : Lit (s.setVm vm) own index a) (Fv : Fld Z h a "java/lang/String" "value" "[B" (.ref b)) : Exa Z h b "[B" := by
  have hal : Z.vm.Alike vm := hZ.alike
  have w2 : (Jvm.Cond.stringLink own index text).before a0 (Wst Z vm h) = true := mvS (s := { Z with heap := h }) hZ w
  obtain ⟨k0, cf, i, units, hkx, hcf, hp, hu, -, -, -⟩ := Cond.stringLink_spec (s := Wst Z vm h) hf w2
  have hkx : vm.classes[mc]? = some k0 := hkx
  have hres : k0.resolved[index]? = some (some (.string a)) := by
    have q : (s.setVm vm).resolvedAt? own index = some (.string a) := L
    simp [State.resolvedAt?, hf, hkx] at q
    cases hr : k0.resolved[index]? with
    | none => rw [hr] at q; cases q
    | some o => rw [hr] at q; cases o with
      | none => cases q
      | some r => simpa using q
  obtain ⟨q, hqa, F⟩ := SlB.of (H _ hmem units a ⟨mc, k0, cf, i, hf, hkx, hcf, hp, hu, Or.inl hres⟩)
  obtain ⟨cS, ⟨⟨s1, s2, s3, ⟨cv, kv, iv, s4, s4'⟩, -, s6, s7, s8, s9, s10, s11, -⟩, -, -⟩, -, hB, -⟩ := F
  subst hqa
  obtain ⟨kv', z4⟩ := ff_back (U := Wst Z vm h) hal s4
  obtain ⟨cell, cf', k', i', f', r1, r2, -, -, -, -, r6⟩ := Fv
  have s1 : h[q.sa]? = some q.sC := s1
  cases r1.symm.trans s1
  have e2 := r2.symm.trans z4
  simp only [Option.some.injEq, Prod.mk.injEq] at e2
  rw [e2.2.2.2, s8] at r6
  have hb : b = q.sd := by simpa using r6.symm
  rw [hb]
  have hB : vm.findClass "[B" = some q.SA.cls := hB
  have hBZ : Z.vm.findClass "[B" = some q.SA.cls := by rw [← hal.findClass]; exact hB
  obtain ⟨kb, hkb, -⟩ := Vm.findClass_spec hBZ
  obtain ⟨kb', hkb', ekb⟩ := hal.2.2 _ _ hkb
  obtain ⟨hst, k9, hk9, comp, hkind9⟩ := s11
  have hk9 : vm.classes[q.SA.cls]? = some k9 := hk9
  have ek9 : k9 = kb' := Option.some.inj (hk9.symm.trans hkb')
  rw [ek9, ekb] at hkind9
  have hs9 : q.SA.vm.isStatics = false := by
    cases hv : q.SA.vm with
    | statics k => exact absurd hv (hst k)
    | _ => rfl
  exact ⟨q.SA, kb, s10, hBZ, hkb, hs9, fun ho => by have q9 := hkind9.symm.trans ho; cases q9⟩
theorem own_backC {p : Program} {l : Launch} {e : Env} {R : Room} {s : State} {args : Array Value} {below : List Frame} {Z : State} {a0 : Array Value} {EL : List (String × Nat)} {h : Heap} {y : MethodName} {bytes : ByteArray} {maxL : Nat} {ret : Option FieldType} {rm : Room} {len W : Nat} {as' : Array Value} {Q : Option Value → Heap → List Loc → Prop}
    (hM : MetFree l y (head1 [Jvm.Cond.code y bytes maxL ret] rm) (fun a U => a = as' ∧ Z.Warmed39 U.vm ∧ U.heap = h ∧ CHv Z EL U.vm h) (fun _ _ _ _ _ => True) (fun _ U o U' => ∃ v L, o = .returned v ∧ Q v U'.heap L ∧ ReturnedEndW U o U' L rm.cells rm.slots))
    (hZ : Z.Warmed39 s.vm) (wc : (Jvm.Cond.code y bytes maxL ret).before a0 Z = true) (wz : (Jvm.Cond.initialized y.cls).before a0 Z = true) (hf : rm.frames + 1 ≤ R.frames) (hl : W + (maxL + 11) + rm.locals ≤ R.locals) (hEL : EW Z a0 EL) (H : CHv Z EL s.vm h) :
    BackS l R p e below s args y len W (fun A a => a = as' ∧ A.U.heap = h ∧ A.cells + rm.cells ≤ R.cells ∧ A.slots + rm.slots ≤ R.slots)
      (fun A _ v B => ∃ L, Q v B.U.heap L ∧ B.locs = A.locs ++ L ∧ B.cells = A.cells + rm.cells ∧ B.slots = A.slots + rm.slots) :=
  BackS.of_freeW (bytes := bytes) (maxL := maxL) (ret := ret) (E := fun _ _ o t L k n => k = rm.cells ∧ n = rm.slots ∧ ∃ v, o = .returned v ∧ Q v t.heap L) hM hf hl
    (fun m meth c A a Y hp => have hU : Z.Warmed39 A.U.vm := wtrans hZ Y.warmed
      ⟨by show (Cond.and _ .tt).before a A.U = true; rw [Cond.before_and, mv hU wc]; rfl, mv hU wc, mv hU wz, hp.2.2.1, hp.2.2.2⟩)
    (fun m meth c A a g mk Y hp => ⟨hp.1, wtrans hZ Y.warmed, hp.2.1, (CHv.at (s := s) (vm0 := s.vm) Y hZ hEL H).1⟩) (fun _ _ _ _ _ _ _ _ _ => trivial)
    (fun _ _ _ _ ⟨v, L, h1, h2, h3⟩ => ⟨L, _, _, h3, rfl, rfl, v, h1, h2⟩)
    (fun m meth c A a g mk v t L k n Y hp _ _ ⟨e1, e2, v', e3, e4⟩ => by cases e3; subst e1 e2; exact ⟨L, e4, rfl, rfl, rfl⟩)
theorem own_fne {Z : State} {h : Heap} {a b : Addr} {C n d : String} {v w : Value} (F : Fld Z h a C n d v) (G : Fld Z h b C n d w) (q : v ≠ w) : a ≠ b := fun e => by
  subst e
  obtain ⟨c1, cf1, k1, i1, f1, a1, a2, -, -, -, -, a6⟩ := F
  obtain ⟨c2, cf2, k2, i2, f2, b1, b2, -, -, -, -, b6⟩ := G
  cases a1.symm.trans b1
  have e2 := a2.symm.trans b2
  simp only [Option.some.injEq, Prod.mk.injEq] at e2
  rw [e2.2.2.2] at a6
  exact q (Option.some.inj (a6.symm.trans b6))
theorem own_arrne {Z : State} {a0 : Array Value} {h : Heap} {a b : Addr} {C : String} {N : Nat} {k : ClassId} {ty : FieldType} {n : Int32} {f : Nat → Value} (w : (Jvm.Cond.instantiable C N).before a0 Z = true) (E : Exa Z h a C) (A : own_Af Z h b k ty n f) : a ≠ b := fun e => by
  subst e
  obtain ⟨c1, k1, a1, a2, a3, -⟩ := E
  obtain ⟨c2, ⟨b1, ⟨-, k2, b2, comp, b3⟩, -⟩, -⟩ := A
  obtain ⟨c, kk, d1, d2, d3, -⟩ := Cond.instantiable_spec w
  cases a1.symm.trans b1
  cases a2.symm.trans d1
  cases b2.symm.trans d2
  rw [d3] at b3
  cases b3
theorem own_z0 {nq nx : Int32} (h : nq = (nx * nx)) (h2 : nx = (0 : Int32)) : nq = (0 : Int32) := by rw [h, h2]; rfl
theorem own_notz {args : Array Value} {s : State} {t : Jvm.Term} {x : Int32} (h : (Jvm.Cond.not (Jvm.Cond.eq t (Jvm.Term.int (0 : Int32)))).before args s = true) (ev : t.eval args s none [] s = some (.int x)) : ¬ x = (0 : Int32) := fun q => by
  subst q
  simp [Cond.before, Cond.holds, Cond.value, ev, Term.eval] at h
theorem own_eqr {args : Array Value} {s : State} {t u : Jvm.Term} {a b : Addr} (h : (Jvm.Cond.eq t u).before args s = true) (e1 : t.eval args s none [] s = some (.ref a)) (e2 : u.eval args s none [] s = some (.ref b)) : a = b := by
  simpa [Cond.before, Cond.holds, Cond.value, e1, e2] using h

theorem pd_0 : parseMethodDescriptor "([CI[BII)I" = some ⟨[(.array .char), .int, (.array .byte), .int, .int], some .int⟩ := by decide +kernel
theorem pd_1 : parseMethodDescriptor "([CII)[B" = some ⟨[(.array .char), .int, .int], some (.array .byte)⟩ := by decide +kernel
theorem pd_2 : parseMethodDescriptor "([BI)B" = some ⟨[(.array .byte), .int], some .byte⟩ := by decide +kernel
theorem pd_3 : parseMethodDescriptor "([CIILjava/lang/Void;)V" = some ⟨[(.array .char), .int, .int, (.object "java/lang/Void")], none⟩ := by decide +kernel
theorem pd_4 : parseMethodDescriptor "([BII)I" = some ⟨[(.array .byte), .int, .int], some .int⟩ := by decide +kernel
theorem pd_5 : parseMethodDescriptor "(B[B)[B" = some ⟨[.byte, (.array .byte)], some (.array .byte)⟩ := by decide +kernel
theorem pd_6 : parseMethodDescriptor "()B" = some ⟨[], some .byte⟩ := by decide +kernel
theorem pd_7 : parseMethodDescriptor "(Ljava/nio/charset/Charset;B[B)[B" = some ⟨[(.object "java/nio/charset/Charset"), .byte, (.array .byte)], some (.array .byte)⟩ := by decide +kernel
theorem pd_8 : parseMethodDescriptor "(Ljava/nio/charset/Charset;)[B" = some ⟨[(.object "java/nio/charset/Charset")], some (.array .byte)⟩ := by decide +kernel
theorem pd_9 : parseMethodDescriptor "([BB)V" = some ⟨[(.array .byte), .byte], none⟩ := by decide +kernel
theorem pd_10 : parseMethodDescriptor "([C)V" = some ⟨[(.array .char)], none⟩ := by decide +kernel
theorem pd_11 : parseMethodDescriptor "(ICCCC)Ljava/lang/String;" = some ⟨[.int, .char, .char, .char, .char], some (.object "java/lang/String")⟩ := by decide +kernel
theorem pd_12 : parseMethodDescriptor "(Ljava/lang/String;)V" = some ⟨[(.object "java/lang/String")], none⟩ := by decide +kernel
theorem pd_13 : parseMethodDescriptor "(Z)[S" = some ⟨[.boolean], some (.array .short)⟩ := by decide +kernel
theorem d11_0 : decode jdk_52_method_21_code 0 = .ok (.iconst 0, 1) := by decide +kernel
theorem d11_1 : decode jdk_52_method_21_code 1 = .ok (.istore 5, 2) := by decide +kernel
theorem d11_3 : decode jdk_52_method_21_code 3 = .ok (.iload 5, 2) := by decide +kernel
theorem d11_5 : decode jdk_52_method_21_code 5 = .ok (.iload 4, 2) := by decide +kernel
theorem d11_7 : decode jdk_52_method_21_code 7 = .ok (.if_icmp .ge 37, 3) := by decide +kernel
theorem d11_10 : decode jdk_52_method_21_code 10 = .ok (.aload_n 0, 1) := by decide +kernel
theorem d11_11 : decode jdk_52_method_21_code 11 = .ok (.iload_n 1, 1) := by decide +kernel
theorem d11_12 : decode jdk_52_method_21_code 12 = .ok (.caload, 1) := by decide +kernel
theorem d11_13 : decode jdk_52_method_21_code 13 = .ok (.istore 6, 2) := by decide +kernel
theorem d11_15 : decode jdk_52_method_21_code 15 = .ok (.iload 6, 2) := by decide +kernel
theorem d11_17 : decode jdk_52_method_21_code 17 = .ok (.sipush 255, 3) := by decide +kernel
theorem d11_20 : decode jdk_52_method_21_code 20 = .ok (.if_icmp .le 6, 3) := by decide +kernel
theorem d11_26 : decode jdk_52_method_21_code 26 = .ok (.aload_n 2, 1) := by decide +kernel
theorem d11_27 : decode jdk_52_method_21_code 27 = .ok (.iload_n 3, 1) := by decide +kernel
theorem d11_28 : decode jdk_52_method_21_code 28 = .ok (.iload 6, 2) := by decide +kernel
theorem d11_30 : decode jdk_52_method_21_code 30 = .ok (.i2b, 1) := by decide +kernel
theorem d11_31 : decode jdk_52_method_21_code 31 = .ok (.bastore, 1) := by decide +kernel
theorem d11_32 : decode jdk_52_method_21_code 32 = .ok (.iinc 1 1, 3) := by decide +kernel
theorem d11_35 : decode jdk_52_method_21_code 35 = .ok (.iinc 3 1, 3) := by decide +kernel
theorem d11_38 : decode jdk_52_method_21_code 38 = .ok (.iinc 5 1, 3) := by decide +kernel
theorem d11_41 : decode jdk_52_method_21_code 41 = .ok (.goto (-38), 3) := by decide +kernel
theorem d11_44 : decode jdk_52_method_21_code 44 = .ok (.iload 4, 2) := by decide +kernel
theorem d11_46 : decode jdk_52_method_21_code 46 = .ok (.ireturn, 1) := by decide +kernel
theorem os11_13 {z0 : Value} {z1 : Value} {z2 : Value} {z3 : Value} {z4 : Value} {z5 : Value} {s6 : Slot} {v : Int32} (h : One s6) : storeLocals #[.val z0, .val z1, .val z2, .val z3, .val z4, .val z5, s6] 6 (.int v) = some #[.val z0, .val z1, .val z2, .val z3, .val z4, .val z5, .val (.int v)] := by
  rcases h with rfl | ⟨w, rfl, hw⟩
  · rfl
  · cases w <;> first | rfl | (simp [Value.category] at hw)
set_option maxRecDepth 65536 in
set_option maxHeartbeats 40000000 in
theorem tn11 {p : Program} {l : Launch} {e : Env} {R : Room} {s : State} {m : MethodId} {args : Array Value} {below : List Frame} {meth : Method} {c : Code} {T : State} {locs : List Loc} {cells slots : Nat} {Z : State} {a0 : Array Value} {h0 : Heap} {n0 : Nat} (a1 : Addr) (a3 : Addr) (iv : Int32) (pn : Int32) (s6 : Slot) (kc : ClassId) (kb : ClassId) (cf : Nat → Int32) (f3 : Nat → Value)
    (X0 : Stand p l e R s m args below meth c T locs cells slots) (hx : p.tables.exec = Jvm.exec) (hZ : Z.Warmed39 s.vm) (hw : ∀ d ∈ tables_1, d.before a0 Z = true) (hby : c.code = jdk_52_method_21_code) (hml : c.maxLocals = 7) (hown : s.vm.findClass "java/lang/StringUTF16" = some m.cls) (e0 : T.heap = h0) (N0 : Fr n0 locs) (Z0 : n0 ≤ h0.size) (A_c : own_Af Z h0 a1 kc .char pn (fun i => Value.int (cf i))) (A_b : own_Af Z h0 a3 kb .byte pn f3) (g_b : n0 ≤ a3) (ne13 : a1 ≠ a3) (h_s6 : One s6) (hlt : iv < pn) (hj : ¬ iv < (0 : Int32) ∧ iv < pn) (hcw : own_c (cf (iv).toNatClampNeg)) :
    ∃ (T' : State) (h' : Heap) (locs' : List Loc), Stand p l e R s m args below meth c T' locs' cells slots ∧ T'.heap = h' ∧ Fr n0 locs' ∧ Keep h0 h' [a3] ∧ own_Af Z h' a1 kc .char pn (fun i => Value.int (cf i)) ∧ own_Af Z h' a3 kb .byte pn (fun i => if i = (iv).toNatClampNeg then (.int (cf (iv).toNatClampNeg)) else f3 i) ∧
      ∀ t, Steps p.tables e below (T'.setTop (mkF m 3 #[.val (.ref a1), .val (.int (iv + (1 : Int32))), .val (.ref a3), .val (.int (iv + (1 : Int32))), .val (.int pn), .val (.int (iv + (1 : Int32))), .val (.int (cf (iv).toNatClampNeg))] [])) t → Steps p.tables e below (T.setTop (mkF m 3 #[.val (.ref a1), .val (.int iv), .val (.ref a3), .val (.int iv), .val (.int pn), .val (.int iv), s6] [])) t := by
  have K0 : Keep h0 h0 [a3] := Keep.refl _ _
  have P0 : ∀ t, Steps p.tables e below (T.setTop (mkF m 3 #[.val (.ref a1), .val (.int iv), .val (.ref a3), .val (.int iv), .val (.int pn), .val (.int iv), s6] [])) t → Steps p.tables e below (T.setTop (mkF m 3 #[.val (.ref a1), .val (.int iv), .val (.ref a3), .val (.int iv), .val (.int pn), .val (.int iv), s6] [])) t := fun t k => k
  have P1 : ∀ t, Steps p.tables e below (T.setTop (mkF m 31 #[.val (.ref a1), .val (.int iv), .val (.ref a3), .val (.int iv), .val (.int pn), .val (.int iv), .val (.int (cf (iv).toNatClampNeg))] [(.int ((cf (iv).toNatClampNeg).toInt8.toInt32)), (.int iv), (.ref a3)])) t → Steps p.tables e below (T.setTop (mkF m 3 #[.val (.ref a1), .val (.int iv), .val (.ref a3), .val (.int iv), .val (.int pn), .val (.int iv), s6] [])) t := by
    intro t k
    refine P0 _ ?_
    refine XS.iload X0.here hx rfl (hb hby d11_3) rfl ?_
    show Steps p.tables e below (T.setTop (mkF m 5 #[.val (.ref a1), .val (.int iv), .val (.ref a3), .val (.int iv), .val (.int pn), .val (.int iv), s6] [(.int iv)])) _
    refine XS.iload X0.here hx rfl (hb hby d11_5) rfl ?_
    show Steps p.tables e below (T.setTop (mkF m 7 #[.val (.ref a1), .val (.int iv), .val (.ref a3), .val (.int iv), .val (.int pn), .val (.int iv), s6] [(.int pn), (.int iv)])) _
    refine XS.icmpNo X0.here hx rfl (hb hby d11_7) rfl (XT.ii_ge_f hlt) ?_
    show Steps p.tables e below (T.setTop (mkF m 10 #[.val (.ref a1), .val (.int iv), .val (.ref a3), .val (.int iv), .val (.int pn), .val (.int iv), s6] [])) _
    refine XS.aloadN X0.here hx rfl (hb hby d11_10) rfl rfl ?_
    show Steps p.tables e below (T.setTop (mkF m 11 #[.val (.ref a1), .val (.int iv), .val (.ref a3), .val (.int iv), .val (.int pn), .val (.int iv), s6] [(.ref a1)])) _
    refine XS.iloadN X0.here hx rfl (hb hby d11_11) rfl ?_
    show Steps p.tables e below (T.setTop (mkF m 12 #[.val (.ref a1), .val (.int iv), .val (.ref a3), .val (.int iv), .val (.int pn), .val (.int iv), s6] [(.int iv), (.ref a1)])) _
    refine own_fcal X0 hx hZ e0 A_c hj (v := (.int (cf (iv).toNatClampNeg))) rfl rfl rfl (hb hby d11_12) ?_
    show Steps p.tables e below (T.setTop (mkF m 13 #[.val (.ref a1), .val (.int iv), .val (.ref a3), .val (.int iv), .val (.int pn), .val (.int iv), s6] [(.int (cf (iv).toNatClampNeg))])) _
    refine XS.istore X0.here hx rfl (hb hby d11_13) rfl (l' := #[.val (.ref a1), .val (.int iv), .val (.ref a3), .val (.int iv), .val (.int pn), .val (.int iv), .val (.int (cf (iv).toNatClampNeg))]) (os11_13 h_s6) ?_
    show Steps p.tables e below (T.setTop (mkF m 15 #[.val (.ref a1), .val (.int iv), .val (.ref a3), .val (.int iv), .val (.int pn), .val (.int iv), .val (.int (cf (iv).toNatClampNeg))] [])) _
    refine XS.iload X0.here hx rfl (hb hby d11_15) rfl ?_
    show Steps p.tables e below (T.setTop (mkF m 17 #[.val (.ref a1), .val (.int iv), .val (.ref a3), .val (.int iv), .val (.int pn), .val (.int iv), .val (.int (cf (iv).toNatClampNeg))] [(.int (cf (iv).toNatClampNeg))])) _
    refine XS.sipush X0.here hx rfl (hb hby d11_17) ?_
    show Steps p.tables e below (T.setTop (mkF m 20 #[.val (.ref a1), .val (.int iv), .val (.ref a3), .val (.int iv), .val (.int pn), .val (.int iv), .val (.int (cf (iv).toNatClampNeg))] [(.int (255 : Int32)), (.int (cf (iv).toNatClampNeg))])) _
    refine XS.icmpYes X0.here hx rfl (pc0 := 20) (pc' := 26) rfl (hb hby d11_20) rfl (XT.ii_le_t (own_c255 hcw)) (by decide) (by decide) ?_
    show Steps p.tables e below (T.setTop (mkF m 26 #[.val (.ref a1), .val (.int iv), .val (.ref a3), .val (.int iv), .val (.int pn), .val (.int iv), .val (.int (cf (iv).toNatClampNeg))] [])) _
    refine XS.aloadN X0.here hx rfl (hb hby d11_26) rfl rfl ?_
    show Steps p.tables e below (T.setTop (mkF m 27 #[.val (.ref a1), .val (.int iv), .val (.ref a3), .val (.int iv), .val (.int pn), .val (.int iv), .val (.int (cf (iv).toNatClampNeg))] [(.ref a3)])) _
    refine XS.iloadN X0.here hx rfl (hb hby d11_27) rfl ?_
    show Steps p.tables e below (T.setTop (mkF m 28 #[.val (.ref a1), .val (.int iv), .val (.ref a3), .val (.int iv), .val (.int pn), .val (.int iv), .val (.int (cf (iv).toNatClampNeg))] [(.int iv), (.ref a3)])) _
    refine XS.iload X0.here hx rfl (hb hby d11_28) rfl ?_
    show Steps p.tables e below (T.setTop (mkF m 30 #[.val (.ref a1), .val (.int iv), .val (.ref a3), .val (.int iv), .val (.int pn), .val (.int iv), .val (.int (cf (iv).toNatClampNeg))] [(.int (cf (iv).toNatClampNeg)), (.int iv), (.ref a3)])) _
    refine XT.i2b X0.here hx rfl (hb hby d11_30) rfl ?_
    show Steps p.tables e below (T.setTop (mkF m 31 #[.val (.ref a1), .val (.int iv), .val (.ref a3), .val (.int iv), .val (.int pn), .val (.int iv), .val (.int (cf (iv).toNatClampNeg))] [(.int ((cf (iv).toNatClampNeg).toInt8.toInt32)), (.int iv), (.ref a3)])) _
    exact k
  obtain ⟨cl2, Ar2, q2, S2, M2, H2, G2⟩ := A_b
  have in2 : ¬ (iv < 0 ∨ cl2.slots.size ≤ (iv).toNatClampNeg) := inb_of S2 hj
  obtain ⟨T2, h2, X2, e2, W2, st2⟩ := stB X0 hx hZ e0 Ar2 (j := iv) in2 (g := (mkF m 31 #[.val (.ref a1), .val (.int iv), .val (.ref a3), .val (.int iv), .val (.int pn), .val (.int iv), .val (.int (cf (iv).toNatClampNeg))] [(.int ((cf (iv).toNatClampNeg).toInt8.toInt32)), (.int iv), (.ref a3)])) rfl rfl (hb hby d11_31)
  have r2 : nar .byte ((cf (iv).toNatClampNeg).toInt8.toInt32) = (cf (iv).toNatClampNeg) := own_cb hcw
  rw [r2] at W2
  have F3 : own_Af Z h2 a1 kc .char pn (fun i => Value.int (cf i)) := A_c.other W2 ne13
  have F4 : own_Af Z h2 a3 kb .byte pn (fun i => if i = (iv).toNatClampNeg then (.int (cf (iv).toNatClampNeg)) else f3 i) := own_Af.set Ar2 q2 S2 M2 H2 G2 (by rw [← r2]; exact fits_nar_byte _) W2 (Nat.lt_of_not_le fun y => in2 (Or.inr y))
  have Z5 : n0 ≤ h2.size := Nat.le_trans Z0 (Keep.of_wr W2).1
  have K6 : Keep h0 h2 [a3] := K0.wr W2 (Or.inl (List.mem_of_getElem? (i := 0) rfl))
  have N2 := Fr.snoc X2 N0 g_b
  have P7 : ∀ t, Steps p.tables e below (T2.setTop (mkF m 32 #[.val (.ref a1), .val (.int iv), .val (.ref a3), .val (.int iv), .val (.int pn), .val (.int iv), .val (.int (cf (iv).toNatClampNeg))] [])) t → Steps p.tables e below (T.setTop (mkF m 3 #[.val (.ref a1), .val (.int iv), .val (.ref a3), .val (.int iv), .val (.int pn), .val (.int iv), s6] [])) t := fun t k => P1 _ (st2 _ k)
  have P8 : ∀ t, Steps p.tables e below (T2.setTop (mkF m 3 #[.val (.ref a1), .val (.int (iv + (1 : Int32))), .val (.ref a3), .val (.int (iv + (1 : Int32))), .val (.int pn), .val (.int (iv + (1 : Int32))), .val (.int (cf (iv).toNatClampNeg))] [])) t → Steps p.tables e below (T.setTop (mkF m 3 #[.val (.ref a1), .val (.int iv), .val (.ref a3), .val (.int iv), .val (.int pn), .val (.int iv), s6] [])) t := by
    intro t k
    refine P7 _ ?_
    refine XS.iinc X2.here hx rfl (hb hby d11_32) rfl (l' := #[.val (.ref a1), .val (.int (iv + (1 : Int32))), .val (.ref a3), .val (.int iv), .val (.int pn), .val (.int iv), .val (.int (cf (iv).toNatClampNeg))]) rfl ?_
    show Steps p.tables e below (T2.setTop (mkF m 35 #[.val (.ref a1), .val (.int (iv + (1 : Int32))), .val (.ref a3), .val (.int iv), .val (.int pn), .val (.int iv), .val (.int (cf (iv).toNatClampNeg))] [])) _
    refine XS.iinc X2.here hx rfl (hb hby d11_35) rfl (l' := #[.val (.ref a1), .val (.int (iv + (1 : Int32))), .val (.ref a3), .val (.int (iv + (1 : Int32))), .val (.int pn), .val (.int iv), .val (.int (cf (iv).toNatClampNeg))]) rfl ?_
    show Steps p.tables e below (T2.setTop (mkF m 38 #[.val (.ref a1), .val (.int (iv + (1 : Int32))), .val (.ref a3), .val (.int (iv + (1 : Int32))), .val (.int pn), .val (.int iv), .val (.int (cf (iv).toNatClampNeg))] [])) _
    refine XS.iinc X2.here hx rfl (hb hby d11_38) rfl (l' := #[.val (.ref a1), .val (.int (iv + (1 : Int32))), .val (.ref a3), .val (.int (iv + (1 : Int32))), .val (.int pn), .val (.int (iv + (1 : Int32))), .val (.int (cf (iv).toNatClampNeg))]) rfl ?_
    show Steps p.tables e below (T2.setTop (mkF m 41 #[.val (.ref a1), .val (.int (iv + (1 : Int32))), .val (.ref a3), .val (.int (iv + (1 : Int32))), .val (.int pn), .val (.int (iv + (1 : Int32))), .val (.int (cf (iv).toNatClampNeg))] [])) _
    refine XS.goto X2.here hx rfl (pc0 := 41) (pc' := 3) rfl (hb hby d11_41) (by decide) (by decide) ?_
    show Steps p.tables e below (T2.setTop (mkF m 3 #[.val (.ref a1), .val (.int (iv + (1 : Int32))), .val (.ref a3), .val (.int (iv + (1 : Int32))), .val (.int pn), .val (.int (iv + (1 : Int32))), .val (.int (cf (iv).toNatClampNeg))] [])) _
    exact k
  exact ⟨T2, h2, _, X2, e2, N2, K6, F3, F4, P8⟩
set_option maxRecDepth 65536 in
set_option maxHeartbeats 40000000 in
theorem lv11 {p : Program} {l : Launch} {e : Env} {R : Room} {s : State} {m : MethodId} {args : Array Value} {below : List Frame} {meth : Method} {c : Code} {T : State} {locs : List Loc} {cells slots : Nat} {Z : State} {a0 : Array Value} {h0 : Heap} (a1 : Addr) (a3 : Addr) (iv : Int32) (pn : Int32) (s6 : Slot)
    (X0 : Stand p l e R s m args below meth c T locs cells slots) (hx : p.tables.exec = Jvm.exec) (hZ : Z.Warmed39 s.vm) (hw : ∀ d ∈ tables_1, d.before a0 Z = true) (hby : c.code = jdk_52_method_21_code) (hown : s.vm.findClass "java/lang/StringUTF16" = some m.cls) (e0 : T.heap = h0) (hge : ¬ iv < pn) :
    ∀ t, Steps p.tables e below (T.setTop (mkF m 44 #[.val (.ref a1), .val (.int iv), .val (.ref a3), .val (.int iv), .val (.int pn), .val (.int iv), s6] [])) t → Steps p.tables e below (T.setTop (mkF m 3 #[.val (.ref a1), .val (.int iv), .val (.ref a3), .val (.int iv), .val (.int pn), .val (.int iv), s6] [])) t := by
  intro t k
  refine XS.iload X0.here hx rfl (hb hby d11_3) rfl ?_
  show Steps p.tables e below (T.setTop (mkF m 5 #[.val (.ref a1), .val (.int iv), .val (.ref a3), .val (.int iv), .val (.int pn), .val (.int iv), s6] [(.int iv)])) _
  refine XS.iload X0.here hx rfl (hb hby d11_5) rfl ?_
  show Steps p.tables e below (T.setTop (mkF m 7 #[.val (.ref a1), .val (.int iv), .val (.ref a3), .val (.int iv), .val (.int pn), .val (.int iv), s6] [(.int pn), (.int iv)])) _
  refine XS.icmpYes X0.here hx rfl (pc0 := 7) (pc' := 44) rfl (hb hby d11_7) rfl (XT.ii_ge_t hge) (by decide) (by decide) ?_
  show Steps p.tables e below (T.setTop (mkF m 44 #[.val (.ref a1), .val (.int iv), .val (.ref a3), .val (.int iv), .val (.int pn), .val (.int iv), s6] [])) _
  exact k
set_option maxRecDepth 65536 in
theorem loop11 {p : Program} {l : Launch} {e : Env} {R : Room} {s : State} {m : MethodId} {args : Array Value} {below : List Frame} {meth : Method} {c : Code} {Z : State} {a0 : Array Value} {n0 : Nat} {cells slots : Nat} (a1 a3 : Addr) (pn : Int32) (kc kb : ClassId) (cf : Nat → Int32) (n : Nat) (hx : p.tables.exec = Jvm.exec) (hZ : Z.Warmed39 s.vm) (hw : ∀ d ∈ tables_1, d.before a0 Z = true) (hby : c.code = jdk_52_method_21_code) (hml : c.maxLocals = 7) (hown : s.vm.findClass "java/lang/StringUTF16" = some m.cls) (hn : pn.toInt = n) (hn4 : n < 5000) (g_b : n0 ≤ a3) (ne13 : a1 ≠ a3) (hcs : own_cs pn cf) (k : Nat) :
    ∀ (T : State) (locs : List Loc) (h0 : Heap) (i : Nat) (iv : Int32) (s6 : Slot) (f3 : Nat → Value), Stand p l e R s m args below meth c T locs cells slots → T.heap = h0 → Fr n0 locs → n0 ≤ h0.size → own_Af Z h0 a1 kc .char pn (fun i => Value.int (cf i)) → own_Af Z h0 a3 kb .byte pn f3 → One s6 → i + k = n → iv.toInt = i → (∀ j, j < i → f3 j = .int (cf j)) →
      ∃ (T' : State) (h' : Heap) (locs' : List Loc) (iv' : Int32) (s6' : Slot), Stand p l e R s m args below meth c T' locs' cells slots ∧ T'.heap = h' ∧ Fr n0 locs' ∧ Keep h0 h' [a3] ∧ own_Af Z h' a1 kc .char pn (fun i => Value.int (cf i)) ∧ own_Af Z h' a3 kb .byte pn (fun i => Value.int (cf i)) ∧
        ∀ t, Steps p.tables e below (T'.setTop (mkF m 44 #[.val (.ref a1), .val (.int iv'), .val (.ref a3), .val (.int iv'), .val (.int pn), .val (.int iv'), s6'] [])) t → Steps p.tables e below (T.setTop (mkF m 3 #[.val (.ref a1), .val (.int iv), .val (.ref a3), .val (.int iv), .val (.int pn), .val (.int iv), s6] [])) t := by
  induction k with
  | zero =>
    intro T locs h0 i iv s6 f3 X0 e0 N0 Z0 A_c A_b hs h1 h2 h3
    have hi : i = n := by omega
    refine ⟨T, h0, locs, iv, s6, X0, e0, N0, Keep.refl _ _, A_c, A_b.same (fun j hj => (h3 j (by rw [own_nat hn] at hj; omega)).symm), ?_⟩
    exact lv11 a1 a3 iv pn s6 X0 hx hZ hw hby hown e0 (by rw [Int32.lt_iff_toInt_lt]; omega)
  | succ k ih =>
    intro T locs h0 i iv s6 f3 X0 e0 N0 Z0 A_c A_b hs h1 h2 h3
    have hj : ¬ iv < (0 : Int32) ∧ iv < pn := own_jn (by omega) (by omega)
    obtain ⟨T1, h1', locs1, X1, e1, N1, K1, A1, B1, st1⟩ := tn11 a1 a3 iv pn s6 kc kb cf f3 X0 hx hZ hw hby hml hown e0 N0 Z0 A_c A_b g_b ne13 hs hj.2 hj (hcs _ (by rw [own_nat h2]; omega))
    obtain ⟨T2, h2', locs2, iv2, s62, X2, e2, N2, K2, A2, B2, st2⟩ := ih T1 locs1 h1' (i + 1) (iv + (1 : Int32)) (.val (.int (cf (iv).toNatClampNeg))) _ X1 e1 N1 (Nat.le_trans Z0 K1.1) A1 B1 (One.val rfl) (by omega) (own_inc h2 (by omega)) (fun j hj' => by
      rw [own_nat h2]
      by_cases q : j = i
      · simp [q]
      · simp only [q, if_false]; exact h3 j (by omega))
    exact ⟨T2, h2', locs2, iv2, s62, X2, e2, N2, K1.trans K2 (fun x hx' => Or.inl hx'), A2, B2, fun t kk => st1 t (st2 t kk)⟩
theorem pn_11 : plainName "java/lang/StringUTF16" = true := by first | (simp [plainName, overriddenIn]; done) | decide +kernel
theorem ef_11 (m : MethodId) (x0 : Addr) (x1 : Int32) (x2 : Addr) (x3 : Int32) (x4 : Int32) : entryFrame m #[(.ref x0), (.int x3), (.ref x2), (.int x3), (.int x4)] 7 = mkF m 0 #[.val (.ref x0), .val (.int x3), .val (.ref x2), .val (.int x3), .val (.int x4), .unset, .unset] [] := by first | (simp [entryFrame, mkF, argsToLocals, Value.category]; done) | rfl
def Q11 (Z : State) (a1 : Addr) (a3 : Addr) (pn : Int32) (kc : ClassId) (kb : ClassId) (cf : Nat → Int32) (f3 : Nat → Value) (n : Nat) (h0 : Heap) (n0 : Nat) (v : Option Value) (h : Heap) (L : List Loc) : Prop := v = some (.int pn) ∧ Fr n0 L ∧ Keep h0 h [a3] ∧ own_Af Z h a1 kc .char pn (fun i => Value.int (cf i)) ∧ own_Af Z h a3 kb .byte pn (fun i => Value.int (cf i))
set_option maxRecDepth 65536 in
set_option maxHeartbeats 40000000 in
theorem rm11 (l : Launch) (Z : State) (a0 : Array Value) (hw : ∀ d ∈ tables_1, d.before a0 Z = true) (ws : List Jvm.Cond) (a1 : Addr) (a3 : Addr) (pn : Int32) (kc : ClassId) (kb : ClassId) (cf : Nat → Int32) (f3 : Nat → Value) (n : Nat) (h0 : Heap) (n0 : Nat) (Z0 : n0 ≤ h0.size) (A_c : own_Af Z h0 a1 kc .char pn (fun i => Value.int (cf i))) (A_b : own_Af Z h0 a3 kb .byte pn f3) (g_b : n0 ≤ a3) (ne13 : a1 ≠ a3) (hn : pn.toInt = n) (hn4 : n < 5000) (hcs : own_cs pn cf) :
    MetFree l (⟨"java/lang/StringUTF16", "compress", "([CI[BII)I"⟩ : MethodName) (head1 (Jvm.Cond.code (⟨"java/lang/StringUTF16", "compress", "([CI[BII)I"⟩ : MethodName) jdk_52_method_21_code 7 (some .int) :: ws) ({ frames := 0, cells := 0, slots := 0, locals := 0 } : Room)) (fun a U => a = #[(.ref a1), (.int (0 : Int32)), (.ref a3), (.int (0 : Int32)), (.int pn)] ∧ Z.Warmed39 U.vm ∧ U.heap = h0) (fun _ _ _ _ _ => True) (fun _ U o U' => ∃ v L, o = .returned v ∧ Q11 Z a1 a3 pn kc kb cf f3 n h0 n0 v U'.heap L ∧ FrameEnd U o U' L ({ frames := 0, cells := 0, slots := 0, locals := 0 } : Room).cells ({ frames := 0, cells := 0, slots := 0, locals := 0 } : Room).slots) := by
  refine MetFree.of_bodySF (plainFor_of_name pn_11) hisR ?_
  intro p e s m args below meth c s₁ Bd hml0 hP hK
  obtain ⟨rfl, hZ, hh⟩ := hP
  have hx := Bd.exec
  have hby := Bd.bytes
  have hml : c.maxLocals = 7 := hml0
  have hown : s.vm.findClass "java/lang/StringUTF16" = some m.cls := findClass_of_methodNamed Bd.named
  have hnm := (name_of_methodNamed Bd.named Bd.method).1
  have X0 : Stand p l e ({ frames := 0, cells := 0, slots := 0, locals := 0 } : Room) s m #[(.ref a1), (.int (0 : Int32)), (.ref a3), (.int (0 : Int32)), (.int pn)] below meth c s₁ [] 0 0 := Stand.of_body Bd
  have e0 : s₁.heap = h0 := by rw [← hh, Bd.state]; rfl
  have N0 := Fr.nil n0
  have K0 : Keep h0 h0 [a3] := Keep.refl _ _
  have P0 : ∀ t, Steps p.tables e below (s₁.setTop (mkF m 0 #[.val (.ref a1), .val (.int (0 : Int32)), .val (.ref a3), .val (.int (0 : Int32)), .val (.int pn), .unset, .unset] [])) t → Steps p.tables e below (s₁.setTop (entryFrame m #[(.ref a1), (.int (0 : Int32)), (.ref a3), (.int (0 : Int32)), (.int pn)] 7)) t := fun t k => castTop (ef_11 m a1 (0 : Int32) a3 (0 : Int32) pn) k
  have P1 : ∀ t, Steps p.tables e below (s₁.setTop (mkF m 3 #[.val (.ref a1), .val (.int (0 : Int32)), .val (.ref a3), .val (.int (0 : Int32)), .val (.int pn), .val (.int (0 : Int32)), .unset] [])) t → Steps p.tables e below (s₁.setTop (entryFrame m #[(.ref a1), (.int (0 : Int32)), (.ref a3), (.int (0 : Int32)), (.int pn)] 7)) t := by
    intro t k
    refine P0 _ ?_
    refine XS.iconst X0.here hx rfl (hb hby d11_0) ?_
    show Steps p.tables e below (s₁.setTop (mkF m 1 #[.val (.ref a1), .val (.int (0 : Int32)), .val (.ref a3), .val (.int (0 : Int32)), .val (.int pn), .unset, .unset] [(.int (0 : Int32))])) _
    refine XS.istore X0.here hx rfl (hb hby d11_1) rfl (l' := #[.val (.ref a1), .val (.int (0 : Int32)), .val (.ref a3), .val (.int (0 : Int32)), .val (.int pn), .val (.int (0 : Int32)), .unset]) rfl ?_
    show Steps p.tables e below (s₁.setTop (mkF m 3 #[.val (.ref a1), .val (.int (0 : Int32)), .val (.ref a3), .val (.int (0 : Int32)), .val (.int pn), .val (.int (0 : Int32)), .unset] [])) _
    exact k
  obtain ⟨T2, h2, lo2, jv, sv, X2, e2, N2, K2, A_c1, A_b1, st2⟩ := loop11 a1 a3 pn kc kb cf n hx hZ hw hby hml hown hn hn4 g_b ne13 hcs n s₁ _ h0 0 (0 : Int32) .unset f3 X0 e0 N0 Z0 A_c A_b One.u (by omega) rfl (fun j hj => absurd hj (Nat.not_lt_zero j))
  have P3 : ∀ t, Steps p.tables e below (T2.setTop (mkF m 44 #[.val (.ref a1), .val (.int jv), .val (.ref a3), .val (.int jv), .val (.int pn), .val (.int jv), sv] [])) t → Steps p.tables e below (s₁.setTop (entryFrame m #[(.ref a1), (.int (0 : Int32)), (.ref a3), (.int (0 : Int32)), (.int pn)] 7)) t := fun t k => P1 _ (st2 _ k)
  have Z4 : n0 ≤ h2.size := Nat.le_trans Z0 K2.1
  have P5 : ∀ t, Steps p.tables e below (T2.setTop (mkF m 46 #[.val (.ref a1), .val (.int jv), .val (.ref a3), .val (.int jv), .val (.int pn), .val (.int jv), sv] [(.int pn)])) t → Steps p.tables e below (s₁.setTop (entryFrame m #[(.ref a1), (.int (0 : Int32)), (.ref a3), (.int (0 : Int32)), (.int pn)] 7)) t := by
    intro t k
    refine P3 _ ?_
    refine XS.iload X2.here hx rfl (hb hby d11_44) rfl ?_
    show Steps p.tables e below (T2.setTop (mkF m 46 #[.val (.ref a1), .val (.int jv), .val (.ref a3), .val (.int jv), .val (.int pn), .val (.int jv), sv] [(.int pn)])) _
    exact k
  obtain ⟨fs, hr, hrun, hended, hW, hsame⟩ := X2.leave (v := some (.int pn)) (fun h => by rw [Bd.returns] at h; cases h)
  refine ⟨_, _, P5 _ ?_, hrun, hended, _, _, rfl, ?_, ⟨_, rfl⟩, hW, hsame.mono (by decide) (by decide)⟩
  · exact retI X2 hx Bd.returns (hb hby d11_46) hr
  · show Q11 Z a1 a3 pn kc kb cf f3 n h0 n0 _ T2.heap _
    rw [e2]
    exact ⟨rfl, N2, K2, A_c1, A_b1⟩
theorem d12_0 : decode jdk_52_method_16_code 0 = .ok (.iload_n 2, 1) := by decide +kernel
theorem d12_1 : decode jdk_52_method_16_code 1 = .ok (.newarray .byte, 2) := by decide +kernel
theorem d12_3 : decode jdk_52_method_16_code 3 = .ok (.astore_n 3, 1) := by decide +kernel
theorem d12_4 : decode jdk_52_method_16_code 4 = .ok (.aload_n 0, 1) := by decide +kernel
theorem d12_5 : decode jdk_52_method_16_code 5 = .ok (.iload_n 1, 1) := by decide +kernel
theorem d12_6 : decode jdk_52_method_16_code 6 = .ok (.aload_n 3, 1) := by decide +kernel
theorem d12_7 : decode jdk_52_method_16_code 7 = .ok (.iconst 0, 1) := by decide +kernel
theorem d12_8 : decode jdk_52_method_16_code 8 = .ok (.iload_n 2, 1) := by decide +kernel
theorem d12_9 : decode jdk_52_method_16_code 9 = .ok (.invokestatic 115, 3) := by decide +kernel
theorem d12_12 : decode jdk_52_method_16_code 12 = .ok (.istore 4, 2) := by decide +kernel
theorem d12_14 : decode jdk_52_method_16_code 14 = .ok (.iload 4, 2) := by decide +kernel
theorem d12_16 : decode jdk_52_method_16_code 16 = .ok (.iload_n 2, 1) := by decide +kernel
theorem d12_17 : decode jdk_52_method_16_code 17 = .ok (.if_icmp .eq 40, 3) := by decide +kernel
theorem d12_57 : decode jdk_52_method_16_code 57 = .ok (.aload_n 3, 1) := by decide +kernel
theorem d12_58 : decode jdk_52_method_16_code 58 = .ok (.areturn, 1) := by decide +kernel
theorem pn_12 : plainName "java/lang/StringUTF16" = true := by first | (simp [plainName, overriddenIn]; done) | decide +kernel
theorem ef_12 (m : MethodId) (x0 : Addr) (x1 : Int32) (x2 : Int32) : entryFrame m #[(.ref x0), (.int x1), (.int x2)] 6 = mkF m 0 #[.val (.ref x0), .val (.int x1), .val (.int x2), .unset, .unset, .unset] [] := by first | (simp [entryFrame, mkF, argsToLocals, Value.category]; done) | rfl
def Q12 (Z : State) (a1 : Addr) (pn : Int32) (kc : ClassId) (cf : Nat → Int32) (n : Nat) (h0 : Heap) (n0 : Nat) (v : Option Value) (h : Heap) (L : List Loc) : Prop := ∃ (b : Addr) (kb : ClassId), v = some (.ref b) ∧ Fr n0 L ∧ Keep h0 h [] ∧ h0.size ≤ b ∧ own_Af Z h b kb .byte pn (fun i => Value.int (cf i)) ∧ Exa Z h b "[B"
set_option maxRecDepth 65536 in
set_option maxHeartbeats 40000000 in
theorem rm12 (l : Launch) (Z : State) (a0 : Array Value) (hw : ∀ d ∈ tables_1, d.before a0 Z = true) (ws : List Jvm.Cond) (a1 : Addr) (pn : Int32) (kc : ClassId) (cf : Nat → Int32) (n : Nat) (h0 : Heap) (n0 : Nat) (Z0 : n0 ≤ h0.size) (A_c : own_Af Z h0 a1 kc .char pn (fun i => Value.int (cf i))) (hn : pn.toInt = n) (hn4 : n ≤ 4) (hcs : own_cs pn cf) :
    MetFree l (⟨"java/lang/StringUTF16", "compress", "([CII)[B"⟩ : MethodName) (head1 (Jvm.Cond.code (⟨"java/lang/StringUTF16", "compress", "([CII)[B"⟩ : MethodName) jdk_52_method_16_code 6 (some (.array .byte)) :: ws) ({ frames := 1, cells := 1, slots := 4, locals := 18 } : Room)) (fun a U => a = #[(.ref a1), (.int (0 : Int32)), (.int pn)] ∧ Z.Warmed39 U.vm ∧ U.heap = h0) (fun _ _ _ _ _ => True) (fun _ U o U' => ∃ v L, o = .returned v ∧ Q12 Z a1 pn kc cf n h0 n0 v U'.heap L ∧ FrameEnd U o U' L ({ frames := 1, cells := 1, slots := 4, locals := 18 } : Room).cells ({ frames := 1, cells := 1, slots := 4, locals := 18 } : Room).slots) := by
  refine MetFree.of_bodySF (plainFor_of_name pn_12) hisR ?_
  intro p e s m args below meth c s₁ Bd hml0 hP hK
  obtain ⟨rfl, hZ, hh⟩ := hP
  have hx := Bd.exec
  have hby := Bd.bytes
  have hml : c.maxLocals = 6 := hml0
  have hown : s.vm.findClass "java/lang/StringUTF16" = some m.cls := findClass_of_methodNamed Bd.named
  have hnm := (name_of_methodNamed Bd.named Bd.method).1
  have X0 : Stand p l e ({ frames := 1, cells := 1, slots := 4, locals := 18 } : Room) s m #[(.ref a1), (.int (0 : Int32)), (.int pn)] below meth c s₁ [] 0 0 := Stand.of_body Bd
  have e0 : s₁.heap = h0 := by rw [← hh, Bd.state]; rfl
  have N0 := Fr.nil n0
  have K0 : Keep h0 h0 [] := Keep.refl _ _
  have P0 : ∀ t, Steps p.tables e below (s₁.setTop (mkF m 0 #[.val (.ref a1), .val (.int (0 : Int32)), .val (.int pn), .unset, .unset, .unset] [])) t → Steps p.tables e below (s₁.setTop (entryFrame m #[(.ref a1), (.int (0 : Int32)), (.int pn)] 6)) t := fun t k => castTop (ef_12 m a1 (0 : Int32) pn) k
  have P1 : ∀ t, Steps p.tables e below (s₁.setTop (mkF m 1 #[.val (.ref a1), .val (.int (0 : Int32)), .val (.int pn), .unset, .unset, .unset] [(.int pn)])) t → Steps p.tables e below (s₁.setTop (entryFrame m #[(.ref a1), (.int (0 : Int32)), (.int pn)] 6)) t := by
    intro t k
    refine P0 _ ?_
    refine XS.iloadN X0.here hx rfl (hb hby d12_0) rfl ?_
    show Steps p.tables e below (s₁.setTop (mkF m 1 #[.val (.ref a1), .val (.int (0 : Int32)), .val (.int pn), .unset, .unset, .unset] [(.int pn)])) _
    exact k
  obtain ⟨T2, h2, k2, X2, e2, E2, A2, B2, st2⟩ := newPE X0 hx hZ (hw _ (List.mem_of_getElem? (i := 27) rfl)) e0 (g := (mkF m 1 #[.val (.ref a1), .val (.int (0 : Int32)), .val (.int pn), .unset, .unset, .unset] [(.int pn)])) rfl (hb hby d12_1) rfl (own_nneg hn) (cap := 4) (by rw [own_nat hn]; exact hn4) (by decide) (by decide) (by decide) (ad := "[B") (by decide)
  obtain ⟨b2, g2⟩ : ∃ z, z = h0.size := ⟨_, rfl⟩
  rw [← g2] at A2 B2 st2
  have F3 : own_Af Z h2 a1 kc .char pn (fun i => Value.int (cf i)) := A_c.ext E2
  obtain ⟨kc_b2, hkc_b2⟩ : ∃ z, z = k2 := ⟨_, rfl⟩
  rw [← hkc_b2] at A2
  have F4 : own_Af Z h2 b2 kc_b2 .byte pn (fun _ => (.int (0 : Int32))) := own_Af.new A2 (own_nneg hn)
  have Z5 : n0 ≤ h2.size := Nat.le_trans Z0 E2.1
  have K6 : Keep h0 h2 [] := K0.ext E2
  have g_b2 : n0 ≤ b2 := Nat.le_trans Z0 (Nat.le_of_eq g2.symm)
  have sz_b2 : h0.size ≤ b2 := Nat.le_trans K0.1 (Nat.le_of_eq g2.symm)
  have ne_a1_b2 : a1 ≠ b2 := Nat.ne_of_lt (Nat.lt_of_lt_of_le A_c.lt (Nat.le_of_eq g2.symm))
  have P7 : ∀ t, Steps p.tables e below (T2.setTop (mkF m 3 #[.val (.ref a1), .val (.int (0 : Int32)), .val (.int pn), .unset, .unset, .unset] [(.ref b2)])) t → Steps p.tables e below (s₁.setTop (entryFrame m #[(.ref a1), (.int (0 : Int32)), (.int pn)] 6)) t := fun t k => P1 _ (st2 _ k)
  have P8 : ∀ t, Steps p.tables e below (T2.setTop (mkF m 9 #[.val (.ref a1), .val (.int (0 : Int32)), .val (.int pn), .val (.ref b2), .unset, .unset] [(.int pn), (.int (0 : Int32)), (.ref b2), (.int (0 : Int32)), (.ref a1)])) t → Steps p.tables e below (s₁.setTop (entryFrame m #[(.ref a1), (.int (0 : Int32)), (.int pn)] 6)) t := by
    intro t k
    refine P7 _ ?_
    refine XS.astoreN X2.here hx rfl (hb hby d12_3) rfl rfl (l' := #[.val (.ref a1), .val (.int (0 : Int32)), .val (.int pn), .val (.ref b2), .unset, .unset]) rfl ?_
    show Steps p.tables e below (T2.setTop (mkF m 4 #[.val (.ref a1), .val (.int (0 : Int32)), .val (.int pn), .val (.ref b2), .unset, .unset] [])) _
    refine XS.aloadN X2.here hx rfl (hb hby d12_4) rfl rfl ?_
    show Steps p.tables e below (T2.setTop (mkF m 5 #[.val (.ref a1), .val (.int (0 : Int32)), .val (.int pn), .val (.ref b2), .unset, .unset] [(.ref a1)])) _
    refine XS.iloadN X2.here hx rfl (hb hby d12_5) rfl ?_
    show Steps p.tables e below (T2.setTop (mkF m 6 #[.val (.ref a1), .val (.int (0 : Int32)), .val (.int pn), .val (.ref b2), .unset, .unset] [(.int (0 : Int32)), (.ref a1)])) _
    refine XS.aloadN X2.here hx rfl (hb hby d12_6) rfl rfl ?_
    show Steps p.tables e below (T2.setTop (mkF m 7 #[.val (.ref a1), .val (.int (0 : Int32)), .val (.int pn), .val (.ref b2), .unset, .unset] [(.ref b2), (.int (0 : Int32)), (.ref a1)])) _
    refine XS.iconst X2.here hx rfl (hb hby d12_7) ?_
    show Steps p.tables e below (T2.setTop (mkF m 8 #[.val (.ref a1), .val (.int (0 : Int32)), .val (.int pn), .val (.ref b2), .unset, .unset] [(.int (0 : Int32)), (.ref b2), (.int (0 : Int32)), (.ref a1)])) _
    refine XS.iloadN X2.here hx rfl (hb hby d12_8) rfl ?_
    show Steps p.tables e below (T2.setTop (mkF m 9 #[.val (.ref a1), .val (.int (0 : Int32)), .val (.int pn), .val (.ref b2), .unset, .unset] [(.int pn), (.int (0 : Int32)), (.ref b2), (.int (0 : Int32)), (.ref a1)])) _
    exact k
  obtain ⟨_, _, ⟨T9, L9, k9, n9⟩, -, X9, ⟨Lc9, hQ9, l9, y9, z9⟩, st9⟩ := Jvm.LawKit.callS X2 hx (y := (⟨"java/lang/StringUTF16", "compress", "([CI[BII)I"⟩ : MethodName)) hown (mvT hZ (hw _ (List.mem_of_getElem? (i := 28) rfl))) (mvT hZ (hw _ (List.mem_of_getElem? (i := 29) rfl))) (mvT hZ (hw _ (List.mem_of_getElem? (i := 25) rfl))) (mvT hZ (hw _ (List.mem_of_getElem? (i := 30) rfl))) (by decide) (backOf (W := 0) (rm11 l Z a0 hw [] a1 b2 pn kc kc_b2 cf (fun _ => (.int (0 : Int32))) n h2 n0 Z5 F3 F4 g_b2 ne_a1_b2 hn (by omega) hcs) hZ (hw _ (List.mem_of_getElem? (i := 30) rfl)) (hw _ (List.mem_of_getElem? (i := 25) rfl)) (by decide) (by decide)) (g := (mkF m 9 #[.val (.ref a1), .val (.int (0 : Int32)), .val (.int pn), .val (.ref b2), .unset, .unset] [(.int pn), (.int (0 : Int32)), (.ref b2), (.int (0 : Int32)), (.ref a1)])) rfl (by rw [hml]; rfl) (argsL := [(.ref a1), (.int (0 : Int32)), (.ref b2), (.int (0 : Int32)), (.int pn)]) (rest := []) (lenOf pd_0 rfl) rfl (by show 2 * 0 + _ ≤ _; exact Nat.le_of_eq rfl) (hb hby d12_9) (fun _ _ => ⟨rfl, e2, (by decide : 1 + 0 ≤ _), (by decide : 4 + 0 ≤ _)⟩)
  dsimp only [Pt.U, Pt.locs, Pt.cells, Pt.slots] at X9 l9 y9 z9 st9 hQ9
  subst l9 y9 z9
  obtain ⟨rfl, N9q, K9, Y9_0, Y9_1⟩ := hQ9
  have F10 : own_Af Z T9.heap a1 kc .char pn (fun i => Value.int (cf i)) := F3.keep K9 (ninS ne_a1_b2 nin0)
  have F11 : Exa Z T9.heap b2 "[B" := B2.keep K9
  have Z12 : n0 ≤ T9.heap.size := Nat.le_trans Z5 K9.1
  have K13 : Keep h0 T9.heap [] := K6.trans K9 (allS (Or.inr sz_b2) all0)
  have N9 := Fr.app N0 N9q
  have P14 : ∀ t, Steps p.tables e below (T9.setTop (mkF m 12 #[.val (.ref a1), .val (.int (0 : Int32)), .val (.int pn), .val (.ref b2), .unset, .unset] [(.int pn)])) t → Steps p.tables e below (s₁.setTop (entryFrame m #[(.ref a1), (.int (0 : Int32)), (.int pn)] 6)) t := fun t k => P8 _ (st9 _ k)
  have P15 : ∀ t, Steps p.tables e below (T9.setTop (mkF m 58 #[.val (.ref a1), .val (.int (0 : Int32)), .val (.int pn), .val (.ref b2), .val (.int pn), .unset] [(.ref b2)])) t → Steps p.tables e below (s₁.setTop (entryFrame m #[(.ref a1), (.int (0 : Int32)), (.int pn)] 6)) t := by
    intro t k
    refine P14 _ ?_
    refine XS.istore X9.here hx rfl (hb hby d12_12) rfl (l' := #[.val (.ref a1), .val (.int (0 : Int32)), .val (.int pn), .val (.ref b2), .val (.int pn), .unset]) rfl ?_
    show Steps p.tables e below (T9.setTop (mkF m 14 #[.val (.ref a1), .val (.int (0 : Int32)), .val (.int pn), .val (.ref b2), .val (.int pn), .unset] [])) _
    refine XS.iload X9.here hx rfl (hb hby d12_14) rfl ?_
    show Steps p.tables e below (T9.setTop (mkF m 16 #[.val (.ref a1), .val (.int (0 : Int32)), .val (.int pn), .val (.ref b2), .val (.int pn), .unset] [(.int pn)])) _
    refine XS.iloadN X9.here hx rfl (hb hby d12_16) rfl ?_
    show Steps p.tables e below (T9.setTop (mkF m 17 #[.val (.ref a1), .val (.int (0 : Int32)), .val (.int pn), .val (.ref b2), .val (.int pn), .unset] [(.int pn), (.int pn)])) _
    refine XS.icmpYes X9.here hx rfl (pc0 := 17) (pc' := 57) rfl (hb hby d12_17) rfl (XT.ii_eq_t rfl) (by decide) (by decide) ?_
    show Steps p.tables e below (T9.setTop (mkF m 57 #[.val (.ref a1), .val (.int (0 : Int32)), .val (.int pn), .val (.ref b2), .val (.int pn), .unset] [])) _
    refine XS.aloadN X9.here hx rfl (hb hby d12_57) rfl rfl ?_
    show Steps p.tables e below (T9.setTop (mkF m 58 #[.val (.ref a1), .val (.int (0 : Int32)), .val (.int pn), .val (.ref b2), .val (.int pn), .unset] [(.ref b2)])) _
    exact k
  obtain ⟨fs, hr, hrun, hended, hW, hsame⟩ := X9.leave (v := some (.ref b2)) (fun h => by rw [Bd.returns] at h; cases h)
  refine ⟨_, _, P15 _ ?_, hrun, hended, _, _, rfl, ?_, ⟨_, rfl⟩, hW, hsame.mono (by decide) (by decide)⟩
  · jvm_step X9.here [X9.here.top, hx, (hb hby d12_58), X9.method', Bd.returns, Value.isRef, FieldType.isReference]
    first | (intro acts; rw [hr _ acts rfl rfl rfl]) | rw [hr _ _ rfl rfl rfl]
    exact Steps.refl _
  · show Q12 Z a1 pn kc cf n h0 n0 _ T9.heap _
    exact ⟨b2, kc_b2, rfl, N9, K13, sz_b2, Y9_1, F11⟩
theorem d13_0 : decode jdk_52_method_15_code 0 = .ok (.iload_n 1, 1) := by decide +kernel
theorem d13_1 : decode jdk_52_method_15_code 1 = .ok (.aload_n 0, 1) := by decide +kernel
theorem d13_2 : decode jdk_52_method_15_code 2 = .ok (.arraylength, 1) := by decide +kernel
theorem d13_3 : decode jdk_52_method_15_code 3 = .ok (.isub, 1) := by decide +kernel
theorem d13_4 : decode jdk_52_method_15_code 4 = .ok (.bipush 31, 2) := by decide +kernel
theorem d13_6 : decode jdk_52_method_15_code 6 = .ok (.iushr, 1) := by decide +kernel
theorem d13_7 : decode jdk_52_method_15_code 7 = .ok (.i2b, 1) := by decide +kernel
theorem d13_8 : decode jdk_52_method_15_code 8 = .ok (.ireturn, 1) := by decide +kernel
theorem pn_13 : plainName "java/lang/StringUTF16" = true := by first | (simp [plainName, overriddenIn]; done) | decide +kernel
theorem ef_13 (m : MethodId) (x0 : Addr) (x1 : Int32) : entryFrame m #[(.ref x0), (.int x1)] 2 = mkF m 0 #[.val (.ref x0), .val (.int x1)] [] := by first | (simp [entryFrame, mkF, argsToLocals, Value.category]; done) | rfl
def Q13 (Z : State) (a1 : Addr) (pn : Int32) (kb : ClassId) (f1 : Nat → Value) (h0 : Heap) (n0 : Nat) (v : Option Value) (h : Heap) (L : List Loc) : Prop := v = some (.int (0 : Int32)) ∧ Fr n0 L ∧ h = h0
set_option maxRecDepth 65536 in
set_option maxHeartbeats 40000000 in
theorem rm13 (l : Launch) (Z : State) (a0 : Array Value) (hw : ∀ d ∈ tables_1, d.before a0 Z = true) (ws : List Jvm.Cond) (a1 : Addr) (pn : Int32) (kb : ClassId) (f1 : Nat → Value) (h0 : Heap) (n0 : Nat) (Z0 : n0 ≤ h0.size) (A_b : own_Af Z h0 a1 kb .byte pn f1) :
    MetFree l (⟨"java/lang/StringUTF16", "coderFromArrayLen", "([BI)B"⟩ : MethodName) (head1 (Jvm.Cond.code (⟨"java/lang/StringUTF16", "coderFromArrayLen", "([BI)B"⟩ : MethodName) jdk_52_method_15_code 2 (some .byte) :: ws) ({ frames := 0, cells := 0, slots := 0, locals := 0 } : Room)) (fun a U => a = #[(.ref a1), (.int pn)] ∧ Z.Warmed39 U.vm ∧ U.heap = h0) (fun _ _ _ _ _ => True) (fun _ U o U' => ∃ v L, o = .returned v ∧ Q13 Z a1 pn kb f1 h0 n0 v U'.heap L ∧ FrameEnd U o U' L ({ frames := 0, cells := 0, slots := 0, locals := 0 } : Room).cells ({ frames := 0, cells := 0, slots := 0, locals := 0 } : Room).slots) := by
  refine MetFree.of_bodySF (plainFor_of_name pn_13) hisR ?_
  intro p e s m args below meth c s₁ Bd hml0 hP hK
  obtain ⟨rfl, hZ, hh⟩ := hP
  have hx := Bd.exec
  have hby := Bd.bytes
  have hml : c.maxLocals = 2 := hml0
  have hown : s.vm.findClass "java/lang/StringUTF16" = some m.cls := findClass_of_methodNamed Bd.named
  have hnm := (name_of_methodNamed Bd.named Bd.method).1
  have X0 : Stand p l e ({ frames := 0, cells := 0, slots := 0, locals := 0 } : Room) s m #[(.ref a1), (.int pn)] below meth c s₁ [] 0 0 := Stand.of_body Bd
  have e0 : s₁.heap = h0 := by rw [← hh, Bd.state]; rfl
  have N0 := Fr.nil n0
  have K0 : Keep h0 h0 [] := Keep.refl _ _
  have P0 : ∀ t, Steps p.tables e below (s₁.setTop (mkF m 0 #[.val (.ref a1), .val (.int pn)] [])) t → Steps p.tables e below (s₁.setTop (entryFrame m #[(.ref a1), (.int pn)] 2)) t := fun t k => castTop (ef_13 m a1 pn) k
  have P1 : ∀ t, Steps p.tables e below (s₁.setTop (mkF m 8 #[.val (.ref a1), .val (.int pn)] [(.int ((XT.ushr (pn - pn) (31 : Int32)).toInt8.toInt32))])) t → Steps p.tables e below (s₁.setTop (entryFrame m #[(.ref a1), (.int pn)] 2)) t := by
    intro t k
    refine P0 _ ?_
    refine XS.iloadN X0.here hx rfl (hb hby d13_0) rfl ?_
    show Steps p.tables e below (s₁.setTop (mkF m 1 #[.val (.ref a1), .val (.int pn)] [(.int pn)])) _
    refine XS.aloadN X0.here hx rfl (hb hby d13_1) rfl rfl ?_
    show Steps p.tables e below (s₁.setTop (mkF m 2 #[.val (.ref a1), .val (.int pn)] [(.ref a1), (.int pn)])) _
    refine own_flen X0 hx hZ e0 A_b rfl rfl (hb hby d13_2) ?_
    show Steps p.tables e below (s₁.setTop (mkF m 3 #[.val (.ref a1), .val (.int pn)] [(.int pn), (.int pn)])) _
    refine XS.isub X0.here hx rfl (hb hby d13_3) rfl ?_
    show Steps p.tables e below (s₁.setTop (mkF m 4 #[.val (.ref a1), .val (.int pn)] [(.int (pn - pn))])) _
    refine XS.bipush X0.here hx rfl (hb hby d13_4) ?_
    show Steps p.tables e below (s₁.setTop (mkF m 6 #[.val (.ref a1), .val (.int pn)] [(.int (31 : Int32)), (.int (pn - pn))])) _
    refine XT.iushr X0.here hx rfl (hb hby d13_6) rfl ?_
    show Steps p.tables e below (s₁.setTop (mkF m 7 #[.val (.ref a1), .val (.int pn)] [(.int (XT.ushr (pn - pn) (31 : Int32)))])) _
    refine XT.i2b X0.here hx rfl (hb hby d13_7) rfl ?_
    show Steps p.tables e below (s₁.setTop (mkF m 8 #[.val (.ref a1), .val (.int pn)] [(.int ((XT.ushr (pn - pn) (31 : Int32)).toInt8.toInt32))])) _
    exact k
  obtain ⟨fs, hr, hrun, hended, hW, hsame⟩ := X0.leave (v := some (.int (nar .byte ((XT.ushr (pn - pn) (31 : Int32)).toInt8.toInt32)))) (fun h => by rw [Bd.returns] at h; cases h)
  refine ⟨_, _, P1 _ ?_, hrun, hended, _, _, rfl, ?_, ⟨_, rfl⟩, hW, hsame.mono (by decide) (by decide)⟩
  · exact retN X0 hx (t := .byte) Bd.returns (by simp) (hb hby d13_8) hr
  · show Q13 Z a1 pn kb f1 h0 n0 _ s₁.heap _
    rw [e0]
    exact ⟨(own_coder pn), N0, rfl⟩
theorem d14_0 : decode jdk_42_method_149_code 0 = .ok (.aload_n 0, 1) := by decide +kernel
theorem d14_1 : decode jdk_42_method_149_code 1 = .ok (.invokespecial 1, 3) := by decide +kernel
theorem d14_4 : decode jdk_42_method_149_code 4 = .ok (.iload_n 3, 1) := by decide +kernel
theorem d14_5 : decode jdk_42_method_149_code 5 = .ok (.ifCond .ne 22, 3) := by decide +kernel
theorem d14_27 : decode jdk_42_method_149_code 27 = .ok (.getstatic 38, 3) := by decide +kernel
theorem d14_30 : decode jdk_42_method_149_code 30 = .ok (.ifCond .eq 28, 3) := by decide +kernel
theorem d14_33 : decode jdk_42_method_149_code 33 = .ok (.aload_n 1, 1) := by decide +kernel
theorem d14_34 : decode jdk_42_method_149_code 34 = .ok (.iload_n 2, 1) := by decide +kernel
theorem d14_35 : decode jdk_42_method_149_code 35 = .ok (.iload_n 3, 1) := by decide +kernel
theorem d14_36 : decode jdk_42_method_149_code 36 = .ok (.invokestatic 177, 3) := by decide +kernel
theorem d14_39 : decode jdk_42_method_149_code 39 = .ok (.astore 5, 2) := by decide +kernel
theorem d14_41 : decode jdk_42_method_149_code 41 = .ok (.aload_n 0, 1) := by decide +kernel
theorem d14_42 : decode jdk_42_method_149_code 42 = .ok (.aload 5, 2) := by decide +kernel
theorem d14_44 : decode jdk_42_method_149_code 44 = .ok (.iload_n 3, 1) := by decide +kernel
theorem d14_45 : decode jdk_42_method_149_code 45 = .ok (.invokestatic 47, 3) := by decide +kernel
theorem d14_48 : decode jdk_42_method_149_code 48 = .ok (.putfield 15, 3) := by decide +kernel
theorem d14_51 : decode jdk_42_method_149_code 51 = .ok (.aload_n 0, 1) := by decide +kernel
theorem d14_52 : decode jdk_42_method_149_code 52 = .ok (.aload 5, 2) := by decide +kernel
theorem d14_54 : decode jdk_42_method_149_code 54 = .ok (.putfield 9, 3) := by decide +kernel
theorem d14_57 : decode jdk_42_method_149_code 57 = .ok (.return_, 1) := by decide +kernel
theorem pn_14 : plainName "java/lang/String" = true := by first | (simp [plainName, overriddenIn]; done) | decide +kernel
theorem ef_14 (m : MethodId) (x0 : Addr) (x1 : Addr) (x2 : Int32) (x3 : Int32) : entryFrame m #[(.ref x0), (.ref x1), (.int x2), (.int x3), .null] 6 = mkF m 0 #[.val (.ref x0), .val (.ref x1), .val (.int x2), .val (.int x3), .val .null, .unset] [] := by first | (simp [entryFrame, mkF, argsToLocals, Value.category]; done) | rfl
def Q14 (Z : State) (a1 : Addr) (a2 : Addr) (pn : Int32) (kc : ClassId) (u1 : Value) (u2 : Value) (ccs : Int32) (cf : Nat → Int32) (n : Nat) (h0 : Heap) (n0 : Nat) (v : Option Value) (h : Heap) (L : List Loc) : Prop := ∃ (b : Addr) (kb : ClassId), v = none ∧ Fr n0 L ∧ Keep h0 h [a1] ∧ h0.size ≤ b ∧ Exa Z h a1 "java/lang/String" ∧ Fld Z h a1 "java/lang/String" "value" "[B" (.ref b) ∧ Fld Z h a1 "java/lang/String" "coder" "B" (.int (0 : Int32)) ∧ own_Af Z h b kb .byte pn (fun i => Value.int (cf i)) ∧ Exa Z h b "[B"
set_option maxRecDepth 65536 in
set_option maxHeartbeats 40000000 in
theorem rm14 (l : Launch) (Z : State) (a0 : Array Value) (hw : ∀ d ∈ tables_1, d.before a0 Z = true) (ws : List Jvm.Cond) (a1 : Addr) (a2 : Addr) (pn : Int32) (kc : ClassId) (u1 : Value) (u2 : Value) (ccs : Int32) (cf : Nat → Int32) (n : Nat) (h0 : Heap) (n0 : Nat) (Z0 : n0 ≤ h0.size) (E_a : Exa Z h0 a1 "java/lang/String") (F_v : Fld Z h0 a1 "java/lang/String" "value" "[B" u1) (F_k : Fld Z h0 a1 "java/lang/String" "coder" "B" u2) (g_a : n0 ≤ a1) (A_c : own_Af Z h0 a2 kc .char pn (fun i => Value.int (cf i))) (S_cs : Sta Z h0 "java/lang/String" "COMPACT_STRINGS" "Z" (.int ccs)) (hcc : ¬ ccs = (0 : Int32)) (hn : pn.toInt = n) (hn4 : n ≤ 4) (hn1 : 1 ≤ n) (hcs : own_cs pn cf) :
    MetFree l (⟨"java/lang/String", "<init>", "([CIILjava/lang/Void;)V"⟩ : MethodName) (head1 (Jvm.Cond.code (⟨"java/lang/String", "<init>", "([CIILjava/lang/Void;)V"⟩ : MethodName) jdk_42_method_149_code 6 none :: ws) ({ frames := 2, cells := 1, slots := 4, locals := 35 } : Room)) (fun a U => a = #[(.ref a1), (.ref a2), (.int (0 : Int32)), (.int pn), .null] ∧ Z.Warmed39 U.vm ∧ U.heap = h0) (fun _ _ _ _ _ => True) (fun _ U o U' => ∃ v L, o = .returned v ∧ Q14 Z a1 a2 pn kc u1 u2 ccs cf n h0 n0 v U'.heap L ∧ FrameEnd U o U' L ({ frames := 2, cells := 1, slots := 4, locals := 35 } : Room).cells ({ frames := 2, cells := 1, slots := 4, locals := 35 } : Room).slots) := by
  refine MetFree.of_bodySF (plainFor_of_name pn_14) hisR ?_
  intro p e s m args below meth c s₁ Bd hml0 hP hK
  obtain ⟨rfl, hZ, hh⟩ := hP
  have hx := Bd.exec
  have hby := Bd.bytes
  have hml : c.maxLocals = 6 := hml0
  have hown : s.vm.findClass "java/lang/String" = some m.cls := findClass_of_methodNamed Bd.named
  have hnm := (name_of_methodNamed Bd.named Bd.method).1
  have X0 : Stand p l e ({ frames := 2, cells := 1, slots := 4, locals := 35 } : Room) s m #[(.ref a1), (.ref a2), (.int (0 : Int32)), (.int pn), .null] below meth c s₁ [] 0 0 := Stand.of_body Bd
  have e0 : s₁.heap = h0 := by rw [← hh, Bd.state]; rfl
  have N0 := Fr.nil n0
  have K0 : Keep h0 h0 [a1] := Keep.refl _ _
  have P0 : ∀ t, Steps p.tables e below (s₁.setTop (mkF m 0 #[.val (.ref a1), .val (.ref a2), .val (.int (0 : Int32)), .val (.int pn), .val .null, .unset] [])) t → Steps p.tables e below (s₁.setTop (entryFrame m #[(.ref a1), (.ref a2), (.int (0 : Int32)), (.int pn), .null] 6)) t := fun t k => castTop (ef_14 m a1 a2 (0 : Int32) pn) k
  have P1 : ∀ t, Steps p.tables e below (s₁.setTop (mkF m 1 #[.val (.ref a1), .val (.ref a2), .val (.int (0 : Int32)), .val (.int pn), .val .null, .unset] [(.ref a1)])) t → Steps p.tables e below (s₁.setTop (entryFrame m #[(.ref a1), (.ref a2), (.int (0 : Int32)), (.int pn), .null] 6)) t := by
    intro t k
    refine P0 _ ?_
    refine XS.aloadN X0.here hx rfl (hb hby d14_0) rfl rfl ?_
    show Steps p.tables e below (s₁.setTop (mkF m 1 #[.val (.ref a1), .val (.ref a2), .val (.int (0 : Int32)), .val (.int pn), .val .null, .unset] [(.ref a1)])) _
    exact k
  obtain ⟨T2, X2, e2, st2⟩ := initO X0 hx hZ hown (hw _ (List.mem_of_getElem? (i := 19) rfl)) (hw _ (List.mem_of_getElem? (i := 20) rfl)) (hw _ (List.mem_of_getElem? (i := 21) rfl)) e0 (g := (mkF m 1 #[.val (.ref a1), .val (.ref a2), .val (.int (0 : Int32)), .val (.int pn), .val .null, .unset] [(.ref a1)])) rfl (by rw [hml]; rfl) rfl (hb hby d14_1) (by decide) (W := 0) (by show 2 * 0 + _ ≤ _; exact Nat.le_of_eq rfl) (by decide)
  have P3 : ∀ t, Steps p.tables e below (T2.setTop (mkF m 4 #[.val (.ref a1), .val (.ref a2), .val (.int (0 : Int32)), .val (.int pn), .val .null, .unset] [])) t → Steps p.tables e below (s₁.setTop (entryFrame m #[(.ref a1), (.ref a2), (.int (0 : Int32)), (.int pn), .null] 6)) t := fun t k => P1 _ (st2 _ k)
  have P4 : ∀ t, Steps p.tables e below (T2.setTop (mkF m 27 #[.val (.ref a1), .val (.ref a2), .val (.int (0 : Int32)), .val (.int pn), .val .null, .unset] [])) t → Steps p.tables e below (s₁.setTop (entryFrame m #[(.ref a1), (.ref a2), (.int (0 : Int32)), (.int pn), .null] 6)) t := by
    intro t k
    refine P3 _ ?_
    refine XS.iloadN X2.here hx rfl (hb hby d14_4) rfl ?_
    show Steps p.tables e below (T2.setTop (mkF m 5 #[.val (.ref a1), .val (.ref a2), .val (.int (0 : Int32)), .val (.int pn), .val .null, .unset] [(.int pn)])) _
    refine XS.ifYes X2.here hx rfl (pc0 := 5) (pc' := 27) rfl (hb hby d14_5) rfl (XT.i0_ne_t (own_np hn hn1)) (by decide) (by decide) ?_
    show Steps p.tables e below (T2.setTop (mkF m 27 #[.val (.ref a1), .val (.ref a2), .val (.int (0 : Int32)), .val (.int pn), .val .null, .unset] [])) _
    exact k
  obtain ⟨T5, X5, e5, st5⟩ := getS2 X2 hx hZ hown (host := "") (Or.inl (hw _ (List.mem_of_getElem? (i := 22) rfl))) Via.refl e2 S_cs (g := (mkF m 27 #[.val (.ref a1), .val (.ref a2), .val (.int (0 : Int32)), .val (.int pn), .val .null, .unset] [])) rfl (hb hby d14_27)
  have P6 : ∀ t, Steps p.tables e below (T5.setTop (mkF m 30 #[.val (.ref a1), .val (.ref a2), .val (.int (0 : Int32)), .val (.int pn), .val .null, .unset] [(.int ccs)])) t → Steps p.tables e below (s₁.setTop (entryFrame m #[(.ref a1), (.ref a2), (.int (0 : Int32)), (.int pn), .null] 6)) t := fun t k => P4 _ (st5 _ k)
  have P7 : ∀ t, Steps p.tables e below (T5.setTop (mkF m 36 #[.val (.ref a1), .val (.ref a2), .val (.int (0 : Int32)), .val (.int pn), .val .null, .unset] [(.int pn), (.int (0 : Int32)), (.ref a2)])) t → Steps p.tables e below (s₁.setTop (entryFrame m #[(.ref a1), (.ref a2), (.int (0 : Int32)), (.int pn), .null] 6)) t := by
    intro t k
    refine P6 _ ?_
    refine XS.ifNo X5.here hx rfl (hb hby d14_30) rfl (XT.i0_eq_f hcc) ?_
    show Steps p.tables e below (T5.setTop (mkF m 33 #[.val (.ref a1), .val (.ref a2), .val (.int (0 : Int32)), .val (.int pn), .val .null, .unset] [])) _
    refine XS.aloadN X5.here hx rfl (hb hby d14_33) rfl rfl ?_
    show Steps p.tables e below (T5.setTop (mkF m 34 #[.val (.ref a1), .val (.ref a2), .val (.int (0 : Int32)), .val (.int pn), .val .null, .unset] [(.ref a2)])) _
    refine XS.iloadN X5.here hx rfl (hb hby d14_34) rfl ?_
    show Steps p.tables e below (T5.setTop (mkF m 35 #[.val (.ref a1), .val (.ref a2), .val (.int (0 : Int32)), .val (.int pn), .val .null, .unset] [(.int (0 : Int32)), (.ref a2)])) _
    refine XS.iloadN X5.here hx rfl (hb hby d14_35) rfl ?_
    show Steps p.tables e below (T5.setTop (mkF m 36 #[.val (.ref a1), .val (.ref a2), .val (.int (0 : Int32)), .val (.int pn), .val .null, .unset] [(.int pn), (.int (0 : Int32)), (.ref a2)])) _
    exact k
  obtain ⟨_, _, ⟨T8, L8, k8, n8⟩, -, X8, ⟨Lc8, hQ8, l8, y8, z8⟩, st8⟩ := Jvm.LawKit.callS X5 hx (y := (⟨"java/lang/StringUTF16", "compress", "([CII)[B"⟩ : MethodName)) hown (mvT hZ (hw _ (List.mem_of_getElem? (i := 23) rfl))) (mvT hZ (hw _ (List.mem_of_getElem? (i := 24) rfl))) (mvT hZ (hw _ (List.mem_of_getElem? (i := 25) rfl))) (mvT hZ (hw _ (List.mem_of_getElem? (i := 26) rfl))) (by decide) (backOf (W := 0) (rm12 l Z a0 hw [] a2 pn kc cf n h0 n0 Z0 A_c hn hn4 hcs) hZ (hw _ (List.mem_of_getElem? (i := 26) rfl)) (hw _ (List.mem_of_getElem? (i := 25) rfl)) (by decide) (by decide)) (g := (mkF m 36 #[.val (.ref a1), .val (.ref a2), .val (.int (0 : Int32)), .val (.int pn), .val .null, .unset] [(.int pn), (.int (0 : Int32)), (.ref a2)])) rfl (by rw [hml]; rfl) (argsL := [(.ref a2), (.int (0 : Int32)), (.int pn)]) (rest := []) (lenOf pd_1 rfl) rfl (by show 2 * 0 + _ ≤ _; exact Nat.le_of_eq rfl) (hb hby d14_36) (fun _ _ => ⟨rfl, e5, (by decide : 0 + 1 ≤ _), (by decide : 0 + 4 ≤ _)⟩)
  dsimp only [Pt.U, Pt.locs, Pt.cells, Pt.slots] at X8 l8 y8 z8 st8 hQ8
  subst l8 y8 z8
  obtain ⟨b_8, kb_8, rfl, N8q, K8, s8_b, Y8_0, Y8_1⟩ := hQ8
  have F9 : Exa Z T8.heap a1 "java/lang/String" := E_a.keep K8
  have F10 : Fld Z T8.heap a1 "java/lang/String" "value" "[B" u1 := F_v.keep K8 nin0
  have F11 : Fld Z T8.heap a1 "java/lang/String" "coder" "B" u2 := F_k.keep K8 nin0
  have F12 : own_Af Z T8.heap a2 kc .char pn (fun i => Value.int (cf i)) := A_c.keep K8 nin0
  have Z13 : n0 ≤ T8.heap.size := Nat.le_trans Z0 K8.1
  have K14 : Keep h0 T8.heap [a1] := K0.trans K8 all0
  have g_b_8 : n0 ≤ b_8 := Nat.le_trans Z0 s8_b
  have sz_b_8 : h0.size ≤ b_8 := Nat.le_trans K0.1 s8_b
  have ne_a1_b_8 : a1 ≠ b_8 := Nat.ne_of_lt (Nat.lt_of_lt_of_le E_a.lt s8_b)
  have ne_a2_b_8 : a2 ≠ b_8 := Nat.ne_of_lt (Nat.lt_of_lt_of_le A_c.lt s8_b)
  have N8 := Fr.app N0 N8q
  have P15 : ∀ t, Steps p.tables e below (T8.setTop (mkF m 39 #[.val (.ref a1), .val (.ref a2), .val (.int (0 : Int32)), .val (.int pn), .val .null, .unset] [(.ref b_8)])) t → Steps p.tables e below (s₁.setTop (entryFrame m #[(.ref a1), (.ref a2), (.int (0 : Int32)), (.int pn), .null] 6)) t := fun t k => P7 _ (st8 _ k)
  have P16 : ∀ t, Steps p.tables e below (T8.setTop (mkF m 45 #[.val (.ref a1), .val (.ref a2), .val (.int (0 : Int32)), .val (.int pn), .val .null, .val (.ref b_8)] [(.int pn), (.ref b_8), (.ref a1)])) t → Steps p.tables e below (s₁.setTop (entryFrame m #[(.ref a1), (.ref a2), (.int (0 : Int32)), (.int pn), .null] 6)) t := by
    intro t k
    refine P15 _ ?_
    refine XS.astore X8.here hx rfl (hb hby d14_39) rfl rfl (l' := #[.val (.ref a1), .val (.ref a2), .val (.int (0 : Int32)), .val (.int pn), .val .null, .val (.ref b_8)]) rfl ?_
    show Steps p.tables e below (T8.setTop (mkF m 41 #[.val (.ref a1), .val (.ref a2), .val (.int (0 : Int32)), .val (.int pn), .val .null, .val (.ref b_8)] [])) _
    refine XS.aloadN X8.here hx rfl (hb hby d14_41) rfl rfl ?_
    show Steps p.tables e below (T8.setTop (mkF m 42 #[.val (.ref a1), .val (.ref a2), .val (.int (0 : Int32)), .val (.int pn), .val .null, .val (.ref b_8)] [(.ref a1)])) _
    refine XS.aload X8.here hx rfl (hb hby d14_42) rfl rfl ?_
    show Steps p.tables e below (T8.setTop (mkF m 44 #[.val (.ref a1), .val (.ref a2), .val (.int (0 : Int32)), .val (.int pn), .val .null, .val (.ref b_8)] [(.ref b_8), (.ref a1)])) _
    refine XS.iloadN X8.here hx rfl (hb hby d14_44) rfl ?_
    show Steps p.tables e below (T8.setTop (mkF m 45 #[.val (.ref a1), .val (.ref a2), .val (.int (0 : Int32)), .val (.int pn), .val .null, .val (.ref b_8)] [(.int pn), (.ref b_8), (.ref a1)])) _
    exact k
  obtain ⟨_, _, ⟨T17, L17, k17, n17⟩, -, X17, ⟨Lc17, hQ17, l17, y17, z17⟩, st17⟩ := Jvm.LawKit.callS X8 hx (y := (⟨"java/lang/StringUTF16", "coderFromArrayLen", "([BI)B"⟩ : MethodName)) hown (mvT hZ (hw _ (List.mem_of_getElem? (i := 31) rfl))) (mvT hZ (hw _ (List.mem_of_getElem? (i := 32) rfl))) (mvT hZ (hw _ (List.mem_of_getElem? (i := 25) rfl))) (mvT hZ (hw _ (List.mem_of_getElem? (i := 33) rfl))) (by decide) (backOf (W := 1) (rm13 l Z a0 hw [] b_8 pn kb_8 (fun i => Value.int (cf i)) T8.heap n0 Z13 Y8_0) hZ (hw _ (List.mem_of_getElem? (i := 33) rfl)) (hw _ (List.mem_of_getElem? (i := 25) rfl)) (by decide) (by decide)) (g := (mkF m 45 #[.val (.ref a1), .val (.ref a2), .val (.int (0 : Int32)), .val (.int pn), .val .null, .val (.ref b_8)] [(.int pn), (.ref b_8), (.ref a1)])) rfl (by rw [hml]; rfl) (argsL := [(.ref b_8), (.int pn)]) (rest := [(.ref a1)]) (lenOf pd_2 rfl) rfl (by show 2 * 0 + _ ≤ _; exact Nat.le_of_eq rfl) (hb hby d14_45) (fun _ _ => ⟨rfl, rfl, (by decide : 1 + 0 ≤ _), (by decide : 4 + 0 ≤ _)⟩)
  dsimp only [Pt.U, Pt.locs, Pt.cells, Pt.slots] at X17 l17 y17 z17 st17 hQ17
  subst l17 y17 z17
  obtain ⟨rfl, N17q, e17⟩ := hQ17
  have N17 := Fr.app N8 N17q
  have P18 : ∀ t, Steps p.tables e below (T17.setTop (mkF m 48 #[.val (.ref a1), .val (.ref a2), .val (.int (0 : Int32)), .val (.int pn), .val .null, .val (.ref b_8)] [(.int (0 : Int32)), (.ref a1)])) t → Steps p.tables e below (s₁.setTop (entryFrame m #[(.ref a1), (.ref a2), (.int (0 : Int32)), (.int pn), .null] 6)) t := fun t k => P16 _ (st17 _ k)
  obtain ⟨T19, h19, X19, e19, W19, st19⟩ := putFN X17 hx hZ hown (hw _ (List.mem_of_getElem? (i := 34) rfl)) Via.refl e17 F11 F9 (Or.inr ⟨(hw _ (List.mem_of_getElem? (i := 35) rfl)), rfl, hnm⟩) (hw _ (List.mem_of_getElem? (i := 10) rfl)) (ty := .byte) (v' := (.int (0 : Int32))) (by decide) rfl rfl (g := (mkF m 48 #[.val (.ref a1), .val (.ref a2), .val (.int (0 : Int32)), .val (.int pn), .val .null, .val (.ref b_8)] [(.int (0 : Int32)), (.ref a1)])) rfl rfl (hb hby d14_48)
  have F20 : Exa Z h19 a1 "java/lang/String" := F9.wr W19
  have F21 : Fld Z h19 a1 "java/lang/String" "value" "[B" u1 := F10.other W19 (Or.inr (slot_ne (Or.inr (hw _ (List.mem_of_getElem? (i := 37) rfl))) (Or.inr (hw _ (List.mem_of_getElem? (i := 35) rfl))) (by decide) (t := (.array .byte)) (t' := .byte) (by decide) (by decide)))
  have F22 : own_Af Z h19 b_8 kb_8 .byte pn (fun i => Value.int (cf i)) := Y8_0.other W19 (Ne.symm ne_a1_b_8)
  have F23 : Exa Z h19 b_8 "[B" := Y8_1.wr W19
  have F24 : Fld Z h19 a1 "java/lang/String" "coder" "B" (.int (0 : Int32)) := F11.same W19
  have Z25 : n0 ≤ h19.size := Nat.le_trans Z13 (Keep.of_wr W19).1
  have K26 : Keep h0 h19 [a1] := K14.wr W19 (Or.inl (List.mem_of_getElem? (i := 0) rfl))
  have N19 := Fr.snoc X19 N17 g_a
  have P27 : ∀ t, Steps p.tables e below (T19.setTop (mkF m 51 #[.val (.ref a1), .val (.ref a2), .val (.int (0 : Int32)), .val (.int pn), .val .null, .val (.ref b_8)] [])) t → Steps p.tables e below (s₁.setTop (entryFrame m #[(.ref a1), (.ref a2), (.int (0 : Int32)), (.int pn), .null] 6)) t := fun t k => P18 _ (st19 _ k)
  have P28 : ∀ t, Steps p.tables e below (T19.setTop (mkF m 54 #[.val (.ref a1), .val (.ref a2), .val (.int (0 : Int32)), .val (.int pn), .val .null, .val (.ref b_8)] [(.ref b_8), (.ref a1)])) t → Steps p.tables e below (s₁.setTop (entryFrame m #[(.ref a1), (.ref a2), (.int (0 : Int32)), (.int pn), .null] 6)) t := by
    intro t k
    refine P27 _ ?_
    refine XS.aloadN X19.here hx rfl (hb hby d14_51) rfl rfl ?_
    show Steps p.tables e below (T19.setTop (mkF m 52 #[.val (.ref a1), .val (.ref a2), .val (.int (0 : Int32)), .val (.int pn), .val .null, .val (.ref b_8)] [(.ref a1)])) _
    refine XS.aload X19.here hx rfl (hb hby d14_52) rfl rfl ?_
    show Steps p.tables e below (T19.setTop (mkF m 54 #[.val (.ref a1), .val (.ref a2), .val (.int (0 : Int32)), .val (.int pn), .val .null, .val (.ref b_8)] [(.ref b_8), (.ref a1)])) _
    exact k
  obtain ⟨T29, h29, X29, e29, W29, st29⟩ := putF X19 hx hZ hown (host := "") (Or.inl (hw _ (List.mem_of_getElem? (i := 36) rfl))) Via.refl e19 F21 F20 (Or.inr ⟨(hw _ (List.mem_of_getElem? (i := 37) rfl)), rfl, hnm⟩) (hw _ (List.mem_of_getElem? (i := 10) rfl)) (ty := (.array .byte)) (by decide) rfl rfl (g := (mkF m 54 #[.val (.ref a1), .val (.ref a2), .val (.int (0 : Int32)), .val (.int pn), .val .null, .val (.ref b_8)] [(.ref b_8), (.ref a1)])) rfl rfl (hb hby d14_54)
  have F30 : Exa Z h29 a1 "java/lang/String" := F20.wr W29
  have F31 : own_Af Z h29 b_8 kb_8 .byte pn (fun i => Value.int (cf i)) := F22.other W29 (Ne.symm ne_a1_b_8)
  have F32 : Exa Z h29 b_8 "[B" := F23.wr W29
  have F33 : Fld Z h29 a1 "java/lang/String" "coder" "B" (.int (0 : Int32)) := F24.other W29 (Or.inr (slot_ne (Or.inr (hw _ (List.mem_of_getElem? (i := 35) rfl))) (Or.inr (hw _ (List.mem_of_getElem? (i := 37) rfl))) (by decide) (t := .byte) (t' := (.array .byte)) (by decide) (by decide)))
  have F34 : Fld Z h29 a1 "java/lang/String" "value" "[B" (.ref b_8) := F21.same W29
  have Z35 : n0 ≤ h29.size := Nat.le_trans Z25 (Keep.of_wr W29).1
  have K36 : Keep h0 h29 [a1] := K26.wr W29 (Or.inl (List.mem_of_getElem? (i := 0) rfl))
  have N29 := Fr.snoc X29 N19 g_a
  have P37 : ∀ t, Steps p.tables e below (T29.setTop (mkF m 57 #[.val (.ref a1), .val (.ref a2), .val (.int (0 : Int32)), .val (.int pn), .val .null, .val (.ref b_8)] [])) t → Steps p.tables e below (s₁.setTop (entryFrame m #[(.ref a1), (.ref a2), (.int (0 : Int32)), (.int pn), .null] 6)) t := fun t k => P28 _ (st29 _ k)
  obtain ⟨fs, hr, hrun, hended, hW, hsame⟩ := X29.leave (v := none) (fun _ => rfl)
  refine ⟨_, _, P37 _ ?_, hrun, hended, _, _, rfl, ?_, ⟨_, rfl⟩, hW, hsame.mono (by decide) (by decide)⟩
  · exact X29.returnOut hx Bd.returns (hb hby d14_57) hr
  · show Q14 Z a1 a2 pn kc u1 u2 ccs cf n h0 n0 _ T29.heap _
    rw [e29]
    exact ⟨b_8, kb_8, rfl, N29, K36, sz_b_8, F30, F34, F33, F31, F32⟩
theorem d15_0 : decode jdk_42_method_3_code 0 = .ok (.aload_n 0, 1) := by decide +kernel
theorem d15_1 : decode jdk_42_method_3_code 1 = .ok (.aload_n 1, 1) := by decide +kernel
theorem d15_2 : decode jdk_42_method_3_code 2 = .ok (.iconst 0, 1) := by decide +kernel
theorem d15_3 : decode jdk_42_method_3_code 3 = .ok (.aload_n 1, 1) := by decide +kernel
theorem d15_4 : decode jdk_42_method_3_code 4 = .ok (.arraylength, 1) := by decide +kernel
theorem d15_5 : decode jdk_42_method_3_code 5 = .ok (.aconst_null, 1) := by decide +kernel
theorem d15_6 : decode jdk_42_method_3_code 6 = .ok (.invokespecial 27, 3) := by decide +kernel
theorem d15_9 : decode jdk_42_method_3_code 9 = .ok (.return_, 1) := by decide +kernel
theorem pn_15 : plainName "java/lang/String" = true := by first | (simp [plainName, overriddenIn]; done) | decide +kernel
theorem ef_15 (m : MethodId) (x0 : Addr) (x1 : Addr) : entryFrame m #[(.ref x0), (.ref x1)] 2 = mkF m 0 #[.val (.ref x0), .val (.ref x1)] [] := by first | (simp [entryFrame, mkF, argsToLocals, Value.category]; done) | rfl
def Q15 (Z : State) (a1 : Addr) (a2 : Addr) (pn : Int32) (kc : ClassId) (u1 : Value) (u2 : Value) (ccs : Int32) (cf : Nat → Int32) (n : Nat) (h0 : Heap) (n0 : Nat) (v : Option Value) (h : Heap) (L : List Loc) : Prop := ∃ (b : Addr) (kb : ClassId), v = none ∧ Fr n0 L ∧ Keep h0 h [a1] ∧ h0.size ≤ b ∧ Exa Z h a1 "java/lang/String" ∧ Fld Z h a1 "java/lang/String" "value" "[B" (.ref b) ∧ Fld Z h a1 "java/lang/String" "coder" "B" (.int (0 : Int32)) ∧ own_Af Z h b kb .byte pn (fun i => Value.int (cf i)) ∧ Exa Z h b "[B"
set_option maxRecDepth 65536 in
set_option maxHeartbeats 40000000 in
theorem rm15 (l : Launch) (Z : State) (a0 : Array Value) (hw : ∀ d ∈ tables_1, d.before a0 Z = true) (ws : List Jvm.Cond) (a1 : Addr) (a2 : Addr) (pn : Int32) (kc : ClassId) (u1 : Value) (u2 : Value) (ccs : Int32) (cf : Nat → Int32) (n : Nat) (h0 : Heap) (n0 : Nat) (Z0 : n0 ≤ h0.size) (E_a : Exa Z h0 a1 "java/lang/String") (F_v : Fld Z h0 a1 "java/lang/String" "value" "[B" u1) (F_k : Fld Z h0 a1 "java/lang/String" "coder" "B" u2) (g_a : n0 ≤ a1) (A_c : own_Af Z h0 a2 kc .char pn (fun i => Value.int (cf i))) (S_cs : Sta Z h0 "java/lang/String" "COMPACT_STRINGS" "Z" (.int ccs)) (hcc : ¬ ccs = (0 : Int32)) (hn : pn.toInt = n) (hn4 : n ≤ 4) (hn1 : 1 ≤ n) (hcs : own_cs pn cf) :
    MetFree l (⟨"java/lang/String", "<init>", "([C)V"⟩ : MethodName) (head1 (Jvm.Cond.code (⟨"java/lang/String", "<init>", "([C)V"⟩ : MethodName) jdk_42_method_3_code 2 none :: ws) ({ frames := 3, cells := 1, slots := 4, locals := 52 } : Room)) (fun a U => a = #[(.ref a1), (.ref a2)] ∧ Z.Warmed39 U.vm ∧ U.heap = h0) (fun _ _ _ _ _ => True) (fun _ U o U' => ∃ v L, o = .returned v ∧ Q15 Z a1 a2 pn kc u1 u2 ccs cf n h0 n0 v U'.heap L ∧ FrameEnd U o U' L ({ frames := 3, cells := 1, slots := 4, locals := 52 } : Room).cells ({ frames := 3, cells := 1, slots := 4, locals := 52 } : Room).slots) := by
  refine MetFree.of_bodySF (plainFor_of_name pn_15) hisR ?_
  intro p e s m args below meth c s₁ Bd hml0 hP hK
  obtain ⟨rfl, hZ, hh⟩ := hP
  have hx := Bd.exec
  have hby := Bd.bytes
  have hml : c.maxLocals = 2 := hml0
  have hown : s.vm.findClass "java/lang/String" = some m.cls := findClass_of_methodNamed Bd.named
  have hnm := (name_of_methodNamed Bd.named Bd.method).1
  have X0 : Stand p l e ({ frames := 3, cells := 1, slots := 4, locals := 52 } : Room) s m #[(.ref a1), (.ref a2)] below meth c s₁ [] 0 0 := Stand.of_body Bd
  have e0 : s₁.heap = h0 := by rw [← hh, Bd.state]; rfl
  have N0 := Fr.nil n0
  have K0 : Keep h0 h0 [a1] := Keep.refl _ _
  have P0 : ∀ t, Steps p.tables e below (s₁.setTop (mkF m 0 #[.val (.ref a1), .val (.ref a2)] [])) t → Steps p.tables e below (s₁.setTop (entryFrame m #[(.ref a1), (.ref a2)] 2)) t := fun t k => castTop (ef_15 m a1 a2) k
  have P1 : ∀ t, Steps p.tables e below (s₁.setTop (mkF m 6 #[.val (.ref a1), .val (.ref a2)] [.null, (.int pn), (.int (0 : Int32)), (.ref a2), (.ref a1)])) t → Steps p.tables e below (s₁.setTop (entryFrame m #[(.ref a1), (.ref a2)] 2)) t := by
    intro t k
    refine P0 _ ?_
    refine XS.aloadN X0.here hx rfl (hb hby d15_0) rfl rfl ?_
    show Steps p.tables e below (s₁.setTop (mkF m 1 #[.val (.ref a1), .val (.ref a2)] [(.ref a1)])) _
    refine XS.aloadN X0.here hx rfl (hb hby d15_1) rfl rfl ?_
    show Steps p.tables e below (s₁.setTop (mkF m 2 #[.val (.ref a1), .val (.ref a2)] [(.ref a2), (.ref a1)])) _
    refine XS.iconst X0.here hx rfl (hb hby d15_2) ?_
    show Steps p.tables e below (s₁.setTop (mkF m 3 #[.val (.ref a1), .val (.ref a2)] [(.int (0 : Int32)), (.ref a2), (.ref a1)])) _
    refine XS.aloadN X0.here hx rfl (hb hby d15_3) rfl rfl ?_
    show Steps p.tables e below (s₁.setTop (mkF m 4 #[.val (.ref a1), .val (.ref a2)] [(.ref a2), (.int (0 : Int32)), (.ref a2), (.ref a1)])) _
    refine own_flen X0 hx hZ e0 A_c rfl rfl (hb hby d15_4) ?_
    show Steps p.tables e below (s₁.setTop (mkF m 5 #[.val (.ref a1), .val (.ref a2)] [(.int pn), (.int (0 : Int32)), (.ref a2), (.ref a1)])) _
    refine XS.aconstNull X0.here hx rfl (hb hby d15_5) ?_
    show Steps p.tables e below (s₁.setTop (mkF m 6 #[.val (.ref a1), .val (.ref a2)] [.null, (.int pn), (.int (0 : Int32)), (.ref a2), (.ref a1)])) _
    exact k
  obtain ⟨_, _, ⟨T2, L2, k2, n2⟩, -, X2, ⟨Lc2, hQ2, l2, y2, z2⟩, st2⟩ := X0.specialBack hx (y := (⟨"java/lang/String", "<init>", "([CIILjava/lang/Void;)V"⟩ : MethodName)) rfl hown (mvT hZ (hw _ (List.mem_of_getElem? (i := 15) rfl))) (mvT hZ (hw _ (List.mem_of_getElem? (i := 16) rfl))) (mvT hZ (hw _ (List.mem_of_getElem? (i := 18) rfl))) (by decide) (backOf (W := 0) (rm14 l Z a0 hw [] a1 a2 pn kc u1 u2 ccs cf n h0 n0 Z0 E_a F_v F_k g_a A_c S_cs hcc hn hn4 hn1 hcs) hZ (hw _ (List.mem_of_getElem? (i := 18) rfl)) (hw _ (List.mem_of_getElem? (i := 11) rfl)) (by decide) (by decide)) (g := (mkF m 6 #[.val (.ref a1), .val (.ref a2)] [.null, (.int pn), (.int (0 : Int32)), (.ref a2), (.ref a1)])) rfl (by rw [hml]; rfl) (Steps.refl _) (a := a1) (argsL := [(.ref a2), (.int (0 : Int32)), (.int pn), .null]) (rest := []) (lenOf pd_3 rfl) rfl (by show 2 * 0 + _ ≤ _; exact Nat.le_of_eq rfl) (hb hby d15_6) (fun _ _ => ⟨rfl, e0, (by decide : 0 + 1 ≤ _), (by decide : 0 + 4 ≤ _)⟩)
  dsimp only [Pt.U, Pt.locs, Pt.cells, Pt.slots] at X2 l2 y2 z2 st2 hQ2
  subst l2 y2 z2
  obtain ⟨b_2, kb_2, rfl, N2q, K2, s2_b, Y2_0, Y2_1, Y2_2, Y2_3, Y2_4⟩ := hQ2
  have F3 : Exa Z T2.heap a1 "java/lang/String" := E_a.keep K2
  have Z4 : n0 ≤ T2.heap.size := Nat.le_trans Z0 K2.1
  have K5 : Keep h0 T2.heap [a1] := K0.trans K2 (allS (Or.inl (List.mem_of_getElem? (i := 0) rfl)) all0)
  have g_b_2 : n0 ≤ b_2 := Nat.le_trans Z0 s2_b
  have sz_b_2 : h0.size ≤ b_2 := Nat.le_trans K0.1 s2_b
  have ne_a1_b_2 : a1 ≠ b_2 := Nat.ne_of_lt (Nat.lt_of_lt_of_le E_a.lt s2_b)
  have ne_a2_b_2 : a2 ≠ b_2 := Nat.ne_of_lt (Nat.lt_of_lt_of_le A_c.lt s2_b)
  have N2 := Fr.app N0 N2q
  have P6 : ∀ t, Steps p.tables e below (T2.setTop (mkF m 9 #[.val (.ref a1), .val (.ref a2)] [])) t → Steps p.tables e below (s₁.setTop (entryFrame m #[(.ref a1), (.ref a2)] 2)) t := fun t k => P1 _ (st2.trans k)
  obtain ⟨fs, hr, hrun, hended, hW, hsame⟩ := X2.leave (v := none) (fun _ => rfl)
  refine ⟨_, _, P6 _ ?_, hrun, hended, _, _, rfl, ?_, ⟨_, rfl⟩, hW, hsame.mono (by decide) (by decide)⟩
  · exact X2.returnOut hx Bd.returns (hb hby d15_9) hr
  · show Q15 Z a1 a2 pn kc u1 u2 ccs cf n h0 n0 _ T2.heap _
    exact ⟨b_2, kb_2, rfl, N2, K5, sz_b_2, Y2_0, Y2_1, Y2_2, Y2_3, Y2_4⟩
theorem d21_0 : decode jdk_42_method_152_code 0 = .ok (.getstatic 38, 3) := by decide +kernel
theorem d21_3 : decode jdk_42_method_152_code 3 = .ok (.ifCond .eq 10, 3) := by decide +kernel
theorem d21_6 : decode jdk_42_method_152_code 6 = .ok (.aload_n 0, 1) := by decide +kernel
theorem d21_7 : decode jdk_42_method_152_code 7 = .ok (.getfield 15, 3) := by decide +kernel
theorem d21_10 : decode jdk_42_method_152_code 10 = .ok (.goto 4, 3) := by decide +kernel
theorem d21_14 : decode jdk_42_method_152_code 14 = .ok (.ireturn, 1) := by decide +kernel
theorem pn_21 : plainName "java/lang/String" = true := by first | (simp [plainName, overriddenIn]; done) | decide +kernel
theorem ef_21 (m : MethodId) (x0 : Addr) : entryFrame m #[(.ref x0)] 1 = mkF m 0 #[.val (.ref x0)] [] := by first | (simp [entryFrame, mkF, argsToLocals, Value.category]; done) | rfl
def Q21 (Z : State) (a1 : Addr) (ccs : Int32) (h0 : Heap) (n0 : Nat) (v : Option Value) (h : Heap) (L : List Loc) : Prop := v = some (.int (0 : Int32)) ∧ Fr n0 L ∧ h = h0
set_option maxRecDepth 65536 in
set_option maxHeartbeats 40000000 in
theorem rm21 (l : Launch) (Z : State) (a0 : Array Value) (hw : ∀ d ∈ tables_1, d.before a0 Z = true) (ws : List Jvm.Cond) (a1 : Addr) (ccs : Int32) (h0 : Heap) (n0 : Nat) (Z0 : n0 ≤ h0.size) (F_k : Fld Z h0 a1 "java/lang/String" "coder" "B" (.int (0 : Int32))) (S_cs : Sta Z h0 "java/lang/String" "COMPACT_STRINGS" "Z" (.int ccs)) (hcc : ¬ ccs = (0 : Int32)) :
    MetFree l (⟨"java/lang/String", "coder", "()B"⟩ : MethodName) (head1 (Jvm.Cond.code (⟨"java/lang/String", "coder", "()B"⟩ : MethodName) jdk_42_method_152_code 1 (some .byte) :: ws) ({ frames := 0, cells := 0, slots := 0, locals := 0 } : Room)) (fun a U => a = #[(.ref a1)] ∧ Z.Warmed39 U.vm ∧ U.heap = h0) (fun _ _ _ _ _ => True) (fun _ U o U' => ∃ v L, o = .returned v ∧ Q21 Z a1 ccs h0 n0 v U'.heap L ∧ FrameEnd U o U' L ({ frames := 0, cells := 0, slots := 0, locals := 0 } : Room).cells ({ frames := 0, cells := 0, slots := 0, locals := 0 } : Room).slots) := by
  refine MetFree.of_bodySF (plainFor_of_name pn_21) hisR ?_
  intro p e s m args below meth c s₁ Bd hml0 hP hK
  obtain ⟨rfl, hZ, hh⟩ := hP
  have hx := Bd.exec
  have hby := Bd.bytes
  have hml : c.maxLocals = 1 := hml0
  have hown : s.vm.findClass "java/lang/String" = some m.cls := findClass_of_methodNamed Bd.named
  have hnm := (name_of_methodNamed Bd.named Bd.method).1
  have X0 : Stand p l e ({ frames := 0, cells := 0, slots := 0, locals := 0 } : Room) s m #[(.ref a1)] below meth c s₁ [] 0 0 := Stand.of_body Bd
  have e0 : s₁.heap = h0 := by rw [← hh, Bd.state]; rfl
  have N0 := Fr.nil n0
  have K0 : Keep h0 h0 [] := Keep.refl _ _
  have P0 : ∀ t, Steps p.tables e below (s₁.setTop (mkF m 0 #[.val (.ref a1)] [])) t → Steps p.tables e below (s₁.setTop (entryFrame m #[(.ref a1)] 1)) t := fun t k => castTop (ef_21 m a1) k
  obtain ⟨T1, X1, e1, st1⟩ := getS2 X0 hx hZ hown (host := "") (Or.inl (hw _ (List.mem_of_getElem? (i := 22) rfl))) Via.refl e0 S_cs (g := (mkF m 0 #[.val (.ref a1)] [])) rfl (hb hby d21_0)
  have P2 : ∀ t, Steps p.tables e below (T1.setTop (mkF m 3 #[.val (.ref a1)] [(.int ccs)])) t → Steps p.tables e below (s₁.setTop (entryFrame m #[(.ref a1)] 1)) t := fun t k => P0 _ (st1 _ k)
  have P3 : ∀ t, Steps p.tables e below (T1.setTop (mkF m 7 #[.val (.ref a1)] [(.ref a1)])) t → Steps p.tables e below (s₁.setTop (entryFrame m #[(.ref a1)] 1)) t := by
    intro t k
    refine P2 _ ?_
    refine XS.ifNo X1.here hx rfl (hb hby d21_3) rfl (XT.i0_eq_f hcc) ?_
    show Steps p.tables e below (T1.setTop (mkF m 6 #[.val (.ref a1)] [])) _
    refine XS.aloadN X1.here hx rfl (hb hby d21_6) rfl rfl ?_
    show Steps p.tables e below (T1.setTop (mkF m 7 #[.val (.ref a1)] [(.ref a1)])) _
    exact k
  obtain ⟨T4, X4, e4, st4⟩ := getF X1 hx hZ hown (host := "") (Or.inl (hw _ (List.mem_of_getElem? (i := 34) rfl))) Via.refl e1 F_k (g := (mkF m 7 #[.val (.ref a1)] [(.ref a1)])) rfl rfl (hb hby d21_7)
  have P5 : ∀ t, Steps p.tables e below (T4.setTop (mkF m 10 #[.val (.ref a1)] [(.int (0 : Int32))])) t → Steps p.tables e below (s₁.setTop (entryFrame m #[(.ref a1)] 1)) t := fun t k => P3 _ (st4 _ k)
  have P6 : ∀ t, Steps p.tables e below (T4.setTop (mkF m 14 #[.val (.ref a1)] [(.int (0 : Int32))])) t → Steps p.tables e below (s₁.setTop (entryFrame m #[(.ref a1)] 1)) t := by
    intro t k
    refine P5 _ ?_
    refine XS.goto X4.here hx rfl (pc0 := 10) (pc' := 14) rfl (hb hby d21_10) (by decide) (by decide) ?_
    show Steps p.tables e below (T4.setTop (mkF m 14 #[.val (.ref a1)] [(.int (0 : Int32))])) _
    exact k
  obtain ⟨fs, hr, hrun, hended, hW, hsame⟩ := X4.leave (v := some (.int (0 : Int32))) (fun h => by rw [Bd.returns] at h; cases h)
  refine ⟨_, _, P6 _ ?_, hrun, hended, _, _, rfl, ?_, ⟨_, rfl⟩, hW, hsame.mono (by decide) (by decide)⟩
  · exact retN X4 hx (t := .byte) Bd.returns (by simp) (hb hby d21_14) hr
  · show Q21 Z a1 ccs h0 n0 _ T4.heap _
    rw [e4]
    exact ⟨rfl, N0, rfl⟩
theorem d22_0 : decode jdk_123_method_3_code 0 = .ok (.iload_n 1, 1) := by decide +kernel
theorem d22_1 : decode jdk_123_method_3_code 1 = .ok (.iload_n 2, 1) := by decide +kernel
theorem d22_2 : decode jdk_123_method_3_code 2 = .ok (.iadd, 1) := by decide +kernel
theorem d22_3 : decode jdk_123_method_3_code 3 = .ok (.istore_n 3, 1) := by decide +kernel
theorem d22_4 : decode jdk_123_method_3_code 4 = .ok (.iload_n 1, 1) := by decide +kernel
theorem d22_5 : decode jdk_123_method_3_code 5 = .ok (.istore 4, 2) := by decide +kernel
theorem d22_7 : decode jdk_123_method_3_code 7 = .ok (.iload 4, 2) := by decide +kernel
theorem d22_9 : decode jdk_123_method_3_code 9 = .ok (.iload_n 3, 1) := by decide +kernel
theorem d22_10 : decode jdk_123_method_3_code 10 = .ok (.if_icmp .ge 21, 3) := by decide +kernel
theorem d22_13 : decode jdk_123_method_3_code 13 = .ok (.aload_n 0, 1) := by decide +kernel
theorem d22_14 : decode jdk_123_method_3_code 14 = .ok (.iload 4, 2) := by decide +kernel
theorem d22_16 : decode jdk_123_method_3_code 16 = .ok (.baload, 1) := by decide +kernel
theorem d22_17 : decode jdk_123_method_3_code 17 = .ok (.ifCond .ge 8, 3) := by decide +kernel
theorem d22_25 : decode jdk_123_method_3_code 25 = .ok (.iinc 4 1, 3) := by decide +kernel
theorem d22_28 : decode jdk_123_method_3_code 28 = .ok (.goto (-21), 3) := by decide +kernel
theorem d22_31 : decode jdk_123_method_3_code 31 = .ok (.iload_n 2, 1) := by decide +kernel
theorem d22_32 : decode jdk_123_method_3_code 32 = .ok (.ireturn, 1) := by decide +kernel
set_option maxRecDepth 65536 in
set_option maxHeartbeats 40000000 in
theorem tn22 {p : Program} {l : Launch} {e : Env} {R : Room} {s : State} {m : MethodId} {args : Array Value} {below : List Frame} {meth : Method} {c : Code} {T : State} {locs : List Loc} {cells slots : Nat} {Z : State} {a0 : Array Value} {h0 : Heap} (a1 : Addr) (pn : Int32) (lim : Int32) (iv : Int32) (kb : ClassId) (cf : Nat → Int32)
    (X0 : Stand p l e R s m args below meth c T locs cells slots) (hx : p.tables.exec = Jvm.exec) (hZ : Z.Warmed39 s.vm) (hw : ∀ d ∈ tables_1, d.before a0 Z = true) (hby : c.code = jdk_123_method_3_code) (hown : s.vm.findClass "java/lang/StringCoding" = some m.cls) (e0 : T.heap = h0) (A_b : own_Af Z h0 a1 kb .byte pn (fun i => Value.int (cf i))) (hlt : iv < lim) (hj : ¬ iv < (0 : Int32) ∧ iv < pn) (hcw : own_c (cf (iv).toNatClampNeg)) :
    ∀ t, Steps p.tables e below (T.setTop (mkF m 7 #[.val (.ref a1), .val (.int (0 : Int32)), .val (.int pn), .val (.int lim), .val (.int (iv + (1 : Int32)))] [])) t → Steps p.tables e below (T.setTop (mkF m 7 #[.val (.ref a1), .val (.int (0 : Int32)), .val (.int pn), .val (.int lim), .val (.int iv)] [])) t := by
  intro t k
  refine XS.iload X0.here hx rfl (hb hby d22_7) rfl ?_
  show Steps p.tables e below (T.setTop (mkF m 9 #[.val (.ref a1), .val (.int (0 : Int32)), .val (.int pn), .val (.int lim), .val (.int iv)] [(.int iv)])) _
  refine XS.iloadN X0.here hx rfl (hb hby d22_9) rfl ?_
  show Steps p.tables e below (T.setTop (mkF m 10 #[.val (.ref a1), .val (.int (0 : Int32)), .val (.int pn), .val (.int lim), .val (.int iv)] [(.int lim), (.int iv)])) _
  refine XS.icmpNo X0.here hx rfl (hb hby d22_10) rfl (XT.ii_ge_f hlt) ?_
  show Steps p.tables e below (T.setTop (mkF m 13 #[.val (.ref a1), .val (.int (0 : Int32)), .val (.int pn), .val (.int lim), .val (.int iv)] [])) _
  refine XS.aloadN X0.here hx rfl (hb hby d22_13) rfl rfl ?_
  show Steps p.tables e below (T.setTop (mkF m 14 #[.val (.ref a1), .val (.int (0 : Int32)), .val (.int pn), .val (.int lim), .val (.int iv)] [(.ref a1)])) _
  refine XS.iload X0.here hx rfl (hb hby d22_14) rfl ?_
  show Steps p.tables e below (T.setTop (mkF m 16 #[.val (.ref a1), .val (.int (0 : Int32)), .val (.int pn), .val (.int lim), .val (.int iv)] [(.int iv), (.ref a1)])) _
  refine own_fbal X0 hx hZ e0 A_b hj (v := (.int (cf (iv).toNatClampNeg))) rfl rfl rfl (hb hby d22_16) ?_
  show Steps p.tables e below (T.setTop (mkF m 17 #[.val (.ref a1), .val (.int (0 : Int32)), .val (.int pn), .val (.int lim), .val (.int iv)] [(.int (cf (iv).toNatClampNeg))])) _
  refine XS.ifYes X0.here hx rfl (pc0 := 17) (pc' := 25) rfl (hb hby d22_17) rfl (XT.i0_ge_t (own_c0 hcw)) (by decide) (by decide) ?_
  show Steps p.tables e below (T.setTop (mkF m 25 #[.val (.ref a1), .val (.int (0 : Int32)), .val (.int pn), .val (.int lim), .val (.int iv)] [])) _
  refine XS.iinc X0.here hx rfl (hb hby d22_25) rfl (l' := #[.val (.ref a1), .val (.int (0 : Int32)), .val (.int pn), .val (.int lim), .val (.int (iv + (1 : Int32)))]) rfl ?_
  show Steps p.tables e below (T.setTop (mkF m 28 #[.val (.ref a1), .val (.int (0 : Int32)), .val (.int pn), .val (.int lim), .val (.int (iv + (1 : Int32)))] [])) _
  refine XS.goto X0.here hx rfl (pc0 := 28) (pc' := 7) rfl (hb hby d22_28) (by decide) (by decide) ?_
  show Steps p.tables e below (T.setTop (mkF m 7 #[.val (.ref a1), .val (.int (0 : Int32)), .val (.int pn), .val (.int lim), .val (.int (iv + (1 : Int32)))] [])) _
  exact k
set_option maxRecDepth 65536 in
set_option maxHeartbeats 40000000 in
theorem lv22 {p : Program} {l : Launch} {e : Env} {R : Room} {s : State} {m : MethodId} {args : Array Value} {below : List Frame} {meth : Method} {c : Code} {T : State} {locs : List Loc} {cells slots : Nat} {Z : State} {a0 : Array Value} {h0 : Heap} (a1 : Addr) (pn : Int32) (lim : Int32) (iv : Int32)
    (X0 : Stand p l e R s m args below meth c T locs cells slots) (hx : p.tables.exec = Jvm.exec) (hZ : Z.Warmed39 s.vm) (hw : ∀ d ∈ tables_1, d.before a0 Z = true) (hby : c.code = jdk_123_method_3_code) (hown : s.vm.findClass "java/lang/StringCoding" = some m.cls) (e0 : T.heap = h0) (hge : ¬ iv < lim) :
    ∀ t, Steps p.tables e below (T.setTop (mkF m 31 #[.val (.ref a1), .val (.int (0 : Int32)), .val (.int pn), .val (.int lim), .val (.int iv)] [])) t → Steps p.tables e below (T.setTop (mkF m 7 #[.val (.ref a1), .val (.int (0 : Int32)), .val (.int pn), .val (.int lim), .val (.int iv)] [])) t := by
  intro t k
  refine XS.iload X0.here hx rfl (hb hby d22_7) rfl ?_
  show Steps p.tables e below (T.setTop (mkF m 9 #[.val (.ref a1), .val (.int (0 : Int32)), .val (.int pn), .val (.int lim), .val (.int iv)] [(.int iv)])) _
  refine XS.iloadN X0.here hx rfl (hb hby d22_9) rfl ?_
  show Steps p.tables e below (T.setTop (mkF m 10 #[.val (.ref a1), .val (.int (0 : Int32)), .val (.int pn), .val (.int lim), .val (.int iv)] [(.int lim), (.int iv)])) _
  refine XS.icmpYes X0.here hx rfl (pc0 := 10) (pc' := 31) rfl (hb hby d22_10) rfl (XT.ii_ge_t hge) (by decide) (by decide) ?_
  show Steps p.tables e below (T.setTop (mkF m 31 #[.val (.ref a1), .val (.int (0 : Int32)), .val (.int pn), .val (.int lim), .val (.int iv)] [])) _
  exact k
theorem loop22 {p : Program} {l : Launch} {e : Env} {R : Room} {s : State} {m : MethodId} {args : Array Value} {below : List Frame} {meth : Method} {c : Code} {Z : State} {a0 : Array Value} {n0 : Nat} {cells slots : Nat} {T : State} {locs : List Loc} {h0 : Heap} (a1 : Addr) (pn lim : Int32) (kb : ClassId) (cf : Nat → Int32) (n : Nat) (X0 : Stand p l e R s m args below meth c T locs cells slots) (hx : p.tables.exec = Jvm.exec) (hZ : Z.Warmed39 s.vm) (hw : ∀ d ∈ tables_1, d.before a0 Z = true) (hby : c.code = jdk_123_method_3_code) (hml : c.maxLocals = 5) (hown : s.vm.findClass "java/lang/StringCoding" = some m.cls) (e0 : T.heap = h0) (A_b : own_Af Z h0 a1 kb .byte pn (fun i => Value.int (cf i))) (hn : pn.toInt = n) (hl : lim.toInt = n) (hn4 : n < 5000) (hcs : own_cs pn cf) (k : Nat) :
    ∀ (i : Nat) (iv : Int32), i + k = n → iv.toInt = i → ∃ jv : Int32, ∀ t, Steps p.tables e below (T.setTop (mkF m 31 #[.val (.ref a1), .val (.int (0 : Int32)), .val (.int pn), .val (.int lim), .val (.int jv)] [])) t → Steps p.tables e below (T.setTop (mkF m 7 #[.val (.ref a1), .val (.int (0 : Int32)), .val (.int pn), .val (.int lim), .val (.int iv)] [])) t := by
  induction k with
  | zero =>
    intro i iv h1 h2
    exact ⟨iv, lv22 a1 pn lim iv X0 hx hZ hw hby hown e0 (by rw [Int32.lt_iff_toInt_lt]; omega)⟩
  | succ k ih =>
    intro i iv h1 h2
    obtain ⟨jv, st2⟩ := ih (i + 1) (iv + (1 : Int32)) (by omega) (own_inc h2 (by omega))
    exact ⟨jv, fun t kk => tn22 a1 pn lim iv kb cf X0 hx hZ hw hby hown e0 A_b (by rw [Int32.lt_iff_toInt_lt]; omega) (own_jn (by omega) (by omega)) (hcs _ (by rw [own_nat h2]; omega)) t (st2 t kk)⟩
theorem pn_22 : plainName "java/lang/StringCoding" = true := by first | (simp [plainName, overriddenIn]; done) | decide +kernel
theorem ef_22 (m : MethodId) (x0 : Addr) (x1 : Int32) (x2 : Int32) : entryFrame m #[(.ref x0), (.int x1), (.int x2)] 5 = mkF m 0 #[.val (.ref x0), .val (.int x1), .val (.int x2), .unset, .unset] [] := by first | (simp [entryFrame, mkF, argsToLocals, Value.category]; done) | rfl
def Q22 (Z : State) (a1 : Addr) (pn : Int32) (kb : ClassId) (cf : Nat → Int32) (n : Nat) (h0 : Heap) (n0 : Nat) (v : Option Value) (h : Heap) (L : List Loc) : Prop := v = some (.int pn) ∧ Fr n0 L ∧ h = h0
set_option maxRecDepth 65536 in
set_option maxHeartbeats 40000000 in
theorem rm22 (l : Launch) (Z : State) (a0 : Array Value) (hw : ∀ d ∈ tables_1, d.before a0 Z = true) (ws : List Jvm.Cond) (a1 : Addr) (pn : Int32) (kb : ClassId) (cf : Nat → Int32) (n : Nat) (h0 : Heap) (n0 : Nat) (Z0 : n0 ≤ h0.size) (A_b : own_Af Z h0 a1 kb .byte pn (fun i => Value.int (cf i))) (hn : pn.toInt = n) (hn4 : n ≤ 4) (hcs : own_cs pn cf) :
    MetFree l (⟨"java/lang/StringCoding", "countPositives", "([BII)I"⟩ : MethodName) (head1 (Jvm.Cond.code (⟨"java/lang/StringCoding", "countPositives", "([BII)I"⟩ : MethodName) jdk_123_method_3_code 5 (some .int) :: ws) ({ frames := 0, cells := 0, slots := 0, locals := 0 } : Room)) (fun a U => a = #[(.ref a1), (.int (0 : Int32)), (.int pn)] ∧ Z.Warmed39 U.vm ∧ U.heap = h0) (fun _ _ _ _ _ => True) (fun _ U o U' => ∃ v L, o = .returned v ∧ Q22 Z a1 pn kb cf n h0 n0 v U'.heap L ∧ FrameEnd U o U' L ({ frames := 0, cells := 0, slots := 0, locals := 0 } : Room).cells ({ frames := 0, cells := 0, slots := 0, locals := 0 } : Room).slots) := by
  refine MetFree.of_bodySF (plainFor_of_name pn_22) hisR ?_
  intro p e s m args below meth c s₁ Bd hml0 hP hK
  obtain ⟨rfl, hZ, hh⟩ := hP
  have hx := Bd.exec
  have hby := Bd.bytes
  have hml : c.maxLocals = 5 := hml0
  have hown : s.vm.findClass "java/lang/StringCoding" = some m.cls := findClass_of_methodNamed Bd.named
  have hnm := (name_of_methodNamed Bd.named Bd.method).1
  have X0 : Stand p l e ({ frames := 0, cells := 0, slots := 0, locals := 0 } : Room) s m #[(.ref a1), (.int (0 : Int32)), (.int pn)] below meth c s₁ [] 0 0 := Stand.of_body Bd
  have e0 : s₁.heap = h0 := by rw [← hh, Bd.state]; rfl
  have N0 := Fr.nil n0
  have K0 : Keep h0 h0 [] := Keep.refl _ _
  have P0 : ∀ t, Steps p.tables e below (s₁.setTop (mkF m 0 #[.val (.ref a1), .val (.int (0 : Int32)), .val (.int pn), .unset, .unset] [])) t → Steps p.tables e below (s₁.setTop (entryFrame m #[(.ref a1), (.int (0 : Int32)), (.int pn)] 5)) t := fun t k => castTop (ef_22 m a1 (0 : Int32) pn) k
  have P1 : ∀ t, Steps p.tables e below (s₁.setTop (mkF m 4 #[.val (.ref a1), .val (.int (0 : Int32)), .val (.int pn), .val (.int ((0 : Int32) + pn)), .unset] [])) t → Steps p.tables e below (s₁.setTop (entryFrame m #[(.ref a1), (.int (0 : Int32)), (.int pn)] 5)) t := by
    intro t k
    refine P0 _ ?_
    refine XS.iloadN X0.here hx rfl (hb hby d22_0) rfl ?_
    show Steps p.tables e below (s₁.setTop (mkF m 1 #[.val (.ref a1), .val (.int (0 : Int32)), .val (.int pn), .unset, .unset] [(.int (0 : Int32))])) _
    refine XS.iloadN X0.here hx rfl (hb hby d22_1) rfl ?_
    show Steps p.tables e below (s₁.setTop (mkF m 2 #[.val (.ref a1), .val (.int (0 : Int32)), .val (.int pn), .unset, .unset] [(.int pn), (.int (0 : Int32))])) _
    refine XS.iadd X0.here hx rfl (hb hby d22_2) rfl ?_
    show Steps p.tables e below (s₁.setTop (mkF m 3 #[.val (.ref a1), .val (.int (0 : Int32)), .val (.int pn), .unset, .unset] [(.int ((0 : Int32) + pn))])) _
    refine XS.istoreN X0.here hx rfl (hb hby d22_3) rfl (l' := #[.val (.ref a1), .val (.int (0 : Int32)), .val (.int pn), .val (.int ((0 : Int32) + pn)), .unset]) rfl ?_
    show Steps p.tables e below (s₁.setTop (mkF m 4 #[.val (.ref a1), .val (.int (0 : Int32)), .val (.int pn), .val (.int ((0 : Int32) + pn)), .unset] [])) _
    exact k
  obtain ⟨lim, hlim⟩ : ∃ z : Int32, z = ((0 : Int32) + pn) := ⟨_, rfl⟩
  rw [← hlim] at P1
  have P2 : ∀ t, Steps p.tables e below (s₁.setTop (mkF m 7 #[.val (.ref a1), .val (.int (0 : Int32)), .val (.int pn), .val (.int lim), .val (.int (0 : Int32))] [])) t → Steps p.tables e below (s₁.setTop (entryFrame m #[(.ref a1), (.int (0 : Int32)), (.int pn)] 5)) t := by
    intro t k
    refine P1 _ ?_
    refine XS.iloadN X0.here hx rfl (hb hby d22_4) rfl ?_
    show Steps p.tables e below (s₁.setTop (mkF m 5 #[.val (.ref a1), .val (.int (0 : Int32)), .val (.int pn), .val (.int lim), .unset] [(.int (0 : Int32))])) _
    refine XS.istore X0.here hx rfl (hb hby d22_5) rfl (l' := #[.val (.ref a1), .val (.int (0 : Int32)), .val (.int pn), .val (.int lim), .val (.int (0 : Int32))]) rfl ?_
    show Steps p.tables e below (s₁.setTop (mkF m 7 #[.val (.ref a1), .val (.int (0 : Int32)), .val (.int pn), .val (.int lim), .val (.int (0 : Int32))] [])) _
    exact k
  obtain ⟨jv, hL⟩ := loop22 (n0 := n0) a1 pn lim kb cf n X0 hx hZ hw hby hml hown e0 A_b hn (by rw [hlim]; exact own_0add hn) (by omega) hcs n 0 (0 : Int32) (by omega) rfl
  have P3 : ∀ t, Steps p.tables e below (s₁.setTop (mkF m 31 #[.val (.ref a1), .val (.int (0 : Int32)), .val (.int pn), .val (.int lim), .val (.int jv)] [])) t → Steps p.tables e below (s₁.setTop (entryFrame m #[(.ref a1), (.int (0 : Int32)), (.int pn)] 5)) t := fun t k => P2 _ (hL _ k)
  have P4 : ∀ t, Steps p.tables e below (s₁.setTop (mkF m 32 #[.val (.ref a1), .val (.int (0 : Int32)), .val (.int pn), .val (.int lim), .val (.int jv)] [(.int pn)])) t → Steps p.tables e below (s₁.setTop (entryFrame m #[(.ref a1), (.int (0 : Int32)), (.int pn)] 5)) t := by
    intro t k
    refine P3 _ ?_
    refine XS.iloadN X0.here hx rfl (hb hby d22_31) rfl ?_
    show Steps p.tables e below (s₁.setTop (mkF m 32 #[.val (.ref a1), .val (.int (0 : Int32)), .val (.int pn), .val (.int lim), .val (.int jv)] [(.int pn)])) _
    exact k
  obtain ⟨fs, hr, hrun, hended, hW, hsame⟩ := X0.leave (v := some (.int pn)) (fun h => by rw [Bd.returns] at h; cases h)
  refine ⟨_, _, P4 _ ?_, hrun, hended, _, _, rfl, ?_, ⟨_, rfl⟩, hW, hsame.mono (by decide) (by decide)⟩
  · exact retI X0 hx Bd.returns (hb hby d22_32) hr
  · show Q22 Z a1 pn kb cf n h0 n0 _ s₁.heap _
    rw [e0]
    exact ⟨rfl, N0, rfl⟩
theorem d23_0 : decode jdk_42_method_24_code 0 = .ok (.iload_n 0, 1) := by decide +kernel
theorem d23_1 : decode jdk_42_method_24_code 1 = .ok (.ifCond .ne 32, 3) := by decide +kernel
theorem d23_4 : decode jdk_42_method_24_code 4 = .ok (.aload_n 1, 1) := by decide +kernel
theorem d23_5 : decode jdk_42_method_24_code 5 = .ok (.iconst 0, 1) := by decide +kernel
theorem d23_6 : decode jdk_42_method_24_code 6 = .ok (.aload_n 1, 1) := by decide +kernel
theorem d23_7 : decode jdk_42_method_24_code 7 = .ok (.arraylength, 1) := by decide +kernel
theorem d23_8 : decode jdk_42_method_24_code 8 = .ok (.invokestatic 92, 3) := by decide +kernel
theorem d23_11 : decode jdk_42_method_24_code 11 = .ok (.istore_n 2, 1) := by decide +kernel
theorem d23_12 : decode jdk_42_method_24_code 12 = .ok (.aload_n 1, 1) := by decide +kernel
theorem d23_13 : decode jdk_42_method_24_code 13 = .ok (.invokevirtual 279, 3) := by decide +kernel
theorem d23_16 : decode jdk_42_method_24_code 16 = .ok (.checkcast 280, 3) := by decide +kernel
theorem d23_19 : decode jdk_42_method_24_code 19 = .ok (.astore_n 3, 1) := by decide +kernel
theorem d23_20 : decode jdk_42_method_24_code 20 = .ok (.iload_n 2, 1) := by decide +kernel
theorem d23_21 : decode jdk_42_method_24_code 21 = .ok (.aload_n 3, 1) := by decide +kernel
theorem d23_22 : decode jdk_42_method_24_code 22 = .ok (.arraylength, 1) := by decide +kernel
theorem d23_23 : decode jdk_42_method_24_code 23 = .ok (.if_icmp .ge 8, 3) := by decide +kernel
theorem d23_31 : decode jdk_42_method_24_code 31 = .ok (.aload_n 3, 1) := by decide +kernel
theorem d23_32 : decode jdk_42_method_24_code 32 = .ok (.areturn, 1) := by decide +kernel
theorem pn_23 : plainName "java/lang/String" = true := by first | (simp [plainName, overriddenIn]; done) | decide +kernel
theorem ef_23 (m : MethodId) (x0 : Int32) (x1 : Addr) : entryFrame m #[(.int x0), (.ref x1)] 7 = mkF m 0 #[.val (.int x0), .val (.ref x1), .unset, .unset, .unset, .unset, .unset] [] := by first | (simp [entryFrame, mkF, argsToLocals, Value.category]; done) | rfl
def Q23 (Z : State) (a2 : Addr) (pn : Int32) (kb : ClassId) (cf : Nat → Int32) (n : Nat) (h0 : Heap) (n0 : Nat) (v : Option Value) (h : Heap) (L : List Loc) : Prop := ∃ (b : Addr), v = some (.ref b) ∧ Fr n0 L ∧ Keep h0 h [] ∧ h0.size ≤ b ∧ own_Af Z h b kb .byte pn (fun i => Value.int (cf i)) ∧ Exa Z h b "[B"
set_option maxRecDepth 65536 in
set_option maxHeartbeats 40000000 in
theorem rm23 (l : Launch) (Z : State) (a0 : Array Value) (hw : ∀ d ∈ tables_1, d.before a0 Z = true) (ws : List Jvm.Cond) (a2 : Addr) (pn : Int32) (kb : ClassId) (cf : Nat → Int32) (n : Nat) (h0 : Heap) (n0 : Nat) (Z0 : n0 ≤ h0.size) (A_b : own_Af Z h0 a2 kb .byte pn (fun i => Value.int (cf i))) (E_b : Exa Z h0 a2 "[B") (hn : pn.toInt = n) (hn4 : n ≤ 4) (hcs : own_cs pn cf) :
    MetFree l (⟨"java/lang/String", "encodeASCII", "(B[B)[B"⟩ : MethodName) (head1 (Jvm.Cond.code (⟨"java/lang/String", "encodeASCII", "(B[B)[B"⟩ : MethodName) jdk_42_method_24_code 7 (some (.array .byte)) :: ws) ({ frames := 1, cells := 1, slots := 4, locals := 16 } : Room)) (fun a U => a = #[(.int (0 : Int32)), (.ref a2)] ∧ Z.Warmed39 U.vm ∧ U.heap = h0) (fun _ _ _ _ _ => True) (fun _ U o U' => ∃ v L, o = .returned v ∧ Q23 Z a2 pn kb cf n h0 n0 v U'.heap L ∧ FrameEnd U o U' L ({ frames := 1, cells := 1, slots := 4, locals := 16 } : Room).cells ({ frames := 1, cells := 1, slots := 4, locals := 16 } : Room).slots) := by
  refine MetFree.of_bodySF (plainFor_of_name pn_23) hisR ?_
  intro p e s m args below meth c s₁ Bd hml0 hP hK
  obtain ⟨rfl, hZ, hh⟩ := hP
  have hx := Bd.exec
  have hby := Bd.bytes
  have hml : c.maxLocals = 7 := hml0
  have hown : s.vm.findClass "java/lang/String" = some m.cls := findClass_of_methodNamed Bd.named
  have hnm := (name_of_methodNamed Bd.named Bd.method).1
  have X0 : Stand p l e ({ frames := 1, cells := 1, slots := 4, locals := 16 } : Room) s m #[(.int (0 : Int32)), (.ref a2)] below meth c s₁ [] 0 0 := Stand.of_body Bd
  have e0 : s₁.heap = h0 := by rw [← hh, Bd.state]; rfl
  have N0 := Fr.nil n0
  have K0 : Keep h0 h0 [] := Keep.refl _ _
  have P0 : ∀ t, Steps p.tables e below (s₁.setTop (mkF m 0 #[.val (.int (0 : Int32)), .val (.ref a2), .unset, .unset, .unset, .unset, .unset] [])) t → Steps p.tables e below (s₁.setTop (entryFrame m #[(.int (0 : Int32)), (.ref a2)] 7)) t := fun t k => castTop (ef_23 m (0 : Int32) a2) k
  have P1 : ∀ t, Steps p.tables e below (s₁.setTop (mkF m 8 #[.val (.int (0 : Int32)), .val (.ref a2), .unset, .unset, .unset, .unset, .unset] [(.int pn), (.int (0 : Int32)), (.ref a2)])) t → Steps p.tables e below (s₁.setTop (entryFrame m #[(.int (0 : Int32)), (.ref a2)] 7)) t := by
    intro t k
    refine P0 _ ?_
    refine XS.iloadN X0.here hx rfl (hb hby d23_0) rfl ?_
    show Steps p.tables e below (s₁.setTop (mkF m 1 #[.val (.int (0 : Int32)), .val (.ref a2), .unset, .unset, .unset, .unset, .unset] [(.int (0 : Int32))])) _
    refine XS.ifNo X0.here hx rfl (hb hby d23_1) rfl (XT.i0_ne_f (by decide)) ?_
    show Steps p.tables e below (s₁.setTop (mkF m 4 #[.val (.int (0 : Int32)), .val (.ref a2), .unset, .unset, .unset, .unset, .unset] [])) _
    refine XS.aloadN X0.here hx rfl (hb hby d23_4) rfl rfl ?_
    show Steps p.tables e below (s₁.setTop (mkF m 5 #[.val (.int (0 : Int32)), .val (.ref a2), .unset, .unset, .unset, .unset, .unset] [(.ref a2)])) _
    refine XS.iconst X0.here hx rfl (hb hby d23_5) ?_
    show Steps p.tables e below (s₁.setTop (mkF m 6 #[.val (.int (0 : Int32)), .val (.ref a2), .unset, .unset, .unset, .unset, .unset] [(.int (0 : Int32)), (.ref a2)])) _
    refine XS.aloadN X0.here hx rfl (hb hby d23_6) rfl rfl ?_
    show Steps p.tables e below (s₁.setTop (mkF m 7 #[.val (.int (0 : Int32)), .val (.ref a2), .unset, .unset, .unset, .unset, .unset] [(.ref a2), (.int (0 : Int32)), (.ref a2)])) _
    refine own_flen X0 hx hZ e0 A_b rfl rfl (hb hby d23_7) ?_
    show Steps p.tables e below (s₁.setTop (mkF m 8 #[.val (.int (0 : Int32)), .val (.ref a2), .unset, .unset, .unset, .unset, .unset] [(.int pn), (.int (0 : Int32)), (.ref a2)])) _
    exact k
  obtain ⟨_, _, ⟨T2, L2, k2, n2⟩, -, X2, ⟨Lc2, hQ2, l2, y2, z2⟩, st2⟩ := Jvm.LawKit.callS X0 hx (y := (⟨"java/lang/StringCoding", "countPositives", "([BII)I"⟩ : MethodName)) hown (mvT hZ (hw _ (List.mem_of_getElem? (i := 66) rfl))) (mvT hZ (hw _ (List.mem_of_getElem? (i := 67) rfl))) (mvT hZ (hw _ (List.mem_of_getElem? (i := 68) rfl))) (mvT hZ (hw _ (List.mem_of_getElem? (i := 69) rfl))) (by decide) (backOf (W := 0) (rm22 l Z a0 hw [] a2 pn kb cf n h0 n0 Z0 A_b hn hn4 hcs) hZ (hw _ (List.mem_of_getElem? (i := 69) rfl)) (hw _ (List.mem_of_getElem? (i := 68) rfl)) (by decide) (by decide)) (g := (mkF m 8 #[.val (.int (0 : Int32)), .val (.ref a2), .unset, .unset, .unset, .unset, .unset] [(.int pn), (.int (0 : Int32)), (.ref a2)])) rfl (by rw [hml]; rfl) (argsL := [(.ref a2), (.int (0 : Int32)), (.int pn)]) (rest := []) (lenOf pd_4 rfl) rfl (by show 2 * 0 + _ ≤ _; exact Nat.le_of_eq rfl) (hb hby d23_8) (fun _ _ => ⟨rfl, e0, (by decide : 0 + 0 ≤ _), (by decide : 0 + 0 ≤ _)⟩)
  dsimp only [Pt.U, Pt.locs, Pt.cells, Pt.slots] at X2 l2 y2 z2 st2 hQ2
  subst l2 y2 z2
  obtain ⟨rfl, N2q, e2⟩ := hQ2
  have N2 := Fr.app N0 N2q
  have P3 : ∀ t, Steps p.tables e below (T2.setTop (mkF m 11 #[.val (.int (0 : Int32)), .val (.ref a2), .unset, .unset, .unset, .unset, .unset] [(.int pn)])) t → Steps p.tables e below (s₁.setTop (entryFrame m #[(.int (0 : Int32)), (.ref a2)] 7)) t := fun t k => P1 _ (st2 _ k)
  have P4 : ∀ t, Steps p.tables e below (T2.setTop (mkF m 13 #[.val (.int (0 : Int32)), .val (.ref a2), .val (.int pn), .unset, .unset, .unset, .unset] [(.ref a2)])) t → Steps p.tables e below (s₁.setTop (entryFrame m #[(.int (0 : Int32)), (.ref a2)] 7)) t := by
    intro t k
    refine P3 _ ?_
    refine XS.istoreN X2.here hx rfl (hb hby d23_11) rfl (l' := #[.val (.int (0 : Int32)), .val (.ref a2), .val (.int pn), .unset, .unset, .unset, .unset]) rfl ?_
    show Steps p.tables e below (T2.setTop (mkF m 12 #[.val (.int (0 : Int32)), .val (.ref a2), .val (.int pn), .unset, .unset, .unset, .unset] [])) _
    refine XS.aloadN X2.here hx rfl (hb hby d23_12) rfl rfl ?_
    show Steps p.tables e below (T2.setTop (mkF m 13 #[.val (.int (0 : Int32)), .val (.ref a2), .val (.int pn), .unset, .unset, .unset, .unset] [(.ref a2)])) _
    exact k
  obtain ⟨T5, h5, X5, e5, E5, V5, B5, st5⟩ := own_clone X2 hx hZ hown (hw _ (List.mem_of_getElem? (i := 70) rfl)) (hw _ (List.mem_of_getElem? (i := 71) rfl)) (hw _ (List.mem_of_getElem? (i := 75) rfl)) (hw _ (List.mem_of_getElem? (i := 73) rfl)) (hw _ (List.mem_of_getElem? (i := 74) rfl)) (hw _ (List.mem_of_getElem? (i := 76) rfl)) e2 A_b E_b (g := (mkF m 13 #[.val (.int (0 : Int32)), .val (.ref a2), .val (.int pn), .unset, .unset, .unset, .unset] [(.ref a2)])) rfl (by rw [hml]; rfl) rfl (hb hby d23_13) (by decide) (W := 0) (cap := 4) (by show 2 * 0 + _ ≤ _; exact Nat.le_of_eq rfl) (by decide) (by rw [own_nat hn]; exact hn4) (by decide) (by decide)
  obtain ⟨bq, g5⟩ : ∃ z, z = h0.size := ⟨_, rfl⟩
  rw [← g5] at V5 B5 st5
  have F6 : own_Af Z h5 a2 kb .byte pn (fun i => Value.int (cf i)) := A_b.ext E5
  have F7 : Exa Z h5 a2 "[B" := E_b.ext E5
  have Z8 : n0 ≤ h5.size := Nat.le_trans Z0 E5.1
  have K9 : Keep h0 h5 [] := K0.ext E5
  have g_bq : n0 ≤ bq := Nat.le_trans Z0 (Nat.le_of_eq g5.symm)
  have sz_bq : h0.size ≤ bq := Nat.le_trans K0.1 (Nat.le_of_eq g5.symm)
  have ne_a2_bq : a2 ≠ bq := Nat.ne_of_lt (Nat.lt_of_lt_of_le A_b.lt (Nat.le_of_eq g5.symm))
  have P10 : ∀ t, Steps p.tables e below (T5.setTop (mkF m 16 #[.val (.int (0 : Int32)), .val (.ref a2), .val (.int pn), .unset, .unset, .unset, .unset] [(.ref bq)])) t → Steps p.tables e below (s₁.setTop (entryFrame m #[(.int (0 : Int32)), (.ref a2)] 7)) t := fun t k => P4 _ (st5 _ k)
  obtain ⟨T11, X11, e11, st11⟩ := castY X5 hx hZ hown (hw _ (List.mem_of_getElem? (i := 77) rfl)) e5 (Ins.self B5) (g := (mkF m 16 #[.val (.int (0 : Int32)), .val (.ref a2), .val (.int pn), .unset, .unset, .unset, .unset] [(.ref bq)])) rfl rfl (hb hby d23_16)
  have P12 : ∀ t, Steps p.tables e below (T11.setTop (mkF m 19 #[.val (.int (0 : Int32)), .val (.ref a2), .val (.int pn), .unset, .unset, .unset, .unset] [(.ref bq)])) t → Steps p.tables e below (s₁.setTop (entryFrame m #[(.int (0 : Int32)), (.ref a2)] 7)) t := fun t k => P10 _ (st11 _ k)
  have P13 : ∀ t, Steps p.tables e below (T11.setTop (mkF m 32 #[.val (.int (0 : Int32)), .val (.ref a2), .val (.int pn), .val (.ref bq), .unset, .unset, .unset] [(.ref bq)])) t → Steps p.tables e below (s₁.setTop (entryFrame m #[(.int (0 : Int32)), (.ref a2)] 7)) t := by
    intro t k
    refine P12 _ ?_
    refine XS.astoreN X11.here hx rfl (hb hby d23_19) rfl rfl (l' := #[.val (.int (0 : Int32)), .val (.ref a2), .val (.int pn), .val (.ref bq), .unset, .unset, .unset]) rfl ?_
    show Steps p.tables e below (T11.setTop (mkF m 20 #[.val (.int (0 : Int32)), .val (.ref a2), .val (.int pn), .val (.ref bq), .unset, .unset, .unset] [])) _
    refine XS.iloadN X11.here hx rfl (hb hby d23_20) rfl ?_
    show Steps p.tables e below (T11.setTop (mkF m 21 #[.val (.int (0 : Int32)), .val (.ref a2), .val (.int pn), .val (.ref bq), .unset, .unset, .unset] [(.int pn)])) _
    refine XS.aloadN X11.here hx rfl (hb hby d23_21) rfl rfl ?_
    show Steps p.tables e below (T11.setTop (mkF m 22 #[.val (.int (0 : Int32)), .val (.ref a2), .val (.int pn), .val (.ref bq), .unset, .unset, .unset] [(.ref bq), (.int pn)])) _
    refine own_flen X11 hx hZ e11 V5 rfl rfl (hb hby d23_22) ?_
    show Steps p.tables e below (T11.setTop (mkF m 23 #[.val (.int (0 : Int32)), .val (.ref a2), .val (.int pn), .val (.ref bq), .unset, .unset, .unset] [(.int pn), (.int pn)])) _
    refine XS.icmpYes X11.here hx rfl (pc0 := 23) (pc' := 31) rfl (hb hby d23_23) rfl (XT.ii_ge_t (fun q => Int32.lt_irrefl q)) (by decide) (by decide) ?_
    show Steps p.tables e below (T11.setTop (mkF m 31 #[.val (.int (0 : Int32)), .val (.ref a2), .val (.int pn), .val (.ref bq), .unset, .unset, .unset] [])) _
    refine XS.aloadN X11.here hx rfl (hb hby d23_31) rfl rfl ?_
    show Steps p.tables e below (T11.setTop (mkF m 32 #[.val (.int (0 : Int32)), .val (.ref a2), .val (.int pn), .val (.ref bq), .unset, .unset, .unset] [(.ref bq)])) _
    exact k
  obtain ⟨fs, hr, hrun, hended, hW, hsame⟩ := X11.leave (v := some (.ref bq)) (fun h => by rw [Bd.returns] at h; cases h)
  refine ⟨_, _, P13 _ ?_, hrun, hended, _, _, rfl, ?_, ⟨_, rfl⟩, hW, hsame.mono (by decide) (by decide)⟩
  · jvm_step X11.here [X11.here.top, hx, (hb hby d23_32), X11.method', Bd.returns, Value.isRef, FieldType.isReference]
    first | (intro acts; rw [hr _ acts rfl rfl rfl]) | rw [hr _ _ rfl rfl rfl]
    exact Steps.refl _
  · show Q23 Z a2 pn kb cf n h0 n0 _ T11.heap _
    rw [e11]
    exact ⟨bq, rfl, N2, K9, sz_bq, V5, B5⟩
theorem d24_0 : decode jdk_42_method_18_code 0 = .ok (.aload_n 0, 1) := by decide +kernel
theorem d24_1 : decode jdk_42_method_18_code 1 = .ok (.getstatic 86, 3) := by decide +kernel
theorem d24_4 : decode jdk_42_method_18_code 4 = .ok (.if_acmp .ne 10, 3) := by decide +kernel
theorem d24_14 : decode jdk_42_method_18_code 14 = .ok (.aload_n 0, 1) := by decide +kernel
theorem d24_15 : decode jdk_42_method_18_code 15 = .ok (.getstatic 116, 3) := by decide +kernel
theorem d24_18 : decode jdk_42_method_18_code 18 = .ok (.if_acmp .ne 9, 3) := by decide +kernel
theorem d24_27 : decode jdk_42_method_18_code 27 = .ok (.aload_n 0, 1) := by decide +kernel
theorem d24_28 : decode jdk_42_method_18_code 28 = .ok (.getstatic 123, 3) := by decide +kernel
theorem d24_31 : decode jdk_42_method_18_code 31 = .ok (.if_acmp .ne 9, 3) := by decide +kernel
theorem d24_34 : decode jdk_42_method_18_code 34 = .ok (.iload_n 1, 1) := by decide +kernel
theorem d24_35 : decode jdk_42_method_18_code 35 = .ok (.aload_n 2, 1) := by decide +kernel
theorem d24_36 : decode jdk_42_method_18_code 36 = .ok (.invokestatic 260, 3) := by decide +kernel
theorem d24_39 : decode jdk_42_method_18_code 39 = .ok (.areturn, 1) := by decide +kernel
theorem pn_24 : plainName "java/lang/String" = true := by first | (simp [plainName, overriddenIn]; done) | decide +kernel
theorem ef_24 (m : MethodId) (x0 : Addr) (x1 : Int32) (x2 : Addr) : entryFrame m #[(.ref x0), (.int x1), (.ref x2)] 3 = mkF m 0 #[.val (.ref x0), .val (.int x1), .val (.ref x2)] [] := by first | (simp [entryFrame, mkF, argsToLocals, Value.category]; done) | rfl
def Q24 (Z : State) (wA : Addr) (a3 : Addr) (pn : Int32) (kb : ClassId) (cf : Nat → Int32) (n : Nat) (wU : Addr) (wI : Addr) (h0 : Heap) (n0 : Nat) (v : Option Value) (h : Heap) (L : List Loc) : Prop := ∃ (b : Addr), v = some (.ref b) ∧ Fr n0 L ∧ Keep h0 h [] ∧ h0.size ≤ b ∧ own_Af Z h b kb .byte pn (fun i => Value.int (cf i)) ∧ Exa Z h b "[B"
set_option maxRecDepth 65536 in
set_option maxHeartbeats 40000000 in
theorem rm24 (l : Launch) (Z : State) (a0 : Array Value) (hw : ∀ d ∈ tables_1, d.before a0 Z = true) (ws : List Jvm.Cond) (wA : Addr) (a3 : Addr) (pn : Int32) (kb : ClassId) (cf : Nat → Int32) (n : Nat) (wU : Addr) (wI : Addr) (h0 : Heap) (n0 : Nat) (Z0 : n0 ≤ h0.size) (A_b : own_Af Z h0 a3 kb .byte pn (fun i => Value.int (cf i))) (E_b : Exa Z h0 a3 "[B") (hn : pn.toInt = n) (hn4 : n ≤ 4) (hcs : own_cs pn cf) (S_wU : Sta Z h0 "sun/nio/cs/UTF_8" "INSTANCE" "Lsun/nio/cs/UTF_8;" (.ref wU)) (S_wI : Sta Z h0 "sun/nio/cs/ISO_8859_1" "INSTANCE" "Lsun/nio/cs/ISO_8859_1;" (.ref wI)) (S_wA : Sta Z h0 "sun/nio/cs/US_ASCII" "INSTANCE" "Lsun/nio/cs/US_ASCII;" (.ref wA)) (neU : ¬ wA = wU) (neI : ¬ wA = wI) :
    MetFree l (⟨"java/lang/String", "encode", "(Ljava/nio/charset/Charset;B[B)[B"⟩ : MethodName) (head1 (Jvm.Cond.code (⟨"java/lang/String", "encode", "(Ljava/nio/charset/Charset;B[B)[B"⟩ : MethodName) jdk_42_method_18_code 3 (some (.array .byte)) :: ws) ({ frames := 2, cells := 1, slots := 4, locals := 34 } : Room)) (fun a U => a = #[(.ref wA), (.int (0 : Int32)), (.ref a3)] ∧ Z.Warmed39 U.vm ∧ U.heap = h0) (fun _ _ _ _ _ => True) (fun _ U o U' => ∃ v L, o = .returned v ∧ Q24 Z wA a3 pn kb cf n wU wI h0 n0 v U'.heap L ∧ FrameEnd U o U' L ({ frames := 2, cells := 1, slots := 4, locals := 34 } : Room).cells ({ frames := 2, cells := 1, slots := 4, locals := 34 } : Room).slots) := by
  refine MetFree.of_bodySF (plainFor_of_name pn_24) hisR ?_
  intro p e s m args below meth c s₁ Bd hml0 hP hK
  obtain ⟨rfl, hZ, hh⟩ := hP
  have hx := Bd.exec
  have hby := Bd.bytes
  have hml : c.maxLocals = 3 := hml0
  have hown : s.vm.findClass "java/lang/String" = some m.cls := findClass_of_methodNamed Bd.named
  have hnm := (name_of_methodNamed Bd.named Bd.method).1
  have X0 : Stand p l e ({ frames := 2, cells := 1, slots := 4, locals := 34 } : Room) s m #[(.ref wA), (.int (0 : Int32)), (.ref a3)] below meth c s₁ [] 0 0 := Stand.of_body Bd
  have e0 : s₁.heap = h0 := by rw [← hh, Bd.state]; rfl
  have N0 := Fr.nil n0
  have K0 : Keep h0 h0 [] := Keep.refl _ _
  have P0 : ∀ t, Steps p.tables e below (s₁.setTop (mkF m 0 #[.val (.ref wA), .val (.int (0 : Int32)), .val (.ref a3)] [])) t → Steps p.tables e below (s₁.setTop (entryFrame m #[(.ref wA), (.int (0 : Int32)), (.ref a3)] 3)) t := fun t k => castTop (ef_24 m wA (0 : Int32) a3) k
  have P1 : ∀ t, Steps p.tables e below (s₁.setTop (mkF m 1 #[.val (.ref wA), .val (.int (0 : Int32)), .val (.ref a3)] [(.ref wA)])) t → Steps p.tables e below (s₁.setTop (entryFrame m #[(.ref wA), (.int (0 : Int32)), (.ref a3)] 3)) t := by
    intro t k
    refine P0 _ ?_
    refine XS.aloadN X0.here hx rfl (hb hby d24_0) rfl rfl ?_
    show Steps p.tables e below (s₁.setTop (mkF m 1 #[.val (.ref wA), .val (.int (0 : Int32)), .val (.ref a3)] [(.ref wA)])) _
    exact k
  obtain ⟨T2, X2, e2, st2⟩ := getS2 X0 hx hZ hown (host := "") (Or.inl (hw _ (List.mem_of_getElem? (i := 57) rfl))) Via.refl e0 S_wU (g := (mkF m 1 #[.val (.ref wA), .val (.int (0 : Int32)), .val (.ref a3)] [(.ref wA)])) rfl (hb hby d24_1)
  have P3 : ∀ t, Steps p.tables e below (T2.setTop (mkF m 4 #[.val (.ref wA), .val (.int (0 : Int32)), .val (.ref a3)] [(.ref wU), (.ref wA)])) t → Steps p.tables e below (s₁.setTop (entryFrame m #[(.ref wA), (.int (0 : Int32)), (.ref a3)] 3)) t := fun t k => P1 _ (st2 _ k)
  have P4 : ∀ t, Steps p.tables e below (T2.setTop (mkF m 15 #[.val (.ref wA), .val (.int (0 : Int32)), .val (.ref a3)] [(.ref wA)])) t → Steps p.tables e below (s₁.setTop (entryFrame m #[(.ref wA), (.int (0 : Int32)), (.ref a3)] 3)) t := by
    intro t k
    refine P3 _ ?_
    refine XT.acmpYes X2.here hx rfl (pc0 := 4) (pc' := 14) rfl (hb hby d24_4) rfl rfl rfl (XT.aa_ne_t (fun q => neU (Value.ref.inj q))) (by decide) (by decide) ?_
    show Steps p.tables e below (T2.setTop (mkF m 14 #[.val (.ref wA), .val (.int (0 : Int32)), .val (.ref a3)] [])) _
    refine XS.aloadN X2.here hx rfl (hb hby d24_14) rfl rfl ?_
    show Steps p.tables e below (T2.setTop (mkF m 15 #[.val (.ref wA), .val (.int (0 : Int32)), .val (.ref a3)] [(.ref wA)])) _
    exact k
  obtain ⟨T5, X5, e5, st5⟩ := getS2 X2 hx hZ hown (host := "") (Or.inl (hw _ (List.mem_of_getElem? (i := 59) rfl))) Via.refl e2 S_wI (g := (mkF m 15 #[.val (.ref wA), .val (.int (0 : Int32)), .val (.ref a3)] [(.ref wA)])) rfl (hb hby d24_15)
  have P6 : ∀ t, Steps p.tables e below (T5.setTop (mkF m 18 #[.val (.ref wA), .val (.int (0 : Int32)), .val (.ref a3)] [(.ref wI), (.ref wA)])) t → Steps p.tables e below (s₁.setTop (entryFrame m #[(.ref wA), (.int (0 : Int32)), (.ref a3)] 3)) t := fun t k => P4 _ (st5 _ k)
  have P7 : ∀ t, Steps p.tables e below (T5.setTop (mkF m 28 #[.val (.ref wA), .val (.int (0 : Int32)), .val (.ref a3)] [(.ref wA)])) t → Steps p.tables e below (s₁.setTop (entryFrame m #[(.ref wA), (.int (0 : Int32)), (.ref a3)] 3)) t := by
    intro t k
    refine P6 _ ?_
    refine XT.acmpYes X5.here hx rfl (pc0 := 18) (pc' := 27) rfl (hb hby d24_18) rfl rfl rfl (XT.aa_ne_t (fun q => neI (Value.ref.inj q))) (by decide) (by decide) ?_
    show Steps p.tables e below (T5.setTop (mkF m 27 #[.val (.ref wA), .val (.int (0 : Int32)), .val (.ref a3)] [])) _
    refine XS.aloadN X5.here hx rfl (hb hby d24_27) rfl rfl ?_
    show Steps p.tables e below (T5.setTop (mkF m 28 #[.val (.ref wA), .val (.int (0 : Int32)), .val (.ref a3)] [(.ref wA)])) _
    exact k
  obtain ⟨T8, X8, e8, st8⟩ := getS2 X5 hx hZ hown (host := "") (Or.inl (hw _ (List.mem_of_getElem? (i := 61) rfl))) Via.refl e5 S_wA (g := (mkF m 28 #[.val (.ref wA), .val (.int (0 : Int32)), .val (.ref a3)] [(.ref wA)])) rfl (hb hby d24_28)
  have P9 : ∀ t, Steps p.tables e below (T8.setTop (mkF m 31 #[.val (.ref wA), .val (.int (0 : Int32)), .val (.ref a3)] [(.ref wA), (.ref wA)])) t → Steps p.tables e below (s₁.setTop (entryFrame m #[(.ref wA), (.int (0 : Int32)), (.ref a3)] 3)) t := fun t k => P7 _ (st8 _ k)
  have P10 : ∀ t, Steps p.tables e below (T8.setTop (mkF m 36 #[.val (.ref wA), .val (.int (0 : Int32)), .val (.ref a3)] [(.ref a3), (.int (0 : Int32))])) t → Steps p.tables e below (s₁.setTop (entryFrame m #[(.ref wA), (.int (0 : Int32)), (.ref a3)] 3)) t := by
    intro t k
    refine P9 _ ?_
    refine XT.acmpNo X8.here hx rfl (hb hby d24_31) rfl rfl rfl (XT.aa_ne_f (congrArg Value.ref rfl)) ?_
    show Steps p.tables e below (T8.setTop (mkF m 34 #[.val (.ref wA), .val (.int (0 : Int32)), .val (.ref a3)] [])) _
    refine XS.iloadN X8.here hx rfl (hb hby d24_34) rfl ?_
    show Steps p.tables e below (T8.setTop (mkF m 35 #[.val (.ref wA), .val (.int (0 : Int32)), .val (.ref a3)] [(.int (0 : Int32))])) _
    refine XS.aloadN X8.here hx rfl (hb hby d24_35) rfl rfl ?_
    show Steps p.tables e below (T8.setTop (mkF m 36 #[.val (.ref wA), .val (.int (0 : Int32)), .val (.ref a3)] [(.ref a3), (.int (0 : Int32))])) _
    exact k
  obtain ⟨_, _, ⟨T11, L11, k11, n11⟩, -, X11, ⟨Lc11, hQ11, l11, y11, z11⟩, st11⟩ := Jvm.LawKit.callS X8 hx (y := (⟨"java/lang/String", "encodeASCII", "(B[B)[B"⟩ : MethodName)) hown (mvT hZ (hw _ (List.mem_of_getElem? (i := 63) rfl))) (mvT hZ (hw _ (List.mem_of_getElem? (i := 64) rfl))) (mvT hZ (hw _ (List.mem_of_getElem? (i := 11) rfl))) (mvT hZ (hw _ (List.mem_of_getElem? (i := 65) rfl))) (by decide) (backOf (W := 0) (rm23 l Z a0 hw [] a3 pn kb cf n h0 n0 Z0 A_b E_b hn hn4 hcs) hZ (hw _ (List.mem_of_getElem? (i := 65) rfl)) (hw _ (List.mem_of_getElem? (i := 11) rfl)) (by decide) (by decide)) (g := (mkF m 36 #[.val (.ref wA), .val (.int (0 : Int32)), .val (.ref a3)] [(.ref a3), (.int (0 : Int32))])) rfl (by rw [hml]; rfl) (argsL := [(.int (0 : Int32)), (.ref a3)]) (rest := []) (lenOf pd_5 rfl) rfl (by show 2 * 0 + _ ≤ _; exact Nat.le_of_eq rfl) (hb hby d24_36) (fun _ _ => ⟨rfl, e8, (by decide : 0 + 1 ≤ _), (by decide : 0 + 4 ≤ _)⟩)
  dsimp only [Pt.U, Pt.locs, Pt.cells, Pt.slots] at X11 l11 y11 z11 st11 hQ11
  subst l11 y11 z11
  obtain ⟨b_11, rfl, N11q, K11, s11_b, Y11_0, Y11_1⟩ := hQ11
  have F12 : own_Af Z T11.heap a3 kb .byte pn (fun i => Value.int (cf i)) := A_b.keep K11 nin0
  have F13 : Exa Z T11.heap a3 "[B" := E_b.keep K11
  have Z14 : n0 ≤ T11.heap.size := Nat.le_trans Z0 K11.1
  have K15 : Keep h0 T11.heap [] := K0.trans K11 all0
  have g_b_11 : n0 ≤ b_11 := Nat.le_trans Z0 s11_b
  have sz_b_11 : h0.size ≤ b_11 := Nat.le_trans K0.1 s11_b
  have ne_a3_b_11 : a3 ≠ b_11 := Nat.ne_of_lt (Nat.lt_of_lt_of_le A_b.lt s11_b)
  have N11 := Fr.app N0 N11q
  have P16 : ∀ t, Steps p.tables e below (T11.setTop (mkF m 39 #[.val (.ref wA), .val (.int (0 : Int32)), .val (.ref a3)] [(.ref b_11)])) t → Steps p.tables e below (s₁.setTop (entryFrame m #[(.ref wA), (.int (0 : Int32)), (.ref a3)] 3)) t := fun t k => P10 _ (st11 _ k)
  obtain ⟨fs, hr, hrun, hended, hW, hsame⟩ := X11.leave (v := some (.ref b_11)) (fun h => by rw [Bd.returns] at h; cases h)
  refine ⟨_, _, P16 _ ?_, hrun, hended, _, _, rfl, ?_, ⟨_, rfl⟩, hW, hsame.mono (by decide) (by decide)⟩
  · jvm_step X11.here [X11.here.top, hx, (hb hby d24_39), X11.method', Bd.returns, Value.isRef, FieldType.isReference]
    first | (intro acts; rw [hr _ acts rfl rfl rfl]) | rw [hr _ _ rfl rfl rfl]
    exact Steps.refl _
  · show Q24 Z wA a3 pn kb cf n wU wI h0 n0 _ T11.heap _
    exact ⟨b_11, rfl, N11, K15, sz_b_11, Y11_0, Y11_1⟩
theorem d25_0 : decode jdk_42_method_64_code 0 = .ok (.aload_n 1, 1) := by decide +kernel
theorem d25_1 : decode jdk_42_method_64_code 1 = .ok (.ifnonnull 11, 3) := by decide +kernel
theorem d25_12 : decode jdk_42_method_64_code 12 = .ok (.aload_n 1, 1) := by decide +kernel
theorem d25_13 : decode jdk_42_method_64_code 13 = .ok (.aload_n 0, 1) := by decide +kernel
theorem d25_14 : decode jdk_42_method_64_code 14 = .ok (.invokevirtual 335, 3) := by decide +kernel
theorem d25_17 : decode jdk_42_method_64_code 17 = .ok (.aload_n 0, 1) := by decide +kernel
theorem d25_18 : decode jdk_42_method_64_code 18 = .ok (.getfield 9, 3) := by decide +kernel
theorem d25_21 : decode jdk_42_method_64_code 21 = .ok (.invokestatic 535, 3) := by decide +kernel
theorem d25_24 : decode jdk_42_method_64_code 24 = .ok (.areturn, 1) := by decide +kernel
theorem pn_25 : plainName "java/lang/String" = true := by first | (simp [plainName, overriddenIn]; done) | decide +kernel
theorem ef_25 (m : MethodId) (x0 : Addr) (x1 : Addr) : entryFrame m #[(.ref x0), (.ref x1)] 2 = mkF m 0 #[.val (.ref x0), .val (.ref x1)] [] := by first | (simp [entryFrame, mkF, argsToLocals, Value.category]; done) | rfl
def Q25 (Z : State) (a1 : Addr) (wA : Addr) (bv : Addr) (pn : Int32) (kb : ClassId) (cf : Nat → Int32) (n : Nat) (wU : Addr) (wI : Addr) (ccs : Int32) (h0 : Heap) (n0 : Nat) (v : Option Value) (h : Heap) (L : List Loc) : Prop := ∃ (b : Addr), v = some (.ref b) ∧ Fr n0 L ∧ Keep h0 h [] ∧ h0.size ≤ b ∧ own_Af Z h b kb .byte pn (fun i => Value.int (cf i)) ∧ Exa Z h b "[B"
set_option maxRecDepth 65536 in
set_option maxHeartbeats 40000000 in
theorem rm25 (l : Launch) (Z : State) (a0 : Array Value) (hw : ∀ d ∈ tables_1, d.before a0 Z = true) (ws : List Jvm.Cond) (a1 : Addr) (wA : Addr) (bv : Addr) (pn : Int32) (kb : ClassId) (cf : Nat → Int32) (n : Nat) (wU : Addr) (wI : Addr) (ccs : Int32) (h0 : Heap) (n0 : Nat) (Z0 : n0 ≤ h0.size) (E_a : Exa Z h0 a1 "java/lang/String") (F_v : Fld Z h0 a1 "java/lang/String" "value" "[B" (.ref bv)) (F_k : Fld Z h0 a1 "java/lang/String" "coder" "B" (.int (0 : Int32))) (A_b : own_Af Z h0 bv kb .byte pn (fun i => Value.int (cf i))) (E_b : Exa Z h0 bv "[B") (hn : pn.toInt = n) (hn4 : n ≤ 4) (hcs : own_cs pn cf) (S_wU : Sta Z h0 "sun/nio/cs/UTF_8" "INSTANCE" "Lsun/nio/cs/UTF_8;" (.ref wU)) (S_wI : Sta Z h0 "sun/nio/cs/ISO_8859_1" "INSTANCE" "Lsun/nio/cs/ISO_8859_1;" (.ref wI)) (S_wA : Sta Z h0 "sun/nio/cs/US_ASCII" "INSTANCE" "Lsun/nio/cs/US_ASCII;" (.ref wA)) (neU : ¬ wA = wU) (neI : ¬ wA = wI) (S_cs : Sta Z h0 "java/lang/String" "COMPACT_STRINGS" "Z" (.int ccs)) (hcc : ¬ ccs = (0 : Int32)) :
    MetFree l (⟨"java/lang/String", "getBytes", "(Ljava/nio/charset/Charset;)[B"⟩ : MethodName) (head1 (Jvm.Cond.code (⟨"java/lang/String", "getBytes", "(Ljava/nio/charset/Charset;)[B"⟩ : MethodName) jdk_42_method_64_code 2 (some (.array .byte)) :: ws) ({ frames := 3, cells := 1, slots := 4, locals := 48 } : Room)) (fun a U => a = #[(.ref a1), (.ref wA)] ∧ Z.Warmed39 U.vm ∧ U.heap = h0) (fun _ _ _ _ _ => True) (fun _ U o U' => ∃ v L, o = .returned v ∧ Q25 Z a1 wA bv pn kb cf n wU wI ccs h0 n0 v U'.heap L ∧ FrameEnd U o U' L ({ frames := 3, cells := 1, slots := 4, locals := 48 } : Room).cells ({ frames := 3, cells := 1, slots := 4, locals := 48 } : Room).slots) := by
  refine MetFree.of_bodySF (plainFor_of_name pn_25) hisR ?_
  intro p e s m args below meth c s₁ Bd hml0 hP hK
  obtain ⟨rfl, hZ, hh⟩ := hP
  have hx := Bd.exec
  have hby := Bd.bytes
  have hml : c.maxLocals = 2 := hml0
  have hown : s.vm.findClass "java/lang/String" = some m.cls := findClass_of_methodNamed Bd.named
  have hnm := (name_of_methodNamed Bd.named Bd.method).1
  have X0 : Stand p l e ({ frames := 3, cells := 1, slots := 4, locals := 48 } : Room) s m #[(.ref a1), (.ref wA)] below meth c s₁ [] 0 0 := Stand.of_body Bd
  have e0 : s₁.heap = h0 := by rw [← hh, Bd.state]; rfl
  have N0 := Fr.nil n0
  have K0 : Keep h0 h0 [] := Keep.refl _ _
  have P0 : ∀ t, Steps p.tables e below (s₁.setTop (mkF m 0 #[.val (.ref a1), .val (.ref wA)] [])) t → Steps p.tables e below (s₁.setTop (entryFrame m #[(.ref a1), (.ref wA)] 2)) t := fun t k => castTop (ef_25 m a1 wA) k
  have P1 : ∀ t, Steps p.tables e below (s₁.setTop (mkF m 14 #[.val (.ref a1), .val (.ref wA)] [(.ref a1), (.ref wA)])) t → Steps p.tables e below (s₁.setTop (entryFrame m #[(.ref a1), (.ref wA)] 2)) t := by
    intro t k
    refine P0 _ ?_
    refine XS.aloadN X0.here hx rfl (hb hby d25_0) rfl rfl ?_
    show Steps p.tables e below (s₁.setTop (mkF m 1 #[.val (.ref a1), .val (.ref wA)] [(.ref wA)])) _
    refine XT.ifnonnullYes X0.here hx rfl (pc0 := 1) (pc' := 12) rfl (hb hby d25_1) rfl (by decide) (by decide) ?_
    show Steps p.tables e below (s₁.setTop (mkF m 12 #[.val (.ref a1), .val (.ref wA)] [])) _
    refine XS.aloadN X0.here hx rfl (hb hby d25_12) rfl rfl ?_
    show Steps p.tables e below (s₁.setTop (mkF m 13 #[.val (.ref a1), .val (.ref wA)] [(.ref wA)])) _
    refine XS.aloadN X0.here hx rfl (hb hby d25_13) rfl rfl ?_
    show Steps p.tables e below (s₁.setTop (mkF m 14 #[.val (.ref a1), .val (.ref wA)] [(.ref a1), (.ref wA)])) _
    exact k
  obtain ⟨cq2, kq2, qa2, qb2, qc2⟩ := isOf hZ e0 E_a
  obtain ⟨_, _, ⟨T2, L2, k2, n2⟩, -, X2, ⟨Lc2, hQ2, l2, y2, z2⟩, st2⟩ := X0.virtualBack hx (y := (⟨"java/lang/String", "coder", "()B"⟩ : MethodName)) (z := (⟨"java/lang/String", "coder", "()B"⟩ : MethodName)) hown (mvT hZ (hw _ (List.mem_of_getElem? (i := 49) rfl))) (mvT hZ (hw _ (List.mem_of_getElem? (i := 50) rfl))) (notFace_of_selects (args := #[]) (mvT hZ (hw _ (List.mem_of_getElem? (i := 52) rfl)))) (mvT hZ (hw _ (List.mem_of_getElem? (i := 52) rfl))) (mvT hZ (hw _ (List.mem_of_getElem? (i := 51) rfl))) (by decide) (backOf (W := 1) (rm21 l Z a0 hw [] a1 ccs h0 n0 Z0 F_k S_cs hcc) hZ (hw _ (List.mem_of_getElem? (i := 53) rfl)) (hw _ (List.mem_of_getElem? (i := 11) rfl)) (by decide) (by decide)) qa2 qc2 (g := (mkF m 14 #[.val (.ref a1), .val (.ref wA)] [(.ref a1), (.ref wA)])) rfl (by rw [hml]; rfl) (Steps.refl _) (argsL := []) (rest := [(.ref wA)]) (lenOf pd_6 rfl) rfl (by show 2 * 0 + _ ≤ _; exact Nat.le_of_eq rfl) (hb hby d25_14) (fun _ _ => ⟨rfl, e0, (by decide : 0 + 0 ≤ _), (by decide : 0 + 0 ≤ _)⟩)
  dsimp only [Pt.U, Pt.locs, Pt.cells, Pt.slots] at X2 l2 y2 z2 st2 hQ2
  subst l2 y2 z2
  obtain ⟨rfl, N2q, e2⟩ := hQ2
  have N2 := Fr.app N0 N2q
  have P3 : ∀ t, Steps p.tables e below (T2.setTop (mkF m 17 #[.val (.ref a1), .val (.ref wA)] [(.int (0 : Int32)), (.ref wA)])) t → Steps p.tables e below (s₁.setTop (entryFrame m #[(.ref a1), (.ref wA)] 2)) t := fun t k => P1 _ (st2.trans k)
  have P4 : ∀ t, Steps p.tables e below (T2.setTop (mkF m 18 #[.val (.ref a1), .val (.ref wA)] [(.ref a1), (.int (0 : Int32)), (.ref wA)])) t → Steps p.tables e below (s₁.setTop (entryFrame m #[(.ref a1), (.ref wA)] 2)) t := by
    intro t k
    refine P3 _ ?_
    refine XS.aloadN X2.here hx rfl (hb hby d25_17) rfl rfl ?_
    show Steps p.tables e below (T2.setTop (mkF m 18 #[.val (.ref a1), .val (.ref wA)] [(.ref a1), (.int (0 : Int32)), (.ref wA)])) _
    exact k
  obtain ⟨T5, X5, e5, st5⟩ := getF X2 hx hZ hown (host := "") (Or.inl (hw _ (List.mem_of_getElem? (i := 36) rfl))) Via.refl e2 F_v (g := (mkF m 18 #[.val (.ref a1), .val (.ref wA)] [(.ref a1), (.int (0 : Int32)), (.ref wA)])) rfl rfl (hb hby d25_18)
  have P6 : ∀ t, Steps p.tables e below (T5.setTop (mkF m 21 #[.val (.ref a1), .val (.ref wA)] [(.ref bv), (.int (0 : Int32)), (.ref wA)])) t → Steps p.tables e below (s₁.setTop (entryFrame m #[(.ref a1), (.ref wA)] 2)) t := fun t k => P4 _ (st5 _ k)
  obtain ⟨_, _, ⟨T7, L7, k7, n7⟩, -, X7, ⟨Lc7, hQ7, l7, y7, z7⟩, st7⟩ := Jvm.LawKit.callS X5 hx (y := (⟨"java/lang/String", "encode", "(Ljava/nio/charset/Charset;B[B)[B"⟩ : MethodName)) hown (mvT hZ (hw _ (List.mem_of_getElem? (i := 54) rfl))) (mvT hZ (hw _ (List.mem_of_getElem? (i := 55) rfl))) (mvT hZ (hw _ (List.mem_of_getElem? (i := 11) rfl))) (mvT hZ (hw _ (List.mem_of_getElem? (i := 56) rfl))) (by decide) (backOf (W := 0) (rm24 l Z a0 hw [] wA bv pn kb cf n wU wI h0 n0 Z0 A_b E_b hn hn4 hcs S_wU S_wI S_wA neU neI) hZ (hw _ (List.mem_of_getElem? (i := 56) rfl)) (hw _ (List.mem_of_getElem? (i := 11) rfl)) (by decide) (by decide)) (g := (mkF m 21 #[.val (.ref a1), .val (.ref wA)] [(.ref bv), (.int (0 : Int32)), (.ref wA)])) rfl (by rw [hml]; rfl) (argsL := [(.ref wA), (.int (0 : Int32)), (.ref bv)]) (rest := []) (lenOf pd_7 rfl) rfl (by show 2 * 0 + _ ≤ _; exact Nat.le_of_eq rfl) (hb hby d25_21) (fun _ _ => ⟨rfl, e5, (by decide : 0 + 1 ≤ _), (by decide : 0 + 4 ≤ _)⟩)
  dsimp only [Pt.U, Pt.locs, Pt.cells, Pt.slots] at X7 l7 y7 z7 st7 hQ7
  subst l7 y7 z7
  obtain ⟨b_7, rfl, N7q, K7, s7_b, Y7_0, Y7_1⟩ := hQ7
  have F8 : Exa Z T7.heap a1 "java/lang/String" := E_a.keep K7
  have F9 : Fld Z T7.heap a1 "java/lang/String" "value" "[B" (.ref bv) := F_v.keep K7 nin0
  have F10 : Fld Z T7.heap a1 "java/lang/String" "coder" "B" (.int (0 : Int32)) := F_k.keep K7 nin0
  have F11 : own_Af Z T7.heap bv kb .byte pn (fun i => Value.int (cf i)) := A_b.keep K7 nin0
  have F12 : Exa Z T7.heap bv "[B" := E_b.keep K7
  have Z13 : n0 ≤ T7.heap.size := Nat.le_trans Z0 K7.1
  have K14 : Keep h0 T7.heap [] := K0.trans K7 all0
  have g_b_7 : n0 ≤ b_7 := Nat.le_trans Z0 s7_b
  have sz_b_7 : h0.size ≤ b_7 := Nat.le_trans K0.1 s7_b
  have ne_a1_b_7 : a1 ≠ b_7 := Nat.ne_of_lt (Nat.lt_of_lt_of_le E_a.lt s7_b)
  have ne_bv_b_7 : bv ≠ b_7 := Nat.ne_of_lt (Nat.lt_of_lt_of_le A_b.lt s7_b)
  have N7 := Fr.app N2 N7q
  have P15 : ∀ t, Steps p.tables e below (T7.setTop (mkF m 24 #[.val (.ref a1), .val (.ref wA)] [(.ref b_7)])) t → Steps p.tables e below (s₁.setTop (entryFrame m #[(.ref a1), (.ref wA)] 2)) t := fun t k => P6 _ (st7 _ k)
  obtain ⟨fs, hr, hrun, hended, hW, hsame⟩ := X7.leave (v := some (.ref b_7)) (fun h => by rw [Bd.returns] at h; cases h)
  refine ⟨_, _, P15 _ ?_, hrun, hended, _, _, rfl, ?_, ⟨_, rfl⟩, hW, hsame.mono (by decide) (by decide)⟩
  · jvm_step X7.here [X7.here.top, hx, (hb hby d25_24), X7.method', Bd.returns, Value.isRef, FieldType.isReference]
    first | (intro acts; rw [hr _ acts rfl rfl rfl]) | rw [hr _ _ rfl rfl rfl]
    exact Steps.refl _
  · show Q25 Z a1 wA bv pn kb cf n wU wI ccs h0 n0 _ T7.heap _
    exact ⟨b_7, rfl, N7, K14, sz_b_7, Y7_0, Y7_1⟩
theorem d26_0 : decode jdk_65_method_109_code 0 = .ok (.iconst 0, 1) := by decide +kernel
theorem d26_1 : decode jdk_65_method_109_code 1 = .ok (.istore_n 2, 1) := by decide +kernel
theorem d26_2 : decode jdk_65_method_109_code 2 = .ok (.aload_n 0, 1) := by decide +kernel
theorem d26_3 : decode jdk_65_method_109_code 3 = .ok (.arraylength, 1) := by decide +kernel
theorem d26_4 : decode jdk_65_method_109_code 4 = .ok (.istore_n 3, 1) := by decide +kernel
theorem d26_5 : decode jdk_65_method_109_code 5 = .ok (.iload_n 2, 1) := by decide +kernel
theorem d26_6 : decode jdk_65_method_109_code 6 = .ok (.iload_n 3, 1) := by decide +kernel
theorem d26_7 : decode jdk_65_method_109_code 7 = .ok (.if_icmp .ge 13, 3) := by decide +kernel
theorem d26_10 : decode jdk_65_method_109_code 10 = .ok (.aload_n 0, 1) := by decide +kernel
theorem d26_11 : decode jdk_65_method_109_code 11 = .ok (.iload_n 2, 1) := by decide +kernel
theorem d26_12 : decode jdk_65_method_109_code 12 = .ok (.iload_n 1, 1) := by decide +kernel
theorem d26_13 : decode jdk_65_method_109_code 13 = .ok (.bastore, 1) := by decide +kernel
theorem d26_14 : decode jdk_65_method_109_code 14 = .ok (.iinc 2 1, 3) := by decide +kernel
theorem d26_17 : decode jdk_65_method_109_code 17 = .ok (.goto (-12), 3) := by decide +kernel
theorem d26_20 : decode jdk_65_method_109_code 20 = .ok (.return_, 1) := by decide +kernel
set_option maxRecDepth 65536 in
set_option maxHeartbeats 40000000 in
theorem tn26 {p : Program} {l : Launch} {e : Env} {R : Room} {s : State} {m : MethodId} {args : Array Value} {below : List Frame} {meth : Method} {c : Code} {T : State} {locs : List Loc} {cells slots : Nat} {Z : State} {a0 : Array Value} {h0 : Heap} {n0 : Nat} (a1 : Addr) (p2 : Int32) (iv : Int32) (pn : Int32) (kb : ClassId) (f3 : Nat → Value) (vb : Int32)
    (X0 : Stand p l e R s m args below meth c T locs cells slots) (hx : p.tables.exec = Jvm.exec) (hZ : Z.Warmed39 s.vm) (hw : ∀ d ∈ tables_1, d.before a0 Z = true) (hby : c.code = jdk_65_method_109_code) (hml : c.maxLocals = 4) (hown : s.vm.findClass "java/util/Arrays" = some m.cls) (e0 : T.heap = h0) (N0 : Fr n0 locs) (Z0 : n0 ≤ h0.size) (A_b : own_Af Z h0 a1 kb .byte pn f3) (g_b : n0 ≤ a1) (hlt : iv < pn) (hj : ¬ iv < (0 : Int32) ∧ iv < pn) (hvb : nar .byte p2 = vb) :
    ∃ (T' : State) (h' : Heap) (locs' : List Loc), Stand p l e R s m args below meth c T' locs' cells slots ∧ T'.heap = h' ∧ Fr n0 locs' ∧ Keep h0 h' [a1] ∧ own_Af Z h' a1 kb .byte pn (fun i => if i = (iv).toNatClampNeg then (.int vb) else f3 i) ∧
      ∀ t, Steps p.tables e below (T'.setTop (mkF m 5 #[.val (.ref a1), .val (.int p2), .val (.int (iv + (1 : Int32))), .val (.int pn)] [])) t → Steps p.tables e below (T.setTop (mkF m 5 #[.val (.ref a1), .val (.int p2), .val (.int iv), .val (.int pn)] [])) t := by
  have K0 : Keep h0 h0 [a1] := Keep.refl _ _
  have P0 : ∀ t, Steps p.tables e below (T.setTop (mkF m 5 #[.val (.ref a1), .val (.int p2), .val (.int iv), .val (.int pn)] [])) t → Steps p.tables e below (T.setTop (mkF m 5 #[.val (.ref a1), .val (.int p2), .val (.int iv), .val (.int pn)] [])) t := fun t k => k
  have P1 : ∀ t, Steps p.tables e below (T.setTop (mkF m 13 #[.val (.ref a1), .val (.int p2), .val (.int iv), .val (.int pn)] [(.int p2), (.int iv), (.ref a1)])) t → Steps p.tables e below (T.setTop (mkF m 5 #[.val (.ref a1), .val (.int p2), .val (.int iv), .val (.int pn)] [])) t := by
    intro t k
    refine P0 _ ?_
    refine XS.iloadN X0.here hx rfl (hb hby d26_5) rfl ?_
    show Steps p.tables e below (T.setTop (mkF m 6 #[.val (.ref a1), .val (.int p2), .val (.int iv), .val (.int pn)] [(.int iv)])) _
    refine XS.iloadN X0.here hx rfl (hb hby d26_6) rfl ?_
    show Steps p.tables e below (T.setTop (mkF m 7 #[.val (.ref a1), .val (.int p2), .val (.int iv), .val (.int pn)] [(.int pn), (.int iv)])) _
    refine XS.icmpNo X0.here hx rfl (hb hby d26_7) rfl (XT.ii_ge_f hlt) ?_
    show Steps p.tables e below (T.setTop (mkF m 10 #[.val (.ref a1), .val (.int p2), .val (.int iv), .val (.int pn)] [])) _
    refine XS.aloadN X0.here hx rfl (hb hby d26_10) rfl rfl ?_
    show Steps p.tables e below (T.setTop (mkF m 11 #[.val (.ref a1), .val (.int p2), .val (.int iv), .val (.int pn)] [(.ref a1)])) _
    refine XS.iloadN X0.here hx rfl (hb hby d26_11) rfl ?_
    show Steps p.tables e below (T.setTop (mkF m 12 #[.val (.ref a1), .val (.int p2), .val (.int iv), .val (.int pn)] [(.int iv), (.ref a1)])) _
    refine XS.iloadN X0.here hx rfl (hb hby d26_12) rfl ?_
    show Steps p.tables e below (T.setTop (mkF m 13 #[.val (.ref a1), .val (.int p2), .val (.int iv), .val (.int pn)] [(.int p2), (.int iv), (.ref a1)])) _
    exact k
  obtain ⟨cl2, Ar2, q2, S2, M2, H2, G2⟩ := A_b
  have in2 : ¬ (iv < 0 ∨ cl2.slots.size ≤ (iv).toNatClampNeg) := inb_of S2 hj
  obtain ⟨T2, h2, X2, e2, W2, st2⟩ := stB X0 hx hZ e0 Ar2 (j := iv) in2 (g := (mkF m 13 #[.val (.ref a1), .val (.int p2), .val (.int iv), .val (.int pn)] [(.int p2), (.int iv), (.ref a1)])) rfl rfl (hb hby d26_13)
  have r2 : nar .byte p2 = vb := hvb
  rw [r2] at W2
  have F3 : own_Af Z h2 a1 kb .byte pn (fun i => if i = (iv).toNatClampNeg then (.int vb) else f3 i) := own_Af.set Ar2 q2 S2 M2 H2 G2 (by rw [← r2]; exact fits_nar_byte _) W2 (Nat.lt_of_not_le fun y => in2 (Or.inr y))
  have Z4 : n0 ≤ h2.size := Nat.le_trans Z0 (Keep.of_wr W2).1
  have K5 : Keep h0 h2 [a1] := K0.wr W2 (Or.inl (List.mem_of_getElem? (i := 0) rfl))
  have N2 := Fr.snoc X2 N0 g_b
  have P6 : ∀ t, Steps p.tables e below (T2.setTop (mkF m 14 #[.val (.ref a1), .val (.int p2), .val (.int iv), .val (.int pn)] [])) t → Steps p.tables e below (T.setTop (mkF m 5 #[.val (.ref a1), .val (.int p2), .val (.int iv), .val (.int pn)] [])) t := fun t k => P1 _ (st2 _ k)
  have P7 : ∀ t, Steps p.tables e below (T2.setTop (mkF m 5 #[.val (.ref a1), .val (.int p2), .val (.int (iv + (1 : Int32))), .val (.int pn)] [])) t → Steps p.tables e below (T.setTop (mkF m 5 #[.val (.ref a1), .val (.int p2), .val (.int iv), .val (.int pn)] [])) t := by
    intro t k
    refine P6 _ ?_
    refine XS.iinc X2.here hx rfl (hb hby d26_14) rfl (l' := #[.val (.ref a1), .val (.int p2), .val (.int (iv + (1 : Int32))), .val (.int pn)]) rfl ?_
    show Steps p.tables e below (T2.setTop (mkF m 17 #[.val (.ref a1), .val (.int p2), .val (.int (iv + (1 : Int32))), .val (.int pn)] [])) _
    refine XS.goto X2.here hx rfl (pc0 := 17) (pc' := 5) rfl (hb hby d26_17) (by decide) (by decide) ?_
    show Steps p.tables e below (T2.setTop (mkF m 5 #[.val (.ref a1), .val (.int p2), .val (.int (iv + (1 : Int32))), .val (.int pn)] [])) _
    exact k
  exact ⟨T2, h2, _, X2, e2, N2, K5, F3, P7⟩
set_option maxRecDepth 65536 in
set_option maxHeartbeats 40000000 in
theorem lv26 {p : Program} {l : Launch} {e : Env} {R : Room} {s : State} {m : MethodId} {args : Array Value} {below : List Frame} {meth : Method} {c : Code} {T : State} {locs : List Loc} {cells slots : Nat} {Z : State} {a0 : Array Value} {h0 : Heap} (a1 : Addr) (p2 : Int32) (iv : Int32) (pn : Int32)
    (X0 : Stand p l e R s m args below meth c T locs cells slots) (hx : p.tables.exec = Jvm.exec) (hZ : Z.Warmed39 s.vm) (hw : ∀ d ∈ tables_1, d.before a0 Z = true) (hby : c.code = jdk_65_method_109_code) (hown : s.vm.findClass "java/util/Arrays" = some m.cls) (e0 : T.heap = h0) (hge : ¬ iv < pn) :
    ∀ t, Steps p.tables e below (T.setTop (mkF m 20 #[.val (.ref a1), .val (.int p2), .val (.int iv), .val (.int pn)] [])) t → Steps p.tables e below (T.setTop (mkF m 5 #[.val (.ref a1), .val (.int p2), .val (.int iv), .val (.int pn)] [])) t := by
  intro t k
  refine XS.iloadN X0.here hx rfl (hb hby d26_5) rfl ?_
  show Steps p.tables e below (T.setTop (mkF m 6 #[.val (.ref a1), .val (.int p2), .val (.int iv), .val (.int pn)] [(.int iv)])) _
  refine XS.iloadN X0.here hx rfl (hb hby d26_6) rfl ?_
  show Steps p.tables e below (T.setTop (mkF m 7 #[.val (.ref a1), .val (.int p2), .val (.int iv), .val (.int pn)] [(.int pn), (.int iv)])) _
  refine XS.icmpYes X0.here hx rfl (pc0 := 7) (pc' := 20) rfl (hb hby d26_7) rfl (XT.ii_ge_t hge) (by decide) (by decide) ?_
  show Steps p.tables e below (T.setTop (mkF m 20 #[.val (.ref a1), .val (.int p2), .val (.int iv), .val (.int pn)] [])) _
  exact k
set_option maxRecDepth 65536 in
theorem loop26 {p : Program} {l : Launch} {e : Env} {R : Room} {s : State} {m : MethodId} {args : Array Value} {below : List Frame} {meth : Method} {c : Code} {Z : State} {a0 : Array Value} {n0 : Nat} {cells slots : Nat} (a1 : Addr) (p2 pn : Int32) (kb : ClassId) (vb : Int32) (n : Nat) (hx : p.tables.exec = Jvm.exec) (hZ : Z.Warmed39 s.vm) (hw : ∀ d ∈ tables_1, d.before a0 Z = true) (hby : c.code = jdk_65_method_109_code) (hml : c.maxLocals = 4) (hown : s.vm.findClass "java/util/Arrays" = some m.cls) (hn : pn.toInt = n) (hn4 : n < 5000) (g_b : n0 ≤ a1) (hvb : nar .byte p2 = vb) (k : Nat) :
    ∀ (T : State) (locs : List Loc) (h0 : Heap) (i : Nat) (iv : Int32) (f3 : Nat → Value), Stand p l e R s m args below meth c T locs cells slots → T.heap = h0 → Fr n0 locs → n0 ≤ h0.size → own_Af Z h0 a1 kb .byte pn f3 → i + k = n → iv.toInt = i → (∀ j, j < i → f3 j = .int vb) →
      ∃ (T' : State) (h' : Heap) (locs' : List Loc) (jv : Int32), Stand p l e R s m args below meth c T' locs' cells slots ∧ T'.heap = h' ∧ Fr n0 locs' ∧ Keep h0 h' [a1] ∧ own_Af Z h' a1 kb .byte pn (fun _ => Value.int vb) ∧
        ∀ t, Steps p.tables e below (T'.setTop (mkF m 20 #[.val (.ref a1), .val (.int p2), .val (.int jv), .val (.int pn)] [])) t → Steps p.tables e below (T.setTop (mkF m 5 #[.val (.ref a1), .val (.int p2), .val (.int iv), .val (.int pn)] [])) t := by
  induction k with
  | zero =>
    intro T locs h0 i iv f3 X0 e0 N0 Z0 A_b h1 h2 h3
    refine ⟨T, h0, locs, iv, X0, e0, N0, Keep.refl _ _, A_b.same (fun j hj => (h3 j (by rw [own_nat hn] at hj; omega)).symm), ?_⟩
    exact lv26 a1 p2 iv pn X0 hx hZ hw hby hown e0 (by rw [Int32.lt_iff_toInt_lt]; omega)
  | succ k ih =>
    intro T locs h0 i iv f3 X0 e0 N0 Z0 A_b h1 h2 h3
    have hj : ¬ iv < (0 : Int32) ∧ iv < pn := own_jn (by omega) (by omega)
    obtain ⟨T1, h1', locs1, X1, e1, N1, K1, B1, st1⟩ := tn26 a1 p2 iv pn kb f3 vb X0 hx hZ hw hby hml hown e0 N0 Z0 A_b g_b hj.2 hj hvb
    obtain ⟨T2, h2', locs2, jv, X2, e2, N2, K2, B2, st2⟩ := ih T1 locs1 h1' (i + 1) (iv + (1 : Int32)) _ X1 e1 N1 (Nat.le_trans Z0 K1.1) B1 (by omega) (own_inc h2 (by omega)) (fun j hj' => by
      rw [own_nat h2]
      by_cases q : j = i
      · simp [q]
      · simp only [q, if_false]; exact h3 j (by omega))
    exact ⟨T2, h2', locs2, jv, X2, e2, N2, K1.trans K2 (fun x hx' => Or.inl hx'), B2, fun t kk => st1 t (st2 t kk)⟩
theorem pn_26 : plainName "java/util/Arrays" = true := by first | (simp [plainName, overriddenIn]; done) | decide +kernel
theorem ef_26 (m : MethodId) (x0 : Addr) (x1 : Int32) : entryFrame m #[(.ref x0), (.int x1)] 4 = mkF m 0 #[.val (.ref x0), .val (.int x1), .unset, .unset] [] := by first | (simp [entryFrame, mkF, argsToLocals, Value.category]; done) | rfl
def Q26 (Z : State) (a1 : Addr) (p2 : Int32) (pn : Int32) (kb : ClassId) (f3 : Nat → Value) (vb : Int32) (n : Nat) (h0 : Heap) (n0 : Nat) (v : Option Value) (h : Heap) (L : List Loc) : Prop := v = none ∧ Fr n0 L ∧ Keep h0 h [a1] ∧ own_Af Z h a1 kb .byte pn (fun _ => Value.int vb)
set_option maxRecDepth 65536 in
set_option maxHeartbeats 40000000 in
theorem rm26 (l : Launch) (Z : State) (a0 : Array Value) (hw : ∀ d ∈ tables_1, d.before a0 Z = true) (ws : List Jvm.Cond) (a1 : Addr) (p2 : Int32) (pn : Int32) (kb : ClassId) (f3 : Nat → Value) (vb : Int32) (n : Nat) (h0 : Heap) (n0 : Nat) (Z0 : n0 ≤ h0.size) (A_b : own_Af Z h0 a1 kb .byte pn f3) (g_b : n0 ≤ a1) (hn : pn.toInt = n) (hn4 : n < 5000) (hvb : nar .byte p2 = vb) :
    MetFree l (⟨"java/util/Arrays", "fill", "([BB)V"⟩ : MethodName) (head1 (Jvm.Cond.code (⟨"java/util/Arrays", "fill", "([BB)V"⟩ : MethodName) jdk_65_method_109_code 4 none :: ws) ({ frames := 0, cells := 0, slots := 0, locals := 0 } : Room)) (fun a U => a = #[(.ref a1), (.int p2)] ∧ Z.Warmed39 U.vm ∧ U.heap = h0) (fun _ _ _ _ _ => True) (fun _ U o U' => ∃ v L, o = .returned v ∧ Q26 Z a1 p2 pn kb f3 vb n h0 n0 v U'.heap L ∧ FrameEnd U o U' L ({ frames := 0, cells := 0, slots := 0, locals := 0 } : Room).cells ({ frames := 0, cells := 0, slots := 0, locals := 0 } : Room).slots) := by
  refine MetFree.of_bodySF (plainFor_of_name pn_26) hisR ?_
  intro p e s m args below meth c s₁ Bd hml0 hP hK
  obtain ⟨rfl, hZ, hh⟩ := hP
  have hx := Bd.exec
  have hby := Bd.bytes
  have hml : c.maxLocals = 4 := hml0
  have hown : s.vm.findClass "java/util/Arrays" = some m.cls := findClass_of_methodNamed Bd.named
  have hnm := (name_of_methodNamed Bd.named Bd.method).1
  have X0 : Stand p l e ({ frames := 0, cells := 0, slots := 0, locals := 0 } : Room) s m #[(.ref a1), (.int p2)] below meth c s₁ [] 0 0 := Stand.of_body Bd
  have e0 : s₁.heap = h0 := by rw [← hh, Bd.state]; rfl
  have N0 := Fr.nil n0
  have K0 : Keep h0 h0 [a1] := Keep.refl _ _
  have P0 : ∀ t, Steps p.tables e below (s₁.setTop (mkF m 0 #[.val (.ref a1), .val (.int p2), .unset, .unset] [])) t → Steps p.tables e below (s₁.setTop (entryFrame m #[(.ref a1), (.int p2)] 4)) t := fun t k => castTop (ef_26 m a1 p2) k
  have P1 : ∀ t, Steps p.tables e below (s₁.setTop (mkF m 5 #[.val (.ref a1), .val (.int p2), .val (.int (0 : Int32)), .val (.int pn)] [])) t → Steps p.tables e below (s₁.setTop (entryFrame m #[(.ref a1), (.int p2)] 4)) t := by
    intro t k
    refine P0 _ ?_
    refine XS.iconst X0.here hx rfl (hb hby d26_0) ?_
    show Steps p.tables e below (s₁.setTop (mkF m 1 #[.val (.ref a1), .val (.int p2), .unset, .unset] [(.int (0 : Int32))])) _
    refine XS.istoreN X0.here hx rfl (hb hby d26_1) rfl (l' := #[.val (.ref a1), .val (.int p2), .val (.int (0 : Int32)), .unset]) rfl ?_
    show Steps p.tables e below (s₁.setTop (mkF m 2 #[.val (.ref a1), .val (.int p2), .val (.int (0 : Int32)), .unset] [])) _
    refine XS.aloadN X0.here hx rfl (hb hby d26_2) rfl rfl ?_
    show Steps p.tables e below (s₁.setTop (mkF m 3 #[.val (.ref a1), .val (.int p2), .val (.int (0 : Int32)), .unset] [(.ref a1)])) _
    refine own_flen X0 hx hZ e0 A_b rfl rfl (hb hby d26_3) ?_
    show Steps p.tables e below (s₁.setTop (mkF m 4 #[.val (.ref a1), .val (.int p2), .val (.int (0 : Int32)), .unset] [(.int pn)])) _
    refine XS.istoreN X0.here hx rfl (hb hby d26_4) rfl (l' := #[.val (.ref a1), .val (.int p2), .val (.int (0 : Int32)), .val (.int pn)]) rfl ?_
    show Steps p.tables e below (s₁.setTop (mkF m 5 #[.val (.ref a1), .val (.int p2), .val (.int (0 : Int32)), .val (.int pn)] [])) _
    exact k
  obtain ⟨T2, h2, lo2, jv, X2, e2, N2, K2, A_b1, st2⟩ := loop26 a1 p2 pn kb vb n hx hZ hw hby hml hown hn hn4 g_b hvb n s₁ _ h0 0 (0 : Int32) f3 X0 e0 N0 Z0 A_b (by omega) rfl (fun j hj => absurd hj (Nat.not_lt_zero j))
  have P3 : ∀ t, Steps p.tables e below (T2.setTop (mkF m 20 #[.val (.ref a1), .val (.int p2), .val (.int jv), .val (.int pn)] [])) t → Steps p.tables e below (s₁.setTop (entryFrame m #[(.ref a1), (.int p2)] 4)) t := fun t k => P1 _ (st2 _ k)
  have Z4 : n0 ≤ h2.size := Nat.le_trans Z0 K2.1
  obtain ⟨fs, hr, hrun, hended, hW, hsame⟩ := X2.leave (v := none) (fun _ => rfl)
  refine ⟨_, _, P3 _ ?_, hrun, hended, _, _, rfl, ?_, ⟨_, rfl⟩, hW, hsame.mono (by decide) (by decide)⟩
  · exact X2.returnOut hx Bd.returns (hb hby d26_20) hr
  · show Q26 Z a1 p2 pn kb f3 vb n h0 n0 _ T2.heap _
    rw [e2]
    exact ⟨rfl, N2, K2, A_b1⟩
theorem d27_0 : decode prog_1_method_1_code 0 = .ok (.aload_n 0, 1) := by decide +kernel
theorem d27_1 : decode prog_1_method_1_code 1 = .ok (.invokespecial 3, 3) := by decide +kernel
theorem d27_4 : decode prog_1_method_1_code 4 = .ok (.aload_n 0, 1) := by decide +kernel
theorem d27_5 : decode prog_1_method_1_code 5 = .ok (.aload_n 1, 1) := by decide +kernel
theorem d27_6 : decode prog_1_method_1_code 6 = .ok (.getstatic 9, 3) := by decide +kernel
theorem d27_9 : decode prog_1_method_1_code 9 = .ok (.invokevirtual 15, 3) := by decide +kernel
theorem d27_12 : decode prog_1_method_1_code 12 = .ok (.putfield 21, 3) := by decide +kernel
theorem d27_15 : decode prog_1_method_1_code 15 = .ok (.aload_n 0, 1) := by decide +kernel
theorem d27_16 : decode prog_1_method_1_code 16 = .ok (.sipush 256, 3) := by decide +kernel
theorem d27_19 : decode prog_1_method_1_code 19 = .ok (.newarray .byte, 2) := by decide +kernel
theorem d27_21 : decode prog_1_method_1_code 21 = .ok (.putfield 27, 3) := by decide +kernel
theorem d27_24 : decode prog_1_method_1_code 24 = .ok (.aload_n 0, 1) := by decide +kernel
theorem d27_25 : decode prog_1_method_1_code 25 = .ok (.getfield 27, 3) := by decide +kernel
theorem d27_28 : decode prog_1_method_1_code 28 = .ok (.iconst (-1), 1) := by decide +kernel
theorem d27_29 : decode prog_1_method_1_code 29 = .ok (.invokestatic 30, 3) := by decide +kernel
theorem d27_32 : decode prog_1_method_1_code 32 = .ok (.iconst 0, 1) := by decide +kernel
theorem d27_33 : decode prog_1_method_1_code 33 = .ok (.istore_n 2, 1) := by decide +kernel
theorem d27_34 : decode prog_1_method_1_code 34 = .ok (.iload_n 2, 1) := by decide +kernel
theorem d27_35 : decode prog_1_method_1_code 35 = .ok (.aload_n 0, 1) := by decide +kernel
theorem d27_36 : decode prog_1_method_1_code 36 = .ok (.getfield 21, 3) := by decide +kernel
theorem d27_39 : decode prog_1_method_1_code 39 = .ok (.arraylength, 1) := by decide +kernel
theorem d27_40 : decode prog_1_method_1_code 40 = .ok (.if_icmp .ge 22, 3) := by decide +kernel
theorem d27_43 : decode prog_1_method_1_code 43 = .ok (.aload_n 0, 1) := by decide +kernel
theorem d27_44 : decode prog_1_method_1_code 44 = .ok (.getfield 27, 3) := by decide +kernel
theorem d27_47 : decode prog_1_method_1_code 47 = .ok (.aload_n 0, 1) := by decide +kernel
theorem d27_48 : decode prog_1_method_1_code 48 = .ok (.getfield 21, 3) := by decide +kernel
theorem d27_51 : decode prog_1_method_1_code 51 = .ok (.iload_n 2, 1) := by decide +kernel
theorem d27_52 : decode prog_1_method_1_code 52 = .ok (.baload, 1) := by decide +kernel
theorem d27_53 : decode prog_1_method_1_code 53 = .ok (.iload_n 2, 1) := by decide +kernel
theorem d27_54 : decode prog_1_method_1_code 54 = .ok (.i2b, 1) := by decide +kernel
theorem d27_55 : decode prog_1_method_1_code 55 = .ok (.bastore, 1) := by decide +kernel
theorem d27_56 : decode prog_1_method_1_code 56 = .ok (.iinc 2 1, 3) := by decide +kernel
theorem d27_59 : decode prog_1_method_1_code 59 = .ok (.goto (-25), 3) := by decide +kernel
theorem d27_62 : decode prog_1_method_1_code 62 = .ok (.return_, 1) := by decide +kernel
set_option maxRecDepth 65536 in
set_option maxHeartbeats 40000000 in
theorem tn27 {p : Program} {l : Launch} {e : Env} {R : Room} {s : State} {m : MethodId} {args : Array Value} {below : List Frame} {meth : Method} {c : Code} {T : State} {locs : List Loc} {cells slots : Nat} {Z : State} {a0 : Array Value} {h0 : Heap} {n0 : Nat} (a1 : Addr) (a2 : Addr) (iv : Int32) (bc : Addr) (bz : Addr) (pn : Int32) (kb : ClassId) (kz : ClassId) (cf : Nat → Int32) (f3 : Nat → Value)
    (X0 : Stand p l e R s m args below meth c T locs cells slots) (hx : p.tables.exec = Jvm.exec) (hZ : Z.Warmed39 s.vm) (hw : ∀ d ∈ tables_1, d.before a0 Z = true) (hby : c.code = prog_1_method_1_code) (hml : c.maxLocals = 3) (hown : s.vm.findClass "com/example/basewright/basewright/Alphabet" = some m.cls) (e0 : T.heap = h0) (N0 : Fr n0 locs) (Z0 : n0 ≤ h0.size) (F_c : Fld Z h0 a1 "com/example/basewright/basewright/Alphabet" "characters" "[B" (.ref bc)) (F_z : Fld Z h0 a1 "com/example/basewright/basewright/Alphabet" "values" "[B" (.ref bz)) (A_b : own_Af Z h0 bc kb .byte pn (fun i => Value.int (cf i))) (A_z : own_Af Z h0 bz kz .byte (256 : Int32) f3) (g_z : n0 ≤ bz) (nebz : bc ≠ bz) (neaz : a1 ≠ bz) (hlt : iv < pn) (hj : ¬ iv < (0 : Int32) ∧ iv < pn) (hjz : ¬ (cf (iv).toNatClampNeg) < (0 : Int32) ∧ (cf (iv).toNatClampNeg) < (256 : Int32)) (hiv : own_c iv) :
    ∃ (T' : State) (h' : Heap) (locs' : List Loc), Stand p l e R s m args below meth c T' locs' cells slots ∧ T'.heap = h' ∧ Fr n0 locs' ∧ Keep h0 h' [bz] ∧ Fld Z h' a1 "com/example/basewright/basewright/Alphabet" "characters" "[B" (.ref bc) ∧ Fld Z h' a1 "com/example/basewright/basewright/Alphabet" "values" "[B" (.ref bz) ∧ own_Af Z h' bc kb .byte pn (fun i => Value.int (cf i)) ∧ own_Af Z h' bz kz .byte (256 : Int32) (fun i => if i = ((cf (iv).toNatClampNeg)).toNatClampNeg then (.int iv) else f3 i) ∧
      ∀ t, Steps p.tables e below (T'.setTop (mkF m 34 #[.val (.ref a1), .val (.ref a2), .val (.int (iv + (1 : Int32)))] [])) t → Steps p.tables e below (T.setTop (mkF m 34 #[.val (.ref a1), .val (.ref a2), .val (.int iv)] [])) t := by
  have K0 : Keep h0 h0 [bz] := Keep.refl _ _
  have P0 : ∀ t, Steps p.tables e below (T.setTop (mkF m 34 #[.val (.ref a1), .val (.ref a2), .val (.int iv)] [])) t → Steps p.tables e below (T.setTop (mkF m 34 #[.val (.ref a1), .val (.ref a2), .val (.int iv)] [])) t := fun t k => k
  have P1 : ∀ t, Steps p.tables e below (T.setTop (mkF m 36 #[.val (.ref a1), .val (.ref a2), .val (.int iv)] [(.ref a1), (.int iv)])) t → Steps p.tables e below (T.setTop (mkF m 34 #[.val (.ref a1), .val (.ref a2), .val (.int iv)] [])) t := by
    intro t k
    refine P0 _ ?_
    refine XS.iloadN X0.here hx rfl (hb hby d27_34) rfl ?_
    show Steps p.tables e below (T.setTop (mkF m 35 #[.val (.ref a1), .val (.ref a2), .val (.int iv)] [(.int iv)])) _
    refine XS.aloadN X0.here hx rfl (hb hby d27_35) rfl rfl ?_
    show Steps p.tables e below (T.setTop (mkF m 36 #[.val (.ref a1), .val (.ref a2), .val (.int iv)] [(.ref a1), (.int iv)])) _
    exact k
  obtain ⟨T2, X2, e2, st2⟩ := getF X0 hx hZ hown (host := "") (Or.inl (hw _ (List.mem_of_getElem? (i := 79) rfl))) Via.refl e0 F_c (g := (mkF m 36 #[.val (.ref a1), .val (.ref a2), .val (.int iv)] [(.ref a1), (.int iv)])) rfl rfl (hb hby d27_36)
  have P3 : ∀ t, Steps p.tables e below (T2.setTop (mkF m 39 #[.val (.ref a1), .val (.ref a2), .val (.int iv)] [(.ref bc), (.int iv)])) t → Steps p.tables e below (T.setTop (mkF m 34 #[.val (.ref a1), .val (.ref a2), .val (.int iv)] [])) t := fun t k => P1 _ (st2 _ k)
  have P4 : ∀ t, Steps p.tables e below (T2.setTop (mkF m 44 #[.val (.ref a1), .val (.ref a2), .val (.int iv)] [(.ref a1)])) t → Steps p.tables e below (T.setTop (mkF m 34 #[.val (.ref a1), .val (.ref a2), .val (.int iv)] [])) t := by
    intro t k
    refine P3 _ ?_
    refine own_flen X2 hx hZ e2 A_b rfl rfl (hb hby d27_39) ?_
    show Steps p.tables e below (T2.setTop (mkF m 40 #[.val (.ref a1), .val (.ref a2), .val (.int iv)] [(.int pn), (.int iv)])) _
    refine XS.icmpNo X2.here hx rfl (hb hby d27_40) rfl (XT.ii_ge_f hlt) ?_
    show Steps p.tables e below (T2.setTop (mkF m 43 #[.val (.ref a1), .val (.ref a2), .val (.int iv)] [])) _
    refine XS.aloadN X2.here hx rfl (hb hby d27_43) rfl rfl ?_
    show Steps p.tables e below (T2.setTop (mkF m 44 #[.val (.ref a1), .val (.ref a2), .val (.int iv)] [(.ref a1)])) _
    exact k
  obtain ⟨T5, X5, e5, st5⟩ := getF X2 hx hZ hown (host := "") (Or.inl (hw _ (List.mem_of_getElem? (i := 81) rfl))) Via.refl e2 F_z (g := (mkF m 44 #[.val (.ref a1), .val (.ref a2), .val (.int iv)] [(.ref a1)])) rfl rfl (hb hby d27_44)
  have P6 : ∀ t, Steps p.tables e below (T5.setTop (mkF m 47 #[.val (.ref a1), .val (.ref a2), .val (.int iv)] [(.ref bz)])) t → Steps p.tables e below (T.setTop (mkF m 34 #[.val (.ref a1), .val (.ref a2), .val (.int iv)] [])) t := fun t k => P4 _ (st5 _ k)
  have P7 : ∀ t, Steps p.tables e below (T5.setTop (mkF m 48 #[.val (.ref a1), .val (.ref a2), .val (.int iv)] [(.ref a1), (.ref bz)])) t → Steps p.tables e below (T.setTop (mkF m 34 #[.val (.ref a1), .val (.ref a2), .val (.int iv)] [])) t := by
    intro t k
    refine P6 _ ?_
    refine XS.aloadN X5.here hx rfl (hb hby d27_47) rfl rfl ?_
    show Steps p.tables e below (T5.setTop (mkF m 48 #[.val (.ref a1), .val (.ref a2), .val (.int iv)] [(.ref a1), (.ref bz)])) _
    exact k
  obtain ⟨T8, X8, e8, st8⟩ := getF X5 hx hZ hown (host := "") (Or.inl (hw _ (List.mem_of_getElem? (i := 79) rfl))) Via.refl e5 F_c (g := (mkF m 48 #[.val (.ref a1), .val (.ref a2), .val (.int iv)] [(.ref a1), (.ref bz)])) rfl rfl (hb hby d27_48)
  have P9 : ∀ t, Steps p.tables e below (T8.setTop (mkF m 51 #[.val (.ref a1), .val (.ref a2), .val (.int iv)] [(.ref bc), (.ref bz)])) t → Steps p.tables e below (T.setTop (mkF m 34 #[.val (.ref a1), .val (.ref a2), .val (.int iv)] [])) t := fun t k => P7 _ (st8 _ k)
  have P10 : ∀ t, Steps p.tables e below (T8.setTop (mkF m 55 #[.val (.ref a1), .val (.ref a2), .val (.int iv)] [(.int (iv.toInt8.toInt32)), (.int (cf (iv).toNatClampNeg)), (.ref bz)])) t → Steps p.tables e below (T.setTop (mkF m 34 #[.val (.ref a1), .val (.ref a2), .val (.int iv)] [])) t := by
    intro t k
    refine P9 _ ?_
    refine XS.iloadN X8.here hx rfl (hb hby d27_51) rfl ?_
    show Steps p.tables e below (T8.setTop (mkF m 52 #[.val (.ref a1), .val (.ref a2), .val (.int iv)] [(.int iv), (.ref bc), (.ref bz)])) _
    refine own_fbal X8 hx hZ e8 A_b hj (v := (.int (cf (iv).toNatClampNeg))) rfl rfl rfl (hb hby d27_52) ?_
    show Steps p.tables e below (T8.setTop (mkF m 53 #[.val (.ref a1), .val (.ref a2), .val (.int iv)] [(.int (cf (iv).toNatClampNeg)), (.ref bz)])) _
    refine XS.iloadN X8.here hx rfl (hb hby d27_53) rfl ?_
    show Steps p.tables e below (T8.setTop (mkF m 54 #[.val (.ref a1), .val (.ref a2), .val (.int iv)] [(.int iv), (.int (cf (iv).toNatClampNeg)), (.ref bz)])) _
    refine XT.i2b X8.here hx rfl (hb hby d27_54) rfl ?_
    show Steps p.tables e below (T8.setTop (mkF m 55 #[.val (.ref a1), .val (.ref a2), .val (.int iv)] [(.int (iv.toInt8.toInt32)), (.int (cf (iv).toNatClampNeg)), (.ref bz)])) _
    exact k
  obtain ⟨cl11, Ar11, q11, S11, M11, H11, G11⟩ := A_z
  have in11 : ¬ ((cf (iv).toNatClampNeg) < 0 ∨ cl11.slots.size ≤ ((cf (iv).toNatClampNeg)).toNatClampNeg) := inb_of S11 hjz
  obtain ⟨T11, h11, X11, e11, W11, st11⟩ := stB X8 hx hZ e8 Ar11 (j := (cf (iv).toNatClampNeg)) in11 (g := (mkF m 55 #[.val (.ref a1), .val (.ref a2), .val (.int iv)] [(.int (iv.toInt8.toInt32)), (.int (cf (iv).toNatClampNeg)), (.ref bz)])) rfl rfl (hb hby d27_55)
  have r11 : nar .byte (iv.toInt8.toInt32) = iv := own_cb hiv
  rw [r11] at W11
  have F12 : Fld Z h11 a1 "com/example/basewright/basewright/Alphabet" "characters" "[B" (.ref bc) := F_c.other W11 (Or.inl neaz)
  have F13 : Fld Z h11 a1 "com/example/basewright/basewright/Alphabet" "values" "[B" (.ref bz) := F_z.other W11 (Or.inl neaz)
  have F14 : own_Af Z h11 bc kb .byte pn (fun i => Value.int (cf i)) := A_b.other W11 nebz
  have F15 : own_Af Z h11 bz kz .byte (256 : Int32) (fun i => if i = ((cf (iv).toNatClampNeg)).toNatClampNeg then (.int iv) else f3 i) := own_Af.set Ar11 q11 S11 M11 H11 G11 (by rw [← r11]; exact fits_nar_byte _) W11 (Nat.lt_of_not_le fun y => in11 (Or.inr y))
  have Z16 : n0 ≤ h11.size := Nat.le_trans Z0 (Keep.of_wr W11).1
  have K17 : Keep h0 h11 [bz] := K0.wr W11 (Or.inl (List.mem_of_getElem? (i := 0) rfl))
  have N11 := Fr.snoc X11 N0 g_z
  have P18 : ∀ t, Steps p.tables e below (T11.setTop (mkF m 56 #[.val (.ref a1), .val (.ref a2), .val (.int iv)] [])) t → Steps p.tables e below (T.setTop (mkF m 34 #[.val (.ref a1), .val (.ref a2), .val (.int iv)] [])) t := fun t k => P10 _ (st11 _ k)
  have P19 : ∀ t, Steps p.tables e below (T11.setTop (mkF m 34 #[.val (.ref a1), .val (.ref a2), .val (.int (iv + (1 : Int32)))] [])) t → Steps p.tables e below (T.setTop (mkF m 34 #[.val (.ref a1), .val (.ref a2), .val (.int iv)] [])) t := by
    intro t k
    refine P18 _ ?_
    refine XS.iinc X11.here hx rfl (hb hby d27_56) rfl (l' := #[.val (.ref a1), .val (.ref a2), .val (.int (iv + (1 : Int32)))]) rfl ?_
    show Steps p.tables e below (T11.setTop (mkF m 59 #[.val (.ref a1), .val (.ref a2), .val (.int (iv + (1 : Int32)))] [])) _
    refine XS.goto X11.here hx rfl (pc0 := 59) (pc' := 34) rfl (hb hby d27_59) (by decide) (by decide) ?_
    show Steps p.tables e below (T11.setTop (mkF m 34 #[.val (.ref a1), .val (.ref a2), .val (.int (iv + (1 : Int32)))] [])) _
    exact k
  exact ⟨T11, h11, _, X11, e11, N11, K17, F12, F13, F14, F15, P19⟩
set_option maxRecDepth 65536 in
set_option maxHeartbeats 40000000 in
theorem lv27 {p : Program} {l : Launch} {e : Env} {R : Room} {s : State} {m : MethodId} {args : Array Value} {below : List Frame} {meth : Method} {c : Code} {T : State} {locs : List Loc} {cells slots : Nat} {Z : State} {a0 : Array Value} {h0 : Heap} {n0 : Nat} (a1 : Addr) (a2 : Addr) (iv : Int32) (bc : Addr) (bz : Addr) (pn : Int32) (kb : ClassId) (kz : ClassId) (cf : Nat → Int32) (f3 : Nat → Value)
    (X0 : Stand p l e R s m args below meth c T locs cells slots) (hx : p.tables.exec = Jvm.exec) (hZ : Z.Warmed39 s.vm) (hw : ∀ d ∈ tables_1, d.before a0 Z = true) (hby : c.code = prog_1_method_1_code) (hml : c.maxLocals = 3) (hown : s.vm.findClass "com/example/basewright/basewright/Alphabet" = some m.cls) (e0 : T.heap = h0) (N0 : Fr n0 locs) (Z0 : n0 ≤ h0.size) (F_c : Fld Z h0 a1 "com/example/basewright/basewright/Alphabet" "characters" "[B" (.ref bc)) (F_z : Fld Z h0 a1 "com/example/basewright/basewright/Alphabet" "values" "[B" (.ref bz)) (A_b : own_Af Z h0 bc kb .byte pn (fun i => Value.int (cf i))) (A_z : own_Af Z h0 bz kz .byte (256 : Int32) f3) (g_z : n0 ≤ bz) (nebz : bc ≠ bz) (neaz : a1 ≠ bz) (hge : ¬ iv < pn) :
    ∃ (T' : State) (h' : Heap) (locs' : List Loc), Stand p l e R s m args below meth c T' locs' cells slots ∧ T'.heap = h' ∧ Fr n0 locs' ∧ Keep h0 h' [bz] ∧ Fld Z h' a1 "com/example/basewright/basewright/Alphabet" "characters" "[B" (.ref bc) ∧ Fld Z h' a1 "com/example/basewright/basewright/Alphabet" "values" "[B" (.ref bz) ∧ own_Af Z h' bc kb .byte pn (fun i => Value.int (cf i)) ∧ own_Af Z h' bz kz .byte (256 : Int32) f3 ∧
      ∀ t, Steps p.tables e below (T'.setTop (mkF m 62 #[.val (.ref a1), .val (.ref a2), .val (.int iv)] [])) t → Steps p.tables e below (T.setTop (mkF m 34 #[.val (.ref a1), .val (.ref a2), .val (.int iv)] [])) t := by
  have K0 : Keep h0 h0 [bz] := Keep.refl _ _
  have P0 : ∀ t, Steps p.tables e below (T.setTop (mkF m 34 #[.val (.ref a1), .val (.ref a2), .val (.int iv)] [])) t → Steps p.tables e below (T.setTop (mkF m 34 #[.val (.ref a1), .val (.ref a2), .val (.int iv)] [])) t := fun t k => k
  have P1 : ∀ t, Steps p.tables e below (T.setTop (mkF m 36 #[.val (.ref a1), .val (.ref a2), .val (.int iv)] [(.ref a1), (.int iv)])) t → Steps p.tables e below (T.setTop (mkF m 34 #[.val (.ref a1), .val (.ref a2), .val (.int iv)] [])) t := by
    intro t k
    refine P0 _ ?_
    refine XS.iloadN X0.here hx rfl (hb hby d27_34) rfl ?_
    show Steps p.tables e below (T.setTop (mkF m 35 #[.val (.ref a1), .val (.ref a2), .val (.int iv)] [(.int iv)])) _
    refine XS.aloadN X0.here hx rfl (hb hby d27_35) rfl rfl ?_
    show Steps p.tables e below (T.setTop (mkF m 36 #[.val (.ref a1), .val (.ref a2), .val (.int iv)] [(.ref a1), (.int iv)])) _
    exact k
  obtain ⟨T2, X2, e2, st2⟩ := getF X0 hx hZ hown (host := "") (Or.inl (hw _ (List.mem_of_getElem? (i := 79) rfl))) Via.refl e0 F_c (g := (mkF m 36 #[.val (.ref a1), .val (.ref a2), .val (.int iv)] [(.ref a1), (.int iv)])) rfl rfl (hb hby d27_36)
  have P3 : ∀ t, Steps p.tables e below (T2.setTop (mkF m 39 #[.val (.ref a1), .val (.ref a2), .val (.int iv)] [(.ref bc), (.int iv)])) t → Steps p.tables e below (T.setTop (mkF m 34 #[.val (.ref a1), .val (.ref a2), .val (.int iv)] [])) t := fun t k => P1 _ (st2 _ k)
  have P4 : ∀ t, Steps p.tables e below (T2.setTop (mkF m 62 #[.val (.ref a1), .val (.ref a2), .val (.int iv)] [])) t → Steps p.tables e below (T.setTop (mkF m 34 #[.val (.ref a1), .val (.ref a2), .val (.int iv)] [])) t := by
    intro t k
    refine P3 _ ?_
    refine own_flen X2 hx hZ e2 A_b rfl rfl (hb hby d27_39) ?_
    show Steps p.tables e below (T2.setTop (mkF m 40 #[.val (.ref a1), .val (.ref a2), .val (.int iv)] [(.int pn), (.int iv)])) _
    refine XS.icmpYes X2.here hx rfl (pc0 := 40) (pc' := 62) rfl (hb hby d27_40) rfl (XT.ii_ge_t hge) (by decide) (by decide) ?_
    show Steps p.tables e below (T2.setTop (mkF m 62 #[.val (.ref a1), .val (.ref a2), .val (.int iv)] [])) _
    exact k
  exact ⟨T2, h0, _, X2, e2, N0, K0, F_c, F_z, A_b, A_z, P4⟩
set_option maxRecDepth 65536 in
theorem loop27 {p : Program} {l : Launch} {e : Env} {R : Room} {s : State} {m : MethodId} {args : Array Value} {below : List Frame} {meth : Method} {c : Code} {Z : State} {a0 : Array Value} {n0 : Nat} {cells slots : Nat} (a1 a2 bc bz : Addr) (pn : Int32) (kb kz : ClassId) (cf : Nat → Int32) (n : Nat) (hx : p.tables.exec = Jvm.exec) (hZ : Z.Warmed39 s.vm) (hw : ∀ d ∈ tables_1, d.before a0 Z = true) (hby : c.code = prog_1_method_1_code) (hml : c.maxLocals = 3) (hown : s.vm.findClass "com/example/basewright/basewright/Alphabet" = some m.cls) (hn : pn.toInt = n) (hn4 : n ≤ 4) (g_z : n0 ≤ bz) (nebz : bc ≠ bz) (neaz : a1 ≠ bz) (hcs : own_cs pn cf) (k : Nat) :
    ∀ (T : State) (locs : List Loc) (h0 : Heap) (i : Nat) (iv : Int32) (f3 : Nat → Value), Stand p l e R s m args below meth c T locs cells slots → T.heap = h0 → Fr n0 locs → n0 ≤ h0.size → Fld Z h0 a1 "com/example/basewright/basewright/Alphabet" "characters" "[B" (.ref bc) → Fld Z h0 a1 "com/example/basewright/basewright/Alphabet" "values" "[B" (.ref bz) → own_Af Z h0 bc kb .byte pn (fun i => Value.int (cf i)) → own_Af Z h0 bz kz .byte (256 : Int32) f3 → i + k = n → iv.toInt = i → (∀ j, f3 j = .int (own_vf cf i j)) →
      ∃ (T' : State) (h' : Heap) (locs' : List Loc) (jv : Int32), Stand p l e R s m args below meth c T' locs' cells slots ∧ T'.heap = h' ∧ Fr n0 locs' ∧ Keep h0 h' [bz] ∧ Fld Z h' a1 "com/example/basewright/basewright/Alphabet" "characters" "[B" (.ref bc) ∧ Fld Z h' a1 "com/example/basewright/basewright/Alphabet" "values" "[B" (.ref bz) ∧ own_Af Z h' bc kb .byte pn (fun i => Value.int (cf i)) ∧ own_Af Z h' bz kz .byte (256 : Int32) (fun j => Value.int (own_vf cf n j)) ∧
        ∀ t, Steps p.tables e below (T'.setTop (mkF m 62 #[.val (.ref a1), .val (.ref a2), .val (.int jv)] [])) t → Steps p.tables e below (T.setTop (mkF m 34 #[.val (.ref a1), .val (.ref a2), .val (.int iv)] [])) t := by
  induction k with
  | zero =>
    intro T locs h0 i iv f3 X0 e0 N0 Z0 F_c F_z A_b A_z h1 h2 h3
    have hi : i = n := by omega
    subst hi
    obtain ⟨T1, h1', locs1, X1, e1, N1, K1, q1, q2, q3, q4, st1⟩ := lv27 a1 a2 iv bc bz pn kb kz cf f3 X0 hx hZ hw hby hml hown e0 N0 Z0 F_c F_z A_b A_z g_z nebz neaz (by rw [Int32.lt_iff_toInt_lt]; omega)
    exact ⟨T1, h1', locs1, iv, X1, e1, N1, K1, q1, q2, q3, q4.same (fun j _ => (h3 j).symm), st1⟩
  | succ k ih =>
    intro T locs h0 i iv f3 X0 e0 N0 Z0 F_c F_z A_b A_z h1 h2 h3
    have hj : ¬ iv < (0 : Int32) ∧ iv < pn := own_jn (by omega) (by omega)
    have hc := hcs (iv).toNatClampNeg (by rw [own_nat h2]; omega)
    obtain ⟨T1, h1', locs1, X1, e1, N1, K1, q1, q2, q3, q4, st1⟩ := tn27 a1 a2 iv bc bz pn kb kz cf f3 X0 hx hZ hw hby hml hown e0 N0 Z0 F_c F_z A_b A_z g_z nebz neaz hj.2 hj (own_jn hc.1 (by have := hc.2; show (cf (iv).toNatClampNeg).toInt < 256; omega)) ⟨by omega, by omega⟩
    obtain ⟨T2, h2', locs2, jv, X2, e2, N2, K2, r1, r2, r3, r4, st2⟩ := ih T1 locs1 h1' (i + 1) (iv + (1 : Int32)) _ X1 e1 N1 (Nat.le_trans Z0 K1.1) q1 q2 q3 q4 (by omega) (own_inc h2 (by omega)) (fun j => by
      rw [own_vf_s, own_nat h2, ← own_ofn h2 (by omega), h3 j]
      by_cases q : j = (cf i).toNatClampNeg
      · simp only [q, if_true]
      · simp only [q, if_false])
    exact ⟨T2, h2', locs2, jv, X2, e2, N2, K1.trans K2 (fun x hx' => Or.inl hx'), r1, r2, r3, r4, fun t kk => st1 t (st2 t kk)⟩
theorem pn_27 : plainName "com/example/basewright/basewright/Alphabet" = true := by first | (simp [plainName, overriddenIn]; done) | decide +kernel
theorem ef_27 (m : MethodId) (x0 : Addr) (x1 : Addr) : entryFrame m #[(.ref x0), (.ref x1)] 3 = mkF m 0 #[.val (.ref x0), .val (.ref x1), .unset] [] := by first | (simp [entryFrame, mkF, argsToLocals, Value.category]; done) | rfl
def Q27 (Z : State) (a1 : Addr) (a2 : Addr) (u1 : Value) (u2 : Value) (bv : Addr) (pn : Int32) (kb : ClassId) (cf : Nat → Int32) (n : Nat) (wA : Addr) (wU : Addr) (wI : Addr) (ccs : Int32) (h0 : Heap) (n0 : Nat) (v : Option Value) (h : Heap) (L : List Loc) : Prop := ∃ (bc : Addr) (bz : Addr) (kz : ClassId), v = none ∧ Fr n0 L ∧ Keep h0 h [a1] ∧ h0.size ≤ bc ∧ h0.size ≤ bz ∧ Exa Z h a1 "com/example/basewright/basewright/Alphabet" ∧ Fld Z h a1 "com/example/basewright/basewright/Alphabet" "characters" "[B" (.ref bc) ∧ Fld Z h a1 "com/example/basewright/basewright/Alphabet" "values" "[B" (.ref bz) ∧ own_Af Z h bc kb .byte pn (fun i => Value.int (cf i)) ∧ own_Af Z h bz kz .byte (256 : Int32) (fun j => Value.int (own_vf cf n j))
set_option maxRecDepth 65536 in
set_option maxHeartbeats 40000000 in
theorem rm27 (l : Launch) (Z : State) (a0 : Array Value) (hw : ∀ d ∈ tables_1, d.before a0 Z = true) (ws : List Jvm.Cond) (a1 : Addr) (a2 : Addr) (u1 : Value) (u2 : Value) (bv : Addr) (pn : Int32) (kb : ClassId) (cf : Nat → Int32) (n : Nat) (wA : Addr) (wU : Addr) (wI : Addr) (ccs : Int32) (h0 : Heap) (n0 : Nat) (Z0 : n0 ≤ h0.size) (O0 : Old Z n0 h0) (E_a : Exa Z h0 a1 "com/example/basewright/basewright/Alphabet") (F_c : Fld Z h0 a1 "com/example/basewright/basewright/Alphabet" "characters" "[B" u1) (F_z : Fld Z h0 a1 "com/example/basewright/basewright/Alphabet" "values" "[B" u2) (g_a : n0 ≤ a1) (E_s : Exa Z h0 a2 "java/lang/String") (F_v : Fld Z h0 a2 "java/lang/String" "value" "[B" (.ref bv)) (F_k : Fld Z h0 a2 "java/lang/String" "coder" "B" (.int (0 : Int32))) (A_b : own_Af Z h0 bv kb .byte pn (fun i => Value.int (cf i))) (E_b : Exa Z h0 bv "[B") (hn : pn.toInt = n) (hn4 : n ≤ 4) (hcs : own_cs pn cf) (S_H : Sta Z Z.heap "java/nio/charset/StandardCharsets" "US_ASCII" "Ljava/nio/charset/Charset;" (.ref wA)) (S_wU : Sta Z Z.heap "sun/nio/cs/UTF_8" "INSTANCE" "Lsun/nio/cs/UTF_8;" (.ref wU)) (S_wI : Sta Z Z.heap "sun/nio/cs/ISO_8859_1" "INSTANCE" "Lsun/nio/cs/ISO_8859_1;" (.ref wI)) (S_wA : Sta Z Z.heap "sun/nio/cs/US_ASCII" "INSTANCE" "Lsun/nio/cs/US_ASCII;" (.ref wA)) (neU : ¬ wA = wU) (neI : ¬ wA = wI) (S_cs : Sta Z Z.heap "java/lang/String" "COMPACT_STRINGS" "Z" (.int ccs)) (hcc : ¬ ccs = (0 : Int32)) :
    MetFree l (⟨"com/example/basewright/basewright/Alphabet", "<init>", "(Ljava/lang/String;)V"⟩ : MethodName) (head1 (Jvm.Cond.code (⟨"com/example/basewright/basewright/Alphabet", "<init>", "(Ljava/lang/String;)V"⟩ : MethodName) prog_1_method_1_code 3 none :: ws) ({ frames := 4, cells := 2, slots := 260, locals := 62 } : Room)) (fun a U => a = #[(.ref a1), (.ref a2)] ∧ Z.Warmed39 U.vm ∧ U.heap = h0) (fun _ _ _ _ _ => True) (fun _ U o U' => ∃ v L, o = .returned v ∧ Q27 Z a1 a2 u1 u2 bv pn kb cf n wA wU wI ccs h0 n0 v U'.heap L ∧ FrameEnd U o U' L ({ frames := 4, cells := 2, slots := 260, locals := 62 } : Room).cells ({ frames := 4, cells := 2, slots := 260, locals := 62 } : Room).slots) := by
  refine MetFree.of_bodySF (plainFor_of_name pn_27) hisR ?_
  intro p e s m args below meth c s₁ Bd hml0 hP hK
  obtain ⟨rfl, hZ, hh⟩ := hP
  have hx := Bd.exec
  have hby := Bd.bytes
  have hml : c.maxLocals = 3 := hml0
  have hown : s.vm.findClass "com/example/basewright/basewright/Alphabet" = some m.cls := findClass_of_methodNamed Bd.named
  have hnm := (name_of_methodNamed Bd.named Bd.method).1
  have X0 : Stand p l e ({ frames := 4, cells := 2, slots := 260, locals := 62 } : Room) s m #[(.ref a1), (.ref a2)] below meth c s₁ [] 0 0 := Stand.of_body Bd
  have e0 : s₁.heap = h0 := by rw [← hh, Bd.state]; rfl
  have N0 := Fr.nil n0
  have K0 : Keep h0 h0 [a1] := Keep.refl _ _
  have P0 : ∀ t, Steps p.tables e below (s₁.setTop (mkF m 0 #[.val (.ref a1), .val (.ref a2), .unset] [])) t → Steps p.tables e below (s₁.setTop (entryFrame m #[(.ref a1), (.ref a2)] 3)) t := fun t k => castTop (ef_27 m a1 a2) k
  have P1 : ∀ t, Steps p.tables e below (s₁.setTop (mkF m 1 #[.val (.ref a1), .val (.ref a2), .unset] [(.ref a1)])) t → Steps p.tables e below (s₁.setTop (entryFrame m #[(.ref a1), (.ref a2)] 3)) t := by
    intro t k
    refine P0 _ ?_
    refine XS.aloadN X0.here hx rfl (hb hby d27_0) rfl rfl ?_
    show Steps p.tables e below (s₁.setTop (mkF m 1 #[.val (.ref a1), .val (.ref a2), .unset] [(.ref a1)])) _
    exact k
  obtain ⟨T2, X2, e2, st2⟩ := initO X0 hx hZ hown (hw _ (List.mem_of_getElem? (i := 41) rfl)) (hw _ (List.mem_of_getElem? (i := 20) rfl)) (hw _ (List.mem_of_getElem? (i := 21) rfl)) e0 (g := (mkF m 1 #[.val (.ref a1), .val (.ref a2), .unset] [(.ref a1)])) rfl (by rw [hml]; rfl) rfl (hb hby d27_1) (by decide) (W := 0) (by show 2 * 0 + _ ≤ _; exact Nat.le_of_eq rfl) (by decide)
  have P3 : ∀ t, Steps p.tables e below (T2.setTop (mkF m 4 #[.val (.ref a1), .val (.ref a2), .unset] [])) t → Steps p.tables e below (s₁.setTop (entryFrame m #[(.ref a1), (.ref a2)] 3)) t := fun t k => P1 _ (st2 _ k)
  have P4 : ∀ t, Steps p.tables e below (T2.setTop (mkF m 6 #[.val (.ref a1), .val (.ref a2), .unset] [(.ref a2), (.ref a1)])) t → Steps p.tables e below (s₁.setTop (entryFrame m #[(.ref a1), (.ref a2)] 3)) t := by
    intro t k
    refine P3 _ ?_
    refine XS.aloadN X2.here hx rfl (hb hby d27_4) rfl rfl ?_
    show Steps p.tables e below (T2.setTop (mkF m 5 #[.val (.ref a1), .val (.ref a2), .unset] [(.ref a1)])) _
    refine XS.aloadN X2.here hx rfl (hb hby d27_5) rfl rfl ?_
    show Steps p.tables e below (T2.setTop (mkF m 6 #[.val (.ref a1), .val (.ref a2), .unset] [(.ref a2), (.ref a1)])) _
    exact k
  obtain ⟨T5, X5, e5, st5⟩ := getS2 X2 hx hZ hown (host := "") (Or.inl (hw _ (List.mem_of_getElem? (i := 42) rfl))) Via.refl e2 (S_H.ext O0.2) (g := (mkF m 6 #[.val (.ref a1), .val (.ref a2), .unset] [(.ref a2), (.ref a1)])) rfl (hb hby d27_6)
  have P6 : ∀ t, Steps p.tables e below (T5.setTop (mkF m 9 #[.val (.ref a1), .val (.ref a2), .unset] [(.ref wA), (.ref a2), (.ref a1)])) t → Steps p.tables e below (s₁.setTop (entryFrame m #[(.ref a1), (.ref a2)] 3)) t := fun t k => P4 _ (st5 _ k)
  obtain ⟨cq7, kq7, qa7, qb7, qc7⟩ := isOf hZ e5 E_s
  obtain ⟨_, _, ⟨T7, L7, k7, n7⟩, -, X7, ⟨Lc7, hQ7, l7, y7, z7⟩, st7⟩ := X5.virtualBack hx (y := (⟨"java/lang/String", "getBytes", "(Ljava/nio/charset/Charset;)[B"⟩ : MethodName)) (z := (⟨"java/lang/String", "getBytes", "(Ljava/nio/charset/Charset;)[B"⟩ : MethodName)) hown (mvT hZ (hw _ (List.mem_of_getElem? (i := 44) rfl))) (mvT hZ (hw _ (List.mem_of_getElem? (i := 45) rfl))) (notFace_of_selects (args := #[]) (mvT hZ (hw _ (List.mem_of_getElem? (i := 47) rfl)))) (mvT hZ (hw _ (List.mem_of_getElem? (i := 47) rfl))) (mvT hZ (hw _ (List.mem_of_getElem? (i := 46) rfl))) (by decide) (backOf (W := 1) (rm25 l Z a0 hw [] a2 wA bv pn kb cf n wU wI ccs h0 n0 Z0 E_s F_v F_k A_b E_b hn hn4 hcs (S_wU.ext O0.2) (S_wI.ext O0.2) (S_wA.ext O0.2) neU neI (S_cs.ext O0.2) hcc) hZ (hw _ (List.mem_of_getElem? (i := 48) rfl)) (hw _ (List.mem_of_getElem? (i := 11) rfl)) (by decide) (by decide)) qa7 qc7 (g := (mkF m 9 #[.val (.ref a1), .val (.ref a2), .unset] [(.ref wA), (.ref a2), (.ref a1)])) rfl (by rw [hml]; rfl) (Steps.refl _) (argsL := [(.ref wA)]) (rest := [(.ref a1)]) (lenOf pd_8 rfl) rfl (by show 2 * 0 + _ ≤ _; exact Nat.le_of_eq rfl) (hb hby d27_9) (fun _ _ => ⟨rfl, e5, (by decide : 0 + 1 ≤ _), (by decide : 0 + 4 ≤ _)⟩)
  dsimp only [Pt.U, Pt.locs, Pt.cells, Pt.slots] at X7 l7 y7 z7 st7 hQ7
  subst l7 y7 z7
  obtain ⟨b_7, rfl, N7q, K7, s7_b, Y7_0, Y7_1⟩ := hQ7
  have F8 : Exa Z T7.heap a1 "com/example/basewright/basewright/Alphabet" := E_a.keep K7
  have F9 : Fld Z T7.heap a1 "com/example/basewright/basewright/Alphabet" "characters" "[B" u1 := F_c.keep K7 nin0
  have F10 : Fld Z T7.heap a1 "com/example/basewright/basewright/Alphabet" "values" "[B" u2 := F_z.keep K7 nin0
  have F11 : Exa Z T7.heap a2 "java/lang/String" := E_s.keep K7
  have F12 : Fld Z T7.heap a2 "java/lang/String" "value" "[B" (.ref bv) := F_v.keep K7 nin0
  have F13 : Fld Z T7.heap a2 "java/lang/String" "coder" "B" (.int (0 : Int32)) := F_k.keep K7 nin0
  have F14 : own_Af Z T7.heap bv kb .byte pn (fun i => Value.int (cf i)) := A_b.keep K7 nin0
  have F15 : Exa Z T7.heap bv "[B" := E_b.keep K7
  have F16 : Old Z n0 T7.heap := O0.keep K7 all0
  have Z17 : n0 ≤ T7.heap.size := Nat.le_trans Z0 K7.1
  have K18 : Keep h0 T7.heap [a1] := K0.trans K7 all0
  have g_b_7 : n0 ≤ b_7 := Nat.le_trans Z0 s7_b
  have sz_b_7 : h0.size ≤ b_7 := Nat.le_trans K0.1 s7_b
  have ne_a1_b_7 : a1 ≠ b_7 := Nat.ne_of_lt (Nat.lt_of_lt_of_le E_a.lt s7_b)
  have ne_a2_b_7 : a2 ≠ b_7 := Nat.ne_of_lt (Nat.lt_of_lt_of_le E_s.lt s7_b)
  have ne_bv_b_7 : bv ≠ b_7 := Nat.ne_of_lt (Nat.lt_of_lt_of_le A_b.lt s7_b)
  have N7 := Fr.app N0 N7q
  have P19 : ∀ t, Steps p.tables e below (T7.setTop (mkF m 12 #[.val (.ref a1), .val (.ref a2), .unset] [(.ref b_7), (.ref a1)])) t → Steps p.tables e below (s₁.setTop (entryFrame m #[(.ref a1), (.ref a2)] 3)) t := fun t k => P6 _ (st7.trans k)
  obtain ⟨T20, h20, X20, e20, W20, st20⟩ := putF X7 hx hZ hown (host := "") (Or.inl (hw _ (List.mem_of_getElem? (i := 79) rfl))) Via.refl rfl F9 F8 (Or.inr ⟨(hw _ (List.mem_of_getElem? (i := 80) rfl)), rfl, hnm⟩) (hw _ (List.mem_of_getElem? (i := 2) rfl)) (ty := (.array .byte)) (by decide) rfl rfl (g := (mkF m 12 #[.val (.ref a1), .val (.ref a2), .unset] [(.ref b_7), (.ref a1)])) rfl rfl (hb hby d27_12)
  have F21 : Exa Z h20 a1 "com/example/basewright/basewright/Alphabet" := F8.wr W20
  have F22 : Fld Z h20 a1 "com/example/basewright/basewright/Alphabet" "values" "[B" u2 := F10.other W20 (Or.inr (slot_ne (Or.inr (hw _ (List.mem_of_getElem? (i := 82) rfl))) (Or.inr (hw _ (List.mem_of_getElem? (i := 80) rfl))) (by decide) (t := (.array .byte)) (t' := (.array .byte)) (by decide) (by decide)))
  have F23 : Exa Z h20 a2 "java/lang/String" := F11.wr W20
  have F24 : Exa Z h20 bv "[B" := F15.wr W20
  have F25 : Old Z n0 h20 := F16.wr W20 g_a
  have F26 : own_Af Z h20 b_7 kb .byte pn (fun i => Value.int (cf i)) := Y7_0.other W20 (Ne.symm ne_a1_b_7)
  have F27 : Exa Z h20 b_7 "[B" := Y7_1.wr W20
  have F28 : Fld Z h20 a1 "com/example/basewright/basewright/Alphabet" "characters" "[B" (.ref b_7) := F9.same W20
  have Z29 : n0 ≤ h20.size := Nat.le_trans Z17 (Keep.of_wr W20).1
  have K30 : Keep h0 h20 [a1] := K18.wr W20 (Or.inl (List.mem_of_getElem? (i := 0) rfl))
  have N20 := Fr.snoc X20 N7 g_a
  have P31 : ∀ t, Steps p.tables e below (T20.setTop (mkF m 15 #[.val (.ref a1), .val (.ref a2), .unset] [])) t → Steps p.tables e below (s₁.setTop (entryFrame m #[(.ref a1), (.ref a2)] 3)) t := fun t k => P19 _ (st20 _ k)
  have P32 : ∀ t, Steps p.tables e below (T20.setTop (mkF m 19 #[.val (.ref a1), .val (.ref a2), .unset] [(.int (256 : Int32)), (.ref a1)])) t → Steps p.tables e below (s₁.setTop (entryFrame m #[(.ref a1), (.ref a2)] 3)) t := by
    intro t k
    refine P31 _ ?_
    refine XS.aloadN X20.here hx rfl (hb hby d27_15) rfl rfl ?_
    show Steps p.tables e below (T20.setTop (mkF m 16 #[.val (.ref a1), .val (.ref a2), .unset] [(.ref a1)])) _
    refine XS.sipush X20.here hx rfl (hb hby d27_16) ?_
    show Steps p.tables e below (T20.setTop (mkF m 19 #[.val (.ref a1), .val (.ref a2), .unset] [(.int (256 : Int32)), (.ref a1)])) _
    exact k
  obtain ⟨T33, h33, k33, X33, e33, E33, A33, st33⟩ := newP X20 hx hZ (hw _ (List.mem_of_getElem? (i := 27) rfl)) e20 (g := (mkF m 19 #[.val (.ref a1), .val (.ref a2), .unset] [(.int (256 : Int32)), (.ref a1)])) rfl (hb hby d27_19) rfl (by decide) (cap := 256) (by decide) (by decide) (by decide) (by decide)
  obtain ⟨b33, g33⟩ : ∃ z, z = h20.size := ⟨_, rfl⟩
  rw [← g33] at A33 st33
  have F34 : Exa Z h33 a1 "com/example/basewright/basewright/Alphabet" := F21.ext E33
  have F35 : Fld Z h33 a1 "com/example/basewright/basewright/Alphabet" "values" "[B" u2 := F22.ext E33
  have F36 : Exa Z h33 a2 "java/lang/String" := F23.ext E33
  have F37 : Exa Z h33 bv "[B" := F24.ext E33
  have F38 : Old Z n0 h33 := F25.ext E33
  have F39 : own_Af Z h33 b_7 kb .byte pn (fun i => Value.int (cf i)) := F26.ext E33
  have F40 : Exa Z h33 b_7 "[B" := F27.ext E33
  have F41 : Fld Z h33 a1 "com/example/basewright/basewright/Alphabet" "characters" "[B" (.ref b_7) := F28.ext E33
  obtain ⟨kc_b33, hkc_b33⟩ : ∃ z, z = k33 := ⟨_, rfl⟩
  rw [← hkc_b33] at A33
  have F42 : own_Af Z h33 b33 kc_b33 .byte (256 : Int32) (fun _ => (.int (0 : Int32))) := own_Af.new A33 (by decide)
  have Z43 : n0 ≤ h33.size := Nat.le_trans Z29 E33.1
  have K44 : Keep h0 h33 [a1] := K30.ext E33
  have g_b33 : n0 ≤ b33 := Nat.le_trans Z29 (Nat.le_of_eq g33.symm)
  have sz_b33 : h0.size ≤ b33 := Nat.le_trans K30.1 (Nat.le_of_eq g33.symm)
  have ne_a1_b33 : a1 ≠ b33 := Nat.ne_of_lt (Nat.lt_of_lt_of_le F21.lt (Nat.le_of_eq g33.symm))
  have ne_a2_b33 : a2 ≠ b33 := Nat.ne_of_lt (Nat.lt_of_lt_of_le F23.lt (Nat.le_of_eq g33.symm))
  have ne_bv_b33 : bv ≠ b33 := Nat.ne_of_lt (Nat.lt_of_lt_of_le F24.lt (Nat.le_of_eq g33.symm))
  have ne_b_7_b33 : b_7 ≠ b33 := Nat.ne_of_lt (Nat.lt_of_lt_of_le F26.lt (Nat.le_of_eq g33.symm))
  have P45 : ∀ t, Steps p.tables e below (T33.setTop (mkF m 21 #[.val (.ref a1), .val (.ref a2), .unset] [(.ref b33), (.ref a1)])) t → Steps p.tables e below (s₁.setTop (entryFrame m #[(.ref a1), (.ref a2)] 3)) t := fun t k => P32 _ (st33 _ k)
  obtain ⟨T46, h46, X46, e46, W46, st46⟩ := putF X33 hx hZ hown (host := "") (Or.inl (hw _ (List.mem_of_getElem? (i := 81) rfl))) Via.refl e33 F35 F34 (Or.inr ⟨(hw _ (List.mem_of_getElem? (i := 82) rfl)), rfl, hnm⟩) (hw _ (List.mem_of_getElem? (i := 2) rfl)) (ty := (.array .byte)) (by decide) rfl rfl (g := (mkF m 21 #[.val (.ref a1), .val (.ref a2), .unset] [(.ref b33), (.ref a1)])) rfl rfl (hb hby d27_21)
  have F47 : Exa Z h46 a1 "com/example/basewright/basewright/Alphabet" := F34.wr W46
  have F48 : Exa Z h46 a2 "java/lang/String" := F36.wr W46
  have F49 : Exa Z h46 bv "[B" := F37.wr W46
  have F50 : Old Z n0 h46 := F38.wr W46 g_a
  have F51 : own_Af Z h46 b_7 kb .byte pn (fun i => Value.int (cf i)) := F39.other W46 (Ne.symm ne_a1_b_7)
  have F52 : Exa Z h46 b_7 "[B" := F40.wr W46
  have F53 : Fld Z h46 a1 "com/example/basewright/basewright/Alphabet" "characters" "[B" (.ref b_7) := F41.other W46 (Or.inr (slot_ne (Or.inr (hw _ (List.mem_of_getElem? (i := 80) rfl))) (Or.inr (hw _ (List.mem_of_getElem? (i := 82) rfl))) (by decide) (t := (.array .byte)) (t' := (.array .byte)) (by decide) (by decide)))
  have F54 : own_Af Z h46 b33 kc_b33 .byte (256 : Int32) (fun _ => (.int (0 : Int32))) := F42.other W46 (Ne.symm ne_a1_b33)
  have F55 : Fld Z h46 a1 "com/example/basewright/basewright/Alphabet" "values" "[B" (.ref b33) := F35.same W46
  have Z56 : n0 ≤ h46.size := Nat.le_trans Z43 (Keep.of_wr W46).1
  have K57 : Keep h0 h46 [a1] := K44.wr W46 (Or.inl (List.mem_of_getElem? (i := 0) rfl))
  have N46 := Fr.snoc X46 N20 g_a
  have P58 : ∀ t, Steps p.tables e below (T46.setTop (mkF m 24 #[.val (.ref a1), .val (.ref a2), .unset] [])) t → Steps p.tables e below (s₁.setTop (entryFrame m #[(.ref a1), (.ref a2)] 3)) t := fun t k => P45 _ (st46 _ k)
  have P59 : ∀ t, Steps p.tables e below (T46.setTop (mkF m 25 #[.val (.ref a1), .val (.ref a2), .unset] [(.ref a1)])) t → Steps p.tables e below (s₁.setTop (entryFrame m #[(.ref a1), (.ref a2)] 3)) t := by
    intro t k
    refine P58 _ ?_
    refine XS.aloadN X46.here hx rfl (hb hby d27_24) rfl rfl ?_
    show Steps p.tables e below (T46.setTop (mkF m 25 #[.val (.ref a1), .val (.ref a2), .unset] [(.ref a1)])) _
    exact k
  obtain ⟨T60, X60, e60, st60⟩ := getF X46 hx hZ hown (host := "") (Or.inl (hw _ (List.mem_of_getElem? (i := 81) rfl))) Via.refl e46 F55 (g := (mkF m 25 #[.val (.ref a1), .val (.ref a2), .unset] [(.ref a1)])) rfl rfl (hb hby d27_25)
  have P61 : ∀ t, Steps p.tables e below (T60.setTop (mkF m 28 #[.val (.ref a1), .val (.ref a2), .unset] [(.ref b33)])) t → Steps p.tables e below (s₁.setTop (entryFrame m #[(.ref a1), (.ref a2)] 3)) t := fun t k => P59 _ (st60 _ k)
  have P62 : ∀ t, Steps p.tables e below (T60.setTop (mkF m 29 #[.val (.ref a1), .val (.ref a2), .unset] [(.int (-1 : Int32)), (.ref b33)])) t → Steps p.tables e below (s₁.setTop (entryFrame m #[(.ref a1), (.ref a2)] 3)) t := by
    intro t k
    refine P61 _ ?_
    refine XS.iconst X60.here hx rfl (hb hby d27_28) ?_
    show Steps p.tables e below (T60.setTop (mkF m 29 #[.val (.ref a1), .val (.ref a2), .unset] [(.int (-1 : Int32)), (.ref b33)])) _
    exact k
  obtain ⟨_, _, ⟨T63, L63, k63, n63⟩, -, X63, ⟨Lc63, hQ63, l63, y63, z63⟩, st63⟩ := Jvm.LawKit.callS X60 hx (y := (⟨"java/util/Arrays", "fill", "([BB)V"⟩ : MethodName)) hown (mvT hZ (hw _ (List.mem_of_getElem? (i := 83) rfl))) (mvT hZ (hw _ (List.mem_of_getElem? (i := 84) rfl))) (mvT hZ (hw _ (List.mem_of_getElem? (i := 85) rfl))) (mvT hZ (hw _ (List.mem_of_getElem? (i := 86) rfl))) (by decide) (backOf (W := 0) (rm26 l Z a0 hw [] b33 (-1 : Int32) (256 : Int32) kc_b33 (fun _ => (.int (0 : Int32))) (-1 : Int32) 256 h46 n0 Z56 F54 g_b33 rfl (by decide) (by decide)) hZ (hw _ (List.mem_of_getElem? (i := 86) rfl)) (hw _ (List.mem_of_getElem? (i := 85) rfl)) (by decide) (by decide)) (g := (mkF m 29 #[.val (.ref a1), .val (.ref a2), .unset] [(.int (-1 : Int32)), (.ref b33)])) rfl (by rw [hml]; rfl) (argsL := [(.ref b33), (.int (-1 : Int32))]) (rest := []) (lenOf pd_9 rfl) rfl (by show 2 * 0 + _ ≤ _; exact Nat.le_of_eq rfl) (hb hby d27_29) (fun _ _ => ⟨rfl, e60, (by decide : 2 + 0 ≤ _), (by decide : 260 + 0 ≤ _)⟩)
  dsimp only [Pt.U, Pt.locs, Pt.cells, Pt.slots] at X63 l63 y63 z63 st63 hQ63
  subst l63 y63 z63
  obtain ⟨rfl, N63q, K63, Y63_0⟩ := hQ63
  have F64 : Exa Z T63.heap a1 "com/example/basewright/basewright/Alphabet" := F47.keep K63
  have F65 : Exa Z T63.heap a2 "java/lang/String" := F48.keep K63
  have F66 : Exa Z T63.heap bv "[B" := F49.keep K63
  have F67 : Old Z n0 T63.heap := F50.keep K63 (allS g_b33 all0)
  have F68 : own_Af Z T63.heap b_7 kb .byte pn (fun i => Value.int (cf i)) := F51.keep K63 (ninS ne_b_7_b33 nin0)
  have F69 : Exa Z T63.heap b_7 "[B" := F52.keep K63
  have F70 : Fld Z T63.heap a1 "com/example/basewright/basewright/Alphabet" "characters" "[B" (.ref b_7) := F53.keep K63 (ninS ne_a1_b33 nin0)
  have F71 : Fld Z T63.heap a1 "com/example/basewright/basewright/Alphabet" "values" "[B" (.ref b33) := F55.keep K63 (ninS ne_a1_b33 nin0)
  have Z72 : n0 ≤ T63.heap.size := Nat.le_trans Z56 K63.1
  have K73 : Keep h0 T63.heap [a1] := K57.trans K63 (allS (Or.inr sz_b33) all0)
  have N63 := Fr.app N46 N63q
  have P74 : ∀ t, Steps p.tables e below (T63.setTop (mkF m 32 #[.val (.ref a1), .val (.ref a2), .unset] [])) t → Steps p.tables e below (s₁.setTop (entryFrame m #[(.ref a1), (.ref a2)] 3)) t := fun t k => P62 _ (st63 _ k)
  have P75 : ∀ t, Steps p.tables e below (T63.setTop (mkF m 34 #[.val (.ref a1), .val (.ref a2), .val (.int (0 : Int32))] [])) t → Steps p.tables e below (s₁.setTop (entryFrame m #[(.ref a1), (.ref a2)] 3)) t := by
    intro t k
    refine P74 _ ?_
    refine XS.iconst X63.here hx rfl (hb hby d27_32) ?_
    show Steps p.tables e below (T63.setTop (mkF m 33 #[.val (.ref a1), .val (.ref a2), .unset] [(.int (0 : Int32))])) _
    refine XS.istoreN X63.here hx rfl (hb hby d27_33) rfl (l' := #[.val (.ref a1), .val (.ref a2), .val (.int (0 : Int32))]) rfl ?_
    show Steps p.tables e below (T63.setTop (mkF m 34 #[.val (.ref a1), .val (.ref a2), .val (.int (0 : Int32))] [])) _
    exact k
  obtain ⟨T76, h76, lo76, jv, X76, e76, N76q, K76, q1, q2, q3, q4, st76⟩ := loop27 a1 a2 b_7 b33 pn kb kc_b33 cf n hx hZ hw hby hml hown hn hn4 g_b33 ne_b_7_b33 ne_a1_b33 hcs n T63 _ T63.heap 0 (0 : Int32) _ X63 rfl N63 Z72 F70 F71 F68 Y63_0 (by omega) rfl (fun j => rfl)
  have P77 : ∀ t, Steps p.tables e below (T76.setTop (mkF m 62 #[.val (.ref a1), .val (.ref a2), .val (.int jv)] [])) t → Steps p.tables e below (s₁.setTop (entryFrame m #[(.ref a1), (.ref a2)] 3)) t := fun t k => P75 _ (st76 _ k)
  have F78 : Exa Z h76 a1 "com/example/basewright/basewright/Alphabet" := F64.keep K76
  have F79 : Exa Z h76 a2 "java/lang/String" := F65.keep K76
  have F80 : Exa Z h76 bv "[B" := F66.keep K76
  have F81 : Old Z n0 h76 := F67.keep K76 (allS g_b33 all0)
  have F82 : own_Af Z h76 b_7 kb .byte pn (fun i => Value.int (cf i)) := F68.keep K76 (ninS ne_b_7_b33 nin0)
  have F83 : Exa Z h76 b_7 "[B" := F69.keep K76
  have F84 : Fld Z h76 a1 "com/example/basewright/basewright/Alphabet" "characters" "[B" (.ref b_7) := F70.keep K76 (ninS ne_a1_b33 nin0)
  have F85 : Fld Z h76 a1 "com/example/basewright/basewright/Alphabet" "values" "[B" (.ref b33) := F71.keep K76 (ninS ne_a1_b33 nin0)
  have Z86 : n0 ≤ h76.size := Nat.le_trans Z72 K76.1
  have K87 : Keep h0 h76 [a1] := K73.trans K76 (allS (Or.inr sz_b33) all0)
  obtain ⟨fs, hr, hrun, hended, hW, hsame⟩ := X76.leave (v := none) (fun _ => rfl)
  refine ⟨_, _, P77 _ ?_, hrun, hended, _, _, rfl, ?_, ⟨_, rfl⟩, hW, hsame.mono (by decide) (by decide)⟩
  · exact X76.returnOut hx Bd.returns (hb hby d27_62) hr
  · show Q27 Z a1 a2 u1 u2 bv pn kb cf n wA wU wI ccs h0 n0 _ T76.heap _
    rw [e76]
    exact ⟨b_7, b33, kc_b33, rfl, N76q, K87, sz_b_7, sz_b33, F78, q1, q2, q3, q4⟩
theorem d28_0 : decode prog_1_method_6_code 0 = .ok (.aload_n 0, 1) := by decide +kernel
theorem d28_1 : decode prog_1_method_6_code 1 = .ok (.getfield 21, 3) := by decide +kernel
theorem d28_4 : decode prog_1_method_6_code 4 = .ok (.arraylength, 1) := by decide +kernel
theorem d28_5 : decode prog_1_method_6_code 5 = .ok (.istore_n 2, 1) := by decide +kernel
theorem d28_6 : decode prog_1_method_6_code 6 = .ok (.iload_n 2, 1) := by decide +kernel
theorem d28_7 : decode prog_1_method_6_code 7 = .ok (.iload_n 2, 1) := by decide +kernel
theorem d28_8 : decode prog_1_method_6_code 8 = .ok (.imul, 1) := by decide +kernel
theorem d28_9 : decode prog_1_method_6_code 9 = .ok (.newarray .short, 2) := by decide +kernel
theorem d28_11 : decode prog_1_method_6_code 11 = .ok (.astore_n 3, 1) := by decide +kernel
theorem d28_12 : decode prog_1_method_6_code 12 = .ok (.iconst 0, 1) := by decide +kernel
theorem d28_13 : decode prog_1_method_6_code 13 = .ok (.istore 4, 2) := by decide +kernel
theorem d28_15 : decode prog_1_method_6_code 15 = .ok (.iload 4, 2) := by decide +kernel
theorem d28_17 : decode prog_1_method_6_code 17 = .ok (.aload_n 3, 1) := by decide +kernel
theorem d28_18 : decode prog_1_method_6_code 18 = .ok (.arraylength, 1) := by decide +kernel
theorem d28_19 : decode prog_1_method_6_code 19 = .ok (.if_icmp .ge 59, 3) := by decide +kernel
theorem d28_22 : decode prog_1_method_6_code 22 = .ok (.aload_n 0, 1) := by decide +kernel
theorem d28_23 : decode prog_1_method_6_code 23 = .ok (.getfield 21, 3) := by decide +kernel
theorem d28_26 : decode prog_1_method_6_code 26 = .ok (.iload 4, 2) := by decide +kernel
theorem d28_28 : decode prog_1_method_6_code 28 = .ok (.iload_n 2, 1) := by decide +kernel
theorem d28_29 : decode prog_1_method_6_code 29 = .ok (.idiv, 1) := by decide +kernel
theorem d28_30 : decode prog_1_method_6_code 30 = .ok (.baload, 1) := by decide +kernel
theorem d28_31 : decode prog_1_method_6_code 31 = .ok (.istore 5, 2) := by decide +kernel
theorem d28_33 : decode prog_1_method_6_code 33 = .ok (.aload_n 0, 1) := by decide +kernel
theorem d28_34 : decode prog_1_method_6_code 34 = .ok (.getfield 21, 3) := by decide +kernel
theorem d28_37 : decode prog_1_method_6_code 37 = .ok (.iload 4, 2) := by decide +kernel
theorem d28_39 : decode prog_1_method_6_code 39 = .ok (.iload_n 2, 1) := by decide +kernel
theorem d28_40 : decode prog_1_method_6_code 40 = .ok (.irem, 1) := by decide +kernel
theorem d28_41 : decode prog_1_method_6_code 41 = .ok (.baload, 1) := by decide +kernel
theorem d28_42 : decode prog_1_method_6_code 42 = .ok (.istore 6, 2) := by decide +kernel
theorem d28_44 : decode prog_1_method_6_code 44 = .ok (.aload_n 3, 1) := by decide +kernel
theorem d28_45 : decode prog_1_method_6_code 45 = .ok (.iload 4, 2) := by decide +kernel
theorem d28_47 : decode prog_1_method_6_code 47 = .ok (.iload_n 1, 1) := by decide +kernel
theorem d28_48 : decode prog_1_method_6_code 48 = .ok (.ifCond .eq 14, 3) := by decide +kernel
theorem d28_51 : decode prog_1_method_6_code 51 = .ok (.iload 6, 2) := by decide +kernel
theorem d28_53 : decode prog_1_method_6_code 53 = .ok (.bipush 8, 2) := by decide +kernel
theorem d28_55 : decode prog_1_method_6_code 55 = .ok (.ishl, 1) := by decide +kernel
theorem d28_56 : decode prog_1_method_6_code 56 = .ok (.iload 5, 2) := by decide +kernel
theorem d28_58 : decode prog_1_method_6_code 58 = .ok (.ior, 1) := by decide +kernel
theorem d28_59 : decode prog_1_method_6_code 59 = .ok (.goto 11, 3) := by decide +kernel
theorem d28_62 : decode prog_1_method_6_code 62 = .ok (.iload 5, 2) := by decide +kernel
theorem d28_64 : decode prog_1_method_6_code 64 = .ok (.bipush 8, 2) := by decide +kernel
theorem d28_66 : decode prog_1_method_6_code 66 = .ok (.ishl, 1) := by decide +kernel
theorem d28_67 : decode prog_1_method_6_code 67 = .ok (.iload 6, 2) := by decide +kernel
theorem d28_69 : decode prog_1_method_6_code 69 = .ok (.ior, 1) := by decide +kernel
theorem d28_70 : decode prog_1_method_6_code 70 = .ok (.i2s, 1) := by decide +kernel
theorem d28_71 : decode prog_1_method_6_code 71 = .ok (.sastore, 1) := by decide +kernel
theorem d28_72 : decode prog_1_method_6_code 72 = .ok (.iinc 4 1, 3) := by decide +kernel
theorem d28_75 : decode prog_1_method_6_code 75 = .ok (.goto (-60), 3) := by decide +kernel
theorem d28_78 : decode prog_1_method_6_code 78 = .ok (.aload_n 3, 1) := by decide +kernel
theorem d28_79 : decode prog_1_method_6_code 79 = .ok (.areturn, 1) := by decide +kernel
theorem os28_31 {z0 : Value} {z1 : Value} {z2 : Value} {z3 : Value} {z4 : Value} {s5 : Slot} {s6 : Slot} {v : Int32} (h : One s5) : storeLocals #[.val z0, .val z1, .val z2, .val z3, .val z4, s5, s6] 5 (.int v) = some #[.val z0, .val z1, .val z2, .val z3, .val z4, .val (.int v), s6] := by
  rcases h with rfl | ⟨w, rfl, hw⟩
  · rfl
  · cases w <;> first | rfl | (simp [Value.category] at hw)
theorem os28_42 {z0 : Value} {z1 : Value} {z2 : Value} {z3 : Value} {z4 : Value} {z5 : Value} {s6 : Slot} {v : Int32} (h : One s6) : storeLocals #[.val z0, .val z1, .val z2, .val z3, .val z4, .val z5, s6] 6 (.int v) = some #[.val z0, .val z1, .val z2, .val z3, .val z4, .val z5, .val (.int v)] := by
  rcases h with rfl | ⟨w, rfl, hw⟩
  · rfl
  · cases w <;> first | rfl | (simp [Value.category] at hw)
set_option maxRecDepth 65536 in
set_option maxHeartbeats 40000000 in
theorem tn28 {p : Program} {l : Launch} {e : Env} {R : Room} {s : State} {m : MethodId} {args : Array Value} {below : List Frame} {meth : Method} {c : Code} {T : State} {locs : List Loc} {cells slots : Nat} {Z : State} {a0 : Array Value} {h0 : Heap} {n0 : Nat} (a1 : Addr) (p2 : Int32) (pn : Int32) (ps : Addr) (iv : Int32) (s5 : Slot) (s6 : Slot) (bc : Addr) (nq : Int32) (kb : ClassId) (kp : ClassId) (cf : Nat → Int32) (f3 : Nat → Value)
    (X0 : Stand p l e R s m args below meth c T locs cells slots) (hx : p.tables.exec = Jvm.exec) (hZ : Z.Warmed39 s.vm) (hw : ∀ d ∈ tables_1, d.before a0 Z = true) (hby : c.code = prog_1_method_6_code) (hml : c.maxLocals = 7) (hown : s.vm.findClass "com/example/basewright/basewright/Alphabet" = some m.cls) (e0 : T.heap = h0) (N0 : Fr n0 locs) (Z0 : n0 ≤ h0.size) (F_c : Fld Z h0 a1 "com/example/basewright/basewright/Alphabet" "characters" "[B" (.ref bc)) (A_b : own_Af Z h0 bc kb .byte pn (fun i => Value.int (cf i))) (A_s : own_Af Z h0 ps kp .short nq f3) (g_s : n0 ≤ ps) (nebs : bc ≠ ps) (neas : a1 ≠ ps) (h_s5 : One s5) (h_s6 : One s6) (hlt : iv < nq) (hj : ¬ iv < (0 : Int32) ∧ iv < nq) (hnz : pn ≠ 0) (hj5 : ¬ (iv / pn) < (0 : Int32) ∧ (iv / pn) < pn) (hj6 : ¬ (iv % pn) < (0 : Int32) ∧ (iv % pn) < pn) :
    ∃ (T' : State) (h' : Heap) (locs' : List Loc), Stand p l e R s m args below meth c T' locs' cells slots ∧ T'.heap = h' ∧ Fr n0 locs' ∧ Keep h0 h' [ps] ∧ Fld Z h' a1 "com/example/basewright/basewright/Alphabet" "characters" "[B" (.ref bc) ∧ own_Af Z h' bc kb .byte pn (fun i => Value.int (cf i)) ∧ own_Af Z h' ps kp .short nq (fun i => if i = (iv).toNatClampNeg then (.int (nar .short ((if p2 = (0 : Int32) then (((cf ((iv / pn)).toNatClampNeg) <<< ((8 : Int32) &&& 31)) ||| (cf ((iv % pn)).toNatClampNeg)) else (((cf ((iv % pn)).toNatClampNeg) <<< ((8 : Int32) &&& 31)) ||| (cf ((iv / pn)).toNatClampNeg))).toInt16.toInt32))) else f3 i) ∧
      ∀ t, Steps p.tables e below (T'.setTop (mkF m 15 #[.val (.ref a1), .val (.int p2), .val (.int pn), .val (.ref ps), .val (.int (iv + (1 : Int32))), .val (.int (cf ((iv / pn)).toNatClampNeg)), .val (.int (cf ((iv % pn)).toNatClampNeg))] [])) t → Steps p.tables e below (T.setTop (mkF m 15 #[.val (.ref a1), .val (.int p2), .val (.int pn), .val (.ref ps), .val (.int iv), s5, s6] [])) t := by
  have K0 : Keep h0 h0 [ps] := Keep.refl _ _
  have P0 : ∀ t, Steps p.tables e below (T.setTop (mkF m 15 #[.val (.ref a1), .val (.int p2), .val (.int pn), .val (.ref ps), .val (.int iv), s5, s6] [])) t → Steps p.tables e below (T.setTop (mkF m 15 #[.val (.ref a1), .val (.int p2), .val (.int pn), .val (.ref ps), .val (.int iv), s5, s6] [])) t := fun t k => k
  have P1 : ∀ t, Steps p.tables e below (T.setTop (mkF m 23 #[.val (.ref a1), .val (.int p2), .val (.int pn), .val (.ref ps), .val (.int iv), s5, s6] [(.ref a1)])) t → Steps p.tables e below (T.setTop (mkF m 15 #[.val (.ref a1), .val (.int p2), .val (.int pn), .val (.ref ps), .val (.int iv), s5, s6] [])) t := by
    intro t k
    refine P0 _ ?_
    refine XS.iload X0.here hx rfl (hb hby d28_15) rfl ?_
    show Steps p.tables e below (T.setTop (mkF m 17 #[.val (.ref a1), .val (.int p2), .val (.int pn), .val (.ref ps), .val (.int iv), s5, s6] [(.int iv)])) _
    refine XS.aloadN X0.here hx rfl (hb hby d28_17) rfl rfl ?_
    show Steps p.tables e below (T.setTop (mkF m 18 #[.val (.ref a1), .val (.int p2), .val (.int pn), .val (.ref ps), .val (.int iv), s5, s6] [(.ref ps), (.int iv)])) _
    refine own_flen X0 hx hZ e0 A_s rfl rfl (hb hby d28_18) ?_
    show Steps p.tables e below (T.setTop (mkF m 19 #[.val (.ref a1), .val (.int p2), .val (.int pn), .val (.ref ps), .val (.int iv), s5, s6] [(.int nq), (.int iv)])) _
    refine XS.icmpNo X0.here hx rfl (hb hby d28_19) rfl (XT.ii_ge_f hlt) ?_
    show Steps p.tables e below (T.setTop (mkF m 22 #[.val (.ref a1), .val (.int p2), .val (.int pn), .val (.ref ps), .val (.int iv), s5, s6] [])) _
    refine XS.aloadN X0.here hx rfl (hb hby d28_22) rfl rfl ?_
    show Steps p.tables e below (T.setTop (mkF m 23 #[.val (.ref a1), .val (.int p2), .val (.int pn), .val (.ref ps), .val (.int iv), s5, s6] [(.ref a1)])) _
    exact k
  obtain ⟨T2, X2, e2, st2⟩ := getF X0 hx hZ hown (host := "") (Or.inl (hw _ (List.mem_of_getElem? (i := 79) rfl))) Via.refl e0 F_c (g := (mkF m 23 #[.val (.ref a1), .val (.int p2), .val (.int pn), .val (.ref ps), .val (.int iv), s5, s6] [(.ref a1)])) rfl rfl (hb hby d28_23)
  have P3 : ∀ t, Steps p.tables e below (T2.setTop (mkF m 26 #[.val (.ref a1), .val (.int p2), .val (.int pn), .val (.ref ps), .val (.int iv), s5, s6] [(.ref bc)])) t → Steps p.tables e below (T.setTop (mkF m 15 #[.val (.ref a1), .val (.int p2), .val (.int pn), .val (.ref ps), .val (.int iv), s5, s6] [])) t := fun t k => P1 _ (st2 _ k)
  have P4 : ∀ t, Steps p.tables e below (T2.setTop (mkF m 34 #[.val (.ref a1), .val (.int p2), .val (.int pn), .val (.ref ps), .val (.int iv), .val (.int (cf ((iv / pn)).toNatClampNeg)), s6] [(.ref a1)])) t → Steps p.tables e below (T.setTop (mkF m 15 #[.val (.ref a1), .val (.int p2), .val (.int pn), .val (.ref ps), .val (.int iv), s5, s6] [])) t := by
    intro t k
    refine P3 _ ?_
    refine XS.iload X2.here hx rfl (hb hby d28_26) rfl ?_
    show Steps p.tables e below (T2.setTop (mkF m 28 #[.val (.ref a1), .val (.int p2), .val (.int pn), .val (.ref ps), .val (.int iv), s5, s6] [(.int iv), (.ref bc)])) _
    refine XS.iloadN X2.here hx rfl (hb hby d28_28) rfl ?_
    show Steps p.tables e below (T2.setTop (mkF m 29 #[.val (.ref a1), .val (.int p2), .val (.int pn), .val (.ref ps), .val (.int iv), s5, s6] [(.int pn), (.int iv), (.ref bc)])) _
    refine XS.idiv X2.here hx rfl (hb hby d28_29) rfl hnz ?_
    show Steps p.tables e below (T2.setTop (mkF m 30 #[.val (.ref a1), .val (.int p2), .val (.int pn), .val (.ref ps), .val (.int iv), s5, s6] [(.int (iv / pn)), (.ref bc)])) _
    refine own_fbal X2 hx hZ e2 A_b hj5 (v := (.int (cf ((iv / pn)).toNatClampNeg))) rfl rfl rfl (hb hby d28_30) ?_
    show Steps p.tables e below (T2.setTop (mkF m 31 #[.val (.ref a1), .val (.int p2), .val (.int pn), .val (.ref ps), .val (.int iv), s5, s6] [(.int (cf ((iv / pn)).toNatClampNeg))])) _
    refine XS.istore X2.here hx rfl (hb hby d28_31) rfl (l' := #[.val (.ref a1), .val (.int p2), .val (.int pn), .val (.ref ps), .val (.int iv), .val (.int (cf ((iv / pn)).toNatClampNeg)), s6]) (os28_31 h_s5) ?_
    show Steps p.tables e below (T2.setTop (mkF m 33 #[.val (.ref a1), .val (.int p2), .val (.int pn), .val (.ref ps), .val (.int iv), .val (.int (cf ((iv / pn)).toNatClampNeg)), s6] [])) _
    refine XS.aloadN X2.here hx rfl (hb hby d28_33) rfl rfl ?_
    show Steps p.tables e below (T2.setTop (mkF m 34 #[.val (.ref a1), .val (.int p2), .val (.int pn), .val (.ref ps), .val (.int iv), .val (.int (cf ((iv / pn)).toNatClampNeg)), s6] [(.ref a1)])) _
    exact k
  obtain ⟨T5, X5, e5, st5⟩ := getF X2 hx hZ hown (host := "") (Or.inl (hw _ (List.mem_of_getElem? (i := 79) rfl))) Via.refl e2 F_c (g := (mkF m 34 #[.val (.ref a1), .val (.int p2), .val (.int pn), .val (.ref ps), .val (.int iv), .val (.int (cf ((iv / pn)).toNatClampNeg)), s6] [(.ref a1)])) rfl rfl (hb hby d28_34)
  have P6 : ∀ t, Steps p.tables e below (T5.setTop (mkF m 37 #[.val (.ref a1), .val (.int p2), .val (.int pn), .val (.ref ps), .val (.int iv), .val (.int (cf ((iv / pn)).toNatClampNeg)), s6] [(.ref bc)])) t → Steps p.tables e below (T.setTop (mkF m 15 #[.val (.ref a1), .val (.int p2), .val (.int pn), .val (.ref ps), .val (.int iv), s5, s6] [])) t := fun t k => P4 _ (st5 _ k)
  have P7 : ∀ t, Steps p.tables e below (T5.setTop (mkF m 48 #[.val (.ref a1), .val (.int p2), .val (.int pn), .val (.ref ps), .val (.int iv), .val (.int (cf ((iv / pn)).toNatClampNeg)), .val (.int (cf ((iv % pn)).toNatClampNeg))] [(.int p2), (.int iv), (.ref ps)])) t → Steps p.tables e below (T.setTop (mkF m 15 #[.val (.ref a1), .val (.int p2), .val (.int pn), .val (.ref ps), .val (.int iv), s5, s6] [])) t := by
    intro t k
    refine P6 _ ?_
    refine XS.iload X5.here hx rfl (hb hby d28_37) rfl ?_
    show Steps p.tables e below (T5.setTop (mkF m 39 #[.val (.ref a1), .val (.int p2), .val (.int pn), .val (.ref ps), .val (.int iv), .val (.int (cf ((iv / pn)).toNatClampNeg)), s6] [(.int iv), (.ref bc)])) _
    refine XS.iloadN X5.here hx rfl (hb hby d28_39) rfl ?_
    show Steps p.tables e below (T5.setTop (mkF m 40 #[.val (.ref a1), .val (.int p2), .val (.int pn), .val (.ref ps), .val (.int iv), .val (.int (cf ((iv / pn)).toNatClampNeg)), s6] [(.int pn), (.int iv), (.ref bc)])) _
    refine iremM X5 hx rfl (hb hby d28_40) rfl hnz ?_
    show Steps p.tables e below (T5.setTop (mkF m 41 #[.val (.ref a1), .val (.int p2), .val (.int pn), .val (.ref ps), .val (.int iv), .val (.int (cf ((iv / pn)).toNatClampNeg)), s6] [(.int (iv % pn)), (.ref bc)])) _
    refine own_fbal X5 hx hZ e5 A_b hj6 (v := (.int (cf ((iv % pn)).toNatClampNeg))) rfl rfl rfl (hb hby d28_41) ?_
    show Steps p.tables e below (T5.setTop (mkF m 42 #[.val (.ref a1), .val (.int p2), .val (.int pn), .val (.ref ps), .val (.int iv), .val (.int (cf ((iv / pn)).toNatClampNeg)), s6] [(.int (cf ((iv % pn)).toNatClampNeg))])) _
    refine XS.istore X5.here hx rfl (hb hby d28_42) rfl (l' := #[.val (.ref a1), .val (.int p2), .val (.int pn), .val (.ref ps), .val (.int iv), .val (.int (cf ((iv / pn)).toNatClampNeg)), .val (.int (cf ((iv % pn)).toNatClampNeg))]) (os28_42 h_s6) ?_
    show Steps p.tables e below (T5.setTop (mkF m 44 #[.val (.ref a1), .val (.int p2), .val (.int pn), .val (.ref ps), .val (.int iv), .val (.int (cf ((iv / pn)).toNatClampNeg)), .val (.int (cf ((iv % pn)).toNatClampNeg))] [])) _
    refine XS.aloadN X5.here hx rfl (hb hby d28_44) rfl rfl ?_
    show Steps p.tables e below (T5.setTop (mkF m 45 #[.val (.ref a1), .val (.int p2), .val (.int pn), .val (.ref ps), .val (.int iv), .val (.int (cf ((iv / pn)).toNatClampNeg)), .val (.int (cf ((iv % pn)).toNatClampNeg))] [(.ref ps)])) _
    refine XS.iload X5.here hx rfl (hb hby d28_45) rfl ?_
    show Steps p.tables e below (T5.setTop (mkF m 47 #[.val (.ref a1), .val (.int p2), .val (.int pn), .val (.ref ps), .val (.int iv), .val (.int (cf ((iv / pn)).toNatClampNeg)), .val (.int (cf ((iv % pn)).toNatClampNeg))] [(.int iv), (.ref ps)])) _
    refine XS.iloadN X5.here hx rfl (hb hby d28_47) rfl ?_
    show Steps p.tables e below (T5.setTop (mkF m 48 #[.val (.ref a1), .val (.int p2), .val (.int pn), .val (.ref ps), .val (.int iv), .val (.int (cf ((iv / pn)).toNatClampNeg)), .val (.int (cf ((iv % pn)).toNatClampNeg))] [(.int p2), (.int iv), (.ref ps)])) _
    exact k
  by_cases c48 : p2 = (0 : Int32)
  · have P8 : ∀ t, Steps p.tables e below (T5.setTop (mkF m 71 #[.val (.ref a1), .val (.int p2), .val (.int pn), .val (.ref ps), .val (.int iv), .val (.int (cf ((iv / pn)).toNatClampNeg)), .val (.int (cf ((iv % pn)).toNatClampNeg))] [(.int ((((cf ((iv / pn)).toNatClampNeg) <<< ((8 : Int32) &&& 31)) ||| (cf ((iv % pn)).toNatClampNeg)).toInt16.toInt32)), (.int iv), (.ref ps)])) t → Steps p.tables e below (T.setTop (mkF m 15 #[.val (.ref a1), .val (.int p2), .val (.int pn), .val (.ref ps), .val (.int iv), s5, s6] [])) t := by
      intro t k
      refine P7 _ ?_
      refine XS.ifYes X5.here hx rfl (pc0 := 48) (pc' := 62) rfl (hb hby d28_48) rfl (XT.i0_eq_t c48) (by decide) (by decide) ?_
      show Steps p.tables e below (T5.setTop (mkF m 62 #[.val (.ref a1), .val (.int p2), .val (.int pn), .val (.ref ps), .val (.int iv), .val (.int (cf ((iv / pn)).toNatClampNeg)), .val (.int (cf ((iv % pn)).toNatClampNeg))] [(.int iv), (.ref ps)])) _
      refine XS.iload X5.here hx rfl (hb hby d28_62) rfl ?_
      show Steps p.tables e below (T5.setTop (mkF m 64 #[.val (.ref a1), .val (.int p2), .val (.int pn), .val (.ref ps), .val (.int iv), .val (.int (cf ((iv / pn)).toNatClampNeg)), .val (.int (cf ((iv % pn)).toNatClampNeg))] [(.int (cf ((iv / pn)).toNatClampNeg)), (.int iv), (.ref ps)])) _
      refine XS.bipush X5.here hx rfl (hb hby d28_64) ?_
      show Steps p.tables e below (T5.setTop (mkF m 66 #[.val (.ref a1), .val (.int p2), .val (.int pn), .val (.ref ps), .val (.int iv), .val (.int (cf ((iv / pn)).toNatClampNeg)), .val (.int (cf ((iv % pn)).toNatClampNeg))] [(.int (8 : Int32)), (.int (cf ((iv / pn)).toNatClampNeg)), (.int iv), (.ref ps)])) _
      refine XT.ishl X5.here hx rfl (hb hby d28_66) rfl ?_
      show Steps p.tables e below (T5.setTop (mkF m 67 #[.val (.ref a1), .val (.int p2), .val (.int pn), .val (.ref ps), .val (.int iv), .val (.int (cf ((iv / pn)).toNatClampNeg)), .val (.int (cf ((iv % pn)).toNatClampNeg))] [(.int ((cf ((iv / pn)).toNatClampNeg) <<< ((8 : Int32) &&& 31))), (.int iv), (.ref ps)])) _
      refine XS.iload X5.here hx rfl (hb hby d28_67) rfl ?_
      show Steps p.tables e below (T5.setTop (mkF m 69 #[.val (.ref a1), .val (.int p2), .val (.int pn), .val (.ref ps), .val (.int iv), .val (.int (cf ((iv / pn)).toNatClampNeg)), .val (.int (cf ((iv % pn)).toNatClampNeg))] [(.int (cf ((iv % pn)).toNatClampNeg)), (.int ((cf ((iv / pn)).toNatClampNeg) <<< ((8 : Int32) &&& 31))), (.int iv), (.ref ps)])) _
      refine XT.ior X5.here hx rfl (hb hby d28_69) rfl ?_
      show Steps p.tables e below (T5.setTop (mkF m 70 #[.val (.ref a1), .val (.int p2), .val (.int pn), .val (.ref ps), .val (.int iv), .val (.int (cf ((iv / pn)).toNatClampNeg)), .val (.int (cf ((iv % pn)).toNatClampNeg))] [(.int (((cf ((iv / pn)).toNatClampNeg) <<< ((8 : Int32) &&& 31)) ||| (cf ((iv % pn)).toNatClampNeg))), (.int iv), (.ref ps)])) _
      refine XT.i2s X5.here hx rfl (hb hby d28_70) rfl ?_
      show Steps p.tables e below (T5.setTop (mkF m 71 #[.val (.ref a1), .val (.int p2), .val (.int pn), .val (.ref ps), .val (.int iv), .val (.int (cf ((iv / pn)).toNatClampNeg)), .val (.int (cf ((iv % pn)).toNatClampNeg))] [(.int ((((cf ((iv / pn)).toNatClampNeg) <<< ((8 : Int32) &&& 31)) ||| (cf ((iv % pn)).toNatClampNeg)).toInt16.toInt32)), (.int iv), (.ref ps)])) _
      exact k
    obtain ⟨cl9, Ar9, q9, S9, M9, H9, G9⟩ := A_s
    have in9 : ¬ (iv < 0 ∨ cl9.slots.size ≤ (iv).toNatClampNeg) := inb_of S9 hj
    obtain ⟨T9, h9, X9, e9, W9, st9⟩ := stS X5 hx hZ e5 Ar9 (j := iv) in9 (g := (mkF m 71 #[.val (.ref a1), .val (.int p2), .val (.int pn), .val (.ref ps), .val (.int iv), .val (.int (cf ((iv / pn)).toNatClampNeg)), .val (.int (cf ((iv % pn)).toNatClampNeg))] [(.int ((((cf ((iv / pn)).toNatClampNeg) <<< ((8 : Int32) &&& 31)) ||| (cf ((iv % pn)).toNatClampNeg)).toInt16.toInt32)), (.int iv), (.ref ps)])) rfl rfl (hb hby d28_71)
    have F10 : Fld Z h9 a1 "com/example/basewright/basewright/Alphabet" "characters" "[B" (.ref bc) := F_c.other W9 (Or.inl neas)
    have F11 : own_Af Z h9 bc kb .byte pn (fun i => Value.int (cf i)) := A_b.other W9 nebs
    have F12 : own_Af Z h9 ps kp .short nq (fun i => if i = (iv).toNatClampNeg then (.int (nar .short ((((cf ((iv / pn)).toNatClampNeg) <<< ((8 : Int32) &&& 31)) ||| (cf ((iv % pn)).toNatClampNeg)).toInt16.toInt32))) else f3 i) := own_Af.set Ar9 q9 S9 M9 H9 G9 (fits_nar_short _) W9 (Nat.lt_of_not_le fun y => in9 (Or.inr y))
    have Z13 : n0 ≤ h9.size := Nat.le_trans Z0 (Keep.of_wr W9).1
    have K14 : Keep h0 h9 [ps] := K0.wr W9 (Or.inl (List.mem_of_getElem? (i := 0) rfl))
    have N9 := Fr.snoc X9 N0 g_s
    have P15 : ∀ t, Steps p.tables e below (T9.setTop (mkF m 72 #[.val (.ref a1), .val (.int p2), .val (.int pn), .val (.ref ps), .val (.int iv), .val (.int (cf ((iv / pn)).toNatClampNeg)), .val (.int (cf ((iv % pn)).toNatClampNeg))] [])) t → Steps p.tables e below (T.setTop (mkF m 15 #[.val (.ref a1), .val (.int p2), .val (.int pn), .val (.ref ps), .val (.int iv), s5, s6] [])) t := fun t k => P8 _ (st9 _ k)
    have P16 : ∀ t, Steps p.tables e below (T9.setTop (mkF m 15 #[.val (.ref a1), .val (.int p2), .val (.int pn), .val (.ref ps), .val (.int (iv + (1 : Int32))), .val (.int (cf ((iv / pn)).toNatClampNeg)), .val (.int (cf ((iv % pn)).toNatClampNeg))] [])) t → Steps p.tables e below (T.setTop (mkF m 15 #[.val (.ref a1), .val (.int p2), .val (.int pn), .val (.ref ps), .val (.int iv), s5, s6] [])) t := by
      intro t k
      refine P15 _ ?_
      refine XS.iinc X9.here hx rfl (hb hby d28_72) rfl (l' := #[.val (.ref a1), .val (.int p2), .val (.int pn), .val (.ref ps), .val (.int (iv + (1 : Int32))), .val (.int (cf ((iv / pn)).toNatClampNeg)), .val (.int (cf ((iv % pn)).toNatClampNeg))]) rfl ?_
      show Steps p.tables e below (T9.setTop (mkF m 75 #[.val (.ref a1), .val (.int p2), .val (.int pn), .val (.ref ps), .val (.int (iv + (1 : Int32))), .val (.int (cf ((iv / pn)).toNatClampNeg)), .val (.int (cf ((iv % pn)).toNatClampNeg))] [])) _
      refine XS.goto X9.here hx rfl (pc0 := 75) (pc' := 15) rfl (hb hby d28_75) (by decide) (by decide) ?_
      show Steps p.tables e below (T9.setTop (mkF m 15 #[.val (.ref a1), .val (.int p2), .val (.int pn), .val (.ref ps), .val (.int (iv + (1 : Int32))), .val (.int (cf ((iv / pn)).toNatClampNeg)), .val (.int (cf ((iv % pn)).toNatClampNeg))] [])) _
      exact k
    exact ⟨T9, h9, _, X9, e9, N9, K14, F10, F11, (by simp only [if_pos c48]; exact F12), P16⟩
  · have P17 : ∀ t, Steps p.tables e below (T5.setTop (mkF m 71 #[.val (.ref a1), .val (.int p2), .val (.int pn), .val (.ref ps), .val (.int iv), .val (.int (cf ((iv / pn)).toNatClampNeg)), .val (.int (cf ((iv % pn)).toNatClampNeg))] [(.int ((((cf ((iv % pn)).toNatClampNeg) <<< ((8 : Int32) &&& 31)) ||| (cf ((iv / pn)).toNatClampNeg)).toInt16.toInt32)), (.int iv), (.ref ps)])) t → Steps p.tables e below (T.setTop (mkF m 15 #[.val (.ref a1), .val (.int p2), .val (.int pn), .val (.ref ps), .val (.int iv), s5, s6] [])) t := by
      intro t k
      refine P7 _ ?_
      refine XS.ifNo X5.here hx rfl (hb hby d28_48) rfl (XT.i0_eq_f c48) ?_
      show Steps p.tables e below (T5.setTop (mkF m 51 #[.val (.ref a1), .val (.int p2), .val (.int pn), .val (.ref ps), .val (.int iv), .val (.int (cf ((iv / pn)).toNatClampNeg)), .val (.int (cf ((iv % pn)).toNatClampNeg))] [(.int iv), (.ref ps)])) _
      refine XS.iload X5.here hx rfl (hb hby d28_51) rfl ?_
      show Steps p.tables e below (T5.setTop (mkF m 53 #[.val (.ref a1), .val (.int p2), .val (.int pn), .val (.ref ps), .val (.int iv), .val (.int (cf ((iv / pn)).toNatClampNeg)), .val (.int (cf ((iv % pn)).toNatClampNeg))] [(.int (cf ((iv % pn)).toNatClampNeg)), (.int iv), (.ref ps)])) _
      refine XS.bipush X5.here hx rfl (hb hby d28_53) ?_
      show Steps p.tables e below (T5.setTop (mkF m 55 #[.val (.ref a1), .val (.int p2), .val (.int pn), .val (.ref ps), .val (.int iv), .val (.int (cf ((iv / pn)).toNatClampNeg)), .val (.int (cf ((iv % pn)).toNatClampNeg))] [(.int (8 : Int32)), (.int (cf ((iv % pn)).toNatClampNeg)), (.int iv), (.ref ps)])) _
      refine XT.ishl X5.here hx rfl (hb hby d28_55) rfl ?_
      show Steps p.tables e below (T5.setTop (mkF m 56 #[.val (.ref a1), .val (.int p2), .val (.int pn), .val (.ref ps), .val (.int iv), .val (.int (cf ((iv / pn)).toNatClampNeg)), .val (.int (cf ((iv % pn)).toNatClampNeg))] [(.int ((cf ((iv % pn)).toNatClampNeg) <<< ((8 : Int32) &&& 31))), (.int iv), (.ref ps)])) _
      refine XS.iload X5.here hx rfl (hb hby d28_56) rfl ?_
      show Steps p.tables e below (T5.setTop (mkF m 58 #[.val (.ref a1), .val (.int p2), .val (.int pn), .val (.ref ps), .val (.int iv), .val (.int (cf ((iv / pn)).toNatClampNeg)), .val (.int (cf ((iv % pn)).toNatClampNeg))] [(.int (cf ((iv / pn)).toNatClampNeg)), (.int ((cf ((iv % pn)).toNatClampNeg) <<< ((8 : Int32) &&& 31))), (.int iv), (.ref ps)])) _
      refine XT.ior X5.here hx rfl (hb hby d28_58) rfl ?_
      show Steps p.tables e below (T5.setTop (mkF m 59 #[.val (.ref a1), .val (.int p2), .val (.int pn), .val (.ref ps), .val (.int iv), .val (.int (cf ((iv / pn)).toNatClampNeg)), .val (.int (cf ((iv % pn)).toNatClampNeg))] [(.int (((cf ((iv % pn)).toNatClampNeg) <<< ((8 : Int32) &&& 31)) ||| (cf ((iv / pn)).toNatClampNeg))), (.int iv), (.ref ps)])) _
      refine XS.goto X5.here hx rfl (pc0 := 59) (pc' := 70) rfl (hb hby d28_59) (by decide) (by decide) ?_
      show Steps p.tables e below (T5.setTop (mkF m 70 #[.val (.ref a1), .val (.int p2), .val (.int pn), .val (.ref ps), .val (.int iv), .val (.int (cf ((iv / pn)).toNatClampNeg)), .val (.int (cf ((iv % pn)).toNatClampNeg))] [(.int (((cf ((iv % pn)).toNatClampNeg) <<< ((8 : Int32) &&& 31)) ||| (cf ((iv / pn)).toNatClampNeg))), (.int iv), (.ref ps)])) _
      refine XT.i2s X5.here hx rfl (hb hby d28_70) rfl ?_
      show Steps p.tables e below (T5.setTop (mkF m 71 #[.val (.ref a1), .val (.int p2), .val (.int pn), .val (.ref ps), .val (.int iv), .val (.int (cf ((iv / pn)).toNatClampNeg)), .val (.int (cf ((iv % pn)).toNatClampNeg))] [(.int ((((cf ((iv % pn)).toNatClampNeg) <<< ((8 : Int32) &&& 31)) ||| (cf ((iv / pn)).toNatClampNeg)).toInt16.toInt32)), (.int iv), (.ref ps)])) _
      exact k
    obtain ⟨cl18, Ar18, q18, S18, M18, H18, G18⟩ := A_s
    have in18 : ¬ (iv < 0 ∨ cl18.slots.size ≤ (iv).toNatClampNeg) := inb_of S18 hj
    obtain ⟨T18, h18, X18, e18, W18, st18⟩ := stS X5 hx hZ e5 Ar18 (j := iv) in18 (g := (mkF m 71 #[.val (.ref a1), .val (.int p2), .val (.int pn), .val (.ref ps), .val (.int iv), .val (.int (cf ((iv / pn)).toNatClampNeg)), .val (.int (cf ((iv % pn)).toNatClampNeg))] [(.int ((((cf ((iv % pn)).toNatClampNeg) <<< ((8 : Int32) &&& 31)) ||| (cf ((iv / pn)).toNatClampNeg)).toInt16.toInt32)), (.int iv), (.ref ps)])) rfl rfl (hb hby d28_71)
    have F19 : Fld Z h18 a1 "com/example/basewright/basewright/Alphabet" "characters" "[B" (.ref bc) := F_c.other W18 (Or.inl neas)
    have F20 : own_Af Z h18 bc kb .byte pn (fun i => Value.int (cf i)) := A_b.other W18 nebs
    have F21 : own_Af Z h18 ps kp .short nq (fun i => if i = (iv).toNatClampNeg then (.int (nar .short ((((cf ((iv % pn)).toNatClampNeg) <<< ((8 : Int32) &&& 31)) ||| (cf ((iv / pn)).toNatClampNeg)).toInt16.toInt32))) else f3 i) := own_Af.set Ar18 q18 S18 M18 H18 G18 (fits_nar_short _) W18 (Nat.lt_of_not_le fun y => in18 (Or.inr y))
    have Z22 : n0 ≤ h18.size := Nat.le_trans Z0 (Keep.of_wr W18).1
    have K23 : Keep h0 h18 [ps] := K0.wr W18 (Or.inl (List.mem_of_getElem? (i := 0) rfl))
    have N18 := Fr.snoc X18 N0 g_s
    have P24 : ∀ t, Steps p.tables e below (T18.setTop (mkF m 72 #[.val (.ref a1), .val (.int p2), .val (.int pn), .val (.ref ps), .val (.int iv), .val (.int (cf ((iv / pn)).toNatClampNeg)), .val (.int (cf ((iv % pn)).toNatClampNeg))] [])) t → Steps p.tables e below (T.setTop (mkF m 15 #[.val (.ref a1), .val (.int p2), .val (.int pn), .val (.ref ps), .val (.int iv), s5, s6] [])) t := fun t k => P17 _ (st18 _ k)
    have P25 : ∀ t, Steps p.tables e below (T18.setTop (mkF m 15 #[.val (.ref a1), .val (.int p2), .val (.int pn), .val (.ref ps), .val (.int (iv + (1 : Int32))), .val (.int (cf ((iv / pn)).toNatClampNeg)), .val (.int (cf ((iv % pn)).toNatClampNeg))] [])) t → Steps p.tables e below (T.setTop (mkF m 15 #[.val (.ref a1), .val (.int p2), .val (.int pn), .val (.ref ps), .val (.int iv), s5, s6] [])) t := by
      intro t k
      refine P24 _ ?_
      refine XS.iinc X18.here hx rfl (hb hby d28_72) rfl (l' := #[.val (.ref a1), .val (.int p2), .val (.int pn), .val (.ref ps), .val (.int (iv + (1 : Int32))), .val (.int (cf ((iv / pn)).toNatClampNeg)), .val (.int (cf ((iv % pn)).toNatClampNeg))]) rfl ?_
      show Steps p.tables e below (T18.setTop (mkF m 75 #[.val (.ref a1), .val (.int p2), .val (.int pn), .val (.ref ps), .val (.int (iv + (1 : Int32))), .val (.int (cf ((iv / pn)).toNatClampNeg)), .val (.int (cf ((iv % pn)).toNatClampNeg))] [])) _
      refine XS.goto X18.here hx rfl (pc0 := 75) (pc' := 15) rfl (hb hby d28_75) (by decide) (by decide) ?_
      show Steps p.tables e below (T18.setTop (mkF m 15 #[.val (.ref a1), .val (.int p2), .val (.int pn), .val (.ref ps), .val (.int (iv + (1 : Int32))), .val (.int (cf ((iv / pn)).toNatClampNeg)), .val (.int (cf ((iv % pn)).toNatClampNeg))] [])) _
      exact k
    exact ⟨T18, h18, _, X18, e18, N18, K23, F19, F20, (by simp only [if_neg c48]; exact F21), P25⟩
set_option maxRecDepth 65536 in
set_option maxHeartbeats 40000000 in
theorem lv28 {p : Program} {l : Launch} {e : Env} {R : Room} {s : State} {m : MethodId} {args : Array Value} {below : List Frame} {meth : Method} {c : Code} {T : State} {locs : List Loc} {cells slots : Nat} {Z : State} {a0 : Array Value} {h0 : Heap} {n0 : Nat} (a1 : Addr) (p2 : Int32) (pn : Int32) (ps : Addr) (iv : Int32) (s5 : Slot) (s6 : Slot) (bc : Addr) (nq : Int32) (kb : ClassId) (kp : ClassId) (cf : Nat → Int32) (f3 : Nat → Value)
    (X0 : Stand p l e R s m args below meth c T locs cells slots) (hx : p.tables.exec = Jvm.exec) (hZ : Z.Warmed39 s.vm) (hw : ∀ d ∈ tables_1, d.before a0 Z = true) (hby : c.code = prog_1_method_6_code) (hml : c.maxLocals = 7) (hown : s.vm.findClass "com/example/basewright/basewright/Alphabet" = some m.cls) (e0 : T.heap = h0) (N0 : Fr n0 locs) (Z0 : n0 ≤ h0.size) (F_c : Fld Z h0 a1 "com/example/basewright/basewright/Alphabet" "characters" "[B" (.ref bc)) (A_b : own_Af Z h0 bc kb .byte pn (fun i => Value.int (cf i))) (A_s : own_Af Z h0 ps kp .short nq f3) (g_s : n0 ≤ ps) (nebs : bc ≠ ps) (neas : a1 ≠ ps) (h_s5 : One s5) (h_s6 : One s6) (hge : ¬ iv < nq) :
    ∃ (T' : State) (h' : Heap) (locs' : List Loc), Stand p l e R s m args below meth c T' locs' cells slots ∧ T'.heap = h' ∧ Fr n0 locs' ∧ Keep h0 h' [ps] ∧ Fld Z h' a1 "com/example/basewright/basewright/Alphabet" "characters" "[B" (.ref bc) ∧ own_Af Z h' bc kb .byte pn (fun i => Value.int (cf i)) ∧ own_Af Z h' ps kp .short nq f3 ∧
      ∀ t, Steps p.tables e below (T'.setTop (mkF m 78 #[.val (.ref a1), .val (.int p2), .val (.int pn), .val (.ref ps), .val (.int iv), s5, s6] [])) t → Steps p.tables e below (T.setTop (mkF m 15 #[.val (.ref a1), .val (.int p2), .val (.int pn), .val (.ref ps), .val (.int iv), s5, s6] [])) t := by
  have K0 : Keep h0 h0 [ps] := Keep.refl _ _
  have P0 : ∀ t, Steps p.tables e below (T.setTop (mkF m 15 #[.val (.ref a1), .val (.int p2), .val (.int pn), .val (.ref ps), .val (.int iv), s5, s6] [])) t → Steps p.tables e below (T.setTop (mkF m 15 #[.val (.ref a1), .val (.int p2), .val (.int pn), .val (.ref ps), .val (.int iv), s5, s6] [])) t := fun t k => k
  have P1 : ∀ t, Steps p.tables e below (T.setTop (mkF m 78 #[.val (.ref a1), .val (.int p2), .val (.int pn), .val (.ref ps), .val (.int iv), s5, s6] [])) t → Steps p.tables e below (T.setTop (mkF m 15 #[.val (.ref a1), .val (.int p2), .val (.int pn), .val (.ref ps), .val (.int iv), s5, s6] [])) t := by
    intro t k
    refine P0 _ ?_
    refine XS.iload X0.here hx rfl (hb hby d28_15) rfl ?_
    show Steps p.tables e below (T.setTop (mkF m 17 #[.val (.ref a1), .val (.int p2), .val (.int pn), .val (.ref ps), .val (.int iv), s5, s6] [(.int iv)])) _
    refine XS.aloadN X0.here hx rfl (hb hby d28_17) rfl rfl ?_
    show Steps p.tables e below (T.setTop (mkF m 18 #[.val (.ref a1), .val (.int p2), .val (.int pn), .val (.ref ps), .val (.int iv), s5, s6] [(.ref ps), (.int iv)])) _
    refine own_flen X0 hx hZ e0 A_s rfl rfl (hb hby d28_18) ?_
    show Steps p.tables e below (T.setTop (mkF m 19 #[.val (.ref a1), .val (.int p2), .val (.int pn), .val (.ref ps), .val (.int iv), s5, s6] [(.int nq), (.int iv)])) _
    refine XS.icmpYes X0.here hx rfl (pc0 := 19) (pc' := 78) rfl (hb hby d28_19) rfl (XT.ii_ge_t hge) (by decide) (by decide) ?_
    show Steps p.tables e below (T.setTop (mkF m 78 #[.val (.ref a1), .val (.int p2), .val (.int pn), .val (.ref ps), .val (.int iv), s5, s6] [])) _
    exact k
  exact ⟨T, h0, _, X0, e0, N0, K0, F_c, A_b, A_s, P1⟩
set_option maxRecDepth 65536 in
theorem loop28 {p : Program} {l : Launch} {e : Env} {R : Room} {s : State} {m : MethodId} {args : Array Value} {below : List Frame} {meth : Method} {c : Code} {Z : State} {a0 : Array Value} {n0 : Nat} {cells slots : Nat} (a1 : Addr) (p2 pn : Int32) (ps bc : Addr) (nq : Int32) (kb kp : ClassId) (cf : Nat → Int32) (n : Nat) (hx : p.tables.exec = Jvm.exec) (hZ : Z.Warmed39 s.vm) (hw : ∀ d ∈ tables_1, d.before a0 Z = true) (hby : c.code = prog_1_method_6_code) (hml : c.maxLocals = 7) (hown : s.vm.findClass "com/example/basewright/basewright/Alphabet" = some m.cls) (hn : pn.toInt = n) (hn4 : n ≤ 4) (hq : nq.toInt = ((n * n : Nat) : Int)) (hq16 : n * n ≤ 16) (g_s : n0 ≤ ps) (nebs : bc ≠ ps) (neas : a1 ≠ ps) (k : Nat) :
    ∀ (T : State) (locs : List Loc) (h0 : Heap) (i : Nat) (iv : Int32) (s5 s6 : Slot) (f3 : Nat → Value), Stand p l e R s m args below meth c T locs cells slots → T.heap = h0 → Fr n0 locs → n0 ≤ h0.size → Fld Z h0 a1 "com/example/basewright/basewright/Alphabet" "characters" "[B" (.ref bc) → own_Af Z h0 bc kb .byte pn (fun i => Value.int (cf i)) → own_Af Z h0 ps kp .short nq f3 → One s5 → One s6 → i + k = n * n → iv.toInt = i → (∀ j, j < i → f3 j = .int (own_pv cf n p2 j)) →
      ∃ (T' : State) (h' : Heap) (locs' : List Loc) (jv : Int32) (s5' s6' : Slot), Stand p l e R s m args below meth c T' locs' cells slots ∧ T'.heap = h' ∧ Fr n0 locs' ∧ Keep h0 h' [ps] ∧ Fld Z h' a1 "com/example/basewright/basewright/Alphabet" "characters" "[B" (.ref bc) ∧ own_Af Z h' bc kb .byte pn (fun i => Value.int (cf i)) ∧ own_Af Z h' ps kp .short nq (fun j => Value.int (own_pv cf n p2 j)) ∧
        ∀ t, Steps p.tables e below (T'.setTop (mkF m 78 #[.val (.ref a1), .val (.int p2), .val (.int pn), .val (.ref ps), .val (.int jv), s5', s6'] [])) t → Steps p.tables e below (T.setTop (mkF m 15 #[.val (.ref a1), .val (.int p2), .val (.int pn), .val (.ref ps), .val (.int iv), s5, s6] [])) t := by
  induction k with
  | zero =>
    intro T locs h0 i iv s5 s6 f3 X0 e0 N0 Z0 F_c A_b A_s o5 o6 h1 h2 h3
    obtain ⟨T1, h1', locs1, X1, e1, N1, K1, q1, q2, q3, st1⟩ := lv28 a1 p2 pn ps iv s5 s6 bc nq kb kp cf f3 X0 hx hZ hw hby hml hown e0 N0 Z0 F_c A_b A_s g_s nebs neas o5 o6 (by rw [Int32.lt_iff_toInt_lt]; omega)
    exact ⟨T1, h1', locs1, iv, s5, s6, X1, e1, N1, K1, q1, q2, q3.same (fun j hj => (h3 j (by rw [own_nat hq] at hj; omega)).symm), st1⟩
  | succ k ih =>
    intro T locs h0 i iv s5 s6 f3 X0 e0 N0 Z0 F_c A_b A_s o5 o6 h1 h2 h3
    have hj : ¬ iv < (0 : Int32) ∧ iv < nq := own_jn (by omega) (by omega)
    have hn0 : 0 < n := Nat.pos_of_ne_zero (fun q => by subst q; omega)
    obtain ⟨d1, d2⟩ := own_div h2 hn hn0 (by omega) hn4
    have l1 : i / n < n := Nat.div_lt_of_lt_mul (by omega)
    have l2 : i % n < n := Nat.mod_lt _ hn0
    obtain ⟨T1, h1', locs1, X1, e1, N1, K1, q1, q2, q3, st1⟩ := tn28 a1 p2 pn ps iv s5 s6 bc nq kb kp cf f3 X0 hx hZ hw hby hml hown e0 N0 Z0 F_c A_b A_s g_s nebs neas o5 o6 hj.2 hj (own_np hn hn0) (own_jn (by rw [d1]; exact Int.natCast_nonneg _) (by rw [d1, hn]; exact_mod_cast l1)) (own_jn (by rw [d2]; exact Int.natCast_nonneg _) (by rw [d2, hn]; exact_mod_cast l2))
    obtain ⟨T2, h2', locs2, jv, s52, s62, X2, e2, N2, K2, r1, r2, r3, st2⟩ := ih T1 locs1 h1' (i + 1) (iv + (1 : Int32)) (.val (.int (cf ((iv / pn)).toNatClampNeg))) (.val (.int (cf ((iv % pn)).toNatClampNeg))) _ X1 e1 N1 (Nat.le_trans Z0 K1.1) q1 q2 q3 (One.val rfl) (One.val rfl) (by omega) (own_inc h2 (by omega)) (fun j hj' => by
      rw [own_nat h2, own_nat d1, own_nat d2]
      by_cases q : j = i
      · subst q; simp only [if_true]; rfl
      · simp only [q, if_false]; exact h3 j (by omega))
    exact ⟨T2, h2', locs2, jv, s52, s62, X2, e2, N2, K1.trans K2 (fun x hx' => Or.inl hx'), r1, r2, r3, fun t kk => st1 t (st2 t kk)⟩
theorem pn_28 : plainName "com/example/basewright/basewright/Alphabet" = true := by first | (simp [plainName, overriddenIn]; done) | decide +kernel
theorem ef_28 (m : MethodId) (x0 : Addr) (x1 : Int32) : entryFrame m #[(.ref x0), (.int x1)] 7 = mkF m 0 #[.val (.ref x0), .val (.int x1), .unset, .unset, .unset, .unset, .unset] [] := by first | (simp [entryFrame, mkF, argsToLocals, Value.category]; done) | rfl
def Q28 (Z : State) (a1 : Addr) (p2 : Int32) (bc : Addr) (pn : Int32) (kb : ClassId) (cf : Nat → Int32) (n : Nat) (h0 : Heap) (n0 : Nat) (v : Option Value) (h : Heap) (L : List Loc) : Prop := ∃ (b : Addr) (kp : ClassId) (nq : Int32), v = some (.ref b) ∧ Fr n0 L ∧ Keep h0 h [] ∧ h0.size ≤ b ∧ own_Af Z h b kp .short nq (fun j => Value.int (own_pv cf n p2 j)) ∧ nq = (pn * pn)
set_option maxRecDepth 65536 in
set_option maxHeartbeats 40000000 in
theorem rm28 (l : Launch) (Z : State) (a0 : Array Value) (hw : ∀ d ∈ tables_1, d.before a0 Z = true) (ws : List Jvm.Cond) (a1 : Addr) (p2 : Int32) (bc : Addr) (pn : Int32) (kb : ClassId) (cf : Nat → Int32) (n : Nat) (h0 : Heap) (n0 : Nat) (Z0 : n0 ≤ h0.size) (F_c : Fld Z h0 a1 "com/example/basewright/basewright/Alphabet" "characters" "[B" (.ref bc)) (A_b : own_Af Z h0 bc kb .byte pn (fun i => Value.int (cf i))) (hn : pn.toInt = n) (hn4 : n ≤ 4) :
    MetFree l (⟨"com/example/basewright/basewright/Alphabet", "pairs", "(Z)[S"⟩ : MethodName) (head1 (Jvm.Cond.code (⟨"com/example/basewright/basewright/Alphabet", "pairs", "(Z)[S"⟩ : MethodName) prog_1_method_6_code 7 (some (.array .short)) :: ws) ({ frames := 0, cells := 1, slots := 16, locals := 0 } : Room)) (fun a U => a = #[(.ref a1), (.int p2)] ∧ Z.Warmed39 U.vm ∧ U.heap = h0) (fun _ _ _ _ _ => True) (fun _ U o U' => ∃ v L, o = .returned v ∧ Q28 Z a1 p2 bc pn kb cf n h0 n0 v U'.heap L ∧ FrameEnd U o U' L ({ frames := 0, cells := 1, slots := 16, locals := 0 } : Room).cells ({ frames := 0, cells := 1, slots := 16, locals := 0 } : Room).slots) := by
  refine MetFree.of_bodySF (plainFor_of_name pn_28) hisR ?_
  intro p e s m args below meth c s₁ Bd hml0 hP hK
  obtain ⟨rfl, hZ, hh⟩ := hP
  have hx := Bd.exec
  have hby := Bd.bytes
  have hml : c.maxLocals = 7 := hml0
  have hown : s.vm.findClass "com/example/basewright/basewright/Alphabet" = some m.cls := findClass_of_methodNamed Bd.named
  have hnm := (name_of_methodNamed Bd.named Bd.method).1
  have X0 : Stand p l e ({ frames := 0, cells := 1, slots := 16, locals := 0 } : Room) s m #[(.ref a1), (.int p2)] below meth c s₁ [] 0 0 := Stand.of_body Bd
  have e0 : s₁.heap = h0 := by rw [← hh, Bd.state]; rfl
  have N0 := Fr.nil n0
  have K0 : Keep h0 h0 [] := Keep.refl _ _
  have P0 : ∀ t, Steps p.tables e below (s₁.setTop (mkF m 0 #[.val (.ref a1), .val (.int p2), .unset, .unset, .unset, .unset, .unset] [])) t → Steps p.tables e below (s₁.setTop (entryFrame m #[(.ref a1), (.int p2)] 7)) t := fun t k => castTop (ef_28 m a1 p2) k
  have P1 : ∀ t, Steps p.tables e below (s₁.setTop (mkF m 1 #[.val (.ref a1), .val (.int p2), .unset, .unset, .unset, .unset, .unset] [(.ref a1)])) t → Steps p.tables e below (s₁.setTop (entryFrame m #[(.ref a1), (.int p2)] 7)) t := by
    intro t k
    refine P0 _ ?_
    refine XS.aloadN X0.here hx rfl (hb hby d28_0) rfl rfl ?_
    show Steps p.tables e below (s₁.setTop (mkF m 1 #[.val (.ref a1), .val (.int p2), .unset, .unset, .unset, .unset, .unset] [(.ref a1)])) _
    exact k
  obtain ⟨T2, X2, e2, st2⟩ := getF X0 hx hZ hown (host := "") (Or.inl (hw _ (List.mem_of_getElem? (i := 79) rfl))) Via.refl e0 F_c (g := (mkF m 1 #[.val (.ref a1), .val (.int p2), .unset, .unset, .unset, .unset, .unset] [(.ref a1)])) rfl rfl (hb hby d28_1)
  have P3 : ∀ t, Steps p.tables e below (T2.setTop (mkF m 4 #[.val (.ref a1), .val (.int p2), .unset, .unset, .unset, .unset, .unset] [(.ref bc)])) t → Steps p.tables e below (s₁.setTop (entryFrame m #[(.ref a1), (.int p2)] 7)) t := fun t k => P1 _ (st2 _ k)
  have P4 : ∀ t, Steps p.tables e below (T2.setTop (mkF m 9 #[.val (.ref a1), .val (.int p2), .val (.int pn), .unset, .unset, .unset, .unset] [(.int (pn * pn))])) t → Steps p.tables e below (s₁.setTop (entryFrame m #[(.ref a1), (.int p2)] 7)) t := by
    intro t k
    refine P3 _ ?_
    refine own_flen X2 hx hZ e2 A_b rfl rfl (hb hby d28_4) ?_
    show Steps p.tables e below (T2.setTop (mkF m 5 #[.val (.ref a1), .val (.int p2), .unset, .unset, .unset, .unset, .unset] [(.int pn)])) _
    refine XS.istoreN X2.here hx rfl (hb hby d28_5) rfl (l' := #[.val (.ref a1), .val (.int p2), .val (.int pn), .unset, .unset, .unset, .unset]) rfl ?_
    show Steps p.tables e below (T2.setTop (mkF m 6 #[.val (.ref a1), .val (.int p2), .val (.int pn), .unset, .unset, .unset, .unset] [])) _
    refine XS.iloadN X2.here hx rfl (hb hby d28_6) rfl ?_
    show Steps p.tables e below (T2.setTop (mkF m 7 #[.val (.ref a1), .val (.int p2), .val (.int pn), .unset, .unset, .unset, .unset] [(.int pn)])) _
    refine XS.iloadN X2.here hx rfl (hb hby d28_7) rfl ?_
    show Steps p.tables e below (T2.setTop (mkF m 8 #[.val (.ref a1), .val (.int p2), .val (.int pn), .unset, .unset, .unset, .unset] [(.int pn), (.int pn)])) _
    refine XS.imul X2.here hx rfl (hb hby d28_8) rfl ?_
    show Steps p.tables e below (T2.setTop (mkF m 9 #[.val (.ref a1), .val (.int p2), .val (.int pn), .unset, .unset, .unset, .unset] [(.int (pn * pn))])) _
    exact k
  obtain ⟨nq, hnq⟩ : ∃ z : Int32, z = (pn * pn) := ⟨_, rfl⟩
  rw [← hnq] at P4
  have hsq := own_sq hnq hn hn4
  obtain ⟨T5, h5, k5, X5, e5, E5, A5, st5⟩ := newP X2 hx hZ (hw _ (List.mem_of_getElem? (i := 92) rfl)) e2 (g := (mkF m 9 #[.val (.ref a1), .val (.int p2), .val (.int pn), .unset, .unset, .unset, .unset] [(.int nq)])) rfl (hb hby d28_9) rfl (own_nneg hsq.1) (cap := 16) (by rw [own_nat hsq.1]; exact hsq.2) (by decide) (by decide) (by decide)
  obtain ⟨b5, g5⟩ : ∃ z, z = h0.size := ⟨_, rfl⟩
  rw [← g5] at A5 st5
  have F6 : Fld Z h5 a1 "com/example/basewright/basewright/Alphabet" "characters" "[B" (.ref bc) := F_c.ext E5
  have F7 : own_Af Z h5 bc kb .byte pn (fun i => Value.int (cf i)) := A_b.ext E5
  obtain ⟨kc_b5, hkc_b5⟩ : ∃ z, z = k5 := ⟨_, rfl⟩
  rw [← hkc_b5] at A5
  have F8 : own_Af Z h5 b5 kc_b5 .short nq (fun _ => (.int (0 : Int32))) := own_Af.new A5 (own_nneg hsq.1)
  have Z9 : n0 ≤ h5.size := Nat.le_trans Z0 E5.1
  have K10 : Keep h0 h5 [] := K0.ext E5
  have g_b5 : n0 ≤ b5 := Nat.le_trans Z0 (Nat.le_of_eq g5.symm)
  have sz_b5 : h0.size ≤ b5 := Nat.le_trans K0.1 (Nat.le_of_eq g5.symm)
  have ne_a1_b5 : a1 ≠ b5 := Nat.ne_of_lt (Nat.lt_of_lt_of_le F_c.lt (Nat.le_of_eq g5.symm))
  have ne_bc_b5 : bc ≠ b5 := Nat.ne_of_lt (Nat.lt_of_lt_of_le A_b.lt (Nat.le_of_eq g5.symm))
  have P11 : ∀ t, Steps p.tables e below (T5.setTop (mkF m 11 #[.val (.ref a1), .val (.int p2), .val (.int pn), .unset, .unset, .unset, .unset] [(.ref b5)])) t → Steps p.tables e below (s₁.setTop (entryFrame m #[(.ref a1), (.int p2)] 7)) t := fun t k => P4 _ (st5 _ k)
  have P12 : ∀ t, Steps p.tables e below (T5.setTop (mkF m 15 #[.val (.ref a1), .val (.int p2), .val (.int pn), .val (.ref b5), .val (.int (0 : Int32)), .unset, .unset] [])) t → Steps p.tables e below (s₁.setTop (entryFrame m #[(.ref a1), (.int p2)] 7)) t := by
    intro t k
    refine P11 _ ?_
    refine XS.astoreN X5.here hx rfl (hb hby d28_11) rfl rfl (l' := #[.val (.ref a1), .val (.int p2), .val (.int pn), .val (.ref b5), .unset, .unset, .unset]) rfl ?_
    show Steps p.tables e below (T5.setTop (mkF m 12 #[.val (.ref a1), .val (.int p2), .val (.int pn), .val (.ref b5), .unset, .unset, .unset] [])) _
    refine XS.iconst X5.here hx rfl (hb hby d28_12) ?_
    show Steps p.tables e below (T5.setTop (mkF m 13 #[.val (.ref a1), .val (.int p2), .val (.int pn), .val (.ref b5), .unset, .unset, .unset] [(.int (0 : Int32))])) _
    refine XS.istore X5.here hx rfl (hb hby d28_13) rfl (l' := #[.val (.ref a1), .val (.int p2), .val (.int pn), .val (.ref b5), .val (.int (0 : Int32)), .unset, .unset]) rfl ?_
    show Steps p.tables e below (T5.setTop (mkF m 15 #[.val (.ref a1), .val (.int p2), .val (.int pn), .val (.ref b5), .val (.int (0 : Int32)), .unset, .unset] [])) _
    exact k
  obtain ⟨T13, h13, lo13, jv, s5, s6, X13, e13, N13q, K13, q1, q2, q3, st13⟩ := loop28 a1 p2 pn b5 bc nq kb kc_b5 cf n hx hZ hw hby hml hown hn hn4 hsq.1 hsq.2 g_b5 ne_bc_b5 ne_a1_b5 (n * n) T5 _ h5 0 (0 : Int32) .unset .unset _ X5 e5 N0 Z9 F6 F7 F8 One.u One.u (by omega) rfl (fun j hj => absurd hj (Nat.not_lt_zero j))
  have P14 : ∀ t, Steps p.tables e below (T13.setTop (mkF m 78 #[.val (.ref a1), .val (.int p2), .val (.int pn), .val (.ref b5), .val (.int jv), s5, s6] [])) t → Steps p.tables e below (s₁.setTop (entryFrame m #[(.ref a1), (.int p2)] 7)) t := fun t k => P12 _ (st13 _ k)
  have F15 : Fld Z h13 a1 "com/example/basewright/basewright/Alphabet" "characters" "[B" (.ref bc) := F6.keep K13 (ninS ne_a1_b5 nin0)
  have F16 : own_Af Z h13 bc kb .byte pn (fun i => Value.int (cf i)) := F7.keep K13 (ninS ne_bc_b5 nin0)
  have Z17 : n0 ≤ h13.size := Nat.le_trans Z9 K13.1
  have K18 : Keep h0 h13 [] := K10.trans K13 (allS (Or.inr sz_b5) all0)
  have P19 : ∀ t, Steps p.tables e below (T13.setTop (mkF m 79 #[.val (.ref a1), .val (.int p2), .val (.int pn), .val (.ref b5), .val (.int jv), s5, s6] [(.ref b5)])) t → Steps p.tables e below (s₁.setTop (entryFrame m #[(.ref a1), (.int p2)] 7)) t := by
    intro t k
    refine P14 _ ?_
    refine XS.aloadN X13.here hx rfl (hb hby d28_78) rfl rfl ?_
    show Steps p.tables e below (T13.setTop (mkF m 79 #[.val (.ref a1), .val (.int p2), .val (.int pn), .val (.ref b5), .val (.int jv), s5, s6] [(.ref b5)])) _
    exact k
  obtain ⟨fs, hr, hrun, hended, hW, hsame⟩ := X13.leave (v := some (.ref b5)) (fun h => by rw [Bd.returns] at h; cases h)
  refine ⟨_, _, P19 _ ?_, hrun, hended, _, _, rfl, ?_, ⟨_, rfl⟩, hW, hsame.mono (by decide) (by decide)⟩
  · jvm_step X13.here [X13.here.top, hx, (hb hby d28_79), X13.method', Bd.returns, Value.isRef, FieldType.isReference]
    first | (intro acts; rw [hr _ acts rfl rfl rfl]) | rw [hr _ _ rfl rfl rfl]
    exact Steps.refl _
  · show Q28 Z a1 p2 bc pn kb cf n h0 n0 _ T13.heap _
    rw [e13]
    exact ⟨b5, kc_b5, nq, rfl, N13q, K18, sz_b5, q3, hnq⟩
theorem d16_0 : decode method_2_code 0 = .ok (.iload_n 0, 1) := by decide +kernel
theorem d16_1 : decode method_2_code 1 = .ok (.ifCond .ne 9, 3) := by decide +kernel
theorem d16_10 : decode method_2_code 10 = .ok (.iload_n 0, 1) := by decide +kernel
theorem d16_11 : decode method_2_code 11 = .ok (.iconst 1, 1) := by decide +kernel
theorem d16_12 : decode method_2_code 12 = .ok (.if_icmp .ne 13, 3) := by decide +kernel
theorem d16_15 : decode method_2_code 15 = .ok (.iconst 1, 1) := by decide +kernel
theorem d16_16 : decode method_2_code 16 = .ok (.newarray .char, 2) := by decide +kernel
theorem d16_18 : decode method_2_code 18 = .ok (.dup, 1) := by decide +kernel
theorem d16_19 : decode method_2_code 19 = .ok (.iconst 0, 1) := by decide +kernel
theorem d16_20 : decode method_2_code 20 = .ok (.iload_n 1, 1) := by decide +kernel
theorem d16_21 : decode method_2_code 21 = .ok (.castore, 1) := by decide +kernel
theorem d16_22 : decode method_2_code 22 = .ok (.goto 65, 3) := by decide +kernel
theorem d16_25 : decode method_2_code 25 = .ok (.iload_n 0, 1) := by decide +kernel
theorem d16_26 : decode method_2_code 26 = .ok (.iconst 2, 1) := by decide +kernel
theorem d16_27 : decode method_2_code 27 = .ok (.if_icmp .ne 17, 3) := by decide +kernel
theorem d16_30 : decode method_2_code 30 = .ok (.iconst 2, 1) := by decide +kernel
theorem d16_31 : decode method_2_code 31 = .ok (.newarray .char, 2) := by decide +kernel
theorem d16_33 : decode method_2_code 33 = .ok (.dup, 1) := by decide +kernel
theorem d16_34 : decode method_2_code 34 = .ok (.iconst 0, 1) := by decide +kernel
theorem d16_35 : decode method_2_code 35 = .ok (.iload_n 1, 1) := by decide +kernel
theorem d16_36 : decode method_2_code 36 = .ok (.castore, 1) := by decide +kernel
theorem d16_37 : decode method_2_code 37 = .ok (.dup, 1) := by decide +kernel
theorem d16_38 : decode method_2_code 38 = .ok (.iconst 1, 1) := by decide +kernel
theorem d16_39 : decode method_2_code 39 = .ok (.iload_n 2, 1) := by decide +kernel
theorem d16_40 : decode method_2_code 40 = .ok (.castore, 1) := by decide +kernel
theorem d16_41 : decode method_2_code 41 = .ok (.goto 46, 3) := by decide +kernel
theorem d16_44 : decode method_2_code 44 = .ok (.iload_n 0, 1) := by decide +kernel
theorem d16_45 : decode method_2_code 45 = .ok (.iconst 3, 1) := by decide +kernel
theorem d16_46 : decode method_2_code 46 = .ok (.if_icmp .ne 21, 3) := by decide +kernel
theorem d16_49 : decode method_2_code 49 = .ok (.iconst 3, 1) := by decide +kernel
theorem d16_50 : decode method_2_code 50 = .ok (.newarray .char, 2) := by decide +kernel
theorem d16_52 : decode method_2_code 52 = .ok (.dup, 1) := by decide +kernel
theorem d16_53 : decode method_2_code 53 = .ok (.iconst 0, 1) := by decide +kernel
theorem d16_54 : decode method_2_code 54 = .ok (.iload_n 1, 1) := by decide +kernel
theorem d16_55 : decode method_2_code 55 = .ok (.castore, 1) := by decide +kernel
theorem d16_56 : decode method_2_code 56 = .ok (.dup, 1) := by decide +kernel
theorem d16_57 : decode method_2_code 57 = .ok (.iconst 1, 1) := by decide +kernel
theorem d16_58 : decode method_2_code 58 = .ok (.iload_n 2, 1) := by decide +kernel
theorem d16_59 : decode method_2_code 59 = .ok (.castore, 1) := by decide +kernel
theorem d16_60 : decode method_2_code 60 = .ok (.dup, 1) := by decide +kernel
theorem d16_61 : decode method_2_code 61 = .ok (.iconst 2, 1) := by decide +kernel
theorem d16_62 : decode method_2_code 62 = .ok (.iload_n 3, 1) := by decide +kernel
theorem d16_63 : decode method_2_code 63 = .ok (.castore, 1) := by decide +kernel
theorem d16_64 : decode method_2_code 64 = .ok (.goto 23, 3) := by decide +kernel
theorem d16_67 : decode method_2_code 67 = .ok (.iconst 4, 1) := by decide +kernel
theorem d16_68 : decode method_2_code 68 = .ok (.newarray .char, 2) := by decide +kernel
theorem d16_70 : decode method_2_code 70 = .ok (.dup, 1) := by decide +kernel
theorem d16_71 : decode method_2_code 71 = .ok (.iconst 0, 1) := by decide +kernel
theorem d16_72 : decode method_2_code 72 = .ok (.iload_n 1, 1) := by decide +kernel
theorem d16_73 : decode method_2_code 73 = .ok (.castore, 1) := by decide +kernel
theorem d16_74 : decode method_2_code 74 = .ok (.dup, 1) := by decide +kernel
theorem d16_75 : decode method_2_code 75 = .ok (.iconst 1, 1) := by decide +kernel
theorem d16_76 : decode method_2_code 76 = .ok (.iload_n 2, 1) := by decide +kernel
theorem d16_77 : decode method_2_code 77 = .ok (.castore, 1) := by decide +kernel
theorem d16_78 : decode method_2_code 78 = .ok (.dup, 1) := by decide +kernel
theorem d16_79 : decode method_2_code 79 = .ok (.iconst 2, 1) := by decide +kernel
theorem d16_80 : decode method_2_code 80 = .ok (.iload_n 3, 1) := by decide +kernel
theorem d16_81 : decode method_2_code 81 = .ok (.castore, 1) := by decide +kernel
theorem d16_82 : decode method_2_code 82 = .ok (.dup, 1) := by decide +kernel
theorem d16_83 : decode method_2_code 83 = .ok (.iconst 3, 1) := by decide +kernel
theorem d16_84 : decode method_2_code 84 = .ok (.iload 4, 2) := by decide +kernel
theorem d16_86 : decode method_2_code 86 = .ok (.castore, 1) := by decide +kernel
theorem d16_87 : decode method_2_code 87 = .ok (.astore 5, 2) := by decide +kernel
theorem d16_89 : decode method_2_code 89 = .ok (.new 7, 3) := by decide +kernel
theorem d16_92 : decode method_2_code 92 = .ok (.dup, 1) := by decide +kernel
theorem d16_93 : decode method_2_code 93 = .ok (.aload 5, 2) := by decide +kernel
theorem d16_95 : decode method_2_code 95 = .ok (.invokespecial 9, 3) := by decide +kernel
theorem d16_98 : decode method_2_code 98 = .ok (.areturn, 1) := by decide +kernel
theorem pn_16 : plainName "com/example/basewright/basewright/AlphabetPairsPinLaw" = true := by first | (simp [plainName, overriddenIn]; done) | decide +kernel
theorem ef_16 (m : MethodId) (x0 : Int32) (x1 : Int32) (x2 : Int32) (x3 : Int32) (x4 : Int32) : entryFrame m #[(.int x0), (.int x1), (.int x2), (.int x3), (.int x4)] 6 = mkF m 0 #[.val (.int x0), .val (.int x1), .val (.int x2), .val (.int x3), .val (.int x4), .unset] [] := by first | (simp [entryFrame, mkF, argsToLocals, Value.category]; done) | rfl
def Q16 (Z : State) (p1 : Int32) (p2 : Int32) (p3 : Int32) (p4 : Int32) (p5 : Int32) (ccs : Int32) (n : Nat) (h0 : Heap) (n0 : Nat) (v : Option Value) (h : Heap) (L : List Loc) : Prop := ∃ (b : Addr) (bv : Addr) (kb : ClassId), v = some (.ref b) ∧ Fr n0 L ∧ Keep h0 h [] ∧ h0.size ≤ b ∧ h0.size ≤ bv ∧ Exa Z h b "java/lang/String" ∧ Fld Z h b "java/lang/String" "value" "[B" (.ref bv) ∧ Fld Z h b "java/lang/String" "coder" "B" (.int (0 : Int32)) ∧ own_Af Z h bv kb .byte p1 (fun i => Value.int ((own_l4 p2 p3 p4 p5) i)) ∧ Exa Z h bv "[B"
set_option maxRecDepth 65536 in
set_option maxHeartbeats 40000000 in
theorem rm16 (l : Launch) (Z : State) (a0 : Array Value) (hw : ∀ d ∈ tables_1, d.before a0 Z = true) (ws : List Jvm.Cond) (p1 : Int32) (p2 : Int32) (p3 : Int32) (p4 : Int32) (p5 : Int32) (ccs : Int32) (n : Nat) (h0 : Heap) (n0 : Nat) (Z0 : n0 ≤ h0.size) (O0 : Old Z n0 h0) (S_cs : Sta Z Z.heap "java/lang/String" "COMPACT_STRINGS" "Z" (.int ccs)) (hcc : ¬ ccs = (0 : Int32)) (hn : p1.toInt = n) (hn1 : 1 ≤ n) (hn4 : n ≤ 4) (hp2 : own_c p2) (hp3 : own_c p3) (hp4 : own_c p4) (hp5 : own_c p5) :
    MetFree l (⟨"com/example/basewright/basewright/AlphabetPairsPinLaw", "text", "(ICCCC)Ljava/lang/String;"⟩ : MethodName) (head1 (Jvm.Cond.code (⟨"com/example/basewright/basewright/AlphabetPairsPinLaw", "text", "(ICCCC)Ljava/lang/String;"⟩ : MethodName) method_2_code 6 (some (.object "java/lang/String")) :: ws) ({ frames := 4, cells := 3, slots := 12, locals := 66 } : Room)) (fun a U => a = #[(.int p1), (.int p2), (.int p3), (.int p4), (.int p5)] ∧ Z.Warmed39 U.vm ∧ U.heap = h0) (fun _ _ _ _ _ => True) (fun _ U o U' => ∃ v L, o = .returned v ∧ Q16 Z p1 p2 p3 p4 p5 ccs n h0 n0 v U'.heap L ∧ FrameEnd U o U' L ({ frames := 4, cells := 3, slots := 12, locals := 66 } : Room).cells ({ frames := 4, cells := 3, slots := 12, locals := 66 } : Room).slots) := by
  refine MetFree.of_bodySF (plainFor_of_name pn_16) hisR ?_
  intro p e s m args below meth c s₁ Bd hml0 hP hK
  obtain ⟨rfl, hZ, hh⟩ := hP
  have hx := Bd.exec
  have hby := Bd.bytes
  have hml : c.maxLocals = 6 := hml0
  have hown : s.vm.findClass "com/example/basewright/basewright/AlphabetPairsPinLaw" = some m.cls := findClass_of_methodNamed Bd.named
  have hnm := (name_of_methodNamed Bd.named Bd.method).1
  have X0 : Stand p l e ({ frames := 4, cells := 3, slots := 12, locals := 66 } : Room) s m #[(.int p1), (.int p2), (.int p3), (.int p4), (.int p5)] below meth c s₁ [] 0 0 := Stand.of_body Bd
  have e0 : s₁.heap = h0 := by rw [← hh, Bd.state]; rfl
  have N0 := Fr.nil n0
  have K0 : Keep h0 h0 [] := Keep.refl _ _
  have P0 : ∀ t, Steps p.tables e below (s₁.setTop (mkF m 0 #[.val (.int p1), .val (.int p2), .val (.int p3), .val (.int p4), .val (.int p5), .unset] [])) t → Steps p.tables e below (s₁.setTop (entryFrame m #[(.int p1), (.int p2), (.int p3), (.int p4), (.int p5)] 6)) t := fun t k => castTop (ef_16 m p1 p2 p3 p4 p5) k
  have P1 : ∀ t, Steps p.tables e below (s₁.setTop (mkF m 12 #[.val (.int p1), .val (.int p2), .val (.int p3), .val (.int p4), .val (.int p5), .unset] [(.int (1 : Int32)), (.int p1)])) t → Steps p.tables e below (s₁.setTop (entryFrame m #[(.int p1), (.int p2), (.int p3), (.int p4), (.int p5)] 6)) t := by
    intro t k
    refine P0 _ ?_
    refine XS.iloadN X0.here hx rfl (hb hby d16_0) rfl ?_
    show Steps p.tables e below (s₁.setTop (mkF m 1 #[.val (.int p1), .val (.int p2), .val (.int p3), .val (.int p4), .val (.int p5), .unset] [(.int p1)])) _
    refine XS.ifYes X0.here hx rfl (pc0 := 1) (pc' := 10) rfl (hb hby d16_1) rfl (XT.i0_ne_t (own_np hn hn1)) (by decide) (by decide) ?_
    show Steps p.tables e below (s₁.setTop (mkF m 10 #[.val (.int p1), .val (.int p2), .val (.int p3), .val (.int p4), .val (.int p5), .unset] [])) _
    refine XS.iloadN X0.here hx rfl (hb hby d16_10) rfl ?_
    show Steps p.tables e below (s₁.setTop (mkF m 11 #[.val (.int p1), .val (.int p2), .val (.int p3), .val (.int p4), .val (.int p5), .unset] [(.int p1)])) _
    refine XS.iconst X0.here hx rfl (hb hby d16_11) ?_
    show Steps p.tables e below (s₁.setTop (mkF m 12 #[.val (.int p1), .val (.int p2), .val (.int p3), .val (.int p4), .val (.int p5), .unset] [(.int (1 : Int32)), (.int p1)])) _
    exact k
  by_cases c12 : p1 = (1 : Int32)
  · have P2 : ∀ t, Steps p.tables e below (s₁.setTop (mkF m 16 #[.val (.int p1), .val (.int p2), .val (.int p3), .val (.int p4), .val (.int p5), .unset] [(.int (1 : Int32))])) t → Steps p.tables e below (s₁.setTop (entryFrame m #[(.int p1), (.int p2), (.int p3), (.int p4), (.int p5)] 6)) t := by
      intro t k
      refine P1 _ ?_
      refine XS.icmpNo X0.here hx rfl (hb hby d16_12) rfl (XT.ii_ne_f c12) ?_
      show Steps p.tables e below (s₁.setTop (mkF m 15 #[.val (.int p1), .val (.int p2), .val (.int p3), .val (.int p4), .val (.int p5), .unset] [])) _
      refine XS.iconst X0.here hx rfl (hb hby d16_15) ?_
      show Steps p.tables e below (s₁.setTop (mkF m 16 #[.val (.int p1), .val (.int p2), .val (.int p3), .val (.int p4), .val (.int p5), .unset] [(.int (1 : Int32))])) _
      exact k
    obtain ⟨T3, h3, k3, X3, e3, E3, A3, st3⟩ := newP X0 hx hZ (hw _ (List.mem_of_getElem? (i := 8) rfl)) e0 (g := (mkF m 16 #[.val (.int p1), .val (.int p2), .val (.int p3), .val (.int p4), .val (.int p5), .unset] [(.int (1 : Int32))])) rfl (hb hby d16_16) rfl (by decide) (cap := 1) (by decide) (by decide) (by decide) (by decide)
    obtain ⟨b3, g3⟩ : ∃ z, z = h0.size := ⟨_, rfl⟩
    rw [← g3] at A3 st3
    have F4 : Old Z n0 h3 := O0.ext E3
    obtain ⟨kc_b3, hkc_b3⟩ : ∃ z, z = k3 := ⟨_, rfl⟩
    rw [← hkc_b3] at A3
    have F5 : Arv Z h3 b3 kc_b3 .char (1 : Int32) [(.int (0 : Int32))] (.int (0 : Int32)) := (Arv.new A3 (by decide)).pad (pad_rep [] (.int (0 : Int32)) 1)
    have Z6 : n0 ≤ h3.size := Nat.le_trans Z0 E3.1
    have K7 : Keep h0 h3 [] := K0.ext E3
    have g_b3 : n0 ≤ b3 := Nat.le_trans Z0 (Nat.le_of_eq g3.symm)
    have sz_b3 : h0.size ≤ b3 := Nat.le_trans K0.1 (Nat.le_of_eq g3.symm)
    have P8 : ∀ t, Steps p.tables e below (T3.setTop (mkF m 18 #[.val (.int p1), .val (.int p2), .val (.int p3), .val (.int p4), .val (.int p5), .unset] [(.ref b3)])) t → Steps p.tables e below (s₁.setTop (entryFrame m #[(.int p1), (.int p2), (.int p3), (.int p4), (.int p5)] 6)) t := fun t k => P2 _ (st3 _ k)
    have P9 : ∀ t, Steps p.tables e below (T3.setTop (mkF m 21 #[.val (.int p1), .val (.int p2), .val (.int p3), .val (.int p4), .val (.int p5), .unset] [(.int p2), (.int (0 : Int32)), (.ref b3), (.ref b3)])) t → Steps p.tables e below (s₁.setTop (entryFrame m #[(.int p1), (.int p2), (.int p3), (.int p4), (.int p5)] 6)) t := by
      intro t k
      refine P8 _ ?_
      refine XS.dup X3.here hx rfl (hb hby d16_18) rfl rfl ?_
      show Steps p.tables e below (T3.setTop (mkF m 19 #[.val (.int p1), .val (.int p2), .val (.int p3), .val (.int p4), .val (.int p5), .unset] [(.ref b3), (.ref b3)])) _
      refine XS.iconst X3.here hx rfl (hb hby d16_19) ?_
      show Steps p.tables e below (T3.setTop (mkF m 20 #[.val (.int p1), .val (.int p2), .val (.int p3), .val (.int p4), .val (.int p5), .unset] [(.int (0 : Int32)), (.ref b3), (.ref b3)])) _
      refine XS.iloadN X3.here hx rfl (hb hby d16_20) rfl ?_
      show Steps p.tables e below (T3.setTop (mkF m 21 #[.val (.int p1), .val (.int p2), .val (.int p3), .val (.int p4), .val (.int p5), .unset] [(.int p2), (.int (0 : Int32)), (.ref b3), (.ref b3)])) _
      exact k
    obtain ⟨cl10, Ar10, q10, S10, M10, H10, G10⟩ := F5
    have in10 : ¬ ((0 : Int32) < 0 ∨ cl10.slots.size ≤ ((0 : Int32)).toNatClampNeg) := inb_of S10 ⟨by decide, by decide⟩
    obtain ⟨T10, h10, X10, e10, W10, st10⟩ := stC X3 hx hZ e3 Ar10 (j := (0 : Int32)) in10 (g := (mkF m 21 #[.val (.int p1), .val (.int p2), .val (.int p3), .val (.int p4), .val (.int p5), .unset] [(.int p2), (.int (0 : Int32)), (.ref b3), (.ref b3)])) rfl rfl (hb hby d16_21)
    rw [own_cc hp2] at W10
    have F11 : Old Z n0 h10 := F4.wr W10 g_b3
    have F12 : Arv Z h10 b3 kc_b3 .char (1 : Int32) [(.int p2)] (.int (0 : Int32)) := Arv.set Ar10 q10 S10 M10 H10 G10 (by have q := fits_nar_char p2; first | exact own_cc hp2 ▸ q | (rw [own_cc hp2] at q; exact q) | (simp only [nar] at q; exact q)) W10 0 rfl (Nat.le_of_ble_eq_true rfl)
    have Z13 : n0 ≤ h10.size := Nat.le_trans Z6 (Keep.of_wr W10).1
    have K14 : Keep h0 h10 [] := K7.wr W10 (Or.inr sz_b3)
    have N10 := Fr.snoc X10 N0 g_b3
    have P15 : ∀ t, Steps p.tables e below (T10.setTop (mkF m 22 #[.val (.int p1), .val (.int p2), .val (.int p3), .val (.int p4), .val (.int p5), .unset] [(.ref b3)])) t → Steps p.tables e below (s₁.setTop (entryFrame m #[(.int p1), (.int p2), (.int p3), (.int p4), (.int p5)] 6)) t := fun t k => P9 _ (st10 _ k)
    have P16 : ∀ t, Steps p.tables e below (T10.setTop (mkF m 89 #[.val (.int p1), .val (.int p2), .val (.int p3), .val (.int p4), .val (.int p5), .val (.ref b3)] [])) t → Steps p.tables e below (s₁.setTop (entryFrame m #[(.int p1), (.int p2), (.int p3), (.int p4), (.int p5)] 6)) t := by
      intro t k
      refine P15 _ ?_
      refine XS.goto X10.here hx rfl (pc0 := 22) (pc' := 87) rfl (hb hby d16_22) (by decide) (by decide) ?_
      show Steps p.tables e below (T10.setTop (mkF m 87 #[.val (.int p1), .val (.int p2), .val (.int p3), .val (.int p4), .val (.int p5), .unset] [(.ref b3)])) _
      refine XS.astore X10.here hx rfl (hb hby d16_87) rfl rfl (l' := #[.val (.int p1), .val (.int p2), .val (.int p3), .val (.int p4), .val (.int p5), .val (.ref b3)]) rfl ?_
      show Steps p.tables e below (T10.setTop (mkF m 89 #[.val (.int p1), .val (.int p2), .val (.int p3), .val (.int p4), .val (.int p5), .val (.ref b3)] [])) _
      exact k
    obtain ⟨T17, h17, X17, e17, E17, A17, D17, -, st17⟩ := newO X10 hx hZ hown (hw _ (List.mem_of_getElem? (i := 9) rfl)) (hw _ (List.mem_of_getElem? (i := 10) rfl)) (hw _ (List.mem_of_getElem? (i := 11) rfl)) e10 (g := (mkF m 89 #[.val (.int p1), .val (.int p2), .val (.int p3), .val (.int p4), .val (.int p5), .val (.ref b3)] [])) rfl (hb hby d16_89) (by decide) (by decide)
    obtain ⟨b17, g17⟩ : ∃ z, z = h10.size := ⟨_, rfl⟩
    rw [← g17] at A17 D17 st17
    have F18 : Old Z n0 h17 := F11.ext E17
    have F19 : Arv Z h17 b3 kc_b3 .char (1 : Int32) [(.int p2)] (.int (0 : Int32)) := F12.ext E17
    have F20 : Fld Z h17 b17 "java/lang/String" "coder" "B" (.int (0 : Int32)) := D17 (Or.inr (hw _ (List.mem_of_getElem? (i := 35) rfl))) (ty := .byte) (by decide)
    have F21 : Fld Z h17 b17 "java/lang/String" "value" "[B" .null := D17 (Or.inr (hw _ (List.mem_of_getElem? (i := 37) rfl))) (ty := (.array .byte)) (by decide)
    have Z22 : n0 ≤ h17.size := Nat.le_trans Z13 E17.1
    have K23 : Keep h0 h17 [] := K14.ext E17
    have g_b17 : n0 ≤ b17 := Nat.le_trans Z13 (Nat.le_of_eq g17.symm)
    have sz_b17 : h0.size ≤ b17 := Nat.le_trans K14.1 (Nat.le_of_eq g17.symm)
    have ne_b3_b17 : b3 ≠ b17 := Nat.ne_of_lt (Nat.lt_of_lt_of_le F12.lt (Nat.le_of_eq g17.symm))
    have P24 : ∀ t, Steps p.tables e below (T17.setTop (mkF m 92 #[.val (.int p1), .val (.int p2), .val (.int p3), .val (.int p4), .val (.int p5), .val (.ref b3)] [(.ref b17)])) t → Steps p.tables e below (s₁.setTop (entryFrame m #[(.int p1), (.int p2), (.int p3), (.int p4), (.int p5)] 6)) t := fun t k => P16 _ (st17 _ k)
    have P25 : ∀ t, Steps p.tables e below (T17.setTop (mkF m 95 #[.val (.int p1), .val (.int p2), .val (.int p3), .val (.int p4), .val (.int p5), .val (.ref b3)] [(.ref b3), (.ref b17), (.ref b17)])) t → Steps p.tables e below (s₁.setTop (entryFrame m #[(.int p1), (.int p2), (.int p3), (.int p4), (.int p5)] 6)) t := by
      intro t k
      refine P24 _ ?_
      refine XS.dup X17.here hx rfl (hb hby d16_92) rfl rfl ?_
      show Steps p.tables e below (T17.setTop (mkF m 93 #[.val (.int p1), .val (.int p2), .val (.int p3), .val (.int p4), .val (.int p5), .val (.ref b3)] [(.ref b17), (.ref b17)])) _
      refine XS.aload X17.here hx rfl (hb hby d16_93) rfl rfl ?_
      show Steps p.tables e below (T17.setTop (mkF m 95 #[.val (.int p1), .val (.int p2), .val (.int p3), .val (.int p4), .val (.int p5), .val (.ref b3)] [(.ref b3), (.ref b17), (.ref b17)])) _
      exact k
    have V26 : own_Af Z h17 b3 kc_b3 .char (1 : Int32) (fun i => Value.int ((own_l4 p2 p3 p4 p5) i)) := (own_conv (l := [p2]) F19).same (fun i hi => by
      match i, hi with
      | 0, _ => rfl
      | j + 1, hj => exact absurd hj (by show ¬ j + 1 < 1; omega))
    obtain ⟨_, _, ⟨T27, L27, k27, n27⟩, -, X27, ⟨Lc27, hQ27, l27, y27, z27⟩, st27⟩ := X17.specialBack hx (y := (⟨"java/lang/String", "<init>", "([C)V"⟩ : MethodName)) rfl hown (mvT hZ (hw _ (List.mem_of_getElem? (i := 12) rfl))) (mvT hZ (hw _ (List.mem_of_getElem? (i := 13) rfl))) (mvT hZ (hw _ (List.mem_of_getElem? (i := 14) rfl))) (by decide) (backOf (W := 1) (rm15 l Z a0 hw [] b17 b3 (1 : Int32) kc_b3 .null (.int (0 : Int32)) ccs (own_l4 p2 p3 p4 p5) 1 h17 n0 Z22 A17 F21 F20 g_b17 V26 (S_cs.ext F18.2) hcc rfl (by decide) (by decide) (own_l4s hp2 hp3 hp4 hp5 (by decide))) hZ (hw _ (List.mem_of_getElem? (i := 14) rfl)) (hw _ (List.mem_of_getElem? (i := 11) rfl)) (by decide) (by decide)) (g := (mkF m 95 #[.val (.int p1), .val (.int p2), .val (.int p3), .val (.int p4), .val (.int p5), .val (.ref b3)] [(.ref b3), (.ref b17), (.ref b17)])) rfl (by rw [hml]; rfl) (Steps.refl _) (a := b17) (argsL := [(.ref b3)]) (rest := [(.ref b17)]) (lenOf pd_10 rfl) rfl (by show 2 * 0 + _ ≤ _; exact Nat.le_of_eq rfl) (hb hby d16_95) (fun _ _ => ⟨rfl, e17, (by decide : 2 + 1 ≤ _), (by decide : 5 + 4 ≤ _)⟩)
    dsimp only [Pt.U, Pt.locs, Pt.cells, Pt.slots] at X27 l27 y27 z27 st27 hQ27
    subst l27 y27 z27
    obtain ⟨b_27, kb_27, rfl, N27q, K27, s27_b, Y27_0, Y27_1, Y27_2, Y27_3, Y27_4⟩ := hQ27
    have F28 : Old Z n0 T27.heap := F18.keep K27 (allS g_b17 all0)
    have F29 : own_Af Z T27.heap b3 kc_b3 .char (1 : Int32) (fun i => Value.int ((own_l4 p2 p3 p4 p5) i)) := V26.keep K27 (ninS ne_b3_b17 nin0)
    have F30 : Exa Z T27.heap b17 "java/lang/String" := A17.keep K27
    have Z31 : n0 ≤ T27.heap.size := Nat.le_trans Z22 K27.1
    have K32 : Keep h0 T27.heap [] := K23.trans K27 (allS (Or.inr sz_b17) all0)
    have g_b_27 : n0 ≤ b_27 := Nat.le_trans Z22 s27_b
    have sz_b_27 : h0.size ≤ b_27 := Nat.le_trans K23.1 s27_b
    have ne_b3_b_27 : b3 ≠ b_27 := Nat.ne_of_lt (Nat.lt_of_lt_of_le V26.lt s27_b)
    have ne_b17_b_27 : b17 ≠ b_27 := Nat.ne_of_lt (Nat.lt_of_lt_of_le A17.lt s27_b)
    have N27 := Fr.app N10 N27q
    have P33 : ∀ t, Steps p.tables e below (T27.setTop (mkF m 98 #[.val (.int p1), .val (.int p2), .val (.int p3), .val (.int p4), .val (.int p5), .val (.ref b3)] [(.ref b17)])) t → Steps p.tables e below (s₁.setTop (entryFrame m #[(.int p1), (.int p2), (.int p3), (.int p4), (.int p5)] 6)) t := fun t k => P25 _ (st27.trans k)
    have V34 : own_Af Z T27.heap b_27 kb_27 .byte p1 (fun i => Value.int ((own_l4 p2 p3 p4 p5) i)) := by rw [c12]; exact Y27_3
    obtain ⟨fs, hr, hrun, hended, hW, hsame⟩ := X27.leave (v := some (.ref b17)) (fun h => by rw [Bd.returns] at h; cases h)
    refine ⟨_, _, P33 _ ?_, hrun, hended, _, _, rfl, ?_, ⟨_, rfl⟩, hW, hsame.mono (by decide) (by decide)⟩
    · jvm_step X27.here [X27.here.top, hx, (hb hby d16_98), X27.method', Bd.returns, Value.isRef, FieldType.isReference]
      first | (intro acts; rw [hr _ acts rfl rfl rfl]) | rw [hr _ _ rfl rfl rfl]
      exact Steps.refl _
    · show Q16 Z p1 p2 p3 p4 p5 ccs n h0 n0 _ T27.heap _
      exact ⟨b17, b_27, kb_27, rfl, N27, K32, sz_b17, sz_b_27, Y27_0, Y27_1, Y27_2, V34, Y27_4⟩
  · have P35 : ∀ t, Steps p.tables e below (s₁.setTop (mkF m 27 #[.val (.int p1), .val (.int p2), .val (.int p3), .val (.int p4), .val (.int p5), .unset] [(.int (2 : Int32)), (.int p1)])) t → Steps p.tables e below (s₁.setTop (entryFrame m #[(.int p1), (.int p2), (.int p3), (.int p4), (.int p5)] 6)) t := by
      intro t k
      refine P1 _ ?_
      refine XS.icmpYes X0.here hx rfl (pc0 := 12) (pc' := 25) rfl (hb hby d16_12) rfl (XT.ii_ne_t c12) (by decide) (by decide) ?_
      show Steps p.tables e below (s₁.setTop (mkF m 25 #[.val (.int p1), .val (.int p2), .val (.int p3), .val (.int p4), .val (.int p5), .unset] [])) _
      refine XS.iloadN X0.here hx rfl (hb hby d16_25) rfl ?_
      show Steps p.tables e below (s₁.setTop (mkF m 26 #[.val (.int p1), .val (.int p2), .val (.int p3), .val (.int p4), .val (.int p5), .unset] [(.int p1)])) _
      refine XS.iconst X0.here hx rfl (hb hby d16_26) ?_
      show Steps p.tables e below (s₁.setTop (mkF m 27 #[.val (.int p1), .val (.int p2), .val (.int p3), .val (.int p4), .val (.int p5), .unset] [(.int (2 : Int32)), (.int p1)])) _
      exact k
    by_cases c27 : p1 = (2 : Int32)
    · have P36 : ∀ t, Steps p.tables e below (s₁.setTop (mkF m 31 #[.val (.int p1), .val (.int p2), .val (.int p3), .val (.int p4), .val (.int p5), .unset] [(.int (2 : Int32))])) t → Steps p.tables e below (s₁.setTop (entryFrame m #[(.int p1), (.int p2), (.int p3), (.int p4), (.int p5)] 6)) t := by
        intro t k
        refine P35 _ ?_
        refine XS.icmpNo X0.here hx rfl (hb hby d16_27) rfl (XT.ii_ne_f c27) ?_
        show Steps p.tables e below (s₁.setTop (mkF m 30 #[.val (.int p1), .val (.int p2), .val (.int p3), .val (.int p4), .val (.int p5), .unset] [])) _
        refine XS.iconst X0.here hx rfl (hb hby d16_30) ?_
        show Steps p.tables e below (s₁.setTop (mkF m 31 #[.val (.int p1), .val (.int p2), .val (.int p3), .val (.int p4), .val (.int p5), .unset] [(.int (2 : Int32))])) _
        exact k
      obtain ⟨T37, h37, k37, X37, e37, E37, A37, st37⟩ := newP X0 hx hZ (hw _ (List.mem_of_getElem? (i := 8) rfl)) e0 (g := (mkF m 31 #[.val (.int p1), .val (.int p2), .val (.int p3), .val (.int p4), .val (.int p5), .unset] [(.int (2 : Int32))])) rfl (hb hby d16_31) rfl (by decide) (cap := 2) (by decide) (by decide) (by decide) (by decide)
      obtain ⟨b37, g37⟩ : ∃ z, z = h0.size := ⟨_, rfl⟩
      rw [← g37] at A37 st37
      have F38 : Old Z n0 h37 := O0.ext E37
      obtain ⟨kc_b37, hkc_b37⟩ : ∃ z, z = k37 := ⟨_, rfl⟩
      rw [← hkc_b37] at A37
      have F39 : Arv Z h37 b37 kc_b37 .char (2 : Int32) [(.int (0 : Int32)), (.int (0 : Int32))] (.int (0 : Int32)) := (Arv.new A37 (by decide)).pad (pad_rep [] (.int (0 : Int32)) 2)
      have Z40 : n0 ≤ h37.size := Nat.le_trans Z0 E37.1
      have K41 : Keep h0 h37 [] := K0.ext E37
      have g_b37 : n0 ≤ b37 := Nat.le_trans Z0 (Nat.le_of_eq g37.symm)
      have sz_b37 : h0.size ≤ b37 := Nat.le_trans K0.1 (Nat.le_of_eq g37.symm)
      have P42 : ∀ t, Steps p.tables e below (T37.setTop (mkF m 33 #[.val (.int p1), .val (.int p2), .val (.int p3), .val (.int p4), .val (.int p5), .unset] [(.ref b37)])) t → Steps p.tables e below (s₁.setTop (entryFrame m #[(.int p1), (.int p2), (.int p3), (.int p4), (.int p5)] 6)) t := fun t k => P36 _ (st37 _ k)
      have P43 : ∀ t, Steps p.tables e below (T37.setTop (mkF m 36 #[.val (.int p1), .val (.int p2), .val (.int p3), .val (.int p4), .val (.int p5), .unset] [(.int p2), (.int (0 : Int32)), (.ref b37), (.ref b37)])) t → Steps p.tables e below (s₁.setTop (entryFrame m #[(.int p1), (.int p2), (.int p3), (.int p4), (.int p5)] 6)) t := by
        intro t k
        refine P42 _ ?_
        refine XS.dup X37.here hx rfl (hb hby d16_33) rfl rfl ?_
        show Steps p.tables e below (T37.setTop (mkF m 34 #[.val (.int p1), .val (.int p2), .val (.int p3), .val (.int p4), .val (.int p5), .unset] [(.ref b37), (.ref b37)])) _
        refine XS.iconst X37.here hx rfl (hb hby d16_34) ?_
        show Steps p.tables e below (T37.setTop (mkF m 35 #[.val (.int p1), .val (.int p2), .val (.int p3), .val (.int p4), .val (.int p5), .unset] [(.int (0 : Int32)), (.ref b37), (.ref b37)])) _
        refine XS.iloadN X37.here hx rfl (hb hby d16_35) rfl ?_
        show Steps p.tables e below (T37.setTop (mkF m 36 #[.val (.int p1), .val (.int p2), .val (.int p3), .val (.int p4), .val (.int p5), .unset] [(.int p2), (.int (0 : Int32)), (.ref b37), (.ref b37)])) _
        exact k
      obtain ⟨cl44, Ar44, q44, S44, M44, H44, G44⟩ := F39
      have in44 : ¬ ((0 : Int32) < 0 ∨ cl44.slots.size ≤ ((0 : Int32)).toNatClampNeg) := inb_of S44 ⟨by decide, by decide⟩
      obtain ⟨T44, h44, X44, e44, W44, st44⟩ := stC X37 hx hZ e37 Ar44 (j := (0 : Int32)) in44 (g := (mkF m 36 #[.val (.int p1), .val (.int p2), .val (.int p3), .val (.int p4), .val (.int p5), .unset] [(.int p2), (.int (0 : Int32)), (.ref b37), (.ref b37)])) rfl rfl (hb hby d16_36)
      rw [own_cc hp2] at W44
      have F45 : Old Z n0 h44 := F38.wr W44 g_b37
      have F46 : Arv Z h44 b37 kc_b37 .char (2 : Int32) [(.int p2), (.int (0 : Int32))] (.int (0 : Int32)) := Arv.set Ar44 q44 S44 M44 H44 G44 (by have q := fits_nar_char p2; first | exact own_cc hp2 ▸ q | (rw [own_cc hp2] at q; exact q) | (simp only [nar] at q; exact q)) W44 0 rfl (Nat.le_of_ble_eq_true rfl)
      have Z47 : n0 ≤ h44.size := Nat.le_trans Z40 (Keep.of_wr W44).1
      have K48 : Keep h0 h44 [] := K41.wr W44 (Or.inr sz_b37)
      have N44 := Fr.snoc X44 N0 g_b37
      have P49 : ∀ t, Steps p.tables e below (T44.setTop (mkF m 37 #[.val (.int p1), .val (.int p2), .val (.int p3), .val (.int p4), .val (.int p5), .unset] [(.ref b37)])) t → Steps p.tables e below (s₁.setTop (entryFrame m #[(.int p1), (.int p2), (.int p3), (.int p4), (.int p5)] 6)) t := fun t k => P43 _ (st44 _ k)
      have P50 : ∀ t, Steps p.tables e below (T44.setTop (mkF m 40 #[.val (.int p1), .val (.int p2), .val (.int p3), .val (.int p4), .val (.int p5), .unset] [(.int p3), (.int (1 : Int32)), (.ref b37), (.ref b37)])) t → Steps p.tables e below (s₁.setTop (entryFrame m #[(.int p1), (.int p2), (.int p3), (.int p4), (.int p5)] 6)) t := by
        intro t k
        refine P49 _ ?_
        refine XS.dup X44.here hx rfl (hb hby d16_37) rfl rfl ?_
        show Steps p.tables e below (T44.setTop (mkF m 38 #[.val (.int p1), .val (.int p2), .val (.int p3), .val (.int p4), .val (.int p5), .unset] [(.ref b37), (.ref b37)])) _
        refine XS.iconst X44.here hx rfl (hb hby d16_38) ?_
        show Steps p.tables e below (T44.setTop (mkF m 39 #[.val (.int p1), .val (.int p2), .val (.int p3), .val (.int p4), .val (.int p5), .unset] [(.int (1 : Int32)), (.ref b37), (.ref b37)])) _
        refine XS.iloadN X44.here hx rfl (hb hby d16_39) rfl ?_
        show Steps p.tables e below (T44.setTop (mkF m 40 #[.val (.int p1), .val (.int p2), .val (.int p3), .val (.int p4), .val (.int p5), .unset] [(.int p3), (.int (1 : Int32)), (.ref b37), (.ref b37)])) _
        exact k
      obtain ⟨cl51, Ar51, q51, S51, M51, H51, G51⟩ := F46
      have in51 : ¬ ((1 : Int32) < 0 ∨ cl51.slots.size ≤ ((1 : Int32)).toNatClampNeg) := inb_of S51 ⟨by decide, by decide⟩
      obtain ⟨T51, h51, X51, e51, W51, st51⟩ := stC X44 hx hZ e44 Ar51 (j := (1 : Int32)) in51 (g := (mkF m 40 #[.val (.int p1), .val (.int p2), .val (.int p3), .val (.int p4), .val (.int p5), .unset] [(.int p3), (.int (1 : Int32)), (.ref b37), (.ref b37)])) rfl rfl (hb hby d16_40)
      rw [own_cc hp3] at W51
      have F52 : Old Z n0 h51 := F45.wr W51 g_b37
      have F53 : Arv Z h51 b37 kc_b37 .char (2 : Int32) [(.int p2), (.int p3)] (.int (0 : Int32)) := Arv.set Ar51 q51 S51 M51 H51 G51 (by have q := fits_nar_char p3; first | exact own_cc hp3 ▸ q | (rw [own_cc hp3] at q; exact q) | (simp only [nar] at q; exact q)) W51 1 rfl (Nat.le_of_ble_eq_true rfl)
      have Z54 : n0 ≤ h51.size := Nat.le_trans Z47 (Keep.of_wr W51).1
      have K55 : Keep h0 h51 [] := K48.wr W51 (Or.inr sz_b37)
      have N51 := Fr.snoc X51 N44 g_b37
      have P56 : ∀ t, Steps p.tables e below (T51.setTop (mkF m 41 #[.val (.int p1), .val (.int p2), .val (.int p3), .val (.int p4), .val (.int p5), .unset] [(.ref b37)])) t → Steps p.tables e below (s₁.setTop (entryFrame m #[(.int p1), (.int p2), (.int p3), (.int p4), (.int p5)] 6)) t := fun t k => P50 _ (st51 _ k)
      have P57 : ∀ t, Steps p.tables e below (T51.setTop (mkF m 89 #[.val (.int p1), .val (.int p2), .val (.int p3), .val (.int p4), .val (.int p5), .val (.ref b37)] [])) t → Steps p.tables e below (s₁.setTop (entryFrame m #[(.int p1), (.int p2), (.int p3), (.int p4), (.int p5)] 6)) t := by
        intro t k
        refine P56 _ ?_
        refine XS.goto X51.here hx rfl (pc0 := 41) (pc' := 87) rfl (hb hby d16_41) (by decide) (by decide) ?_
        show Steps p.tables e below (T51.setTop (mkF m 87 #[.val (.int p1), .val (.int p2), .val (.int p3), .val (.int p4), .val (.int p5), .unset] [(.ref b37)])) _
        refine XS.astore X51.here hx rfl (hb hby d16_87) rfl rfl (l' := #[.val (.int p1), .val (.int p2), .val (.int p3), .val (.int p4), .val (.int p5), .val (.ref b37)]) rfl ?_
        show Steps p.tables e below (T51.setTop (mkF m 89 #[.val (.int p1), .val (.int p2), .val (.int p3), .val (.int p4), .val (.int p5), .val (.ref b37)] [])) _
        exact k
      obtain ⟨T58, h58, X58, e58, E58, A58, D58, -, st58⟩ := newO X51 hx hZ hown (hw _ (List.mem_of_getElem? (i := 9) rfl)) (hw _ (List.mem_of_getElem? (i := 10) rfl)) (hw _ (List.mem_of_getElem? (i := 11) rfl)) e51 (g := (mkF m 89 #[.val (.int p1), .val (.int p2), .val (.int p3), .val (.int p4), .val (.int p5), .val (.ref b37)] [])) rfl (hb hby d16_89) (by decide) (by decide)
      obtain ⟨b58, g58⟩ : ∃ z, z = h51.size := ⟨_, rfl⟩
      rw [← g58] at A58 D58 st58
      have F59 : Old Z n0 h58 := F52.ext E58
      have F60 : Arv Z h58 b37 kc_b37 .char (2 : Int32) [(.int p2), (.int p3)] (.int (0 : Int32)) := F53.ext E58
      have F61 : Fld Z h58 b58 "java/lang/String" "coder" "B" (.int (0 : Int32)) := D58 (Or.inr (hw _ (List.mem_of_getElem? (i := 35) rfl))) (ty := .byte) (by decide)
      have F62 : Fld Z h58 b58 "java/lang/String" "value" "[B" .null := D58 (Or.inr (hw _ (List.mem_of_getElem? (i := 37) rfl))) (ty := (.array .byte)) (by decide)
      have Z63 : n0 ≤ h58.size := Nat.le_trans Z54 E58.1
      have K64 : Keep h0 h58 [] := K55.ext E58
      have g_b58 : n0 ≤ b58 := Nat.le_trans Z54 (Nat.le_of_eq g58.symm)
      have sz_b58 : h0.size ≤ b58 := Nat.le_trans K55.1 (Nat.le_of_eq g58.symm)
      have ne_b37_b58 : b37 ≠ b58 := Nat.ne_of_lt (Nat.lt_of_lt_of_le F53.lt (Nat.le_of_eq g58.symm))
      have P65 : ∀ t, Steps p.tables e below (T58.setTop (mkF m 92 #[.val (.int p1), .val (.int p2), .val (.int p3), .val (.int p4), .val (.int p5), .val (.ref b37)] [(.ref b58)])) t → Steps p.tables e below (s₁.setTop (entryFrame m #[(.int p1), (.int p2), (.int p3), (.int p4), (.int p5)] 6)) t := fun t k => P57 _ (st58 _ k)
      have P66 : ∀ t, Steps p.tables e below (T58.setTop (mkF m 95 #[.val (.int p1), .val (.int p2), .val (.int p3), .val (.int p4), .val (.int p5), .val (.ref b37)] [(.ref b37), (.ref b58), (.ref b58)])) t → Steps p.tables e below (s₁.setTop (entryFrame m #[(.int p1), (.int p2), (.int p3), (.int p4), (.int p5)] 6)) t := by
        intro t k
        refine P65 _ ?_
        refine XS.dup X58.here hx rfl (hb hby d16_92) rfl rfl ?_
        show Steps p.tables e below (T58.setTop (mkF m 93 #[.val (.int p1), .val (.int p2), .val (.int p3), .val (.int p4), .val (.int p5), .val (.ref b37)] [(.ref b58), (.ref b58)])) _
        refine XS.aload X58.here hx rfl (hb hby d16_93) rfl rfl ?_
        show Steps p.tables e below (T58.setTop (mkF m 95 #[.val (.int p1), .val (.int p2), .val (.int p3), .val (.int p4), .val (.int p5), .val (.ref b37)] [(.ref b37), (.ref b58), (.ref b58)])) _
        exact k
      have V67 : own_Af Z h58 b37 kc_b37 .char (2 : Int32) (fun i => Value.int ((own_l4 p2 p3 p4 p5) i)) := (own_conv (l := [p2, p3]) F60).same (fun i hi => by
        match i, hi with
        | 0, _ => rfl
        | 1, _ => rfl
        | j + 2, hj => exact absurd hj (by show ¬ j + 2 < 2; omega))
      obtain ⟨_, _, ⟨T68, L68, k68, n68⟩, -, X68, ⟨Lc68, hQ68, l68, y68, z68⟩, st68⟩ := X58.specialBack hx (y := (⟨"java/lang/String", "<init>", "([C)V"⟩ : MethodName)) rfl hown (mvT hZ (hw _ (List.mem_of_getElem? (i := 12) rfl))) (mvT hZ (hw _ (List.mem_of_getElem? (i := 13) rfl))) (mvT hZ (hw _ (List.mem_of_getElem? (i := 14) rfl))) (by decide) (backOf (W := 1) (rm15 l Z a0 hw [] b58 b37 (2 : Int32) kc_b37 .null (.int (0 : Int32)) ccs (own_l4 p2 p3 p4 p5) 2 h58 n0 Z63 A58 F62 F61 g_b58 V67 (S_cs.ext F59.2) hcc rfl (by decide) (by decide) (own_l4s hp2 hp3 hp4 hp5 (by decide))) hZ (hw _ (List.mem_of_getElem? (i := 14) rfl)) (hw _ (List.mem_of_getElem? (i := 11) rfl)) (by decide) (by decide)) (g := (mkF m 95 #[.val (.int p1), .val (.int p2), .val (.int p3), .val (.int p4), .val (.int p5), .val (.ref b37)] [(.ref b37), (.ref b58), (.ref b58)])) rfl (by rw [hml]; rfl) (Steps.refl _) (a := b58) (argsL := [(.ref b37)]) (rest := [(.ref b58)]) (lenOf pd_10 rfl) rfl (by show 2 * 0 + _ ≤ _; exact Nat.le_of_eq rfl) (hb hby d16_95) (fun _ _ => ⟨rfl, e58, (by decide : 2 + 1 ≤ _), (by decide : 6 + 4 ≤ _)⟩)
      dsimp only [Pt.U, Pt.locs, Pt.cells, Pt.slots] at X68 l68 y68 z68 st68 hQ68
      subst l68 y68 z68
      obtain ⟨b_68, kb_68, rfl, N68q, K68, s68_b, Y68_0, Y68_1, Y68_2, Y68_3, Y68_4⟩ := hQ68
      have F69 : Old Z n0 T68.heap := F59.keep K68 (allS g_b58 all0)
      have F70 : own_Af Z T68.heap b37 kc_b37 .char (2 : Int32) (fun i => Value.int ((own_l4 p2 p3 p4 p5) i)) := V67.keep K68 (ninS ne_b37_b58 nin0)
      have F71 : Exa Z T68.heap b58 "java/lang/String" := A58.keep K68
      have Z72 : n0 ≤ T68.heap.size := Nat.le_trans Z63 K68.1
      have K73 : Keep h0 T68.heap [] := K64.trans K68 (allS (Or.inr sz_b58) all0)
      have g_b_68 : n0 ≤ b_68 := Nat.le_trans Z63 s68_b
      have sz_b_68 : h0.size ≤ b_68 := Nat.le_trans K64.1 s68_b
      have ne_b37_b_68 : b37 ≠ b_68 := Nat.ne_of_lt (Nat.lt_of_lt_of_le V67.lt s68_b)
      have ne_b58_b_68 : b58 ≠ b_68 := Nat.ne_of_lt (Nat.lt_of_lt_of_le A58.lt s68_b)
      have N68 := Fr.app N51 N68q
      have P74 : ∀ t, Steps p.tables e below (T68.setTop (mkF m 98 #[.val (.int p1), .val (.int p2), .val (.int p3), .val (.int p4), .val (.int p5), .val (.ref b37)] [(.ref b58)])) t → Steps p.tables e below (s₁.setTop (entryFrame m #[(.int p1), (.int p2), (.int p3), (.int p4), (.int p5)] 6)) t := fun t k => P66 _ (st68.trans k)
      have V75 : own_Af Z T68.heap b_68 kb_68 .byte p1 (fun i => Value.int ((own_l4 p2 p3 p4 p5) i)) := by rw [c27]; exact Y68_3
      obtain ⟨fs, hr, hrun, hended, hW, hsame⟩ := X68.leave (v := some (.ref b58)) (fun h => by rw [Bd.returns] at h; cases h)
      refine ⟨_, _, P74 _ ?_, hrun, hended, _, _, rfl, ?_, ⟨_, rfl⟩, hW, hsame.mono (by decide) (by decide)⟩
      · jvm_step X68.here [X68.here.top, hx, (hb hby d16_98), X68.method', Bd.returns, Value.isRef, FieldType.isReference]
        first | (intro acts; rw [hr _ acts rfl rfl rfl]) | rw [hr _ _ rfl rfl rfl]
        exact Steps.refl _
      · show Q16 Z p1 p2 p3 p4 p5 ccs n h0 n0 _ T68.heap _
        exact ⟨b58, b_68, kb_68, rfl, N68, K73, sz_b58, sz_b_68, Y68_0, Y68_1, Y68_2, V75, Y68_4⟩
    · have P76 : ∀ t, Steps p.tables e below (s₁.setTop (mkF m 46 #[.val (.int p1), .val (.int p2), .val (.int p3), .val (.int p4), .val (.int p5), .unset] [(.int (3 : Int32)), (.int p1)])) t → Steps p.tables e below (s₁.setTop (entryFrame m #[(.int p1), (.int p2), (.int p3), (.int p4), (.int p5)] 6)) t := by
        intro t k
        refine P35 _ ?_
        refine XS.icmpYes X0.here hx rfl (pc0 := 27) (pc' := 44) rfl (hb hby d16_27) rfl (XT.ii_ne_t c27) (by decide) (by decide) ?_
        show Steps p.tables e below (s₁.setTop (mkF m 44 #[.val (.int p1), .val (.int p2), .val (.int p3), .val (.int p4), .val (.int p5), .unset] [])) _
        refine XS.iloadN X0.here hx rfl (hb hby d16_44) rfl ?_
        show Steps p.tables e below (s₁.setTop (mkF m 45 #[.val (.int p1), .val (.int p2), .val (.int p3), .val (.int p4), .val (.int p5), .unset] [(.int p1)])) _
        refine XS.iconst X0.here hx rfl (hb hby d16_45) ?_
        show Steps p.tables e below (s₁.setTop (mkF m 46 #[.val (.int p1), .val (.int p2), .val (.int p3), .val (.int p4), .val (.int p5), .unset] [(.int (3 : Int32)), (.int p1)])) _
        exact k
      by_cases c46 : p1 = (3 : Int32)
      · have P77 : ∀ t, Steps p.tables e below (s₁.setTop (mkF m 50 #[.val (.int p1), .val (.int p2), .val (.int p3), .val (.int p4), .val (.int p5), .unset] [(.int (3 : Int32))])) t → Steps p.tables e below (s₁.setTop (entryFrame m #[(.int p1), (.int p2), (.int p3), (.int p4), (.int p5)] 6)) t := by
          intro t k
          refine P76 _ ?_
          refine XS.icmpNo X0.here hx rfl (hb hby d16_46) rfl (XT.ii_ne_f c46) ?_
          show Steps p.tables e below (s₁.setTop (mkF m 49 #[.val (.int p1), .val (.int p2), .val (.int p3), .val (.int p4), .val (.int p5), .unset] [])) _
          refine XS.iconst X0.here hx rfl (hb hby d16_49) ?_
          show Steps p.tables e below (s₁.setTop (mkF m 50 #[.val (.int p1), .val (.int p2), .val (.int p3), .val (.int p4), .val (.int p5), .unset] [(.int (3 : Int32))])) _
          exact k
        obtain ⟨T78, h78, k78, X78, e78, E78, A78, st78⟩ := newP X0 hx hZ (hw _ (List.mem_of_getElem? (i := 8) rfl)) e0 (g := (mkF m 50 #[.val (.int p1), .val (.int p2), .val (.int p3), .val (.int p4), .val (.int p5), .unset] [(.int (3 : Int32))])) rfl (hb hby d16_50) rfl (by decide) (cap := 3) (by decide) (by decide) (by decide) (by decide)
        obtain ⟨b78, g78⟩ : ∃ z, z = h0.size := ⟨_, rfl⟩
        rw [← g78] at A78 st78
        have F79 : Old Z n0 h78 := O0.ext E78
        obtain ⟨kc_b78, hkc_b78⟩ : ∃ z, z = k78 := ⟨_, rfl⟩
        rw [← hkc_b78] at A78
        have F80 : Arv Z h78 b78 kc_b78 .char (3 : Int32) [(.int (0 : Int32)), (.int (0 : Int32)), (.int (0 : Int32))] (.int (0 : Int32)) := (Arv.new A78 (by decide)).pad (pad_rep [] (.int (0 : Int32)) 3)
        have Z81 : n0 ≤ h78.size := Nat.le_trans Z0 E78.1
        have K82 : Keep h0 h78 [] := K0.ext E78
        have g_b78 : n0 ≤ b78 := Nat.le_trans Z0 (Nat.le_of_eq g78.symm)
        have sz_b78 : h0.size ≤ b78 := Nat.le_trans K0.1 (Nat.le_of_eq g78.symm)
        have P83 : ∀ t, Steps p.tables e below (T78.setTop (mkF m 52 #[.val (.int p1), .val (.int p2), .val (.int p3), .val (.int p4), .val (.int p5), .unset] [(.ref b78)])) t → Steps p.tables e below (s₁.setTop (entryFrame m #[(.int p1), (.int p2), (.int p3), (.int p4), (.int p5)] 6)) t := fun t k => P77 _ (st78 _ k)
        have P84 : ∀ t, Steps p.tables e below (T78.setTop (mkF m 55 #[.val (.int p1), .val (.int p2), .val (.int p3), .val (.int p4), .val (.int p5), .unset] [(.int p2), (.int (0 : Int32)), (.ref b78), (.ref b78)])) t → Steps p.tables e below (s₁.setTop (entryFrame m #[(.int p1), (.int p2), (.int p3), (.int p4), (.int p5)] 6)) t := by
          intro t k
          refine P83 _ ?_
          refine XS.dup X78.here hx rfl (hb hby d16_52) rfl rfl ?_
          show Steps p.tables e below (T78.setTop (mkF m 53 #[.val (.int p1), .val (.int p2), .val (.int p3), .val (.int p4), .val (.int p5), .unset] [(.ref b78), (.ref b78)])) _
          refine XS.iconst X78.here hx rfl (hb hby d16_53) ?_
          show Steps p.tables e below (T78.setTop (mkF m 54 #[.val (.int p1), .val (.int p2), .val (.int p3), .val (.int p4), .val (.int p5), .unset] [(.int (0 : Int32)), (.ref b78), (.ref b78)])) _
          refine XS.iloadN X78.here hx rfl (hb hby d16_54) rfl ?_
          show Steps p.tables e below (T78.setTop (mkF m 55 #[.val (.int p1), .val (.int p2), .val (.int p3), .val (.int p4), .val (.int p5), .unset] [(.int p2), (.int (0 : Int32)), (.ref b78), (.ref b78)])) _
          exact k
        obtain ⟨cl85, Ar85, q85, S85, M85, H85, G85⟩ := F80
        have in85 : ¬ ((0 : Int32) < 0 ∨ cl85.slots.size ≤ ((0 : Int32)).toNatClampNeg) := inb_of S85 ⟨by decide, by decide⟩
        obtain ⟨T85, h85, X85, e85, W85, st85⟩ := stC X78 hx hZ e78 Ar85 (j := (0 : Int32)) in85 (g := (mkF m 55 #[.val (.int p1), .val (.int p2), .val (.int p3), .val (.int p4), .val (.int p5), .unset] [(.int p2), (.int (0 : Int32)), (.ref b78), (.ref b78)])) rfl rfl (hb hby d16_55)
        rw [own_cc hp2] at W85
        have F86 : Old Z n0 h85 := F79.wr W85 g_b78
        have F87 : Arv Z h85 b78 kc_b78 .char (3 : Int32) [(.int p2), (.int (0 : Int32)), (.int (0 : Int32))] (.int (0 : Int32)) := Arv.set Ar85 q85 S85 M85 H85 G85 (by have q := fits_nar_char p2; first | exact own_cc hp2 ▸ q | (rw [own_cc hp2] at q; exact q) | (simp only [nar] at q; exact q)) W85 0 rfl (Nat.le_of_ble_eq_true rfl)
        have Z88 : n0 ≤ h85.size := Nat.le_trans Z81 (Keep.of_wr W85).1
        have K89 : Keep h0 h85 [] := K82.wr W85 (Or.inr sz_b78)
        have N85 := Fr.snoc X85 N0 g_b78
        have P90 : ∀ t, Steps p.tables e below (T85.setTop (mkF m 56 #[.val (.int p1), .val (.int p2), .val (.int p3), .val (.int p4), .val (.int p5), .unset] [(.ref b78)])) t → Steps p.tables e below (s₁.setTop (entryFrame m #[(.int p1), (.int p2), (.int p3), (.int p4), (.int p5)] 6)) t := fun t k => P84 _ (st85 _ k)
        have P91 : ∀ t, Steps p.tables e below (T85.setTop (mkF m 59 #[.val (.int p1), .val (.int p2), .val (.int p3), .val (.int p4), .val (.int p5), .unset] [(.int p3), (.int (1 : Int32)), (.ref b78), (.ref b78)])) t → Steps p.tables e below (s₁.setTop (entryFrame m #[(.int p1), (.int p2), (.int p3), (.int p4), (.int p5)] 6)) t := by
          intro t k
          refine P90 _ ?_
          refine XS.dup X85.here hx rfl (hb hby d16_56) rfl rfl ?_
          show Steps p.tables e below (T85.setTop (mkF m 57 #[.val (.int p1), .val (.int p2), .val (.int p3), .val (.int p4), .val (.int p5), .unset] [(.ref b78), (.ref b78)])) _
          refine XS.iconst X85.here hx rfl (hb hby d16_57) ?_
          show Steps p.tables e below (T85.setTop (mkF m 58 #[.val (.int p1), .val (.int p2), .val (.int p3), .val (.int p4), .val (.int p5), .unset] [(.int (1 : Int32)), (.ref b78), (.ref b78)])) _
          refine XS.iloadN X85.here hx rfl (hb hby d16_58) rfl ?_
          show Steps p.tables e below (T85.setTop (mkF m 59 #[.val (.int p1), .val (.int p2), .val (.int p3), .val (.int p4), .val (.int p5), .unset] [(.int p3), (.int (1 : Int32)), (.ref b78), (.ref b78)])) _
          exact k
        obtain ⟨cl92, Ar92, q92, S92, M92, H92, G92⟩ := F87
        have in92 : ¬ ((1 : Int32) < 0 ∨ cl92.slots.size ≤ ((1 : Int32)).toNatClampNeg) := inb_of S92 ⟨by decide, by decide⟩
        obtain ⟨T92, h92, X92, e92, W92, st92⟩ := stC X85 hx hZ e85 Ar92 (j := (1 : Int32)) in92 (g := (mkF m 59 #[.val (.int p1), .val (.int p2), .val (.int p3), .val (.int p4), .val (.int p5), .unset] [(.int p3), (.int (1 : Int32)), (.ref b78), (.ref b78)])) rfl rfl (hb hby d16_59)
        rw [own_cc hp3] at W92
        have F93 : Old Z n0 h92 := F86.wr W92 g_b78
        have F94 : Arv Z h92 b78 kc_b78 .char (3 : Int32) [(.int p2), (.int p3), (.int (0 : Int32))] (.int (0 : Int32)) := Arv.set Ar92 q92 S92 M92 H92 G92 (by have q := fits_nar_char p3; first | exact own_cc hp3 ▸ q | (rw [own_cc hp3] at q; exact q) | (simp only [nar] at q; exact q)) W92 1 rfl (Nat.le_of_ble_eq_true rfl)
        have Z95 : n0 ≤ h92.size := Nat.le_trans Z88 (Keep.of_wr W92).1
        have K96 : Keep h0 h92 [] := K89.wr W92 (Or.inr sz_b78)
        have N92 := Fr.snoc X92 N85 g_b78
        have P97 : ∀ t, Steps p.tables e below (T92.setTop (mkF m 60 #[.val (.int p1), .val (.int p2), .val (.int p3), .val (.int p4), .val (.int p5), .unset] [(.ref b78)])) t → Steps p.tables e below (s₁.setTop (entryFrame m #[(.int p1), (.int p2), (.int p3), (.int p4), (.int p5)] 6)) t := fun t k => P91 _ (st92 _ k)
        have P98 : ∀ t, Steps p.tables e below (T92.setTop (mkF m 63 #[.val (.int p1), .val (.int p2), .val (.int p3), .val (.int p4), .val (.int p5), .unset] [(.int p4), (.int (2 : Int32)), (.ref b78), (.ref b78)])) t → Steps p.tables e below (s₁.setTop (entryFrame m #[(.int p1), (.int p2), (.int p3), (.int p4), (.int p5)] 6)) t := by
          intro t k
          refine P97 _ ?_
          refine XS.dup X92.here hx rfl (hb hby d16_60) rfl rfl ?_
          show Steps p.tables e below (T92.setTop (mkF m 61 #[.val (.int p1), .val (.int p2), .val (.int p3), .val (.int p4), .val (.int p5), .unset] [(.ref b78), (.ref b78)])) _
          refine XS.iconst X92.here hx rfl (hb hby d16_61) ?_
          show Steps p.tables e below (T92.setTop (mkF m 62 #[.val (.int p1), .val (.int p2), .val (.int p3), .val (.int p4), .val (.int p5), .unset] [(.int (2 : Int32)), (.ref b78), (.ref b78)])) _
          refine XS.iloadN X92.here hx rfl (hb hby d16_62) rfl ?_
          show Steps p.tables e below (T92.setTop (mkF m 63 #[.val (.int p1), .val (.int p2), .val (.int p3), .val (.int p4), .val (.int p5), .unset] [(.int p4), (.int (2 : Int32)), (.ref b78), (.ref b78)])) _
          exact k
        obtain ⟨cl99, Ar99, q99, S99, M99, H99, G99⟩ := F94
        have in99 : ¬ ((2 : Int32) < 0 ∨ cl99.slots.size ≤ ((2 : Int32)).toNatClampNeg) := inb_of S99 ⟨by decide, by decide⟩
        obtain ⟨T99, h99, X99, e99, W99, st99⟩ := stC X92 hx hZ e92 Ar99 (j := (2 : Int32)) in99 (g := (mkF m 63 #[.val (.int p1), .val (.int p2), .val (.int p3), .val (.int p4), .val (.int p5), .unset] [(.int p4), (.int (2 : Int32)), (.ref b78), (.ref b78)])) rfl rfl (hb hby d16_63)
        rw [own_cc hp4] at W99
        have F100 : Old Z n0 h99 := F93.wr W99 g_b78
        have F101 : Arv Z h99 b78 kc_b78 .char (3 : Int32) [(.int p2), (.int p3), (.int p4)] (.int (0 : Int32)) := Arv.set Ar99 q99 S99 M99 H99 G99 (by have q := fits_nar_char p4; first | exact own_cc hp4 ▸ q | (rw [own_cc hp4] at q; exact q) | (simp only [nar] at q; exact q)) W99 2 rfl (Nat.le_of_ble_eq_true rfl)
        have Z102 : n0 ≤ h99.size := Nat.le_trans Z95 (Keep.of_wr W99).1
        have K103 : Keep h0 h99 [] := K96.wr W99 (Or.inr sz_b78)
        have N99 := Fr.snoc X99 N92 g_b78
        have P104 : ∀ t, Steps p.tables e below (T99.setTop (mkF m 64 #[.val (.int p1), .val (.int p2), .val (.int p3), .val (.int p4), .val (.int p5), .unset] [(.ref b78)])) t → Steps p.tables e below (s₁.setTop (entryFrame m #[(.int p1), (.int p2), (.int p3), (.int p4), (.int p5)] 6)) t := fun t k => P98 _ (st99 _ k)
        have P105 : ∀ t, Steps p.tables e below (T99.setTop (mkF m 89 #[.val (.int p1), .val (.int p2), .val (.int p3), .val (.int p4), .val (.int p5), .val (.ref b78)] [])) t → Steps p.tables e below (s₁.setTop (entryFrame m #[(.int p1), (.int p2), (.int p3), (.int p4), (.int p5)] 6)) t := by
          intro t k
          refine P104 _ ?_
          refine XS.goto X99.here hx rfl (pc0 := 64) (pc' := 87) rfl (hb hby d16_64) (by decide) (by decide) ?_
          show Steps p.tables e below (T99.setTop (mkF m 87 #[.val (.int p1), .val (.int p2), .val (.int p3), .val (.int p4), .val (.int p5), .unset] [(.ref b78)])) _
          refine XS.astore X99.here hx rfl (hb hby d16_87) rfl rfl (l' := #[.val (.int p1), .val (.int p2), .val (.int p3), .val (.int p4), .val (.int p5), .val (.ref b78)]) rfl ?_
          show Steps p.tables e below (T99.setTop (mkF m 89 #[.val (.int p1), .val (.int p2), .val (.int p3), .val (.int p4), .val (.int p5), .val (.ref b78)] [])) _
          exact k
        obtain ⟨T106, h106, X106, e106, E106, A106, D106, -, st106⟩ := newO X99 hx hZ hown (hw _ (List.mem_of_getElem? (i := 9) rfl)) (hw _ (List.mem_of_getElem? (i := 10) rfl)) (hw _ (List.mem_of_getElem? (i := 11) rfl)) e99 (g := (mkF m 89 #[.val (.int p1), .val (.int p2), .val (.int p3), .val (.int p4), .val (.int p5), .val (.ref b78)] [])) rfl (hb hby d16_89) (by decide) (by decide)
        obtain ⟨b106, g106⟩ : ∃ z, z = h99.size := ⟨_, rfl⟩
        rw [← g106] at A106 D106 st106
        have F107 : Old Z n0 h106 := F100.ext E106
        have F108 : Arv Z h106 b78 kc_b78 .char (3 : Int32) [(.int p2), (.int p3), (.int p4)] (.int (0 : Int32)) := F101.ext E106
        have F109 : Fld Z h106 b106 "java/lang/String" "coder" "B" (.int (0 : Int32)) := D106 (Or.inr (hw _ (List.mem_of_getElem? (i := 35) rfl))) (ty := .byte) (by decide)
        have F110 : Fld Z h106 b106 "java/lang/String" "value" "[B" .null := D106 (Or.inr (hw _ (List.mem_of_getElem? (i := 37) rfl))) (ty := (.array .byte)) (by decide)
        have Z111 : n0 ≤ h106.size := Nat.le_trans Z102 E106.1
        have K112 : Keep h0 h106 [] := K103.ext E106
        have g_b106 : n0 ≤ b106 := Nat.le_trans Z102 (Nat.le_of_eq g106.symm)
        have sz_b106 : h0.size ≤ b106 := Nat.le_trans K103.1 (Nat.le_of_eq g106.symm)
        have ne_b78_b106 : b78 ≠ b106 := Nat.ne_of_lt (Nat.lt_of_lt_of_le F101.lt (Nat.le_of_eq g106.symm))
        have P113 : ∀ t, Steps p.tables e below (T106.setTop (mkF m 92 #[.val (.int p1), .val (.int p2), .val (.int p3), .val (.int p4), .val (.int p5), .val (.ref b78)] [(.ref b106)])) t → Steps p.tables e below (s₁.setTop (entryFrame m #[(.int p1), (.int p2), (.int p3), (.int p4), (.int p5)] 6)) t := fun t k => P105 _ (st106 _ k)
        have P114 : ∀ t, Steps p.tables e below (T106.setTop (mkF m 95 #[.val (.int p1), .val (.int p2), .val (.int p3), .val (.int p4), .val (.int p5), .val (.ref b78)] [(.ref b78), (.ref b106), (.ref b106)])) t → Steps p.tables e below (s₁.setTop (entryFrame m #[(.int p1), (.int p2), (.int p3), (.int p4), (.int p5)] 6)) t := by
          intro t k
          refine P113 _ ?_
          refine XS.dup X106.here hx rfl (hb hby d16_92) rfl rfl ?_
          show Steps p.tables e below (T106.setTop (mkF m 93 #[.val (.int p1), .val (.int p2), .val (.int p3), .val (.int p4), .val (.int p5), .val (.ref b78)] [(.ref b106), (.ref b106)])) _
          refine XS.aload X106.here hx rfl (hb hby d16_93) rfl rfl ?_
          show Steps p.tables e below (T106.setTop (mkF m 95 #[.val (.int p1), .val (.int p2), .val (.int p3), .val (.int p4), .val (.int p5), .val (.ref b78)] [(.ref b78), (.ref b106), (.ref b106)])) _
          exact k
        have V115 : own_Af Z h106 b78 kc_b78 .char (3 : Int32) (fun i => Value.int ((own_l4 p2 p3 p4 p5) i)) := (own_conv (l := [p2, p3, p4]) F108).same (fun i hi => by
          match i, hi with
          | 0, _ => rfl
          | 1, _ => rfl
          | 2, _ => rfl
          | j + 3, hj => exact absurd hj (by show ¬ j + 3 < 3; omega))
        obtain ⟨_, _, ⟨T116, L116, k116, n116⟩, -, X116, ⟨Lc116, hQ116, l116, y116, z116⟩, st116⟩ := X106.specialBack hx (y := (⟨"java/lang/String", "<init>", "([C)V"⟩ : MethodName)) rfl hown (mvT hZ (hw _ (List.mem_of_getElem? (i := 12) rfl))) (mvT hZ (hw _ (List.mem_of_getElem? (i := 13) rfl))) (mvT hZ (hw _ (List.mem_of_getElem? (i := 14) rfl))) (by decide) (backOf (W := 1) (rm15 l Z a0 hw [] b106 b78 (3 : Int32) kc_b78 .null (.int (0 : Int32)) ccs (own_l4 p2 p3 p4 p5) 3 h106 n0 Z111 A106 F110 F109 g_b106 V115 (S_cs.ext F107.2) hcc rfl (by decide) (by decide) (own_l4s hp2 hp3 hp4 hp5 (by decide))) hZ (hw _ (List.mem_of_getElem? (i := 14) rfl)) (hw _ (List.mem_of_getElem? (i := 11) rfl)) (by decide) (by decide)) (g := (mkF m 95 #[.val (.int p1), .val (.int p2), .val (.int p3), .val (.int p4), .val (.int p5), .val (.ref b78)] [(.ref b78), (.ref b106), (.ref b106)])) rfl (by rw [hml]; rfl) (Steps.refl _) (a := b106) (argsL := [(.ref b78)]) (rest := [(.ref b106)]) (lenOf pd_10 rfl) rfl (by show 2 * 0 + _ ≤ _; exact Nat.le_of_eq rfl) (hb hby d16_95) (fun _ _ => ⟨rfl, e106, (by decide : 2 + 1 ≤ _), (by decide : 7 + 4 ≤ _)⟩)
        dsimp only [Pt.U, Pt.locs, Pt.cells, Pt.slots] at X116 l116 y116 z116 st116 hQ116
        subst l116 y116 z116
        obtain ⟨b_116, kb_116, rfl, N116q, K116, s116_b, Y116_0, Y116_1, Y116_2, Y116_3, Y116_4⟩ := hQ116
        have F117 : Old Z n0 T116.heap := F107.keep K116 (allS g_b106 all0)
        have F118 : own_Af Z T116.heap b78 kc_b78 .char (3 : Int32) (fun i => Value.int ((own_l4 p2 p3 p4 p5) i)) := V115.keep K116 (ninS ne_b78_b106 nin0)
        have F119 : Exa Z T116.heap b106 "java/lang/String" := A106.keep K116
        have Z120 : n0 ≤ T116.heap.size := Nat.le_trans Z111 K116.1
        have K121 : Keep h0 T116.heap [] := K112.trans K116 (allS (Or.inr sz_b106) all0)
        have g_b_116 : n0 ≤ b_116 := Nat.le_trans Z111 s116_b
        have sz_b_116 : h0.size ≤ b_116 := Nat.le_trans K112.1 s116_b
        have ne_b78_b_116 : b78 ≠ b_116 := Nat.ne_of_lt (Nat.lt_of_lt_of_le V115.lt s116_b)
        have ne_b106_b_116 : b106 ≠ b_116 := Nat.ne_of_lt (Nat.lt_of_lt_of_le A106.lt s116_b)
        have N116 := Fr.app N99 N116q
        have P122 : ∀ t, Steps p.tables e below (T116.setTop (mkF m 98 #[.val (.int p1), .val (.int p2), .val (.int p3), .val (.int p4), .val (.int p5), .val (.ref b78)] [(.ref b106)])) t → Steps p.tables e below (s₁.setTop (entryFrame m #[(.int p1), (.int p2), (.int p3), (.int p4), (.int p5)] 6)) t := fun t k => P114 _ (st116.trans k)
        have V123 : own_Af Z T116.heap b_116 kb_116 .byte p1 (fun i => Value.int ((own_l4 p2 p3 p4 p5) i)) := by rw [c46]; exact Y116_3
        obtain ⟨fs, hr, hrun, hended, hW, hsame⟩ := X116.leave (v := some (.ref b106)) (fun h => by rw [Bd.returns] at h; cases h)
        refine ⟨_, _, P122 _ ?_, hrun, hended, _, _, rfl, ?_, ⟨_, rfl⟩, hW, hsame.mono (by decide) (by decide)⟩
        · jvm_step X116.here [X116.here.top, hx, (hb hby d16_98), X116.method', Bd.returns, Value.isRef, FieldType.isReference]
          first | (intro acts; rw [hr _ acts rfl rfl rfl]) | rw [hr _ _ rfl rfl rfl]
          exact Steps.refl _
        · show Q16 Z p1 p2 p3 p4 p5 ccs n h0 n0 _ T116.heap _
          exact ⟨b106, b_116, kb_116, rfl, N116, K121, sz_b106, sz_b_116, Y116_0, Y116_1, Y116_2, V123, Y116_4⟩
      · have P124 : ∀ t, Steps p.tables e below (s₁.setTop (mkF m 68 #[.val (.int p1), .val (.int p2), .val (.int p3), .val (.int p4), .val (.int p5), .unset] [(.int (4 : Int32))])) t → Steps p.tables e below (s₁.setTop (entryFrame m #[(.int p1), (.int p2), (.int p3), (.int p4), (.int p5)] 6)) t := by
          intro t k
          refine P76 _ ?_
          refine XS.icmpYes X0.here hx rfl (pc0 := 46) (pc' := 67) rfl (hb hby d16_46) rfl (XT.ii_ne_t c46) (by decide) (by decide) ?_
          show Steps p.tables e below (s₁.setTop (mkF m 67 #[.val (.int p1), .val (.int p2), .val (.int p3), .val (.int p4), .val (.int p5), .unset] [])) _
          refine XS.iconst X0.here hx rfl (hb hby d16_67) ?_
          show Steps p.tables e below (s₁.setTop (mkF m 68 #[.val (.int p1), .val (.int p2), .val (.int p3), .val (.int p4), .val (.int p5), .unset] [(.int (4 : Int32))])) _
          exact k
        obtain ⟨T125, h125, k125, X125, e125, E125, A125, st125⟩ := newP X0 hx hZ (hw _ (List.mem_of_getElem? (i := 8) rfl)) e0 (g := (mkF m 68 #[.val (.int p1), .val (.int p2), .val (.int p3), .val (.int p4), .val (.int p5), .unset] [(.int (4 : Int32))])) rfl (hb hby d16_68) rfl (by decide) (cap := 4) (by decide) (by decide) (by decide) (by decide)
        obtain ⟨b125, g125⟩ : ∃ z, z = h0.size := ⟨_, rfl⟩
        rw [← g125] at A125 st125
        have F126 : Old Z n0 h125 := O0.ext E125
        obtain ⟨kc_b125, hkc_b125⟩ : ∃ z, z = k125 := ⟨_, rfl⟩
        rw [← hkc_b125] at A125
        have F127 : Arv Z h125 b125 kc_b125 .char (4 : Int32) [(.int (0 : Int32)), (.int (0 : Int32)), (.int (0 : Int32)), (.int (0 : Int32))] (.int (0 : Int32)) := (Arv.new A125 (by decide)).pad (pad_rep [] (.int (0 : Int32)) 4)
        have Z128 : n0 ≤ h125.size := Nat.le_trans Z0 E125.1
        have K129 : Keep h0 h125 [] := K0.ext E125
        have g_b125 : n0 ≤ b125 := Nat.le_trans Z0 (Nat.le_of_eq g125.symm)
        have sz_b125 : h0.size ≤ b125 := Nat.le_trans K0.1 (Nat.le_of_eq g125.symm)
        have P130 : ∀ t, Steps p.tables e below (T125.setTop (mkF m 70 #[.val (.int p1), .val (.int p2), .val (.int p3), .val (.int p4), .val (.int p5), .unset] [(.ref b125)])) t → Steps p.tables e below (s₁.setTop (entryFrame m #[(.int p1), (.int p2), (.int p3), (.int p4), (.int p5)] 6)) t := fun t k => P124 _ (st125 _ k)
        have P131 : ∀ t, Steps p.tables e below (T125.setTop (mkF m 73 #[.val (.int p1), .val (.int p2), .val (.int p3), .val (.int p4), .val (.int p5), .unset] [(.int p2), (.int (0 : Int32)), (.ref b125), (.ref b125)])) t → Steps p.tables e below (s₁.setTop (entryFrame m #[(.int p1), (.int p2), (.int p3), (.int p4), (.int p5)] 6)) t := by
          intro t k
          refine P130 _ ?_
          refine XS.dup X125.here hx rfl (hb hby d16_70) rfl rfl ?_
          show Steps p.tables e below (T125.setTop (mkF m 71 #[.val (.int p1), .val (.int p2), .val (.int p3), .val (.int p4), .val (.int p5), .unset] [(.ref b125), (.ref b125)])) _
          refine XS.iconst X125.here hx rfl (hb hby d16_71) ?_
          show Steps p.tables e below (T125.setTop (mkF m 72 #[.val (.int p1), .val (.int p2), .val (.int p3), .val (.int p4), .val (.int p5), .unset] [(.int (0 : Int32)), (.ref b125), (.ref b125)])) _
          refine XS.iloadN X125.here hx rfl (hb hby d16_72) rfl ?_
          show Steps p.tables e below (T125.setTop (mkF m 73 #[.val (.int p1), .val (.int p2), .val (.int p3), .val (.int p4), .val (.int p5), .unset] [(.int p2), (.int (0 : Int32)), (.ref b125), (.ref b125)])) _
          exact k
        obtain ⟨cl132, Ar132, q132, S132, M132, H132, G132⟩ := F127
        have in132 : ¬ ((0 : Int32) < 0 ∨ cl132.slots.size ≤ ((0 : Int32)).toNatClampNeg) := inb_of S132 ⟨by decide, by decide⟩
        obtain ⟨T132, h132, X132, e132, W132, st132⟩ := stC X125 hx hZ e125 Ar132 (j := (0 : Int32)) in132 (g := (mkF m 73 #[.val (.int p1), .val (.int p2), .val (.int p3), .val (.int p4), .val (.int p5), .unset] [(.int p2), (.int (0 : Int32)), (.ref b125), (.ref b125)])) rfl rfl (hb hby d16_73)
        rw [own_cc hp2] at W132
        have F133 : Old Z n0 h132 := F126.wr W132 g_b125
        have F134 : Arv Z h132 b125 kc_b125 .char (4 : Int32) [(.int p2), (.int (0 : Int32)), (.int (0 : Int32)), (.int (0 : Int32))] (.int (0 : Int32)) := Arv.set Ar132 q132 S132 M132 H132 G132 (by have q := fits_nar_char p2; first | exact own_cc hp2 ▸ q | (rw [own_cc hp2] at q; exact q) | (simp only [nar] at q; exact q)) W132 0 rfl (Nat.le_of_ble_eq_true rfl)
        have Z135 : n0 ≤ h132.size := Nat.le_trans Z128 (Keep.of_wr W132).1
        have K136 : Keep h0 h132 [] := K129.wr W132 (Or.inr sz_b125)
        have N132 := Fr.snoc X132 N0 g_b125
        have P137 : ∀ t, Steps p.tables e below (T132.setTop (mkF m 74 #[.val (.int p1), .val (.int p2), .val (.int p3), .val (.int p4), .val (.int p5), .unset] [(.ref b125)])) t → Steps p.tables e below (s₁.setTop (entryFrame m #[(.int p1), (.int p2), (.int p3), (.int p4), (.int p5)] 6)) t := fun t k => P131 _ (st132 _ k)
        have P138 : ∀ t, Steps p.tables e below (T132.setTop (mkF m 77 #[.val (.int p1), .val (.int p2), .val (.int p3), .val (.int p4), .val (.int p5), .unset] [(.int p3), (.int (1 : Int32)), (.ref b125), (.ref b125)])) t → Steps p.tables e below (s₁.setTop (entryFrame m #[(.int p1), (.int p2), (.int p3), (.int p4), (.int p5)] 6)) t := by
          intro t k
          refine P137 _ ?_
          refine XS.dup X132.here hx rfl (hb hby d16_74) rfl rfl ?_
          show Steps p.tables e below (T132.setTop (mkF m 75 #[.val (.int p1), .val (.int p2), .val (.int p3), .val (.int p4), .val (.int p5), .unset] [(.ref b125), (.ref b125)])) _
          refine XS.iconst X132.here hx rfl (hb hby d16_75) ?_
          show Steps p.tables e below (T132.setTop (mkF m 76 #[.val (.int p1), .val (.int p2), .val (.int p3), .val (.int p4), .val (.int p5), .unset] [(.int (1 : Int32)), (.ref b125), (.ref b125)])) _
          refine XS.iloadN X132.here hx rfl (hb hby d16_76) rfl ?_
          show Steps p.tables e below (T132.setTop (mkF m 77 #[.val (.int p1), .val (.int p2), .val (.int p3), .val (.int p4), .val (.int p5), .unset] [(.int p3), (.int (1 : Int32)), (.ref b125), (.ref b125)])) _
          exact k
        obtain ⟨cl139, Ar139, q139, S139, M139, H139, G139⟩ := F134
        have in139 : ¬ ((1 : Int32) < 0 ∨ cl139.slots.size ≤ ((1 : Int32)).toNatClampNeg) := inb_of S139 ⟨by decide, by decide⟩
        obtain ⟨T139, h139, X139, e139, W139, st139⟩ := stC X132 hx hZ e132 Ar139 (j := (1 : Int32)) in139 (g := (mkF m 77 #[.val (.int p1), .val (.int p2), .val (.int p3), .val (.int p4), .val (.int p5), .unset] [(.int p3), (.int (1 : Int32)), (.ref b125), (.ref b125)])) rfl rfl (hb hby d16_77)
        rw [own_cc hp3] at W139
        have F140 : Old Z n0 h139 := F133.wr W139 g_b125
        have F141 : Arv Z h139 b125 kc_b125 .char (4 : Int32) [(.int p2), (.int p3), (.int (0 : Int32)), (.int (0 : Int32))] (.int (0 : Int32)) := Arv.set Ar139 q139 S139 M139 H139 G139 (by have q := fits_nar_char p3; first | exact own_cc hp3 ▸ q | (rw [own_cc hp3] at q; exact q) | (simp only [nar] at q; exact q)) W139 1 rfl (Nat.le_of_ble_eq_true rfl)
        have Z142 : n0 ≤ h139.size := Nat.le_trans Z135 (Keep.of_wr W139).1
        have K143 : Keep h0 h139 [] := K136.wr W139 (Or.inr sz_b125)
        have N139 := Fr.snoc X139 N132 g_b125
        have P144 : ∀ t, Steps p.tables e below (T139.setTop (mkF m 78 #[.val (.int p1), .val (.int p2), .val (.int p3), .val (.int p4), .val (.int p5), .unset] [(.ref b125)])) t → Steps p.tables e below (s₁.setTop (entryFrame m #[(.int p1), (.int p2), (.int p3), (.int p4), (.int p5)] 6)) t := fun t k => P138 _ (st139 _ k)
        have P145 : ∀ t, Steps p.tables e below (T139.setTop (mkF m 81 #[.val (.int p1), .val (.int p2), .val (.int p3), .val (.int p4), .val (.int p5), .unset] [(.int p4), (.int (2 : Int32)), (.ref b125), (.ref b125)])) t → Steps p.tables e below (s₁.setTop (entryFrame m #[(.int p1), (.int p2), (.int p3), (.int p4), (.int p5)] 6)) t := by
          intro t k
          refine P144 _ ?_
          refine XS.dup X139.here hx rfl (hb hby d16_78) rfl rfl ?_
          show Steps p.tables e below (T139.setTop (mkF m 79 #[.val (.int p1), .val (.int p2), .val (.int p3), .val (.int p4), .val (.int p5), .unset] [(.ref b125), (.ref b125)])) _
          refine XS.iconst X139.here hx rfl (hb hby d16_79) ?_
          show Steps p.tables e below (T139.setTop (mkF m 80 #[.val (.int p1), .val (.int p2), .val (.int p3), .val (.int p4), .val (.int p5), .unset] [(.int (2 : Int32)), (.ref b125), (.ref b125)])) _
          refine XS.iloadN X139.here hx rfl (hb hby d16_80) rfl ?_
          show Steps p.tables e below (T139.setTop (mkF m 81 #[.val (.int p1), .val (.int p2), .val (.int p3), .val (.int p4), .val (.int p5), .unset] [(.int p4), (.int (2 : Int32)), (.ref b125), (.ref b125)])) _
          exact k
        obtain ⟨cl146, Ar146, q146, S146, M146, H146, G146⟩ := F141
        have in146 : ¬ ((2 : Int32) < 0 ∨ cl146.slots.size ≤ ((2 : Int32)).toNatClampNeg) := inb_of S146 ⟨by decide, by decide⟩
        obtain ⟨T146, h146, X146, e146, W146, st146⟩ := stC X139 hx hZ e139 Ar146 (j := (2 : Int32)) in146 (g := (mkF m 81 #[.val (.int p1), .val (.int p2), .val (.int p3), .val (.int p4), .val (.int p5), .unset] [(.int p4), (.int (2 : Int32)), (.ref b125), (.ref b125)])) rfl rfl (hb hby d16_81)
        rw [own_cc hp4] at W146
        have F147 : Old Z n0 h146 := F140.wr W146 g_b125
        have F148 : Arv Z h146 b125 kc_b125 .char (4 : Int32) [(.int p2), (.int p3), (.int p4), (.int (0 : Int32))] (.int (0 : Int32)) := Arv.set Ar146 q146 S146 M146 H146 G146 (by have q := fits_nar_char p4; first | exact own_cc hp4 ▸ q | (rw [own_cc hp4] at q; exact q) | (simp only [nar] at q; exact q)) W146 2 rfl (Nat.le_of_ble_eq_true rfl)
        have Z149 : n0 ≤ h146.size := Nat.le_trans Z142 (Keep.of_wr W146).1
        have K150 : Keep h0 h146 [] := K143.wr W146 (Or.inr sz_b125)
        have N146 := Fr.snoc X146 N139 g_b125
        have P151 : ∀ t, Steps p.tables e below (T146.setTop (mkF m 82 #[.val (.int p1), .val (.int p2), .val (.int p3), .val (.int p4), .val (.int p5), .unset] [(.ref b125)])) t → Steps p.tables e below (s₁.setTop (entryFrame m #[(.int p1), (.int p2), (.int p3), (.int p4), (.int p5)] 6)) t := fun t k => P145 _ (st146 _ k)
        have P152 : ∀ t, Steps p.tables e below (T146.setTop (mkF m 86 #[.val (.int p1), .val (.int p2), .val (.int p3), .val (.int p4), .val (.int p5), .unset] [(.int p5), (.int (3 : Int32)), (.ref b125), (.ref b125)])) t → Steps p.tables e below (s₁.setTop (entryFrame m #[(.int p1), (.int p2), (.int p3), (.int p4), (.int p5)] 6)) t := by
          intro t k
          refine P151 _ ?_
          refine XS.dup X146.here hx rfl (hb hby d16_82) rfl rfl ?_
          show Steps p.tables e below (T146.setTop (mkF m 83 #[.val (.int p1), .val (.int p2), .val (.int p3), .val (.int p4), .val (.int p5), .unset] [(.ref b125), (.ref b125)])) _
          refine XS.iconst X146.here hx rfl (hb hby d16_83) ?_
          show Steps p.tables e below (T146.setTop (mkF m 84 #[.val (.int p1), .val (.int p2), .val (.int p3), .val (.int p4), .val (.int p5), .unset] [(.int (3 : Int32)), (.ref b125), (.ref b125)])) _
          refine XS.iload X146.here hx rfl (hb hby d16_84) rfl ?_
          show Steps p.tables e below (T146.setTop (mkF m 86 #[.val (.int p1), .val (.int p2), .val (.int p3), .val (.int p4), .val (.int p5), .unset] [(.int p5), (.int (3 : Int32)), (.ref b125), (.ref b125)])) _
          exact k
        obtain ⟨cl153, Ar153, q153, S153, M153, H153, G153⟩ := F148
        have in153 : ¬ ((3 : Int32) < 0 ∨ cl153.slots.size ≤ ((3 : Int32)).toNatClampNeg) := inb_of S153 ⟨by decide, by decide⟩
        obtain ⟨T153, h153, X153, e153, W153, st153⟩ := stC X146 hx hZ e146 Ar153 (j := (3 : Int32)) in153 (g := (mkF m 86 #[.val (.int p1), .val (.int p2), .val (.int p3), .val (.int p4), .val (.int p5), .unset] [(.int p5), (.int (3 : Int32)), (.ref b125), (.ref b125)])) rfl rfl (hb hby d16_86)
        rw [own_cc hp5] at W153
        have F154 : Old Z n0 h153 := F147.wr W153 g_b125
        have F155 : Arv Z h153 b125 kc_b125 .char (4 : Int32) [(.int p2), (.int p3), (.int p4), (.int p5)] (.int (0 : Int32)) := Arv.set Ar153 q153 S153 M153 H153 G153 (by have q := fits_nar_char p5; first | exact own_cc hp5 ▸ q | (rw [own_cc hp5] at q; exact q) | (simp only [nar] at q; exact q)) W153 3 rfl (Nat.le_of_ble_eq_true rfl)
        have Z156 : n0 ≤ h153.size := Nat.le_trans Z149 (Keep.of_wr W153).1
        have K157 : Keep h0 h153 [] := K150.wr W153 (Or.inr sz_b125)
        have N153 := Fr.snoc X153 N146 g_b125
        have P158 : ∀ t, Steps p.tables e below (T153.setTop (mkF m 87 #[.val (.int p1), .val (.int p2), .val (.int p3), .val (.int p4), .val (.int p5), .unset] [(.ref b125)])) t → Steps p.tables e below (s₁.setTop (entryFrame m #[(.int p1), (.int p2), (.int p3), (.int p4), (.int p5)] 6)) t := fun t k => P152 _ (st153 _ k)
        have P159 : ∀ t, Steps p.tables e below (T153.setTop (mkF m 89 #[.val (.int p1), .val (.int p2), .val (.int p3), .val (.int p4), .val (.int p5), .val (.ref b125)] [])) t → Steps p.tables e below (s₁.setTop (entryFrame m #[(.int p1), (.int p2), (.int p3), (.int p4), (.int p5)] 6)) t := by
          intro t k
          refine P158 _ ?_
          refine XS.astore X153.here hx rfl (hb hby d16_87) rfl rfl (l' := #[.val (.int p1), .val (.int p2), .val (.int p3), .val (.int p4), .val (.int p5), .val (.ref b125)]) rfl ?_
          show Steps p.tables e below (T153.setTop (mkF m 89 #[.val (.int p1), .val (.int p2), .val (.int p3), .val (.int p4), .val (.int p5), .val (.ref b125)] [])) _
          exact k
        obtain ⟨T160, h160, X160, e160, E160, A160, D160, -, st160⟩ := newO X153 hx hZ hown (hw _ (List.mem_of_getElem? (i := 9) rfl)) (hw _ (List.mem_of_getElem? (i := 10) rfl)) (hw _ (List.mem_of_getElem? (i := 11) rfl)) e153 (g := (mkF m 89 #[.val (.int p1), .val (.int p2), .val (.int p3), .val (.int p4), .val (.int p5), .val (.ref b125)] [])) rfl (hb hby d16_89) (by decide) (by decide)
        obtain ⟨b160, g160⟩ : ∃ z, z = h153.size := ⟨_, rfl⟩
        rw [← g160] at A160 D160 st160
        have F161 : Old Z n0 h160 := F154.ext E160
        have F162 : Arv Z h160 b125 kc_b125 .char (4 : Int32) [(.int p2), (.int p3), (.int p4), (.int p5)] (.int (0 : Int32)) := F155.ext E160
        have F163 : Fld Z h160 b160 "java/lang/String" "coder" "B" (.int (0 : Int32)) := D160 (Or.inr (hw _ (List.mem_of_getElem? (i := 35) rfl))) (ty := .byte) (by decide)
        have F164 : Fld Z h160 b160 "java/lang/String" "value" "[B" .null := D160 (Or.inr (hw _ (List.mem_of_getElem? (i := 37) rfl))) (ty := (.array .byte)) (by decide)
        have Z165 : n0 ≤ h160.size := Nat.le_trans Z156 E160.1
        have K166 : Keep h0 h160 [] := K157.ext E160
        have g_b160 : n0 ≤ b160 := Nat.le_trans Z156 (Nat.le_of_eq g160.symm)
        have sz_b160 : h0.size ≤ b160 := Nat.le_trans K157.1 (Nat.le_of_eq g160.symm)
        have ne_b125_b160 : b125 ≠ b160 := Nat.ne_of_lt (Nat.lt_of_lt_of_le F155.lt (Nat.le_of_eq g160.symm))
        have P167 : ∀ t, Steps p.tables e below (T160.setTop (mkF m 92 #[.val (.int p1), .val (.int p2), .val (.int p3), .val (.int p4), .val (.int p5), .val (.ref b125)] [(.ref b160)])) t → Steps p.tables e below (s₁.setTop (entryFrame m #[(.int p1), (.int p2), (.int p3), (.int p4), (.int p5)] 6)) t := fun t k => P159 _ (st160 _ k)
        have P168 : ∀ t, Steps p.tables e below (T160.setTop (mkF m 95 #[.val (.int p1), .val (.int p2), .val (.int p3), .val (.int p4), .val (.int p5), .val (.ref b125)] [(.ref b125), (.ref b160), (.ref b160)])) t → Steps p.tables e below (s₁.setTop (entryFrame m #[(.int p1), (.int p2), (.int p3), (.int p4), (.int p5)] 6)) t := by
          intro t k
          refine P167 _ ?_
          refine XS.dup X160.here hx rfl (hb hby d16_92) rfl rfl ?_
          show Steps p.tables e below (T160.setTop (mkF m 93 #[.val (.int p1), .val (.int p2), .val (.int p3), .val (.int p4), .val (.int p5), .val (.ref b125)] [(.ref b160), (.ref b160)])) _
          refine XS.aload X160.here hx rfl (hb hby d16_93) rfl rfl ?_
          show Steps p.tables e below (T160.setTop (mkF m 95 #[.val (.int p1), .val (.int p2), .val (.int p3), .val (.int p4), .val (.int p5), .val (.ref b125)] [(.ref b125), (.ref b160), (.ref b160)])) _
          exact k
        have V169 : own_Af Z h160 b125 kc_b125 .char (4 : Int32) (fun i => Value.int ((own_l4 p2 p3 p4 p5) i)) := (own_conv (l := [p2, p3, p4, p5]) F162).same (fun i hi => by
          match i, hi with
          | 0, _ => rfl
          | 1, _ => rfl
          | 2, _ => rfl
          | 3, _ => rfl
          | j + 4, hj => exact absurd hj (by show ¬ j + 4 < 4; omega))
        obtain ⟨_, _, ⟨T170, L170, k170, n170⟩, -, X170, ⟨Lc170, hQ170, l170, y170, z170⟩, st170⟩ := X160.specialBack hx (y := (⟨"java/lang/String", "<init>", "([C)V"⟩ : MethodName)) rfl hown (mvT hZ (hw _ (List.mem_of_getElem? (i := 12) rfl))) (mvT hZ (hw _ (List.mem_of_getElem? (i := 13) rfl))) (mvT hZ (hw _ (List.mem_of_getElem? (i := 14) rfl))) (by decide) (backOf (W := 1) (rm15 l Z a0 hw [] b160 b125 (4 : Int32) kc_b125 .null (.int (0 : Int32)) ccs (own_l4 p2 p3 p4 p5) 4 h160 n0 Z165 A160 F164 F163 g_b160 V169 (S_cs.ext F161.2) hcc rfl (by decide) (by decide) (own_l4s hp2 hp3 hp4 hp5 (by decide))) hZ (hw _ (List.mem_of_getElem? (i := 14) rfl)) (hw _ (List.mem_of_getElem? (i := 11) rfl)) (by decide) (by decide)) (g := (mkF m 95 #[.val (.int p1), .val (.int p2), .val (.int p3), .val (.int p4), .val (.int p5), .val (.ref b125)] [(.ref b125), (.ref b160), (.ref b160)])) rfl (by rw [hml]; rfl) (Steps.refl _) (a := b160) (argsL := [(.ref b125)]) (rest := [(.ref b160)]) (lenOf pd_10 rfl) rfl (by show 2 * 0 + _ ≤ _; exact Nat.le_of_eq rfl) (hb hby d16_95) (fun _ _ => ⟨rfl, e160, (by decide : 2 + 1 ≤ _), (by decide : 8 + 4 ≤ _)⟩)
        dsimp only [Pt.U, Pt.locs, Pt.cells, Pt.slots] at X170 l170 y170 z170 st170 hQ170
        subst l170 y170 z170
        obtain ⟨b_170, kb_170, rfl, N170q, K170, s170_b, Y170_0, Y170_1, Y170_2, Y170_3, Y170_4⟩ := hQ170
        have F171 : Old Z n0 T170.heap := F161.keep K170 (allS g_b160 all0)
        have F172 : own_Af Z T170.heap b125 kc_b125 .char (4 : Int32) (fun i => Value.int ((own_l4 p2 p3 p4 p5) i)) := V169.keep K170 (ninS ne_b125_b160 nin0)
        have F173 : Exa Z T170.heap b160 "java/lang/String" := A160.keep K170
        have Z174 : n0 ≤ T170.heap.size := Nat.le_trans Z165 K170.1
        have K175 : Keep h0 T170.heap [] := K166.trans K170 (allS (Or.inr sz_b160) all0)
        have g_b_170 : n0 ≤ b_170 := Nat.le_trans Z165 s170_b
        have sz_b_170 : h0.size ≤ b_170 := Nat.le_trans K166.1 s170_b
        have ne_b125_b_170 : b125 ≠ b_170 := Nat.ne_of_lt (Nat.lt_of_lt_of_le V169.lt s170_b)
        have ne_b160_b_170 : b160 ≠ b_170 := Nat.ne_of_lt (Nat.lt_of_lt_of_le A160.lt s170_b)
        have N170 := Fr.app N153 N170q
        have P176 : ∀ t, Steps p.tables e below (T170.setTop (mkF m 98 #[.val (.int p1), .val (.int p2), .val (.int p3), .val (.int p4), .val (.int p5), .val (.ref b125)] [(.ref b160)])) t → Steps p.tables e below (s₁.setTop (entryFrame m #[(.int p1), (.int p2), (.int p3), (.int p4), (.int p5)] 6)) t := fun t k => P168 _ (st170.trans k)
        have V177 : own_Af Z T170.heap b_170 kb_170 .byte p1 (fun i => Value.int ((own_l4 p2 p3 p4 p5) i)) := by rw [(own_4 hn hn1 hn4 c12 c27 c46)]; exact Y170_3
        obtain ⟨fs, hr, hrun, hended, hW, hsame⟩ := X170.leave (v := some (.ref b160)) (fun h => by rw [Bd.returns] at h; cases h)
        refine ⟨_, _, P176 _ ?_, hrun, hended, _, _, rfl, ?_, ⟨_, rfl⟩, hW, hsame.mono (by decide) (by decide)⟩
        · jvm_step X170.here [X170.here.top, hx, (hb hby d16_98), X170.method', Bd.returns, Value.isRef, FieldType.isReference]
          first | (intro acts; rw [hr _ acts rfl rfl rfl]) | rw [hr _ _ rfl rfl rfl]
          exact Steps.refl _
        · show Q16 Z p1 p2 p3 p4 p5 ccs n h0 n0 _ T170.heap _
          exact ⟨b160, b_170, kb_170, rfl, N170, K175, sz_b160, sz_b_170, Y170_0, Y170_1, Y170_2, V177, Y170_4⟩
theorem d34_0 : decode jdk_42_method_149_code 0 = .ok (.aload_n 0, 1) := by decide +kernel
theorem d34_1 : decode jdk_42_method_149_code 1 = .ok (.invokespecial 1, 3) := by decide +kernel
theorem d34_4 : decode jdk_42_method_149_code 4 = .ok (.iload_n 3, 1) := by decide +kernel
theorem d34_5 : decode jdk_42_method_149_code 5 = .ok (.ifCond .ne 22, 3) := by decide +kernel
theorem d34_8 : decode jdk_42_method_149_code 8 = .ok (.aload_n 0, 1) := by decide +kernel
theorem d34_9 : decode jdk_42_method_149_code 9 = .ok (.ldc 7, 2) := by decide +kernel
theorem d34_11 : decode jdk_42_method_149_code 11 = .ok (.getfield 9, 3) := by decide +kernel
theorem d34_14 : decode jdk_42_method_149_code 14 = .ok (.putfield 9, 3) := by decide +kernel
theorem d34_17 : decode jdk_42_method_149_code 17 = .ok (.aload_n 0, 1) := by decide +kernel
theorem d34_18 : decode jdk_42_method_149_code 18 = .ok (.ldc 7, 2) := by decide +kernel
theorem d34_20 : decode jdk_42_method_149_code 20 = .ok (.getfield 15, 3) := by decide +kernel
theorem d34_23 : decode jdk_42_method_149_code 23 = .ok (.putfield 15, 3) := by decide +kernel
theorem d34_26 : decode jdk_42_method_149_code 26 = .ok (.return_, 1) := by decide +kernel
theorem pn_34 : plainName "java/lang/String" = true := by first | (simp [plainName, overriddenIn]; done) | decide +kernel
theorem ef_34 (m : MethodId) (x0 : Addr) (x1 : Addr) (x2 : Int32) (x3 : Int32) : entryFrame m #[(.ref x0), (.ref x1), (.int x3), (.int x3), .null] 6 = mkF m 0 #[.val (.ref x0), .val (.ref x1), .val (.int x3), .val (.int x3), .val .null, .unset] [] := by first | (simp [entryFrame, mkF, argsToLocals, Value.category]; done) | rfl
def Q34 (Z : State) (a1 : Addr) (a2 : Addr) (cf : Nat → Int32) (h0 : Heap) (n0 : Nat) (v : Option Value) (h : Heap) (L : List Loc) : Prop := ∃ (b : Addr) (kb : ClassId), v = none ∧ Fr n0 L ∧ Keep h0 h [a1] ∧ Exa Z h a1 "java/lang/String" ∧ Fld Z h a1 "java/lang/String" "value" "[B" (.ref b) ∧ Fld Z h a1 "java/lang/String" "coder" "B" (.int (0 : Int32)) ∧ own_Af Z h b kb .byte (0 : Int32) (fun i => Value.int (cf i)) ∧ Exa Z h b "[B"
set_option maxRecDepth 65536 in
set_option maxHeartbeats 40000000 in
theorem rm34 (l : Launch) (Z : State) (a0 : Array Value) (hw : ∀ d ∈ tables_1, d.before a0 Z = true) (ws : List Jvm.Cond) (a1 : Addr) (a2 : Addr) (cf : Nat → Int32) (h0 : Heap) (n0 : Nat) (Z0 : n0 ≤ h0.size) (E_a : Exa Z h0 a1 "java/lang/String") (F_v : Fld Z h0 a1 "java/lang/String" "value" "[B" .null) (F_k : Fld Z h0 a1 "java/lang/String" "coder" "B" (.int (0 : Int32))) (g_a : n0 ≤ a1) :
    MetFree l (⟨"java/lang/String", "<init>", "([CIILjava/lang/Void;)V"⟩ : MethodName) (head1 (Jvm.Cond.code (⟨"java/lang/String", "<init>", "([CIILjava/lang/Void;)V"⟩ : MethodName) jdk_42_method_149_code 6 none :: ws) ({ frames := 1, cells := 2, slots := 4, locals := 12 } : Room)) (fun a U => a = #[(.ref a1), (.ref a2), (.int (0 : Int32)), (.int (0 : Int32)), .null] ∧ Z.Warmed39 U.vm ∧ U.heap = h0 ∧ CHv Z consts_1 U.vm h0) (fun _ _ _ _ _ => True) (fun _ U o U' => ∃ v L, o = .returned v ∧ Q34 Z a1 a2 cf h0 n0 v U'.heap L ∧ ReturnedEndW U o U' L ({ frames := 1, cells := 2, slots := 4, locals := 12 } : Room).cells ({ frames := 1, cells := 2, slots := 4, locals := 12 } : Room).slots) := by
  refine MetFree.of_bodySF (plainFor_of_name pn_34) hisR ?_
  intro p e s m args below meth c s₁ Bd hml0 hP hK
  obtain ⟨rfl, hZ, hh, hC⟩ := hP
  have hx := Bd.exec
  have hby := Bd.bytes
  have hml : c.maxLocals = 6 := hml0
  have hown : s.vm.findClass "java/lang/String" = some m.cls := findClass_of_methodNamed Bd.named
  have hnm := (name_of_methodNamed Bd.named Bd.method).1
  have X0 : Stand p l e ({ frames := 1, cells := 2, slots := 4, locals := 12 } : Room) s m #[(.ref a1), (.ref a2), (.int (0 : Int32)), (.int (0 : Int32)), .null] below meth c s₁ [] 0 0 := Stand.of_body Bd
  have e0 : s₁.heap = h0 := by rw [← hh, Bd.state]; rfl
  have N0 := Fr.nil n0
  have K0 : Keep h0 h0 [a1] := Keep.refl _ _
  have P0 : ∀ t, Steps p.tables e below (s₁.setTop (mkF m 0 #[.val (.ref a1), .val (.ref a2), .val (.int (0 : Int32)), .val (.int (0 : Int32)), .val .null, .unset] [])) t → Steps p.tables e below (s₁.setTop (entryFrame m #[(.ref a1), (.ref a2), (.int (0 : Int32)), (.int (0 : Int32)), .null] 6)) t := fun t k => castTop (ef_34 m a1 a2 (0 : Int32) (0 : Int32)) k
  have P1 : ∀ t, Steps p.tables e below (s₁.setTop (mkF m 1 #[.val (.ref a1), .val (.ref a2), .val (.int (0 : Int32)), .val (.int (0 : Int32)), .val .null, .unset] [(.ref a1)])) t → Steps p.tables e below (s₁.setTop (entryFrame m #[(.ref a1), (.ref a2), (.int (0 : Int32)), (.int (0 : Int32)), .null] 6)) t := by
    intro t k
    refine P0 _ ?_
    refine XS.aloadN X0.here hx rfl (hb hby d34_0) rfl rfl ?_
    show Steps p.tables e below (s₁.setTop (mkF m 1 #[.val (.ref a1), .val (.ref a2), .val (.int (0 : Int32)), .val (.int (0 : Int32)), .val .null, .unset] [(.ref a1)])) _
    exact k
  obtain ⟨T2, X2, e2, st2⟩ := initO X0 hx hZ hown (hw _ (List.mem_of_getElem? (i := 19) rfl)) (hw _ (List.mem_of_getElem? (i := 20) rfl)) (hw _ (List.mem_of_getElem? (i := 21) rfl)) e0 (g := (mkF m 1 #[.val (.ref a1), .val (.ref a2), .val (.int (0 : Int32)), .val (.int (0 : Int32)), .val .null, .unset] [(.ref a1)])) rfl (by rw [hml]; rfl) rfl (hb hby d34_1) (by decide) (W := 0) (by show 2 * 0 + _ ≤ _; exact Nat.le_of_eq rfl) (by decide)
  have P3 : ∀ t, Steps p.tables e below (T2.setTop (mkF m 4 #[.val (.ref a1), .val (.ref a2), .val (.int (0 : Int32)), .val (.int (0 : Int32)), .val .null, .unset] [])) t → Steps p.tables e below (s₁.setTop (entryFrame m #[(.ref a1), (.ref a2), (.int (0 : Int32)), (.int (0 : Int32)), .null] 6)) t := fun t k => P1 _ (st2 _ k)
  have P4 : ∀ t, Steps p.tables e below (T2.setTop (mkF m 9 #[.val (.ref a1), .val (.ref a2), .val (.int (0 : Int32)), .val (.int (0 : Int32)), .val .null, .unset] [(.ref a1)])) t → Steps p.tables e below (s₁.setTop (entryFrame m #[(.ref a1), (.ref a2), (.int (0 : Int32)), (.int (0 : Int32)), .null] 6)) t := by
    intro t k
    refine P3 _ ?_
    refine XS.iloadN X2.here hx rfl (hb hby d34_4) rfl ?_
    show Steps p.tables e below (T2.setTop (mkF m 5 #[.val (.ref a1), .val (.ref a2), .val (.int (0 : Int32)), .val (.int (0 : Int32)), .val .null, .unset] [(.int (0 : Int32))])) _
    refine XS.ifNo X2.here hx rfl (hb hby d34_5) rfl (XT.i0_ne_f rfl) ?_
    show Steps p.tables e below (T2.setTop (mkF m 8 #[.val (.ref a1), .val (.ref a2), .val (.int (0 : Int32)), .val (.int (0 : Int32)), .val .null, .unset] [])) _
    refine XS.aloadN X2.here hx rfl (hb hby d34_8) rfl rfl ?_
    show Steps p.tables e below (T2.setTop (mkF m 9 #[.val (.ref a1), .val (.ref a2), .val (.int (0 : Int32)), .val (.int (0 : Int32)), .val .null, .unset] [(.ref a1)])) _
    exact k
  obtain ⟨aL, T5, h5, kS, bL, kL, X5, e5, E5, hS, hkS, hZ2, hown2, A_L, C_L, V_L, B_L, -, -, hCr, hLit, -, st5⟩ := ldcCH (s := s) (vm0 := s.vm) (own := "java/lang/String") (text := "") (vs := []) (z := (0 : Int32)) (n := 0) X2 hx hZ hown (hw _ (List.mem_of_getElem? (i := 93) rfl)) (own_str hw) e2 (State.WarmedH.since (State.WarmedH.refl s) 0) (Nat.zero_le _) (own_ew hw) (List.mem_of_getElem? (i := 0) rfl) hC ⟨fun c hc => by simp at hc, rfl⟩ (by decide) rfl (g := (mkF m 9 #[.val (.ref a1), .val (.ref a2), .val (.int (0 : Int32)), .val (.int (0 : Int32)), .val .null, .unset] [(.ref a1)])) rfl (hb hby d34_9) (by decide) (by decide) (by decide) (by decide)
  have hZ := hZ2
  have hown := hown2
  have F6 : Exa Z h5 a1 "java/lang/String" := E_a.ext E5
  have F7 : Fld Z h5 a1 "java/lang/String" "value" "[B" .null := F_v.ext E5
  have F8 : Fld Z h5 a1 "java/lang/String" "coder" "B" (.int (0 : Int32)) := F_k.ext E5
  have Z9 : n0 ≤ h5.size := Nat.le_trans Z0 E5.1
  have K10 : Keep h0 h5 [a1] := K0.ext E5
  have X_L : Exa Z h5 bL "[B" := own_exaB (s := s) hZ hown (hw _ (List.mem_of_getElem? (i := 93) rfl)) (List.mem_of_getElem? (i := 0) rfl) hCr.1 hLit V_L
  have W_L : own_Af Z h5 bL kL .byte (0 : Int32) (fun i => Value.int (cf i)) := (own_conv (l := []) B_L).same (fun i hi => absurd hi (Nat.not_lt_zero i))
  have ne_aL : a1 ≠ aL := own_fne F7 V_L (fun q => by cases q)
  have ne_bL : a1 ≠ bL := own_arrne (hw _ (List.mem_of_getElem? (i := 10) rfl)) F6 W_L
  have P11 : ∀ t, Steps p.tables e below (T5.setTop (mkF m 11 #[.val (.ref a1), .val (.ref a2), .val (.int (0 : Int32)), .val (.int (0 : Int32)), .val .null, .unset] [(.ref aL), (.ref a1)])) t → Steps p.tables e below (s₁.setTop (entryFrame m #[(.ref a1), (.ref a2), (.int (0 : Int32)), (.int (0 : Int32)), .null] 6)) t := fun t k => P4 _ (st5 _ k)
  obtain ⟨T12, X12, e12, st12⟩ := getF X5 hx hZ hown (host := "") (Or.inl (hw _ (List.mem_of_getElem? (i := 36) rfl))) Via.refl e5 V_L (g := (mkF m 11 #[.val (.ref a1), .val (.ref a2), .val (.int (0 : Int32)), .val (.int (0 : Int32)), .val .null, .unset] [(.ref aL), (.ref a1)])) rfl rfl (hb hby d34_11)
  have P13 : ∀ t, Steps p.tables e below (T12.setTop (mkF m 14 #[.val (.ref a1), .val (.ref a2), .val (.int (0 : Int32)), .val (.int (0 : Int32)), .val .null, .unset] [(.ref bL), (.ref a1)])) t → Steps p.tables e below (s₁.setTop (entryFrame m #[(.ref a1), (.ref a2), (.int (0 : Int32)), (.int (0 : Int32)), .null] 6)) t := fun t k => P11 _ (st12 _ k)
  obtain ⟨T14, h14, X14, e14, W14, st14⟩ := putF X12 hx hZ hown (host := "") (Or.inl (hw _ (List.mem_of_getElem? (i := 36) rfl))) Via.refl e12 F7 F6 (Or.inr ⟨(hw _ (List.mem_of_getElem? (i := 37) rfl)), rfl, hnm⟩) (hw _ (List.mem_of_getElem? (i := 10) rfl)) (ty := (.array .byte)) (by decide) rfl rfl (g := (mkF m 14 #[.val (.ref a1), .val (.ref a2), .val (.int (0 : Int32)), .val (.int (0 : Int32)), .val .null, .unset] [(.ref bL), (.ref a1)])) rfl rfl (hb hby d34_14)
  have F15 : Exa Z h14 a1 "java/lang/String" := F6.wr W14
  have F16 : Fld Z h14 a1 "java/lang/String" "coder" "B" (.int (0 : Int32)) := F8.other W14 (Or.inr (slot_ne (Or.inr (hw _ (List.mem_of_getElem? (i := 35) rfl))) (Or.inr (hw _ (List.mem_of_getElem? (i := 37) rfl))) (by decide) (t := .byte) (t' := (.array .byte)) (by decide) (by decide)))
  have F17 : Exa Z h14 aL "java/lang/String" := A_L.wr W14
  have F18 : Fld Z h14 aL "java/lang/String" "value" "[B" (.ref bL) := V_L.other W14 (Or.inl (Ne.symm ne_aL))
  have F19 : Fld Z h14 aL "java/lang/String" "coder" "B" (.int (0 : Int32)) := C_L.other W14 (Or.inl (Ne.symm ne_aL))
  have F20 : Exa Z h14 bL "[B" := X_L.wr W14
  have F21 : own_Af Z h14 bL kL .byte (0 : Int32) (fun i => Value.int (cf i)) := W_L.other W14 (Ne.symm ne_bL)
  have F22 : Fld Z h14 a1 "java/lang/String" "value" "[B" (.ref bL) := F7.same W14
  have hk23 : kS ≤ h14.size := Nat.le_trans hkS (Keep.of_wr W14).1
  have Z24 : n0 ≤ h14.size := Nat.le_trans Z9 (Keep.of_wr W14).1
  have K25 : Keep h0 h14 [a1] := K10.wr W14 (Or.inl (List.mem_of_getElem? (i := 0) rfl))
  have N14 := Fr.snoc X14 N0 g_a
  have P26 : ∀ t, Steps p.tables e below (T14.setTop (mkF m 17 #[.val (.ref a1), .val (.ref a2), .val (.int (0 : Int32)), .val (.int (0 : Int32)), .val .null, .unset] [])) t → Steps p.tables e below (s₁.setTop (entryFrame m #[(.ref a1), (.ref a2), (.int (0 : Int32)), (.int (0 : Int32)), .null] 6)) t := fun t k => P13 _ (st14 _ k)
  have P27 : ∀ t, Steps p.tables e below (T14.setTop (mkF m 18 #[.val (.ref a1), .val (.ref a2), .val (.int (0 : Int32)), .val (.int (0 : Int32)), .val .null, .unset] [(.ref a1)])) t → Steps p.tables e below (s₁.setTop (entryFrame m #[(.ref a1), (.ref a2), (.int (0 : Int32)), (.int (0 : Int32)), .null] 6)) t := by
    intro t k
    refine P26 _ ?_
    refine XS.aloadN X14.here hx rfl (hb hby d34_17) rfl rfl ?_
    show Steps p.tables e below (T14.setTop (mkF m 18 #[.val (.ref a1), .val (.ref a2), .val (.int (0 : Int32)), .val (.int (0 : Int32)), .val .null, .unset] [(.ref a1)])) _
    exact k
  have st28 := ldcR (Z := s.setVm T5.vm) (a0 := a0) X14 hx (State.Warmed39.refl (s.setVm T5.vm)) hown (own_ref (mvS (s := s) (args := a0) hZ (hw _ (List.mem_of_getElem? (i := 93) rfl))) hLit) hLit (g := (mkF m 18 #[.val (.ref a1), .val (.ref a2), .val (.int (0 : Int32)), .val (.int (0 : Int32)), .val .null, .unset] [(.ref a1)])) rfl (hb hby d34_18)
  have P29 : ∀ t, Steps p.tables e below (T14.setTop (mkF m 20 #[.val (.ref a1), .val (.ref a2), .val (.int (0 : Int32)), .val (.int (0 : Int32)), .val .null, .unset] [(.ref aL), (.ref a1)])) t → Steps p.tables e below (s₁.setTop (entryFrame m #[(.ref a1), (.ref a2), (.int (0 : Int32)), (.int (0 : Int32)), .null] 6)) t := fun t k => P27 _ (st28 _ k)
  obtain ⟨T30, X30, e30, st30⟩ := getF X14 hx hZ hown (host := "") (Or.inl (hw _ (List.mem_of_getElem? (i := 34) rfl))) Via.refl e14 F19 (g := (mkF m 20 #[.val (.ref a1), .val (.ref a2), .val (.int (0 : Int32)), .val (.int (0 : Int32)), .val .null, .unset] [(.ref aL), (.ref a1)])) rfl rfl (hb hby d34_20)
  have P31 : ∀ t, Steps p.tables e below (T30.setTop (mkF m 23 #[.val (.ref a1), .val (.ref a2), .val (.int (0 : Int32)), .val (.int (0 : Int32)), .val .null, .unset] [(.int (0 : Int32)), (.ref a1)])) t → Steps p.tables e below (s₁.setTop (entryFrame m #[(.ref a1), (.ref a2), (.int (0 : Int32)), (.int (0 : Int32)), .null] 6)) t := fun t k => P29 _ (st30 _ k)
  obtain ⟨T32, h32, X32, e32, W32, st32⟩ := putFN X30 hx hZ hown (hw _ (List.mem_of_getElem? (i := 34) rfl)) Via.refl e30 F16 F15 (Or.inr ⟨(hw _ (List.mem_of_getElem? (i := 35) rfl)), rfl, hnm⟩) (hw _ (List.mem_of_getElem? (i := 10) rfl)) (ty := .byte) (v' := (.int (0 : Int32))) (by decide) rfl rfl (g := (mkF m 23 #[.val (.ref a1), .val (.ref a2), .val (.int (0 : Int32)), .val (.int (0 : Int32)), .val .null, .unset] [(.int (0 : Int32)), (.ref a1)])) rfl rfl (hb hby d34_23)
  have F33 : Exa Z h32 a1 "java/lang/String" := F15.wr W32
  have F34 : Exa Z h32 aL "java/lang/String" := F17.wr W32
  have F35 : Fld Z h32 aL "java/lang/String" "value" "[B" (.ref bL) := F18.other W32 (Or.inl (Ne.symm ne_aL))
  have F36 : Fld Z h32 aL "java/lang/String" "coder" "B" (.int (0 : Int32)) := F19.other W32 (Or.inl (Ne.symm ne_aL))
  have F37 : Exa Z h32 bL "[B" := F20.wr W32
  have F38 : own_Af Z h32 bL kL .byte (0 : Int32) (fun i => Value.int (cf i)) := F21.other W32 (Ne.symm ne_bL)
  have F39 : Fld Z h32 a1 "java/lang/String" "value" "[B" (.ref bL) := F22.other W32 (Or.inr (slot_ne (Or.inr (hw _ (List.mem_of_getElem? (i := 37) rfl))) (Or.inr (hw _ (List.mem_of_getElem? (i := 35) rfl))) (by decide) (t := (.array .byte)) (t' := .byte) (by decide) (by decide)))
  have F40 : Fld Z h32 a1 "java/lang/String" "coder" "B" (.int (0 : Int32)) := F16.same W32
  have hk41 : kS ≤ h32.size := Nat.le_trans hk23 (Keep.of_wr W32).1
  have Z42 : n0 ≤ h32.size := Nat.le_trans Z24 (Keep.of_wr W32).1
  have K43 : Keep h0 h32 [a1] := K25.wr W32 (Or.inl (List.mem_of_getElem? (i := 0) rfl))
  have N32 := Fr.snoc X32 N14 g_a
  have P44 : ∀ t, Steps p.tables e below (T32.setTop (mkF m 26 #[.val (.ref a1), .val (.ref a2), .val (.int (0 : Int32)), .val (.int (0 : Int32)), .val .null, .unset] [])) t → Steps p.tables e below (s₁.setTop (entryFrame m #[(.ref a1), (.ref a2), (.int (0 : Int32)), (.int (0 : Int32)), .null] 6)) t := fun t k => P31 _ (st32 _ k)
  obtain ⟨fs, hr, hrun, hended, hRW⟩ := X32.leaveW hS (by rw [e32]; exact hk41) (v := none) (fun _ => rfl)
  refine ⟨_, _, P44 _ ?_, hrun, hended, _, _, rfl, ?_, hRW.1, hRW.2.1, hRW.2.2.1, hRW.2.2.2.mono (by decide) (by decide)⟩
  · exact X32.returnOut hx Bd.returns (hb hby d34_26) hr
  · show Q34 Z a1 a2 cf h0 n0 _ T32.heap _
    rw [e32]
    exact ⟨bL, kL, rfl, N32, K43, F33, F39, F40, F38, F37⟩
theorem d35_0 : decode jdk_42_method_3_code 0 = .ok (.aload_n 0, 1) := by decide +kernel
theorem d35_1 : decode jdk_42_method_3_code 1 = .ok (.aload_n 1, 1) := by decide +kernel
theorem d35_2 : decode jdk_42_method_3_code 2 = .ok (.iconst 0, 1) := by decide +kernel
theorem d35_3 : decode jdk_42_method_3_code 3 = .ok (.aload_n 1, 1) := by decide +kernel
theorem d35_4 : decode jdk_42_method_3_code 4 = .ok (.arraylength, 1) := by decide +kernel
theorem d35_5 : decode jdk_42_method_3_code 5 = .ok (.aconst_null, 1) := by decide +kernel
theorem d35_6 : decode jdk_42_method_3_code 6 = .ok (.invokespecial 27, 3) := by decide +kernel
theorem d35_9 : decode jdk_42_method_3_code 9 = .ok (.return_, 1) := by decide +kernel
theorem pn_35 : plainName "java/lang/String" = true := by first | (simp [plainName, overriddenIn]; done) | decide +kernel
theorem ef_35 (m : MethodId) (x0 : Addr) (x1 : Addr) : entryFrame m #[(.ref x0), (.ref x1)] 2 = mkF m 0 #[.val (.ref x0), .val (.ref x1)] [] := by first | (simp [entryFrame, mkF, argsToLocals, Value.category]; done) | rfl
def Q35 (Z : State) (a1 : Addr) (a2 : Addr) (cf : Nat → Int32) (kc : ClassId) (f2 : Nat → Value) (h0 : Heap) (n0 : Nat) (v : Option Value) (h : Heap) (L : List Loc) : Prop := ∃ (b : Addr) (kb : ClassId), v = none ∧ Fr n0 L ∧ Keep h0 h [a1] ∧ Exa Z h a1 "java/lang/String" ∧ Fld Z h a1 "java/lang/String" "value" "[B" (.ref b) ∧ Fld Z h a1 "java/lang/String" "coder" "B" (.int (0 : Int32)) ∧ own_Af Z h b kb .byte (0 : Int32) (fun i => Value.int (cf i)) ∧ Exa Z h b "[B"
set_option maxRecDepth 65536 in
set_option maxHeartbeats 40000000 in
theorem rm35 (l : Launch) (Z : State) (a0 : Array Value) (hw : ∀ d ∈ tables_1, d.before a0 Z = true) (ws : List Jvm.Cond) (a1 : Addr) (a2 : Addr) (cf : Nat → Int32) (kc : ClassId) (f2 : Nat → Value) (h0 : Heap) (n0 : Nat) (Z0 : n0 ≤ h0.size) (E_a : Exa Z h0 a1 "java/lang/String") (F_v : Fld Z h0 a1 "java/lang/String" "value" "[B" .null) (F_k : Fld Z h0 a1 "java/lang/String" "coder" "B" (.int (0 : Int32))) (g_a : n0 ≤ a1) (A_c : own_Af Z h0 a2 kc .char (0 : Int32) f2) :
    MetFree l (⟨"java/lang/String", "<init>", "([C)V"⟩ : MethodName) (head1 (Jvm.Cond.code (⟨"java/lang/String", "<init>", "([C)V"⟩ : MethodName) jdk_42_method_3_code 2 none :: ws) ({ frames := 2, cells := 2, slots := 4, locals := 29 } : Room)) (fun a U => a = #[(.ref a1), (.ref a2)] ∧ Z.Warmed39 U.vm ∧ U.heap = h0 ∧ CHv Z consts_1 U.vm h0) (fun _ _ _ _ _ => True) (fun _ U o U' => ∃ v L, o = .returned v ∧ Q35 Z a1 a2 cf kc f2 h0 n0 v U'.heap L ∧ ReturnedEndW U o U' L ({ frames := 2, cells := 2, slots := 4, locals := 29 } : Room).cells ({ frames := 2, cells := 2, slots := 4, locals := 29 } : Room).slots) := by
  refine MetFree.of_bodySF (plainFor_of_name pn_35) hisR ?_
  intro p e s m args below meth c s₁ Bd hml0 hP hK
  obtain ⟨rfl, hZ, hh, hC⟩ := hP
  have hx := Bd.exec
  have hby := Bd.bytes
  have hml : c.maxLocals = 2 := hml0
  have hown : s.vm.findClass "java/lang/String" = some m.cls := findClass_of_methodNamed Bd.named
  have hnm := (name_of_methodNamed Bd.named Bd.method).1
  have X0 : Stand p l e ({ frames := 2, cells := 2, slots := 4, locals := 29 } : Room) s m #[(.ref a1), (.ref a2)] below meth c s₁ [] 0 0 := Stand.of_body Bd
  have e0 : s₁.heap = h0 := by rw [← hh, Bd.state]; rfl
  have N0 := Fr.nil n0
  have K0 : Keep h0 h0 [a1] := Keep.refl _ _
  have P0 : ∀ t, Steps p.tables e below (s₁.setTop (mkF m 0 #[.val (.ref a1), .val (.ref a2)] [])) t → Steps p.tables e below (s₁.setTop (entryFrame m #[(.ref a1), (.ref a2)] 2)) t := fun t k => castTop (ef_35 m a1 a2) k
  have P1 : ∀ t, Steps p.tables e below (s₁.setTop (mkF m 6 #[.val (.ref a1), .val (.ref a2)] [.null, (.int (0 : Int32)), (.int (0 : Int32)), (.ref a2), (.ref a1)])) t → Steps p.tables e below (s₁.setTop (entryFrame m #[(.ref a1), (.ref a2)] 2)) t := by
    intro t k
    refine P0 _ ?_
    refine XS.aloadN X0.here hx rfl (hb hby d35_0) rfl rfl ?_
    show Steps p.tables e below (s₁.setTop (mkF m 1 #[.val (.ref a1), .val (.ref a2)] [(.ref a1)])) _
    refine XS.aloadN X0.here hx rfl (hb hby d35_1) rfl rfl ?_
    show Steps p.tables e below (s₁.setTop (mkF m 2 #[.val (.ref a1), .val (.ref a2)] [(.ref a2), (.ref a1)])) _
    refine XS.iconst X0.here hx rfl (hb hby d35_2) ?_
    show Steps p.tables e below (s₁.setTop (mkF m 3 #[.val (.ref a1), .val (.ref a2)] [(.int (0 : Int32)), (.ref a2), (.ref a1)])) _
    refine XS.aloadN X0.here hx rfl (hb hby d35_3) rfl rfl ?_
    show Steps p.tables e below (s₁.setTop (mkF m 4 #[.val (.ref a1), .val (.ref a2)] [(.ref a2), (.int (0 : Int32)), (.ref a2), (.ref a1)])) _
    refine own_flen X0 hx hZ e0 A_c rfl rfl (hb hby d35_4) ?_
    show Steps p.tables e below (s₁.setTop (mkF m 5 #[.val (.ref a1), .val (.ref a2)] [(.int (0 : Int32)), (.int (0 : Int32)), (.ref a2), (.ref a1)])) _
    refine XS.aconstNull X0.here hx rfl (hb hby d35_5) ?_
    show Steps p.tables e below (s₁.setTop (mkF m 6 #[.val (.ref a1), .val (.ref a2)] [.null, (.int (0 : Int32)), (.int (0 : Int32)), (.ref a2), (.ref a1)])) _
    exact k
  obtain ⟨_, _, ⟨T2, L2, k2, n2⟩, -, X2, hS, hgr, ⟨Lc2, hQ2, l2, y2, z2⟩, st2⟩ := X0.specialBackS hx (y := (⟨"java/lang/String", "<init>", "([CIILjava/lang/Void;)V"⟩ : MethodName)) rfl hown (mvT hZ (hw _ (List.mem_of_getElem? (i := 15) rfl))) (mvT hZ (hw _ (List.mem_of_getElem? (i := 16) rfl))) (mvT hZ (hw _ (List.mem_of_getElem? (i := 18) rfl))) (by decide) (own_backC (W := 0) (rm34 l Z a0 hw [] a1 a2 cf h0 n0 Z0 E_a F_v F_k g_a) hZ (hw _ (List.mem_of_getElem? (i := 18) rfl)) (hw _ (List.mem_of_getElem? (i := 11) rfl)) (by decide) (by decide) (own_ew hw) hC) (g := (mkF m 6 #[.val (.ref a1), .val (.ref a2)] [.null, (.int (0 : Int32)), (.int (0 : Int32)), (.ref a2), (.ref a1)])) rfl (by rw [hml]; rfl) (Steps.refl _) (a := a1) (argsL := [(.ref a2), (.int (0 : Int32)), (.int (0 : Int32)), .null]) (rest := []) (lenOf pd_3 rfl) rfl (by show 2 * 0 + _ ≤ _; exact Nat.le_of_eq rfl) (hb hby d35_6) (fun _ _ => ⟨rfl, e0, (by decide : 0 + 2 ≤ _), (by decide : 0 + 4 ≤ _)⟩)
  dsimp only [Pt.U, Pt.locs, Pt.cells, Pt.slots] at X2 l2 y2 z2 st2 hQ2 hS hgr
  subst l2 y2 z2
  have hZ : Z.Warmed39 (s.setVm T2.vm).vm := State.Warmed39.trans (t := s) hZ hS.1
  have hown : (s.setVm T2.vm).vm.findClass "java/lang/String" = some m.cls := by rw [show (s.setVm T2.vm).vm = T2.vm from rfl, hS.1.alike.findClass]; exact hown
  obtain ⟨b_2, kb_2, rfl, N2q, K2, Y2_0, Y2_1, Y2_2, Y2_3, Y2_4⟩ := hQ2
  have F3 : Exa Z T2.heap a1 "java/lang/String" := E_a.keep K2
  have Z4 : n0 ≤ T2.heap.size := Nat.le_trans Z0 K2.1
  have K5 : Keep h0 T2.heap [a1] := K0.trans K2 (allS (Or.inl (List.mem_of_getElem? (i := 0) rfl)) all0)
  have N2 := Fr.app N0 N2q
  have P6 : ∀ t, Steps p.tables e below (T2.setTop (mkF m 9 #[.val (.ref a1), .val (.ref a2)] [])) t → Steps p.tables e below (s₁.setTop (entryFrame m #[(.ref a1), (.ref a2)] 2)) t := fun t k => P1 _ (st2.trans k)
  have hk7 : T2.heap.size ≤ T2.heap.size := Nat.le_refl _
  obtain ⟨fs, hr, hrun, hended, hRW⟩ := X2.leaveW hS hk7 (v := none) (fun _ => rfl)
  refine ⟨_, _, P6 _ ?_, hrun, hended, _, _, rfl, ?_, hRW.1, hRW.2.1, hRW.2.2.1, hRW.2.2.2.mono (by decide) (by decide)⟩
  · exact X2.returnOut hx Bd.returns (hb hby d35_9) hr
  · show Q35 Z a1 a2 cf kc f2 h0 n0 _ T2.heap _
    exact ⟨b_2, kb_2, rfl, N2, K5, Y2_0, Y2_1, Y2_2, Y2_3, Y2_4⟩
theorem d36_0 : decode method_2_code 0 = .ok (.iload_n 0, 1) := by decide +kernel
theorem d36_1 : decode method_2_code 1 = .ok (.ifCond .ne 9, 3) := by decide +kernel
theorem d36_4 : decode method_2_code 4 = .ok (.iconst 0, 1) := by decide +kernel
theorem d36_5 : decode method_2_code 5 = .ok (.newarray .char, 2) := by decide +kernel
theorem d36_7 : decode method_2_code 7 = .ok (.goto 80, 3) := by decide +kernel
theorem d36_87 : decode method_2_code 87 = .ok (.astore 5, 2) := by decide +kernel
theorem d36_89 : decode method_2_code 89 = .ok (.new 7, 3) := by decide +kernel
theorem d36_92 : decode method_2_code 92 = .ok (.dup, 1) := by decide +kernel
theorem d36_93 : decode method_2_code 93 = .ok (.aload 5, 2) := by decide +kernel
theorem d36_95 : decode method_2_code 95 = .ok (.invokespecial 9, 3) := by decide +kernel
theorem d36_98 : decode method_2_code 98 = .ok (.areturn, 1) := by decide +kernel
theorem pn_36 : plainName "com/example/basewright/basewright/AlphabetPairsPinLaw" = true := by first | (simp [plainName, overriddenIn]; done) | decide +kernel
theorem ef_36 (m : MethodId) (x0 : Int32) (x1 : Int32) (x2 : Int32) (x3 : Int32) (x4 : Int32) : entryFrame m #[(.int x0), (.int x1), (.int x2), (.int x3), (.int x4)] 6 = mkF m 0 #[.val (.int x0), .val (.int x1), .val (.int x2), .val (.int x3), .val (.int x4), .unset] [] := by first | (simp [entryFrame, mkF, argsToLocals, Value.category]; done) | rfl
def Q36 (Z : State) (p1 : Int32) (p2 : Int32) (p3 : Int32) (p4 : Int32) (p5 : Int32) (h0 : Heap) (n0 : Nat) (v : Option Value) (h : Heap) (L : List Loc) : Prop := ∃ (b : Addr) (bv : Addr) (kb : ClassId), v = some (.ref b) ∧ Fr n0 L ∧ Keep h0 h [] ∧ h0.size ≤ b ∧ Exa Z h b "java/lang/String" ∧ Fld Z h b "java/lang/String" "value" "[B" (.ref bv) ∧ Fld Z h b "java/lang/String" "coder" "B" (.int (0 : Int32)) ∧ own_Af Z h bv kb .byte p1 (fun i => Value.int ((own_l4 p2 p3 p4 p5) i)) ∧ Exa Z h bv "[B"
set_option maxRecDepth 65536 in
set_option maxHeartbeats 40000000 in
theorem rm36 (l : Launch) (Z : State) (a0 : Array Value) (hw : ∀ d ∈ tables_1, d.before a0 Z = true) (ws : List Jvm.Cond) (p1 : Int32) (p2 : Int32) (p3 : Int32) (p4 : Int32) (p5 : Int32) (h0 : Heap) (n0 : Nat) (Z0 : n0 ≤ h0.size) (O0 : Old Z n0 h0) (hz : p1 = (0 : Int32)) :
    MetFree l (⟨"com/example/basewright/basewright/AlphabetPairsPinLaw", "text", "(ICCCC)Ljava/lang/String;"⟩ : MethodName) (head1 (Jvm.Cond.code (⟨"com/example/basewright/basewright/AlphabetPairsPinLaw", "text", "(ICCCC)Ljava/lang/String;"⟩ : MethodName) method_2_code 6 (some (.object "java/lang/String")) :: ws) ({ frames := 3, cells := 4, slots := 8, locals := 43 } : Room)) (fun a U => a = #[(.int p1), (.int p2), (.int p3), (.int p4), (.int p5)] ∧ Z.Warmed39 U.vm ∧ U.heap = h0 ∧ CHv Z consts_1 U.vm h0) (fun _ _ _ _ _ => True) (fun _ U o U' => ∃ v L, o = .returned v ∧ Q36 Z p1 p2 p3 p4 p5 h0 n0 v U'.heap L ∧ ReturnedEndW U o U' L ({ frames := 3, cells := 4, slots := 8, locals := 43 } : Room).cells ({ frames := 3, cells := 4, slots := 8, locals := 43 } : Room).slots) := by
  refine MetFree.of_bodySF (plainFor_of_name pn_36) hisR ?_
  intro p e s m args below meth c s₁ Bd hml0 hP hK
  obtain ⟨rfl, hZ, hh, hC⟩ := hP
  have hx := Bd.exec
  have hby := Bd.bytes
  have hml : c.maxLocals = 6 := hml0
  have hown : s.vm.findClass "com/example/basewright/basewright/AlphabetPairsPinLaw" = some m.cls := findClass_of_methodNamed Bd.named
  have hnm := (name_of_methodNamed Bd.named Bd.method).1
  have X0 : Stand p l e ({ frames := 3, cells := 4, slots := 8, locals := 43 } : Room) s m #[(.int p1), (.int p2), (.int p3), (.int p4), (.int p5)] below meth c s₁ [] 0 0 := Stand.of_body Bd
  have e0 : s₁.heap = h0 := by rw [← hh, Bd.state]; rfl
  have N0 := Fr.nil n0
  have K0 : Keep h0 h0 [] := Keep.refl _ _
  have P0 : ∀ t, Steps p.tables e below (s₁.setTop (mkF m 0 #[.val (.int p1), .val (.int p2), .val (.int p3), .val (.int p4), .val (.int p5), .unset] [])) t → Steps p.tables e below (s₁.setTop (entryFrame m #[(.int p1), (.int p2), (.int p3), (.int p4), (.int p5)] 6)) t := fun t k => castTop (ef_36 m p1 p2 p3 p4 p5) k
  have P1 : ∀ t, Steps p.tables e below (s₁.setTop (mkF m 5 #[.val (.int p1), .val (.int p2), .val (.int p3), .val (.int p4), .val (.int p5), .unset] [(.int (0 : Int32))])) t → Steps p.tables e below (s₁.setTop (entryFrame m #[(.int p1), (.int p2), (.int p3), (.int p4), (.int p5)] 6)) t := by
    intro t k
    refine P0 _ ?_
    refine XS.iloadN X0.here hx rfl (hb hby d36_0) rfl ?_
    show Steps p.tables e below (s₁.setTop (mkF m 1 #[.val (.int p1), .val (.int p2), .val (.int p3), .val (.int p4), .val (.int p5), .unset] [(.int p1)])) _
    refine XS.ifNo X0.here hx rfl (hb hby d36_1) rfl (XT.i0_ne_f hz) ?_
    show Steps p.tables e below (s₁.setTop (mkF m 4 #[.val (.int p1), .val (.int p2), .val (.int p3), .val (.int p4), .val (.int p5), .unset] [])) _
    refine XS.iconst X0.here hx rfl (hb hby d36_4) ?_
    show Steps p.tables e below (s₁.setTop (mkF m 5 #[.val (.int p1), .val (.int p2), .val (.int p3), .val (.int p4), .val (.int p5), .unset] [(.int (0 : Int32))])) _
    exact k
  obtain ⟨T2, h2, k2, X2, e2, E2, A2, st2⟩ := newP X0 hx hZ (hw _ (List.mem_of_getElem? (i := 8) rfl)) e0 (g := (mkF m 5 #[.val (.int p1), .val (.int p2), .val (.int p3), .val (.int p4), .val (.int p5), .unset] [(.int (0 : Int32))])) rfl (hb hby d36_5) rfl (by decide) (cap := 0) (by decide) (by decide) (by decide) (by decide)
  obtain ⟨b2, g2⟩ : ∃ z, z = h0.size := ⟨_, rfl⟩
  rw [← g2] at A2 st2
  have F3 : Old Z n0 h2 := O0.ext E2
  obtain ⟨kc_b2, hkc_b2⟩ : ∃ z, z = k2 := ⟨_, rfl⟩
  rw [← hkc_b2] at A2
  have F4 : Arv Z h2 b2 kc_b2 .char (0 : Int32) [] (.int (0 : Int32)) := (Arv.new A2 (by decide)).pad (pad_rep [] (.int (0 : Int32)) 0)
  have Z5 : n0 ≤ h2.size := Nat.le_trans Z0 E2.1
  have K6 : Keep h0 h2 [] := K0.ext E2
  have g_b2 : n0 ≤ b2 := Nat.le_trans Z0 (Nat.le_of_eq g2.symm)
  have sz_b2 : h0.size ≤ b2 := Nat.le_trans K0.1 (Nat.le_of_eq g2.symm)
  have P7 : ∀ t, Steps p.tables e below (T2.setTop (mkF m 7 #[.val (.int p1), .val (.int p2), .val (.int p3), .val (.int p4), .val (.int p5), .unset] [(.ref b2)])) t → Steps p.tables e below (s₁.setTop (entryFrame m #[(.int p1), (.int p2), (.int p3), (.int p4), (.int p5)] 6)) t := fun t k => P1 _ (st2 _ k)
  have P8 : ∀ t, Steps p.tables e below (T2.setTop (mkF m 89 #[.val (.int p1), .val (.int p2), .val (.int p3), .val (.int p4), .val (.int p5), .val (.ref b2)] [])) t → Steps p.tables e below (s₁.setTop (entryFrame m #[(.int p1), (.int p2), (.int p3), (.int p4), (.int p5)] 6)) t := by
    intro t k
    refine P7 _ ?_
    refine XS.goto X2.here hx rfl (pc0 := 7) (pc' := 87) rfl (hb hby d36_7) (by decide) (by decide) ?_
    show Steps p.tables e below (T2.setTop (mkF m 87 #[.val (.int p1), .val (.int p2), .val (.int p3), .val (.int p4), .val (.int p5), .unset] [(.ref b2)])) _
    refine XS.astore X2.here hx rfl (hb hby d36_87) rfl rfl (l' := #[.val (.int p1), .val (.int p2), .val (.int p3), .val (.int p4), .val (.int p5), .val (.ref b2)]) rfl ?_
    show Steps p.tables e below (T2.setTop (mkF m 89 #[.val (.int p1), .val (.int p2), .val (.int p3), .val (.int p4), .val (.int p5), .val (.ref b2)] [])) _
    exact k
  obtain ⟨T9, h9, X9, e9, E9, A9, D9, -, st9⟩ := newO X2 hx hZ hown (hw _ (List.mem_of_getElem? (i := 9) rfl)) (hw _ (List.mem_of_getElem? (i := 10) rfl)) (hw _ (List.mem_of_getElem? (i := 11) rfl)) e2 (g := (mkF m 89 #[.val (.int p1), .val (.int p2), .val (.int p3), .val (.int p4), .val (.int p5), .val (.ref b2)] [])) rfl (hb hby d36_89) (by decide) (by decide)
  obtain ⟨b9, g9⟩ : ∃ z, z = h2.size := ⟨_, rfl⟩
  rw [← g9] at A9 D9 st9
  have F10 : Old Z n0 h9 := F3.ext E9
  have F11 : Arv Z h9 b2 kc_b2 .char (0 : Int32) [] (.int (0 : Int32)) := F4.ext E9
  have F12 : Fld Z h9 b9 "java/lang/String" "coder" "B" (.int (0 : Int32)) := D9 (Or.inr (hw _ (List.mem_of_getElem? (i := 35) rfl))) (ty := .byte) (by decide)
  have F13 : Fld Z h9 b9 "java/lang/String" "value" "[B" .null := D9 (Or.inr (hw _ (List.mem_of_getElem? (i := 37) rfl))) (ty := (.array .byte)) (by decide)
  have Z14 : n0 ≤ h9.size := Nat.le_trans Z5 E9.1
  have K15 : Keep h0 h9 [] := K6.ext E9
  have g_b9 : n0 ≤ b9 := Nat.le_trans Z5 (Nat.le_of_eq g9.symm)
  have sz_b9 : h0.size ≤ b9 := Nat.le_trans K6.1 (Nat.le_of_eq g9.symm)
  have ne_b2_b9 : b2 ≠ b9 := Nat.ne_of_lt (Nat.lt_of_lt_of_le F4.lt (Nat.le_of_eq g9.symm))
  have P16 : ∀ t, Steps p.tables e below (T9.setTop (mkF m 92 #[.val (.int p1), .val (.int p2), .val (.int p3), .val (.int p4), .val (.int p5), .val (.ref b2)] [(.ref b9)])) t → Steps p.tables e below (s₁.setTop (entryFrame m #[(.int p1), (.int p2), (.int p3), (.int p4), (.int p5)] 6)) t := fun t k => P8 _ (st9 _ k)
  have P17 : ∀ t, Steps p.tables e below (T9.setTop (mkF m 95 #[.val (.int p1), .val (.int p2), .val (.int p3), .val (.int p4), .val (.int p5), .val (.ref b2)] [(.ref b2), (.ref b9), (.ref b9)])) t → Steps p.tables e below (s₁.setTop (entryFrame m #[(.int p1), (.int p2), (.int p3), (.int p4), (.int p5)] 6)) t := by
    intro t k
    refine P16 _ ?_
    refine XS.dup X9.here hx rfl (hb hby d36_92) rfl rfl ?_
    show Steps p.tables e below (T9.setTop (mkF m 93 #[.val (.int p1), .val (.int p2), .val (.int p3), .val (.int p4), .val (.int p5), .val (.ref b2)] [(.ref b9), (.ref b9)])) _
    refine XS.aload X9.here hx rfl (hb hby d36_93) rfl rfl ?_
    show Steps p.tables e below (T9.setTop (mkF m 95 #[.val (.int p1), .val (.int p2), .val (.int p3), .val (.int p4), .val (.int p5), .val (.ref b2)] [(.ref b2), (.ref b9), (.ref b9)])) _
    exact k
  have V18 : own_Af Z h9 b2 kc_b2 .char (0 : Int32) (fun i => Value.int ((own_l4 p2 p3 p4 p5) i)) := (own_conv (l := []) F11).same (fun i hi => absurd hi (Nat.not_lt_zero i))
  obtain ⟨_, _, ⟨T19, L19, k19, n19⟩, -, X19, hS, hgr, ⟨Lc19, hQ19, l19, y19, z19⟩, st19⟩ := X9.specialBackS hx (y := (⟨"java/lang/String", "<init>", "([C)V"⟩ : MethodName)) rfl hown (mvT hZ (hw _ (List.mem_of_getElem? (i := 12) rfl))) (mvT hZ (hw _ (List.mem_of_getElem? (i := 13) rfl))) (mvT hZ (hw _ (List.mem_of_getElem? (i := 14) rfl))) (by decide) (own_backC (W := 1) (rm35 l Z a0 hw [] b9 b2 (own_l4 p2 p3 p4 p5) kc_b2 (fun i => Value.int ((own_l4 p2 p3 p4 p5) i)) h9 n0 Z14 A9 F13 F12 g_b9 V18) hZ (hw _ (List.mem_of_getElem? (i := 14) rfl)) (hw _ (List.mem_of_getElem? (i := 11) rfl)) (by decide) (by decide) (own_ew hw) (own_chk hC K15)) (g := (mkF m 95 #[.val (.int p1), .val (.int p2), .val (.int p3), .val (.int p4), .val (.int p5), .val (.ref b2)] [(.ref b2), (.ref b9), (.ref b9)])) rfl (by rw [hml]; rfl) (Steps.refl _) (a := b9) (argsL := [(.ref b2)]) (rest := [(.ref b9)]) (lenOf pd_10 rfl) rfl (by show 2 * 0 + _ ≤ _; exact Nat.le_of_eq rfl) (hb hby d36_95) (fun _ _ => ⟨rfl, e9, (by decide : 2 + 2 ≤ _), (by decide : 4 + 4 ≤ _)⟩)
  dsimp only [Pt.U, Pt.locs, Pt.cells, Pt.slots] at X19 l19 y19 z19 st19 hQ19 hS hgr
  subst l19 y19 z19
  have hZ : Z.Warmed39 (s.setVm T19.vm).vm := State.Warmed39.trans (t := s) hZ hS.1
  have hown : (s.setVm T19.vm).vm.findClass "com/example/basewright/basewright/AlphabetPairsPinLaw" = some m.cls := by rw [show (s.setVm T19.vm).vm = T19.vm from rfl, hS.1.alike.findClass]; exact hown
  obtain ⟨b_19, kb_19, rfl, N19q, K19, Y19_0, Y19_1, Y19_2, Y19_3, Y19_4⟩ := hQ19
  have F20 : Old Z n0 T19.heap := F10.keep K19 (allS g_b9 all0)
  have F21 : own_Af Z T19.heap b2 kc_b2 .char (0 : Int32) (fun i => Value.int ((own_l4 p2 p3 p4 p5) i)) := V18.keep K19 (ninS ne_b2_b9 nin0)
  have F22 : Exa Z T19.heap b9 "java/lang/String" := A9.keep K19
  have Z23 : n0 ≤ T19.heap.size := Nat.le_trans Z14 K19.1
  have K24 : Keep h0 T19.heap [] := K15.trans K19 (allS (Or.inr sz_b9) all0)
  have N19 := Fr.app N0 N19q
  have P25 : ∀ t, Steps p.tables e below (T19.setTop (mkF m 98 #[.val (.int p1), .val (.int p2), .val (.int p3), .val (.int p4), .val (.int p5), .val (.ref b2)] [(.ref b9)])) t → Steps p.tables e below (s₁.setTop (entryFrame m #[(.int p1), (.int p2), (.int p3), (.int p4), (.int p5)] 6)) t := fun t k => P17 _ (st19.trans k)
  have hk26 : T19.heap.size ≤ T19.heap.size := Nat.le_refl _
  have V27 : own_Af Z T19.heap b_19 kb_19 .byte p1 (fun i => Value.int ((own_l4 p2 p3 p4 p5) i)) := by rw [hz]; exact Y19_3
  obtain ⟨fs, hr, hrun, hended, hRW⟩ := X19.leaveW hS hk26 (v := some (.ref b9)) (fun h => by rw [Bd.returns] at h; cases h)
  refine ⟨_, _, P25 _ ?_, hrun, hended, _, _, rfl, ?_, hRW.1, hRW.2.1, hRW.2.2.1, hRW.2.2.2.mono (by decide) (by decide)⟩
  · jvm_step X19.here [X19.here.top, hx, (hb hby d36_98), X19.method', Bd.returns, Value.isRef, FieldType.isReference]
    first | (intro acts; rw [hr _ acts rfl rfl rfl]) | rw [hr _ _ rfl rfl rfl]
    exact Steps.refl _
  · show Q36 Z p1 p2 p3 p4 p5 h0 n0 _ T19.heap _
    exact ⟨b9, b_19, kb_19, rfl, N19, K24, sz_b9, Y19_0, Y19_1, Y19_2, V27, Y19_4⟩
theorem pn_0 : plainName "com/example/basewright/basewright/AlphabetPairsPinLaw" = true := by first | (simp [plainName, overriddenIn]; done) | decide +kernel
theorem ef_0 (m : MethodId) (x0 : Int32) (x1 : Int32) (x2 : Int32) (x3 : Int32) : entryFrame m #[(.int x0), (.int x1), (.int x2), (.int x3)] maxLocals = mkF m 0 #[.val (.int x0), .val (.int x1), .val (.int x2), .val (.int x3), .unset, .unset, .unset, .unset, .unset, .unset, .unset, .unset, .unset, .unset, .unset, .unset, .unset, .unset, .unset, .unset] [] := by first | (simp [entryFrame, mkF, argsToLocals, Value.category, maxLocals]; done) | rfl
def Q0 (Z : State) (p1 : Int32) (p2 : Int32) (p3 : Int32) (p4 : Int32) (ccs : Int32) (wA : Addr) (wU : Addr) (wI : Addr) (h0 : Heap) (n0 : Nat) (v : Option Value) (h : Heap) (L : List Loc) : Prop := v = some (.int 1) ∧ Fr n0 L
set_option maxRecDepth 65536 in
set_option maxHeartbeats 40000000 in
theorem rm0 (l : Launch) (Z : State) (a0 : Array Value) (hw : ∀ d ∈ tables_1, d.before a0 Z = true) (ws : List Jvm.Cond) (p1 : Int32) (p2 : Int32) (p3 : Int32) (p4 : Int32) (ccs : Int32) (wA : Addr) (wU : Addr) (wI : Addr) (h0 : Heap) (n0 : Nat) (Z0 : n0 ≤ h0.size) (O0 : Old Z n0 h0) (S_H : Sta Z Z.heap "java/nio/charset/StandardCharsets" "US_ASCII" "Ljava/nio/charset/Charset;" (.ref wA)) (S_wU : Sta Z Z.heap "sun/nio/cs/UTF_8" "INSTANCE" "Lsun/nio/cs/UTF_8;" (.ref wU)) (S_wI : Sta Z Z.heap "sun/nio/cs/ISO_8859_1" "INSTANCE" "Lsun/nio/cs/ISO_8859_1;" (.ref wI)) (S_wA : Sta Z Z.heap "sun/nio/cs/US_ASCII" "INSTANCE" "Lsun/nio/cs/US_ASCII;" (.ref wA)) (neU : ¬ wA = wU) (neI : ¬ wA = wI) (S_cs : Sta Z Z.heap "java/lang/String" "COMPACT_STRINGS" "Z" (.int ccs)) (hcc : ¬ ccs = (0 : Int32)) (hone : ¬ ((p2 &&& (2147483647 : Int32)) % (5 : Int32)) = (0 : Int32)) :
    MetFree l x (head1 (Jvm.Cond.code x code maxLocals ret :: ws) room_1) (fun a U => a = #[(.int p1), (.int p2), (.int p3), (.int p4)] ∧ Z.Warmed39 U.vm ∧ U.heap = h0) (fun _ _ _ _ _ => True) (fun _ U o U' => ∃ v L, o = .returned v ∧ Q0 Z p1 p2 p3 p4 ccs wA wU wI h0 n0 v U'.heap L ∧ FrameEnd U o U' L room_1.cells room_1.slots) := by
  refine MetFree.of_bodySF (plainFor_of_name pn_0) hisR ?_
  intro p e s m args below meth c s₁ Bd hml0 hP hK
  obtain ⟨rfl, hZ, hh⟩ := hP
  have hx := Bd.exec
  have hby := Bd.bytes
  have hml : c.maxLocals = 20 := hml0
  have hown : s.vm.findClass "com/example/basewright/basewright/AlphabetPairsPinLaw" = some m.cls := findClass_of_methodNamed Bd.named
  have hnm := (name_of_methodNamed Bd.named Bd.method).1
  have X0 : Stand p l e room_1 s m #[(.int p1), (.int p2), (.int p3), (.int p4)] below meth c s₁ [] 0 0 := Stand.of_body Bd
  have e0 : s₁.heap = h0 := by rw [← hh, Bd.state]; rfl
  have N0 := Fr.nil n0
  have K0 : Keep h0 h0 [] := Keep.refl _ _
  have P0 : ∀ t, Steps p.tables e below (s₁.setTop (mkF m 0 #[.val (.int p1), .val (.int p2), .val (.int p3), .val (.int p4), .unset, .unset, .unset, .unset, .unset, .unset, .unset, .unset, .unset, .unset, .unset, .unset, .unset, .unset, .unset, .unset] [])) t → Steps p.tables e below (s₁.setTop (entryFrame m #[(.int p1), (.int p2), (.int p3), (.int p4)] maxLocals)) t := fun t k => castTop (ef_0 m p1 p2 p3 p4) k
  have P1 : ∀ t, Steps p.tables e below (s₁.setTop (mkF m 7 #[.val (.int p1), .val (.int p2), .val (.int p3), .val (.int p4), .val (.int ((p1 &&& (127 : Int32)).toUInt32.toUInt16.toUInt32.toInt32)), .unset, .unset, .unset, .unset, .unset, .unset, .unset, .unset, .unset, .unset, .unset, .unset, .unset, .unset, .unset] [])) t → Steps p.tables e below (s₁.setTop (entryFrame m #[(.int p1), (.int p2), (.int p3), (.int p4)] maxLocals)) t := by
    intro t k
    refine P0 _ ?_
    refine XS.iloadN X0.here hx rfl (hb hby at_0) rfl ?_
    show Steps p.tables e below (s₁.setTop (mkF m 1 #[.val (.int p1), .val (.int p2), .val (.int p3), .val (.int p4), .unset, .unset, .unset, .unset, .unset, .unset, .unset, .unset, .unset, .unset, .unset, .unset, .unset, .unset, .unset, .unset] [(.int p1)])) _
    refine XS.bipush X0.here hx rfl (hb hby at_1) ?_
    show Steps p.tables e below (s₁.setTop (mkF m 3 #[.val (.int p1), .val (.int p2), .val (.int p3), .val (.int p4), .unset, .unset, .unset, .unset, .unset, .unset, .unset, .unset, .unset, .unset, .unset, .unset, .unset, .unset, .unset, .unset] [(.int (127 : Int32)), (.int p1)])) _
    refine XS.iand X0.here hx rfl (hb hby at_3) rfl ?_
    show Steps p.tables e below (s₁.setTop (mkF m 4 #[.val (.int p1), .val (.int p2), .val (.int p3), .val (.int p4), .unset, .unset, .unset, .unset, .unset, .unset, .unset, .unset, .unset, .unset, .unset, .unset, .unset, .unset, .unset, .unset] [(.int (p1 &&& (127 : Int32)))])) _
    refine XT.i2c X0.here hx rfl (hb hby at_4) rfl ?_
    show Steps p.tables e below (s₁.setTop (mkF m 5 #[.val (.int p1), .val (.int p2), .val (.int p3), .val (.int p4), .unset, .unset, .unset, .unset, .unset, .unset, .unset, .unset, .unset, .unset, .unset, .unset, .unset, .unset, .unset, .unset] [(.int ((p1 &&& (127 : Int32)).toUInt32.toUInt16.toUInt32.toInt32))])) _
    refine XS.istore X0.here hx rfl (hb hby at_5) rfl (l' := #[.val (.int p1), .val (.int p2), .val (.int p3), .val (.int p4), .val (.int ((p1 &&& (127 : Int32)).toUInt32.toUInt16.toUInt32.toInt32)), .unset, .unset, .unset, .unset, .unset, .unset, .unset, .unset, .unset, .unset, .unset, .unset, .unset, .unset, .unset]) rfl ?_
    show Steps p.tables e below (s₁.setTop (mkF m 7 #[.val (.int p1), .val (.int p2), .val (.int p3), .val (.int p4), .val (.int ((p1 &&& (127 : Int32)).toUInt32.toUInt16.toUInt32.toInt32)), .unset, .unset, .unset, .unset, .unset, .unset, .unset, .unset, .unset, .unset, .unset, .unset, .unset, .unset, .unset] [])) _
    exact k
  obtain ⟨x0, hx0⟩ : ∃ z : Int32, z = ((p1 &&& (127 : Int32)).toUInt32.toUInt16.toUInt32.toInt32) := ⟨_, rfl⟩
  rw [← hx0] at P1
  have hc_x0 := own_ch hx0
  have P2 : ∀ t, Steps p.tables e below (s₁.setTop (mkF m 17 #[.val (.int p1), .val (.int p2), .val (.int p3), .val (.int p4), .val (.int x0), .val (.int (((XT.ushr p1 (8 : Int32)) &&& (127 : Int32)).toUInt32.toUInt16.toUInt32.toInt32)), .unset, .unset, .unset, .unset, .unset, .unset, .unset, .unset, .unset, .unset, .unset, .unset, .unset, .unset] [])) t → Steps p.tables e below (s₁.setTop (entryFrame m #[(.int p1), (.int p2), (.int p3), (.int p4)] maxLocals)) t := by
    intro t k
    refine P1 _ ?_
    refine XS.iloadN X0.here hx rfl (hb hby at_7) rfl ?_
    show Steps p.tables e below (s₁.setTop (mkF m 8 #[.val (.int p1), .val (.int p2), .val (.int p3), .val (.int p4), .val (.int x0), .unset, .unset, .unset, .unset, .unset, .unset, .unset, .unset, .unset, .unset, .unset, .unset, .unset, .unset, .unset] [(.int p1)])) _
    refine XS.bipush X0.here hx rfl (hb hby at_8) ?_
    show Steps p.tables e below (s₁.setTop (mkF m 10 #[.val (.int p1), .val (.int p2), .val (.int p3), .val (.int p4), .val (.int x0), .unset, .unset, .unset, .unset, .unset, .unset, .unset, .unset, .unset, .unset, .unset, .unset, .unset, .unset, .unset] [(.int (8 : Int32)), (.int p1)])) _
    refine XT.iushr X0.here hx rfl (hb hby at_10) rfl ?_
    show Steps p.tables e below (s₁.setTop (mkF m 11 #[.val (.int p1), .val (.int p2), .val (.int p3), .val (.int p4), .val (.int x0), .unset, .unset, .unset, .unset, .unset, .unset, .unset, .unset, .unset, .unset, .unset, .unset, .unset, .unset, .unset] [(.int (XT.ushr p1 (8 : Int32)))])) _
    refine XS.bipush X0.here hx rfl (hb hby at_11) ?_
    show Steps p.tables e below (s₁.setTop (mkF m 13 #[.val (.int p1), .val (.int p2), .val (.int p3), .val (.int p4), .val (.int x0), .unset, .unset, .unset, .unset, .unset, .unset, .unset, .unset, .unset, .unset, .unset, .unset, .unset, .unset, .unset] [(.int (127 : Int32)), (.int (XT.ushr p1 (8 : Int32)))])) _
    refine XS.iand X0.here hx rfl (hb hby at_13) rfl ?_
    show Steps p.tables e below (s₁.setTop (mkF m 14 #[.val (.int p1), .val (.int p2), .val (.int p3), .val (.int p4), .val (.int x0), .unset, .unset, .unset, .unset, .unset, .unset, .unset, .unset, .unset, .unset, .unset, .unset, .unset, .unset, .unset] [(.int ((XT.ushr p1 (8 : Int32)) &&& (127 : Int32)))])) _
    refine XT.i2c X0.here hx rfl (hb hby at_14) rfl ?_
    show Steps p.tables e below (s₁.setTop (mkF m 15 #[.val (.int p1), .val (.int p2), .val (.int p3), .val (.int p4), .val (.int x0), .unset, .unset, .unset, .unset, .unset, .unset, .unset, .unset, .unset, .unset, .unset, .unset, .unset, .unset, .unset] [(.int (((XT.ushr p1 (8 : Int32)) &&& (127 : Int32)).toUInt32.toUInt16.toUInt32.toInt32))])) _
    refine XS.istore X0.here hx rfl (hb hby at_15) rfl (l' := #[.val (.int p1), .val (.int p2), .val (.int p3), .val (.int p4), .val (.int x0), .val (.int (((XT.ushr p1 (8 : Int32)) &&& (127 : Int32)).toUInt32.toUInt16.toUInt32.toInt32)), .unset, .unset, .unset, .unset, .unset, .unset, .unset, .unset, .unset, .unset, .unset, .unset, .unset, .unset]) rfl ?_
    show Steps p.tables e below (s₁.setTop (mkF m 17 #[.val (.int p1), .val (.int p2), .val (.int p3), .val (.int p4), .val (.int x0), .val (.int (((XT.ushr p1 (8 : Int32)) &&& (127 : Int32)).toUInt32.toUInt16.toUInt32.toInt32)), .unset, .unset, .unset, .unset, .unset, .unset, .unset, .unset, .unset, .unset, .unset, .unset, .unset, .unset] [])) _
    exact k
  obtain ⟨x1, hx1⟩ : ∃ z : Int32, z = (((XT.ushr p1 (8 : Int32)) &&& (127 : Int32)).toUInt32.toUInt16.toUInt32.toInt32) := ⟨_, rfl⟩
  rw [← hx1] at P2
  have hc_x1 := own_ch hx1
  have P3 : ∀ t, Steps p.tables e below (s₁.setTop (mkF m 27 #[.val (.int p1), .val (.int p2), .val (.int p3), .val (.int p4), .val (.int x0), .val (.int x1), .val (.int (((XT.ushr p1 (16 : Int32)) &&& (127 : Int32)).toUInt32.toUInt16.toUInt32.toInt32)), .unset, .unset, .unset, .unset, .unset, .unset, .unset, .unset, .unset, .unset, .unset, .unset, .unset] [])) t → Steps p.tables e below (s₁.setTop (entryFrame m #[(.int p1), (.int p2), (.int p3), (.int p4)] maxLocals)) t := by
    intro t k
    refine P2 _ ?_
    refine XS.iloadN X0.here hx rfl (hb hby at_17) rfl ?_
    show Steps p.tables e below (s₁.setTop (mkF m 18 #[.val (.int p1), .val (.int p2), .val (.int p3), .val (.int p4), .val (.int x0), .val (.int x1), .unset, .unset, .unset, .unset, .unset, .unset, .unset, .unset, .unset, .unset, .unset, .unset, .unset, .unset] [(.int p1)])) _
    refine XS.bipush X0.here hx rfl (hb hby at_18) ?_
    show Steps p.tables e below (s₁.setTop (mkF m 20 #[.val (.int p1), .val (.int p2), .val (.int p3), .val (.int p4), .val (.int x0), .val (.int x1), .unset, .unset, .unset, .unset, .unset, .unset, .unset, .unset, .unset, .unset, .unset, .unset, .unset, .unset] [(.int (16 : Int32)), (.int p1)])) _
    refine XT.iushr X0.here hx rfl (hb hby at_20) rfl ?_
    show Steps p.tables e below (s₁.setTop (mkF m 21 #[.val (.int p1), .val (.int p2), .val (.int p3), .val (.int p4), .val (.int x0), .val (.int x1), .unset, .unset, .unset, .unset, .unset, .unset, .unset, .unset, .unset, .unset, .unset, .unset, .unset, .unset] [(.int (XT.ushr p1 (16 : Int32)))])) _
    refine XS.bipush X0.here hx rfl (hb hby at_21) ?_
    show Steps p.tables e below (s₁.setTop (mkF m 23 #[.val (.int p1), .val (.int p2), .val (.int p3), .val (.int p4), .val (.int x0), .val (.int x1), .unset, .unset, .unset, .unset, .unset, .unset, .unset, .unset, .unset, .unset, .unset, .unset, .unset, .unset] [(.int (127 : Int32)), (.int (XT.ushr p1 (16 : Int32)))])) _
    refine XS.iand X0.here hx rfl (hb hby at_23) rfl ?_
    show Steps p.tables e below (s₁.setTop (mkF m 24 #[.val (.int p1), .val (.int p2), .val (.int p3), .val (.int p4), .val (.int x0), .val (.int x1), .unset, .unset, .unset, .unset, .unset, .unset, .unset, .unset, .unset, .unset, .unset, .unset, .unset, .unset] [(.int ((XT.ushr p1 (16 : Int32)) &&& (127 : Int32)))])) _
    refine XT.i2c X0.here hx rfl (hb hby at_24) rfl ?_
    show Steps p.tables e below (s₁.setTop (mkF m 25 #[.val (.int p1), .val (.int p2), .val (.int p3), .val (.int p4), .val (.int x0), .val (.int x1), .unset, .unset, .unset, .unset, .unset, .unset, .unset, .unset, .unset, .unset, .unset, .unset, .unset, .unset] [(.int (((XT.ushr p1 (16 : Int32)) &&& (127 : Int32)).toUInt32.toUInt16.toUInt32.toInt32))])) _
    refine XS.istore X0.here hx rfl (hb hby at_25) rfl (l' := #[.val (.int p1), .val (.int p2), .val (.int p3), .val (.int p4), .val (.int x0), .val (.int x1), .val (.int (((XT.ushr p1 (16 : Int32)) &&& (127 : Int32)).toUInt32.toUInt16.toUInt32.toInt32)), .unset, .unset, .unset, .unset, .unset, .unset, .unset, .unset, .unset, .unset, .unset, .unset, .unset]) rfl ?_
    show Steps p.tables e below (s₁.setTop (mkF m 27 #[.val (.int p1), .val (.int p2), .val (.int p3), .val (.int p4), .val (.int x0), .val (.int x1), .val (.int (((XT.ushr p1 (16 : Int32)) &&& (127 : Int32)).toUInt32.toUInt16.toUInt32.toInt32)), .unset, .unset, .unset, .unset, .unset, .unset, .unset, .unset, .unset, .unset, .unset, .unset, .unset] [])) _
    exact k
  obtain ⟨x2, hx2⟩ : ∃ z : Int32, z = (((XT.ushr p1 (16 : Int32)) &&& (127 : Int32)).toUInt32.toUInt16.toUInt32.toInt32) := ⟨_, rfl⟩
  rw [← hx2] at P3
  have hc_x2 := own_ch hx2
  have P4 : ∀ t, Steps p.tables e below (s₁.setTop (mkF m 37 #[.val (.int p1), .val (.int p2), .val (.int p3), .val (.int p4), .val (.int x0), .val (.int x1), .val (.int x2), .val (.int (((XT.ushr p1 (24 : Int32)) &&& (127 : Int32)).toUInt32.toUInt16.toUInt32.toInt32)), .unset, .unset, .unset, .unset, .unset, .unset, .unset, .unset, .unset, .unset, .unset, .unset] [])) t → Steps p.tables e below (s₁.setTop (entryFrame m #[(.int p1), (.int p2), (.int p3), (.int p4)] maxLocals)) t := by
    intro t k
    refine P3 _ ?_
    refine XS.iloadN X0.here hx rfl (hb hby at_27) rfl ?_
    show Steps p.tables e below (s₁.setTop (mkF m 28 #[.val (.int p1), .val (.int p2), .val (.int p3), .val (.int p4), .val (.int x0), .val (.int x1), .val (.int x2), .unset, .unset, .unset, .unset, .unset, .unset, .unset, .unset, .unset, .unset, .unset, .unset, .unset] [(.int p1)])) _
    refine XS.bipush X0.here hx rfl (hb hby at_28) ?_
    show Steps p.tables e below (s₁.setTop (mkF m 30 #[.val (.int p1), .val (.int p2), .val (.int p3), .val (.int p4), .val (.int x0), .val (.int x1), .val (.int x2), .unset, .unset, .unset, .unset, .unset, .unset, .unset, .unset, .unset, .unset, .unset, .unset, .unset] [(.int (24 : Int32)), (.int p1)])) _
    refine XT.iushr X0.here hx rfl (hb hby at_30) rfl ?_
    show Steps p.tables e below (s₁.setTop (mkF m 31 #[.val (.int p1), .val (.int p2), .val (.int p3), .val (.int p4), .val (.int x0), .val (.int x1), .val (.int x2), .unset, .unset, .unset, .unset, .unset, .unset, .unset, .unset, .unset, .unset, .unset, .unset, .unset] [(.int (XT.ushr p1 (24 : Int32)))])) _
    refine XS.bipush X0.here hx rfl (hb hby at_31) ?_
    show Steps p.tables e below (s₁.setTop (mkF m 33 #[.val (.int p1), .val (.int p2), .val (.int p3), .val (.int p4), .val (.int x0), .val (.int x1), .val (.int x2), .unset, .unset, .unset, .unset, .unset, .unset, .unset, .unset, .unset, .unset, .unset, .unset, .unset] [(.int (127 : Int32)), (.int (XT.ushr p1 (24 : Int32)))])) _
    refine XS.iand X0.here hx rfl (hb hby at_33) rfl ?_
    show Steps p.tables e below (s₁.setTop (mkF m 34 #[.val (.int p1), .val (.int p2), .val (.int p3), .val (.int p4), .val (.int x0), .val (.int x1), .val (.int x2), .unset, .unset, .unset, .unset, .unset, .unset, .unset, .unset, .unset, .unset, .unset, .unset, .unset] [(.int ((XT.ushr p1 (24 : Int32)) &&& (127 : Int32)))])) _
    refine XT.i2c X0.here hx rfl (hb hby at_34) rfl ?_
    show Steps p.tables e below (s₁.setTop (mkF m 35 #[.val (.int p1), .val (.int p2), .val (.int p3), .val (.int p4), .val (.int x0), .val (.int x1), .val (.int x2), .unset, .unset, .unset, .unset, .unset, .unset, .unset, .unset, .unset, .unset, .unset, .unset, .unset] [(.int (((XT.ushr p1 (24 : Int32)) &&& (127 : Int32)).toUInt32.toUInt16.toUInt32.toInt32))])) _
    refine XS.istore X0.here hx rfl (hb hby at_35) rfl (l' := #[.val (.int p1), .val (.int p2), .val (.int p3), .val (.int p4), .val (.int x0), .val (.int x1), .val (.int x2), .val (.int (((XT.ushr p1 (24 : Int32)) &&& (127 : Int32)).toUInt32.toUInt16.toUInt32.toInt32)), .unset, .unset, .unset, .unset, .unset, .unset, .unset, .unset, .unset, .unset, .unset, .unset]) rfl ?_
    show Steps p.tables e below (s₁.setTop (mkF m 37 #[.val (.int p1), .val (.int p2), .val (.int p3), .val (.int p4), .val (.int x0), .val (.int x1), .val (.int x2), .val (.int (((XT.ushr p1 (24 : Int32)) &&& (127 : Int32)).toUInt32.toUInt16.toUInt32.toInt32)), .unset, .unset, .unset, .unset, .unset, .unset, .unset, .unset, .unset, .unset, .unset, .unset] [])) _
    exact k
  obtain ⟨x3, hx3⟩ : ∃ z : Int32, z = (((XT.ushr p1 (24 : Int32)) &&& (127 : Int32)).toUInt32.toUInt16.toUInt32.toInt32) := ⟨_, rfl⟩
  rw [← hx3] at P4
  have hc_x3 := own_ch hx3
  have P5 : ∀ t, Steps p.tables e below (s₁.setTop (mkF m 45 #[.val (.int p1), .val (.int p2), .val (.int p3), .val (.int p4), .val (.int x0), .val (.int x1), .val (.int x2), .val (.int x3), .val (.int ((p2 &&& (2147483647 : Int32)) % (5 : Int32))), .unset, .unset, .unset, .unset, .unset, .unset, .unset, .unset, .unset, .unset, .unset] [])) t → Steps p.tables e below (s₁.setTop (entryFrame m #[(.int p1), (.int p2), (.int p3), (.int p4)] maxLocals)) t := by
    intro t k
    refine P4 _ ?_
    refine XS.iloadN X0.here hx rfl (hb hby at_37) rfl ?_
    show Steps p.tables e below (s₁.setTop (mkF m 38 #[.val (.int p1), .val (.int p2), .val (.int p3), .val (.int p4), .val (.int x0), .val (.int x1), .val (.int x2), .val (.int x3), .unset, .unset, .unset, .unset, .unset, .unset, .unset, .unset, .unset, .unset, .unset, .unset] [(.int p2)])) _
    refine Jvm.Stand.ldcI X0 hx hown (mvT hZ (hw _ (List.mem_of_getElem? (i := 0) rfl))) rfl (hb hby at_38) ?_
    show Steps p.tables e below (s₁.setTop (mkF m 40 #[.val (.int p1), .val (.int p2), .val (.int p3), .val (.int p4), .val (.int x0), .val (.int x1), .val (.int x2), .val (.int x3), .unset, .unset, .unset, .unset, .unset, .unset, .unset, .unset, .unset, .unset, .unset, .unset] [(.int (2147483647 : Int32)), (.int p2)])) _
    refine XS.iand X0.here hx rfl (hb hby at_40) rfl ?_
    show Steps p.tables e below (s₁.setTop (mkF m 41 #[.val (.int p1), .val (.int p2), .val (.int p3), .val (.int p4), .val (.int x0), .val (.int x1), .val (.int x2), .val (.int x3), .unset, .unset, .unset, .unset, .unset, .unset, .unset, .unset, .unset, .unset, .unset, .unset] [(.int (p2 &&& (2147483647 : Int32)))])) _
    refine XS.iconst X0.here hx rfl (hb hby at_41) ?_
    show Steps p.tables e below (s₁.setTop (mkF m 42 #[.val (.int p1), .val (.int p2), .val (.int p3), .val (.int p4), .val (.int x0), .val (.int x1), .val (.int x2), .val (.int x3), .unset, .unset, .unset, .unset, .unset, .unset, .unset, .unset, .unset, .unset, .unset, .unset] [(.int (5 : Int32)), (.int (p2 &&& (2147483647 : Int32)))])) _
    refine iremM X0 hx rfl (hb hby at_42) rfl (by decide) ?_
    show Steps p.tables e below (s₁.setTop (mkF m 43 #[.val (.int p1), .val (.int p2), .val (.int p3), .val (.int p4), .val (.int x0), .val (.int x1), .val (.int x2), .val (.int x3), .unset, .unset, .unset, .unset, .unset, .unset, .unset, .unset, .unset, .unset, .unset, .unset] [(.int ((p2 &&& (2147483647 : Int32)) % (5 : Int32)))])) _
    refine XS.istore X0.here hx rfl (hb hby at_43) rfl (l' := #[.val (.int p1), .val (.int p2), .val (.int p3), .val (.int p4), .val (.int x0), .val (.int x1), .val (.int x2), .val (.int x3), .val (.int ((p2 &&& (2147483647 : Int32)) % (5 : Int32))), .unset, .unset, .unset, .unset, .unset, .unset, .unset, .unset, .unset, .unset, .unset]) rfl ?_
    show Steps p.tables e below (s₁.setTop (mkF m 45 #[.val (.int p1), .val (.int p2), .val (.int p3), .val (.int p4), .val (.int x0), .val (.int x1), .val (.int x2), .val (.int x3), .val (.int ((p2 &&& (2147483647 : Int32)) % (5 : Int32))), .unset, .unset, .unset, .unset, .unset, .unset, .unset, .unset, .unset, .unset, .unset] [])) _
    exact k
  obtain ⟨nx, hnx⟩ : ∃ z : Int32, z = ((p2 &&& (2147483647 : Int32)) % (5 : Int32)) := ⟨_, rfl⟩
  rw [← hnx] at P5
  obtain ⟨nxn, hnx, hn1, hn4, hnz⟩ := own_nx hnx hone
  have P6 : ∀ t, Steps p.tables e below (s₁.setTop (mkF m 59 #[.val (.int p1), .val (.int p2), .val (.int p3), .val (.int p4), .val (.int x0), .val (.int x1), .val (.int x2), .val (.int x3), .val (.int nx), .unset, .unset, .unset, .unset, .unset, .unset, .unset, .unset, .unset, .unset, .unset] [(.int (if ((XT.ushr p2 (8 : Int32)) &&& (1 : Int32)) = (0 : Int32) then (0 : Int32) else (1 : Int32)))])) t → Steps p.tables e below (s₁.setTop (entryFrame m #[(.int p1), (.int p2), (.int p3), (.int p4)] maxLocals)) t := by
    intro t k
    refine P5 _ ?_
    refine XS.iloadN X0.here hx rfl (hb hby at_45) rfl ?_
    show Steps p.tables e below (s₁.setTop (mkF m 46 #[.val (.int p1), .val (.int p2), .val (.int p3), .val (.int p4), .val (.int x0), .val (.int x1), .val (.int x2), .val (.int x3), .val (.int nx), .unset, .unset, .unset, .unset, .unset, .unset, .unset, .unset, .unset, .unset, .unset] [(.int p2)])) _
    refine XS.bipush X0.here hx rfl (hb hby at_46) ?_
    show Steps p.tables e below (s₁.setTop (mkF m 48 #[.val (.int p1), .val (.int p2), .val (.int p3), .val (.int p4), .val (.int x0), .val (.int x1), .val (.int x2), .val (.int x3), .val (.int nx), .unset, .unset, .unset, .unset, .unset, .unset, .unset, .unset, .unset, .unset, .unset] [(.int (8 : Int32)), (.int p2)])) _
    refine XT.iushr X0.here hx rfl (hb hby at_48) rfl ?_
    show Steps p.tables e below (s₁.setTop (mkF m 49 #[.val (.int p1), .val (.int p2), .val (.int p3), .val (.int p4), .val (.int x0), .val (.int x1), .val (.int x2), .val (.int x3), .val (.int nx), .unset, .unset, .unset, .unset, .unset, .unset, .unset, .unset, .unset, .unset, .unset] [(.int (XT.ushr p2 (8 : Int32)))])) _
    refine XS.iconst X0.here hx rfl (hb hby at_49) ?_
    show Steps p.tables e below (s₁.setTop (mkF m 50 #[.val (.int p1), .val (.int p2), .val (.int p3), .val (.int p4), .val (.int x0), .val (.int x1), .val (.int x2), .val (.int x3), .val (.int nx), .unset, .unset, .unset, .unset, .unset, .unset, .unset, .unset, .unset, .unset, .unset] [(.int (1 : Int32)), (.int (XT.ushr p2 (8 : Int32)))])) _
    refine XS.iand X0.here hx rfl (hb hby at_50) rfl ?_
    show Steps p.tables e below (s₁.setTop (mkF m 51 #[.val (.int p1), .val (.int p2), .val (.int p3), .val (.int p4), .val (.int x0), .val (.int x1), .val (.int x2), .val (.int x3), .val (.int nx), .unset, .unset, .unset, .unset, .unset, .unset, .unset, .unset, .unset, .unset, .unset] [(.int ((XT.ushr p2 (8 : Int32)) &&& (1 : Int32)))])) _
    by_cases c51 : ((XT.ushr p2 (8 : Int32)) &&& (1 : Int32)) = (0 : Int32)
    · try simp only [if_pos c51] at k
      refine XS.ifYes X0.here hx rfl (pc0 := 51) (pc' := 58) rfl (hb hby at_51) rfl (XT.i0_eq_t c51) (by decide) (by decide) ?_
      show Steps p.tables e below (s₁.setTop (mkF m 58 #[.val (.int p1), .val (.int p2), .val (.int p3), .val (.int p4), .val (.int x0), .val (.int x1), .val (.int x2), .val (.int x3), .val (.int nx), .unset, .unset, .unset, .unset, .unset, .unset, .unset, .unset, .unset, .unset, .unset] [])) _
      refine XS.iconst X0.here hx rfl (hb hby at_58) ?_
      show Steps p.tables e below (s₁.setTop (mkF m 59 #[.val (.int p1), .val (.int p2), .val (.int p3), .val (.int p4), .val (.int x0), .val (.int x1), .val (.int x2), .val (.int x3), .val (.int nx), .unset, .unset, .unset, .unset, .unset, .unset, .unset, .unset, .unset, .unset, .unset] [(.int (0 : Int32))])) _
      exact k
    · try simp only [if_neg c51] at k
      refine XS.ifNo X0.here hx rfl (hb hby at_51) rfl (XT.i0_eq_f c51) ?_
      show Steps p.tables e below (s₁.setTop (mkF m 54 #[.val (.int p1), .val (.int p2), .val (.int p3), .val (.int p4), .val (.int x0), .val (.int x1), .val (.int x2), .val (.int x3), .val (.int nx), .unset, .unset, .unset, .unset, .unset, .unset, .unset, .unset, .unset, .unset, .unset] [])) _
      refine XS.iconst X0.here hx rfl (hb hby at_54) ?_
      show Steps p.tables e below (s₁.setTop (mkF m 55 #[.val (.int p1), .val (.int p2), .val (.int p3), .val (.int p4), .val (.int x0), .val (.int x1), .val (.int x2), .val (.int x3), .val (.int nx), .unset, .unset, .unset, .unset, .unset, .unset, .unset, .unset, .unset, .unset, .unset] [(.int (1 : Int32))])) _
      refine XS.goto X0.here hx rfl (pc0 := 55) (pc' := 59) rfl (hb hby at_55) (by decide) (by decide) ?_
      show Steps p.tables e below (s₁.setTop (mkF m 59 #[.val (.int p1), .val (.int p2), .val (.int p3), .val (.int p4), .val (.int x0), .val (.int x1), .val (.int x2), .val (.int x3), .val (.int nx), .unset, .unset, .unset, .unset, .unset, .unset, .unset, .unset, .unset, .unset, .unset] [(.int (1 : Int32))])) _
      exact k
  obtain ⟨lf, hlf⟩ : ∃ z : Int32, z = (if ((XT.ushr p2 (8 : Int32)) &&& (1 : Int32)) = (0 : Int32) then (0 : Int32) else (1 : Int32)) := ⟨_, rfl⟩
  rw [← hlf] at P6
  have P7 : ∀ t, Steps p.tables e below (s₁.setTop (mkF m 61 #[.val (.int p1), .val (.int p2), .val (.int p3), .val (.int p4), .val (.int x0), .val (.int x1), .val (.int x2), .val (.int x3), .val (.int nx), .val (.int lf), .unset, .unset, .unset, .unset, .unset, .unset, .unset, .unset, .unset, .unset] [])) t → Steps p.tables e below (s₁.setTop (entryFrame m #[(.int p1), (.int p2), (.int p3), (.int p4)] maxLocals)) t := by
    intro t k
    refine P6 _ ?_
    refine XS.istore X0.here hx rfl (hb hby at_59) rfl (l' := #[.val (.int p1), .val (.int p2), .val (.int p3), .val (.int p4), .val (.int x0), .val (.int x1), .val (.int x2), .val (.int x3), .val (.int nx), .val (.int lf), .unset, .unset, .unset, .unset, .unset, .unset, .unset, .unset, .unset, .unset]) rfl ?_
    show Steps p.tables e below (s₁.setTop (mkF m 61 #[.val (.int p1), .val (.int p2), .val (.int p3), .val (.int p4), .val (.int x0), .val (.int x1), .val (.int x2), .val (.int x3), .val (.int nx), .val (.int lf), .unset, .unset, .unset, .unset, .unset, .unset, .unset, .unset, .unset, .unset] [])) _
    exact k
  obtain ⟨T8, h8, X8, e8, E8, A8, D8, -, st8⟩ := newO X0 hx hZ hown (hw _ (List.mem_of_getElem? (i := 1) rfl)) (hw _ (List.mem_of_getElem? (i := 2) rfl)) (hw _ (List.mem_of_getElem? (i := 3) rfl)) e0 (g := (mkF m 61 #[.val (.int p1), .val (.int p2), .val (.int p3), .val (.int p4), .val (.int x0), .val (.int x1), .val (.int x2), .val (.int x3), .val (.int nx), .val (.int lf), .unset, .unset, .unset, .unset, .unset, .unset, .unset, .unset, .unset, .unset] [])) rfl (hb hby at_61) (by decide) (by decide)
  obtain ⟨bA, g8⟩ : ∃ z, z = h0.size := ⟨_, rfl⟩
  rw [← g8] at A8 D8 st8
  have F9 : Old Z n0 h8 := O0.ext E8
  have F10 : Fld Z h8 bA "com/example/basewright/basewright/Alphabet" "characters" "[B" .null := D8 (Or.inr (hw _ (List.mem_of_getElem? (i := 80) rfl))) (ty := (.array .byte)) (by decide)
  have F11 : Fld Z h8 bA "com/example/basewright/basewright/Alphabet" "values" "[B" .null := D8 (Or.inr (hw _ (List.mem_of_getElem? (i := 82) rfl))) (ty := (.array .byte)) (by decide)
  have Z12 : n0 ≤ h8.size := Nat.le_trans Z0 E8.1
  have K13 : Keep h0 h8 [] := K0.ext E8
  have g_bA : n0 ≤ bA := Nat.le_trans Z0 (Nat.le_of_eq g8.symm)
  have sz_bA : h0.size ≤ bA := Nat.le_trans K0.1 (Nat.le_of_eq g8.symm)
  have P14 : ∀ t, Steps p.tables e below (T8.setTop (mkF m 64 #[.val (.int p1), .val (.int p2), .val (.int p3), .val (.int p4), .val (.int x0), .val (.int x1), .val (.int x2), .val (.int x3), .val (.int nx), .val (.int lf), .unset, .unset, .unset, .unset, .unset, .unset, .unset, .unset, .unset, .unset] [(.ref bA)])) t → Steps p.tables e below (s₁.setTop (entryFrame m #[(.int p1), (.int p2), (.int p3), (.int p4)] maxLocals)) t := fun t k => P7 _ (st8 _ k)
  have P15 : ∀ t, Steps p.tables e below (T8.setTop (mkF m 75 #[.val (.int p1), .val (.int p2), .val (.int p3), .val (.int p4), .val (.int x0), .val (.int x1), .val (.int x2), .val (.int x3), .val (.int nx), .val (.int lf), .unset, .unset, .unset, .unset, .unset, .unset, .unset, .unset, .unset, .unset] [(.int x3), (.int x2), (.int x1), (.int x0), (.int nx), (.ref bA), (.ref bA)])) t → Steps p.tables e below (s₁.setTop (entryFrame m #[(.int p1), (.int p2), (.int p3), (.int p4)] maxLocals)) t := by
    intro t k
    refine P14 _ ?_
    refine XS.dup X8.here hx rfl (hb hby at_64) rfl rfl ?_
    show Steps p.tables e below (T8.setTop (mkF m 65 #[.val (.int p1), .val (.int p2), .val (.int p3), .val (.int p4), .val (.int x0), .val (.int x1), .val (.int x2), .val (.int x3), .val (.int nx), .val (.int lf), .unset, .unset, .unset, .unset, .unset, .unset, .unset, .unset, .unset, .unset] [(.ref bA), (.ref bA)])) _
    refine XS.iload X8.here hx rfl (hb hby at_65) rfl ?_
    show Steps p.tables e below (T8.setTop (mkF m 67 #[.val (.int p1), .val (.int p2), .val (.int p3), .val (.int p4), .val (.int x0), .val (.int x1), .val (.int x2), .val (.int x3), .val (.int nx), .val (.int lf), .unset, .unset, .unset, .unset, .unset, .unset, .unset, .unset, .unset, .unset] [(.int nx), (.ref bA), (.ref bA)])) _
    refine XS.iload X8.here hx rfl (hb hby at_67) rfl ?_
    show Steps p.tables e below (T8.setTop (mkF m 69 #[.val (.int p1), .val (.int p2), .val (.int p3), .val (.int p4), .val (.int x0), .val (.int x1), .val (.int x2), .val (.int x3), .val (.int nx), .val (.int lf), .unset, .unset, .unset, .unset, .unset, .unset, .unset, .unset, .unset, .unset] [(.int x0), (.int nx), (.ref bA), (.ref bA)])) _
    refine XS.iload X8.here hx rfl (hb hby at_69) rfl ?_
    show Steps p.tables e below (T8.setTop (mkF m 71 #[.val (.int p1), .val (.int p2), .val (.int p3), .val (.int p4), .val (.int x0), .val (.int x1), .val (.int x2), .val (.int x3), .val (.int nx), .val (.int lf), .unset, .unset, .unset, .unset, .unset, .unset, .unset, .unset, .unset, .unset] [(.int x1), (.int x0), (.int nx), (.ref bA), (.ref bA)])) _
    refine XS.iload X8.here hx rfl (hb hby at_71) rfl ?_
    show Steps p.tables e below (T8.setTop (mkF m 73 #[.val (.int p1), .val (.int p2), .val (.int p3), .val (.int p4), .val (.int x0), .val (.int x1), .val (.int x2), .val (.int x3), .val (.int nx), .val (.int lf), .unset, .unset, .unset, .unset, .unset, .unset, .unset, .unset, .unset, .unset] [(.int x2), (.int x1), (.int x0), (.int nx), (.ref bA), (.ref bA)])) _
    refine XS.iload X8.here hx rfl (hb hby at_73) rfl ?_
    show Steps p.tables e below (T8.setTop (mkF m 75 #[.val (.int p1), .val (.int p2), .val (.int p3), .val (.int p4), .val (.int x0), .val (.int x1), .val (.int x2), .val (.int x3), .val (.int nx), .val (.int lf), .unset, .unset, .unset, .unset, .unset, .unset, .unset, .unset, .unset, .unset] [(.int x3), (.int x2), (.int x1), (.int x0), (.int nx), (.ref bA), (.ref bA)])) _
    exact k
  obtain ⟨_, _, ⟨T16, L16, k16, n16⟩, -, X16, ⟨Lc16, hQ16, l16, y16, z16⟩, st16⟩ := Jvm.LawKit.callS X8 hx (y := (⟨"com/example/basewright/basewright/AlphabetPairsPinLaw", "text", "(ICCCC)Ljava/lang/String;"⟩ : MethodName)) hown (mvT hZ (hw _ (List.mem_of_getElem? (i := 4) rfl))) (mvT hZ (hw _ (List.mem_of_getElem? (i := 5) rfl))) (mvT hZ (hw _ (List.mem_of_getElem? (i := 6) rfl))) (mvT hZ (hw _ (List.mem_of_getElem? (i := 7) rfl))) (by decide) (backOf (W := 2) (rm16 l Z a0 hw [] nx x0 x1 x2 x3 ccs nxn h8 n0 Z12 F9 S_cs hcc hnx hn1 hn4 hc_x0 hc_x1 hc_x2 hc_x3) hZ (hw _ (List.mem_of_getElem? (i := 7) rfl)) (hw _ (List.mem_of_getElem? (i := 6) rfl)) (by decide) (by decide)) (g := (mkF m 75 #[.val (.int p1), .val (.int p2), .val (.int p3), .val (.int p4), .val (.int x0), .val (.int x1), .val (.int x2), .val (.int x3), .val (.int nx), .val (.int lf), .unset, .unset, .unset, .unset, .unset, .unset, .unset, .unset, .unset, .unset] [(.int x3), (.int x2), (.int x1), (.int x0), (.int nx), (.ref bA), (.ref bA)])) rfl (by rw [hml]; rfl) (argsL := [(.int nx), (.int x0), (.int x1), (.int x2), (.int x3)]) (rest := [(.ref bA), (.ref bA)]) (lenOf pd_11 rfl) rfl (by show 2 * 0 + _ ≤ _; exact Nat.le_of_eq rfl) (hb hby at_75) (fun _ _ => ⟨rfl, e8, (by decide : 1 + 3 ≤ _), (by decide : 2 + 12 ≤ _)⟩)
  dsimp only [Pt.U, Pt.locs, Pt.cells, Pt.slots] at X16 l16 y16 z16 st16 hQ16
  subst l16 y16 z16
  obtain ⟨b_16, bv_16, kb_16, rfl, N16q, K16, s16_b, s16_bv, Y16_0, Y16_1, Y16_2, Y16_3, Y16_4⟩ := hQ16
  have F17 : Old Z n0 T16.heap := F9.keep K16 all0
  have F18 : Exa Z T16.heap bA "com/example/basewright/basewright/Alphabet" := A8.keep K16
  have F19 : Fld Z T16.heap bA "com/example/basewright/basewright/Alphabet" "characters" "[B" .null := F10.keep K16 nin0
  have F20 : Fld Z T16.heap bA "com/example/basewright/basewright/Alphabet" "values" "[B" .null := F11.keep K16 nin0
  have Z21 : n0 ≤ T16.heap.size := Nat.le_trans Z12 K16.1
  have K22 : Keep h0 T16.heap [] := K13.trans K16 all0
  have g_b_16 : n0 ≤ b_16 := Nat.le_trans Z12 s16_b
  have sz_b_16 : h0.size ≤ b_16 := Nat.le_trans K13.1 s16_b
  have ne_bA_b_16 : bA ≠ b_16 := Nat.ne_of_lt (Nat.lt_of_lt_of_le A8.lt s16_b)
  have g_bv_16 : n0 ≤ bv_16 := Nat.le_trans Z12 s16_bv
  have sz_bv_16 : h0.size ≤ bv_16 := Nat.le_trans K13.1 s16_bv
  have ne_bA_bv_16 : bA ≠ bv_16 := Nat.ne_of_lt (Nat.lt_of_lt_of_le A8.lt s16_bv)
  have N16 := Fr.app N0 N16q
  have P23 : ∀ t, Steps p.tables e below (T16.setTop (mkF m 78 #[.val (.int p1), .val (.int p2), .val (.int p3), .val (.int p4), .val (.int x0), .val (.int x1), .val (.int x2), .val (.int x3), .val (.int nx), .val (.int lf), .unset, .unset, .unset, .unset, .unset, .unset, .unset, .unset, .unset, .unset] [(.ref b_16), (.ref bA), (.ref bA)])) t → Steps p.tables e below (s₁.setTop (entryFrame m #[(.int p1), (.int p2), (.int p3), (.int p4)] maxLocals)) t := fun t k => P15 _ (st16 _ k)
  obtain ⟨_, _, ⟨T24, L24, k24, n24⟩, -, X24, ⟨Lc24, hQ24, l24, y24, z24⟩, st24⟩ := X16.specialBack hx (y := (⟨"com/example/basewright/basewright/Alphabet", "<init>", "(Ljava/lang/String;)V"⟩ : MethodName)) rfl hown (mvT hZ (hw _ (List.mem_of_getElem? (i := 38) rfl))) (mvT hZ (hw _ (List.mem_of_getElem? (i := 39) rfl))) (mvT hZ (hw _ (List.mem_of_getElem? (i := 40) rfl))) (by decide) (backOf (W := 1) (rm27 l Z a0 hw [] bA b_16 .null .null bv_16 nx kb_16 (own_l4 x0 x1 x2 x3) nxn wA wU wI ccs T16.heap n0 Z21 F17 F18 F19 F20 g_bA Y16_0 Y16_1 Y16_2 Y16_3 Y16_4 hnx hn4 (own_l4s hc_x0 hc_x1 hc_x2 hc_x3 (by omega)) S_H S_wU S_wI S_wA neU neI S_cs hcc) hZ (hw _ (List.mem_of_getElem? (i := 40) rfl)) (hw _ (List.mem_of_getElem? (i := 3) rfl)) (by decide) (by decide)) (g := (mkF m 78 #[.val (.int p1), .val (.int p2), .val (.int p3), .val (.int p4), .val (.int x0), .val (.int x1), .val (.int x2), .val (.int x3), .val (.int nx), .val (.int lf), .unset, .unset, .unset, .unset, .unset, .unset, .unset, .unset, .unset, .unset] [(.ref b_16), (.ref bA), (.ref bA)])) rfl (by rw [hml]; rfl) (Steps.refl _) (a := bA) (argsL := [(.ref b_16)]) (rest := [(.ref bA)]) (lenOf pd_12 rfl) rfl (by show 2 * 0 + _ ≤ _; exact Nat.le_of_eq rfl) (hb hby at_78) (fun _ _ => ⟨rfl, rfl, (by decide : 4 + 2 ≤ _), (by decide : 14 + 260 ≤ _)⟩)
  dsimp only [Pt.U, Pt.locs, Pt.cells, Pt.slots] at X24 l24 y24 z24 st24 hQ24
  subst l24 y24 z24
  obtain ⟨bc_24, bz_24, kz_24, rfl, N24q, K24, s24_bc, s24_bz, Y24_0, Y24_1, Y24_2, Y24_3, Y24_4⟩ := hQ24
  have F25 : Old Z n0 T24.heap := F17.keep K24 (allS g_bA all0)
  have F26 : Exa Z T24.heap bA "com/example/basewright/basewright/Alphabet" := F18.keep K24
  have F27 : Exa Z T24.heap b_16 "java/lang/String" := Y16_0.keep K24
  have F28 : Fld Z T24.heap b_16 "java/lang/String" "value" "[B" (.ref bv_16) := Y16_1.keep K24 (ninS (Ne.symm ne_bA_b_16) nin0)
  have F29 : Fld Z T24.heap b_16 "java/lang/String" "coder" "B" (.int (0 : Int32)) := Y16_2.keep K24 (ninS (Ne.symm ne_bA_b_16) nin0)
  have F30 : own_Af Z T24.heap bv_16 kb_16 .byte nx (fun i => Value.int ((own_l4 x0 x1 x2 x3) i)) := Y16_3.keep K24 (ninS (Ne.symm ne_bA_bv_16) nin0)
  have F31 : Exa Z T24.heap bv_16 "[B" := Y16_4.keep K24
  have Z32 : n0 ≤ T24.heap.size := Nat.le_trans Z21 K24.1
  have K33 : Keep h0 T24.heap [] := K22.trans K24 (allS (Or.inr sz_bA) all0)
  have g_bc_24 : n0 ≤ bc_24 := Nat.le_trans Z21 s24_bc
  have sz_bc_24 : h0.size ≤ bc_24 := Nat.le_trans K22.1 s24_bc
  have ne_bA_bc_24 : bA ≠ bc_24 := Nat.ne_of_lt (Nat.lt_of_lt_of_le F18.lt s24_bc)
  have ne_b_16_bc_24 : b_16 ≠ bc_24 := Nat.ne_of_lt (Nat.lt_of_lt_of_le Y16_0.lt s24_bc)
  have ne_bv_16_bc_24 : bv_16 ≠ bc_24 := Nat.ne_of_lt (Nat.lt_of_lt_of_le Y16_3.lt s24_bc)
  have g_bz_24 : n0 ≤ bz_24 := Nat.le_trans Z21 s24_bz
  have sz_bz_24 : h0.size ≤ bz_24 := Nat.le_trans K22.1 s24_bz
  have ne_bA_bz_24 : bA ≠ bz_24 := Nat.ne_of_lt (Nat.lt_of_lt_of_le F18.lt s24_bz)
  have ne_b_16_bz_24 : b_16 ≠ bz_24 := Nat.ne_of_lt (Nat.lt_of_lt_of_le Y16_0.lt s24_bz)
  have ne_bv_16_bz_24 : bv_16 ≠ bz_24 := Nat.ne_of_lt (Nat.lt_of_lt_of_le Y16_3.lt s24_bz)
  have N24 := Fr.app N16 N24q
  have P34 : ∀ t, Steps p.tables e below (T24.setTop (mkF m 81 #[.val (.int p1), .val (.int p2), .val (.int p3), .val (.int p4), .val (.int x0), .val (.int x1), .val (.int x2), .val (.int x3), .val (.int nx), .val (.int lf), .unset, .unset, .unset, .unset, .unset, .unset, .unset, .unset, .unset, .unset] [(.ref bA)])) t → Steps p.tables e below (s₁.setTop (entryFrame m #[(.int p1), (.int p2), (.int p3), (.int p4)] maxLocals)) t := fun t k => P23 _ (st24.trans k)
  have P35 : ∀ t, Steps p.tables e below (T24.setTop (mkF m 87 #[.val (.int p1), .val (.int p2), .val (.int p3), .val (.int p4), .val (.int x0), .val (.int x1), .val (.int x2), .val (.int x3), .val (.int nx), .val (.int lf), .val (.ref bA), .unset, .unset, .unset, .unset, .unset, .unset, .unset, .unset, .unset] [(.int lf), (.ref bA)])) t → Steps p.tables e below (s₁.setTop (entryFrame m #[(.int p1), (.int p2), (.int p3), (.int p4)] maxLocals)) t := by
    intro t k
    refine P34 _ ?_
    refine XS.astore X24.here hx rfl (hb hby at_81) rfl rfl (l' := #[.val (.int p1), .val (.int p2), .val (.int p3), .val (.int p4), .val (.int x0), .val (.int x1), .val (.int x2), .val (.int x3), .val (.int nx), .val (.int lf), .val (.ref bA), .unset, .unset, .unset, .unset, .unset, .unset, .unset, .unset, .unset]) rfl ?_
    show Steps p.tables e below (T24.setTop (mkF m 83 #[.val (.int p1), .val (.int p2), .val (.int p3), .val (.int p4), .val (.int x0), .val (.int x1), .val (.int x2), .val (.int x3), .val (.int nx), .val (.int lf), .val (.ref bA), .unset, .unset, .unset, .unset, .unset, .unset, .unset, .unset, .unset] [])) _
    refine XS.aload X24.here hx rfl (hb hby at_83) rfl rfl ?_
    show Steps p.tables e below (T24.setTop (mkF m 85 #[.val (.int p1), .val (.int p2), .val (.int p3), .val (.int p4), .val (.int x0), .val (.int x1), .val (.int x2), .val (.int x3), .val (.int nx), .val (.int lf), .val (.ref bA), .unset, .unset, .unset, .unset, .unset, .unset, .unset, .unset, .unset] [(.ref bA)])) _
    refine XS.iload X24.here hx rfl (hb hby at_85) rfl ?_
    show Steps p.tables e below (T24.setTop (mkF m 87 #[.val (.int p1), .val (.int p2), .val (.int p3), .val (.int p4), .val (.int x0), .val (.int x1), .val (.int x2), .val (.int x3), .val (.int nx), .val (.int lf), .val (.ref bA), .unset, .unset, .unset, .unset, .unset, .unset, .unset, .unset, .unset] [(.int lf), (.ref bA)])) _
    exact k
  obtain ⟨cq36, kq36, qa36, qb36, qc36⟩ := isOf hZ rfl Y24_0
  obtain ⟨_, _, ⟨T36, L36, k36, n36⟩, -, X36, ⟨Lc36, hQ36, l36, y36, z36⟩, st36⟩ := X24.virtualBack hx (y := (⟨"com/example/basewright/basewright/Alphabet", "pairs", "(Z)[S"⟩ : MethodName)) (z := (⟨"com/example/basewright/basewright/Alphabet", "pairs", "(Z)[S"⟩ : MethodName)) hown (mvT hZ (hw _ (List.mem_of_getElem? (i := 87) rfl))) (mvT hZ (hw _ (List.mem_of_getElem? (i := 88) rfl))) (notFace_of_selects (args := #[]) (mvT hZ (hw _ (List.mem_of_getElem? (i := 90) rfl)))) (mvT hZ (hw _ (List.mem_of_getElem? (i := 90) rfl))) (mvT hZ (hw _ (List.mem_of_getElem? (i := 89) rfl))) (by decide) (backOf (W := 0) (rm28 l Z a0 hw [] bA lf bc_24 nx kb_16 (own_l4 x0 x1 x2 x3) nxn T24.heap n0 Z32 Y24_1 Y24_3 hnx hn4) hZ (hw _ (List.mem_of_getElem? (i := 91) rfl)) (hw _ (List.mem_of_getElem? (i := 3) rfl)) (by decide) (by decide)) qa36 qc36 (g := (mkF m 87 #[.val (.int p1), .val (.int p2), .val (.int p3), .val (.int p4), .val (.int x0), .val (.int x1), .val (.int x2), .val (.int x3), .val (.int nx), .val (.int lf), .val (.ref bA), .unset, .unset, .unset, .unset, .unset, .unset, .unset, .unset, .unset] [(.int lf), (.ref bA)])) rfl (by rw [hml]; rfl) (Steps.refl _) (argsL := [(.int lf)]) (rest := []) (lenOf pd_13 rfl) rfl (by show 2 * 0 + _ ≤ _; exact Nat.le_of_eq rfl) (hb hby at_87) (fun _ _ => ⟨rfl, rfl, (by decide : 6 + 1 ≤ _), (by decide : 274 + 16 ≤ _)⟩)
  dsimp only [Pt.U, Pt.locs, Pt.cells, Pt.slots] at X36 l36 y36 z36 st36 hQ36
  subst l36 y36 z36
  obtain ⟨b_36, kp_36, nq_36, rfl, N36q, K36, s36_b, Y36_0, Y36_1⟩ := hQ36
  have F37 : Old Z n0 T36.heap := F25.keep K36 all0
  have F38 : Exa Z T36.heap bA "com/example/basewright/basewright/Alphabet" := Y24_0.keep K36
  have F39 : Exa Z T36.heap b_16 "java/lang/String" := F27.keep K36
  have F40 : Fld Z T36.heap b_16 "java/lang/String" "value" "[B" (.ref bv_16) := F28.keep K36 nin0
  have F41 : Fld Z T36.heap b_16 "java/lang/String" "coder" "B" (.int (0 : Int32)) := F29.keep K36 nin0
  have F42 : own_Af Z T36.heap bv_16 kb_16 .byte nx (fun i => Value.int ((own_l4 x0 x1 x2 x3) i)) := F30.keep K36 nin0
  have F43 : Exa Z T36.heap bv_16 "[B" := F31.keep K36
  have F44 : Fld Z T36.heap bA "com/example/basewright/basewright/Alphabet" "characters" "[B" (.ref bc_24) := Y24_1.keep K36 nin0
  have F45 : Fld Z T36.heap bA "com/example/basewright/basewright/Alphabet" "values" "[B" (.ref bz_24) := Y24_2.keep K36 nin0
  have F46 : own_Af Z T36.heap bc_24 kb_16 .byte nx (fun i => Value.int ((own_l4 x0 x1 x2 x3) i)) := Y24_3.keep K36 nin0
  have F47 : own_Af Z T36.heap bz_24 kz_24 .byte (256 : Int32) (fun j => Value.int (own_vf (own_l4 x0 x1 x2 x3) nxn j)) := Y24_4.keep K36 nin0
  have Z48 : n0 ≤ T36.heap.size := Nat.le_trans Z32 K36.1
  have K49 : Keep h0 T36.heap [] := K33.trans K36 all0
  have g_b_36 : n0 ≤ b_36 := Nat.le_trans Z32 s36_b
  have sz_b_36 : h0.size ≤ b_36 := Nat.le_trans K33.1 s36_b
  have ne_bA_b_36 : bA ≠ b_36 := Nat.ne_of_lt (Nat.lt_of_lt_of_le Y24_0.lt s36_b)
  have ne_b_16_b_36 : b_16 ≠ b_36 := Nat.ne_of_lt (Nat.lt_of_lt_of_le F27.lt s36_b)
  have ne_bv_16_b_36 : bv_16 ≠ b_36 := Nat.ne_of_lt (Nat.lt_of_lt_of_le F30.lt s36_b)
  have ne_bc_24_b_36 : bc_24 ≠ b_36 := Nat.ne_of_lt (Nat.lt_of_lt_of_le Y24_3.lt s36_b)
  have ne_bz_24_b_36 : bz_24 ≠ b_36 := Nat.ne_of_lt (Nat.lt_of_lt_of_le Y24_4.lt s36_b)
  have N36 := Fr.app N24 N36q
  have P50 : ∀ t, Steps p.tables e below (T36.setTop (mkF m 90 #[.val (.int p1), .val (.int p2), .val (.int p3), .val (.int p4), .val (.int x0), .val (.int x1), .val (.int x2), .val (.int x3), .val (.int nx), .val (.int lf), .val (.ref bA), .unset, .unset, .unset, .unset, .unset, .unset, .unset, .unset, .unset] [(.ref b_36)])) t → Steps p.tables e below (s₁.setTop (entryFrame m #[(.int p1), (.int p2), (.int p3), (.int p4)] maxLocals)) t := fun t k => P35 _ (st36.trans k)
  have P51 : ∀ t, Steps p.tables e below (T36.setTop (mkF m 123 #[.val (.int p1), .val (.int p2), .val (.int p3), .val (.int p4), .val (.int x0), .val (.int x1), .val (.int x2), .val (.int x3), .val (.int nx), .val (.int lf), .val (.ref bA), .val (.ref b_36), .unset, .unset, .unset, .unset, .unset, .unset, .unset, .unset] [(.int (4 : Int32))])) t → Steps p.tables e below (s₁.setTop (entryFrame m #[(.int p1), (.int p2), (.int p3), (.int p4)] maxLocals)) t := by
    intro t k
    refine P50 _ ?_
    refine XS.astore X36.here hx rfl (hb hby at_90) rfl rfl (l' := #[.val (.int p1), .val (.int p2), .val (.int p3), .val (.int p4), .val (.int x0), .val (.int x1), .val (.int x2), .val (.int x3), .val (.int nx), .val (.int lf), .val (.ref bA), .val (.ref b_36), .unset, .unset, .unset, .unset, .unset, .unset, .unset, .unset]) rfl ?_
    show Steps p.tables e below (T36.setTop (mkF m 92 #[.val (.int p1), .val (.int p2), .val (.int p3), .val (.int p4), .val (.int x0), .val (.int x1), .val (.int x2), .val (.int x3), .val (.int nx), .val (.int lf), .val (.ref bA), .val (.ref b_36), .unset, .unset, .unset, .unset, .unset, .unset, .unset, .unset] [])) _
    refine XS.iload X36.here hx rfl (hb hby at_92) rfl ?_
    show Steps p.tables e below (T36.setTop (mkF m 94 #[.val (.int p1), .val (.int p2), .val (.int p3), .val (.int p4), .val (.int x0), .val (.int x1), .val (.int x2), .val (.int x3), .val (.int nx), .val (.int lf), .val (.ref bA), .val (.ref b_36), .unset, .unset, .unset, .unset, .unset, .unset, .unset, .unset] [(.int nx)])) _
    refine XS.ifYes X36.here hx rfl (pc0 := 94) (pc' := 109) rfl (hb hby at_94) rfl (XT.i0_ne_t hnz) (by decide) (by decide) ?_
    show Steps p.tables e below (T36.setTop (mkF m 109 #[.val (.int p1), .val (.int p2), .val (.int p3), .val (.int p4), .val (.int x0), .val (.int x1), .val (.int x2), .val (.int x3), .val (.int nx), .val (.int lf), .val (.ref bA), .val (.ref b_36), .unset, .unset, .unset, .unset, .unset, .unset, .unset, .unset] [])) _
    refine XS.aload X36.here hx rfl (hb hby at_109) rfl rfl ?_
    show Steps p.tables e below (T36.setTop (mkF m 111 #[.val (.int p1), .val (.int p2), .val (.int p3), .val (.int p4), .val (.int x0), .val (.int x1), .val (.int x2), .val (.int x3), .val (.int nx), .val (.int lf), .val (.ref bA), .val (.ref b_36), .unset, .unset, .unset, .unset, .unset, .unset, .unset, .unset] [(.ref b_36)])) _
    refine own_flen X36 hx hZ rfl Y36_0 rfl rfl (hb hby at_111) ?_
    show Steps p.tables e below (T36.setTop (mkF m 112 #[.val (.int p1), .val (.int p2), .val (.int p3), .val (.int p4), .val (.int x0), .val (.int x1), .val (.int x2), .val (.int x3), .val (.int nx), .val (.int lf), .val (.ref bA), .val (.ref b_36), .unset, .unset, .unset, .unset, .unset, .unset, .unset, .unset] [(.int nq_36)])) _
    refine XS.iload X36.here hx rfl (hb hby at_112) rfl ?_
    show Steps p.tables e below (T36.setTop (mkF m 114 #[.val (.int p1), .val (.int p2), .val (.int p3), .val (.int p4), .val (.int x0), .val (.int x1), .val (.int x2), .val (.int x3), .val (.int nx), .val (.int lf), .val (.ref bA), .val (.ref b_36), .unset, .unset, .unset, .unset, .unset, .unset, .unset, .unset] [(.int nx), (.int nq_36)])) _
    refine XS.iload X36.here hx rfl (hb hby at_114) rfl ?_
    show Steps p.tables e below (T36.setTop (mkF m 116 #[.val (.int p1), .val (.int p2), .val (.int p3), .val (.int p4), .val (.int x0), .val (.int x1), .val (.int x2), .val (.int x3), .val (.int nx), .val (.int lf), .val (.ref bA), .val (.ref b_36), .unset, .unset, .unset, .unset, .unset, .unset, .unset, .unset] [(.int nx), (.int nx), (.int nq_36)])) _
    refine XS.imul X36.here hx rfl (hb hby at_116) rfl ?_
    show Steps p.tables e below (T36.setTop (mkF m 117 #[.val (.int p1), .val (.int p2), .val (.int p3), .val (.int p4), .val (.int x0), .val (.int x1), .val (.int x2), .val (.int x3), .val (.int nx), .val (.int lf), .val (.ref bA), .val (.ref b_36), .unset, .unset, .unset, .unset, .unset, .unset, .unset, .unset] [(.int (nx * nx)), (.int nq_36)])) _
    refine XS.icmpYes X36.here hx rfl (pc0 := 117) (pc' := 122) rfl (hb hby at_117) rfl (XT.ii_eq_t Y36_1) (by decide) (by decide) ?_
    show Steps p.tables e below (T36.setTop (mkF m 122 #[.val (.int p1), .val (.int p2), .val (.int p3), .val (.int p4), .val (.int x0), .val (.int x1), .val (.int x2), .val (.int x3), .val (.int nx), .val (.int lf), .val (.ref bA), .val (.ref b_36), .unset, .unset, .unset, .unset, .unset, .unset, .unset, .unset] [])) _
    refine XS.iconst X36.here hx rfl (hb hby at_122) ?_
    show Steps p.tables e below (T36.setTop (mkF m 123 #[.val (.int p1), .val (.int p2), .val (.int p3), .val (.int p4), .val (.int x0), .val (.int x1), .val (.int x2), .val (.int x3), .val (.int nx), .val (.int lf), .val (.ref bA), .val (.ref b_36), .unset, .unset, .unset, .unset, .unset, .unset, .unset, .unset] [(.int (4 : Int32))])) _
    exact k
  obtain ⟨T52, h52, k52, X52, e52, E52, A52, st52⟩ := newP X36 hx hZ (hw _ (List.mem_of_getElem? (i := 8) rfl)) rfl (g := (mkF m 123 #[.val (.int p1), .val (.int p2), .val (.int p3), .val (.int p4), .val (.int x0), .val (.int x1), .val (.int x2), .val (.int x3), .val (.int nx), .val (.int lf), .val (.ref bA), .val (.ref b_36), .unset, .unset, .unset, .unset, .unset, .unset, .unset, .unset] [(.int (4 : Int32))])) rfl (hb hby at_123) rfl (by decide) (cap := 4) (by decide) (by decide) (by decide) (by decide)
  obtain ⟨ba, g52⟩ : ∃ z, z = T36.heap.size := ⟨_, rfl⟩
  rw [← g52] at A52 st52
  have F53 : Old Z n0 h52 := F37.ext E52
  have F54 : Exa Z h52 bA "com/example/basewright/basewright/Alphabet" := F38.ext E52
  have F55 : Exa Z h52 b_16 "java/lang/String" := F39.ext E52
  have F56 : Fld Z h52 b_16 "java/lang/String" "value" "[B" (.ref bv_16) := F40.ext E52
  have F57 : Fld Z h52 b_16 "java/lang/String" "coder" "B" (.int (0 : Int32)) := F41.ext E52
  have F58 : own_Af Z h52 bv_16 kb_16 .byte nx (fun i => Value.int ((own_l4 x0 x1 x2 x3) i)) := F42.ext E52
  have F59 : Exa Z h52 bv_16 "[B" := F43.ext E52
  have F60 : Fld Z h52 bA "com/example/basewright/basewright/Alphabet" "characters" "[B" (.ref bc_24) := F44.ext E52
  have F61 : Fld Z h52 bA "com/example/basewright/basewright/Alphabet" "values" "[B" (.ref bz_24) := F45.ext E52
  have F62 : own_Af Z h52 bc_24 kb_16 .byte nx (fun i => Value.int ((own_l4 x0 x1 x2 x3) i)) := F46.ext E52
  have F63 : own_Af Z h52 bz_24 kz_24 .byte (256 : Int32) (fun j => Value.int (own_vf (own_l4 x0 x1 x2 x3) nxn j)) := F47.ext E52
  have F64 : own_Af Z h52 b_36 kp_36 .short nq_36 (fun j => Value.int (own_pv (own_l4 x0 x1 x2 x3) nxn lf j)) := Y36_0.ext E52
  obtain ⟨kc_ba, hkc_ba⟩ : ∃ z, z = k52 := ⟨_, rfl⟩
  rw [← hkc_ba] at A52
  have F65 : Arv Z h52 ba kc_ba .char (4 : Int32) [(.int (0 : Int32)), (.int (0 : Int32)), (.int (0 : Int32)), (.int (0 : Int32))] (.int (0 : Int32)) := (Arv.new A52 (by decide)).pad (pad_rep [] (.int (0 : Int32)) 4)
  have Z66 : n0 ≤ h52.size := Nat.le_trans Z48 E52.1
  have K67 : Keep h0 h52 [] := K49.ext E52
  have g_ba : n0 ≤ ba := Nat.le_trans Z48 (Nat.le_of_eq g52.symm)
  have sz_ba : h0.size ≤ ba := Nat.le_trans K49.1 (Nat.le_of_eq g52.symm)
  have ne_bA_ba : bA ≠ ba := Nat.ne_of_lt (Nat.lt_of_lt_of_le F38.lt (Nat.le_of_eq g52.symm))
  have ne_b_16_ba : b_16 ≠ ba := Nat.ne_of_lt (Nat.lt_of_lt_of_le F39.lt (Nat.le_of_eq g52.symm))
  have ne_bv_16_ba : bv_16 ≠ ba := Nat.ne_of_lt (Nat.lt_of_lt_of_le F42.lt (Nat.le_of_eq g52.symm))
  have ne_bc_24_ba : bc_24 ≠ ba := Nat.ne_of_lt (Nat.lt_of_lt_of_le F46.lt (Nat.le_of_eq g52.symm))
  have ne_bz_24_ba : bz_24 ≠ ba := Nat.ne_of_lt (Nat.lt_of_lt_of_le F47.lt (Nat.le_of_eq g52.symm))
  have ne_b_36_ba : b_36 ≠ ba := Nat.ne_of_lt (Nat.lt_of_lt_of_le Y36_0.lt (Nat.le_of_eq g52.symm))
  have P68 : ∀ t, Steps p.tables e below (T52.setTop (mkF m 125 #[.val (.int p1), .val (.int p2), .val (.int p3), .val (.int p4), .val (.int x0), .val (.int x1), .val (.int x2), .val (.int x3), .val (.int nx), .val (.int lf), .val (.ref bA), .val (.ref b_36), .unset, .unset, .unset, .unset, .unset, .unset, .unset, .unset] [(.ref ba)])) t → Steps p.tables e below (s₁.setTop (entryFrame m #[(.int p1), (.int p2), (.int p3), (.int p4)] maxLocals)) t := fun t k => P51 _ (st52 _ k)
  have P69 : ∀ t, Steps p.tables e below (T52.setTop (mkF m 129 #[.val (.int p1), .val (.int p2), .val (.int p3), .val (.int p4), .val (.int x0), .val (.int x1), .val (.int x2), .val (.int x3), .val (.int nx), .val (.int lf), .val (.ref bA), .val (.ref b_36), .unset, .unset, .unset, .unset, .unset, .unset, .unset, .unset] [(.int x0), (.int (0 : Int32)), (.ref ba), (.ref ba)])) t → Steps p.tables e below (s₁.setTop (entryFrame m #[(.int p1), (.int p2), (.int p3), (.int p4)] maxLocals)) t := by
    intro t k
    refine P68 _ ?_
    refine XS.dup X52.here hx rfl (hb hby at_125) rfl rfl ?_
    show Steps p.tables e below (T52.setTop (mkF m 126 #[.val (.int p1), .val (.int p2), .val (.int p3), .val (.int p4), .val (.int x0), .val (.int x1), .val (.int x2), .val (.int x3), .val (.int nx), .val (.int lf), .val (.ref bA), .val (.ref b_36), .unset, .unset, .unset, .unset, .unset, .unset, .unset, .unset] [(.ref ba), (.ref ba)])) _
    refine XS.iconst X52.here hx rfl (hb hby at_126) ?_
    show Steps p.tables e below (T52.setTop (mkF m 127 #[.val (.int p1), .val (.int p2), .val (.int p3), .val (.int p4), .val (.int x0), .val (.int x1), .val (.int x2), .val (.int x3), .val (.int nx), .val (.int lf), .val (.ref bA), .val (.ref b_36), .unset, .unset, .unset, .unset, .unset, .unset, .unset, .unset] [(.int (0 : Int32)), (.ref ba), (.ref ba)])) _
    refine XS.iload X52.here hx rfl (hb hby at_127) rfl ?_
    show Steps p.tables e below (T52.setTop (mkF m 129 #[.val (.int p1), .val (.int p2), .val (.int p3), .val (.int p4), .val (.int x0), .val (.int x1), .val (.int x2), .val (.int x3), .val (.int nx), .val (.int lf), .val (.ref bA), .val (.ref b_36), .unset, .unset, .unset, .unset, .unset, .unset, .unset, .unset] [(.int x0), (.int (0 : Int32)), (.ref ba), (.ref ba)])) _
    exact k
  obtain ⟨cl70, Ar70, q70, S70, M70, H70, G70⟩ := F65
  have in70 : ¬ ((0 : Int32) < 0 ∨ cl70.slots.size ≤ ((0 : Int32)).toNatClampNeg) := inb_of S70 ⟨by decide, by decide⟩
  obtain ⟨T70, h70, X70, e70, W70, st70⟩ := stC X52 hx hZ e52 Ar70 (j := (0 : Int32)) in70 (g := (mkF m 129 #[.val (.int p1), .val (.int p2), .val (.int p3), .val (.int p4), .val (.int x0), .val (.int x1), .val (.int x2), .val (.int x3), .val (.int nx), .val (.int lf), .val (.ref bA), .val (.ref b_36), .unset, .unset, .unset, .unset, .unset, .unset, .unset, .unset] [(.int x0), (.int (0 : Int32)), (.ref ba), (.ref ba)])) rfl rfl (hb hby at_129)
  rw [own_cc hc_x0] at W70
  have F71 : Old Z n0 h70 := F53.wr W70 g_ba
  have F72 : Exa Z h70 bA "com/example/basewright/basewright/Alphabet" := F54.wr W70
  have F73 : Exa Z h70 b_16 "java/lang/String" := F55.wr W70
  have F74 : Fld Z h70 b_16 "java/lang/String" "value" "[B" (.ref bv_16) := F56.other W70 (Or.inl ne_b_16_ba)
  have F75 : Fld Z h70 b_16 "java/lang/String" "coder" "B" (.int (0 : Int32)) := F57.other W70 (Or.inl ne_b_16_ba)
  have F76 : own_Af Z h70 bv_16 kb_16 .byte nx (fun i => Value.int ((own_l4 x0 x1 x2 x3) i)) := F58.other W70 ne_bv_16_ba
  have F77 : Exa Z h70 bv_16 "[B" := F59.wr W70
  have F78 : Fld Z h70 bA "com/example/basewright/basewright/Alphabet" "characters" "[B" (.ref bc_24) := F60.other W70 (Or.inl ne_bA_ba)
  have F79 : Fld Z h70 bA "com/example/basewright/basewright/Alphabet" "values" "[B" (.ref bz_24) := F61.other W70 (Or.inl ne_bA_ba)
  have F80 : own_Af Z h70 bc_24 kb_16 .byte nx (fun i => Value.int ((own_l4 x0 x1 x2 x3) i)) := F62.other W70 ne_bc_24_ba
  have F81 : own_Af Z h70 bz_24 kz_24 .byte (256 : Int32) (fun j => Value.int (own_vf (own_l4 x0 x1 x2 x3) nxn j)) := F63.other W70 ne_bz_24_ba
  have F82 : own_Af Z h70 b_36 kp_36 .short nq_36 (fun j => Value.int (own_pv (own_l4 x0 x1 x2 x3) nxn lf j)) := F64.other W70 ne_b_36_ba
  have F83 : Arv Z h70 ba kc_ba .char (4 : Int32) [(.int x0), (.int (0 : Int32)), (.int (0 : Int32)), (.int (0 : Int32))] (.int (0 : Int32)) := Arv.set Ar70 q70 S70 M70 H70 G70 (by have q := fits_nar_char x0; first | exact own_cc hc_x0 ▸ q | (rw [own_cc hc_x0] at q; exact q) | (simp only [nar] at q; exact q)) W70 0 rfl (Nat.le_of_ble_eq_true rfl)
  have Z84 : n0 ≤ h70.size := Nat.le_trans Z66 (Keep.of_wr W70).1
  have K85 : Keep h0 h70 [] := K67.wr W70 (Or.inr sz_ba)
  have N70 := Fr.snoc X70 N36 g_ba
  have P86 : ∀ t, Steps p.tables e below (T70.setTop (mkF m 130 #[.val (.int p1), .val (.int p2), .val (.int p3), .val (.int p4), .val (.int x0), .val (.int x1), .val (.int x2), .val (.int x3), .val (.int nx), .val (.int lf), .val (.ref bA), .val (.ref b_36), .unset, .unset, .unset, .unset, .unset, .unset, .unset, .unset] [(.ref ba)])) t → Steps p.tables e below (s₁.setTop (entryFrame m #[(.int p1), (.int p2), (.int p3), (.int p4)] maxLocals)) t := fun t k => P69 _ (st70 _ k)
  have P87 : ∀ t, Steps p.tables e below (T70.setTop (mkF m 134 #[.val (.int p1), .val (.int p2), .val (.int p3), .val (.int p4), .val (.int x0), .val (.int x1), .val (.int x2), .val (.int x3), .val (.int nx), .val (.int lf), .val (.ref bA), .val (.ref b_36), .unset, .unset, .unset, .unset, .unset, .unset, .unset, .unset] [(.int x1), (.int (1 : Int32)), (.ref ba), (.ref ba)])) t → Steps p.tables e below (s₁.setTop (entryFrame m #[(.int p1), (.int p2), (.int p3), (.int p4)] maxLocals)) t := by
    intro t k
    refine P86 _ ?_
    refine XS.dup X70.here hx rfl (hb hby at_130) rfl rfl ?_
    show Steps p.tables e below (T70.setTop (mkF m 131 #[.val (.int p1), .val (.int p2), .val (.int p3), .val (.int p4), .val (.int x0), .val (.int x1), .val (.int x2), .val (.int x3), .val (.int nx), .val (.int lf), .val (.ref bA), .val (.ref b_36), .unset, .unset, .unset, .unset, .unset, .unset, .unset, .unset] [(.ref ba), (.ref ba)])) _
    refine XS.iconst X70.here hx rfl (hb hby at_131) ?_
    show Steps p.tables e below (T70.setTop (mkF m 132 #[.val (.int p1), .val (.int p2), .val (.int p3), .val (.int p4), .val (.int x0), .val (.int x1), .val (.int x2), .val (.int x3), .val (.int nx), .val (.int lf), .val (.ref bA), .val (.ref b_36), .unset, .unset, .unset, .unset, .unset, .unset, .unset, .unset] [(.int (1 : Int32)), (.ref ba), (.ref ba)])) _
    refine XS.iload X70.here hx rfl (hb hby at_132) rfl ?_
    show Steps p.tables e below (T70.setTop (mkF m 134 #[.val (.int p1), .val (.int p2), .val (.int p3), .val (.int p4), .val (.int x0), .val (.int x1), .val (.int x2), .val (.int x3), .val (.int nx), .val (.int lf), .val (.ref bA), .val (.ref b_36), .unset, .unset, .unset, .unset, .unset, .unset, .unset, .unset] [(.int x1), (.int (1 : Int32)), (.ref ba), (.ref ba)])) _
    exact k
  obtain ⟨cl88, Ar88, q88, S88, M88, H88, G88⟩ := F83
  have in88 : ¬ ((1 : Int32) < 0 ∨ cl88.slots.size ≤ ((1 : Int32)).toNatClampNeg) := inb_of S88 ⟨by decide, by decide⟩
  obtain ⟨T88, h88, X88, e88, W88, st88⟩ := stC X70 hx hZ e70 Ar88 (j := (1 : Int32)) in88 (g := (mkF m 134 #[.val (.int p1), .val (.int p2), .val (.int p3), .val (.int p4), .val (.int x0), .val (.int x1), .val (.int x2), .val (.int x3), .val (.int nx), .val (.int lf), .val (.ref bA), .val (.ref b_36), .unset, .unset, .unset, .unset, .unset, .unset, .unset, .unset] [(.int x1), (.int (1 : Int32)), (.ref ba), (.ref ba)])) rfl rfl (hb hby at_134)
  rw [own_cc hc_x1] at W88
  have F89 : Old Z n0 h88 := F71.wr W88 g_ba
  have F90 : Exa Z h88 bA "com/example/basewright/basewright/Alphabet" := F72.wr W88
  have F91 : Exa Z h88 b_16 "java/lang/String" := F73.wr W88
  have F92 : Fld Z h88 b_16 "java/lang/String" "value" "[B" (.ref bv_16) := F74.other W88 (Or.inl ne_b_16_ba)
  have F93 : Fld Z h88 b_16 "java/lang/String" "coder" "B" (.int (0 : Int32)) := F75.other W88 (Or.inl ne_b_16_ba)
  have F94 : own_Af Z h88 bv_16 kb_16 .byte nx (fun i => Value.int ((own_l4 x0 x1 x2 x3) i)) := F76.other W88 ne_bv_16_ba
  have F95 : Exa Z h88 bv_16 "[B" := F77.wr W88
  have F96 : Fld Z h88 bA "com/example/basewright/basewright/Alphabet" "characters" "[B" (.ref bc_24) := F78.other W88 (Or.inl ne_bA_ba)
  have F97 : Fld Z h88 bA "com/example/basewright/basewright/Alphabet" "values" "[B" (.ref bz_24) := F79.other W88 (Or.inl ne_bA_ba)
  have F98 : own_Af Z h88 bc_24 kb_16 .byte nx (fun i => Value.int ((own_l4 x0 x1 x2 x3) i)) := F80.other W88 ne_bc_24_ba
  have F99 : own_Af Z h88 bz_24 kz_24 .byte (256 : Int32) (fun j => Value.int (own_vf (own_l4 x0 x1 x2 x3) nxn j)) := F81.other W88 ne_bz_24_ba
  have F100 : own_Af Z h88 b_36 kp_36 .short nq_36 (fun j => Value.int (own_pv (own_l4 x0 x1 x2 x3) nxn lf j)) := F82.other W88 ne_b_36_ba
  have F101 : Arv Z h88 ba kc_ba .char (4 : Int32) [(.int x0), (.int x1), (.int (0 : Int32)), (.int (0 : Int32))] (.int (0 : Int32)) := Arv.set Ar88 q88 S88 M88 H88 G88 (by have q := fits_nar_char x1; first | exact own_cc hc_x1 ▸ q | (rw [own_cc hc_x1] at q; exact q) | (simp only [nar] at q; exact q)) W88 1 rfl (Nat.le_of_ble_eq_true rfl)
  have Z102 : n0 ≤ h88.size := Nat.le_trans Z84 (Keep.of_wr W88).1
  have K103 : Keep h0 h88 [] := K85.wr W88 (Or.inr sz_ba)
  have N88 := Fr.snoc X88 N70 g_ba
  have P104 : ∀ t, Steps p.tables e below (T88.setTop (mkF m 135 #[.val (.int p1), .val (.int p2), .val (.int p3), .val (.int p4), .val (.int x0), .val (.int x1), .val (.int x2), .val (.int x3), .val (.int nx), .val (.int lf), .val (.ref bA), .val (.ref b_36), .unset, .unset, .unset, .unset, .unset, .unset, .unset, .unset] [(.ref ba)])) t → Steps p.tables e below (s₁.setTop (entryFrame m #[(.int p1), (.int p2), (.int p3), (.int p4)] maxLocals)) t := fun t k => P87 _ (st88 _ k)
  have P105 : ∀ t, Steps p.tables e below (T88.setTop (mkF m 139 #[.val (.int p1), .val (.int p2), .val (.int p3), .val (.int p4), .val (.int x0), .val (.int x1), .val (.int x2), .val (.int x3), .val (.int nx), .val (.int lf), .val (.ref bA), .val (.ref b_36), .unset, .unset, .unset, .unset, .unset, .unset, .unset, .unset] [(.int x2), (.int (2 : Int32)), (.ref ba), (.ref ba)])) t → Steps p.tables e below (s₁.setTop (entryFrame m #[(.int p1), (.int p2), (.int p3), (.int p4)] maxLocals)) t := by
    intro t k
    refine P104 _ ?_
    refine XS.dup X88.here hx rfl (hb hby at_135) rfl rfl ?_
    show Steps p.tables e below (T88.setTop (mkF m 136 #[.val (.int p1), .val (.int p2), .val (.int p3), .val (.int p4), .val (.int x0), .val (.int x1), .val (.int x2), .val (.int x3), .val (.int nx), .val (.int lf), .val (.ref bA), .val (.ref b_36), .unset, .unset, .unset, .unset, .unset, .unset, .unset, .unset] [(.ref ba), (.ref ba)])) _
    refine XS.iconst X88.here hx rfl (hb hby at_136) ?_
    show Steps p.tables e below (T88.setTop (mkF m 137 #[.val (.int p1), .val (.int p2), .val (.int p3), .val (.int p4), .val (.int x0), .val (.int x1), .val (.int x2), .val (.int x3), .val (.int nx), .val (.int lf), .val (.ref bA), .val (.ref b_36), .unset, .unset, .unset, .unset, .unset, .unset, .unset, .unset] [(.int (2 : Int32)), (.ref ba), (.ref ba)])) _
    refine XS.iload X88.here hx rfl (hb hby at_137) rfl ?_
    show Steps p.tables e below (T88.setTop (mkF m 139 #[.val (.int p1), .val (.int p2), .val (.int p3), .val (.int p4), .val (.int x0), .val (.int x1), .val (.int x2), .val (.int x3), .val (.int nx), .val (.int lf), .val (.ref bA), .val (.ref b_36), .unset, .unset, .unset, .unset, .unset, .unset, .unset, .unset] [(.int x2), (.int (2 : Int32)), (.ref ba), (.ref ba)])) _
    exact k
  obtain ⟨cl106, Ar106, q106, S106, M106, H106, G106⟩ := F101
  have in106 : ¬ ((2 : Int32) < 0 ∨ cl106.slots.size ≤ ((2 : Int32)).toNatClampNeg) := inb_of S106 ⟨by decide, by decide⟩
  obtain ⟨T106, h106, X106, e106, W106, st106⟩ := stC X88 hx hZ e88 Ar106 (j := (2 : Int32)) in106 (g := (mkF m 139 #[.val (.int p1), .val (.int p2), .val (.int p3), .val (.int p4), .val (.int x0), .val (.int x1), .val (.int x2), .val (.int x3), .val (.int nx), .val (.int lf), .val (.ref bA), .val (.ref b_36), .unset, .unset, .unset, .unset, .unset, .unset, .unset, .unset] [(.int x2), (.int (2 : Int32)), (.ref ba), (.ref ba)])) rfl rfl (hb hby at_139)
  rw [own_cc hc_x2] at W106
  have F107 : Old Z n0 h106 := F89.wr W106 g_ba
  have F108 : Exa Z h106 bA "com/example/basewright/basewright/Alphabet" := F90.wr W106
  have F109 : Exa Z h106 b_16 "java/lang/String" := F91.wr W106
  have F110 : Fld Z h106 b_16 "java/lang/String" "value" "[B" (.ref bv_16) := F92.other W106 (Or.inl ne_b_16_ba)
  have F111 : Fld Z h106 b_16 "java/lang/String" "coder" "B" (.int (0 : Int32)) := F93.other W106 (Or.inl ne_b_16_ba)
  have F112 : own_Af Z h106 bv_16 kb_16 .byte nx (fun i => Value.int ((own_l4 x0 x1 x2 x3) i)) := F94.other W106 ne_bv_16_ba
  have F113 : Exa Z h106 bv_16 "[B" := F95.wr W106
  have F114 : Fld Z h106 bA "com/example/basewright/basewright/Alphabet" "characters" "[B" (.ref bc_24) := F96.other W106 (Or.inl ne_bA_ba)
  have F115 : Fld Z h106 bA "com/example/basewright/basewright/Alphabet" "values" "[B" (.ref bz_24) := F97.other W106 (Or.inl ne_bA_ba)
  have F116 : own_Af Z h106 bc_24 kb_16 .byte nx (fun i => Value.int ((own_l4 x0 x1 x2 x3) i)) := F98.other W106 ne_bc_24_ba
  have F117 : own_Af Z h106 bz_24 kz_24 .byte (256 : Int32) (fun j => Value.int (own_vf (own_l4 x0 x1 x2 x3) nxn j)) := F99.other W106 ne_bz_24_ba
  have F118 : own_Af Z h106 b_36 kp_36 .short nq_36 (fun j => Value.int (own_pv (own_l4 x0 x1 x2 x3) nxn lf j)) := F100.other W106 ne_b_36_ba
  have F119 : Arv Z h106 ba kc_ba .char (4 : Int32) [(.int x0), (.int x1), (.int x2), (.int (0 : Int32))] (.int (0 : Int32)) := Arv.set Ar106 q106 S106 M106 H106 G106 (by have q := fits_nar_char x2; first | exact own_cc hc_x2 ▸ q | (rw [own_cc hc_x2] at q; exact q) | (simp only [nar] at q; exact q)) W106 2 rfl (Nat.le_of_ble_eq_true rfl)
  have Z120 : n0 ≤ h106.size := Nat.le_trans Z102 (Keep.of_wr W106).1
  have K121 : Keep h0 h106 [] := K103.wr W106 (Or.inr sz_ba)
  have N106 := Fr.snoc X106 N88 g_ba
  have P122 : ∀ t, Steps p.tables e below (T106.setTop (mkF m 140 #[.val (.int p1), .val (.int p2), .val (.int p3), .val (.int p4), .val (.int x0), .val (.int x1), .val (.int x2), .val (.int x3), .val (.int nx), .val (.int lf), .val (.ref bA), .val (.ref b_36), .unset, .unset, .unset, .unset, .unset, .unset, .unset, .unset] [(.ref ba)])) t → Steps p.tables e below (s₁.setTop (entryFrame m #[(.int p1), (.int p2), (.int p3), (.int p4)] maxLocals)) t := fun t k => P105 _ (st106 _ k)
  have P123 : ∀ t, Steps p.tables e below (T106.setTop (mkF m 144 #[.val (.int p1), .val (.int p2), .val (.int p3), .val (.int p4), .val (.int x0), .val (.int x1), .val (.int x2), .val (.int x3), .val (.int nx), .val (.int lf), .val (.ref bA), .val (.ref b_36), .unset, .unset, .unset, .unset, .unset, .unset, .unset, .unset] [(.int x3), (.int (3 : Int32)), (.ref ba), (.ref ba)])) t → Steps p.tables e below (s₁.setTop (entryFrame m #[(.int p1), (.int p2), (.int p3), (.int p4)] maxLocals)) t := by
    intro t k
    refine P122 _ ?_
    refine XS.dup X106.here hx rfl (hb hby at_140) rfl rfl ?_
    show Steps p.tables e below (T106.setTop (mkF m 141 #[.val (.int p1), .val (.int p2), .val (.int p3), .val (.int p4), .val (.int x0), .val (.int x1), .val (.int x2), .val (.int x3), .val (.int nx), .val (.int lf), .val (.ref bA), .val (.ref b_36), .unset, .unset, .unset, .unset, .unset, .unset, .unset, .unset] [(.ref ba), (.ref ba)])) _
    refine XS.iconst X106.here hx rfl (hb hby at_141) ?_
    show Steps p.tables e below (T106.setTop (mkF m 142 #[.val (.int p1), .val (.int p2), .val (.int p3), .val (.int p4), .val (.int x0), .val (.int x1), .val (.int x2), .val (.int x3), .val (.int nx), .val (.int lf), .val (.ref bA), .val (.ref b_36), .unset, .unset, .unset, .unset, .unset, .unset, .unset, .unset] [(.int (3 : Int32)), (.ref ba), (.ref ba)])) _
    refine XS.iload X106.here hx rfl (hb hby at_142) rfl ?_
    show Steps p.tables e below (T106.setTop (mkF m 144 #[.val (.int p1), .val (.int p2), .val (.int p3), .val (.int p4), .val (.int x0), .val (.int x1), .val (.int x2), .val (.int x3), .val (.int nx), .val (.int lf), .val (.ref bA), .val (.ref b_36), .unset, .unset, .unset, .unset, .unset, .unset, .unset, .unset] [(.int x3), (.int (3 : Int32)), (.ref ba), (.ref ba)])) _
    exact k
  obtain ⟨cl124, Ar124, q124, S124, M124, H124, G124⟩ := F119
  have in124 : ¬ ((3 : Int32) < 0 ∨ cl124.slots.size ≤ ((3 : Int32)).toNatClampNeg) := inb_of S124 ⟨by decide, by decide⟩
  obtain ⟨T124, h124, X124, e124, W124, st124⟩ := stC X106 hx hZ e106 Ar124 (j := (3 : Int32)) in124 (g := (mkF m 144 #[.val (.int p1), .val (.int p2), .val (.int p3), .val (.int p4), .val (.int x0), .val (.int x1), .val (.int x2), .val (.int x3), .val (.int nx), .val (.int lf), .val (.ref bA), .val (.ref b_36), .unset, .unset, .unset, .unset, .unset, .unset, .unset, .unset] [(.int x3), (.int (3 : Int32)), (.ref ba), (.ref ba)])) rfl rfl (hb hby at_144)
  rw [own_cc hc_x3] at W124
  have F125 : Old Z n0 h124 := F107.wr W124 g_ba
  have F126 : Exa Z h124 bA "com/example/basewright/basewright/Alphabet" := F108.wr W124
  have F127 : Exa Z h124 b_16 "java/lang/String" := F109.wr W124
  have F128 : Fld Z h124 b_16 "java/lang/String" "value" "[B" (.ref bv_16) := F110.other W124 (Or.inl ne_b_16_ba)
  have F129 : Fld Z h124 b_16 "java/lang/String" "coder" "B" (.int (0 : Int32)) := F111.other W124 (Or.inl ne_b_16_ba)
  have F130 : own_Af Z h124 bv_16 kb_16 .byte nx (fun i => Value.int ((own_l4 x0 x1 x2 x3) i)) := F112.other W124 ne_bv_16_ba
  have F131 : Exa Z h124 bv_16 "[B" := F113.wr W124
  have F132 : Fld Z h124 bA "com/example/basewright/basewright/Alphabet" "characters" "[B" (.ref bc_24) := F114.other W124 (Or.inl ne_bA_ba)
  have F133 : Fld Z h124 bA "com/example/basewright/basewright/Alphabet" "values" "[B" (.ref bz_24) := F115.other W124 (Or.inl ne_bA_ba)
  have F134 : own_Af Z h124 bc_24 kb_16 .byte nx (fun i => Value.int ((own_l4 x0 x1 x2 x3) i)) := F116.other W124 ne_bc_24_ba
  have F135 : own_Af Z h124 bz_24 kz_24 .byte (256 : Int32) (fun j => Value.int (own_vf (own_l4 x0 x1 x2 x3) nxn j)) := F117.other W124 ne_bz_24_ba
  have F136 : own_Af Z h124 b_36 kp_36 .short nq_36 (fun j => Value.int (own_pv (own_l4 x0 x1 x2 x3) nxn lf j)) := F118.other W124 ne_b_36_ba
  have F137 : Arv Z h124 ba kc_ba .char (4 : Int32) [(.int x0), (.int x1), (.int x2), (.int x3)] (.int (0 : Int32)) := Arv.set Ar124 q124 S124 M124 H124 G124 (by have q := fits_nar_char x3; first | exact own_cc hc_x3 ▸ q | (rw [own_cc hc_x3] at q; exact q) | (simp only [nar] at q; exact q)) W124 3 rfl (Nat.le_of_ble_eq_true rfl)
  have Z138 : n0 ≤ h124.size := Nat.le_trans Z120 (Keep.of_wr W124).1
  have K139 : Keep h0 h124 [] := K121.wr W124 (Or.inr sz_ba)
  have N124 := Fr.snoc X124 N106 g_ba
  have P140 : ∀ t, Steps p.tables e below (T124.setTop (mkF m 145 #[.val (.int p1), .val (.int p2), .val (.int p3), .val (.int p4), .val (.int x0), .val (.int x1), .val (.int x2), .val (.int x3), .val (.int nx), .val (.int lf), .val (.ref bA), .val (.ref b_36), .unset, .unset, .unset, .unset, .unset, .unset, .unset, .unset] [(.ref ba)])) t → Steps p.tables e below (s₁.setTop (entryFrame m #[(.int p1), (.int p2), (.int p3), (.int p4)] maxLocals)) t := fun t k => P123 _ (st124 _ k)
  have P141 : ∀ t, Steps p.tables e below (T124.setTop (mkF m 156 #[.val (.int p1), .val (.int p2), .val (.int p3), .val (.int p4), .val (.int x0), .val (.int x1), .val (.int x2), .val (.int x3), .val (.int nx), .val (.int lf), .val (.ref bA), .val (.ref b_36), .val (.ref ba), .val (.int ((p3 &&& (2147483647 : Int32)) % nx)), .unset, .unset, .unset, .unset, .unset, .unset] [])) t → Steps p.tables e below (s₁.setTop (entryFrame m #[(.int p1), (.int p2), (.int p3), (.int p4)] maxLocals)) t := by
    intro t k
    refine P140 _ ?_
    refine XS.astore X124.here hx rfl (hb hby at_145) rfl rfl (l' := #[.val (.int p1), .val (.int p2), .val (.int p3), .val (.int p4), .val (.int x0), .val (.int x1), .val (.int x2), .val (.int x3), .val (.int nx), .val (.int lf), .val (.ref bA), .val (.ref b_36), .val (.ref ba), .unset, .unset, .unset, .unset, .unset, .unset, .unset]) rfl ?_
    show Steps p.tables e below (T124.setTop (mkF m 147 #[.val (.int p1), .val (.int p2), .val (.int p3), .val (.int p4), .val (.int x0), .val (.int x1), .val (.int x2), .val (.int x3), .val (.int nx), .val (.int lf), .val (.ref bA), .val (.ref b_36), .val (.ref ba), .unset, .unset, .unset, .unset, .unset, .unset, .unset] [])) _
    refine XS.iloadN X124.here hx rfl (hb hby at_147) rfl ?_
    show Steps p.tables e below (T124.setTop (mkF m 148 #[.val (.int p1), .val (.int p2), .val (.int p3), .val (.int p4), .val (.int x0), .val (.int x1), .val (.int x2), .val (.int x3), .val (.int nx), .val (.int lf), .val (.ref bA), .val (.ref b_36), .val (.ref ba), .unset, .unset, .unset, .unset, .unset, .unset, .unset] [(.int p3)])) _
    refine Jvm.Stand.ldcI X124 hx hown (mvT hZ (hw _ (List.mem_of_getElem? (i := 0) rfl))) rfl (hb hby at_148) ?_
    show Steps p.tables e below (T124.setTop (mkF m 150 #[.val (.int p1), .val (.int p2), .val (.int p3), .val (.int p4), .val (.int x0), .val (.int x1), .val (.int x2), .val (.int x3), .val (.int nx), .val (.int lf), .val (.ref bA), .val (.ref b_36), .val (.ref ba), .unset, .unset, .unset, .unset, .unset, .unset, .unset] [(.int (2147483647 : Int32)), (.int p3)])) _
    refine XS.iand X124.here hx rfl (hb hby at_150) rfl ?_
    show Steps p.tables e below (T124.setTop (mkF m 151 #[.val (.int p1), .val (.int p2), .val (.int p3), .val (.int p4), .val (.int x0), .val (.int x1), .val (.int x2), .val (.int x3), .val (.int nx), .val (.int lf), .val (.ref bA), .val (.ref b_36), .val (.ref ba), .unset, .unset, .unset, .unset, .unset, .unset, .unset] [(.int (p3 &&& (2147483647 : Int32)))])) _
    refine XS.iload X124.here hx rfl (hb hby at_151) rfl ?_
    show Steps p.tables e below (T124.setTop (mkF m 153 #[.val (.int p1), .val (.int p2), .val (.int p3), .val (.int p4), .val (.int x0), .val (.int x1), .val (.int x2), .val (.int x3), .val (.int nx), .val (.int lf), .val (.ref bA), .val (.ref b_36), .val (.ref ba), .unset, .unset, .unset, .unset, .unset, .unset, .unset] [(.int nx), (.int (p3 &&& (2147483647 : Int32)))])) _
    refine iremM X124 hx rfl (hb hby at_153) rfl hnz ?_
    show Steps p.tables e below (T124.setTop (mkF m 154 #[.val (.int p1), .val (.int p2), .val (.int p3), .val (.int p4), .val (.int x0), .val (.int x1), .val (.int x2), .val (.int x3), .val (.int nx), .val (.int lf), .val (.ref bA), .val (.ref b_36), .val (.ref ba), .unset, .unset, .unset, .unset, .unset, .unset, .unset] [(.int ((p3 &&& (2147483647 : Int32)) % nx))])) _
    refine XS.istore X124.here hx rfl (hb hby at_154) rfl (l' := #[.val (.int p1), .val (.int p2), .val (.int p3), .val (.int p4), .val (.int x0), .val (.int x1), .val (.int x2), .val (.int x3), .val (.int nx), .val (.int lf), .val (.ref bA), .val (.ref b_36), .val (.ref ba), .val (.int ((p3 &&& (2147483647 : Int32)) % nx)), .unset, .unset, .unset, .unset, .unset, .unset]) rfl ?_
    show Steps p.tables e below (T124.setTop (mkF m 156 #[.val (.int p1), .val (.int p2), .val (.int p3), .val (.int p4), .val (.int x0), .val (.int x1), .val (.int x2), .val (.int x3), .val (.int nx), .val (.int lf), .val (.ref bA), .val (.ref b_36), .val (.ref ba), .val (.int ((p3 &&& (2147483647 : Int32)) % nx)), .unset, .unset, .unset, .unset, .unset, .unset] [])) _
    exact k
  obtain ⟨di, hdi⟩ : ∃ z : Int32, z = ((p3 &&& (2147483647 : Int32)) % nx) := ⟨_, rfl⟩
  rw [← hdi] at P141
  have h4_di := own_ij hdi hnx hn1 hn4
  have P142 : ∀ t, Steps p.tables e below (T124.setTop (mkF m 165 #[.val (.int p1), .val (.int p2), .val (.int p3), .val (.int p4), .val (.int x0), .val (.int x1), .val (.int x2), .val (.int x3), .val (.int nx), .val (.int lf), .val (.ref bA), .val (.ref b_36), .val (.ref ba), .val (.int di), .val (.int ((p4 &&& (2147483647 : Int32)) % nx)), .unset, .unset, .unset, .unset, .unset] [])) t → Steps p.tables e below (s₁.setTop (entryFrame m #[(.int p1), (.int p2), (.int p3), (.int p4)] maxLocals)) t := by
    intro t k
    refine P141 _ ?_
    refine XS.iloadN X124.here hx rfl (hb hby at_156) rfl ?_
    show Steps p.tables e below (T124.setTop (mkF m 157 #[.val (.int p1), .val (.int p2), .val (.int p3), .val (.int p4), .val (.int x0), .val (.int x1), .val (.int x2), .val (.int x3), .val (.int nx), .val (.int lf), .val (.ref bA), .val (.ref b_36), .val (.ref ba), .val (.int di), .unset, .unset, .unset, .unset, .unset, .unset] [(.int p4)])) _
    refine Jvm.Stand.ldcI X124 hx hown (mvT hZ (hw _ (List.mem_of_getElem? (i := 0) rfl))) rfl (hb hby at_157) ?_
    show Steps p.tables e below (T124.setTop (mkF m 159 #[.val (.int p1), .val (.int p2), .val (.int p3), .val (.int p4), .val (.int x0), .val (.int x1), .val (.int x2), .val (.int x3), .val (.int nx), .val (.int lf), .val (.ref bA), .val (.ref b_36), .val (.ref ba), .val (.int di), .unset, .unset, .unset, .unset, .unset, .unset] [(.int (2147483647 : Int32)), (.int p4)])) _
    refine XS.iand X124.here hx rfl (hb hby at_159) rfl ?_
    show Steps p.tables e below (T124.setTop (mkF m 160 #[.val (.int p1), .val (.int p2), .val (.int p3), .val (.int p4), .val (.int x0), .val (.int x1), .val (.int x2), .val (.int x3), .val (.int nx), .val (.int lf), .val (.ref bA), .val (.ref b_36), .val (.ref ba), .val (.int di), .unset, .unset, .unset, .unset, .unset, .unset] [(.int (p4 &&& (2147483647 : Int32)))])) _
    refine XS.iload X124.here hx rfl (hb hby at_160) rfl ?_
    show Steps p.tables e below (T124.setTop (mkF m 162 #[.val (.int p1), .val (.int p2), .val (.int p3), .val (.int p4), .val (.int x0), .val (.int x1), .val (.int x2), .val (.int x3), .val (.int nx), .val (.int lf), .val (.ref bA), .val (.ref b_36), .val (.ref ba), .val (.int di), .unset, .unset, .unset, .unset, .unset, .unset] [(.int nx), (.int (p4 &&& (2147483647 : Int32)))])) _
    refine iremM X124 hx rfl (hb hby at_162) rfl hnz ?_
    show Steps p.tables e below (T124.setTop (mkF m 163 #[.val (.int p1), .val (.int p2), .val (.int p3), .val (.int p4), .val (.int x0), .val (.int x1), .val (.int x2), .val (.int x3), .val (.int nx), .val (.int lf), .val (.ref bA), .val (.ref b_36), .val (.ref ba), .val (.int di), .unset, .unset, .unset, .unset, .unset, .unset] [(.int ((p4 &&& (2147483647 : Int32)) % nx))])) _
    refine XS.istore X124.here hx rfl (hb hby at_163) rfl (l' := #[.val (.int p1), .val (.int p2), .val (.int p3), .val (.int p4), .val (.int x0), .val (.int x1), .val (.int x2), .val (.int x3), .val (.int nx), .val (.int lf), .val (.ref bA), .val (.ref b_36), .val (.ref ba), .val (.int di), .val (.int ((p4 &&& (2147483647 : Int32)) % nx)), .unset, .unset, .unset, .unset, .unset]) rfl ?_
    show Steps p.tables e below (T124.setTop (mkF m 165 #[.val (.int p1), .val (.int p2), .val (.int p3), .val (.int p4), .val (.int x0), .val (.int x1), .val (.int x2), .val (.int x3), .val (.int nx), .val (.int lf), .val (.ref bA), .val (.ref b_36), .val (.ref ba), .val (.int di), .val (.int ((p4 &&& (2147483647 : Int32)) % nx)), .unset, .unset, .unset, .unset, .unset] [])) _
    exact k
  obtain ⟨dj, hdj⟩ : ∃ z : Int32, z = ((p4 &&& (2147483647 : Int32)) % nx) := ⟨_, rfl⟩
  rw [← hdj] at P142
  have h4_dj := own_ij hdj hnx hn1 hn4
  have P143 : ∀ t, Steps p.tables e below (T124.setTop (mkF m 175 #[.val (.int p1), .val (.int p2), .val (.int p3), .val (.int p4), .val (.int x0), .val (.int x1), .val (.int x2), .val (.int x3), .val (.int nx), .val (.int lf), .val (.ref bA), .val (.ref b_36), .val (.ref ba), .val (.int di), .val (.int dj), .val (.int ((di * nx) + dj)), .unset, .unset, .unset, .unset] [])) t → Steps p.tables e below (s₁.setTop (entryFrame m #[(.int p1), (.int p2), (.int p3), (.int p4)] maxLocals)) t := by
    intro t k
    refine P142 _ ?_
    refine XS.iload X124.here hx rfl (hb hby at_165) rfl ?_
    show Steps p.tables e below (T124.setTop (mkF m 167 #[.val (.int p1), .val (.int p2), .val (.int p3), .val (.int p4), .val (.int x0), .val (.int x1), .val (.int x2), .val (.int x3), .val (.int nx), .val (.int lf), .val (.ref bA), .val (.ref b_36), .val (.ref ba), .val (.int di), .val (.int dj), .unset, .unset, .unset, .unset, .unset] [(.int di)])) _
    refine XS.iload X124.here hx rfl (hb hby at_167) rfl ?_
    show Steps p.tables e below (T124.setTop (mkF m 169 #[.val (.int p1), .val (.int p2), .val (.int p3), .val (.int p4), .val (.int x0), .val (.int x1), .val (.int x2), .val (.int x3), .val (.int nx), .val (.int lf), .val (.ref bA), .val (.ref b_36), .val (.ref ba), .val (.int di), .val (.int dj), .unset, .unset, .unset, .unset, .unset] [(.int nx), (.int di)])) _
    refine XS.imul X124.here hx rfl (hb hby at_169) rfl ?_
    show Steps p.tables e below (T124.setTop (mkF m 170 #[.val (.int p1), .val (.int p2), .val (.int p3), .val (.int p4), .val (.int x0), .val (.int x1), .val (.int x2), .val (.int x3), .val (.int nx), .val (.int lf), .val (.ref bA), .val (.ref b_36), .val (.ref ba), .val (.int di), .val (.int dj), .unset, .unset, .unset, .unset, .unset] [(.int (di * nx))])) _
    refine XS.iload X124.here hx rfl (hb hby at_170) rfl ?_
    show Steps p.tables e below (T124.setTop (mkF m 172 #[.val (.int p1), .val (.int p2), .val (.int p3), .val (.int p4), .val (.int x0), .val (.int x1), .val (.int x2), .val (.int x3), .val (.int nx), .val (.int lf), .val (.ref bA), .val (.ref b_36), .val (.ref ba), .val (.int di), .val (.int dj), .unset, .unset, .unset, .unset, .unset] [(.int dj), (.int (di * nx))])) _
    refine XS.iadd X124.here hx rfl (hb hby at_172) rfl ?_
    show Steps p.tables e below (T124.setTop (mkF m 173 #[.val (.int p1), .val (.int p2), .val (.int p3), .val (.int p4), .val (.int x0), .val (.int x1), .val (.int x2), .val (.int x3), .val (.int nx), .val (.int lf), .val (.ref bA), .val (.ref b_36), .val (.ref ba), .val (.int di), .val (.int dj), .unset, .unset, .unset, .unset, .unset] [(.int ((di * nx) + dj))])) _
    refine XS.istore X124.here hx rfl (hb hby at_173) rfl (l' := #[.val (.int p1), .val (.int p2), .val (.int p3), .val (.int p4), .val (.int x0), .val (.int x1), .val (.int x2), .val (.int x3), .val (.int nx), .val (.int lf), .val (.ref bA), .val (.ref b_36), .val (.ref ba), .val (.int di), .val (.int dj), .val (.int ((di * nx) + dj)), .unset, .unset, .unset, .unset]) rfl ?_
    show Steps p.tables e below (T124.setTop (mkF m 175 #[.val (.int p1), .val (.int p2), .val (.int p3), .val (.int p4), .val (.int x0), .val (.int x1), .val (.int x2), .val (.int x3), .val (.int nx), .val (.int lf), .val (.ref bA), .val (.ref b_36), .val (.ref ba), .val (.int di), .val (.int dj), .val (.int ((di * nx) + dj)), .unset, .unset, .unset, .unset] [])) _
    exact k
  obtain ⟨nb, hnb⟩ : ∃ z : Int32, z = ((di * nx) + dj) := ⟨_, rfl⟩
  rw [← hnb] at P143
  have hjn := own_nbx Y36_1 hdi hdj hnb hnx hn1 hn4
  have P144 : ∀ t, Steps p.tables e below (T124.setTop (mkF m 182 #[.val (.int p1), .val (.int p2), .val (.int p3), .val (.int p4), .val (.int x0), .val (.int x1), .val (.int x2), .val (.int x3), .val (.int nx), .val (.int lf), .val (.ref bA), .val (.ref b_36), .val (.ref ba), .val (.int di), .val (.int dj), .val (.int nb), .val (.int (([x0, x1, x2, x3] : List Int32).getD (di).toNatClampNeg 0)), .unset, .unset, .unset] [])) t → Steps p.tables e below (s₁.setTop (entryFrame m #[(.int p1), (.int p2), (.int p3), (.int p4)] maxLocals)) t := by
    intro t k
    refine P143 _ ?_
    refine XS.aload X124.here hx rfl (hb hby at_175) rfl rfl ?_
    show Steps p.tables e below (T124.setTop (mkF m 177 #[.val (.int p1), .val (.int p2), .val (.int p3), .val (.int p4), .val (.int x0), .val (.int x1), .val (.int x2), .val (.int x3), .val (.int nx), .val (.int lf), .val (.ref bA), .val (.ref b_36), .val (.ref ba), .val (.int di), .val (.int dj), .val (.int nb), .unset, .unset, .unset, .unset] [(.ref ba)])) _
    refine XS.iload X124.here hx rfl (hb hby at_177) rfl ?_
    show Steps p.tables e below (T124.setTop (mkF m 179 #[.val (.int p1), .val (.int p2), .val (.int p3), .val (.int p4), .val (.int x0), .val (.int x1), .val (.int x2), .val (.int x3), .val (.int nx), .val (.int lf), .val (.ref bA), .val (.ref b_36), .val (.ref ba), .val (.int di), .val (.int dj), .val (.int nb), .unset, .unset, .unset, .unset] [(.int di), (.ref ba)])) _
    refine own_cal X124 hx hZ e124 F137 h4_di (v := (.int (([x0, x1, x2, x3] : List Int32).getD (di).toNatClampNeg 0))) (own_gm (l := [x0, x1, x2, x3]) _) rfl rfl (hb hby at_179) ?_
    show Steps p.tables e below (T124.setTop (mkF m 180 #[.val (.int p1), .val (.int p2), .val (.int p3), .val (.int p4), .val (.int x0), .val (.int x1), .val (.int x2), .val (.int x3), .val (.int nx), .val (.int lf), .val (.ref bA), .val (.ref b_36), .val (.ref ba), .val (.int di), .val (.int dj), .val (.int nb), .unset, .unset, .unset, .unset] [(.int (([x0, x1, x2, x3] : List Int32).getD (di).toNatClampNeg 0))])) _
    refine XS.istore X124.here hx rfl (hb hby at_180) rfl (l' := #[.val (.int p1), .val (.int p2), .val (.int p3), .val (.int p4), .val (.int x0), .val (.int x1), .val (.int x2), .val (.int x3), .val (.int nx), .val (.int lf), .val (.ref bA), .val (.ref b_36), .val (.ref ba), .val (.int di), .val (.int dj), .val (.int nb), .val (.int (([x0, x1, x2, x3] : List Int32).getD (di).toNatClampNeg 0)), .unset, .unset, .unset]) rfl ?_
    show Steps p.tables e below (T124.setTop (mkF m 182 #[.val (.int p1), .val (.int p2), .val (.int p3), .val (.int p4), .val (.int x0), .val (.int x1), .val (.int x2), .val (.int x3), .val (.int nx), .val (.int lf), .val (.ref bA), .val (.ref b_36), .val (.ref ba), .val (.int di), .val (.int dj), .val (.int nb), .val (.int (([x0, x1, x2, x3] : List Int32).getD (di).toNatClampNeg 0)), .unset, .unset, .unset] [])) _
    exact k
  obtain ⟨x180, hx180⟩ : ∃ z : Int32, z = (([x0, x1, x2, x3] : List Int32).getD (di).toNatClampNeg 0) := ⟨_, rfl⟩
  rw [← hx180] at P144
  have P145 : ∀ t, Steps p.tables e below (T124.setTop (mkF m 189 #[.val (.int p1), .val (.int p2), .val (.int p3), .val (.int p4), .val (.int x0), .val (.int x1), .val (.int x2), .val (.int x3), .val (.int nx), .val (.int lf), .val (.ref bA), .val (.ref b_36), .val (.ref ba), .val (.int di), .val (.int dj), .val (.int nb), .val (.int x180), .val (.int (([x0, x1, x2, x3] : List Int32).getD (dj).toNatClampNeg 0)), .unset, .unset] [])) t → Steps p.tables e below (s₁.setTop (entryFrame m #[(.int p1), (.int p2), (.int p3), (.int p4)] maxLocals)) t := by
    intro t k
    refine P144 _ ?_
    refine XS.aload X124.here hx rfl (hb hby at_182) rfl rfl ?_
    show Steps p.tables e below (T124.setTop (mkF m 184 #[.val (.int p1), .val (.int p2), .val (.int p3), .val (.int p4), .val (.int x0), .val (.int x1), .val (.int x2), .val (.int x3), .val (.int nx), .val (.int lf), .val (.ref bA), .val (.ref b_36), .val (.ref ba), .val (.int di), .val (.int dj), .val (.int nb), .val (.int x180), .unset, .unset, .unset] [(.ref ba)])) _
    refine XS.iload X124.here hx rfl (hb hby at_184) rfl ?_
    show Steps p.tables e below (T124.setTop (mkF m 186 #[.val (.int p1), .val (.int p2), .val (.int p3), .val (.int p4), .val (.int x0), .val (.int x1), .val (.int x2), .val (.int x3), .val (.int nx), .val (.int lf), .val (.ref bA), .val (.ref b_36), .val (.ref ba), .val (.int di), .val (.int dj), .val (.int nb), .val (.int x180), .unset, .unset, .unset] [(.int dj), (.ref ba)])) _
    refine own_cal X124 hx hZ e124 F137 h4_dj (v := (.int (([x0, x1, x2, x3] : List Int32).getD (dj).toNatClampNeg 0))) (own_gm (l := [x0, x1, x2, x3]) _) rfl rfl (hb hby at_186) ?_
    show Steps p.tables e below (T124.setTop (mkF m 187 #[.val (.int p1), .val (.int p2), .val (.int p3), .val (.int p4), .val (.int x0), .val (.int x1), .val (.int x2), .val (.int x3), .val (.int nx), .val (.int lf), .val (.ref bA), .val (.ref b_36), .val (.ref ba), .val (.int di), .val (.int dj), .val (.int nb), .val (.int x180), .unset, .unset, .unset] [(.int (([x0, x1, x2, x3] : List Int32).getD (dj).toNatClampNeg 0))])) _
    refine XS.istore X124.here hx rfl (hb hby at_187) rfl (l' := #[.val (.int p1), .val (.int p2), .val (.int p3), .val (.int p4), .val (.int x0), .val (.int x1), .val (.int x2), .val (.int x3), .val (.int nx), .val (.int lf), .val (.ref bA), .val (.ref b_36), .val (.ref ba), .val (.int di), .val (.int dj), .val (.int nb), .val (.int x180), .val (.int (([x0, x1, x2, x3] : List Int32).getD (dj).toNatClampNeg 0)), .unset, .unset]) rfl ?_
    show Steps p.tables e below (T124.setTop (mkF m 189 #[.val (.int p1), .val (.int p2), .val (.int p3), .val (.int p4), .val (.int x0), .val (.int x1), .val (.int x2), .val (.int x3), .val (.int nx), .val (.int lf), .val (.ref bA), .val (.ref b_36), .val (.ref ba), .val (.int di), .val (.int dj), .val (.int nb), .val (.int x180), .val (.int (([x0, x1, x2, x3] : List Int32).getD (dj).toNatClampNeg 0)), .unset, .unset] [])) _
    exact k
  obtain ⟨x187, hx187⟩ : ∃ z : Int32, z = (([x0, x1, x2, x3] : List Int32).getD (dj).toNatClampNeg 0) := ⟨_, rfl⟩
  rw [← hx187] at P145
  have P146 : ∀ t, Steps p.tables e below (T124.setTop (mkF m 201 #[.val (.int p1), .val (.int p2), .val (.int p3), .val (.int p4), .val (.int x0), .val (.int x1), .val (.int x2), .val (.int x3), .val (.int nx), .val (.int lf), .val (.ref bA), .val (.ref b_36), .val (.ref ba), .val (.int di), .val (.int dj), .val (.int nb), .val (.int x180), .val (.int x187), .unset, .unset] [(.int (if lf = (0 : Int32) then x180 else x187))])) t → Steps p.tables e below (s₁.setTop (entryFrame m #[(.int p1), (.int p2), (.int p3), (.int p4)] maxLocals)) t := by
    intro t k
    refine P145 _ ?_
    refine XS.iload X124.here hx rfl (hb hby at_189) rfl ?_
    show Steps p.tables e below (T124.setTop (mkF m 191 #[.val (.int p1), .val (.int p2), .val (.int p3), .val (.int p4), .val (.int x0), .val (.int x1), .val (.int x2), .val (.int x3), .val (.int nx), .val (.int lf), .val (.ref bA), .val (.ref b_36), .val (.ref ba), .val (.int di), .val (.int dj), .val (.int nb), .val (.int x180), .val (.int x187), .unset, .unset] [(.int lf)])) _
    by_cases c191 : lf = (0 : Int32)
    · try simp only [if_pos c191] at k
      refine XS.ifYes X124.here hx rfl (pc0 := 191) (pc' := 199) rfl (hb hby at_191) rfl (XT.i0_eq_t c191) (by decide) (by decide) ?_
      show Steps p.tables e below (T124.setTop (mkF m 199 #[.val (.int p1), .val (.int p2), .val (.int p3), .val (.int p4), .val (.int x0), .val (.int x1), .val (.int x2), .val (.int x3), .val (.int nx), .val (.int lf), .val (.ref bA), .val (.ref b_36), .val (.ref ba), .val (.int di), .val (.int dj), .val (.int nb), .val (.int x180), .val (.int x187), .unset, .unset] [])) _
      refine XS.iload X124.here hx rfl (hb hby at_199) rfl ?_
      show Steps p.tables e below (T124.setTop (mkF m 201 #[.val (.int p1), .val (.int p2), .val (.int p3), .val (.int p4), .val (.int x0), .val (.int x1), .val (.int x2), .val (.int x3), .val (.int nx), .val (.int lf), .val (.ref bA), .val (.ref b_36), .val (.ref ba), .val (.int di), .val (.int dj), .val (.int nb), .val (.int x180), .val (.int x187), .unset, .unset] [(.int x180)])) _
      exact k
    · try simp only [if_neg c191] at k
      refine XS.ifNo X124.here hx rfl (hb hby at_191) rfl (XT.i0_eq_f c191) ?_
      show Steps p.tables e below (T124.setTop (mkF m 194 #[.val (.int p1), .val (.int p2), .val (.int p3), .val (.int p4), .val (.int x0), .val (.int x1), .val (.int x2), .val (.int x3), .val (.int nx), .val (.int lf), .val (.ref bA), .val (.ref b_36), .val (.ref ba), .val (.int di), .val (.int dj), .val (.int nb), .val (.int x180), .val (.int x187), .unset, .unset] [])) _
      refine XS.iload X124.here hx rfl (hb hby at_194) rfl ?_
      show Steps p.tables e below (T124.setTop (mkF m 196 #[.val (.int p1), .val (.int p2), .val (.int p3), .val (.int p4), .val (.int x0), .val (.int x1), .val (.int x2), .val (.int x3), .val (.int nx), .val (.int lf), .val (.ref bA), .val (.ref b_36), .val (.ref ba), .val (.int di), .val (.int dj), .val (.int nb), .val (.int x180), .val (.int x187), .unset, .unset] [(.int x187)])) _
      refine XS.goto X124.here hx rfl (pc0 := 196) (pc' := 201) rfl (hb hby at_196) (by decide) (by decide) ?_
      show Steps p.tables e below (T124.setTop (mkF m 201 #[.val (.int p1), .val (.int p2), .val (.int p3), .val (.int p4), .val (.int x0), .val (.int x1), .val (.int x2), .val (.int x3), .val (.int nx), .val (.int lf), .val (.ref bA), .val (.ref b_36), .val (.ref ba), .val (.int di), .val (.int dj), .val (.int nb), .val (.int x180), .val (.int x187), .unset, .unset] [(.int x187)])) _
      exact k
  obtain ⟨f1, hf1⟩ : ∃ z : Int32, z = (if lf = (0 : Int32) then x180 else x187) := ⟨_, rfl⟩
  rw [← hf1] at P146
  have P147 : ∀ t, Steps p.tables e below (T124.setTop (mkF m 215 #[.val (.int p1), .val (.int p2), .val (.int p3), .val (.int p4), .val (.int x0), .val (.int x1), .val (.int x2), .val (.int x3), .val (.int nx), .val (.int lf), .val (.ref bA), .val (.ref b_36), .val (.ref ba), .val (.int di), .val (.int dj), .val (.int nb), .val (.int x180), .val (.int x187), .val (.int f1), .unset] [(.int (if lf = (0 : Int32) then x187 else x180))])) t → Steps p.tables e below (s₁.setTop (entryFrame m #[(.int p1), (.int p2), (.int p3), (.int p4)] maxLocals)) t := by
    intro t k
    refine P146 _ ?_
    refine XS.istore X124.here hx rfl (hb hby at_201) rfl (l' := #[.val (.int p1), .val (.int p2), .val (.int p3), .val (.int p4), .val (.int x0), .val (.int x1), .val (.int x2), .val (.int x3), .val (.int nx), .val (.int lf), .val (.ref bA), .val (.ref b_36), .val (.ref ba), .val (.int di), .val (.int dj), .val (.int nb), .val (.int x180), .val (.int x187), .val (.int f1), .unset]) rfl ?_
    show Steps p.tables e below (T124.setTop (mkF m 203 #[.val (.int p1), .val (.int p2), .val (.int p3), .val (.int p4), .val (.int x0), .val (.int x1), .val (.int x2), .val (.int x3), .val (.int nx), .val (.int lf), .val (.ref bA), .val (.ref b_36), .val (.ref ba), .val (.int di), .val (.int dj), .val (.int nb), .val (.int x180), .val (.int x187), .val (.int f1), .unset] [])) _
    refine XS.iload X124.here hx rfl (hb hby at_203) rfl ?_
    show Steps p.tables e below (T124.setTop (mkF m 205 #[.val (.int p1), .val (.int p2), .val (.int p3), .val (.int p4), .val (.int x0), .val (.int x1), .val (.int x2), .val (.int x3), .val (.int nx), .val (.int lf), .val (.ref bA), .val (.ref b_36), .val (.ref ba), .val (.int di), .val (.int dj), .val (.int nb), .val (.int x180), .val (.int x187), .val (.int f1), .unset] [(.int lf)])) _
    by_cases c205 : lf = (0 : Int32)
    · try simp only [if_pos c205] at k
      refine XS.ifYes X124.here hx rfl (pc0 := 205) (pc' := 213) rfl (hb hby at_205) rfl (XT.i0_eq_t c205) (by decide) (by decide) ?_
      show Steps p.tables e below (T124.setTop (mkF m 213 #[.val (.int p1), .val (.int p2), .val (.int p3), .val (.int p4), .val (.int x0), .val (.int x1), .val (.int x2), .val (.int x3), .val (.int nx), .val (.int lf), .val (.ref bA), .val (.ref b_36), .val (.ref ba), .val (.int di), .val (.int dj), .val (.int nb), .val (.int x180), .val (.int x187), .val (.int f1), .unset] [])) _
      refine XS.iload X124.here hx rfl (hb hby at_213) rfl ?_
      show Steps p.tables e below (T124.setTop (mkF m 215 #[.val (.int p1), .val (.int p2), .val (.int p3), .val (.int p4), .val (.int x0), .val (.int x1), .val (.int x2), .val (.int x3), .val (.int nx), .val (.int lf), .val (.ref bA), .val (.ref b_36), .val (.ref ba), .val (.int di), .val (.int dj), .val (.int nb), .val (.int x180), .val (.int x187), .val (.int f1), .unset] [(.int x187)])) _
      exact k
    · try simp only [if_neg c205] at k
      refine XS.ifNo X124.here hx rfl (hb hby at_205) rfl (XT.i0_eq_f c205) ?_
      show Steps p.tables e below (T124.setTop (mkF m 208 #[.val (.int p1), .val (.int p2), .val (.int p3), .val (.int p4), .val (.int x0), .val (.int x1), .val (.int x2), .val (.int x3), .val (.int nx), .val (.int lf), .val (.ref bA), .val (.ref b_36), .val (.ref ba), .val (.int di), .val (.int dj), .val (.int nb), .val (.int x180), .val (.int x187), .val (.int f1), .unset] [])) _
      refine XS.iload X124.here hx rfl (hb hby at_208) rfl ?_
      show Steps p.tables e below (T124.setTop (mkF m 210 #[.val (.int p1), .val (.int p2), .val (.int p3), .val (.int p4), .val (.int x0), .val (.int x1), .val (.int x2), .val (.int x3), .val (.int nx), .val (.int lf), .val (.ref bA), .val (.ref b_36), .val (.ref ba), .val (.int di), .val (.int dj), .val (.int nb), .val (.int x180), .val (.int x187), .val (.int f1), .unset] [(.int x180)])) _
      refine XS.goto X124.here hx rfl (pc0 := 210) (pc' := 215) rfl (hb hby at_210) (by decide) (by decide) ?_
      show Steps p.tables e below (T124.setTop (mkF m 215 #[.val (.int p1), .val (.int p2), .val (.int p3), .val (.int p4), .val (.int x0), .val (.int x1), .val (.int x2), .val (.int x3), .val (.int nx), .val (.int lf), .val (.ref bA), .val (.ref b_36), .val (.ref ba), .val (.int di), .val (.int dj), .val (.int nb), .val (.int x180), .val (.int x187), .val (.int f1), .unset] [(.int x180)])) _
      exact k
  obtain ⟨f2, hf2⟩ : ∃ z : Int32, z = (if lf = (0 : Int32) then x187 else x180) := ⟨_, rfl⟩
  rw [← hf2] at P147
  have P148 : ∀ t, Steps p.tables e below (T124.setTop (mkF m 238 #[.val (.int p1), .val (.int p2), .val (.int p3), .val (.int p4), .val (.int x0), .val (.int x1), .val (.int x2), .val (.int x3), .val (.int nx), .val (.int lf), .val (.ref bA), .val (.ref b_36), .val (.ref ba), .val (.int di), .val (.int dj), .val (.int nb), .val (.int x180), .val (.int x187), .val (.int f1), .val (.int f2)] [(.int (1 : Int32))])) t → Steps p.tables e below (s₁.setTop (entryFrame m #[(.int p1), (.int p2), (.int p3), (.int p4)] maxLocals)) t := by
    intro t k
    refine P147 _ ?_
    refine XS.istore X124.here hx rfl (hb hby at_215) rfl (l' := #[.val (.int p1), .val (.int p2), .val (.int p3), .val (.int p4), .val (.int x0), .val (.int x1), .val (.int x2), .val (.int x3), .val (.int nx), .val (.int lf), .val (.ref bA), .val (.ref b_36), .val (.ref ba), .val (.int di), .val (.int dj), .val (.int nb), .val (.int x180), .val (.int x187), .val (.int f1), .val (.int f2)]) rfl ?_
    show Steps p.tables e below (T124.setTop (mkF m 217 #[.val (.int p1), .val (.int p2), .val (.int p3), .val (.int p4), .val (.int x0), .val (.int x1), .val (.int x2), .val (.int x3), .val (.int nx), .val (.int lf), .val (.ref bA), .val (.ref b_36), .val (.ref ba), .val (.int di), .val (.int dj), .val (.int nb), .val (.int x180), .val (.int x187), .val (.int f1), .val (.int f2)] [])) _
    refine XS.aload X124.here hx rfl (hb hby at_217) rfl rfl ?_
    show Steps p.tables e below (T124.setTop (mkF m 219 #[.val (.int p1), .val (.int p2), .val (.int p3), .val (.int p4), .val (.int x0), .val (.int x1), .val (.int x2), .val (.int x3), .val (.int nx), .val (.int lf), .val (.ref bA), .val (.ref b_36), .val (.ref ba), .val (.int di), .val (.int dj), .val (.int nb), .val (.int x180), .val (.int x187), .val (.int f1), .val (.int f2)] [(.ref b_36)])) _
    refine XS.iload X124.here hx rfl (hb hby at_219) rfl ?_
    show Steps p.tables e below (T124.setTop (mkF m 221 #[.val (.int p1), .val (.int p2), .val (.int p3), .val (.int p4), .val (.int x0), .val (.int x1), .val (.int x2), .val (.int x3), .val (.int nx), .val (.int lf), .val (.ref bA), .val (.ref b_36), .val (.ref ba), .val (.int di), .val (.int dj), .val (.int nb), .val (.int x180), .val (.int x187), .val (.int f1), .val (.int f2)] [(.int nb), (.ref b_36)])) _
    refine own_fsal X124 hx hZ e124 F136 hjn (v := (.int (own_pv (own_l4 x0 x1 x2 x3) nxn lf (nb).toNatClampNeg))) rfl rfl rfl (hb hby at_221) ?_
    show Steps p.tables e below (T124.setTop (mkF m 222 #[.val (.int p1), .val (.int p2), .val (.int p3), .val (.int p4), .val (.int x0), .val (.int x1), .val (.int x2), .val (.int x3), .val (.int nx), .val (.int lf), .val (.ref bA), .val (.ref b_36), .val (.ref ba), .val (.int di), .val (.int dj), .val (.int nb), .val (.int x180), .val (.int x187), .val (.int f1), .val (.int f2)] [(.int (own_pv (own_l4 x0 x1 x2 x3) nxn lf (nb).toNatClampNeg))])) _
    refine XS.iload X124.here hx rfl (hb hby at_222) rfl ?_
    show Steps p.tables e below (T124.setTop (mkF m 224 #[.val (.int p1), .val (.int p2), .val (.int p3), .val (.int p4), .val (.int x0), .val (.int x1), .val (.int x2), .val (.int x3), .val (.int nx), .val (.int lf), .val (.ref bA), .val (.ref b_36), .val (.ref ba), .val (.int di), .val (.int dj), .val (.int nb), .val (.int x180), .val (.int x187), .val (.int f1), .val (.int f2)] [(.int f1), (.int (own_pv (own_l4 x0 x1 x2 x3) nxn lf (nb).toNatClampNeg))])) _
    refine XS.bipush X124.here hx rfl (hb hby at_224) ?_
    show Steps p.tables e below (T124.setTop (mkF m 226 #[.val (.int p1), .val (.int p2), .val (.int p3), .val (.int p4), .val (.int x0), .val (.int x1), .val (.int x2), .val (.int x3), .val (.int nx), .val (.int lf), .val (.ref bA), .val (.ref b_36), .val (.ref ba), .val (.int di), .val (.int dj), .val (.int nb), .val (.int x180), .val (.int x187), .val (.int f1), .val (.int f2)] [(.int (8 : Int32)), (.int f1), (.int (own_pv (own_l4 x0 x1 x2 x3) nxn lf (nb).toNatClampNeg))])) _
    refine XT.ishl X124.here hx rfl (hb hby at_226) rfl ?_
    show Steps p.tables e below (T124.setTop (mkF m 227 #[.val (.int p1), .val (.int p2), .val (.int p3), .val (.int p4), .val (.int x0), .val (.int x1), .val (.int x2), .val (.int x3), .val (.int nx), .val (.int lf), .val (.ref bA), .val (.ref b_36), .val (.ref ba), .val (.int di), .val (.int dj), .val (.int nb), .val (.int x180), .val (.int x187), .val (.int f1), .val (.int f2)] [(.int (f1 <<< ((8 : Int32) &&& 31))), (.int (own_pv (own_l4 x0 x1 x2 x3) nxn lf (nb).toNatClampNeg))])) _
    refine XS.iload X124.here hx rfl (hb hby at_227) rfl ?_
    show Steps p.tables e below (T124.setTop (mkF m 229 #[.val (.int p1), .val (.int p2), .val (.int p3), .val (.int p4), .val (.int x0), .val (.int x1), .val (.int x2), .val (.int x3), .val (.int nx), .val (.int lf), .val (.ref bA), .val (.ref b_36), .val (.ref ba), .val (.int di), .val (.int dj), .val (.int nb), .val (.int x180), .val (.int x187), .val (.int f1), .val (.int f2)] [(.int f2), (.int (f1 <<< ((8 : Int32) &&& 31))), (.int (own_pv (own_l4 x0 x1 x2 x3) nxn lf (nb).toNatClampNeg))])) _
    refine XT.ior X124.here hx rfl (hb hby at_229) rfl ?_
    show Steps p.tables e below (T124.setTop (mkF m 230 #[.val (.int p1), .val (.int p2), .val (.int p3), .val (.int p4), .val (.int x0), .val (.int x1), .val (.int x2), .val (.int x3), .val (.int nx), .val (.int lf), .val (.ref bA), .val (.ref b_36), .val (.ref ba), .val (.int di), .val (.int dj), .val (.int nb), .val (.int x180), .val (.int x187), .val (.int f1), .val (.int f2)] [(.int ((f1 <<< ((8 : Int32) &&& 31)) ||| f2)), (.int (own_pv (own_l4 x0 x1 x2 x3) nxn lf (nb).toNatClampNeg))])) _
    refine XS.icmpNo X124.here hx rfl (hb hby at_230) rfl (XT.ii_ne_f (own_fin hdi hdj hnb hnx hn1 hn4 hc_x0 hc_x1 hc_x2 hc_x3 hx180 hx187 hf1 hf2)) ?_
    show Steps p.tables e below (T124.setTop (mkF m 233 #[.val (.int p1), .val (.int p2), .val (.int p3), .val (.int p4), .val (.int x0), .val (.int x1), .val (.int x2), .val (.int x3), .val (.int nx), .val (.int lf), .val (.ref bA), .val (.ref b_36), .val (.ref ba), .val (.int di), .val (.int dj), .val (.int nb), .val (.int x180), .val (.int x187), .val (.int f1), .val (.int f2)] [])) _
    refine XS.iconst X124.here hx rfl (hb hby at_233) ?_
    show Steps p.tables e below (T124.setTop (mkF m 234 #[.val (.int p1), .val (.int p2), .val (.int p3), .val (.int p4), .val (.int x0), .val (.int x1), .val (.int x2), .val (.int x3), .val (.int nx), .val (.int lf), .val (.ref bA), .val (.ref b_36), .val (.ref ba), .val (.int di), .val (.int dj), .val (.int nb), .val (.int x180), .val (.int x187), .val (.int f1), .val (.int f2)] [(.int (1 : Int32))])) _
    refine XS.goto X124.here hx rfl (pc0 := 234) (pc' := 238) rfl (hb hby at_234) (by decide) (by decide) ?_
    show Steps p.tables e below (T124.setTop (mkF m 238 #[.val (.int p1), .val (.int p2), .val (.int p3), .val (.int p4), .val (.int x0), .val (.int x1), .val (.int x2), .val (.int x3), .val (.int nx), .val (.int lf), .val (.ref bA), .val (.ref b_36), .val (.ref ba), .val (.int di), .val (.int dj), .val (.int nb), .val (.int x180), .val (.int x187), .val (.int f1), .val (.int f2)] [(.int (1 : Int32))])) _
    exact k
  obtain ⟨fs, hr, hrun, hended, hW, hsame⟩ := X124.leave (v := some (.int (1 : Int32))) (fun h => by rw [Bd.returns] at h; cases h)
  refine ⟨_, _, P148 _ ?_, hrun, hended, _, _, rfl, ?_, ⟨_, rfl⟩, hW, hsame.mono (by decide) (by decide)⟩
  · exact retN X124 hx (t := .boolean) Bd.returns (by simp) (hb hby at_238) hr
  · show Q0 Z p1 p2 p3 p4 ccs wA wU wI h0 n0 _ T124.heap _
    rw [e124]
    exact ⟨rfl, N124⟩
def Q0z (Z : State) (p1 : Int32) (p2 : Int32) (p3 : Int32) (p4 : Int32) (ccs : Int32) (wA : Addr) (wU : Addr) (wI : Addr) (h0 : Heap) (n0 : Nat) (v : Option Value) (h : Heap) (L : List Loc) : Prop := v = some (.int 1) ∧ Fr n0 L
set_option maxRecDepth 65536 in
set_option maxHeartbeats 40000000 in
theorem rm0z (l : Launch) (Z : State) (a0 : Array Value) (hw : ∀ d ∈ tables_1, d.before a0 Z = true) (ws : List Jvm.Cond) (p1 : Int32) (p2 : Int32) (p3 : Int32) (p4 : Int32) (ccs : Int32) (wA : Addr) (wU : Addr) (wI : Addr) (h0 : Heap) (n0 : Nat) (Z0 : n0 ≤ h0.size) (O0 : Old Z n0 h0) (S_H : Sta Z Z.heap "java/nio/charset/StandardCharsets" "US_ASCII" "Ljava/nio/charset/Charset;" (.ref wA)) (S_wU : Sta Z Z.heap "sun/nio/cs/UTF_8" "INSTANCE" "Lsun/nio/cs/UTF_8;" (.ref wU)) (S_wI : Sta Z Z.heap "sun/nio/cs/ISO_8859_1" "INSTANCE" "Lsun/nio/cs/ISO_8859_1;" (.ref wI)) (S_wA : Sta Z Z.heap "sun/nio/cs/US_ASCII" "INSTANCE" "Lsun/nio/cs/US_ASCII;" (.ref wA)) (neU : ¬ wA = wU) (neI : ¬ wA = wI) (S_cs : Sta Z Z.heap "java/lang/String" "COMPACT_STRINGS" "Z" (.int ccs)) (hcc : ¬ ccs = (0 : Int32)) (hzer : ((p2 &&& (2147483647 : Int32)) % (5 : Int32)) = (0 : Int32)) :
    MetFree l x (head1 (Jvm.Cond.code x code maxLocals ret :: ws) room_1) (fun a U => a = #[(.int p1), (.int p2), (.int p3), (.int p4)] ∧ Z.Warmed39 U.vm ∧ U.heap = h0 ∧ CHv Z consts_1 U.vm h0) (fun _ _ _ _ _ => True) (fun _ U o U' => ∃ v L, o = .returned v ∧ Q0z Z p1 p2 p3 p4 ccs wA wU wI h0 n0 v U'.heap L ∧ ReturnedEndW U o U' L room_1.cells room_1.slots) := by
  refine MetFree.of_bodySF (plainFor_of_name pn_0) hisR ?_
  intro p e s m args below meth c s₁ Bd hml0 hP hK
  obtain ⟨rfl, hZ, hh, hC⟩ := hP
  have hx := Bd.exec
  have hby := Bd.bytes
  have hml : c.maxLocals = 20 := hml0
  have hown : s.vm.findClass "com/example/basewright/basewright/AlphabetPairsPinLaw" = some m.cls := findClass_of_methodNamed Bd.named
  have hnm := (name_of_methodNamed Bd.named Bd.method).1
  have X0 : Stand p l e room_1 s m #[(.int p1), (.int p2), (.int p3), (.int p4)] below meth c s₁ [] 0 0 := Stand.of_body Bd
  have e0 : s₁.heap = h0 := by rw [← hh, Bd.state]; rfl
  have N0 := Fr.nil n0
  have K0 : Keep h0 h0 [] := Keep.refl _ _
  have P0 : ∀ t, Steps p.tables e below (s₁.setTop (mkF m 0 #[.val (.int p1), .val (.int p2), .val (.int p3), .val (.int p4), .unset, .unset, .unset, .unset, .unset, .unset, .unset, .unset, .unset, .unset, .unset, .unset, .unset, .unset, .unset, .unset] [])) t → Steps p.tables e below (s₁.setTop (entryFrame m #[(.int p1), (.int p2), (.int p3), (.int p4)] maxLocals)) t := fun t k => castTop (ef_0 m p1 p2 p3 p4) k
  have P1 : ∀ t, Steps p.tables e below (s₁.setTop (mkF m 7 #[.val (.int p1), .val (.int p2), .val (.int p3), .val (.int p4), .val (.int ((p1 &&& (127 : Int32)).toUInt32.toUInt16.toUInt32.toInt32)), .unset, .unset, .unset, .unset, .unset, .unset, .unset, .unset, .unset, .unset, .unset, .unset, .unset, .unset, .unset] [])) t → Steps p.tables e below (s₁.setTop (entryFrame m #[(.int p1), (.int p2), (.int p3), (.int p4)] maxLocals)) t := by
    intro t k
    refine P0 _ ?_
    refine XS.iloadN X0.here hx rfl (hb hby at_0) rfl ?_
    show Steps p.tables e below (s₁.setTop (mkF m 1 #[.val (.int p1), .val (.int p2), .val (.int p3), .val (.int p4), .unset, .unset, .unset, .unset, .unset, .unset, .unset, .unset, .unset, .unset, .unset, .unset, .unset, .unset, .unset, .unset] [(.int p1)])) _
    refine XS.bipush X0.here hx rfl (hb hby at_1) ?_
    show Steps p.tables e below (s₁.setTop (mkF m 3 #[.val (.int p1), .val (.int p2), .val (.int p3), .val (.int p4), .unset, .unset, .unset, .unset, .unset, .unset, .unset, .unset, .unset, .unset, .unset, .unset, .unset, .unset, .unset, .unset] [(.int (127 : Int32)), (.int p1)])) _
    refine XS.iand X0.here hx rfl (hb hby at_3) rfl ?_
    show Steps p.tables e below (s₁.setTop (mkF m 4 #[.val (.int p1), .val (.int p2), .val (.int p3), .val (.int p4), .unset, .unset, .unset, .unset, .unset, .unset, .unset, .unset, .unset, .unset, .unset, .unset, .unset, .unset, .unset, .unset] [(.int (p1 &&& (127 : Int32)))])) _
    refine XT.i2c X0.here hx rfl (hb hby at_4) rfl ?_
    show Steps p.tables e below (s₁.setTop (mkF m 5 #[.val (.int p1), .val (.int p2), .val (.int p3), .val (.int p4), .unset, .unset, .unset, .unset, .unset, .unset, .unset, .unset, .unset, .unset, .unset, .unset, .unset, .unset, .unset, .unset] [(.int ((p1 &&& (127 : Int32)).toUInt32.toUInt16.toUInt32.toInt32))])) _
    refine XS.istore X0.here hx rfl (hb hby at_5) rfl (l' := #[.val (.int p1), .val (.int p2), .val (.int p3), .val (.int p4), .val (.int ((p1 &&& (127 : Int32)).toUInt32.toUInt16.toUInt32.toInt32)), .unset, .unset, .unset, .unset, .unset, .unset, .unset, .unset, .unset, .unset, .unset, .unset, .unset, .unset, .unset]) rfl ?_
    show Steps p.tables e below (s₁.setTop (mkF m 7 #[.val (.int p1), .val (.int p2), .val (.int p3), .val (.int p4), .val (.int ((p1 &&& (127 : Int32)).toUInt32.toUInt16.toUInt32.toInt32)), .unset, .unset, .unset, .unset, .unset, .unset, .unset, .unset, .unset, .unset, .unset, .unset, .unset, .unset, .unset] [])) _
    exact k
  obtain ⟨x0, hx0⟩ : ∃ z : Int32, z = ((p1 &&& (127 : Int32)).toUInt32.toUInt16.toUInt32.toInt32) := ⟨_, rfl⟩
  rw [← hx0] at P1
  have hc_x0 := own_ch hx0
  have P2 : ∀ t, Steps p.tables e below (s₁.setTop (mkF m 17 #[.val (.int p1), .val (.int p2), .val (.int p3), .val (.int p4), .val (.int x0), .val (.int (((XT.ushr p1 (8 : Int32)) &&& (127 : Int32)).toUInt32.toUInt16.toUInt32.toInt32)), .unset, .unset, .unset, .unset, .unset, .unset, .unset, .unset, .unset, .unset, .unset, .unset, .unset, .unset] [])) t → Steps p.tables e below (s₁.setTop (entryFrame m #[(.int p1), (.int p2), (.int p3), (.int p4)] maxLocals)) t := by
    intro t k
    refine P1 _ ?_
    refine XS.iloadN X0.here hx rfl (hb hby at_7) rfl ?_
    show Steps p.tables e below (s₁.setTop (mkF m 8 #[.val (.int p1), .val (.int p2), .val (.int p3), .val (.int p4), .val (.int x0), .unset, .unset, .unset, .unset, .unset, .unset, .unset, .unset, .unset, .unset, .unset, .unset, .unset, .unset, .unset] [(.int p1)])) _
    refine XS.bipush X0.here hx rfl (hb hby at_8) ?_
    show Steps p.tables e below (s₁.setTop (mkF m 10 #[.val (.int p1), .val (.int p2), .val (.int p3), .val (.int p4), .val (.int x0), .unset, .unset, .unset, .unset, .unset, .unset, .unset, .unset, .unset, .unset, .unset, .unset, .unset, .unset, .unset] [(.int (8 : Int32)), (.int p1)])) _
    refine XT.iushr X0.here hx rfl (hb hby at_10) rfl ?_
    show Steps p.tables e below (s₁.setTop (mkF m 11 #[.val (.int p1), .val (.int p2), .val (.int p3), .val (.int p4), .val (.int x0), .unset, .unset, .unset, .unset, .unset, .unset, .unset, .unset, .unset, .unset, .unset, .unset, .unset, .unset, .unset] [(.int (XT.ushr p1 (8 : Int32)))])) _
    refine XS.bipush X0.here hx rfl (hb hby at_11) ?_
    show Steps p.tables e below (s₁.setTop (mkF m 13 #[.val (.int p1), .val (.int p2), .val (.int p3), .val (.int p4), .val (.int x0), .unset, .unset, .unset, .unset, .unset, .unset, .unset, .unset, .unset, .unset, .unset, .unset, .unset, .unset, .unset] [(.int (127 : Int32)), (.int (XT.ushr p1 (8 : Int32)))])) _
    refine XS.iand X0.here hx rfl (hb hby at_13) rfl ?_
    show Steps p.tables e below (s₁.setTop (mkF m 14 #[.val (.int p1), .val (.int p2), .val (.int p3), .val (.int p4), .val (.int x0), .unset, .unset, .unset, .unset, .unset, .unset, .unset, .unset, .unset, .unset, .unset, .unset, .unset, .unset, .unset] [(.int ((XT.ushr p1 (8 : Int32)) &&& (127 : Int32)))])) _
    refine XT.i2c X0.here hx rfl (hb hby at_14) rfl ?_
    show Steps p.tables e below (s₁.setTop (mkF m 15 #[.val (.int p1), .val (.int p2), .val (.int p3), .val (.int p4), .val (.int x0), .unset, .unset, .unset, .unset, .unset, .unset, .unset, .unset, .unset, .unset, .unset, .unset, .unset, .unset, .unset] [(.int (((XT.ushr p1 (8 : Int32)) &&& (127 : Int32)).toUInt32.toUInt16.toUInt32.toInt32))])) _
    refine XS.istore X0.here hx rfl (hb hby at_15) rfl (l' := #[.val (.int p1), .val (.int p2), .val (.int p3), .val (.int p4), .val (.int x0), .val (.int (((XT.ushr p1 (8 : Int32)) &&& (127 : Int32)).toUInt32.toUInt16.toUInt32.toInt32)), .unset, .unset, .unset, .unset, .unset, .unset, .unset, .unset, .unset, .unset, .unset, .unset, .unset, .unset]) rfl ?_
    show Steps p.tables e below (s₁.setTop (mkF m 17 #[.val (.int p1), .val (.int p2), .val (.int p3), .val (.int p4), .val (.int x0), .val (.int (((XT.ushr p1 (8 : Int32)) &&& (127 : Int32)).toUInt32.toUInt16.toUInt32.toInt32)), .unset, .unset, .unset, .unset, .unset, .unset, .unset, .unset, .unset, .unset, .unset, .unset, .unset, .unset] [])) _
    exact k
  obtain ⟨x1, hx1⟩ : ∃ z : Int32, z = (((XT.ushr p1 (8 : Int32)) &&& (127 : Int32)).toUInt32.toUInt16.toUInt32.toInt32) := ⟨_, rfl⟩
  rw [← hx1] at P2
  have hc_x1 := own_ch hx1
  have P3 : ∀ t, Steps p.tables e below (s₁.setTop (mkF m 27 #[.val (.int p1), .val (.int p2), .val (.int p3), .val (.int p4), .val (.int x0), .val (.int x1), .val (.int (((XT.ushr p1 (16 : Int32)) &&& (127 : Int32)).toUInt32.toUInt16.toUInt32.toInt32)), .unset, .unset, .unset, .unset, .unset, .unset, .unset, .unset, .unset, .unset, .unset, .unset, .unset] [])) t → Steps p.tables e below (s₁.setTop (entryFrame m #[(.int p1), (.int p2), (.int p3), (.int p4)] maxLocals)) t := by
    intro t k
    refine P2 _ ?_
    refine XS.iloadN X0.here hx rfl (hb hby at_17) rfl ?_
    show Steps p.tables e below (s₁.setTop (mkF m 18 #[.val (.int p1), .val (.int p2), .val (.int p3), .val (.int p4), .val (.int x0), .val (.int x1), .unset, .unset, .unset, .unset, .unset, .unset, .unset, .unset, .unset, .unset, .unset, .unset, .unset, .unset] [(.int p1)])) _
    refine XS.bipush X0.here hx rfl (hb hby at_18) ?_
    show Steps p.tables e below (s₁.setTop (mkF m 20 #[.val (.int p1), .val (.int p2), .val (.int p3), .val (.int p4), .val (.int x0), .val (.int x1), .unset, .unset, .unset, .unset, .unset, .unset, .unset, .unset, .unset, .unset, .unset, .unset, .unset, .unset] [(.int (16 : Int32)), (.int p1)])) _
    refine XT.iushr X0.here hx rfl (hb hby at_20) rfl ?_
    show Steps p.tables e below (s₁.setTop (mkF m 21 #[.val (.int p1), .val (.int p2), .val (.int p3), .val (.int p4), .val (.int x0), .val (.int x1), .unset, .unset, .unset, .unset, .unset, .unset, .unset, .unset, .unset, .unset, .unset, .unset, .unset, .unset] [(.int (XT.ushr p1 (16 : Int32)))])) _
    refine XS.bipush X0.here hx rfl (hb hby at_21) ?_
    show Steps p.tables e below (s₁.setTop (mkF m 23 #[.val (.int p1), .val (.int p2), .val (.int p3), .val (.int p4), .val (.int x0), .val (.int x1), .unset, .unset, .unset, .unset, .unset, .unset, .unset, .unset, .unset, .unset, .unset, .unset, .unset, .unset] [(.int (127 : Int32)), (.int (XT.ushr p1 (16 : Int32)))])) _
    refine XS.iand X0.here hx rfl (hb hby at_23) rfl ?_
    show Steps p.tables e below (s₁.setTop (mkF m 24 #[.val (.int p1), .val (.int p2), .val (.int p3), .val (.int p4), .val (.int x0), .val (.int x1), .unset, .unset, .unset, .unset, .unset, .unset, .unset, .unset, .unset, .unset, .unset, .unset, .unset, .unset] [(.int ((XT.ushr p1 (16 : Int32)) &&& (127 : Int32)))])) _
    refine XT.i2c X0.here hx rfl (hb hby at_24) rfl ?_
    show Steps p.tables e below (s₁.setTop (mkF m 25 #[.val (.int p1), .val (.int p2), .val (.int p3), .val (.int p4), .val (.int x0), .val (.int x1), .unset, .unset, .unset, .unset, .unset, .unset, .unset, .unset, .unset, .unset, .unset, .unset, .unset, .unset] [(.int (((XT.ushr p1 (16 : Int32)) &&& (127 : Int32)).toUInt32.toUInt16.toUInt32.toInt32))])) _
    refine XS.istore X0.here hx rfl (hb hby at_25) rfl (l' := #[.val (.int p1), .val (.int p2), .val (.int p3), .val (.int p4), .val (.int x0), .val (.int x1), .val (.int (((XT.ushr p1 (16 : Int32)) &&& (127 : Int32)).toUInt32.toUInt16.toUInt32.toInt32)), .unset, .unset, .unset, .unset, .unset, .unset, .unset, .unset, .unset, .unset, .unset, .unset, .unset]) rfl ?_
    show Steps p.tables e below (s₁.setTop (mkF m 27 #[.val (.int p1), .val (.int p2), .val (.int p3), .val (.int p4), .val (.int x0), .val (.int x1), .val (.int (((XT.ushr p1 (16 : Int32)) &&& (127 : Int32)).toUInt32.toUInt16.toUInt32.toInt32)), .unset, .unset, .unset, .unset, .unset, .unset, .unset, .unset, .unset, .unset, .unset, .unset, .unset] [])) _
    exact k
  obtain ⟨x2, hx2⟩ : ∃ z : Int32, z = (((XT.ushr p1 (16 : Int32)) &&& (127 : Int32)).toUInt32.toUInt16.toUInt32.toInt32) := ⟨_, rfl⟩
  rw [← hx2] at P3
  have hc_x2 := own_ch hx2
  have P4 : ∀ t, Steps p.tables e below (s₁.setTop (mkF m 37 #[.val (.int p1), .val (.int p2), .val (.int p3), .val (.int p4), .val (.int x0), .val (.int x1), .val (.int x2), .val (.int (((XT.ushr p1 (24 : Int32)) &&& (127 : Int32)).toUInt32.toUInt16.toUInt32.toInt32)), .unset, .unset, .unset, .unset, .unset, .unset, .unset, .unset, .unset, .unset, .unset, .unset] [])) t → Steps p.tables e below (s₁.setTop (entryFrame m #[(.int p1), (.int p2), (.int p3), (.int p4)] maxLocals)) t := by
    intro t k
    refine P3 _ ?_
    refine XS.iloadN X0.here hx rfl (hb hby at_27) rfl ?_
    show Steps p.tables e below (s₁.setTop (mkF m 28 #[.val (.int p1), .val (.int p2), .val (.int p3), .val (.int p4), .val (.int x0), .val (.int x1), .val (.int x2), .unset, .unset, .unset, .unset, .unset, .unset, .unset, .unset, .unset, .unset, .unset, .unset, .unset] [(.int p1)])) _
    refine XS.bipush X0.here hx rfl (hb hby at_28) ?_
    show Steps p.tables e below (s₁.setTop (mkF m 30 #[.val (.int p1), .val (.int p2), .val (.int p3), .val (.int p4), .val (.int x0), .val (.int x1), .val (.int x2), .unset, .unset, .unset, .unset, .unset, .unset, .unset, .unset, .unset, .unset, .unset, .unset, .unset] [(.int (24 : Int32)), (.int p1)])) _
    refine XT.iushr X0.here hx rfl (hb hby at_30) rfl ?_
    show Steps p.tables e below (s₁.setTop (mkF m 31 #[.val (.int p1), .val (.int p2), .val (.int p3), .val (.int p4), .val (.int x0), .val (.int x1), .val (.int x2), .unset, .unset, .unset, .unset, .unset, .unset, .unset, .unset, .unset, .unset, .unset, .unset, .unset] [(.int (XT.ushr p1 (24 : Int32)))])) _
    refine XS.bipush X0.here hx rfl (hb hby at_31) ?_
    show Steps p.tables e below (s₁.setTop (mkF m 33 #[.val (.int p1), .val (.int p2), .val (.int p3), .val (.int p4), .val (.int x0), .val (.int x1), .val (.int x2), .unset, .unset, .unset, .unset, .unset, .unset, .unset, .unset, .unset, .unset, .unset, .unset, .unset] [(.int (127 : Int32)), (.int (XT.ushr p1 (24 : Int32)))])) _
    refine XS.iand X0.here hx rfl (hb hby at_33) rfl ?_
    show Steps p.tables e below (s₁.setTop (mkF m 34 #[.val (.int p1), .val (.int p2), .val (.int p3), .val (.int p4), .val (.int x0), .val (.int x1), .val (.int x2), .unset, .unset, .unset, .unset, .unset, .unset, .unset, .unset, .unset, .unset, .unset, .unset, .unset] [(.int ((XT.ushr p1 (24 : Int32)) &&& (127 : Int32)))])) _
    refine XT.i2c X0.here hx rfl (hb hby at_34) rfl ?_
    show Steps p.tables e below (s₁.setTop (mkF m 35 #[.val (.int p1), .val (.int p2), .val (.int p3), .val (.int p4), .val (.int x0), .val (.int x1), .val (.int x2), .unset, .unset, .unset, .unset, .unset, .unset, .unset, .unset, .unset, .unset, .unset, .unset, .unset] [(.int (((XT.ushr p1 (24 : Int32)) &&& (127 : Int32)).toUInt32.toUInt16.toUInt32.toInt32))])) _
    refine XS.istore X0.here hx rfl (hb hby at_35) rfl (l' := #[.val (.int p1), .val (.int p2), .val (.int p3), .val (.int p4), .val (.int x0), .val (.int x1), .val (.int x2), .val (.int (((XT.ushr p1 (24 : Int32)) &&& (127 : Int32)).toUInt32.toUInt16.toUInt32.toInt32)), .unset, .unset, .unset, .unset, .unset, .unset, .unset, .unset, .unset, .unset, .unset, .unset]) rfl ?_
    show Steps p.tables e below (s₁.setTop (mkF m 37 #[.val (.int p1), .val (.int p2), .val (.int p3), .val (.int p4), .val (.int x0), .val (.int x1), .val (.int x2), .val (.int (((XT.ushr p1 (24 : Int32)) &&& (127 : Int32)).toUInt32.toUInt16.toUInt32.toInt32)), .unset, .unset, .unset, .unset, .unset, .unset, .unset, .unset, .unset, .unset, .unset, .unset] [])) _
    exact k
  obtain ⟨x3, hx3⟩ : ∃ z : Int32, z = (((XT.ushr p1 (24 : Int32)) &&& (127 : Int32)).toUInt32.toUInt16.toUInt32.toInt32) := ⟨_, rfl⟩
  rw [← hx3] at P4
  have hc_x3 := own_ch hx3
  have P5 : ∀ t, Steps p.tables e below (s₁.setTop (mkF m 45 #[.val (.int p1), .val (.int p2), .val (.int p3), .val (.int p4), .val (.int x0), .val (.int x1), .val (.int x2), .val (.int x3), .val (.int ((p2 &&& (2147483647 : Int32)) % (5 : Int32))), .unset, .unset, .unset, .unset, .unset, .unset, .unset, .unset, .unset, .unset, .unset] [])) t → Steps p.tables e below (s₁.setTop (entryFrame m #[(.int p1), (.int p2), (.int p3), (.int p4)] maxLocals)) t := by
    intro t k
    refine P4 _ ?_
    refine XS.iloadN X0.here hx rfl (hb hby at_37) rfl ?_
    show Steps p.tables e below (s₁.setTop (mkF m 38 #[.val (.int p1), .val (.int p2), .val (.int p3), .val (.int p4), .val (.int x0), .val (.int x1), .val (.int x2), .val (.int x3), .unset, .unset, .unset, .unset, .unset, .unset, .unset, .unset, .unset, .unset, .unset, .unset] [(.int p2)])) _
    refine Jvm.Stand.ldcI X0 hx hown (mvT hZ (hw _ (List.mem_of_getElem? (i := 0) rfl))) rfl (hb hby at_38) ?_
    show Steps p.tables e below (s₁.setTop (mkF m 40 #[.val (.int p1), .val (.int p2), .val (.int p3), .val (.int p4), .val (.int x0), .val (.int x1), .val (.int x2), .val (.int x3), .unset, .unset, .unset, .unset, .unset, .unset, .unset, .unset, .unset, .unset, .unset, .unset] [(.int (2147483647 : Int32)), (.int p2)])) _
    refine XS.iand X0.here hx rfl (hb hby at_40) rfl ?_
    show Steps p.tables e below (s₁.setTop (mkF m 41 #[.val (.int p1), .val (.int p2), .val (.int p3), .val (.int p4), .val (.int x0), .val (.int x1), .val (.int x2), .val (.int x3), .unset, .unset, .unset, .unset, .unset, .unset, .unset, .unset, .unset, .unset, .unset, .unset] [(.int (p2 &&& (2147483647 : Int32)))])) _
    refine XS.iconst X0.here hx rfl (hb hby at_41) ?_
    show Steps p.tables e below (s₁.setTop (mkF m 42 #[.val (.int p1), .val (.int p2), .val (.int p3), .val (.int p4), .val (.int x0), .val (.int x1), .val (.int x2), .val (.int x3), .unset, .unset, .unset, .unset, .unset, .unset, .unset, .unset, .unset, .unset, .unset, .unset] [(.int (5 : Int32)), (.int (p2 &&& (2147483647 : Int32)))])) _
    refine iremM X0 hx rfl (hb hby at_42) rfl (by decide) ?_
    show Steps p.tables e below (s₁.setTop (mkF m 43 #[.val (.int p1), .val (.int p2), .val (.int p3), .val (.int p4), .val (.int x0), .val (.int x1), .val (.int x2), .val (.int x3), .unset, .unset, .unset, .unset, .unset, .unset, .unset, .unset, .unset, .unset, .unset, .unset] [(.int ((p2 &&& (2147483647 : Int32)) % (5 : Int32)))])) _
    refine XS.istore X0.here hx rfl (hb hby at_43) rfl (l' := #[.val (.int p1), .val (.int p2), .val (.int p3), .val (.int p4), .val (.int x0), .val (.int x1), .val (.int x2), .val (.int x3), .val (.int ((p2 &&& (2147483647 : Int32)) % (5 : Int32))), .unset, .unset, .unset, .unset, .unset, .unset, .unset, .unset, .unset, .unset, .unset]) rfl ?_
    show Steps p.tables e below (s₁.setTop (mkF m 45 #[.val (.int p1), .val (.int p2), .val (.int p3), .val (.int p4), .val (.int x0), .val (.int x1), .val (.int x2), .val (.int x3), .val (.int ((p2 &&& (2147483647 : Int32)) % (5 : Int32))), .unset, .unset, .unset, .unset, .unset, .unset, .unset, .unset, .unset, .unset, .unset] [])) _
    exact k
  obtain ⟨nx, hnx⟩ : ∃ z : Int32, z = ((p2 &&& (2147483647 : Int32)) % (5 : Int32)) := ⟨_, rfl⟩
  rw [← hnx] at P5
  have hz0 : nx = (0 : Int32) := hnx.trans hzer
  obtain ⟨nxn, hnx, hn4⟩ : ∃ n : Nat, nx.toInt = n ∧ n ≤ 4 := ⟨0, by rw [hz0]; rfl, by decide⟩
  have P6 : ∀ t, Steps p.tables e below (s₁.setTop (mkF m 59 #[.val (.int p1), .val (.int p2), .val (.int p3), .val (.int p4), .val (.int x0), .val (.int x1), .val (.int x2), .val (.int x3), .val (.int nx), .unset, .unset, .unset, .unset, .unset, .unset, .unset, .unset, .unset, .unset, .unset] [(.int (if ((XT.ushr p2 (8 : Int32)) &&& (1 : Int32)) = (0 : Int32) then (0 : Int32) else (1 : Int32)))])) t → Steps p.tables e below (s₁.setTop (entryFrame m #[(.int p1), (.int p2), (.int p3), (.int p4)] maxLocals)) t := by
    intro t k
    refine P5 _ ?_
    refine XS.iloadN X0.here hx rfl (hb hby at_45) rfl ?_
    show Steps p.tables e below (s₁.setTop (mkF m 46 #[.val (.int p1), .val (.int p2), .val (.int p3), .val (.int p4), .val (.int x0), .val (.int x1), .val (.int x2), .val (.int x3), .val (.int nx), .unset, .unset, .unset, .unset, .unset, .unset, .unset, .unset, .unset, .unset, .unset] [(.int p2)])) _
    refine XS.bipush X0.here hx rfl (hb hby at_46) ?_
    show Steps p.tables e below (s₁.setTop (mkF m 48 #[.val (.int p1), .val (.int p2), .val (.int p3), .val (.int p4), .val (.int x0), .val (.int x1), .val (.int x2), .val (.int x3), .val (.int nx), .unset, .unset, .unset, .unset, .unset, .unset, .unset, .unset, .unset, .unset, .unset] [(.int (8 : Int32)), (.int p2)])) _
    refine XT.iushr X0.here hx rfl (hb hby at_48) rfl ?_
    show Steps p.tables e below (s₁.setTop (mkF m 49 #[.val (.int p1), .val (.int p2), .val (.int p3), .val (.int p4), .val (.int x0), .val (.int x1), .val (.int x2), .val (.int x3), .val (.int nx), .unset, .unset, .unset, .unset, .unset, .unset, .unset, .unset, .unset, .unset, .unset] [(.int (XT.ushr p2 (8 : Int32)))])) _
    refine XS.iconst X0.here hx rfl (hb hby at_49) ?_
    show Steps p.tables e below (s₁.setTop (mkF m 50 #[.val (.int p1), .val (.int p2), .val (.int p3), .val (.int p4), .val (.int x0), .val (.int x1), .val (.int x2), .val (.int x3), .val (.int nx), .unset, .unset, .unset, .unset, .unset, .unset, .unset, .unset, .unset, .unset, .unset] [(.int (1 : Int32)), (.int (XT.ushr p2 (8 : Int32)))])) _
    refine XS.iand X0.here hx rfl (hb hby at_50) rfl ?_
    show Steps p.tables e below (s₁.setTop (mkF m 51 #[.val (.int p1), .val (.int p2), .val (.int p3), .val (.int p4), .val (.int x0), .val (.int x1), .val (.int x2), .val (.int x3), .val (.int nx), .unset, .unset, .unset, .unset, .unset, .unset, .unset, .unset, .unset, .unset, .unset] [(.int ((XT.ushr p2 (8 : Int32)) &&& (1 : Int32)))])) _
    by_cases c51 : ((XT.ushr p2 (8 : Int32)) &&& (1 : Int32)) = (0 : Int32)
    · try simp only [if_pos c51] at k
      refine XS.ifYes X0.here hx rfl (pc0 := 51) (pc' := 58) rfl (hb hby at_51) rfl (XT.i0_eq_t c51) (by decide) (by decide) ?_
      show Steps p.tables e below (s₁.setTop (mkF m 58 #[.val (.int p1), .val (.int p2), .val (.int p3), .val (.int p4), .val (.int x0), .val (.int x1), .val (.int x2), .val (.int x3), .val (.int nx), .unset, .unset, .unset, .unset, .unset, .unset, .unset, .unset, .unset, .unset, .unset] [])) _
      refine XS.iconst X0.here hx rfl (hb hby at_58) ?_
      show Steps p.tables e below (s₁.setTop (mkF m 59 #[.val (.int p1), .val (.int p2), .val (.int p3), .val (.int p4), .val (.int x0), .val (.int x1), .val (.int x2), .val (.int x3), .val (.int nx), .unset, .unset, .unset, .unset, .unset, .unset, .unset, .unset, .unset, .unset, .unset] [(.int (0 : Int32))])) _
      exact k
    · try simp only [if_neg c51] at k
      refine XS.ifNo X0.here hx rfl (hb hby at_51) rfl (XT.i0_eq_f c51) ?_
      show Steps p.tables e below (s₁.setTop (mkF m 54 #[.val (.int p1), .val (.int p2), .val (.int p3), .val (.int p4), .val (.int x0), .val (.int x1), .val (.int x2), .val (.int x3), .val (.int nx), .unset, .unset, .unset, .unset, .unset, .unset, .unset, .unset, .unset, .unset, .unset] [])) _
      refine XS.iconst X0.here hx rfl (hb hby at_54) ?_
      show Steps p.tables e below (s₁.setTop (mkF m 55 #[.val (.int p1), .val (.int p2), .val (.int p3), .val (.int p4), .val (.int x0), .val (.int x1), .val (.int x2), .val (.int x3), .val (.int nx), .unset, .unset, .unset, .unset, .unset, .unset, .unset, .unset, .unset, .unset, .unset] [(.int (1 : Int32))])) _
      refine XS.goto X0.here hx rfl (pc0 := 55) (pc' := 59) rfl (hb hby at_55) (by decide) (by decide) ?_
      show Steps p.tables e below (s₁.setTop (mkF m 59 #[.val (.int p1), .val (.int p2), .val (.int p3), .val (.int p4), .val (.int x0), .val (.int x1), .val (.int x2), .val (.int x3), .val (.int nx), .unset, .unset, .unset, .unset, .unset, .unset, .unset, .unset, .unset, .unset, .unset] [(.int (1 : Int32))])) _
      exact k
  obtain ⟨lf, hlf⟩ : ∃ z : Int32, z = (if ((XT.ushr p2 (8 : Int32)) &&& (1 : Int32)) = (0 : Int32) then (0 : Int32) else (1 : Int32)) := ⟨_, rfl⟩
  rw [← hlf] at P6
  have P7 : ∀ t, Steps p.tables e below (s₁.setTop (mkF m 61 #[.val (.int p1), .val (.int p2), .val (.int p3), .val (.int p4), .val (.int x0), .val (.int x1), .val (.int x2), .val (.int x3), .val (.int nx), .val (.int lf), .unset, .unset, .unset, .unset, .unset, .unset, .unset, .unset, .unset, .unset] [])) t → Steps p.tables e below (s₁.setTop (entryFrame m #[(.int p1), (.int p2), (.int p3), (.int p4)] maxLocals)) t := by
    intro t k
    refine P6 _ ?_
    refine XS.istore X0.here hx rfl (hb hby at_59) rfl (l' := #[.val (.int p1), .val (.int p2), .val (.int p3), .val (.int p4), .val (.int x0), .val (.int x1), .val (.int x2), .val (.int x3), .val (.int nx), .val (.int lf), .unset, .unset, .unset, .unset, .unset, .unset, .unset, .unset, .unset, .unset]) rfl ?_
    show Steps p.tables e below (s₁.setTop (mkF m 61 #[.val (.int p1), .val (.int p2), .val (.int p3), .val (.int p4), .val (.int x0), .val (.int x1), .val (.int x2), .val (.int x3), .val (.int nx), .val (.int lf), .unset, .unset, .unset, .unset, .unset, .unset, .unset, .unset, .unset, .unset] [])) _
    exact k
  obtain ⟨T8, h8, X8, e8, E8, A8, D8, -, st8⟩ := newO X0 hx hZ hown (hw _ (List.mem_of_getElem? (i := 1) rfl)) (hw _ (List.mem_of_getElem? (i := 2) rfl)) (hw _ (List.mem_of_getElem? (i := 3) rfl)) e0 (g := (mkF m 61 #[.val (.int p1), .val (.int p2), .val (.int p3), .val (.int p4), .val (.int x0), .val (.int x1), .val (.int x2), .val (.int x3), .val (.int nx), .val (.int lf), .unset, .unset, .unset, .unset, .unset, .unset, .unset, .unset, .unset, .unset] [])) rfl (hb hby at_61) (by decide) (by decide)
  obtain ⟨bA, g8⟩ : ∃ z, z = h0.size := ⟨_, rfl⟩
  rw [← g8] at A8 D8 st8
  have F9 : Old Z n0 h8 := O0.ext E8
  have F10 : Fld Z h8 bA "com/example/basewright/basewright/Alphabet" "characters" "[B" .null := D8 (Or.inr (hw _ (List.mem_of_getElem? (i := 80) rfl))) (ty := (.array .byte)) (by decide)
  have F11 : Fld Z h8 bA "com/example/basewright/basewright/Alphabet" "values" "[B" .null := D8 (Or.inr (hw _ (List.mem_of_getElem? (i := 82) rfl))) (ty := (.array .byte)) (by decide)
  have Z12 : n0 ≤ h8.size := Nat.le_trans Z0 E8.1
  have K13 : Keep h0 h8 [] := K0.ext E8
  have g_bA : n0 ≤ bA := Nat.le_trans Z0 (Nat.le_of_eq g8.symm)
  have sz_bA : h0.size ≤ bA := Nat.le_trans K0.1 (Nat.le_of_eq g8.symm)
  have P14 : ∀ t, Steps p.tables e below (T8.setTop (mkF m 64 #[.val (.int p1), .val (.int p2), .val (.int p3), .val (.int p4), .val (.int x0), .val (.int x1), .val (.int x2), .val (.int x3), .val (.int nx), .val (.int lf), .unset, .unset, .unset, .unset, .unset, .unset, .unset, .unset, .unset, .unset] [(.ref bA)])) t → Steps p.tables e below (s₁.setTop (entryFrame m #[(.int p1), (.int p2), (.int p3), (.int p4)] maxLocals)) t := fun t k => P7 _ (st8 _ k)
  have P15 : ∀ t, Steps p.tables e below (T8.setTop (mkF m 75 #[.val (.int p1), .val (.int p2), .val (.int p3), .val (.int p4), .val (.int x0), .val (.int x1), .val (.int x2), .val (.int x3), .val (.int nx), .val (.int lf), .unset, .unset, .unset, .unset, .unset, .unset, .unset, .unset, .unset, .unset] [(.int x3), (.int x2), (.int x1), (.int x0), (.int nx), (.ref bA), (.ref bA)])) t → Steps p.tables e below (s₁.setTop (entryFrame m #[(.int p1), (.int p2), (.int p3), (.int p4)] maxLocals)) t := by
    intro t k
    refine P14 _ ?_
    refine XS.dup X8.here hx rfl (hb hby at_64) rfl rfl ?_
    show Steps p.tables e below (T8.setTop (mkF m 65 #[.val (.int p1), .val (.int p2), .val (.int p3), .val (.int p4), .val (.int x0), .val (.int x1), .val (.int x2), .val (.int x3), .val (.int nx), .val (.int lf), .unset, .unset, .unset, .unset, .unset, .unset, .unset, .unset, .unset, .unset] [(.ref bA), (.ref bA)])) _
    refine XS.iload X8.here hx rfl (hb hby at_65) rfl ?_
    show Steps p.tables e below (T8.setTop (mkF m 67 #[.val (.int p1), .val (.int p2), .val (.int p3), .val (.int p4), .val (.int x0), .val (.int x1), .val (.int x2), .val (.int x3), .val (.int nx), .val (.int lf), .unset, .unset, .unset, .unset, .unset, .unset, .unset, .unset, .unset, .unset] [(.int nx), (.ref bA), (.ref bA)])) _
    refine XS.iload X8.here hx rfl (hb hby at_67) rfl ?_
    show Steps p.tables e below (T8.setTop (mkF m 69 #[.val (.int p1), .val (.int p2), .val (.int p3), .val (.int p4), .val (.int x0), .val (.int x1), .val (.int x2), .val (.int x3), .val (.int nx), .val (.int lf), .unset, .unset, .unset, .unset, .unset, .unset, .unset, .unset, .unset, .unset] [(.int x0), (.int nx), (.ref bA), (.ref bA)])) _
    refine XS.iload X8.here hx rfl (hb hby at_69) rfl ?_
    show Steps p.tables e below (T8.setTop (mkF m 71 #[.val (.int p1), .val (.int p2), .val (.int p3), .val (.int p4), .val (.int x0), .val (.int x1), .val (.int x2), .val (.int x3), .val (.int nx), .val (.int lf), .unset, .unset, .unset, .unset, .unset, .unset, .unset, .unset, .unset, .unset] [(.int x1), (.int x0), (.int nx), (.ref bA), (.ref bA)])) _
    refine XS.iload X8.here hx rfl (hb hby at_71) rfl ?_
    show Steps p.tables e below (T8.setTop (mkF m 73 #[.val (.int p1), .val (.int p2), .val (.int p3), .val (.int p4), .val (.int x0), .val (.int x1), .val (.int x2), .val (.int x3), .val (.int nx), .val (.int lf), .unset, .unset, .unset, .unset, .unset, .unset, .unset, .unset, .unset, .unset] [(.int x2), (.int x1), (.int x0), (.int nx), (.ref bA), (.ref bA)])) _
    refine XS.iload X8.here hx rfl (hb hby at_73) rfl ?_
    show Steps p.tables e below (T8.setTop (mkF m 75 #[.val (.int p1), .val (.int p2), .val (.int p3), .val (.int p4), .val (.int x0), .val (.int x1), .val (.int x2), .val (.int x3), .val (.int nx), .val (.int lf), .unset, .unset, .unset, .unset, .unset, .unset, .unset, .unset, .unset, .unset] [(.int x3), (.int x2), (.int x1), (.int x0), (.int nx), (.ref bA), (.ref bA)])) _
    exact k
  obtain ⟨_, _, ⟨T16, L16, k16, n16⟩, -, X16, hS, hgr, ⟨Lc16, hQ16, l16, y16, z16⟩, st16⟩ := callSS X8 hx (y := (⟨"com/example/basewright/basewright/AlphabetPairsPinLaw", "text", "(ICCCC)Ljava/lang/String;"⟩ : MethodName)) hown (mvT hZ (hw _ (List.mem_of_getElem? (i := 4) rfl))) (mvT hZ (hw _ (List.mem_of_getElem? (i := 5) rfl))) (mvT hZ (hw _ (List.mem_of_getElem? (i := 6) rfl))) (mvT hZ (hw _ (List.mem_of_getElem? (i := 7) rfl))) (by decide) (own_backC (W := 2) (rm36 l Z a0 hw [] nx x0 x1 x2 x3  h8 n0 Z12 F9 hz0) hZ (hw _ (List.mem_of_getElem? (i := 7) rfl)) (hw _ (List.mem_of_getElem? (i := 6) rfl)) (by decide) (by decide) (own_ew hw) (own_chk hC K13)) (g := (mkF m 75 #[.val (.int p1), .val (.int p2), .val (.int p3), .val (.int p4), .val (.int x0), .val (.int x1), .val (.int x2), .val (.int x3), .val (.int nx), .val (.int lf), .unset, .unset, .unset, .unset, .unset, .unset, .unset, .unset, .unset, .unset] [(.int x3), (.int x2), (.int x1), (.int x0), (.int nx), (.ref bA), (.ref bA)])) rfl (by rw [hml]; rfl) (argsL := [(.int nx), (.int x0), (.int x1), (.int x2), (.int x3)]) (rest := [(.ref bA), (.ref bA)]) (lenOf pd_11 rfl) rfl (by show 2 * 0 + _ ≤ _; exact Nat.le_of_eq rfl) (hb hby at_75) (fun _ _ => ⟨rfl, e8, (by decide : 1 + 4 ≤ _), (by decide : 2 + 8 ≤ _)⟩)
  dsimp only [Pt.U, Pt.locs, Pt.cells, Pt.slots] at X16 l16 y16 z16 st16 hQ16 hS hgr
  subst l16 y16 z16
  have hZ : Z.Warmed39 (s.setVm T16.vm).vm := State.Warmed39.trans (t := s) hZ hS.1
  have hown : (s.setVm T16.vm).vm.findClass "com/example/basewright/basewright/AlphabetPairsPinLaw" = some m.cls := by rw [show (s.setVm T16.vm).vm = T16.vm from rfl, hS.1.alike.findClass]; exact hown
  obtain ⟨b_16, bv_16, kb_16, rfl, N16q, K16, s16_b, Y16_0, Y16_1, Y16_2, Y16_3, Y16_4⟩ := hQ16
  have F17 : Old Z n0 T16.heap := F9.keep K16 all0
  have F18 : Exa Z T16.heap bA "com/example/basewright/basewright/Alphabet" := A8.keep K16
  have F19 : Fld Z T16.heap bA "com/example/basewright/basewright/Alphabet" "characters" "[B" .null := F10.keep K16 nin0
  have F20 : Fld Z T16.heap bA "com/example/basewright/basewright/Alphabet" "values" "[B" .null := F11.keep K16 nin0
  have Z21 : n0 ≤ T16.heap.size := Nat.le_trans Z12 K16.1
  have K22 : Keep h0 T16.heap [] := K13.trans K16 all0
  have g_b_16 : n0 ≤ b_16 := Nat.le_trans Z12 s16_b
  have sz_b_16 : h0.size ≤ b_16 := Nat.le_trans K13.1 s16_b
  have ne_bA_b_16 : bA ≠ b_16 := Nat.ne_of_lt (Nat.lt_of_lt_of_le A8.lt s16_b)
  have N16 := Fr.app N0 N16q
  have P23 : ∀ t, Steps p.tables e below (T16.setTop (mkF m 78 #[.val (.int p1), .val (.int p2), .val (.int p3), .val (.int p4), .val (.int x0), .val (.int x1), .val (.int x2), .val (.int x3), .val (.int nx), .val (.int lf), .unset, .unset, .unset, .unset, .unset, .unset, .unset, .unset, .unset, .unset] [(.ref b_16), (.ref bA), (.ref bA)])) t → Steps p.tables e below (s₁.setTop (entryFrame m #[(.int p1), (.int p2), (.int p3), (.int p4)] maxLocals)) t := fun t k => P15 _ (st16.trans k)
  have hk24 : T16.heap.size ≤ T16.heap.size := Nat.le_refl _
  have ne_bA_bv_16 : bA ≠ bv_16 := own_arrne (hw _ (List.mem_of_getElem? (i := 2) rfl)) F18 Y16_3
  obtain ⟨_, _, ⟨T25, L25, k25, n25⟩, -, X25, ⟨Lc25, hQ25, l25, y25, z25⟩, st25⟩ := X16.specialBack hx (y := (⟨"com/example/basewright/basewright/Alphabet", "<init>", "(Ljava/lang/String;)V"⟩ : MethodName)) rfl hown (mvT hZ (hw _ (List.mem_of_getElem? (i := 38) rfl))) (mvT hZ (hw _ (List.mem_of_getElem? (i := 39) rfl))) (mvT hZ (hw _ (List.mem_of_getElem? (i := 40) rfl))) (by decide) (backOf (W := 1) (rm27 l Z a0 hw [] bA b_16 .null .null bv_16 nx kb_16 (own_l4 x0 x1 x2 x3) nxn wA wU wI ccs T16.heap n0 Z21 F17 F18 F19 F20 g_bA Y16_0 Y16_1 Y16_2 Y16_3 Y16_4 hnx hn4 (own_l4s hc_x0 hc_x1 hc_x2 hc_x3 (by omega)) S_H S_wU S_wI S_wA neU neI S_cs hcc) hZ (hw _ (List.mem_of_getElem? (i := 40) rfl)) (hw _ (List.mem_of_getElem? (i := 3) rfl)) (by decide) (by decide)) (g := (mkF m 78 #[.val (.int p1), .val (.int p2), .val (.int p3), .val (.int p4), .val (.int x0), .val (.int x1), .val (.int x2), .val (.int x3), .val (.int nx), .val (.int lf), .unset, .unset, .unset, .unset, .unset, .unset, .unset, .unset, .unset, .unset] [(.ref b_16), (.ref bA), (.ref bA)])) rfl (by rw [hml]; rfl) (Steps.refl _) (a := bA) (argsL := [(.ref b_16)]) (rest := [(.ref bA)]) (lenOf pd_12 rfl) rfl (by show 2 * 0 + _ ≤ _; exact Nat.le_of_eq rfl) (hb hby at_78) (fun _ _ => ⟨rfl, rfl, (by decide : 5 + 2 ≤ _), (by decide : 10 + 260 ≤ _)⟩)
  dsimp only [Pt.U, Pt.locs, Pt.cells, Pt.slots] at X25 l25 y25 z25 st25 hQ25
  subst l25 y25 z25
  obtain ⟨bc_25, bz_25, kz_25, rfl, N25q, K25, s25_bc, s25_bz, Y25_0, Y25_1, Y25_2, Y25_3, Y25_4⟩ := hQ25
  have F26 : Old Z n0 T25.heap := F17.keep K25 (allS g_bA all0)
  have F27 : Exa Z T25.heap bA "com/example/basewright/basewright/Alphabet" := F18.keep K25
  have F28 : Exa Z T25.heap b_16 "java/lang/String" := Y16_0.keep K25
  have F29 : Fld Z T25.heap b_16 "java/lang/String" "value" "[B" (.ref bv_16) := Y16_1.keep K25 (ninS (Ne.symm ne_bA_b_16) nin0)
  have F30 : Fld Z T25.heap b_16 "java/lang/String" "coder" "B" (.int (0 : Int32)) := Y16_2.keep K25 (ninS (Ne.symm ne_bA_b_16) nin0)
  have F31 : own_Af Z T25.heap bv_16 kb_16 .byte nx (fun i => Value.int ((own_l4 x0 x1 x2 x3) i)) := Y16_3.keep K25 (ninS (Ne.symm ne_bA_bv_16) nin0)
  have F32 : Exa Z T25.heap bv_16 "[B" := Y16_4.keep K25
  have hk33 : T16.heap.size ≤ T25.heap.size := Nat.le_trans hk24 K25.1
  have Z34 : n0 ≤ T25.heap.size := Nat.le_trans Z21 K25.1
  have K35 : Keep h0 T25.heap [] := K22.trans K25 (allS (Or.inr sz_bA) all0)
  have g_bc_25 : n0 ≤ bc_25 := Nat.le_trans Z21 s25_bc
  have sz_bc_25 : h0.size ≤ bc_25 := Nat.le_trans K22.1 s25_bc
  have ne_bA_bc_25 : bA ≠ bc_25 := Nat.ne_of_lt (Nat.lt_of_lt_of_le F18.lt s25_bc)
  have ne_b_16_bc_25 : b_16 ≠ bc_25 := Nat.ne_of_lt (Nat.lt_of_lt_of_le Y16_0.lt s25_bc)
  have g_bz_25 : n0 ≤ bz_25 := Nat.le_trans Z21 s25_bz
  have sz_bz_25 : h0.size ≤ bz_25 := Nat.le_trans K22.1 s25_bz
  have ne_bA_bz_25 : bA ≠ bz_25 := Nat.ne_of_lt (Nat.lt_of_lt_of_le F18.lt s25_bz)
  have ne_b_16_bz_25 : b_16 ≠ bz_25 := Nat.ne_of_lt (Nat.lt_of_lt_of_le Y16_0.lt s25_bz)
  have N25 := Fr.app N16 N25q
  have P36 : ∀ t, Steps p.tables e below (T25.setTop (mkF m 81 #[.val (.int p1), .val (.int p2), .val (.int p3), .val (.int p4), .val (.int x0), .val (.int x1), .val (.int x2), .val (.int x3), .val (.int nx), .val (.int lf), .unset, .unset, .unset, .unset, .unset, .unset, .unset, .unset, .unset, .unset] [(.ref bA)])) t → Steps p.tables e below (s₁.setTop (entryFrame m #[(.int p1), (.int p2), (.int p3), (.int p4)] maxLocals)) t := fun t k => P23 _ (st25.trans k)
  have P37 : ∀ t, Steps p.tables e below (T25.setTop (mkF m 87 #[.val (.int p1), .val (.int p2), .val (.int p3), .val (.int p4), .val (.int x0), .val (.int x1), .val (.int x2), .val (.int x3), .val (.int nx), .val (.int lf), .val (.ref bA), .unset, .unset, .unset, .unset, .unset, .unset, .unset, .unset, .unset] [(.int lf), (.ref bA)])) t → Steps p.tables e below (s₁.setTop (entryFrame m #[(.int p1), (.int p2), (.int p3), (.int p4)] maxLocals)) t := by
    intro t k
    refine P36 _ ?_
    refine XS.astore X25.here hx rfl (hb hby at_81) rfl rfl (l' := #[.val (.int p1), .val (.int p2), .val (.int p3), .val (.int p4), .val (.int x0), .val (.int x1), .val (.int x2), .val (.int x3), .val (.int nx), .val (.int lf), .val (.ref bA), .unset, .unset, .unset, .unset, .unset, .unset, .unset, .unset, .unset]) rfl ?_
    show Steps p.tables e below (T25.setTop (mkF m 83 #[.val (.int p1), .val (.int p2), .val (.int p3), .val (.int p4), .val (.int x0), .val (.int x1), .val (.int x2), .val (.int x3), .val (.int nx), .val (.int lf), .val (.ref bA), .unset, .unset, .unset, .unset, .unset, .unset, .unset, .unset, .unset] [])) _
    refine XS.aload X25.here hx rfl (hb hby at_83) rfl rfl ?_
    show Steps p.tables e below (T25.setTop (mkF m 85 #[.val (.int p1), .val (.int p2), .val (.int p3), .val (.int p4), .val (.int x0), .val (.int x1), .val (.int x2), .val (.int x3), .val (.int nx), .val (.int lf), .val (.ref bA), .unset, .unset, .unset, .unset, .unset, .unset, .unset, .unset, .unset] [(.ref bA)])) _
    refine XS.iload X25.here hx rfl (hb hby at_85) rfl ?_
    show Steps p.tables e below (T25.setTop (mkF m 87 #[.val (.int p1), .val (.int p2), .val (.int p3), .val (.int p4), .val (.int x0), .val (.int x1), .val (.int x2), .val (.int x3), .val (.int nx), .val (.int lf), .val (.ref bA), .unset, .unset, .unset, .unset, .unset, .unset, .unset, .unset, .unset] [(.int lf), (.ref bA)])) _
    exact k
  obtain ⟨cq38, kq38, qa38, qb38, qc38⟩ := isOf hZ rfl Y25_0
  obtain ⟨_, _, ⟨T38, L38, k38, n38⟩, -, X38, ⟨Lc38, hQ38, l38, y38, z38⟩, st38⟩ := X25.virtualBack hx (y := (⟨"com/example/basewright/basewright/Alphabet", "pairs", "(Z)[S"⟩ : MethodName)) (z := (⟨"com/example/basewright/basewright/Alphabet", "pairs", "(Z)[S"⟩ : MethodName)) hown (mvT hZ (hw _ (List.mem_of_getElem? (i := 87) rfl))) (mvT hZ (hw _ (List.mem_of_getElem? (i := 88) rfl))) (notFace_of_selects (args := #[]) (mvT hZ (hw _ (List.mem_of_getElem? (i := 90) rfl)))) (mvT hZ (hw _ (List.mem_of_getElem? (i := 90) rfl))) (mvT hZ (hw _ (List.mem_of_getElem? (i := 89) rfl))) (by decide) (backOf (W := 0) (rm28 l Z a0 hw [] bA lf bc_25 nx kb_16 (own_l4 x0 x1 x2 x3) nxn T25.heap n0 Z34 Y25_1 Y25_3 hnx hn4) hZ (hw _ (List.mem_of_getElem? (i := 91) rfl)) (hw _ (List.mem_of_getElem? (i := 3) rfl)) (by decide) (by decide)) qa38 qc38 (g := (mkF m 87 #[.val (.int p1), .val (.int p2), .val (.int p3), .val (.int p4), .val (.int x0), .val (.int x1), .val (.int x2), .val (.int x3), .val (.int nx), .val (.int lf), .val (.ref bA), .unset, .unset, .unset, .unset, .unset, .unset, .unset, .unset, .unset] [(.int lf), (.ref bA)])) rfl (by rw [hml]; rfl) (Steps.refl _) (argsL := [(.int lf)]) (rest := []) (lenOf pd_13 rfl) rfl (by show 2 * 0 + _ ≤ _; exact Nat.le_of_eq rfl) (hb hby at_87) (fun _ _ => ⟨rfl, rfl, (by decide : 7 + 1 ≤ _), (by decide : 270 + 16 ≤ _)⟩)
  dsimp only [Pt.U, Pt.locs, Pt.cells, Pt.slots] at X38 l38 y38 z38 st38 hQ38
  subst l38 y38 z38
  obtain ⟨b_38, kp_38, nq_38, rfl, N38q, K38, s38_b, Y38_0, Y38_1⟩ := hQ38
  have F39 : Old Z n0 T38.heap := F26.keep K38 all0
  have F40 : Exa Z T38.heap bA "com/example/basewright/basewright/Alphabet" := Y25_0.keep K38
  have F41 : Exa Z T38.heap b_16 "java/lang/String" := F28.keep K38
  have F42 : Fld Z T38.heap b_16 "java/lang/String" "value" "[B" (.ref bv_16) := F29.keep K38 nin0
  have F43 : Fld Z T38.heap b_16 "java/lang/String" "coder" "B" (.int (0 : Int32)) := F30.keep K38 nin0
  have F44 : own_Af Z T38.heap bv_16 kb_16 .byte nx (fun i => Value.int ((own_l4 x0 x1 x2 x3) i)) := F31.keep K38 nin0
  have F45 : Exa Z T38.heap bv_16 "[B" := F32.keep K38
  have F46 : Fld Z T38.heap bA "com/example/basewright/basewright/Alphabet" "characters" "[B" (.ref bc_25) := Y25_1.keep K38 nin0
  have F47 : Fld Z T38.heap bA "com/example/basewright/basewright/Alphabet" "values" "[B" (.ref bz_25) := Y25_2.keep K38 nin0
  have F48 : own_Af Z T38.heap bc_25 kb_16 .byte nx (fun i => Value.int ((own_l4 x0 x1 x2 x3) i)) := Y25_3.keep K38 nin0
  have F49 : own_Af Z T38.heap bz_25 kz_25 .byte (256 : Int32) (fun j => Value.int (own_vf (own_l4 x0 x1 x2 x3) nxn j)) := Y25_4.keep K38 nin0
  have hk50 : T16.heap.size ≤ T38.heap.size := Nat.le_trans hk33 K38.1
  have Z51 : n0 ≤ T38.heap.size := Nat.le_trans Z34 K38.1
  have K52 : Keep h0 T38.heap [] := K35.trans K38 all0
  have g_b_38 : n0 ≤ b_38 := Nat.le_trans Z34 s38_b
  have sz_b_38 : h0.size ≤ b_38 := Nat.le_trans K35.1 s38_b
  have ne_bA_b_38 : bA ≠ b_38 := Nat.ne_of_lt (Nat.lt_of_lt_of_le Y25_0.lt s38_b)
  have ne_b_16_b_38 : b_16 ≠ b_38 := Nat.ne_of_lt (Nat.lt_of_lt_of_le F28.lt s38_b)
  have ne_bc_25_b_38 : bc_25 ≠ b_38 := Nat.ne_of_lt (Nat.lt_of_lt_of_le Y25_3.lt s38_b)
  have ne_bz_25_b_38 : bz_25 ≠ b_38 := Nat.ne_of_lt (Nat.lt_of_lt_of_le Y25_4.lt s38_b)
  have N38 := Fr.app N25 N38q
  have P53 : ∀ t, Steps p.tables e below (T38.setTop (mkF m 90 #[.val (.int p1), .val (.int p2), .val (.int p3), .val (.int p4), .val (.int x0), .val (.int x1), .val (.int x2), .val (.int x3), .val (.int nx), .val (.int lf), .val (.ref bA), .unset, .unset, .unset, .unset, .unset, .unset, .unset, .unset, .unset] [(.ref b_38)])) t → Steps p.tables e below (s₁.setTop (entryFrame m #[(.int p1), (.int p2), (.int p3), (.int p4)] maxLocals)) t := fun t k => P37 _ (st38.trans k)
  have P54 : ∀ t, Steps p.tables e below (T38.setTop (mkF m 108 #[.val (.int p1), .val (.int p2), .val (.int p3), .val (.int p4), .val (.int x0), .val (.int x1), .val (.int x2), .val (.int x3), .val (.int nx), .val (.int lf), .val (.ref bA), .val (.ref b_38), .unset, .unset, .unset, .unset, .unset, .unset, .unset, .unset] [(.int (1 : Int32))])) t → Steps p.tables e below (s₁.setTop (entryFrame m #[(.int p1), (.int p2), (.int p3), (.int p4)] maxLocals)) t := by
    intro t k
    refine P53 _ ?_
    refine XS.astore X38.here hx rfl (hb hby at_90) rfl rfl (l' := #[.val (.int p1), .val (.int p2), .val (.int p3), .val (.int p4), .val (.int x0), .val (.int x1), .val (.int x2), .val (.int x3), .val (.int nx), .val (.int lf), .val (.ref bA), .val (.ref b_38), .unset, .unset, .unset, .unset, .unset, .unset, .unset, .unset]) rfl ?_
    show Steps p.tables e below (T38.setTop (mkF m 92 #[.val (.int p1), .val (.int p2), .val (.int p3), .val (.int p4), .val (.int x0), .val (.int x1), .val (.int x2), .val (.int x3), .val (.int nx), .val (.int lf), .val (.ref bA), .val (.ref b_38), .unset, .unset, .unset, .unset, .unset, .unset, .unset, .unset] [])) _
    refine XS.iload X38.here hx rfl (hb hby at_92) rfl ?_
    show Steps p.tables e below (T38.setTop (mkF m 94 #[.val (.int p1), .val (.int p2), .val (.int p3), .val (.int p4), .val (.int x0), .val (.int x1), .val (.int x2), .val (.int x3), .val (.int nx), .val (.int lf), .val (.ref bA), .val (.ref b_38), .unset, .unset, .unset, .unset, .unset, .unset, .unset, .unset] [(.int nx)])) _
    refine XS.ifNo X38.here hx rfl (hb hby at_94) rfl (XT.i0_ne_f hz0) ?_
    show Steps p.tables e below (T38.setTop (mkF m 97 #[.val (.int p1), .val (.int p2), .val (.int p3), .val (.int p4), .val (.int x0), .val (.int x1), .val (.int x2), .val (.int x3), .val (.int nx), .val (.int lf), .val (.ref bA), .val (.ref b_38), .unset, .unset, .unset, .unset, .unset, .unset, .unset, .unset] [])) _
    refine XS.aload X38.here hx rfl (hb hby at_97) rfl rfl ?_
    show Steps p.tables e below (T38.setTop (mkF m 99 #[.val (.int p1), .val (.int p2), .val (.int p3), .val (.int p4), .val (.int x0), .val (.int x1), .val (.int x2), .val (.int x3), .val (.int nx), .val (.int lf), .val (.ref bA), .val (.ref b_38), .unset, .unset, .unset, .unset, .unset, .unset, .unset, .unset] [(.ref b_38)])) _
    refine own_flen X38 hx hZ rfl Y38_0 rfl rfl (hb hby at_99) ?_
    show Steps p.tables e below (T38.setTop (mkF m 100 #[.val (.int p1), .val (.int p2), .val (.int p3), .val (.int p4), .val (.int x0), .val (.int x1), .val (.int x2), .val (.int x3), .val (.int nx), .val (.int lf), .val (.ref bA), .val (.ref b_38), .unset, .unset, .unset, .unset, .unset, .unset, .unset, .unset] [(.int nq_38)])) _
    refine XS.ifNo X38.here hx rfl (hb hby at_100) rfl (XT.i0_ne_f (own_z0 Y38_1 hz0)) ?_
    show Steps p.tables e below (T38.setTop (mkF m 103 #[.val (.int p1), .val (.int p2), .val (.int p3), .val (.int p4), .val (.int x0), .val (.int x1), .val (.int x2), .val (.int x3), .val (.int nx), .val (.int lf), .val (.ref bA), .val (.ref b_38), .unset, .unset, .unset, .unset, .unset, .unset, .unset, .unset] [])) _
    refine XS.iconst X38.here hx rfl (hb hby at_103) ?_
    show Steps p.tables e below (T38.setTop (mkF m 104 #[.val (.int p1), .val (.int p2), .val (.int p3), .val (.int p4), .val (.int x0), .val (.int x1), .val (.int x2), .val (.int x3), .val (.int nx), .val (.int lf), .val (.ref bA), .val (.ref b_38), .unset, .unset, .unset, .unset, .unset, .unset, .unset, .unset] [(.int (1 : Int32))])) _
    refine XS.goto X38.here hx rfl (pc0 := 104) (pc' := 108) rfl (hb hby at_104) (by decide) (by decide) ?_
    show Steps p.tables e below (T38.setTop (mkF m 108 #[.val (.int p1), .val (.int p2), .val (.int p3), .val (.int p4), .val (.int x0), .val (.int x1), .val (.int x2), .val (.int x3), .val (.int nx), .val (.int lf), .val (.ref bA), .val (.ref b_38), .unset, .unset, .unset, .unset, .unset, .unset, .unset, .unset] [(.int (1 : Int32))])) _
    exact k
  obtain ⟨fs, hr, hrun, hended, hRW⟩ := X38.leaveW hS hk50 (v := some (.int (1 : Int32))) (fun h => by rw [Bd.returns] at h; cases h)
  refine ⟨_, _, P54 _ ?_, hrun, hended, _, _, rfl, ?_, hRW.1, hRW.2.1, hRW.2.2.1, hRW.2.2.2.mono (by decide) (by decide)⟩
  · exact retN X38 hx (t := .boolean) Bd.returns (by simp) (hb hby at_108) hr
  · show Q0z Z p1 p2 p3 p4 ccs wA wU wI h0 n0 _ T38.heap _
    exact ⟨rfl, N38⟩
set_option maxRecDepth 65536 in
set_option maxHeartbeats 40000000 in
theorem comes_1 {Post : Tables → Env → Array Value → State → Outcome → State → Prop} (hpost : ∀ tb e args s v u, (limb_1_1.after args s (.returned v) u = true ∧ limb_1_2.after args s (.returned v) u = true ∧ True) → ReturnedEndW s (.returned v) u (Jvm.fieldLocs frame_1_writes args s ++ Jvm.arrayLocs frame_1_arrays args s ++ Jvm.staticLocs frame_1_statics s) 32 1728 → Post tb e args s (.returned v) u) :
    ArmFor flags0 classFile x code maxLocals ret World_1 tables_1 room_1 Calls_1 rest_1 Pre_1 Post := by
  intro l hfl _ _ p e ha hc hk s m args below hf hA hF happ hP
  obtain ⟨hcalls, hrest, hpre⟩ := hP
  obtain ⟨-, -, -, hnamed, -, -, -, hat⟩ := (Spec.applies_iff hf).mp happ
  obtain ⟨hg, hn⟩ := and_e (Cond.before_iff.mp (show (Jvm.Cond.and given_1 narrow_1).before args s = true from hpre))
  obtain ⟨g1, g2⟩ := and_e hg
  obtain ⟨g3, g4⟩ := and_e g2
  obtain ⟨g5, g6⟩ := and_e g4
  obtain ⟨g7, g8⟩ := and_e g6
  obtain ⟨w0, w1, w2, w3, rfl⟩ : ∃ w0 w1 w2 w3 : Value, args = #[w0, w1, w2, w3] := by
    have hs : args.size = 4 := by simpa [Cond.value, given_1] using g1
    obtain ⟨L⟩ := args
    match L, hs with
    | [w0, w1, w2, w3], _ => exact ⟨w0, w1, w2, w3, rfl⟩
  have hw := fun d (hd : d ∈ tables_1) => atoms_spec (ws := Jvm.Cond.code x code maxLocals ret :: tables_1) hat d (List.mem_cons_of_mem _ hd)
  have hfit : Fit s := fun {y c} hc i hi => by
    obtain ⟨ha, rfl⟩ := Array.getElem?_eq_some_iff.mp hc
    have q := List.all_eq_true.mp ((Array.all_eq_true_iff_forall_mem.mp hF) _ (Array.getElem_mem ha)) i (List.mem_range.mpr hi)
    simpa [Array.getElem?_eq_getElem hi] using q
  obtain ⟨hsets, hown0⟩ := atoms_of _ (rest_1_c_eq ▸ (show rest_1_c.before _ s = true from hrest))
  have hr0 := Cond.before_iff.mp hown0
  obtain ⟨i0, ei0⟩ := is_v g3
  obtain rfl : w0 = (.int i0) := Option.some.inj ei0
  obtain ⟨i1, ei1⟩ := is_v g5
  obtain rfl : w1 = (.int i1) := Option.some.inj ei1
  obtain ⟨i2, ei2⟩ := is_v g7
  obtain rfl : w2 = (.int i2) := Option.some.inj ei2
  obtain ⟨i3, ei3⟩ := is_v g8
  obtain rfl : w3 = (.int i3) := Option.some.inj ei3
  obtain ⟨ccs, evc⟩ := is_v (Cond.before_iff.mp (hsets _ (List.mem_of_getElem? (i := 1) rfl)))
  have S_cs := Sta.start evc (Or.inl (hsets _ (List.mem_of_getElem? (i := 0) rfl)))
  have hcc := own_notz (hsets _ (List.mem_of_getElem? (i := 2) rfl)) evc
  obtain ⟨wA, evA⟩ := exa_v (Cond.before_iff.mp (hsets _ (List.mem_of_getElem? (i := 14) rfl)))
  have S_H := Sta.start evA (Or.inl (hsets _ (List.mem_of_getElem? (i := 10) rfl)))
  have EA := Exa.start evA (Cond.before_iff.mp (hsets _ (List.mem_of_getElem? (i := 14) rfl)))
  obtain ⟨wA2, evA2⟩ := exa_v (Cond.before_iff.mp (hsets _ (List.mem_of_getElem? (i := 23) rfl)))
  have S_A := Sta.start evA2 (Or.inl (hsets _ (List.mem_of_getElem? (i := 12) rfl)))
  obtain rfl := own_eqr (hsets _ (List.mem_of_getElem? (i := 13) rfl)) evA evA2
  obtain ⟨wU, evU⟩ := exa_v (Cond.before_iff.mp (hsets _ (List.mem_of_getElem? (i := 17) rfl)))
  have S_U := Sta.start evU (Or.inl (hsets _ (List.mem_of_getElem? (i := 16) rfl)))
  have EU := Exa.start evU (Cond.before_iff.mp (hsets _ (List.mem_of_getElem? (i := 17) rfl)))
  obtain ⟨wI, evI⟩ := exa_v (Cond.before_iff.mp (hsets _ (List.mem_of_getElem? (i := 20) rfl)))
  have S_I := Sta.start evI (Or.inl (hsets _ (List.mem_of_getElem? (i := 19) rfl)))
  have EI := Exa.start evI (Cond.before_iff.mp (hsets _ (List.mem_of_getElem? (i := 20) rfl)))
  have neU := Exa.ne EA EU (by decide)
  have neI := Exa.ne EA EI (by decide)
  have hCH : CHv s consts_1 s.vm s.heap := CHv.start (own_ew hw) hcalls.1 (hsets _ (List.mem_of_getElem? (i := 2) rfl)) (hw _ (List.mem_of_getElem? (i := 27) rfl)) (hw _ (List.mem_of_getElem? (i := 10) rfl))
  by_cases hz : ((i1 &&& (2147483647 : Int32)) % (5 : Int32)) = (0 : Int32)
  · obtain ⟨n, o, h1, h2, h3, _, L, rfl, ⟨rfl, N⟩, hq⟩ := rm0z l s _ hw tables_1 i0 i1 i2 i3 ccs wA wU wI s.heap s.heap.size (Nat.le_refl _) (Old.start s) S_H S_U S_I S_A neU neI S_cs hcc hz p e ha hc hk s m _ below hf ((Spec.applies_iff_loose hf).mp happ).1 ⟨rfl, State.Warmed39.refl s, rfl, hCH⟩ trivial
    refine ⟨n, _, h1, h2, h3, hpost _ _ _ _ _ _ ⟨Cond.after_iff.mpr rfl, Cond.after_iff.mpr (eq_i res_at (Term.int_eval (1)) rfl), trivial⟩ ⟨hq.1, hq.2.1, hq.2.2.1, (hq.2.2.2.sift fun y hy => Or.inr (N y hy)).mono (by decide) (by decide)⟩⟩
  · obtain ⟨n, o, h1, h2, h3, _, L, rfl, ⟨rfl, N⟩, hq⟩ := rm0 l s _ hw tables_1 i0 i1 i2 i3 ccs wA wU wI s.heap s.heap.size (Nat.le_refl _) (Old.start s) S_H S_U S_I S_A neU neI S_cs hcc hz p e ha hc hk s m _ below hf ((Spec.applies_iff_loose hf).mp happ).1 ⟨rfl, State.Warmed39.refl s, rfl⟩ trivial
    refine ⟨n, _, h1, h2, h3, hpost _ _ _ _ _ _ ⟨Cond.after_iff.mpr rfl, Cond.after_iff.mpr (eq_i res_at (Term.int_eval (1)) rfl), trivial⟩ (ReturnedEndW.of_narrow hq.1 hq.2.1 ((hq.2.2.sift fun y hy => Or.inr (N y hy)).mono (by decide) (by decide)))⟩
theorem main_1_1 : Claimed_1_1 := comes_1 fun _ _ _ _ _ _ h hF => ⟨h.1, hF⟩
theorem main_1_2 : Claimed_1_2 := comes_1 fun _ _ _ _ _ _ h hF => ⟨h.2.1, hF⟩
end Jvm.Pilot.@@N@@
namespace Jvm.Pilot.@@N@@
open Jvm Jvm.ClassFile Sem Op Lib Jvm.Free Jvm.Stand Jvm.Pilot.@@N@@.Jvm.D
/-! MADE BY PROGRAM (witnessworld.py) out of the Statement's table words and the real class files: 31 classes; the members and pool entries that the words name. The judged class is class 1, her method 2. -/
namespace start1
open Jvm.ClassFile
def u (s : String) : CpInfo := .utf8 (stringToUtf16 s)
/-- a pool by its gaps: so many unusable entries, then the entry; so many at the end -/
def gap : Nat → List CpInfo → List CpInfo
  | 0, r => r
  | n + 1, r => .unusable :: gap n r
def poolList (es : List (Nat × CpInfo)) (last : Nat) : List CpInfo := es.foldr (fun e r => gap e.1 (e.2 :: r)) (gap last [])
def pool (es : List (Nat × CpInfo)) (last : Nat) : Array CpInfo := ⟨poolList es last⟩
def fileOf (pool : Array CpInfo) (this : Nat) (attrs : Array Attribute := #[]) (ms : Array MethodInfo := #[]) (fl : Nat := 33) (sup : Nat := 0) (ifs : Array Nat := #[]) (fds : Array FieldInfo := #[]) : ClassFile where
  minorVersion := 0
  majorVersion := 65
  constantPool := pool
  accessFlags := fl
  thisClass := this
  superClass := sup
  interfaces := ifs
  fields := fds
  methods := ms
  attributes := attrs
def plain (name : String) (sup : Option ClassId) : Class where
  name := name
  kind := .ordinary
  loader := none
  accessFlags := 33
  super := sup
  interfaces := #[]
  cf := none
  fields := #[]
  methods := #[]
  instanceTypes := #[]
  staticTypes := #[]
  resolved := #[]
  callSites := []
  init := .initialized
  statics := none
  mirror := none

def pool0 : Array CpInfo := pool [(5, u "<init>"), (0, u "()V"), (1, .class_ 10), (1, u "java/lang/Object"), (85, u "clone"), (0, u "()Ljava/lang/Object;")] 26

def k0c0 : Code := { maxStack := 0, maxLocals := 1, code := object_method_1_code, exceptionTable := #[], attributes := #[] }
def k0m0 : Method := { name := "<init>", desc := "()V", sig := { parameters := [], returnType := none }, accessFlags := 1, code := some k0c0 }
def k0m1 : Method := { name := "clone", desc := "()Ljava/lang/Object;", sig := { parameters := [], returnType := some (.object "java/lang/Object") }, accessFlags := 260, code := none }
/-- java/lang/Object -/
def k0 : Class := { plain "java/lang/Object" none with
  accessFlags := 33
  interfaces := #[]
  cf := some (fileOf pool0 8 #[] #[{ accessFlags := 1, nameIndex := 5, descriptorIndex := 6, attributes := #[] }, { accessFlags := 260, nameIndex := 96, descriptorIndex := 97, attributes := #[] }] 33 0 #[] #[])
  fields := #[]
  methods := #[k0m0, k0m1]
  instanceTypes := #[]
  staticTypes := #[]
  resolved := Array.replicate 124 none
  statics := none }

def pool1 : Array CpInfo := pool [(2, .class_ 4), (1, u "java/lang/Object"), (0, u "<init>"), (0, u "()V"), (0, .class_ 8), (0, u "java/lang/String"), (0, .methodref 7 10), (0, .nameAndType 5 11), (0, u "([C)V"), (0, .integer 2147483647), (0, .class_ 14), (0, u "com/example/basewright/basewright/Alphabet"), (0, .methodref 16 17), (0, .class_ 18), (0, .nameAndType 19 20), (0, u "com/example/basewright/basewright/AlphabetPairsPinLaw"), (0, u "text"), (0, u "(ICCCC)Ljava/lang/String;"), (0, .methodref 13 22), (0, .nameAndType 5 23), (0, u "(Ljava/lang/String;)V"), (0, .methodref 13 25), (0, .nameAndType 26 27), (0, u "pairs"), (0, u "(Z)[S"), (5, u "law"), (0, u "(IIII)Z")] 4

def k1m0 : Method := { name := "<init>", desc := "()V", sig := { parameters := [], returnType := none }, accessFlags := 2, code := none }
def k1c1 : Code := { maxStack := 4, maxLocals := 6, code := method_2_code, exceptionTable := #[], attributes := #[] }
def k1m1 : Method := { name := "text", desc := "(ICCCC)Ljava/lang/String;", sig := { parameters := [.int, .char, .char, .char, .char], returnType := some (.object "java/lang/String") }, accessFlags := 10, code := some k1c1 }
def k1c2 : Code := { maxStack := 7, maxLocals := 20, code := code, exceptionTable := #[], attributes := #[] }
def k1m2 : Method := { name := "law", desc := "(IIII)Z", sig := { parameters := [.int, .int, .int, .int], returnType := some .boolean }, accessFlags := 9, code := some k1c2 }
/-- com/example/basewright/basewright/AlphabetPairsPinLaw -/
def k1 : Class := { plain "com/example/basewright/basewright/AlphabetPairsPinLaw" (some 0) with
  accessFlags := 49
  interfaces := #[]
  cf := some (fileOf pool1 16 #[] #[{ accessFlags := 2, nameIndex := 5, descriptorIndex := 6, attributes := #[] }, { accessFlags := 10, nameIndex := 19, descriptorIndex := 20, attributes := #[] }, { accessFlags := 9, nameIndex := 33, descriptorIndex := 34, attributes := #[] }] 49 2 #[] #[])
  fields := #[]
  methods := #[k1m0, k1m1, k1m2]
  instanceTypes := #[]
  staticTypes := #[]
  resolved := Array.replicate 39 none
  statics := none }

def pool2 : Array CpInfo := pool [(3, .methodref 4 5), (0, .class_ 6), (0, .nameAndType 7 8), (0, u "java/lang/Object"), (0, u "<init>"), (0, u "()V"), (0, .fieldref 10 11), (0, .class_ 12), (0, .nameAndType 13 14), (0, u "java/nio/charset/StandardCharsets"), (0, u "US_ASCII"), (0, u "Ljava/nio/charset/Charset;"), (0, .methodref 16 17), (0, .class_ 18), (0, .nameAndType 19 20), (0, u "java/lang/String"), (0, u "getBytes"), (0, u "(Ljava/nio/charset/Charset;)[B"), (0, .fieldref 22 23), (0, .class_ 24), (0, .nameAndType 25 26), (0, u "com/example/basewright/basewright/Alphabet"), (0, u "characters"), (0, u "[B"), (0, .fieldref 22 28), (0, .nameAndType 29 26), (0, u "values"), (0, .methodref 31 32), (0, .class_ 33), (0, .nameAndType 34 35), (0, u "java/util/Arrays"), (0, u "fill"), (0, u "([BB)V"), (21, u "(Ljava/lang/String;)V"), (34, u "BOTH_CASES"), (0, u "Ljava/lang/String;"), (1, u "OUTSIDE"), (0, u "J"), (9, u "pairs"), (0, u "(Z)[S")] 13

def k2c0 : Code := { maxStack := 3, maxLocals := 3, code := prog_1_method_1_code, exceptionTable := #[], attributes := #[] }
def k2m0 : Method := { name := "<init>", desc := "(Ljava/lang/String;)V", sig := { parameters := [(.object "java/lang/String")], returnType := none }, accessFlags := 0, code := some k2c0 }
def k2c1 : Code := { maxStack := 4, maxLocals := 7, code := prog_1_method_6_code, exceptionTable := #[], attributes := #[] }
def k2m1 : Method := { name := "pairs", desc := "(Z)[S", sig := { parameters := [.boolean], returnType := some (.array .short) }, accessFlags := 0, code := some k2c1 }
/-- com/example/basewright/basewright/Alphabet -/
def k2 : Class := { plain "com/example/basewright/basewright/Alphabet" (some 0) with
  accessFlags := 48
  interfaces := #[]
  cf := some (fileOf pool2 22 #[] #[{ accessFlags := 0, nameIndex := 7, descriptorIndex := 57, attributes := #[] }, { accessFlags := 0, nameIndex := 106, descriptorIndex := 107, attributes := #[] }] 48 4 #[] #[{ accessFlags := 24, nameIndex := 92, descriptorIndex := 93, attributes := #[] }, { accessFlags := 24, nameIndex := 95, descriptorIndex := 96, attributes := #[] }, { accessFlags := 18, nameIndex := 25, descriptorIndex := 26, attributes := #[] }, { accessFlags := 18, nameIndex := 29, descriptorIndex := 26, attributes := #[] }])
  fields := #[{ name := "BOTH_CASES", type := (.object "java/lang/String"), accessFlags := 24, slot := 0, constantValue := 0 }, { name := "OUTSIDE", type := .long, accessFlags := 24, slot := 1, constantValue := 0 }, { name := "characters", type := (.array .byte), accessFlags := 18, slot := 0, constantValue := 0 }, { name := "values", type := (.array .byte), accessFlags := 18, slot := 1, constantValue := 0 }]
  methods := #[k2m0, k2m1]
  instanceTypes := #[(.array .byte), (.array .byte)]
  staticTypes := #[(.object "java/lang/String"), .long]
  resolved := Array.replicate 121 none
  statics := none }

def pool3 : Array CpInfo := pool [(1, .class_ 2), (0, u "java/io/Serializable"), (0, .class_ 4), (0, u "java/lang/Object")] 2

/-- java/io/Serializable -/
def k3 : Class := { plain "java/io/Serializable" (some 0) with
  accessFlags := 1537
  interfaces := #[]
  cf := some (fileOf pool3 1 #[] #[] 1537 3 #[] #[])
  fields := #[]
  methods := #[]
  instanceTypes := #[]
  staticTypes := #[]
  resolved := Array.replicate 7 none
  statics := none }

def pool4 : Array CpInfo := pool [(1, .class_ 2), (0, u "java/lang/Comparable"), (0, .class_ 4), (0, u "java/lang/Object")] 7

/-- java/lang/Comparable -/
def k4 : Class := { plain "java/lang/Comparable" (some 0) with
  accessFlags := 1537
  interfaces := #[]
  cf := some (fileOf pool4 1 #[] #[] 1537 3 #[] #[])
  fields := #[]
  methods := #[]
  instanceTypes := #[]
  staticTypes := #[]
  resolved := Array.replicate 12 none
  statics := none }

def pool5 : Array CpInfo := pool [(2, .class_ 4), (1, u "java/lang/CharSequence"), (42, .class_ 48), (0, u "java/lang/CharSequence$1CodePointIterator"), (10, .class_ 60), (0, u "java/lang/CharSequence$1CharIterator"), (5, .class_ 67), (0, u "java/lang/Object")] 63

/-- java/lang/CharSequence -/
def k5 : Class := { plain "java/lang/CharSequence" (some 0) with
  accessFlags := 1537
  interfaces := #[]
  cf := some (fileOf pool5 2 #[.nestMembers #[47, 59]] #[] 1537 66 #[] #[])
  fields := #[]
  methods := #[]
  instanceTypes := #[]
  staticTypes := #[]
  resolved := Array.replicate 131 none
  statics := none }

def pool6 : Array CpInfo := pool [(1, .class_ 2), (0, u "java/lang/constant/Constable"), (0, .class_ 4), (0, u "java/lang/Object")] 6

/-- java/lang/constant/Constable -/
def k6 : Class := { plain "java/lang/constant/Constable" (some 0) with
  accessFlags := 1537
  interfaces := #[]
  cf := some (fileOf pool6 1 #[] #[] 1537 3 #[] #[])
  fields := #[]
  methods := #[]
  instanceTypes := #[]
  staticTypes := #[]
  resolved := Array.replicate 11 none
  statics := none }

def pool7 : Array CpInfo := pool [(1, .class_ 2), (0, u "java/lang/constant/ConstantDesc"), (0, .class_ 4), (0, u "java/lang/Object")] 32

/-- java/lang/constant/ConstantDesc -/
def k7 : Class := { plain "java/lang/constant/ConstantDesc" (some 0) with
  accessFlags := 1537
  interfaces := #[]
  cf := some (fileOf pool7 1 #[] #[] 1537 3 #[] #[])
  fields := #[]
  methods := #[]
  instanceTypes := #[]
  staticTypes := #[]
  resolved := Array.replicate 37 none
  statics := none }

def pool8 : Array CpInfo := pool [(1, .methodref 2 3), (0, .class_ 4), (0, .nameAndType 5 6), (0, u "java/lang/Object"), (0, u "<init>"), (0, u "()V"), (0, .string 8), (0, u ""), (0, .fieldref 10 11), (0, .class_ 12), (0, .nameAndType 13 14), (0, u "java/lang/String"), (0, u "value"), (0, u "[B"), (0, .fieldref 10 16), (0, .nameAndType 17 18), (0, u "coder"), (0, u "B"), (2, u "hash"), (0, u "I"), (2, u "hashIsZero"), (0, u "Z"), (0, .methodref 10 28), (0, .nameAndType 5 29), (0, u "([CIILjava/lang/Void;)V"), (8, .fieldref 10 39), (0, .nameAndType 40 26), (0, u "COMPACT_STRINGS"), (1, .class_ 44), (1, u "java/lang/StringUTF16"), (0, u "compress"), (1, .methodref 42 48), (0, .nameAndType 49 50), (0, u "coderFromArrayLen"), (0, u "([BI)B"), (35, .fieldref 87 88), (0, .class_ 89), (0, .nameAndType 90 91), (0, u "sun/nio/cs/UTF_8"), (0, u "INSTANCE"), (0, u "Lsun/nio/cs/UTF_8;"), (0, .methodref 93 94), (0, .class_ 95), (0, .nameAndType 96 97), (0, u "java/lang/StringCoding"), (0, u "countPositives"), (0, u "([BII)I"), (18, .fieldref 117 118), (0, .class_ 119), (0, .nameAndType 90 120), (0, u "sun/nio/cs/ISO_8859_1"), (0, u "Lsun/nio/cs/ISO_8859_1;"), (2, .fieldref 124 125), (0, .class_ 126), (0, .nameAndType 90 127), (0, u "sun/nio/cs/US_ASCII"), (0, u "Lsun/nio/cs/US_ASCII;"), (49, .methodref 42 178), (0, .nameAndType 45 179), (0, u "([CII)[B"), (79, u "(B[B)[B"), (0, .methodref 10 261), (0, .nameAndType 262 259), (0, u "encodeASCII"), (16, .methodref 280 281), (0, .class_ 14), (0, .nameAndType 282 283), (0, u "clone"), (0, u "()Ljava/lang/Object;"), (33, u "encode"), (17, .methodref 10 336), (0, .nameAndType 17 337), (0, u "()B"), (194, u "getBytes"), (2, .methodref 10 536), (0, .nameAndType 317 537), (0, u "(Ljava/nio/charset/Charset;B[B)[B"), (37, .class_ 576), (0, u "java/lang/CharSequence"), (22, u "CASE_INSENSITIVE_ORDER"), (0, u "Ljava/util/Comparator;"), (409, u "([C)V"), (90, u "serialPersistentFields"), (0, u "[Ljava/io/ObjectStreamField;"), (0, .class_ 1104), (0, u "java/lang/String$CaseInsensitiveComparator"), (1, .class_ 1107), (0, u "java/io/Serializable"), (0, .class_ 1109), (0, u "java/lang/Comparable"), (0, .class_ 1111), (0, u "java/lang/constant/Constable"), (0, .class_ 1113), (0, u "java/lang/constant/ConstantDesc"), (2, u "serialVersionUID"), (0, u "J"), (3, u "REPL"), (0, u "C"), (2, u "LATIN1"), (1, u "UTF16"), (117, u "(Ljava/nio/charset/Charset;)[B")] 205

def k8m0 : Method := { name := "<init>", desc := "()V", sig := { parameters := [], returnType := none }, accessFlags := 1, code := none }
def k8c1 : Code := { maxStack := 5, maxLocals := 2, code := jdk_42_method_3_code, exceptionTable := #[], attributes := #[] }
def k8m1 : Method := { name := "<init>", desc := "([C)V", sig := { parameters := [(.array .char)], returnType := none }, accessFlags := 1, code := some k8c1 }
def k8c2 : Code := { maxStack := 4, maxLocals := 3, code := jdk_42_method_18_code, exceptionTable := #[], attributes := #[] }
def k8m2 : Method := { name := "encode", desc := "(Ljava/nio/charset/Charset;B[B)[B", sig := { parameters := [(.object "java/nio/charset/Charset"), .byte, (.array .byte)], returnType := some (.array .byte) }, accessFlags := 10, code := some k8c2 }
def k8c3 : Code := { maxStack := 3, maxLocals := 7, code := jdk_42_method_24_code, exceptionTable := #[], attributes := #[] }
def k8m3 : Method := { name := "encodeASCII", desc := "(B[B)[B", sig := { parameters := [.byte, (.array .byte)], returnType := some (.array .byte) }, accessFlags := 10, code := some k8c3 }
def k8c4 : Code := { maxStack := 3, maxLocals := 2, code := jdk_42_method_64_code, exceptionTable := #[], attributes := #[] }
def k8m4 : Method := { name := "getBytes", desc := "(Ljava/nio/charset/Charset;)[B", sig := { parameters := [(.object "java/nio/charset/Charset")], returnType := some (.array .byte) }, accessFlags := 1, code := some k8c4 }
def k8c5 : Code := { maxStack := 4, maxLocals := 6, code := jdk_42_method_149_code, exceptionTable := #[], attributes := #[] }
def k8m5 : Method := { name := "<init>", desc := "([CIILjava/lang/Void;)V", sig := { parameters := [(.array .char), .int, .int, (.object "java/lang/Void")], returnType := none }, accessFlags := 2, code := some k8c5 }
def k8c6 : Code := { maxStack := 1, maxLocals := 1, code := jdk_42_method_152_code, exceptionTable := #[], attributes := #[] }
def k8m6 : Method := { name := "coder", desc := "()B", sig := { parameters := [], returnType := some .byte }, accessFlags := 0, code := some k8c6 }
/-- java/lang/String -/
def k8 : Class := { plain "java/lang/String" (some 0) with
  accessFlags := 49
  interfaces := #[3, 4, 5, 6, 7]
  cf := some (fileOf pool8 10 #[.nestMembers #[1103]] #[{ accessFlags := 1, nameIndex := 5, descriptorIndex := 6, attributes := #[] }, { accessFlags := 1, nameIndex := 5, descriptorIndex := 1010, attributes := #[] }, { accessFlags := 10, nameIndex := 317, descriptorIndex := 537, attributes := #[] }, { accessFlags := 10, nameIndex := 262, descriptorIndex := 259, attributes := #[] }, { accessFlags := 1, nameIndex := 532, descriptorIndex := 1245, attributes := #[] }, { accessFlags := 2, nameIndex := 5, descriptorIndex := 29, attributes := #[] }, { accessFlags := 0, nameIndex := 17, descriptorIndex := 337, attributes := #[] }] 49 2 #[1106, 1108, 575, 1110, 1112] #[{ accessFlags := 18, nameIndex := 13, descriptorIndex := 14, attributes := #[] }, { accessFlags := 18, nameIndex := 17, descriptorIndex := 18, attributes := #[] }, { accessFlags := 2, nameIndex := 21, descriptorIndex := 22, attributes := #[] }, { accessFlags := 2, nameIndex := 25, descriptorIndex := 26, attributes := #[] }, { accessFlags := 26, nameIndex := 1116, descriptorIndex := 1117, attributes := #[] }, { accessFlags := 24, nameIndex := 40, descriptorIndex := 26, attributes := #[] }, { accessFlags := 26, nameIndex := 1101, descriptorIndex := 1102, attributes := #[] }, { accessFlags := 26, nameIndex := 1121, descriptorIndex := 1122, attributes := #[] }, { accessFlags := 25, nameIndex := 599, descriptorIndex := 600, attributes := #[] }, { accessFlags := 24, nameIndex := 1125, descriptorIndex := 18, attributes := #[] }, { accessFlags := 24, nameIndex := 1127, descriptorIndex := 18, attributes := #[] }])
  fields := #[{ name := "value", type := (.array .byte), accessFlags := 18, slot := 0, constantValue := 0 }, { name := "coder", type := .byte, accessFlags := 18, slot := 1, constantValue := 0 }, { name := "hash", type := .int, accessFlags := 2, slot := 2, constantValue := 0 }, { name := "hashIsZero", type := .boolean, accessFlags := 2, slot := 3, constantValue := 0 }, { name := "serialVersionUID", type := .long, accessFlags := 26, slot := 0, constantValue := 0 }, { name := "COMPACT_STRINGS", type := .boolean, accessFlags := 24, slot := 1, constantValue := 0 }, { name := "serialPersistentFields", type := (.array (.object "java/io/ObjectStreamField")), accessFlags := 26, slot := 2, constantValue := 0 }, { name := "REPL", type := .char, accessFlags := 26, slot := 3, constantValue := 0 }, { name := "CASE_INSENSITIVE_ORDER", type := (.object "java/util/Comparator"), accessFlags := 25, slot := 4, constantValue := 0 }, { name := "LATIN1", type := .byte, accessFlags := 24, slot := 5, constantValue := 0 }, { name := "UTF16", type := .byte, accessFlags := 24, slot := 6, constantValue := 0 }]
  methods := #[k8m0, k8m1, k8m2, k8m3, k8m4, k8m5, k8m6]
  instanceTypes := #[(.array .byte), .byte, .int, .boolean]
  staticTypes := #[.long, .boolean, (.array (.object "java/io/ObjectStreamField")), .char, (.object "java/util/Comparator"), .byte, .byte]
  resolved := Array.replicate 1451 none
  statics := some 0 }

def pool9 : Array CpInfo := pool [(6, .class_ 8), (1, u "java/lang/Object"), (0, u "<init>"), (0, u "()V"), (1, .class_ 14), (1, u "java/lang/StringUTF16"), (31, u "$assertionsDisabled"), (0, u "Z"), (13, u "HI_BYTE_SHIFT"), (0, u "I"), (2, u "LO_BYTE_SHIFT"), (49, .methodref 12 116), (0, .nameAndType 117 118), (0, u "compress"), (0, u "([CI[BII)I"), (3, u "([CII)[B"), (138, u "coderFromArrayLen"), (0, u "([BI)B"), (106, .class_ 371), (1, u "java/lang/StringUTF16$LinesSpliterator"), (58, u "MAX_LENGTH"), (196, .class_ 628), (0, u "java/lang/StringUTF16$CodePointsSpliterator"), (0, .class_ 630), (0, u "java/lang/StringUTF16$CharsSpliterator")] 4

def k9m0 : Method := { name := "<init>", desc := "()V", sig := { parameters := [], returnType := none }, accessFlags := 0, code := none }
def k9c1 : Code := { maxStack := 2, maxLocals := 2, code := jdk_52_method_15_code, exceptionTable := #[], attributes := #[] }
def k9m1 : Method := { name := "coderFromArrayLen", desc := "([BI)B", sig := { parameters := [(.array .byte), .int], returnType := some .byte }, accessFlags := 8, code := some k9c1 }
def k9c2 : Code := { maxStack := 5, maxLocals := 6, code := jdk_52_method_16_code, exceptionTable := #[], attributes := #[] }
def k9m2 : Method := { name := "compress", desc := "([CII)[B", sig := { parameters := [(.array .char), .int, .int], returnType := some (.array .byte) }, accessFlags := 9, code := some k9c2 }
def k9c3 : Code := { maxStack := 3, maxLocals := 7, code := jdk_52_method_21_code, exceptionTable := #[], attributes := #[] }
def k9m3 : Method := { name := "compress", desc := "([CI[BII)I", sig := { parameters := [(.array .char), .int, (.array .byte), .int, .int], returnType := some .int }, accessFlags := 9, code := some k9c3 }
/-- java/lang/StringUTF16 -/
def k9 : Class := { plain "java/lang/StringUTF16" (some 0) with
  accessFlags := 48
  interfaces := #[]
  cf := some (fileOf pool9 12 #[.nestMembers #[627, 629, 369]] #[{ accessFlags := 0, nameIndex := 9, descriptorIndex := 10, attributes := #[] }, { accessFlags := 8, nameIndex := 261, descriptorIndex := 262, attributes := #[] }, { accessFlags := 9, nameIndex := 117, descriptorIndex := 122, attributes := #[] }, { accessFlags := 9, nameIndex := 117, descriptorIndex := 118, attributes := #[] }] 48 6 #[] #[{ accessFlags := 26, nameIndex := 61, descriptorIndex := 62, attributes := #[] }, { accessFlags := 26, nameIndex := 65, descriptorIndex := 62, attributes := #[] }, { accessFlags := 24, nameIndex := 430, descriptorIndex := 62, attributes := #[] }, { accessFlags := 4120, nameIndex := 46, descriptorIndex := 47, attributes := #[] }])
  fields := #[{ name := "HI_BYTE_SHIFT", type := .int, accessFlags := 26, slot := 0, constantValue := 0 }, { name := "LO_BYTE_SHIFT", type := .int, accessFlags := 26, slot := 1, constantValue := 0 }, { name := "MAX_LENGTH", type := .int, accessFlags := 24, slot := 2, constantValue := 0 }, { name := "$assertionsDisabled", type := .boolean, accessFlags := 4120, slot := 3, constantValue := 0 }]
  methods := #[k9m0, k9m1, k9m2, k9m3]
  instanceTypes := #[]
  staticTypes := #[.int, .int, .int, .boolean]
  resolved := Array.replicate 635 none
  statics := none }

def pool10 : Array CpInfo := pool [(2, .class_ 4), (1, u "java/lang/Object"), (0, u "<init>"), (0, u "()V"), (14, .class_ 23), (1, u "java/nio/charset/StandardCharsets"), (0, u "US_ASCII"), (0, u "Ljava/nio/charset/Charset;"), (7, u "ISO_8859_1"), (7, u "UTF_8"), (5, u "UTF_16BE"), (5, u "UTF_16LE"), (5, u "UTF_16")] 8

def k10m0 : Method := { name := "<init>", desc := "()V", sig := { parameters := [], returnType := none }, accessFlags := 2, code := none }
/-- java/nio/charset/StandardCharsets -/
def k10 : Class := { plain "java/nio/charset/StandardCharsets" (some 0) with
  accessFlags := 49
  interfaces := #[]
  cf := some (fileOf pool10 21 #[] #[{ accessFlags := 2, nameIndex := 5, descriptorIndex := 6, attributes := #[] }] 49 2 #[] #[{ accessFlags := 25, nameIndex := 24, descriptorIndex := 25, attributes := #[] }, { accessFlags := 25, nameIndex := 33, descriptorIndex := 25, attributes := #[] }, { accessFlags := 25, nameIndex := 41, descriptorIndex := 25, attributes := #[] }, { accessFlags := 25, nameIndex := 47, descriptorIndex := 25, attributes := #[] }, { accessFlags := 25, nameIndex := 53, descriptorIndex := 25, attributes := #[] }, { accessFlags := 25, nameIndex := 59, descriptorIndex := 25, attributes := #[] }])
  fields := #[{ name := "US_ASCII", type := (.object "java/nio/charset/Charset"), accessFlags := 25, slot := 0, constantValue := 0 }, { name := "ISO_8859_1", type := (.object "java/nio/charset/Charset"), accessFlags := 25, slot := 1, constantValue := 0 }, { name := "UTF_8", type := (.object "java/nio/charset/Charset"), accessFlags := 25, slot := 2, constantValue := 0 }, { name := "UTF_16BE", type := (.object "java/nio/charset/Charset"), accessFlags := 25, slot := 3, constantValue := 0 }, { name := "UTF_16LE", type := (.object "java/nio/charset/Charset"), accessFlags := 25, slot := 4, constantValue := 0 }, { name := "UTF_16", type := (.object "java/nio/charset/Charset"), accessFlags := 25, slot := 5, constantValue := 0 }]
  methods := #[k10m0]
  instanceTypes := #[]
  staticTypes := #[(.object "java/nio/charset/Charset"), (.object "java/nio/charset/Charset"), (.object "java/nio/charset/Charset"), (.object "java/nio/charset/Charset"), (.object "java/nio/charset/Charset"), (.object "java/nio/charset/Charset")]
  resolved := Array.replicate 68 none
  statics := some 1 }

def pool11 : Array CpInfo := pool [(18, .class_ 20), (1, u "java/nio/charset/Charset"), (0, u "cache1"), (0, u "[Ljava/lang/Object;"), (2, u "cache2"), (0, .class_ 27), (0, u "java/lang/Object"), (0, .class_ 29), (0, u "java/nio/charset/Charset$1"), (4, .class_ 36), (1, u "java/nio/charset/Charset$ThreadTrackHolder"), (21, .class_ 59), (0, u "java/nio/charset/Charset$2"), (11, .class_ 73), (1, u "java/nio/charset/Charset$ExtendedProviderHolder"), (22, u "standardProvider"), (0, u "Ljava/nio/charset/spi/CharsetProvider;"), (29, u "name"), (7, .class_ 136), (0, u "java/nio/charset/Charset$3"), (5, u "defaultCharset"), (0, u "Ljava/nio/charset/Charset;"), (14, u "zeroAliases"), (0, u "[Ljava/lang/String;"), (29, u "Ljava/lang/String;"), (2, u "aliases"), (2, u "aliasSet"), (0, u "Ljava/util/Set;"), (82, .class_ 280), (0, u "java/lang/Comparable"), (84, .class_ 366), (0, u "java/nio/charset/Charset$ExtendedProviderHolder$1")] 3

/-- java/nio/charset/Charset -/
def k11 : Class := { plain "java/nio/charset/Charset" (some 0) with
  accessFlags := 1057
  interfaces := #[4]
  cf := some (fileOf pool11 18 #[.nestMembers #[71, 365, 34, 135, 58, 28]] #[] 1057 26 #[279] #[{ accessFlags := 26, nameIndex := 96, descriptorIndex := 97, attributes := #[] }, { accessFlags := 26, nameIndex := 158, descriptorIndex := 159, attributes := #[] }, { accessFlags := 74, nameIndex := 21, descriptorIndex := 22, attributes := #[] }, { accessFlags := 74, nameIndex := 25, descriptorIndex := 22, attributes := #[] }, { accessFlags := 10, nameIndex := 142, descriptorIndex := 143, attributes := #[] }, { accessFlags := 18, nameIndex := 127, descriptorIndex := 189, attributes := #[] }, { accessFlags := 18, nameIndex := 192, descriptorIndex := 159, attributes := #[] }, { accessFlags := 2, nameIndex := 195, descriptorIndex := 196, attributes := #[] }])
  fields := #[{ name := "standardProvider", type := (.object "java/nio/charset/spi/CharsetProvider"), accessFlags := 26, slot := 0, constantValue := 0 }, { name := "zeroAliases", type := (.array (.object "java/lang/String")), accessFlags := 26, slot := 1, constantValue := 0 }, { name := "cache1", type := (.array (.object "java/lang/Object")), accessFlags := 74, slot := 2, constantValue := 0 }, { name := "cache2", type := (.array (.object "java/lang/Object")), accessFlags := 74, slot := 3, constantValue := 0 }, { name := "defaultCharset", type := (.object "java/nio/charset/Charset"), accessFlags := 10, slot := 4, constantValue := 0 }, { name := "name", type := (.object "java/lang/String"), accessFlags := 18, slot := 0, constantValue := 0 }, { name := "aliases", type := (.array (.object "java/lang/String")), accessFlags := 18, slot := 1, constantValue := 0 }, { name := "aliasSet", type := (.object "java/util/Set"), accessFlags := 2, slot := 2, constantValue := 0 }]
  methods := #[]
  instanceTypes := #[(.object "java/lang/String"), (.array (.object "java/lang/String")), (.object "java/util/Set")]
  staticTypes := #[(.object "java/nio/charset/spi/CharsetProvider"), (.array (.object "java/lang/String")), (.array (.object "java/lang/Object")), (.array (.object "java/lang/Object")), (.object "java/nio/charset/Charset")]
  resolved := Array.replicate 370 none
  statics := none }

def pool12 : Array CpInfo := pool [(1, .class_ 2), (0, u "sun/nio/cs/HistoricallyNamedCharset"), (0, .class_ 4), (0, u "java/lang/Object")] 4

/-- sun/nio/cs/HistoricallyNamedCharset -/
def k12 : Class := { plain "sun/nio/cs/HistoricallyNamedCharset" (some 0) with
  accessFlags := 1537
  interfaces := #[]
  cf := some (fileOf pool12 1 #[] #[] 1537 3 #[] #[])
  fields := #[]
  methods := #[]
  instanceTypes := #[]
  staticTypes := #[]
  resolved := Array.replicate 9 none
  statics := none }

def pool13 : Array CpInfo := pool [(2, .class_ 4), (1, u "java/nio/charset/Charset"), (130, .class_ 136), (0, u "sun/nio/cs/Unicode"), (0, .class_ 138), (0, u "sun/nio/cs/HistoricallyNamedCharset")] 15

/-- sun/nio/cs/Unicode -/
def k13 : Class := { plain "sun/nio/cs/Unicode" (some 11) with
  accessFlags := 1056
  interfaces := #[12]
  cf := some (fileOf pool13 135 #[] #[] 1056 2 #[137] #[])
  fields := #[]
  methods := #[]
  instanceTypes := #[(.object "java/lang/String"), (.array (.object "java/lang/String")), (.object "java/util/Set")]
  staticTypes := #[]
  resolved := Array.replicate 154 none
  statics := none }

def pool14 : Array CpInfo := pool [(10, .class_ 12), (1, u "sun/nio/cs/Unicode"), (0, u "<init>"), (3, .class_ 18), (0, u "sun/nio/cs/UTF_8$Decoder"), (3, .class_ 23), (0, u "sun/nio/cs/UTF_8$Encoder"), (15, .class_ 40), (0, u "sun/nio/cs/UTF_8"), (2, u "()V"), (2, u "INSTANCE"), (0, u "Lsun/nio/cs/UTF_8;"), (8, u "JLA"), (0, u "Ljdk/internal/access/JavaLangAccess;")] 26

def k14m0 : Method := { name := "<init>", desc := "()V", sig := { parameters := [], returnType := none }, accessFlags := 1, code := none }
/-- sun/nio/cs/UTF_8 -/
def k14 : Class := { plain "sun/nio/cs/UTF_8" (some 13) with
  accessFlags := 49
  interfaces := #[]
  cf := some (fileOf pool14 39 #[.nestMembers #[22, 17]] #[{ accessFlags := 1, nameIndex := 13, descriptorIndex := 43, attributes := #[] }] 49 10 #[] #[{ accessFlags := 25, nameIndex := 46, descriptorIndex := 47, attributes := #[] }, { accessFlags := 26, nameIndex := 56, descriptorIndex := 57, attributes := #[] }])
  fields := #[{ name := "INSTANCE", type := (.object "sun/nio/cs/UTF_8"), accessFlags := 25, slot := 0, constantValue := 0 }, { name := "JLA", type := (.object "jdk/internal/access/JavaLangAccess"), accessFlags := 26, slot := 1, constantValue := 0 }]
  methods := #[k14m0]
  instanceTypes := #[(.object "java/lang/String"), (.array (.object "java/lang/String")), (.object "java/util/Set")]
  staticTypes := #[(.object "sun/nio/cs/UTF_8"), (.object "jdk/internal/access/JavaLangAccess")]
  resolved := Array.replicate 84 none
  statics := some 2 }

def pool15 : Array CpInfo := pool [(10, .class_ 12), (1, u "java/nio/charset/Charset"), (0, u "<init>"), (5, .class_ 20), (0, u "sun/nio/cs/ISO_8859_1"), (0, .class_ 22), (0, u "sun/nio/cs/ISO_8859_1$Decoder"), (3, .class_ 27), (0, u "sun/nio/cs/ISO_8859_1$Encoder"), (3, u "()V"), (2, u "INSTANCE"), (0, u "Lsun/nio/cs/ISO_8859_1;"), (0, .class_ 37), (0, u "sun/nio/cs/HistoricallyNamedCharset")] 22

def k15m0 : Method := { name := "<init>", desc := "()V", sig := { parameters := [], returnType := none }, accessFlags := 1, code := none }
/-- sun/nio/cs/ISO_8859_1 -/
def k15 : Class := { plain "sun/nio/cs/ISO_8859_1" (some 11) with
  accessFlags := 33
  interfaces := #[12]
  cf := some (fileOf pool15 19 #[.nestMembers #[26, 21]] #[{ accessFlags := 1, nameIndex := 13, descriptorIndex := 31, attributes := #[] }] 33 10 #[36] #[{ accessFlags := 25, nameIndex := 34, descriptorIndex := 35, attributes := #[] }])
  fields := #[{ name := "INSTANCE", type := (.object "sun/nio/cs/ISO_8859_1"), accessFlags := 25, slot := 0, constantValue := 0 }]
  methods := #[k15m0]
  instanceTypes := #[(.object "java/lang/String"), (.array (.object "java/lang/String")), (.object "java/util/Set")]
  staticTypes := #[(.object "sun/nio/cs/ISO_8859_1")]
  resolved := Array.replicate 60 none
  statics := some 3 }

def pool16 : Array CpInfo := pool [(10, .class_ 12), (1, u "java/nio/charset/Charset"), (0, u "<init>"), (3, .class_ 18), (0, u "sun/nio/cs/US_ASCII"), (0, .class_ 20), (0, u "sun/nio/cs/US_ASCII$Decoder"), (3, .class_ 25), (0, u "sun/nio/cs/US_ASCII$Encoder"), (3, u "()V"), (2, u "INSTANCE"), (0, u "Lsun/nio/cs/US_ASCII;"), (8, u "JLA"), (0, u "Ljdk/internal/access/JavaLangAccess;"), (0, .class_ 45), (0, u "sun/nio/cs/HistoricallyNamedCharset")] 21

def k16m0 : Method := { name := "<init>", desc := "()V", sig := { parameters := [], returnType := none }, accessFlags := 1, code := none }
/-- sun/nio/cs/US_ASCII -/
def k16 : Class := { plain "sun/nio/cs/US_ASCII" (some 11) with
  accessFlags := 33
  interfaces := #[12]
  cf := some (fileOf pool16 17 #[.nestMembers #[24, 19]] #[{ accessFlags := 1, nameIndex := 13, descriptorIndex := 29, attributes := #[] }] 33 10 #[44] #[{ accessFlags := 25, nameIndex := 32, descriptorIndex := 33, attributes := #[] }, { accessFlags := 26, nameIndex := 42, descriptorIndex := 43, attributes := #[] }])
  fields := #[{ name := "INSTANCE", type := (.object "sun/nio/cs/US_ASCII"), accessFlags := 25, slot := 0, constantValue := 0 }, { name := "JLA", type := (.object "jdk/internal/access/JavaLangAccess"), accessFlags := 26, slot := 1, constantValue := 0 }]
  methods := #[k16m0]
  instanceTypes := #[(.object "java/lang/String"), (.array (.object "java/lang/String")), (.object "java/util/Set")]
  staticTypes := #[(.object "sun/nio/cs/US_ASCII"), (.object "jdk/internal/access/JavaLangAccess")]
  resolved := Array.replicate 67 none
  statics := some 4 }

def pool17 : Array CpInfo := pool [(2, .class_ 4), (1, u "java/lang/Object"), (0, u "<init>"), (0, u "()V"), (1, .class_ 10), (1, u "java/lang/StringCoding"), (0, u "countPositives"), (0, u "([BII)I")] 36

def k17m0 : Method := { name := "<init>", desc := "()V", sig := { parameters := [], returnType := none }, accessFlags := 2, code := none }
def k17c1 : Code := { maxStack := 2, maxLocals := 5, code := jdk_123_method_3_code, exceptionTable := #[], attributes := #[] }
def k17m1 : Method := { name := "countPositives", desc := "([BII)I", sig := { parameters := [(.array .byte), .int, .int], returnType := some .int }, accessFlags := 9, code := some k17c1 }
/-- java/lang/StringCoding -/
def k17 : Class := { plain "java/lang/StringCoding" (some 0) with
  accessFlags := 32
  interfaces := #[]
  cf := some (fileOf pool17 8 #[] #[{ accessFlags := 2, nameIndex := 5, descriptorIndex := 6, attributes := #[] }, { accessFlags := 9, nameIndex := 11, descriptorIndex := 12, attributes := #[] }] 32 2 #[] #[])
  fields := #[]
  methods := #[k17m0, k17m1]
  instanceTypes := #[]
  staticTypes := #[]
  resolved := Array.replicate 49 none
  statics := none }

def pool18 : Array CpInfo := pool [(1, .class_ 2), (0, u "java/lang/Cloneable"), (0, .class_ 4), (0, u "java/lang/Object")] 2

/-- java/lang/Cloneable -/
def k18 : Class := { plain "java/lang/Cloneable" (some 0) with
  accessFlags := 1537
  interfaces := #[]
  cf := some (fileOf pool18 1 #[] #[] 1537 3 #[] #[])
  fields := #[]
  methods := #[]
  instanceTypes := #[]
  staticTypes := #[]
  resolved := Array.replicate 7 none
  statics := none }

def pool19 : Array CpInfo := pool [(2, .class_ 4), (1, u "java/lang/Object"), (0, u "<init>"), (0, u "()V"), (7, .class_ 16), (1, u "java/util/Arrays"), (57, .class_ 76), (1, u "java/util/Arrays$NaturalOrder"), (36, .class_ 115), (1, u "java/util/Arrays$LegacyMergeSort"), (1, u "Z"), (257, .class_ 376), (0, u "java/util/Arrays$ArrayList"), (68, u "$assertionsDisabled"), (269, u "MIN_ARRAY_SORT_GRAN"), (0, u "I"), (2, u "INSERTIONSORT_THRESHOLD"), (120, u "fill"), (9, u "([BB)V"), (124, .class_ 976), (0, u "java/util/Arrays$ArrayItr")] 52

def k19m0 : Method := { name := "<init>", desc := "()V", sig := { parameters := [], returnType := none }, accessFlags := 2, code := none }
def k19c1 : Code := { maxStack := 3, maxLocals := 4, code := jdk_65_method_109_code, exceptionTable := #[], attributes := #[] }
def k19m1 : Method := { name := "fill", desc := "([BB)V", sig := { parameters := [(.array .byte), .byte], returnType := none }, accessFlags := 9, code := some k19c1 }
/-- java/util/Arrays -/
def k19 : Class := { plain "java/util/Arrays" (some 0) with
  accessFlags := 49
  interfaces := #[]
  cf := some (fileOf pool19 14 #[.nestMembers #[975, 375, 113, 74]] #[{ accessFlags := 2, nameIndex := 5, descriptorIndex := 6, attributes := #[] }, { accessFlags := 9, nameIndex := 840, descriptorIndex := 850, attributes := #[] }] 49 2 #[] #[{ accessFlags := 26, nameIndex := 715, descriptorIndex := 716, attributes := #[] }, { accessFlags := 26, nameIndex := 719, descriptorIndex := 716, attributes := #[] }, { accessFlags := 4120, nameIndex := 445, descriptorIndex := 117, attributes := #[] }])
  fields := #[{ name := "MIN_ARRAY_SORT_GRAN", type := .int, accessFlags := 26, slot := 0, constantValue := 0 }, { name := "INSERTIONSORT_THRESHOLD", type := .int, accessFlags := 26, slot := 1, constantValue := 0 }, { name := "$assertionsDisabled", type := .boolean, accessFlags := 4120, slot := 2, constantValue := 0 }]
  methods := #[k19m0, k19m1]
  instanceTypes := #[]
  staticTypes := #[.int, .int, .boolean]
  resolved := Array.replicate 1029 none
  statics := none }

def pool20 : Array CpInfo := pool [(4, .class_ 6), (1, u "java/lang/Object"), (0, u "<init>"), (0, u "()V"), (5, .class_ 16), (1, u "java/lang/StringLatin1"), (104, u "$assertionsDisabled"), (0, u "Z"), (98, .class_ 223), (1, u "java/lang/StringLatin1$LinesSpliterator"), (166, .class_ 391), (0, u "java/lang/StringLatin1$CharsSpliterator")] 3

def k20m0 : Method := { name := "<init>", desc := "()V", sig := { parameters := [], returnType := none }, accessFlags := 0, code := none }
/-- java/lang/StringLatin1 -/
def k20 : Class := { plain "java/lang/StringLatin1" (some 0) with
  accessFlags := 48
  interfaces := #[]
  cf := some (fileOf pool20 14 #[.nestMembers #[390, 221]] #[{ accessFlags := 0, nameIndex := 7, descriptorIndex := 8, attributes := #[] }] 48 4 #[] #[{ accessFlags := 4120, nameIndex := 121, descriptorIndex := 122, attributes := #[] }])
  fields := #[{ name := "$assertionsDisabled", type := .boolean, accessFlags := 4120, slot := 0, constantValue := 0 }]
  methods := #[k20m0]
  instanceTypes := #[]
  staticTypes := #[.boolean]
  resolved := Array.replicate 395 none
  statics := none }

def pool21 : Array CpInfo := pool [(2, .class_ 4), (1, u "java/lang/Object"), (0, u "<init>"), (0, u "()V"), (17, .class_ 26), (1, u "jdk/internal/util/Preconditions"), (28, .class_ 56), (0, u "jdk/internal/util/Preconditions$4"), (57, .class_ 115), (0, u "jdk/internal/util/Preconditions$1"), (7, u "SIOOBE_FORMATTER"), (0, u "Ljava/util/function/BiFunction;"), (0, .class_ 126), (0, u "jdk/internal/util/Preconditions$2"), (3, u "AIOOBE_FORMATTER"), (0, .class_ 132), (0, u "jdk/internal/util/Preconditions$3"), (3, u "IOOBE_FORMATTER")] 57

def k21m0 : Method := { name := "<init>", desc := "()V", sig := { parameters := [], returnType := none }, accessFlags := 1, code := none }
/-- jdk/internal/util/Preconditions -/
def k21 : Class := { plain "jdk/internal/util/Preconditions" (some 0) with
  accessFlags := 33
  interfaces := #[]
  cf := some (fileOf pool21 24 #[.nestMembers #[55, 131, 125, 114]] #[{ accessFlags := 1, nameIndex := 5, descriptorIndex := 6, attributes := #[] }] 33 2 #[] #[{ accessFlags := 25, nameIndex := 123, descriptorIndex := 124, attributes := #[] }, { accessFlags := 25, nameIndex := 130, descriptorIndex := 124, attributes := #[] }, { accessFlags := 25, nameIndex := 136, descriptorIndex := 124, attributes := #[] }])
  fields := #[{ name := "SIOOBE_FORMATTER", type := (.object "java/util/function/BiFunction"), accessFlags := 25, slot := 0, constantValue := 0 }, { name := "AIOOBE_FORMATTER", type := (.object "java/util/function/BiFunction"), accessFlags := 25, slot := 1, constantValue := 0 }, { name := "IOOBE_FORMATTER", type := (.object "java/util/function/BiFunction"), accessFlags := 25, slot := 2, constantValue := 0 }]
  methods := #[k21m0]
  instanceTypes := #[]
  staticTypes := #[(.object "java/util/function/BiFunction"), (.object "java/util/function/BiFunction"), (.object "java/util/function/BiFunction")]
  resolved := Array.replicate 194 none
  statics := some 5 }

def pool22 : Array CpInfo := pool [(9, u "<init>"), (6, .class_ 18), (1, u "java/lang/Object"), (0, u "()V"), (1, .class_ 23), (1, u "jdk/internal/util/ArraysSupport"), (0, u "LOG2_ARRAY_LONG_INDEX_SCALE"), (0, u "I"), (2, u "U"), (0, u "Ljdk/internal/misc/Unsafe;"), (8, u "BIG_ENDIAN"), (0, u "Z"), (8, u "LOG2_BYTE_BIT_SIZE"), (4, u "LOG2_ARRAY_INT_INDEX_SCALE"), (54, u "JLA"), (0, u "Ljdk/internal/access/JavaLangAccess;"), (11, u "LOG2_ARRAY_BOOLEAN_INDEX_SCALE"), (9, u "LOG2_ARRAY_BYTE_INDEX_SCALE"), (5, u "LOG2_ARRAY_CHAR_INDEX_SCALE"), (5, u "LOG2_ARRAY_SHORT_INDEX_SCALE"), (18, u "LOG2_ARRAY_FLOAT_INDEX_SCALE"), (24, u "LOG2_ARRAY_DOUBLE_INDEX_SCALE"), (89, u "T_BOOLEAN"), (2, u "T_CHAR"), (1, u "T_FLOAT"), (1, u "T_DOUBLE"), (1, u "T_BYTE"), (1, u "T_SHORT"), (1, u "T_INT"), (1, u "T_LONG"), (1, u "SOFT_MAX_ARRAY_LENGTH")] 83

def k22m0 : Method := { name := "<init>", desc := "()V", sig := { parameters := [], returnType := none }, accessFlags := 2, code := none }
/-- jdk/internal/util/ArraysSupport -/
def k22 : Class := { plain "jdk/internal/util/ArraysSupport" (some 0) with
  accessFlags := 33
  interfaces := #[]
  cf := some (fileOf pool22 21 #[] #[{ accessFlags := 2, nameIndex := 9, descriptorIndex := 19, attributes := #[] }] 33 16 #[] #[{ accessFlags := 24, nameIndex := 28, descriptorIndex := 29, attributes := #[] }, { accessFlags := 26, nameIndex := 38, descriptorIndex := 39, attributes := #[] }, { accessFlags := 25, nameIndex := 121, descriptorIndex := 25, attributes := #[] }, { accessFlags := 25, nameIndex := 131, descriptorIndex := 25, attributes := #[] }, { accessFlags := 25, nameIndex := 137, descriptorIndex := 25, attributes := #[] }, { accessFlags := 25, nameIndex := 143, descriptorIndex := 25, attributes := #[] }, { accessFlags := 25, nameIndex := 53, descriptorIndex := 25, attributes := #[] }, { accessFlags := 25, nameIndex := 24, descriptorIndex := 25, attributes := #[] }, { accessFlags := 25, nameIndex := 162, descriptorIndex := 25, attributes := #[] }, { accessFlags := 25, nameIndex := 187, descriptorIndex := 25, attributes := #[] }, { accessFlags := 26, nameIndex := 48, descriptorIndex := 25, attributes := #[] }, { accessFlags := 25, nameIndex := 277, descriptorIndex := 25, attributes := #[] }, { accessFlags := 25, nameIndex := 280, descriptorIndex := 25, attributes := #[] }, { accessFlags := 25, nameIndex := 282, descriptorIndex := 25, attributes := #[] }, { accessFlags := 25, nameIndex := 284, descriptorIndex := 25, attributes := #[] }, { accessFlags := 25, nameIndex := 286, descriptorIndex := 25, attributes := #[] }, { accessFlags := 25, nameIndex := 288, descriptorIndex := 25, attributes := #[] }, { accessFlags := 25, nameIndex := 290, descriptorIndex := 25, attributes := #[] }, { accessFlags := 25, nameIndex := 292, descriptorIndex := 25, attributes := #[] }, { accessFlags := 26, nameIndex := 108, descriptorIndex := 109, attributes := #[] }, { accessFlags := 25, nameIndex := 294, descriptorIndex := 25, attributes := #[] }])
  fields := #[{ name := "U", type := (.object "jdk/internal/misc/Unsafe"), accessFlags := 24, slot := 0, constantValue := 0 }, { name := "BIG_ENDIAN", type := .boolean, accessFlags := 26, slot := 1, constantValue := 0 }, { name := "LOG2_ARRAY_BOOLEAN_INDEX_SCALE", type := .int, accessFlags := 25, slot := 2, constantValue := 0 }, { name := "LOG2_ARRAY_BYTE_INDEX_SCALE", type := .int, accessFlags := 25, slot := 3, constantValue := 0 }, { name := "LOG2_ARRAY_CHAR_INDEX_SCALE", type := .int, accessFlags := 25, slot := 4, constantValue := 0 }, { name := "LOG2_ARRAY_SHORT_INDEX_SCALE", type := .int, accessFlags := 25, slot := 5, constantValue := 0 }, { name := "LOG2_ARRAY_INT_INDEX_SCALE", type := .int, accessFlags := 25, slot := 6, constantValue := 0 }, { name := "LOG2_ARRAY_LONG_INDEX_SCALE", type := .int, accessFlags := 25, slot := 7, constantValue := 0 }, { name := "LOG2_ARRAY_FLOAT_INDEX_SCALE", type := .int, accessFlags := 25, slot := 8, constantValue := 0 }, { name := "LOG2_ARRAY_DOUBLE_INDEX_SCALE", type := .int, accessFlags := 25, slot := 9, constantValue := 0 }, { name := "LOG2_BYTE_BIT_SIZE", type := .int, accessFlags := 26, slot := 10, constantValue := 0 }, { name := "T_BOOLEAN", type := .int, accessFlags := 25, slot := 11, constantValue := 0 }, { name := "T_CHAR", type := .int, accessFlags := 25, slot := 12, constantValue := 0 }, { name := "T_FLOAT", type := .int, accessFlags := 25, slot := 13, constantValue := 0 }, { name := "T_DOUBLE", type := .int, accessFlags := 25, slot := 14, constantValue := 0 }, { name := "T_BYTE", type := .int, accessFlags := 25, slot := 15, constantValue := 0 }, { name := "T_SHORT", type := .int, accessFlags := 25, slot := 16, constantValue := 0 }, { name := "T_INT", type := .int, accessFlags := 25, slot := 17, constantValue := 0 }, { name := "T_LONG", type := .int, accessFlags := 25, slot := 18, constantValue := 0 }, { name := "JLA", type := (.object "jdk/internal/access/JavaLangAccess"), accessFlags := 26, slot := 19, constantValue := 0 }, { name := "SOFT_MAX_ARRAY_LENGTH", type := .int, accessFlags := 25, slot := 20, constantValue := 0 }]
  methods := #[k22m0]
  instanceTypes := #[]
  staticTypes := #[(.object "jdk/internal/misc/Unsafe"), .boolean, .int, .int, .int, .int, .int, .int, .int, .int, .int, .int, .int, .int, .int, .int, .int, .int, .int, (.object "jdk/internal/access/JavaLangAccess"), .int]
  resolved := Array.replicate 378 none
  statics := none }

/-- the primitive byte -/
def k23 : Class := { plain "byte" none with kind := .primitive 'B', accessFlags := 0x411 }
/-- [B -/
def k24 : Class := { plain "[B" (some 0) with kind := .array 23 .byte, interfaces := #[18, 3], accessFlags := 1041 }

/-- the primitive char -/
def k25 : Class := { plain "char" none with kind := .primitive 'C', accessFlags := 0x411 }
/-- [C -/
def k26 : Class := { plain "[C" (some 0) with kind := .array 25 .char, interfaces := #[18, 3], accessFlags := 1041 }

/-- the primitive int -/
def k27 : Class := { plain "int" none with kind := .primitive 'I', accessFlags := 0x411 }
/-- [I -/
def k28 : Class := { plain "[I" (some 0) with kind := .array 27 .int, interfaces := #[18, 3], accessFlags := 1041 }

/-- the primitive short -/
def k29 : Class := { plain "short" none with kind := .primitive 'S', accessFlags := 0x411 }
/-- [S -/
def k30 : Class := { plain "[S" (some 0) with kind := .array 29 .short, interfaces := #[18, 3], accessFlags := 1041 }

def heap : Heap := #[{ cls := 8, slots := #[.long 0, .int 1, .null, .int 0, .null, .int 0, .int 0], vm := .statics 8 },
  { cls := 10, slots := #[.ref 6, .null, .null, .null, .null, .null], vm := .statics 10 },
  { cls := 14, slots := #[.ref 7, .null], vm := .statics 14 },
  { cls := 15, slots := #[.ref 8], vm := .statics 15 },
  { cls := 16, slots := #[.ref 6, .null], vm := .statics 16 },
  { cls := 21, slots := #[.null, .null, .null], vm := .statics 21 },
  { cls := 16, slots := #[.null, .null, .null], vm := .none },
  { cls := 14, slots := #[.null, .null, .null], vm := .none },
  { cls := 15, slots := #[.null, .null, .null], vm := .none }]
def classes : Array Class := #[k0, k1, k2, k3, k4, k5, k6, k7, k8, k9, k10, k11, k12, k13, k14, k15, k16, k17, k18, k19, k20, k21, k22, k23, k24, k25, k26, k27, k28, k29, k30]
def interned : List (Array UInt16 × Addr) := []
def slotsUsed : Nat := 30
def theMethod : MethodId := ⟨1, 2⟩
def args0 : Array Value := #[.int 1, .int 2, .int 3, .int 4]
def aboutOver (below : List Frame) : State where
  vm := { classes := classes, interned := interned.toArray }
  heap := heap
  slotsUsed := slotsUsed
  threads := #[{ frames := .invoking theMethod args0 :: below }]
def below0 : List Frame := [.native { method := ⟨0, 0⟩, args := #[] }]
def about1 : State := aboutOver below0
def p0 : Program := .bare "" "" ""
def e0 : Env := launch0.env 0 0 0
theorem w_frames : about1.frames = Frame.invoking theMethod args0 :: below0 := rfl
set_option maxRecDepth 65536 in
theorem w_args : argsFit about1.vm theMethod args0 = true := by decide +kernel
set_option maxRecDepth 65536 in
theorem w_heap : heapFits about1 = true := by decide +kernel
set_option maxRecDepth 65536 in
theorem w_runnable : about1.curStatus? = some .runnable := by decide +kernel
set_option maxRecDepth 65536 in
theorem w_alone : about1.alone = true := by decide +kernel
set_option maxRecDepth 65536 in
theorem w_named : about1.methodNamed? x = some theMethod := by decide +kernel
set_option maxRecDepth 65536 in
theorem w_hears : about1.hears theMethod below0 = true := by decide +kernel
set_option maxRecDepth 65536 in
theorem w_ripe : about1.ripe theMethod args0 below0 = true := by decide +kernel
theorem w_running : about1.status = .running := rfl
set_option maxRecDepth 65536 in
theorem w_room : about1.hasRoom e0.platform room_1 = true :=
  launch0.hasRoom_least _ room_1 (by decide +kernel) (by decide +kernel) (by decide +kernel) (by decide +kernel) (by decide +kernel) (by decide +kernel)
theorem allAtoms_all (ts : List Jvm.Cond) (a : Array Jvm.Value) (st : Jvm.State) : (allAtoms ts).before a st = ts.all (fun c => c.before a st) := by
  induction ts with
  | nil => rfl
  | cons c t ih =>
    show (Jvm.Cond.and c (allAtoms t)).before a st = _
    rw [Jvm.Cond.before_and, ih, List.all_cons]
def words1 : List Jvm.Cond := Jvm.Cond.code x code maxLocals ret :: tables_1
/-- a 'code' word, met by the world's own term for the bytes: nothing is compared byte by byte -/
theorem code_word {y : MethodName} {bytes : ByteArray} {mx : Nat} {rt : Option FieldType} {a : Array Value} {s : State} {m : MethodId} {meth : Method} {c : Code} (h1 : s.methodNamed? y = some m) (h2 : s.vm.method? m = some meth) (h3 : meth.code = some c) (h4 : c.code = bytes)
    (h5 : (c.maxLocals == mx && c.exceptionTable.isEmpty && decide (c.maxStack ≤ mostOperands) && decide (meth.sig.returnType = rt) && !meth.locks && decide (parseMethodDescriptor y.desc = some meth.sig)) = true) : (Jvm.Cond.code y bytes mx rt).before a s = true := by
  simp only [Bool.and_eq_true, beq_iff_eq, Bool.not_eq_true', decide_eq_true_eq] at h5
  obtain ⟨⟨⟨⟨⟨g1, g2⟩, g3⟩, g4⟩, g5⟩, g6⟩ := h5
  simp [Cond.before, Cond.holds, Cond.value, h1, h2, h3, h4, g1, g2, g3, g4, g5, g6]
def isCode : Jvm.Cond → Bool
  | .code _ _ _ _ => true
  | _ => false
theorem all_split {L : List Jvm.Cond} {P : Jvm.Cond → Bool} (h1 : L.all (fun c => isCode c || P c) = true) (h2 : ∀ c ∈ L.filter isCode, P c = true) : L.all P = true := by
  refine List.all_eq_true.mpr fun c hc => ?_
  have h := List.all_eq_true.mp h1 c hc
  rcases Bool.eq_false_or_eq_true (isCode c) with hi | hi
  · exact h2 c (List.mem_filter.mpr ⟨hc, hi⟩)
  · simpa [hi] using h
set_option maxRecDepth 65536 in
theorem w_c0 : (Jvm.Cond.code x code maxLocals ret).before args0 about1 = true := code_word (m := ⟨1, 2⟩) (meth := k1m2) (c := k1c2) (by decide +kernel) rfl rfl rfl (by decide +kernel)
set_option maxRecDepth 65536 in
theorem w_c1 : (Jvm.Cond.code ({ cls := "com/example/basewright/basewright/AlphabetPairsPinLaw", name := "text", desc := "(ICCCC)Ljava/lang/String;" } : Jvm.MethodName) method_2_code (6 : Nat) (Option.some (Jvm.ClassFile.FieldType.object "java/lang/String"))).before args0 about1 = true := code_word (m := ⟨1, 1⟩) (meth := k1m1) (c := k1c1) (by decide +kernel) rfl rfl rfl (by decide +kernel)
set_option maxRecDepth 65536 in
theorem w_c2 : (Jvm.Cond.code ({ cls := "java/lang/String", name := "<init>", desc := "([C)V" } : Jvm.MethodName) jdk_42_method_3_code (2 : Nat) (Option.none : Option Jvm.ClassFile.FieldType)).before args0 about1 = true := code_word (m := ⟨8, 1⟩) (meth := k8m1) (c := k8c1) (by decide +kernel) rfl rfl rfl (by decide +kernel)
set_option maxRecDepth 65536 in
theorem w_c3 : (Jvm.Cond.code ({ cls := "java/lang/String", name := "<init>", desc := "([CIILjava/lang/Void;)V" } : Jvm.MethodName) jdk_42_method_149_code (6 : Nat) (Option.none : Option Jvm.ClassFile.FieldType)).before args0 about1 = true := code_word (m := ⟨8, 5⟩) (meth := k8m5) (c := k8c5) (by decide +kernel) rfl rfl rfl (by decide +kernel)
set_option maxRecDepth 65536 in
theorem w_c4 : (Jvm.Cond.code ({ cls := "java/lang/Object", name := "<init>", desc := "()V" } : Jvm.MethodName) object_method_1_code (1 : Nat) (Option.none : Option Jvm.ClassFile.FieldType)).before args0 about1 = true := code_word (m := ⟨0, 0⟩) (meth := k0m0) (c := k0c0) (by decide +kernel) rfl rfl rfl (by decide +kernel)
set_option maxRecDepth 65536 in
theorem w_c5 : (Jvm.Cond.code ({ cls := "java/lang/StringUTF16", name := "compress", desc := "([CII)[B" } : Jvm.MethodName) jdk_52_method_16_code (6 : Nat) (Option.some (Jvm.ClassFile.FieldType.array Jvm.ClassFile.FieldType.byte))).before args0 about1 = true := code_word (m := ⟨9, 2⟩) (meth := k9m2) (c := k9c2) (by decide +kernel) rfl rfl rfl (by decide +kernel)
set_option maxRecDepth 65536 in
theorem w_c6 : (Jvm.Cond.code ({ cls := "java/lang/StringUTF16", name := "compress", desc := "([CI[BII)I" } : Jvm.MethodName) jdk_52_method_21_code (7 : Nat) (Option.some Jvm.ClassFile.FieldType.int)).before args0 about1 = true := code_word (m := ⟨9, 3⟩) (meth := k9m3) (c := k9c3) (by decide +kernel) rfl rfl rfl (by decide +kernel)
set_option maxRecDepth 65536 in
theorem w_c7 : (Jvm.Cond.code ({ cls := "java/lang/StringUTF16", name := "coderFromArrayLen", desc := "([BI)B" } : Jvm.MethodName) jdk_52_method_15_code (2 : Nat) (Option.some Jvm.ClassFile.FieldType.byte)).before args0 about1 = true := code_word (m := ⟨9, 1⟩) (meth := k9m1) (c := k9c1) (by decide +kernel) rfl rfl rfl (by decide +kernel)
set_option maxRecDepth 65536 in
theorem w_c8 : (Jvm.Cond.code ({ cls := "com/example/basewright/basewright/Alphabet", name := "<init>", desc := "(Ljava/lang/String;)V" } : Jvm.MethodName) prog_1_method_1_code (3 : Nat) (Option.none : Option Jvm.ClassFile.FieldType)).before args0 about1 = true := code_word (m := ⟨2, 0⟩) (meth := k2m0) (c := k2c0) (by decide +kernel) rfl rfl rfl (by decide +kernel)
set_option maxRecDepth 65536 in
theorem w_c9 : (Jvm.Cond.code ({ cls := "java/lang/String", name := "getBytes", desc := "(Ljava/nio/charset/Charset;)[B" } : Jvm.MethodName) jdk_42_method_64_code (2 : Nat) (Option.some (Jvm.ClassFile.FieldType.array Jvm.ClassFile.FieldType.byte))).before args0 about1 = true := code_word (m := ⟨8, 4⟩) (meth := k8m4) (c := k8c4) (by decide +kernel) rfl rfl rfl (by decide +kernel)
set_option maxRecDepth 65536 in
theorem w_c10 : (Jvm.Cond.code ({ cls := "java/lang/String", name := "coder", desc := "()B" } : Jvm.MethodName) jdk_42_method_152_code (1 : Nat) (Option.some Jvm.ClassFile.FieldType.byte)).before args0 about1 = true := code_word (m := ⟨8, 6⟩) (meth := k8m6) (c := k8c6) (by decide +kernel) rfl rfl rfl (by decide +kernel)
set_option maxRecDepth 65536 in
theorem w_c11 : (Jvm.Cond.code ({ cls := "java/lang/String", name := "encode", desc := "(Ljava/nio/charset/Charset;B[B)[B" } : Jvm.MethodName) jdk_42_method_18_code (3 : Nat) (Option.some (Jvm.ClassFile.FieldType.array Jvm.ClassFile.FieldType.byte))).before args0 about1 = true := code_word (m := ⟨8, 2⟩) (meth := k8m2) (c := k8c2) (by decide +kernel) rfl rfl rfl (by decide +kernel)
set_option maxRecDepth 65536 in
theorem w_c12 : (Jvm.Cond.code ({ cls := "java/lang/String", name := "encodeASCII", desc := "(B[B)[B" } : Jvm.MethodName) jdk_42_method_24_code (7 : Nat) (Option.some (Jvm.ClassFile.FieldType.array Jvm.ClassFile.FieldType.byte))).before args0 about1 = true := code_word (m := ⟨8, 3⟩) (meth := k8m3) (c := k8c3) (by decide +kernel) rfl rfl rfl (by decide +kernel)
set_option maxRecDepth 65536 in
theorem w_c13 : (Jvm.Cond.code ({ cls := "java/lang/StringCoding", name := "countPositives", desc := "([BII)I" } : Jvm.MethodName) jdk_123_method_3_code (5 : Nat) (Option.some Jvm.ClassFile.FieldType.int)).before args0 about1 = true := code_word (m := ⟨17, 1⟩) (meth := k17m1) (c := k17c1) (by decide +kernel) rfl rfl rfl (by decide +kernel)
set_option maxRecDepth 65536 in
theorem w_c14 : (Jvm.Cond.code ({ cls := "java/util/Arrays", name := "fill", desc := "([BB)V" } : Jvm.MethodName) jdk_65_method_109_code (4 : Nat) (Option.none : Option Jvm.ClassFile.FieldType)).before args0 about1 = true := code_word (m := ⟨19, 1⟩) (meth := k19m1) (c := k19c1) (by decide +kernel) rfl rfl rfl (by decide +kernel)
set_option maxRecDepth 65536 in
theorem w_c15 : (Jvm.Cond.code ({ cls := "com/example/basewright/basewright/Alphabet", name := "pairs", desc := "(Z)[S" } : Jvm.MethodName) prog_1_method_6_code (7 : Nat) (Option.some (Jvm.ClassFile.FieldType.array Jvm.ClassFile.FieldType.short))).before args0 about1 = true := code_word (m := ⟨2, 1⟩) (meth := k2m1) (c := k2c1) (by decide +kernel) rfl rfl rfl (by decide +kernel)
def codes1 : List Jvm.Cond := [Jvm.Cond.code x code maxLocals ret, Jvm.Cond.code ({ cls := "com/example/basewright/basewright/AlphabetPairsPinLaw", name := "text", desc := "(ICCCC)Ljava/lang/String;" } : Jvm.MethodName) method_2_code (6 : Nat) (Option.some (Jvm.ClassFile.FieldType.object "java/lang/String")), Jvm.Cond.code ({ cls := "java/lang/String", name := "<init>", desc := "([C)V" } : Jvm.MethodName) jdk_42_method_3_code (2 : Nat) (Option.none : Option Jvm.ClassFile.FieldType), Jvm.Cond.code ({ cls := "java/lang/String", name := "<init>", desc := "([CIILjava/lang/Void;)V" } : Jvm.MethodName) jdk_42_method_149_code (6 : Nat) (Option.none : Option Jvm.ClassFile.FieldType), Jvm.Cond.code ({ cls := "java/lang/Object", name := "<init>", desc := "()V" } : Jvm.MethodName) object_method_1_code (1 : Nat) (Option.none : Option Jvm.ClassFile.FieldType), Jvm.Cond.code ({ cls := "java/lang/StringUTF16", name := "compress", desc := "([CII)[B" } : Jvm.MethodName) jdk_52_method_16_code (6 : Nat) (Option.some (Jvm.ClassFile.FieldType.array Jvm.ClassFile.FieldType.byte)), Jvm.Cond.code ({ cls := "java/lang/StringUTF16", name := "compress", desc := "([CI[BII)I" } : Jvm.MethodName) jdk_52_method_21_code (7 : Nat) (Option.some Jvm.ClassFile.FieldType.int), Jvm.Cond.code ({ cls := "java/lang/StringUTF16", name := "coderFromArrayLen", desc := "([BI)B" } : Jvm.MethodName) jdk_52_method_15_code (2 : Nat) (Option.some Jvm.ClassFile.FieldType.byte), Jvm.Cond.code ({ cls := "com/example/basewright/basewright/Alphabet", name := "<init>", desc := "(Ljava/lang/String;)V" } : Jvm.MethodName) prog_1_method_1_code (3 : Nat) (Option.none : Option Jvm.ClassFile.FieldType), Jvm.Cond.code ({ cls := "java/lang/String", name := "getBytes", desc := "(Ljava/nio/charset/Charset;)[B" } : Jvm.MethodName) jdk_42_method_64_code (2 : Nat) (Option.some (Jvm.ClassFile.FieldType.array Jvm.ClassFile.FieldType.byte)), Jvm.Cond.code ({ cls := "java/lang/String", name := "coder", desc := "()B" } : Jvm.MethodName) jdk_42_method_152_code (1 : Nat) (Option.some Jvm.ClassFile.FieldType.byte), Jvm.Cond.code ({ cls := "java/lang/String", name := "encode", desc := "(Ljava/nio/charset/Charset;B[B)[B" } : Jvm.MethodName) jdk_42_method_18_code (3 : Nat) (Option.some (Jvm.ClassFile.FieldType.array Jvm.ClassFile.FieldType.byte)), Jvm.Cond.code ({ cls := "java/lang/String", name := "encodeASCII", desc := "(B[B)[B" } : Jvm.MethodName) jdk_42_method_24_code (7 : Nat) (Option.some (Jvm.ClassFile.FieldType.array Jvm.ClassFile.FieldType.byte)), Jvm.Cond.code ({ cls := "java/lang/StringCoding", name := "countPositives", desc := "([BII)I" } : Jvm.MethodName) jdk_123_method_3_code (5 : Nat) (Option.some Jvm.ClassFile.FieldType.int), Jvm.Cond.code ({ cls := "java/util/Arrays", name := "fill", desc := "([BB)V" } : Jvm.MethodName) jdk_65_method_109_code (4 : Nat) (Option.none : Option Jvm.ClassFile.FieldType), Jvm.Cond.code ({ cls := "com/example/basewright/basewright/Alphabet", name := "pairs", desc := "(Z)[S" } : Jvm.MethodName) prog_1_method_6_code (7 : Nat) (Option.some (Jvm.ClassFile.FieldType.array Jvm.ClassFile.FieldType.short))]
set_option maxRecDepth 65536 in
theorem codes_eq : words1.filter isCode = codes1 := rfl
theorem w_codes : ∀ c ∈ words1.filter isCode, c.before args0 about1 = true := by
  rw [codes_eq]
  intro c hc
  simp only [codes1, List.mem_cons, List.not_mem_nil, or_false] at hc
  rcases hc with rfl | rfl | rfl | rfl | rfl | rfl | rfl | rfl | rfl | rfl | rfl | rfl | rfl | rfl | rfl | rfl
  · exact w_c0
  · exact w_c1
  · exact w_c2
  · exact w_c3
  · exact w_c4
  · exact w_c5
  · exact w_c6
  · exact w_c7
  · exact w_c8
  · exact w_c9
  · exact w_c10
  · exact w_c11
  · exact w_c12
  · exact w_c13
  · exact w_c14
  · exact w_c15
set_option maxRecDepth 65536 in
theorem w_t1 : (words1.take 24).all (fun c => isCode c || c.before args0 about1) = true := by decide +kernel
set_option maxRecDepth 65536 in
theorem w_t2 : ((words1.drop 24).take 24).all (fun c => isCode c || c.before args0 about1) = true := by decide +kernel
set_option maxRecDepth 65536 in
theorem w_t3 : (((words1.drop 24).drop 24).take 24).all (fun c => isCode c || c.before args0 about1) = true := by decide +kernel
set_option maxRecDepth 65536 in
theorem w_t4 : ((((words1.drop 24).drop 24).drop 24).take 24).all (fun c => isCode c || c.before args0 about1) = true := by decide +kernel
set_option maxRecDepth 65536 in
theorem w_t5 : ((((words1.drop 24).drop 24).drop 24).drop 24).all (fun c => isCode c || c.before args0 about1) = true := by decide +kernel
theorem w_tables : (allAtoms (Jvm.Cond.code x code maxLocals ret :: tables_1)).before args0 about1 = true := by
  rw [allAtoms_all]
  show words1.all (fun c => c.before args0 about1) = true
  refine all_split ?_ w_codes
  rw [← List.take_append_drop 24 words1, List.all_append, w_t1, ← List.take_append_drop 24 (words1.drop 24), List.all_append, w_t2, ← List.take_append_drop 24 ((words1.drop 24).drop 24), List.all_append, w_t3, ← List.take_append_drop 24 (((words1.drop 24).drop 24).drop 24), List.all_append, w_t4, w_t5]
  rfl
set_option maxRecDepth 65536 in
theorem w_rest : rest_1_c.before args0 about1 = true := by decide +kernel
set_option maxRecDepth 65536 in
theorem w_case : (Jvm.Cond.and given_1 narrow_1).before args0 about1 = true := by decide +kernel
set_option maxRecDepth 65536 in
theorem w_consts : constsHeld consts_1 about1 := Jvm.Lit.constsHeldB_iff.mp (by decide +kernel)
theorem w_applies : (headSpec (Jvm.Cond.code x code maxLocals ret :: tables_1) room_1).applies x e0.platform about1 = true :=
  (Spec.applies_iff w_frames).mpr ⟨w_running, w_runnable, w_alone, w_named, w_hears, w_ripe, w_room, w_tables⟩
theorem atStart : AtStart classFile x code maxLocals ret World_1 tables_1 room_1 Calls_1 rest_1 Pre_1 launch0 p0 e0 about1 theMethod args0 below0 :=
  ⟨lists_1, trivial, launch0.admits_env _ _ _, launch0.least_env, fairChoices_fair.cas, fairChoices_fair.clock, w_frames, w_args, w_heap, w_applies, ⟨w_consts, trivial⟩, w_rest, w_case⟩
end start1
theorem witness_1 : WitnessClaimed_1 := ⟨start1.p0, start1.e0, start1.about1, start1.theMethod, start1.args0, start1.below0, start1.atStart⟩
end Jvm.Pilot.@@N@@

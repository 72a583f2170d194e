import JvmDerived
import JvmDerived.Pilot.@@N@@Statement
import JvmDerived.Pilot.@@N@@Code
set_option linter.unusedVariables false
set_option linter.unusedSimpArgs false
namespace Jvm.RoadKit
open Sem ClassFile Op Lib Jvm.Stand Jvm.Free Jvm.LawKit
section New
variable {p : Program} {l : Launch} {e : Env} {R : Room} {s : State} {m : MethodId} {args : Array Value} {below : List Frame} {meth : Method} {c : Code} {T : State} {locs : List Loc} {cells slots : Nat}
theorem retI (X : Stand p l e R s m args below meth c T locs cells slots) (hx : p.tables.exec = Jvm.exec) {pc : Nat} {Ls : Array Slot} {z : Int32} {rest : List Value} (hret : meth.sig.returnType = some .int) (hd : decode c.code pc = .ok (.ireturn, 1)) {fs : List Frame}
    (hl : ∀ (f : JFrame) (acts : List Action), f.method = m → f.locked = none → f.entered = [] → (doReturn e (T.setTop f) acts (some (.int z))).1 = T.setFrames fs) : Steps p.tables e below (T.setTop (mkF m pc Ls (.int z :: rest))) (T.setFrames fs) := by
  have hm' : T.vm.method? m = some meth := X.method'
  have hn : narrow .int (.int z) = .int z := rfl
  show Steps p.tables e below (T.setTop { method := m, pc := pc, locals := Ls, stack := _ :: rest, locked := none }) _
  jvm_step X.here [X.here.top, hx, hd, hm', hret, hn]
  first | (intro acts; rw [hl _ acts rfl rfl rfl]) | rw [hl _ _ rfl rfl rfl]
  exact Steps.refl _
end New
end Jvm.RoadKit
namespace Jvm.Pilot.@@N@@
open Jvm Jvm.ClassFile Sem Op Lib Jvm.Free Jvm.Stand Jvm.LawKit Jvm.RoadKit Bundle Jvm.Pilot.@@N@@.Jvm.D

theorem own_nb {c : Prop} [Decidable c] : nar .boolean (if c then (1 : Int32) else (0 : Int32)) = (if c then (1 : Int32) else (0 : Int32)) := by
  by_cases h : c
  · rw [if_pos h]; rfl
  · rw [if_neg h]; rfl
theorem own_n1 : nar .boolean (1 : Int32) = (1 : Int32) := rfl
theorem own_n0 : nar .boolean (0 : Int32) = (0 : Int32) := rfl

theorem own_pos {x y : Int32} (h : x = y &&& (2147483647 : Int32)) : ¬ x < (0 : Int32) := by
  have := c_mask y 2147483647 31 (by decide) (by decide)
  rw [← h] at this
  rw [Int32.lt_iff_toInt_lt]
  show ¬ x.toInt < 0
  omega
theorem own_rem {x y d : Int32} {D : Int} (h : x = (y &&& (2147483647 : Int32)) % d) (hd : d.toInt = D) (hD : 0 < D) : 0 ≤ x.toInt ∧ x.toInt < D := by
  have h1 := c_mask y 2147483647 31 (by decide) (by decide)
  have h2 := c_iremV (y &&& 2147483647) d
  rw [← h, hd] at h2
  have h3 := h2.1 (by omega) hD
  omega

section OwnArr
variable {p : Program} {l : Launch} {e : Env} {R : Room} {s : State} {m : MethodId} {args : Array Value} {below : List Frame} {meth : Method} {c : Code} {T : State} {locs : List Loc} {cells slots : Nat} {Z : State} {h : Heap} {a : Addr} {k : ClassId} {n : Int32} {vs : List Value} {d : Value}
theorem own_len {ty : FieldType} {g : JFrame} {target : State} (X : Stand p l e R s m args below meth c T locs cells slots) (hx : p.tables.exec = Jvm.exec) (hZ : Z.Warmed39 s.vm) (eT : T.heap = h) (A : Arv Z h a k ty n vs d) (hg : g.method = m) {rest : List Value} (hs : g.stack = .ref a :: rest) (hd : decode c.code g.pc = .ok (.arraylength, 1))
    (hr : Steps p.tables e below (T.setTop { g with pc := g.pc + 1, stack := .int n :: rest }) target) : Steps p.tables e below (T.setTop g) target := by
  obtain ⟨cl, Ar, -, S, M, -, -⟩ := A
  refine X.arraylength hx (by rw [eT]; exact Ar.1) (State.isArrayOf_alike hZ.alike Ar.2.1) hg hs hd _ ?_
  rw [len_of S M]
  exact hr
theorem own_cal {g : JFrame} {target : State} (X : Stand p l e R s m args below meth c T locs cells slots) (hx : p.tables.exec = Jvm.exec) (hZ : Z.Warmed39 s.vm) (eT : T.heap = h) (A : Arv Z h a k .char n vs d) {j : Int32} (hj : ¬ j < 0 ∧ j < n) {v : Value} (hv : vs.getD j.toNatClampNeg d = v) (hg : g.method = m) {rest : List Value} (hs : g.stack = .int j :: .ref a :: rest) (hd : decode c.code g.pc = .ok (.caload, 1))
    (hr : Steps p.tables e below (T.setTop { g with pc := g.pc + 1, stack := v :: rest }) target) : Steps p.tables e below (T.setTop g) target := by
  obtain ⟨cl, Ar, -, S, M, H, -⟩ := A
  have hin := inb_of S hj
  exact X.caload hx (by rw [eT]; exact Ar.1) (State.isArrayOf_alike hZ.alike Ar.2.1) Ar.2.2 hin (Has.at H hin hv) hg hs hd _ hr
theorem own_lal {g : JFrame} {target : State} (X : Stand p l e R s m args below meth c T locs cells slots) (hx : p.tables.exec = Jvm.exec) (hZ : Z.Warmed39 s.vm) (eT : T.heap = h) (A : Arv Z h a k .long n vs d) {j : Int32} (hj : ¬ j < 0 ∧ j < n) {v : Value} (hv : vs.getD j.toNatClampNeg d = v) (hg : g.method = m) {rest : List Value} (hs : g.stack = .int j :: .ref a :: rest) (hd : decode c.code g.pc = .ok (.laload, 1))
    (hr : Steps p.tables e below (T.setTop { g with pc := g.pc + 1, stack := v :: rest }) target) : Steps p.tables e below (T.setTop g) target := by
  obtain ⟨cl, Ar, -, S, M, H, -⟩ := A
  have hin := inb_of S hj
  exact X.laload hx (by rw [eT]; exact Ar.1) (State.isArrayOf_alike hZ.alike Ar.2.1) Ar.2.2 hin (Has.at H hin hv) hg hs hd _ hr
end OwnArr
def own_Af (Z : State) (h : Heap) (a : Addr) (k : ClassId) (ty : FieldType) (n : Int32) (f : Nat → Value) : Prop := ∃ c : Cell, Arr Z h a c ty ∧ c.cls = k ∧ c.slots.size = n.toNatClampNeg ∧ ¬ n < 0 ∧ (∀ i, i < c.slots.size → c.slots[i]? = some (f i)) ∧ ∀ i, i < c.slots.size → fits ty (f i) = true
section OwnAf
variable {Z : State} {h h' : Heap} {a b : Addr} {k : ClassId} {ty : FieldType} {n : Int32} {f g : Nat → Value} {sl : Nat} {v : Value} {ws : List Addr}
theorem own_Af.lt (F : own_Af Z h a k ty n f) : a < h.size := by obtain ⟨c, A, -⟩ := F; exact A.lt
theorem own_Af.ext (F : own_Af Z h a k ty n f) (E : Ext h h') : own_Af Z h' a k ty n f := by obtain ⟨c, A, r⟩ := F; exact ⟨c, A.ext E, r⟩
theorem own_Af.other (F : own_Af Z h b k ty n f) (W : Wr h h' a sl v) (q : b ≠ a) : own_Af Z h' b k ty n f := by obtain ⟨c, A, r⟩ := F; exact ⟨c, A.other W q, r⟩
theorem own_Af.keep (F : own_Af Z h a k ty n f) (K : Keep h h' ws) (q : a ∉ ws) : own_Af Z h' a k ty n f := by obtain ⟨c, A, r⟩ := F; exact ⟨c, ⟨K.2.1 a c A.1 q, A.2⟩, r⟩
theorem own_Af.new (A : Arr Z h a (newA k ty n) ty) (q : ¬ n < 0) : own_Af Z h a k ty n (fun _ => defaultValue ty) := by
  obtain ⟨c, h1, h2, h3, h4, h5, h6⟩ := Arv.new A q
  exact ⟨c, h1, h2, h3, h4, fun i hi => (h5 i hi).trans (by simp), fun i hi => by have := h6 i hi; simpa using this⟩
theorem own_Af.same (F : own_Af Z h a k ty n f) (q : ∀ i, i < n.toNatClampNeg → g i = f i) : own_Af Z h a k ty n g := by
  obtain ⟨c, h1, h2, h3, h4, h5, h6⟩ := F
  exact ⟨c, h1, h2, h3, h4, fun i hi => by rw [q i (h3 ▸ hi)]; exact h5 i hi, fun i hi => by rw [q i (h3 ▸ hi)]; exact h6 i hi⟩
theorem own_Af.set {c : Cell} {j : Nat} (A : Arr Z h a c ty) (q1 : c.cls = k) (S : c.slots.size = n.toNatClampNeg) (q3 : ¬ n < 0) (H : ∀ i, i < c.slots.size → c.slots[i]? = some (f i)) (G : ∀ i, i < c.slots.size → fits ty (f i) = true) (hv : fits ty v = true) (W : Wr h h' a j v) (hj : j < c.slots.size) : own_Af Z h' a k ty n (fun i => if i = j then v else f i) := by
  refine ⟨c.setSlot j v, A.same W, q1, by rw [sz_set]; exact S, q3, fun i hi => ?_, fun i hi => ?_⟩
  · rw [sz_set] at hi
    by_cases e : i = j
    · subst e; simp only [if_true]; simp [Cell.setSlot, hi]
    · simp only [e, if_false]
      rw [← H i hi]
      simp [Cell.setSlot, Array.getElem?_setIfInBounds, Ne.symm e]
  · rw [sz_set] at hi
    by_cases e : i = j
    · subst e; simp only [if_true]; exact hv
    · simp only [e, if_false]; exact G i hi
end OwnAf
section OwnAfRead
variable {p : Program} {l : Launch} {e : Env} {R : Room} {s : State} {m : MethodId} {args : Array Value} {below : List Frame} {meth : Method} {c : Code} {T : State} {locs : List Loc} {cells slots : Nat} {Z : State} {h : Heap} {a : Addr} {k : ClassId} {n : Int32} {f : Nat → Value}
theorem own_flen {ty : FieldType} {g : JFrame} {target : State} (X : Stand p l e R s m args below meth c T locs cells slots) (hx : p.tables.exec = Jvm.exec) (hZ : Z.Warmed39 s.vm) (eT : T.heap = h) (A : own_Af Z h a k ty n f) (hg : g.method = m) {rest : List Value} (hs : g.stack = .ref a :: rest) (hd : decode c.code g.pc = .ok (.arraylength, 1))
    (hr : Steps p.tables e below (T.setTop { g with pc := g.pc + 1, stack := .int n :: rest }) target) : Steps p.tables e below (T.setTop g) target := by
  obtain ⟨cl, Ar, -, S, M, -, -⟩ := A
  refine X.arraylength hx (by rw [eT]; exact Ar.1) (State.isArrayOf_alike hZ.alike Ar.2.1) hg hs hd _ ?_
  rw [len_of S M]
  exact hr
theorem own_fbal {g : JFrame} {target : State} (X : Stand p l e R s m args below meth c T locs cells slots) (hx : p.tables.exec = Jvm.exec) (hZ : Z.Warmed39 s.vm) (eT : T.heap = h) (A : own_Af Z h a k .byte n f) {j : Int32} (hj : ¬ j < 0 ∧ j < n) {v : Value} (hv : f j.toNatClampNeg = v) (hg : g.method = m) {rest : List Value} (hs : g.stack = .int j :: .ref a :: rest) (hd : decode c.code g.pc = .ok (.baload, 1))
    (hr : Steps p.tables e below (T.setTop { g with pc := g.pc + 1, stack := v :: rest }) target) : Steps p.tables e below (T.setTop g) target := by
  obtain ⟨cl, Ar, -, S, M, H, -⟩ := A
  have hin := inb_of S hj
  exact X.baloadBytes hx (by rw [eT]; exact Ar.1) (State.isArrayOf_alike hZ.alike Ar.2.1) Ar.2.2 hin (hv ▸ H _ (Nat.lt_of_not_le fun y => hin (Or.inr y))) hg hs hd _ hr
theorem own_fcal {g : JFrame} {target : State} (X : Stand p l e R s m args below meth c T locs cells slots) (hx : p.tables.exec = Jvm.exec) (hZ : Z.Warmed39 s.vm) (eT : T.heap = h) (A : own_Af Z h a k .char n f) {j : Int32} (hj : ¬ j < 0 ∧ j < n) {v : Value} (hv : f j.toNatClampNeg = v) (hg : g.method = m) {rest : List Value} (hs : g.stack = .int j :: .ref a :: rest) (hd : decode c.code g.pc = .ok (.caload, 1))
    (hr : Steps p.tables e below (T.setTop { g with pc := g.pc + 1, stack := v :: rest }) target) : Steps p.tables e below (T.setTop g) target := by
  obtain ⟨cl, Ar, -, S, M, H, -⟩ := A
  have hin := inb_of S hj
  exact X.caload hx (by rw [eT]; exact Ar.1) (State.isArrayOf_alike hZ.alike Ar.2.1) Ar.2.2 hin (hv ▸ H _ (Nat.lt_of_not_le fun y => hin (Or.inr y))) hg hs hd _ hr
theorem own_flal {g : JFrame} {target : State} (X : Stand p l e R s m args below meth c T locs cells slots) (hx : p.tables.exec = Jvm.exec) (hZ : Z.Warmed39 s.vm) (eT : T.heap = h) (A : own_Af Z h a k .long n f) {j : Int32} (hj : ¬ j < 0 ∧ j < n) {v : Value} (hv : f j.toNatClampNeg = v) (hg : g.method = m) {rest : List Value} (hs : g.stack = .int j :: .ref a :: rest) (hd : decode c.code g.pc = .ok (.laload, 1))
    (hr : Steps p.tables e below (T.setTop { g with pc := g.pc + 1, stack := v :: rest }) target) : Steps p.tables e below (T.setTop g) target := by
  obtain ⟨cl, Ar, -, S, M, H, -⟩ := A
  have hin := inb_of S hj
  exact X.laload hx (by rw [eT]; exact Ar.1) (State.isArrayOf_alike hZ.alike Ar.2.1) Ar.2.2 hin (hv ▸ H _ (Nat.lt_of_not_le fun y => hin (Or.inr y))) hg hs hd _ hr
end OwnAfRead
def own_c (c : Int32) : Prop := 0 ≤ c.toInt ∧ c.toInt < 128
def own_cs (n : Int32) (cf : Nat → Int32) : Prop := ∀ i : Nat, (i : Int) < n.toInt → own_c (cf i)
theorem own_c255 {c : Int32} (h : own_c c) : ¬ (255 : Int32) < c := by rw [Int32.lt_iff_toInt_lt]; show ¬ (255 : Int) < c.toInt; have := h.2; omega
theorem own_c0 {c : Int32} (h : own_c c) : ¬ c < (0 : Int32) := by rw [Int32.lt_iff_toInt_lt]; show ¬ c.toInt < 0; have := h.1; omega
theorem own_cb {c : Int32} (h : own_c c) : nar .byte (c.toInt8.toInt32) = c := by
  have h1 := c_i2b c
  have h2 := c_i2b (c.toInt8.toInt32)
  have h3 := h.1
  have h4 := h.2
  apply Int32.toInt_inj.mp
  show ((c.toInt8.toInt32).toInt8.toInt32).toInt = c.toInt
  omega
theorem own_cc {c : Int32} (h : own_c c) : nar .char c = c := by
  have h1 := c_i2c c
  have h3 := h.1
  have h4 := h.2
  apply Int32.toInt_inj.mp
  show (c.toUInt32.toUInt16.toUInt32.toInt32).toInt = c.toInt
  omega
theorem own_nat {j : Int32} {n : Nat} (h : j.toInt = n) : j.toNatClampNeg = n := by
  have := nat_of (j := j) (by rw [Int32.lt_iff_toInt_lt]; show ¬ j.toInt < 0; omega)
  omega
theorem own_jn {j n : Int32} (h : 0 ≤ j.toInt) (h2 : j.toInt < n.toInt) : ¬ j < (0 : Int32) ∧ j < n := by
  rw [Int32.lt_iff_toInt_lt, Int32.lt_iff_toInt_lt]
  exact ⟨by show ¬ j.toInt < 0; omega, h2⟩
theorem own_inc {j : Int32} {n : Nat} (h : j.toInt = n) (hn : n < 100000) : (j + (1 : Int32)).toInt = ((n + 1 : Nat) : Int) := by
  rw [XT.add32 (y := 1) ⟨by show -2 ^ 31 ≤ j.toInt + 1; omega, by show j.toInt + 1 < 2 ^ 31; omega⟩]
  show j.toInt + 1 = _
  omega
theorem own_coder (n : Int32) : some (Value.int (nar .byte ((XT.ushr (n - n) (31 : Int32)).toInt8.toInt32))) = some (Value.int (0 : Int32)) := by
  rw [Int32.sub_self]; rfl
theorem own_conv {Z : State} {h : Heap} {a : Addr} {k : ClassId} {ty : FieldType} {n : Int32} {l : List Int32} (V : Arv Z h a k ty n (l.map Value.int) (.int (0 : Int32))) : own_Af Z h a k ty n (fun i => Value.int (l.getD i 0)) := by
  have q : ∀ i, (l.map Value.int).getD i (.int (0 : Int32)) = Value.int (l.getD i 0) := fun i => by
    simp only [List.getD_eq_getElem?_getD, List.getElem?_map]
    cases l[i]? <;> rfl
  obtain ⟨c, h1, h2, h3, h4, h5, h6⟩ := V
  exact ⟨c, h1, h2, h3, h4, fun i hi => by rw [h5 i hi, q], fun i hi => by show fits ty (Value.int (l.getD i 0)) = true; rw [← q]; exact h6 i hi⟩
theorem own_nneg {j : Int32} {n : Nat} (h : j.toInt = n) : ¬ j < (0 : Int32) := by rw [Int32.lt_iff_toInt_lt]; show ¬ j.toInt < 0; omega
theorem own_np {j : Int32} {n : Nat} (h : j.toInt = n) (h1 : 1 ≤ n) : ¬ j = (0 : Int32) := fun q => by
  rw [q] at h
  have : (0 : Int32).toInt = 0 := rfl
  omega
theorem own_0add {j : Int32} {n : Nat} (h : j.toInt = n) : ((0 : Int32) + j).toInt = n := by rw [Int32.zero_add]; exact h
theorem own_clone {p : Program} {l : Launch} {e : Env} {R : Room} {s : State} {m : MethodId} {args : Array Value} {below : List Frame} {meth : Method} {c : Code} {T : State} {locs : List Loc} {cells slots : Nat} {Z : State} {a0 : Array Value} {h : Heap} {a : Addr} {ty : FieldType}
    (X : Stand p l e R s m args below meth c T locs cells slots) (hx : p.tables.exec = Jvm.exec) (hZ : Z.Warmed39 s.vm) {own ad : String} {index : Nat} (hown : s.vm.findClass own = some m.cls)
    (w1 : (Jvm.Cond.methodLink own index ⟨ad, "clone", "()Ljava/lang/Object;"⟩).before a0 Z = true) (w2 : (Jvm.Cond.sameMethod ad "java/lang/Object" "clone" "()Ljava/lang/Object;").before a0 Z = true) (w3 : (Jvm.Cond.native ⟨"java/lang/Object", "clone", "()Ljava/lang/Object;"⟩).before a0 Z = true)
    (w4 : (Jvm.Cond.instanceMethod ⟨"java/lang/Object", "clone", "()Ljava/lang/Object;"⟩).before a0 Z = true) (w5 : (Jvm.Cond.selects ad ⟨ad, "clone", "()Ljava/lang/Object;"⟩ ⟨"java/lang/Object", "clone", "()Ljava/lang/Object;"⟩).before a0 Z = true) (w6 : (Jvm.Cond.castable ad "java/lang/Cloneable").before a0 Z = true)
    (eT : T.heap = h) {k : ClassId} {z : Int32} {f : Nat → Value} (F : own_Af Z h a k ty z f) (E : Exa Z h a ad) {g : JFrame} (hg : g.method = m) (hsize : g.locals.size = c.maxLocals) {rest : List Value} (hst : g.stack = .ref a :: rest) (hd : decode c.code g.pc = .ok (.invokevirtual index, 3))
    (hf : 1 ≤ R.frames) {W cap : Nat} (hW : 2 * g.monitorRoom + (rest.map fun v => v.category).sum ≤ W) (hl : W + 14 ≤ R.locals) (hcap : z.toNatClampNeg ≤ cap) (hc : cells + 1 ≤ R.cells) (hsl : slots + cap ≤ R.slots) :
    ∃ T' h', Stand p l e R s m args below meth c T' locs (cells + 1) (slots + cap) ∧ T'.heap = h' ∧ Ext h h' ∧ own_Af Z h' h.size k ty z f ∧ Exa Z h' h.size ad ∧
      ∀ target, Steps p.tables e below (T'.setTop { g with pc := g.pc + 3, stack := .ref h.size :: rest }) target → Steps p.tables e below (T.setTop g) target := by
  obtain ⟨cl, A, q1, S, q3, H, G⟩ := F
  have FC : FitC Z cl := fitC_of A fun i hi v hv => by rw [H i hi] at hv; cases hv; exact G i hi
  obtain ⟨T', h', X', e', ex, A', E', st⟩ := cloneA X hx hZ hown w1 w2 w3 w4 w5 w6 eT A E FC hg hsize hst hd hf hW hl (by rw [S]; exact hcap) hc hsl
  exact ⟨T', h', X', e', ex, ⟨cloneOf cl, A', q1, S, q3, H, G⟩, E', st⟩
def own_vf (cf : Nat → Int32) : Nat → Nat → Int32
  | 0, _ => (-1 : Int32)
  | k + 1, j => if j = (cf k).toNatClampNeg then Int32.ofNat k else own_vf cf k j
theorem own_vf_s (cf : Nat → Int32) (k j : Nat) : own_vf cf (k + 1) j = if j = (cf k).toNatClampNeg then Int32.ofNat k else own_vf cf k j := rfl
theorem own_ofn {iv : Int32} {k : Nat} (h : iv.toInt = k) (hk : k < 5000) : iv = Int32.ofNat k := by
  apply Int32.toInt_inj.mp
  rw [h]
  exact (Int32.toInt_ofNat_of_lt (by omega)).symm

def own_pv (cf : Nat → Int32) (n : Nat) (lf : Int32) (j : Nat) : Int32 := nar .short (((if lf = (0 : Int32) then (((cf (j / n)) <<< ((8 : Int32) &&& 31)) ||| (cf (j % n))) else (((cf (j % n)) <<< ((8 : Int32) &&& 31)) ||| (cf (j / n)))).toInt16.toInt32))
theorem own_div {iv pn : Int32} {i n : Nat} (h1 : iv.toInt = i) (h2 : pn.toInt = n) (hn : 0 < n) (hi : i < 100) (hn5 : n ≤ 4) : (iv / pn).toInt = ((i / n : Nat) : Int) ∧ (iv % pn).toInt = ((i % n : Nat) : Int) := by
  have hne : pn ≠ -1 := fun q => by rw [q] at h2; have : (-1 : Int32).toInt = -1 := rfl; omega
  have a1 := (c_idiv iv pn n h2 hne).1 (by omega)
  have a2 := (c_irem iv pn n h2).1 (by omega)
  rw [h1] at a1 a2
  exact ⟨by rw [a1]; omega, by rw [a2]; omega⟩
theorem own_sq {pn nq : Int32} {n : Nat} (h : nq = (pn * pn)) (h2 : pn.toInt = n) (hn4 : n ≤ 4) : nq.toInt = ((n * n : Nat) : Int) ∧ n * n ≤ 16 := by
  have h3 : n = 0 ∨ n = 1 ∨ n = 2 ∨ n = 3 ∨ n = 4 := by omega
  have e : ∀ j : Int32, pn.toInt = j.toInt → pn = j := fun j q => Int32.toInt_inj.mp q
  rcases h3 with rfl | rfl | rfl | rfl | rfl
  · rw [h, e 0 h2]; decide
  · rw [h, e 1 h2]; decide
  · rw [h, e 2 h2]; decide
  · rw [h, e 3 h2]; decide
  · rw [h, e 4 h2]; decide

def own_wv (vf : Nat → Int32) (wf : Nat → Int64) (c : Nat) : Int64 := if vf (c % 256) < (0 : Int32) then (-1152921504606846976 : Int64) else ((vf (c % 256)).toInt64 * wf (c / 256))
theorem own_ix {iv jv : Int32} {i j : Nat} (h1 : iv.toInt = i) (h2 : jv.toInt = j) (hi : i ≤ 1) (hj : j < 256) : ((iv <<< ((8 : Int32) &&& 31)) ||| jv).toInt = ((i * 256 + j : Nat) : Int) := by
  have q1 := c_ishl iv 8 8 (by decide)
  obtain ⟨A, hA⟩ : ∃ A, A = (iv <<< ((8 : Int32) &&& 31)) := ⟨_, rfl⟩
  rw [← hA] at q1 ⊢
  have r1 := rng32 A
  have r2 := rng32 (A ||| jv)
  have q2 := c_or A jv 8 (by decide) 256 (by decide) (by omega) (by omega) (by omega)
  omega
theorem own_m8 {pm nq : Int32} {mm : Nat} (h : nq = (pm <<< ((8 : Int32) &&& 31))) (hm : pm.toInt = mm) (h2 : mm ≤ 2) : nq.toInt = ((mm * 256 : Nat) : Int) ∧ mm * 256 ≤ 512 := by
  have q1 := c_ishl pm 8 8 (by decide)
  rw [← h] at q1
  have r1 := rng32 nq
  omega
theorem own_dv {i j : Nat} (hj : j < 256) : (i * 256 + j) % 256 = j ∧ (i * 256 + j) / 256 = i := by omega

theorem own_str {Z : State} {a0 : Array Value} (hw : ∀ d ∈ tables_1, d.before a0 Z = true) : ∀ d ∈ Bundle.stringAtoms, d.before a0 Z = true := fun d hd => hw d (by simpa using (List.all_eq_true.mp (by decide +kernel : (Bundle.stringAtoms.all fun d => tables_1.contains d) = true)) d hd)
theorem own_ew {Z : State} {a0 : Array Value} (hw : ∀ d ∈ tables_1, d.before a0 Z = true) : EW Z a0 consts_1 := EW.cons (text := "") (hw _ (List.mem_of_getElem? (i := 97) rfl)) (fun c hc => by simp at hc) EW.nil
theorem own_chk {Z : State} {EL : List (String × Nat)} {vm : Vm} {h h' : Heap} (H : CHv Z EL vm h) (K : Keep h h' []) : CHv Z EL vm h' := (H.step (fun y _ cell q => K.2.1 y cell q (by simp))).1
theorem own_ref {s : State} {a0 : Array Value} {own text : String} {index : Nat} {a : Addr} (w : (Jvm.Cond.stringLink own index text).before a0 s = true) (L : Lit s own index a) : (Jvm.Cond.stringRef own index text).before a0 s = true := by
  have L' : s.resolvedAt? own index = some (.string a) := L
  simp only [Cond.before, Cond.holds, Cond.value] at w ⊢
  cases hc : s.vm.findClass own with
  | none => simp [hc] at w
  | some cc =>
    simp only [hc, Option.map_some, beq_iff_eq, Option.some.injEq, Bool.and_eq_true] at w ⊢
    refine ⟨w.1, ?_⟩
    rw [L']
theorem own_exaB {Z s : State} {a0 : Array Value} {EL : List (String × Nat)} {vm : Vm} {h : Heap} {own text : String} {index : Nat} {mc : ClassId} {a b : Addr} (hZ : Z.Warmed39 vm) (hf : vm.findClass own = some mc) (w : (Jvm.Cond.stringLink own index text).before a0 Z = true) (hmem : (own, index) ∈ EL)
    (H : CHv Z EL vm h) (L : Lit (s.setVm vm) own index a) (Fv : Fld Z h a "java/lang/String" "value" "[B" (.ref b)) : Exa Z h b "[B" := by
  have hal : Z.vm.Alike vm := hZ.alike
  have w2 : (Jvm.Cond.stringLink own index text).before a0 (Wst Z vm h) = true := mvS (s := { Z with heap := h }) hZ w
  obtain ⟨k0, cf, i, units, hkx, hcf, hp, hu, -, -, -⟩ := Cond.stringLink_spec (s := Wst Z vm h) hf w2
  have hkx : vm.classes[mc]? = some k0 := hkx
  have hres : k0.resolved[index]? = some (some (.string a)) := by
    have q : (s.setVm vm).resolvedAt? own index = some (.string a) := L
    simp [State.resolvedAt?, hf, hkx] at q
    cases hr : k0.resolved[index]? with
    | none => rw [hr] at q; cases q
    | some o => rw [hr] at q; cases o with
      | none => cases q
      | some r => simpa using q
  obtain ⟨q, hqa, F⟩ := SlB.of (H _ hmem units a ⟨mc, k0, cf, i, hf, hkx, hcf, hp, hu, Or.inl hres⟩)
  obtain ⟨cS, ⟨⟨s1, s2, s3, ⟨cv, kv, iv, s4, s4'⟩, -, s6, s7, s8, s9, s10, s11, -⟩, -, -⟩, -, hB, -⟩ := F
  subst hqa
  obtain ⟨kv', z4⟩ := ff_back (U := Wst Z vm h) hal s4
  obtain ⟨cell, cf', k', i', f', r1, r2, -, -, -, -, r6⟩ := Fv
  have s1 : h[q.sa]? = some q.sC := s1
  cases r1.symm.trans s1
  have e2 := r2.symm.trans z4
  simp only [Option.some.injEq, Prod.mk.injEq] at e2
  rw [e2.2.2.2, s8] at r6
  have hb : b = q.sd := by simpa using r6.symm
  rw [hb]
  have hB : vm.findClass "[B" = some q.SA.cls := hB
  have hBZ : Z.vm.findClass "[B" = some q.SA.cls := by rw [← hal.findClass]; exact hB
  obtain ⟨kb, hkb, -⟩ := Vm.findClass_spec hBZ
  obtain ⟨kb', hkb', ekb⟩ := hal.2.2 _ _ hkb
  obtain ⟨hst, k9, hk9, comp, hkind9⟩ := s11
  have hk9 : vm.classes[q.SA.cls]? = some k9 := hk9
  have ek9 : k9 = kb' := Option.some.inj (hk9.symm.trans hkb')
  rw [ek9, ekb] at hkind9
  have hs9 : q.SA.vm.isStatics = false := by
    cases hv : q.SA.vm with
    | statics k => exact absurd hv (hst k)
    | _ => rfl
  exact ⟨q.SA, kb, s10, hBZ, hkb, hs9, fun ho => by have q9 := hkind9.symm.trans ho; cases q9⟩
theorem own_backC {p : Program} {l : Launch} {e : Env} {R : Room} {s : State} {args : Array Value} {below : List Frame} {Z : State} {a0 : Array Value} {EL : List (String × Nat)} {h : Heap} {y : MethodName} {bytes : ByteArray} {maxL : Nat} {ret : Option FieldType} {rm : Room} {len W : Nat} {as' : Array Value} {Q : Option Value → Heap → List Loc → Prop}
    (hM : MetFree l y (head1 [Jvm.Cond.code y bytes maxL ret] rm) (fun a U => a = as' ∧ Z.Warmed39 U.vm ∧ U.heap = h ∧ CHv Z EL U.vm h) (fun _ _ _ _ _ => True) (fun _ U o U' => ∃ v L, o = .returned v ∧ Q v U'.heap L ∧ ReturnedEndW U o U' L rm.cells rm.slots))
    (hZ : Z.Warmed39 s.vm) (wc : (Jvm.Cond.code y bytes maxL ret).before a0 Z = true) (wz : (Jvm.Cond.initialized y.cls).before a0 Z = true) (hf : rm.frames + 1 ≤ R.frames) (hl : W + (maxL + 11) + rm.locals ≤ R.locals) (hEL : EW Z a0 EL) (H : CHv Z EL s.vm h) :
    BackS l R p e below s args y len W (fun A a => a = as' ∧ A.U.heap = h ∧ A.cells + rm.cells ≤ R.cells ∧ A.slots + rm.slots ≤ R.slots)
      (fun A _ v B => ∃ L, Q v B.U.heap L ∧ B.locs = A.locs ++ L ∧ B.cells = A.cells + rm.cells ∧ B.slots = A.slots + rm.slots) :=
  BackS.of_freeW (bytes := bytes) (maxL := maxL) (ret := ret) (E := fun _ _ o t L k n => k = rm.cells ∧ n = rm.slots ∧ ∃ v, o = .returned v ∧ Q v t.heap L) hM hf hl
    (fun m meth c A a Y hp => have hU : Z.Warmed39 A.U.vm := wtrans hZ Y.warmed
      ⟨by show (Cond.and _ .tt).before a A.U = true; rw [Cond.before_and, mv hU wc]; rfl, mv hU wc, mv hU wz, hp.2.2.1, hp.2.2.2⟩)
    (fun m meth c A a g mk Y hp => ⟨hp.1, wtrans hZ Y.warmed, hp.2.1, (CHv.at (s := s) (vm0 := s.vm) Y hZ hEL H).1⟩) (fun _ _ _ _ _ _ _ _ _ => trivial)
    (fun _ _ _ _ ⟨v, L, h1, h2, h3⟩ => ⟨L, _, _, h3, rfl, rfl, v, h1, h2⟩)
    (fun m meth c A a g mk v t L k n Y hp _ _ ⟨e1, e2, v', e3, e4⟩ => by cases e3; subst e1 e2; exact ⟨L, e4, rfl, rfl, rfl⟩)
theorem own_fne {Z : State} {h : Heap} {a b : Addr} {C n d : String} {v w : Value} (F : Fld Z h a C n d v) (G : Fld Z h b C n d w) (q : v ≠ w) : a ≠ b := fun e => by
  subst e
  obtain ⟨c1, cf1, k1, i1, f1, a1, a2, -, -, -, -, a6⟩ := F
  obtain ⟨c2, cf2, k2, i2, f2, b1, b2, -, -, -, -, b6⟩ := G
  cases a1.symm.trans b1
  have e2 := a2.symm.trans b2
  simp only [Option.some.injEq, Prod.mk.injEq] at e2
  rw [e2.2.2.2] at a6
  exact q (Option.some.inj (a6.symm.trans b6))
theorem own_arrne {Z : State} {a0 : Array Value} {h : Heap} {a b : Addr} {C : String} {N : Nat} {k : ClassId} {ty : FieldType} {n : Int32} {f : Nat → Value} (w : (Jvm.Cond.instantiable C N).before a0 Z = true) (E : Exa Z h a C) (A : own_Af Z h b k ty n f) : a ≠ b := fun e => by
  subst e
  obtain ⟨c1, k1, a1, a2, a3, -⟩ := E
  obtain ⟨c2, ⟨b1, ⟨-, k2, b2, comp, b3⟩, -⟩, -⟩ := A
  obtain ⟨c, kk, d1, d2, d3, -⟩ := Cond.instantiable_spec w
  cases a1.symm.trans b1
  cases a2.symm.trans d1
  cases b2.symm.trans d2
  rw [d3] at b3
  cases b3
theorem own_z0 {nq nx : Int32} (h : nq = (nx * nx)) (h2 : nx = (0 : Int32)) : nq = (0 : Int32) := by rw [h, h2]; rfl
theorem own_notz {args : Array Value} {s : State} {t : Jvm.Term} {x : Int32} (h : (Jvm.Cond.not (Jvm.Cond.eq t (Jvm.Term.int (0 : Int32)))).before args s = true) (ev : t.eval args s none [] s = some (.int x)) : ¬ x = (0 : Int32) := fun q => by
  subst q
  simp [Cond.before, Cond.holds, Cond.value, ev, Term.eval] at h
theorem own_eqr {args : Array Value} {s : State} {t u : Jvm.Term} {a b : Addr} (h : (Jvm.Cond.eq t u).before args s = true) (e1 : t.eval args s none [] s = some (.ref a)) (e2 : u.eval args s none [] s = some (.ref b)) : a = b := by
  simpa [Cond.before, Cond.holds, Cond.value, e1, e2] using h

def own_l3 (a b c : Int32) : Nat → Int32 := fun i => ([a, b, c] : List Int32).getD i 0
def own_w2 (a b : Int64) : Nat → Int64 := fun i => ([a, b] : List Int64).getD i 0
def own_ex (ch n c0 c1 c2 : Int32) (w : Int64) : Int64 := if n < (1 : Int32) then (if n < (2 : Int32) then (if n < (3 : Int32) then (-1152921504606846976 : Int64) else (if ch = c2 then ((2 : Int64) * w) else (-1152921504606846976 : Int64))) else (if ch = c1 then w else (if n < (3 : Int32) then (-1152921504606846976 : Int64) else (if ch = c2 then ((2 : Int64) * w) else (-1152921504606846976 : Int64))))) else (if ch = c0 then (0 : Int64) else (if n < (2 : Int32) then (if n < (3 : Int32) then (-1152921504606846976 : Int64) else (if ch = c2 then ((2 : Int64) * w) else (-1152921504606846976 : Int64))) else (if ch = c1 then w else (if n < (3 : Int32) then (-1152921504606846976 : Int64) else (if ch = c2 then ((2 : Int64) * w) else (-1152921504606846976 : Int64))))))
theorem own_l3s {a b c : Int32} (ha : own_c a) (hb : own_c b) (hc : own_c c) {n : Int32} (hn : n.toInt ≤ 3) : own_cs n (own_l3 a b c) := fun i hi => by
  have h3 : i < 3 := by omega
  match i, h3 with
  | 0, _ => exact ha
  | 1, _ => exact hb
  | 2, _ => exact hc
  | n + 3, h => omega
theorem own_m7 {x q : Int32} (h : x = (q &&& (127 : Int32))) : own_c x := by
  have h1 := c_mask q 127 7 (by decide) (by decide)
  rw [← h] at h1
  exact ⟨by omega, by omega⟩
theorem own_c2c {c : Int32} (h : own_c c) : nar .char (c.toUInt32.toUInt16.toUInt32.toInt32) = c := by
  have h1 := c_i2c c
  have h3 := h.1
  have h4 := h.2
  have e : c.toUInt32.toUInt16.toUInt32.toInt32 = c := by apply Int32.toInt_inj.mp; omega
  rw [e]; exact own_cc h
theorem own_ofr {x q : Int32} (h : x = ((1 : Int32) + ((q &&& (2147483647 : Int32)) % (127 : Int32)))) : 1 ≤ x.toInt ∧ x.toInt ≤ 127 := by
  obtain ⟨r, hr⟩ : ∃ r, r = ((q &&& (2147483647 : Int32)) % (127 : Int32)) := ⟨_, rfl⟩
  have h2 := own_rem hr (by decide : (127 : Int32).toInt = 127) (by decide)
  rw [← hr] at h
  have e : x.toInt = 1 + r.toInt := by rw [h, XT.add32 ⟨by show -2 ^ 31 ≤ 1 + r.toInt; omega, by show 1 + r.toInt < 2 ^ 31; omega⟩]; rfl
  omega
theorem own_dr {x q : Int32} (h : x = ((1 : Int32) + ((q &&& (2147483647 : Int32)) % (126 : Int32)))) : 1 ≤ x.toInt ∧ x.toInt ≤ 126 := by
  obtain ⟨r, hr⟩ : ∃ r, r = ((q &&& (2147483647 : Int32)) % (126 : Int32)) := ⟨_, rfl⟩
  have h2 := own_rem hr (by decide : (126 : Int32).toInt = 126) (by decide)
  rw [← hr] at h
  have e : x.toInt = 1 + r.toInt := by rw [h, XT.add32 ⟨by show -2 ^ 31 ≤ 1 + r.toInt; omega, by show 1 + r.toInt < 2 ^ 31; omega⟩]; rfl
  omega
theorem own_dd {d d0 of : Int32} (h : d = (if d0 < of then d0 else (d0 + (1 : Int32)))) (h0 : 1 ≤ d0.toInt ∧ d0.toInt ≤ 126) (h1 : 1 ≤ of.toInt ∧ of.toInt ≤ 127) : 1 ≤ d.toInt ∧ d.toInt ≤ 127 ∧ d.toInt ≠ of.toInt := by
  by_cases q : d0 < of
  · rw [if_pos q] at h; rw [Int32.lt_iff_toInt_lt] at q; rw [h]; omega
  · rw [if_neg q] at h; rw [Int32.lt_iff_toInt_lt] at q
    have e : d.toInt = d0.toInt + 1 := by rw [h, XT.add32 ⟨by show -2 ^ 31 ≤ d0.toInt + 1; omega, by show d0.toInt + 1 < 2 ^ 31; omega⟩]; rfl
    omega
theorem own_ca {c0 x y : Int32} (hc : own_c c0) (hx : 1 ≤ x.toInt ∧ x.toInt ≤ 127) (h : y = ((c0 + x) &&& (127 : Int32))) : y.toInt = (c0.toInt + x.toInt) % 128 := by
  have h1 := c_mask (c0 + x) 127 7 (by decide) (by decide)
  have h3 := hc.1
  have h4 := hc.2
  have e : (c0 + x).toInt = c0.toInt + x.toInt := XT.add32 ⟨by omega, by omega⟩
  rw [← h, e] at h1
  omega
theorem own_three {c0 c1 c2 of d : Int32} (h0 : own_c c0) (ho : 1 ≤ of.toInt ∧ of.toInt ≤ 127) (hd : 1 ≤ d.toInt ∧ d.toInt ≤ 127 ∧ d.toInt ≠ of.toInt) (h1 : c1 = ((c0 + of) &&& (127 : Int32))) (h2 : c2 = ((c0 + d) &&& (127 : Int32))) : c0 ≠ c1 ∧ c0 ≠ c2 ∧ c1 ≠ c2 := by
  have e1 := own_ca h0 ho h1
  have e2 := own_ca h0 ⟨hd.1, hd.2.1⟩ h2
  have a := h0.1
  have b := h0.2
  refine ⟨fun q => ?_, fun q => ?_, fun q => ?_⟩
  · have := congrArg Int32.toInt q; omega
  · have := congrArg Int32.toInt q; omega
  · have := congrArg Int32.toInt q; omega
theorem own_pl {k i : Nat} {nx c0 c1 c2 ch ix : Int32} {w0 w1 w : Int64} (hk : k ≤ 3) (hn : nx.toInt = k) (h0 : own_c c0) (h1 : own_c c1) (h2 : own_c c2) (hne : c0 ≠ c1 ∧ c0 ≠ c2 ∧ c1 ≠ c2) (hc : 0 ≤ ch.toInt ∧ ch.toInt < 256) (hi : ix.toInt = ((i * 256 + ch.toInt.toNat : Nat) : Int)) (hw : own_w2 w0 w1 i = w) :
    own_wv (own_vf (own_l3 c0 c1 c2) k) (own_w2 w0 w1) ix.toNatClampNeg = own_ex ch nx c0 c1 c2 w := by
  have d := own_dv (i := i) (j := ch.toInt.toNat) (by omega)
  rw [own_nat hi]
  unfold own_wv
  rw [d.1, d.2, hw]
  have en : ∀ x : Int32, own_c x → (ch.toInt.toNat = x.toNatClampNeg ↔ ch = x) := fun x hx => by
    have := hx.1
    rw [own_nat (n := x.toInt.toNat) (by omega)]
    constructor
    · intro q; apply Int32.toInt_inj.mp; omega
    · intro q; rw [q]
  have z1 : (Int32.ofNat 0) = (0 : Int32) := rfl
  have z2 : (Int32.ofNat 1) = (1 : Int32) := rfl
  have z3 : (Int32.ofNat 2) = (2 : Int32) := rfl
  have t0 : (0 : Int32).toInt64 = (0 : Int64) := rfl
  have t1 : (1 : Int32).toInt64 = (1 : Int64) := rfl
  have t2 : (2 : Int32).toInt64 = (2 : Int64) := rfl
  have m1 : (-1 : Int32) < (0 : Int32) := by decide
  have n0 : ¬ (0 : Int32) < (0 : Int32) := by decide
  have n1 : ¬ (1 : Int32) < (0 : Int32) := by decide
  have n2 : ¬ (2 : Int32) < (0 : Int32) := by decide
  have l : ∀ j : Int32, nx = j ∨ nx ≠ j := fun j => Classical.em _
  have e : ∀ j : Int32, j.toInt = k → nx = j := fun j q => Int32.toInt_inj.mp (by rw [hn, q])
  have hk4 : k = 0 ∨ k = 1 ∨ k = 2 ∨ k = 3 := by omega
  have g0 : own_l3 c0 c1 c2 0 = c0 := rfl
  have g1 : own_l3 c0 c1 c2 1 = c1 := rfl
  have g2 : own_l3 c0 c1 c2 2 = c2 := rfl
  rcases hk4 with rfl | rfl | rfl | rfl
  · rw [e 0 rfl]
    show (if (-1 : Int32) < (0 : Int32) then _ else _) = _
    rw [if_pos m1]; unfold own_ex; simp only [show (0 : Int32) < 1 by decide, show (0 : Int32) < 2 by decide, show (0 : Int32) < 3 by decide, if_true]
  · rw [e 1 rfl]
    simp only [own_vf, g0, en c0 h0]
    unfold own_ex
    simp only [show ¬ (1 : Int32) < 1 by decide, show (1 : Int32) < 2 by decide, show (1 : Int32) < 3 by decide, if_true, if_false]
    by_cases q0 : ch = c0
    · simp [q0, z1, t0, n0]
    · simp [q0, m1]
  · rw [e 2 rfl]
    simp only [own_vf, g0, g1, en c0 h0, en c1 h1]
    unfold own_ex
    simp only [show ¬ (2 : Int32) < 1 by decide, show ¬ (2 : Int32) < 2 by decide, show (2 : Int32) < 3 by decide, if_true, if_false]
    by_cases q0 : ch = c0
    · have q1 : ¬ ch = c1 := fun z => hne.1 (q0.symm.trans z)
      simp only [if_pos q0, if_neg q1, z1, t0, if_neg n0, Int64.zero_mul]
    · by_cases q1 : ch = c1
      · simp only [if_neg q0, if_pos q1, z2, t1, if_neg n1, Int64.one_mul]
      · simp only [if_neg q0, if_neg q1, if_pos m1]
  · rw [e 3 rfl]
    simp only [own_vf, g0, g1, g2, en c0 h0, en c1 h1, en c2 h2]
    unfold own_ex
    simp only [show ¬ (3 : Int32) < 1 by decide, show ¬ (3 : Int32) < 2 by decide, show ¬ (3 : Int32) < 3 by decide, if_false]
    by_cases q0 : ch = c0
    · have q1 : ¬ ch = c1 := fun z => hne.1 (q0.symm.trans z)
      have q2 : ¬ ch = c2 := fun z => hne.2.1 (q0.symm.trans z)
      simp only [if_pos q0, if_neg q1, if_neg q2, z1, t0, if_neg n0, Int64.zero_mul]
    · by_cases q1 : ch = c1
      · have q2 : ¬ ch = c2 := fun z => hne.2.2 (q1.symm.trans z)
        simp only [if_neg q0, if_pos q1, if_neg q2, z2, t1, if_neg n1, Int64.one_mul]
      · by_cases q2 : ch = c2
        · simp only [if_neg q0, if_neg q1, if_pos q2, z3, t2, if_neg n2]
        · simp only [if_neg q0, if_neg q1, if_neg q2, if_pos m1]
theorem own_exn {ch n c0 c1 c2 : Int32} {w : Int64} (h0 : ch ≠ c0) (h1 : ch ≠ c1) (h2 : ch ≠ c2) : own_ex ch n c0 c1 c2 w = (-1152921504606846976 : Int64) := by
  unfold own_ex
  simp only [if_neg h0, if_neg h1, if_neg h2]
  repeat' split
  all_goals rfl
theorem own_h8 {p q : Int32} (h : p = (q &&& (255 : Int32))) : 0 ≤ p.toInt ∧ p.toInt < 256 := by
  have h1 := c_mask q 255 8 (by decide) (by decide)
  rw [← h] at h1
  omega
theorem own_or8 {p : Int32} (h : 0 ≤ p.toInt ∧ p.toInt < 256) : 128 ≤ (p ||| (128 : Int32)).toInt ∧ (p ||| (128 : Int32)).toInt < 256 := by
  have e : p = Int32.ofInt p.toInt := (Int32.ofInt_toInt p).symm
  obtain ⟨n, hn⟩ : ∃ n : Fin 256, p.toInt = (n.val : Int) := ⟨⟨p.toInt.toNat, by omega⟩, by show p.toInt = ((p.toInt.toNat : Nat) : Int); omega⟩
  rw [e, hn]
  revert n
  intro n _
  have key : ∀ n : Fin 256, 128 ≤ (Int32.ofInt (n.val : Int) ||| (128 : Int32)).toInt ∧ (Int32.ofInt (n.val : Int) ||| (128 : Int32)).toInt < 256 := by decide +kernel
  exact key n
theorem own_b1 (q : Int32) : (q &&& (1 : Int32)) = (0 : Int32) ∨ (q &&& (1 : Int32)) = (1 : Int32) := by
  have h1 := c_mask q 1 1 (by decide) (by decide)
  have h2 : (q &&& (1 : Int32)).toInt = 0 ∨ (q &&& (1 : Int32)).toInt = 1 := by omega
  rcases h2 with h | h
  · exact Or.inl (Int32.toInt_inj.mp h)
  · exact Or.inr (Int32.toInt_inj.mp h)
theorem own_mx {mx q : Int32} (h : mx = ((1 : Int32) + (q &&& (1 : Int32)))) : mx = (1 : Int32) ∨ mx = (2 : Int32) := by
  rcases own_b1 q with e | e
  · left; rw [h, e]; rfl
  · right; rw [h, e]; rfl
theorem own_mz {mx : Int32} (h : mx = (1 : Int32) ∨ mx = (2 : Int32)) : mx ≠ 0 := by
  rcases h with e | e <;> rw [e] <;> decide
theorem own_kx {kx q mx : Int32} (h : kx = ((q &&& (1 : Int32)) % mx)) (hm : mx = (1 : Int32) ∨ mx = (2 : Int32)) : ∃ kk : Nat, kx.toInt = kk ∧ (kk : Int) < mx.toInt ∧ kk ≤ 1 := by
  rcases own_b1 q with e | e <;> rcases hm with f | f <;> rw [e, f] at h <;> rw [h, f]
  · exact ⟨0, by decide, by decide, by decide⟩
  · exact ⟨0, by decide, by decide, by decide⟩
  · exact ⟨0, by decide, by decide, by decide⟩
  · exact ⟨1, by decide, by decide, by decide⟩
theorem own_ox {ox kx : Int32} {kk : Nat} (h : ox = ((1 : Int32) - kx)) (hk : kx.toInt = kk) (h1 : kk ≤ 1) : ox.toInt = ((1 - kk : Nat) : Int) := by
  have e : kx = 0 ∨ kx = 1 := by
    have h2 : kk = 0 ∨ kk = 1 := by omega
    rcases h2 with f | f <;> subst f
    · exact Or.inl (Int32.toInt_inj.mp hk)
    · exact Or.inr (Int32.toInt_inj.mp hk)
  rcases e with e | e <;> subst e <;> subst h
  · have : kk = 0 := by have : (0 : Int32).toInt = 0 := rfl; omega
    subst this; rfl
  · have : kk = 1 := by have : (1 : Int32).toInt = 1 := rfl; omega
    subst this; rfl
theorem own_wk {wk w0 w1 : Int64} {kx : Int32} {kk : Nat} (h : wk = (if kx = (0 : Int32) then w0 else w1)) (hk : kx.toInt = kk) (h1 : kk ≤ 1) : own_w2 w0 w1 kk = wk := by
  have h2 : kk = 0 ∨ kk = 1 := by omega
  rcases h2 with f | f <;> subst f
  · have e : kx = 0 := Int32.toInt_inj.mp hk
    rw [h, if_pos e]; rfl
  · have e : kx = 1 := Int32.toInt_inj.mp hk
    rw [h, if_neg (by rw [e]; decide)]; rfl
theorem own_ixc {kx ch : Int32} {kk : Nat} (hk : kx.toInt = kk) (h1 : kk ≤ 1) (hc : 0 ≤ ch.toInt ∧ ch.toInt < 256) : ((kx <<< ((8 : Int32) &&& 31)) ||| ch).toInt = ((kk * 256 + ch.toInt.toNat : Nat) : Int) := own_ix hk (by omega) h1 (by omega)
theorem own_hin {kx ch nq : Int32} {kk mm : Nat} (hk : kx.toInt = kk) (hkm : kk < mm) (hm : mm ≤ 2) (hc : 0 ≤ ch.toInt ∧ ch.toInt < 256) (hq : nq.toInt = ((mm * 256 : Nat) : Int)) : ¬ ((kx <<< ((8 : Int32) &&& 31)) ||| ch) < (0 : Int32) ∧ ((kx <<< ((8 : Int32) &&& 31)) ||| ch) < nq := by
  have e := own_ixc hk (by omega) hc
  have : kk * 256 + ch.toInt.toNat < mm * 256 := by omega
  exact own_jn (by rw [e]; exact Int.natCast_nonneg _) (by rw [e, hq]; exact_mod_cast this)
theorem own_cr {c : Int32} (h : own_c c) : 0 ≤ c.toInt ∧ c.toInt < 256 := ⟨h.1, by have := h.2; omega⟩
theorem own_n3 {nx q : Int32} (h : nx = (q &&& (3 : Int32))) (h0 : ¬ nx = (0 : Int32)) (h1 : ¬ nx = (1 : Int32)) (h2 : ¬ nx = (2 : Int32)) : nx = (3 : Int32) := by
  have r := c_mask q 3 2 (by decide) (by decide)
  rw [← h] at r
  have e : ∀ j : Int32, nx.toInt = j.toInt → nx = j := fun j z => Int32.toInt_inj.mp z
  have g : nx.toInt = 0 ∨ nx.toInt = 1 ∨ nx.toInt = 2 ∨ nx.toInt = 3 := by omega
  rcases g with g | g | g | g
  · exact absurd (e 0 g) h0
  · exact absurd (e 1 g) h1
  · exact absurd (e 2 g) h2
  · exact e 3 g
theorem own_nc {p c : Int32} (h : 128 ≤ p.toInt) (hc : own_c c) : p ≠ c := fun q => by have := hc.2; rw [q] at h; omega
theorem own_convV {Z : State} {h : Heap} {a : Addr} {k : ClassId} {ty : FieldType} {n : Int32} {l : List Value} {d : Value} (V : Arv Z h a k ty n l d) : own_Af Z h a k ty n (fun i => l.getD i d) := by
  obtain ⟨c, h1, h2, h3, h4, h5, h6⟩ := V
  exact ⟨c, h1, h2, h3, h4, h5, h6⟩

theorem pd_0 : parseMethodDescriptor "([CI[BII)I" = some ⟨[(.array .char), .int, (.array .byte), .int, .int], some .int⟩ := by decide +kernel
theorem pd_1 : parseMethodDescriptor "([CII)[B" = some ⟨[(.array .char), .int, .int], some (.array .byte)⟩ := by decide +kernel
theorem pd_2 : parseMethodDescriptor "([BI)B" = some ⟨[(.array .byte), .int], some .byte⟩ := by decide +kernel
theorem pd_3 : parseMethodDescriptor "([CIILjava/lang/Void;)V" = some ⟨[(.array .char), .int, .int, (.object "java/lang/Void")], none⟩ := by decide +kernel
theorem pd_4 : parseMethodDescriptor "([BII)I" = some ⟨[(.array .byte), .int, .int], some .int⟩ := by decide +kernel
theorem pd_5 : parseMethodDescriptor "(B[B)[B" = some ⟨[.byte, (.array .byte)], some (.array .byte)⟩ := by decide +kernel
theorem pd_6 : parseMethodDescriptor "()B" = some ⟨[], some .byte⟩ := by decide +kernel
theorem pd_7 : parseMethodDescriptor "(Ljava/nio/charset/Charset;B[B)[B" = some ⟨[(.object "java/nio/charset/Charset"), .byte, (.array .byte)], some (.array .byte)⟩ := by decide +kernel
theorem pd_8 : parseMethodDescriptor "(Ljava/nio/charset/Charset;)[B" = some ⟨[(.object "java/nio/charset/Charset")], some (.array .byte)⟩ := by decide +kernel
theorem pd_9 : parseMethodDescriptor "([BB)V" = some ⟨[(.array .byte), .byte], none⟩ := by decide +kernel
theorem pd_10 : parseMethodDescriptor "(IIIIIJ)J" = some ⟨[.int, .int, .int, .int, .int, .long], some .long⟩ := by decide +kernel
theorem pd_11 : parseMethodDescriptor "([C)V" = some ⟨[(.array .char)], none⟩ := by decide +kernel
theorem pd_12 : parseMethodDescriptor "(Ljava/lang/String;)V" = some ⟨[(.object "java/lang/String")], none⟩ := by decide +kernel
theorem pd_13 : parseMethodDescriptor "([J)[J" = some ⟨[(.array .long)], some (.array .long)⟩ := by decide +kernel
theorem d11_0 : decode jdk_52_method_21_code 0 = .ok (.iconst 0, 1) := by decide +kernel
theorem d11_1 : decode jdk_52_method_21_code 1 = .ok (.istore 5, 2) := by decide +kernel
theorem d11_3 : decode jdk_52_method_21_code 3 = .ok (.iload 5, 2) := by decide +kernel
theorem d11_5 : decode jdk_52_method_21_code 5 = .ok (.iload 4, 2) := by decide +kernel
theorem d11_7 : decode jdk_52_method_21_code 7 = .ok (.if_icmp .ge 37, 3) := by decide +kernel
theorem d11_10 : decode jdk_52_method_21_code 10 = .ok (.aload_n 0, 1) := by decide +kernel
theorem d11_11 : decode jdk_52_method_21_code 11 = .ok (.iload_n 1, 1) := by decide +kernel
theorem d11_12 : decode jdk_52_method_21_code 12 = .ok (.caload, 1) := by decide +kernel
theorem d11_13 : decode jdk_52_method_21_code 13 = .ok (.istore 6, 2) := by decide +kernel
theorem d11_15 : decode jdk_52_method_21_code 15 = .ok (.iload 6, 2) := by decide +kernel
theorem d11_17 : decode jdk_52_method_21_code 17 = .ok (.sipush 255, 3) := by decide +kernel
theorem d11_20 : decode jdk_52_method_21_code 20 = .ok (.if_icmp .le 6, 3) := by decide +kernel
theorem d11_26 : decode jdk_52_method_21_code 26 = .ok (.aload_n 2, 1) := by decide +kernel
theorem d11_27 : decode jdk_52_method_21_code 27 = .ok (.iload_n 3, 1) := by decide +kernel
theorem d11_28 : decode jdk_52_method_21_code 28 = .ok (.iload 6, 2) := by decide +kernel
theorem d11_30 : decode jdk_52_method_21_code 30 = .ok (.i2b, 1) := by decide +kernel
theorem d11_31 : decode jdk_52_method_21_code 31 = .ok (.bastore, 1) := by decide +kernel
theorem d11_32 : decode jdk_52_method_21_code 32 = .ok (.iinc 1 1, 3) := by decide +kernel
theorem d11_35 : decode jdk_52_method_21_code 35 = .ok (.iinc 3 1, 3) := by decide +kernel
theorem d11_38 : decode jdk_52_method_21_code 38 = .ok (.iinc 5 1, 3) := by decide +kernel
theorem d11_41 : decode jdk_52_method_21_code 41 = .ok (.goto (-38), 3) := by decide +kernel
theorem d11_44 : decode jdk_52_method_21_code 44 = .ok (.iload 4, 2) := by decide +kernel
theorem d11_46 : decode jdk_52_method_21_code 46 = .ok (.ireturn, 1) := by decide +kernel
theorem os11_13 {z0 : Value} {z1 : Value} {z2 : Value} {z3 : Value} {z4 : Value} {z5 : Value} {s6 : Slot} {v : Int32} (h : One s6) : storeLocals #[.val z0, .val z1, .val z2, .val z3, .val z4, .val z5, s6] 6 (.int v) = some #[.val z0, .val z1, .val z2, .val z3, .val z4, .val z5, .val (.int v)] := by
  rcases h with rfl | ⟨w, rfl, hw⟩
  · rfl
  · cases w <;> first | rfl | (simp [Value.category] at hw)
set_option maxRecDepth 65536 in
set_option maxHeartbeats 40000000 in
theorem tn11 {p : Program} {l : Launch} {e : Env} {R : Room} {s : State} {m : MethodId} {args : Array Value} {below : List Frame} {meth : Method} {c : Code} {T : State} {locs : List Loc} {cells slots : Nat} {Z : State} {a0 : Array Value} {h0 : Heap} {n0 : Nat} (a1 : Addr) (a3 : Addr) (iv : Int32) (pn : Int32) (s6 : Slot) (kc : ClassId) (kb : ClassId) (cf : Nat → Int32) (f3 : Nat → Value)
    (X0 : Stand p l e R s m args below meth c T locs cells slots) (hx : p.tables.exec = Jvm.exec) (hZ : Z.Warmed39 s.vm) (hw : ∀ d ∈ tables_1, d.before a0 Z = true) (hby : c.code = jdk_52_method_21_code) (hml : c.maxLocals = 7) (hown : s.vm.findClass "java/lang/StringUTF16" = some m.cls) (e0 : T.heap = h0) (N0 : Fr n0 locs) (Z0 : n0 ≤ h0.size) (A_c : own_Af Z h0 a1 kc .char pn (fun i => Value.int (cf i))) (A_b : own_Af Z h0 a3 kb .byte pn f3) (g_b : n0 ≤ a3) (ne13 : a1 ≠ a3) (h_s6 : One s6) (hlt : iv < pn) (hj : ¬ iv < (0 : Int32) ∧ iv < pn) (hcw : own_c (cf (iv).toNatClampNeg)) :
    ∃ (T' : State) (h' : Heap) (locs' : List Loc), Stand p l e R s m args below meth c T' locs' cells slots ∧ T'.heap = h' ∧ Fr n0 locs' ∧ Keep h0 h' [a3] ∧ own_Af Z h' a1 kc .char pn (fun i => Value.int (cf i)) ∧ own_Af Z h' a3 kb .byte pn (fun i => if i = (iv).toNatClampNeg then (.int (cf (iv).toNatClampNeg)) else f3 i) ∧
      ∀ t, Steps p.tables e below (T'.setTop (mkF m 3 #[.val (.ref a1), .val (.int (iv + (1 : Int32))), .val (.ref a3), .val (.int (iv + (1 : Int32))), .val (.int pn), .val (.int (iv + (1 : Int32))), .val (.int (cf (iv).toNatClampNeg))] [])) t → Steps p.tables e below (T.setTop (mkF m 3 #[.val (.ref a1), .val (.int iv), .val (.ref a3), .val (.int iv), .val (.int pn), .val (.int iv), s6] [])) t := by
  have K0 : Keep h0 h0 [a3] := Keep.refl _ _
  have P0 : ∀ t, Steps p.tables e below (T.setTop (mkF m 3 #[.val (.ref a1), .val (.int iv), .val (.ref a3), .val (.int iv), .val (.int pn), .val (.int iv), s6] [])) t → Steps p.tables e below (T.setTop (mkF m 3 #[.val (.ref a1), .val (.int iv), .val (.ref a3), .val (.int iv), .val (.int pn), .val (.int iv), s6] [])) t := fun t k => k
  have P1 : ∀ t, Steps p.tables e below (T.setTop (mkF m 31 #[.val (.ref a1), .val (.int iv), .val (.ref a3), .val (.int iv), .val (.int pn), .val (.int iv), .val (.int (cf (iv).toNatClampNeg))] [(.int ((cf (iv).toNatClampNeg).toInt8.toInt32)), (.int iv), (.ref a3)])) t → Steps p.tables e below (T.setTop (mkF m 3 #[.val (.ref a1), .val (.int iv), .val (.ref a3), .val (.int iv), .val (.int pn), .val (.int iv), s6] [])) t := by
    intro t k
    refine P0 _ ?_
    refine XS.iload X0.here hx rfl (hb hby d11_3) rfl ?_
    show Steps p.tables e below (T.setTop (mkF m 5 #[.val (.ref a1), .val (.int iv), .val (.ref a3), .val (.int iv), .val (.int pn), .val (.int iv), s6] [(.int iv)])) _
    refine XS.iload X0.here hx rfl (hb hby d11_5) rfl ?_
    show Steps p.tables e below (T.setTop (mkF m 7 #[.val (.ref a1), .val (.int iv), .val (.ref a3), .val (.int iv), .val (.int pn), .val (.int iv), s6] [(.int pn), (.int iv)])) _
    refine XS.icmpNo X0.here hx rfl (hb hby d11_7) rfl (XT.ii_ge_f hlt) ?_
    show Steps p.tables e below (T.setTop (mkF m 10 #[.val (.ref a1), .val (.int iv), .val (.ref a3), .val (.int iv), .val (.int pn), .val (.int iv), s6] [])) _
    refine XS.aloadN X0.here hx rfl (hb hby d11_10) rfl rfl ?_
    show Steps p.tables e below (T.setTop (mkF m 11 #[.val (.ref a1), .val (.int iv), .val (.ref a3), .val (.int iv), .val (.int pn), .val (.int iv), s6] [(.ref a1)])) _
    refine XS.iloadN X0.here hx rfl (hb hby d11_11) rfl ?_
    show Steps p.tables e below (T.setTop (mkF m 12 #[.val (.ref a1), .val (.int iv), .val (.ref a3), .val (.int iv), .val (.int pn), .val (.int iv), s6] [(.int iv), (.ref a1)])) _
    refine own_fcal X0 hx hZ e0 A_c hj (v := (.int (cf (iv).toNatClampNeg))) rfl rfl rfl (hb hby d11_12) ?_
    show Steps p.tables e below (T.setTop (mkF m 13 #[.val (.ref a1), .val (.int iv), .val (.ref a3), .val (.int iv), .val (.int pn), .val (.int iv), s6] [(.int (cf (iv).toNatClampNeg))])) _
    refine XS.istore X0.here hx rfl (hb hby d11_13) rfl (l' := #[.val (.ref a1), .val (.int iv), .val (.ref a3), .val (.int iv), .val (.int pn), .val (.int iv), .val (.int (cf (iv).toNatClampNeg))]) (os11_13 h_s6) ?_
    show Steps p.tables e below (T.setTop (mkF m 15 #[.val (.ref a1), .val (.int iv), .val (.ref a3), .val (.int iv), .val (.int pn), .val (.int iv), .val (.int (cf (iv).toNatClampNeg))] [])) _
    refine XS.iload X0.here hx rfl (hb hby d11_15) rfl ?_
    show Steps p.tables e below (T.setTop (mkF m 17 #[.val (.ref a1), .val (.int iv), .val (.ref a3), .val (.int iv), .val (.int pn), .val (.int iv), .val (.int (cf (iv).toNatClampNeg))] [(.int (cf (iv).toNatClampNeg))])) _
    refine XS.sipush X0.here hx rfl (hb hby d11_17) ?_
    show Steps p.tables e below (T.setTop (mkF m 20 #[.val (.ref a1), .val (.int iv), .val (.ref a3), .val (.int iv), .val (.int pn), .val (.int iv), .val (.int (cf (iv).toNatClampNeg))] [(.int (255 : Int32)), (.int (cf (iv).toNatClampNeg))])) _
    refine XS.icmpYes X0.here hx rfl (pc0 := 20) (pc' := 26) rfl (hb hby d11_20) rfl (XT.ii_le_t (own_c255 hcw)) (by decide) (by decide) ?_
    show Steps p.tables e below (T.setTop (mkF m 26 #[.val (.ref a1), .val (.int iv), .val (.ref a3), .val (.int iv), .val (.int pn), .val (.int iv), .val (.int (cf (iv).toNatClampNeg))] [])) _
    refine XS.aloadN X0.here hx rfl (hb hby d11_26) rfl rfl ?_
    show Steps p.tables e below (T.setTop (mkF m 27 #[.val (.ref a1), .val (.int iv), .val (.ref a3), .val (.int iv), .val (.int pn), .val (.int iv), .val (.int (cf (iv).toNatClampNeg))] [(.ref a3)])) _
    refine XS.iloadN X0.here hx rfl (hb hby d11_27) rfl ?_
    show Steps p.tables e below (T.setTop (mkF m 28 #[.val (.ref a1), .val (.int iv), .val (.ref a3), .val (.int iv), .val (.int pn), .val (.int iv), .val (.int (cf (iv).toNatClampNeg))] [(.int iv), (.ref a3)])) _
    refine XS.iload X0.here hx rfl (hb hby d11_28) rfl ?_
    show Steps p.tables e below (T.setTop (mkF m 30 #[.val (.ref a1), .val (.int iv), .val (.ref a3), .val (.int iv), .val (.int pn), .val (.int iv), .val (.int (cf (iv).toNatClampNeg))] [(.int (cf (iv).toNatClampNeg)), (.int iv), (.ref a3)])) _
    refine XT.i2b X0.here hx rfl (hb hby d11_30) rfl ?_
    show Steps p.tables e below (T.setTop (mkF m 31 #[.val (.ref a1), .val (.int iv), .val (.ref a3), .val (.int iv), .val (.int pn), .val (.int iv), .val (.int (cf (iv).toNatClampNeg))] [(.int ((cf (iv).toNatClampNeg).toInt8.toInt32)), (.int iv), (.ref a3)])) _
    exact k
  obtain ⟨cl2, Ar2, q2, S2, M2, H2, G2⟩ := A_b
  have in2 : ¬ (iv < 0 ∨ cl2.slots.size ≤ (iv).toNatClampNeg) := inb_of S2 hj
  obtain ⟨T2, h2, X2, e2, W2, st2⟩ := stB X0 hx hZ e0 Ar2 (j := iv) in2 (g := (mkF m 31 #[.val (.ref a1), .val (.int iv), .val (.ref a3), .val (.int iv), .val (.int pn), .val (.int iv), .val (.int (cf (iv).toNatClampNeg))] [(.int ((cf (iv).toNatClampNeg).toInt8.toInt32)), (.int iv), (.ref a3)])) rfl rfl (hb hby d11_31)
  have r2 : nar .byte ((cf (iv).toNatClampNeg).toInt8.toInt32) = (cf (iv).toNatClampNeg) := own_cb hcw
  rw [r2] at W2
  have F3 : own_Af Z h2 a1 kc .char pn (fun i => Value.int (cf i)) := A_c.other W2 ne13
  have F4 : own_Af Z h2 a3 kb .byte pn (fun i => if i = (iv).toNatClampNeg then (.int (cf (iv).toNatClampNeg)) else f3 i) := own_Af.set Ar2 q2 S2 M2 H2 G2 (by rw [← r2]; exact fits_nar_byte _) W2 (Nat.lt_of_not_le fun y => in2 (Or.inr y))
  have Z5 : n0 ≤ h2.size := Nat.le_trans Z0 (Keep.of_wr W2).1
  have K6 : Keep h0 h2 [a3] := K0.wr W2 (Or.inl (List.mem_of_getElem? (i := 0) rfl))
  have N2 := Fr.snoc X2 N0 g_b
  have P7 : ∀ t, Steps p.tables e below (T2.setTop (mkF m 32 #[.val (.ref a1), .val (.int iv), .val (.ref a3), .val (.int iv), .val (.int pn), .val (.int iv), .val (.int (cf (iv).toNatClampNeg))] [])) t → Steps p.tables e below (T.setTop (mkF m 3 #[.val (.ref a1), .val (.int iv), .val (.ref a3), .val (.int iv), .val (.int pn), .val (.int iv), s6] [])) t := fun t k => P1 _ (st2 _ k)
  have P8 : ∀ t, Steps p.tables e below (T2.setTop (mkF m 3 #[.val (.ref a1), .val (.int (iv + (1 : Int32))), .val (.ref a3), .val (.int (iv + (1 : Int32))), .val (.int pn), .val (.int (iv + (1 : Int32))), .val (.int (cf (iv).toNatClampNeg))] [])) t → Steps p.tables e below (T.setTop (mkF m 3 #[.val (.ref a1), .val (.int iv), .val (.ref a3), .val (.int iv), .val (.int pn), .val (.int iv), s6] [])) t := by
    intro t k
    refine P7 _ ?_
    refine XS.iinc X2.here hx rfl (hb hby d11_32) rfl (l' := #[.val (.ref a1), .val (.int (iv + (1 : Int32))), .val (.ref a3), .val (.int iv), .val (.int pn), .val (.int iv), .val (.int (cf (iv).toNatClampNeg))]) rfl ?_
    show Steps p.tables e below (T2.setTop (mkF m 35 #[.val (.ref a1), .val (.int (iv + (1 : Int32))), .val (.ref a3), .val (.int iv), .val (.int pn), .val (.int iv), .val (.int (cf (iv).toNatClampNeg))] [])) _
    refine XS.iinc X2.here hx rfl (hb hby d11_35) rfl (l' := #[.val (.ref a1), .val (.int (iv + (1 : Int32))), .val (.ref a3), .val (.int (iv + (1 : Int32))), .val (.int pn), .val (.int iv), .val (.int (cf (iv).toNatClampNeg))]) rfl ?_
    show Steps p.tables e below (T2.setTop (mkF m 38 #[.val (.ref a1), .val (.int (iv + (1 : Int32))), .val (.ref a3), .val (.int (iv + (1 : Int32))), .val (.int pn), .val (.int iv), .val (.int (cf (iv).toNatClampNeg))] [])) _
    refine XS.iinc X2.here hx rfl (hb hby d11_38) rfl (l' := #[.val (.ref a1), .val (.int (iv + (1 : Int32))), .val (.ref a3), .val (.int (iv + (1 : Int32))), .val (.int pn), .val (.int (iv + (1 : Int32))), .val (.int (cf (iv).toNatClampNeg))]) rfl ?_
    show Steps p.tables e below (T2.setTop (mkF m 41 #[.val (.ref a1), .val (.int (iv + (1 : Int32))), .val (.ref a3), .val (.int (iv + (1 : Int32))), .val (.int pn), .val (.int (iv + (1 : Int32))), .val (.int (cf (iv).toNatClampNeg))] [])) _
    refine XS.goto X2.here hx rfl (pc0 := 41) (pc' := 3) rfl (hb hby d11_41) (by decide) (by decide) ?_
    show Steps p.tables e below (T2.setTop (mkF m 3 #[.val (.ref a1), .val (.int (iv + (1 : Int32))), .val (.ref a3), .val (.int (iv + (1 : Int32))), .val (.int pn), .val (.int (iv + (1 : Int32))), .val (.int (cf (iv).toNatClampNeg))] [])) _
    exact k
  exact ⟨T2, h2, _, X2, e2, N2, K6, F3, F4, P8⟩
set_option maxRecDepth 65536 in
set_option maxHeartbeats 40000000 in
theorem lv11 {p : Program} {l : Launch} {e : Env} {R : Room} {s : State} {m : MethodId} {args : Array Value} {below : List Frame} {meth : Method} {c : Code} {T : State} {locs : List Loc} {cells slots : Nat} {Z : State} {a0 : Array Value} {h0 : Heap} (a1 : Addr) (a3 : Addr) (iv : Int32) (pn : Int32) (s6 : Slot)
    (X0 : Stand p l e R s m args below meth c T locs cells slots) (hx : p.tables.exec = Jvm.exec) (hZ : Z.Warmed39 s.vm) (hw : ∀ d ∈ tables_1, d.before a0 Z = true) (hby : c.code = jdk_52_method_21_code) (hown : s.vm.findClass "java/lang/StringUTF16" = some m.cls) (e0 : T.heap = h0) (hge : ¬ iv < pn) :
    ∀ t, Steps p.tables e below (T.setTop (mkF m 44 #[.val (.ref a1), .val (.int iv), .val (.ref a3), .val (.int iv), .val (.int pn), .val (.int iv), s6] [])) t → Steps p.tables e below (T.setTop (mkF m 3 #[.val (.ref a1), .val (.int iv), .val (.ref a3), .val (.int iv), .val (.int pn), .val (.int iv), s6] [])) t := by
  intro t k
  refine XS.iload X0.here hx rfl (hb hby d11_3) rfl ?_
  show Steps p.tables e below (T.setTop (mkF m 5 #[.val (.ref a1), .val (.int iv), .val (.ref a3), .val (.int iv), .val (.int pn), .val (.int iv), s6] [(.int iv)])) _
  refine XS.iload X0.here hx rfl (hb hby d11_5) rfl ?_
  show Steps p.tables e below (T.setTop (mkF m 7 #[.val (.ref a1), .val (.int iv), .val (.ref a3), .val (.int iv), .val (.int pn), .val (.int iv), s6] [(.int pn), (.int iv)])) _
  refine XS.icmpYes X0.here hx rfl (pc0 := 7) (pc' := 44) rfl (hb hby d11_7) rfl (XT.ii_ge_t hge) (by decide) (by decide) ?_
  show Steps p.tables e below (T.setTop (mkF m 44 #[.val (.ref a1), .val (.int iv), .val (.ref a3), .val (.int iv), .val (.int pn), .val (.int iv), s6] [])) _
  exact k
set_option maxRecDepth 65536 in
theorem loop11 {p : Program} {l : Launch} {e : Env} {R : Room} {s : State} {m : MethodId} {args : Array Value} {below : List Frame} {meth : Method} {c : Code} {Z : State} {a0 : Array Value} {n0 : Nat} {cells slots : Nat} (a1 a3 : Addr) (pn : Int32) (kc kb : ClassId) (cf : Nat → Int32) (n : Nat) (hx : p.tables.exec = Jvm.exec) (hZ : Z.Warmed39 s.vm) (hw : ∀ d ∈ tables_1, d.before a0 Z = true) (hby : c.code = jdk_52_method_21_code) (hml : c.maxLocals = 7) (hown : s.vm.findClass "java/lang/StringUTF16" = some m.cls) (hn : pn.toInt = n) (hn4 : n < 5000) (g_b : n0 ≤ a3) (ne13 : a1 ≠ a3) (hcs : own_cs pn cf) (k : Nat) :
    ∀ (T : State) (locs : List Loc) (h0 : Heap) (i : Nat) (iv : Int32) (s6 : Slot) (f3 : Nat → Value), Stand p l e R s m args below meth c T locs cells slots → T.heap = h0 → Fr n0 locs → n0 ≤ h0.size → own_Af Z h0 a1 kc .char pn (fun i => Value.int (cf i)) → own_Af Z h0 a3 kb .byte pn f3 → One s6 → i + k = n → iv.toInt = i → (∀ j, j < i → f3 j = .int (cf j)) →
      ∃ (T' : State) (h' : Heap) (locs' : List Loc) (iv' : Int32) (s6' : Slot), Stand p l e R s m args below meth c T' locs' cells slots ∧ T'.heap = h' ∧ Fr n0 locs' ∧ Keep h0 h' [a3] ∧ own_Af Z h' a1 kc .char pn (fun i => Value.int (cf i)) ∧ own_Af Z h' a3 kb .byte pn (fun i => Value.int (cf i)) ∧
        ∀ t, Steps p.tables e below (T'.setTop (mkF m 44 #[.val (.ref a1), .val (.int iv'), .val (.ref a3), .val (.int iv'), .val (.int pn), .val (.int iv'), s6'] [])) t → Steps p.tables e below (T.setTop (mkF m 3 #[.val (.ref a1), .val (.int iv), .val (.ref a3), .val (.int iv), .val (.int pn), .val (.int iv), s6] [])) t := by
  induction k with
  | zero =>
    intro T locs h0 i iv s6 f3 X0 e0 N0 Z0 A_c A_b hs h1 h2 h3
    have hi : i = n := by omega
    refine ⟨T, h0, locs, iv, s6, X0, e0, N0, Keep.refl _ _, A_c, A_b.same (fun j hj => (h3 j (by rw [own_nat hn] at hj; omega)).symm), ?_⟩
    exact lv11 a1 a3 iv pn s6 X0 hx hZ hw hby hown e0 (by rw [Int32.lt_iff_toInt_lt]; omega)
  | succ k ih =>
    intro T locs h0 i iv s6 f3 X0 e0 N0 Z0 A_c A_b hs h1 h2 h3
    have hj : ¬ iv < (0 : Int32) ∧ iv < pn := own_jn (by omega) (by omega)
    obtain ⟨T1, h1', locs1, X1, e1, N1, K1, A1, B1, st1⟩ := tn11 a1 a3 iv pn s6 kc kb cf f3 X0 hx hZ hw hby hml hown e0 N0 Z0 A_c A_b g_b ne13 hs hj.2 hj (hcs _ (by rw [own_nat h2]; omega))
    obtain ⟨T2, h2', locs2, iv2, s62, X2, e2, N2, K2, A2, B2, st2⟩ := ih T1 locs1 h1' (i + 1) (iv + (1 : Int32)) (.val (.int (cf (iv).toNatClampNeg))) _ X1 e1 N1 (Nat.le_trans Z0 K1.1) A1 B1 (One.val rfl) (by omega) (own_inc h2 (by omega)) (fun j hj' => by
      rw [own_nat h2]
      by_cases q : j = i
      · simp [q]
      · simp only [q, if_false]; exact h3 j (by omega))
    exact ⟨T2, h2', locs2, iv2, s62, X2, e2, N2, K1.trans K2 (fun x hx' => Or.inl hx'), A2, B2, fun t kk => st1 t (st2 t kk)⟩
theorem pn_11 : plainName "java/lang/StringUTF16" = true := by first | (simp [plainName, overriddenIn]; done) | decide +kernel
theorem ef_11 (m : MethodId) (x0 : Addr) (x1 : Int32) (x2 : Addr) (x3 : Int32) (x4 : Int32) : entryFrame m #[(.ref x0), (.int x3), (.ref x2), (.int x3), (.int x4)] 7 = mkF m 0 #[.val (.ref x0), .val (.int x3), .val (.ref x2), .val (.int x3), .val (.int x4), .unset, .unset] [] := by first | (simp [entryFrame, mkF, argsToLocals, Value.category]; done) | rfl
def Q11 (Z : State) (a1 : Addr) (a3 : Addr) (pn : Int32) (kc : ClassId) (kb : ClassId) (cf : Nat → Int32) (f3 : Nat → Value) (n : Nat) (h0 : Heap) (n0 : Nat) (v : Option Value) (h : Heap) (L : List Loc) : Prop := v = some (.int pn) ∧ Fr n0 L ∧ Keep h0 h [a3] ∧ own_Af Z h a1 kc .char pn (fun i => Value.int (cf i)) ∧ own_Af Z h a3 kb .byte pn (fun i => Value.int (cf i))
set_option maxRecDepth 65536 in
set_option maxHeartbeats 40000000 in
theorem rm11 (l : Launch) (Z : State) (a0 : Array Value) (hw : ∀ d ∈ tables_1, d.before a0 Z = true) (ws : List Jvm.Cond) (a1 : Addr) (a3 : Addr) (pn : Int32) (kc : ClassId) (kb : ClassId) (cf : Nat → Int32) (f3 : Nat → Value) (n : Nat) (h0 : Heap) (n0 : Nat) (Z0 : n0 ≤ h0.size) (A_c : own_Af Z h0 a1 kc .char pn (fun i => Value.int (cf i))) (A_b : own_Af Z h0 a3 kb .byte pn f3) (g_b : n0 ≤ a3) (ne13 : a1 ≠ a3) (hn : pn.toInt = n) (hn4 : n < 5000) (hcs : own_cs pn cf) :
    MetFree l (⟨"java/lang/StringUTF16", "compress", "([CI[BII)I"⟩ : MethodName) (head1 (Jvm.Cond.code (⟨"java/lang/StringUTF16", "compress", "([CI[BII)I"⟩ : MethodName) jdk_52_method_21_code 7 (some .int) :: ws) ({ frames := 0, cells := 0, slots := 0, locals := 0 } : Room)) (fun a U => a = #[(.ref a1), (.int (0 : Int32)), (.ref a3), (.int (0 : Int32)), (.int pn)] ∧ Z.Warmed39 U.vm ∧ U.heap = h0) (fun _ _ _ _ _ => True) (fun _ U o U' => ∃ v L, o = .returned v ∧ Q11 Z a1 a3 pn kc kb cf f3 n h0 n0 v U'.heap L ∧ FrameEnd U o U' L ({ frames := 0, cells := 0, slots := 0, locals := 0 } : Room).cells ({ frames := 0, cells := 0, slots := 0, locals := 0 } : Room).slots) := by
  refine MetFree.of_bodySF (plainFor_of_name pn_11) hisR ?_
  intro p e s m args below meth c s₁ Bd hml0 hP hK
  obtain ⟨rfl, hZ, hh⟩ := hP
  have hx := Bd.exec
  have hby := Bd.bytes
  have hml : c.maxLocals = 7 := hml0
  have hown : s.vm.findClass "java/lang/StringUTF16" = some m.cls := findClass_of_methodNamed Bd.named
  have hnm := (name_of_methodNamed Bd.named Bd.method).1
  have X0 : Stand p l e ({ frames := 0, cells := 0, slots := 0, locals := 0 } : Room) s m #[(.ref a1), (.int (0 : Int32)), (.ref a3), (.int (0 : Int32)), (.int pn)] below meth c s₁ [] 0 0 := Stand.of_body Bd
  have e0 : s₁.heap = h0 := by rw [← hh, Bd.state]; rfl
  have N0 := Fr.nil n0
  have K0 : Keep h0 h0 [a3] := Keep.refl _ _
  have P0 : ∀ t, Steps p.tables e below (s₁.setTop (mkF m 0 #[.val (.ref a1), .val (.int (0 : Int32)), .val (.ref a3), .val (.int (0 : Int32)), .val (.int pn), .unset, .unset] [])) t → Steps p.tables e below (s₁.setTop (entryFrame m #[(.ref a1), (.int (0 : Int32)), (.ref a3), (.int (0 : Int32)), (.int pn)] 7)) t := fun t k => castTop (ef_11 m a1 (0 : Int32) a3 (0 : Int32) pn) k
  have P1 : ∀ t, Steps p.tables e below (s₁.setTop (mkF m 3 #[.val (.ref a1), .val (.int (0 : Int32)), .val (.ref a3), .val (.int (0 : Int32)), .val (.int pn), .val (.int (0 : Int32)), .unset] [])) t → Steps p.tables e below (s₁.setTop (entryFrame m #[(.ref a1), (.int (0 : Int32)), (.ref a3), (.int (0 : Int32)), (.int pn)] 7)) t := by
    intro t k
    refine P0 _ ?_
    refine XS.iconst X0.here hx rfl (hb hby d11_0) ?_
    show Steps p.tables e below (s₁.setTop (mkF m 1 #[.val (.ref a1), .val (.int (0 : Int32)), .val (.ref a3), .val (.int (0 : Int32)), .val (.int pn), .unset, .unset] [(.int (0 : Int32))])) _
    refine XS.istore X0.here hx rfl (hb hby d11_1) rfl (l' := #[.val (.ref a1), .val (.int (0 : Int32)), .val (.ref a3), .val (.int (0 : Int32)), .val (.int pn), .val (.int (0 : Int32)), .unset]) rfl ?_
    show Steps p.tables e below (s₁.setTop (mkF m 3 #[.val (.ref a1), .val (.int (0 : Int32)), .val (.ref a3), .val (.int (0 : Int32)), .val (.int pn), .val (.int (0 : Int32)), .unset] [])) _
    exact k
  obtain ⟨T2, h2, lo2, jv, sv, X2, e2, N2, K2, A_c1, A_b1, st2⟩ := loop11 a1 a3 pn kc kb cf n hx hZ hw hby hml hown hn hn4 g_b ne13 hcs n s₁ _ h0 0 (0 : Int32) .unset f3 X0 e0 N0 Z0 A_c A_b One.u (by omega) rfl (fun j hj => absurd hj (Nat.not_lt_zero j))
  have P3 : ∀ t, Steps p.tables e below (T2.setTop (mkF m 44 #[.val (.ref a1), .val (.int jv), .val (.ref a3), .val (.int jv), .val (.int pn), .val (.int jv), sv] [])) t → Steps p.tables e below (s₁.setTop (entryFrame m #[(.ref a1), (.int (0 : Int32)), (.ref a3), (.int (0 : Int32)), (.int pn)] 7)) t := fun t k => P1 _ (st2 _ k)
  have Z4 : n0 ≤ h2.size := Nat.le_trans Z0 K2.1
  have P5 : ∀ t, Steps p.tables e below (T2.setTop (mkF m 46 #[.val (.ref a1), .val (.int jv), .val (.ref a3), .val (.int jv), .val (.int pn), .val (.int jv), sv] [(.int pn)])) t → Steps p.tables e below (s₁.setTop (entryFrame m #[(.ref a1), (.int (0 : Int32)), (.ref a3), (.int (0 : Int32)), (.int pn)] 7)) t := by
    intro t k
    refine P3 _ ?_
    refine XS.iload X2.here hx rfl (hb hby d11_44) rfl ?_
    show Steps p.tables e below (T2.setTop (mkF m 46 #[.val (.ref a1), .val (.int jv), .val (.ref a3), .val (.int jv), .val (.int pn), .val (.int jv), sv] [(.int pn)])) _
    exact k
  obtain ⟨fs, hr, hrun, hended, hW, hsame⟩ := X2.leave (v := some (.int pn)) (fun h => by rw [Bd.returns] at h; cases h)
  refine ⟨_, _, P5 _ ?_, hrun, hended, _, _, rfl, ?_, ⟨_, rfl⟩, hW, hsame.mono (by decide) (by decide)⟩
  · exact retI X2 hx Bd.returns (hb hby d11_46) hr
  · show Q11 Z a1 a3 pn kc kb cf f3 n h0 n0 _ T2.heap _
    rw [e2]
    exact ⟨rfl, N2, K2, A_c1, A_b1⟩
theorem d12_0 : decode jdk_52_method_16_code 0 = .ok (.iload_n 2, 1) := by decide +kernel
theorem d12_1 : decode jdk_52_method_16_code 1 = .ok (.newarray .byte, 2) := by decide +kernel
theorem d12_3 : decode jdk_52_method_16_code 3 = .ok (.astore_n 3, 1) := by decide +kernel
theorem d12_4 : decode jdk_52_method_16_code 4 = .ok (.aload_n 0, 1) := by decide +kernel
theorem d12_5 : decode jdk_52_method_16_code 5 = .ok (.iload_n 1, 1) := by decide +kernel
theorem d12_6 : decode jdk_52_method_16_code 6 = .ok (.aload_n 3, 1) := by decide +kernel
theorem d12_7 : decode jdk_52_method_16_code 7 = .ok (.iconst 0, 1) := by decide +kernel
theorem d12_8 : decode jdk_52_method_16_code 8 = .ok (.iload_n 2, 1) := by decide +kernel
theorem d12_9 : decode jdk_52_method_16_code 9 = .ok (.invokestatic 115, 3) := by decide +kernel
theorem d12_12 : decode jdk_52_method_16_code 12 = .ok (.istore 4, 2) := by decide +kernel
theorem d12_14 : decode jdk_52_method_16_code 14 = .ok (.iload 4, 2) := by decide +kernel
theorem d12_16 : decode jdk_52_method_16_code 16 = .ok (.iload_n 2, 1) := by decide +kernel
theorem d12_17 : decode jdk_52_method_16_code 17 = .ok (.if_icmp .eq 40, 3) := by decide +kernel
theorem d12_57 : decode jdk_52_method_16_code 57 = .ok (.aload_n 3, 1) := by decide +kernel
theorem d12_58 : decode jdk_52_method_16_code 58 = .ok (.areturn, 1) := by decide +kernel
theorem pn_12 : plainName "java/lang/StringUTF16" = true := by first | (simp [plainName, overriddenIn]; done) | decide +kernel
theorem ef_12 (m : MethodId) (x0 : Addr) (x1 : Int32) (x2 : Int32) : entryFrame m #[(.ref x0), (.int x1), (.int x2)] 6 = mkF m 0 #[.val (.ref x0), .val (.int x1), .val (.int x2), .unset, .unset, .unset] [] := by first | (simp [entryFrame, mkF, argsToLocals, Value.category]; done) | rfl
def Q12 (Z : State) (a1 : Addr) (pn : Int32) (kc : ClassId) (cf : Nat → Int32) (n : Nat) (h0 : Heap) (n0 : Nat) (v : Option Value) (h : Heap) (L : List Loc) : Prop := ∃ (b : Addr) (kb : ClassId), v = some (.ref b) ∧ Fr n0 L ∧ Keep h0 h [] ∧ h0.size ≤ b ∧ own_Af Z h b kb .byte pn (fun i => Value.int (cf i)) ∧ Exa Z h b "[B"
set_option maxRecDepth 65536 in
set_option maxHeartbeats 40000000 in
theorem rm12 (l : Launch) (Z : State) (a0 : Array Value) (hw : ∀ d ∈ tables_1, d.before a0 Z = true) (ws : List Jvm.Cond) (a1 : Addr) (pn : Int32) (kc : ClassId) (cf : Nat → Int32) (n : Nat) (h0 : Heap) (n0 : Nat) (Z0 : n0 ≤ h0.size) (A_c : own_Af Z h0 a1 kc .char pn (fun i => Value.int (cf i))) (hn : pn.toInt = n) (hn4 : n ≤ 4) (hcs : own_cs pn cf) :
    MetFree l (⟨"java/lang/StringUTF16", "compress", "([CII)[B"⟩ : MethodName) (head1 (Jvm.Cond.code (⟨"java/lang/StringUTF16", "compress", "([CII)[B"⟩ : MethodName) jdk_52_method_16_code 6 (some (.array .byte)) :: ws) ({ frames := 1, cells := 1, slots := 4, locals := 18 } : Room)) (fun a U => a = #[(.ref a1), (.int (0 : Int32)), (.int pn)] ∧ Z.Warmed39 U.vm ∧ U.heap = h0) (fun _ _ _ _ _ => True) (fun _ U o U' => ∃ v L, o = .returned v ∧ Q12 Z a1 pn kc cf n h0 n0 v U'.heap L ∧ FrameEnd U o U' L ({ frames := 1, cells := 1, slots := 4, locals := 18 } : Room).cells ({ frames := 1, cells := 1, slots := 4, locals := 18 } : Room).slots) := by
  refine MetFree.of_bodySF (plainFor_of_name pn_12) hisR ?_
  intro p e s m args below meth c s₁ Bd hml0 hP hK
  obtain ⟨rfl, hZ, hh⟩ := hP
  have hx := Bd.exec
  have hby := Bd.bytes
  have hml : c.maxLocals = 6 := hml0
  have hown : s.vm.findClass "java/lang/StringUTF16" = some m.cls := findClass_of_methodNamed Bd.named
  have hnm := (name_of_methodNamed Bd.named Bd.method).1
  have X0 : Stand p l e ({ frames := 1, cells := 1, slots := 4, locals := 18 } : Room) s m #[(.ref a1), (.int (0 : Int32)), (.int pn)] below meth c s₁ [] 0 0 := Stand.of_body Bd
  have e0 : s₁.heap = h0 := by rw [← hh, Bd.state]; rfl
  have N0 := Fr.nil n0
  have K0 : Keep h0 h0 [] := Keep.refl _ _
  have P0 : ∀ t, Steps p.tables e below (s₁.setTop (mkF m 0 #[.val (.ref a1), .val (.int (0 : Int32)), .val (.int pn), .unset, .unset, .unset] [])) t → Steps p.tables e below (s₁.setTop (entryFrame m #[(.ref a1), (.int (0 : Int32)), (.int pn)] 6)) t := fun t k => castTop (ef_12 m a1 (0 : Int32) pn) k
  have P1 : ∀ t, Steps p.tables e below (s₁.setTop (mkF m 1 #[.val (.ref a1), .val (.int (0 : Int32)), .val (.int pn), .unset, .unset, .unset] [(.int pn)])) t → Steps p.tables e below (s₁.setTop (entryFrame m #[(.ref a1), (.int (0 : Int32)), (.int pn)] 6)) t := by
    intro t k
    refine P0 _ ?_
    refine XS.iloadN X0.here hx rfl (hb hby d12_0) rfl ?_
    show Steps p.tables e below (s₁.setTop (mkF m 1 #[.val (.ref a1), .val (.int (0 : Int32)), .val (.int pn), .unset, .unset, .unset] [(.int pn)])) _
    exact k
  obtain ⟨T2, h2, k2, X2, e2, E2, A2, B2, st2⟩ := newPE X0 hx hZ (hw _ (List.mem_of_getElem? (i := 25) rfl)) e0 (g := (mkF m 1 #[.val (.ref a1), .val (.int (0 : Int32)), .val (.int pn), .unset, .unset, .unset] [(.int pn)])) rfl (hb hby d12_1) rfl (own_nneg hn) (cap := 4) (by rw [own_nat hn]; exact hn4) (by decide) (by decide) (by decide) (ad := "[B") (by decide)
  obtain ⟨b2, g2⟩ : ∃ z, z = h0.size := ⟨_, rfl⟩
  rw [← g2] at A2 B2 st2
  have F3 : own_Af Z h2 a1 kc .char pn (fun i => Value.int (cf i)) := A_c.ext E2
  obtain ⟨kc_b2, hkc_b2⟩ : ∃ z, z = k2 := ⟨_, rfl⟩
  rw [← hkc_b2] at A2
  have F4 : own_Af Z h2 b2 kc_b2 .byte pn (fun _ => (.int (0 : Int32))) := own_Af.new A2 (own_nneg hn)
  have Z5 : n0 ≤ h2.size := Nat.le_trans Z0 E2.1
  have K6 : Keep h0 h2 [] := K0.ext E2
  have g_b2 : n0 ≤ b2 := Nat.le_trans Z0 (Nat.le_of_eq g2.symm)
  have sz_b2 : h0.size ≤ b2 := Nat.le_trans K0.1 (Nat.le_of_eq g2.symm)
  have ne_a1_b2 : a1 ≠ b2 := Nat.ne_of_lt (Nat.lt_of_lt_of_le A_c.lt (Nat.le_of_eq g2.symm))
  have P7 : ∀ t, Steps p.tables e below (T2.setTop (mkF m 3 #[.val (.ref a1), .val (.int (0 : Int32)), .val (.int pn), .unset, .unset, .unset] [(.ref b2)])) t → Steps p.tables e below (s₁.setTop (entryFrame m #[(.ref a1), (.int (0 : Int32)), (.int pn)] 6)) t := fun t k => P1 _ (st2 _ k)
  have P8 : ∀ t, Steps p.tables e below (T2.setTop (mkF m 9 #[.val (.ref a1), .val (.int (0 : Int32)), .val (.int pn), .val (.ref b2), .unset, .unset] [(.int pn), (.int (0 : Int32)), (.ref b2), (.int (0 : Int32)), (.ref a1)])) t → Steps p.tables e below (s₁.setTop (entryFrame m #[(.ref a1), (.int (0 : Int32)), (.int pn)] 6)) t := by
    intro t k
    refine P7 _ ?_
    refine XS.astoreN X2.here hx rfl (hb hby d12_3) rfl rfl (l' := #[.val (.ref a1), .val (.int (0 : Int32)), .val (.int pn), .val (.ref b2), .unset, .unset]) rfl ?_
    show Steps p.tables e below (T2.setTop (mkF m 4 #[.val (.ref a1), .val (.int (0 : Int32)), .val (.int pn), .val (.ref b2), .unset, .unset] [])) _
    refine XS.aloadN X2.here hx rfl (hb hby d12_4) rfl rfl ?_
    show Steps p.tables e below (T2.setTop (mkF m 5 #[.val (.ref a1), .val (.int (0 : Int32)), .val (.int pn), .val (.ref b2), .unset, .unset] [(.ref a1)])) _
    refine XS.iloadN X2.here hx rfl (hb hby d12_5) rfl ?_
    show Steps p.tables e below (T2.setTop (mkF m 6 #[.val (.ref a1), .val (.int (0 : Int32)), .val (.int pn), .val (.ref b2), .unset, .unset] [(.int (0 : Int32)), (.ref a1)])) _
    refine XS.aloadN X2.here hx rfl (hb hby d12_6) rfl rfl ?_
    show Steps p.tables e below (T2.setTop (mkF m 7 #[.val (.ref a1), .val (.int (0 : Int32)), .val (.int pn), .val (.ref b2), .unset, .unset] [(.ref b2), (.int (0 : Int32)), (.ref a1)])) _
    refine XS.iconst X2.here hx rfl (hb hby d12_7) ?_
    show Steps p.tables e below (T2.setTop (mkF m 8 #[.val (.ref a1), .val (.int (0 : Int32)), .val (.int pn), .val (.ref b2), .unset, .unset] [(.int (0 : Int32)), (.ref b2), (.int (0 : Int32)), (.ref a1)])) _
    refine XS.iloadN X2.here hx rfl (hb hby d12_8) rfl ?_
    show Steps p.tables e below (T2.setTop (mkF m 9 #[.val (.ref a1), .val (.int (0 : Int32)), .val (.int pn), .val (.ref b2), .unset, .unset] [(.int pn), (.int (0 : Int32)), (.ref b2), (.int (0 : Int32)), (.ref a1)])) _
    exact k
  obtain ⟨_, _, ⟨T9, L9, k9, n9⟩, -, X9, ⟨Lc9, hQ9, l9, y9, z9⟩, st9⟩ := Jvm.LawKit.callS X2 hx (y := (⟨"java/lang/StringUTF16", "compress", "([CI[BII)I"⟩ : MethodName)) hown (mvT hZ (hw _ (List.mem_of_getElem? (i := 26) rfl))) (mvT hZ (hw _ (List.mem_of_getElem? (i := 27) rfl))) (mvT hZ (hw _ (List.mem_of_getElem? (i := 23) rfl))) (mvT hZ (hw _ (List.mem_of_getElem? (i := 28) rfl))) (by decide) (backOf (W := 0) (rm11 l Z a0 hw [] a1 b2 pn kc kc_b2 cf (fun _ => (.int (0 : Int32))) n h2 n0 Z5 F3 F4 g_b2 ne_a1_b2 hn (by omega) hcs) hZ (hw _ (List.mem_of_getElem? (i := 28) rfl)) (hw _ (List.mem_of_getElem? (i := 23) rfl)) (by decide) (by decide)) (g := (mkF m 9 #[.val (.ref a1), .val (.int (0 : Int32)), .val (.int pn), .val (.ref b2), .unset, .unset] [(.int pn), (.int (0 : Int32)), (.ref b2), (.int (0 : Int32)), (.ref a1)])) rfl (by rw [hml]; rfl) (argsL := [(.ref a1), (.int (0 : Int32)), (.ref b2), (.int (0 : Int32)), (.int pn)]) (rest := []) (lenOf pd_0 rfl) rfl (by show 2 * 0 + _ ≤ _; exact Nat.le_of_eq rfl) (hb hby d12_9) (fun _ _ => ⟨rfl, e2, (by decide : 1 + 0 ≤ _), (by decide : 4 + 0 ≤ _)⟩)
  dsimp only [Pt.U, Pt.locs, Pt.cells, Pt.slots] at X9 l9 y9 z9 st9 hQ9
  subst l9 y9 z9
  obtain ⟨rfl, N9q, K9, Y9_0, Y9_1⟩ := hQ9
  have F10 : own_Af Z T9.heap a1 kc .char pn (fun i => Value.int (cf i)) := F3.keep K9 (ninS ne_a1_b2 nin0)
  have F11 : Exa Z T9.heap b2 "[B" := B2.keep K9
  have Z12 : n0 ≤ T9.heap.size := Nat.le_trans Z5 K9.1
  have K13 : Keep h0 T9.heap [] := K6.trans K9 (allS (Or.inr sz_b2) all0)
  have N9 := Fr.app N0 N9q
  have P14 : ∀ t, Steps p.tables e below (T9.setTop (mkF m 12 #[.val (.ref a1), .val (.int (0 : Int32)), .val (.int pn), .val (.ref b2), .unset, .unset] [(.int pn)])) t → Steps p.tables e below (s₁.setTop (entryFrame m #[(.ref a1), (.int (0 : Int32)), (.int pn)] 6)) t := fun t k => P8 _ (st9 _ k)
  have P15 : ∀ t, Steps p.tables e below (T9.setTop (mkF m 58 #[.val (.ref a1), .val (.int (0 : Int32)), .val (.int pn), .val (.ref b2), .val (.int pn), .unset] [(.ref b2)])) t → Steps p.tables e below (s₁.setTop (entryFrame m #[(.ref a1), (.int (0 : Int32)), (.int pn)] 6)) t := by
    intro t k
    refine P14 _ ?_
    refine XS.istore X9.here hx rfl (hb hby d12_12) rfl (l' := #[.val (.ref a1), .val (.int (0 : Int32)), .val (.int pn), .val (.ref b2), .val (.int pn), .unset]) rfl ?_
    show Steps p.tables e below (T9.setTop (mkF m 14 #[.val (.ref a1), .val (.int (0 : Int32)), .val (.int pn), .val (.ref b2), .val (.int pn), .unset] [])) _
    refine XS.iload X9.here hx rfl (hb hby d12_14) rfl ?_
    show Steps p.tables e below (T9.setTop (mkF m 16 #[.val (.ref a1), .val (.int (0 : Int32)), .val (.int pn), .val (.ref b2), .val (.int pn), .unset] [(.int pn)])) _
    refine XS.iloadN X9.here hx rfl (hb hby d12_16) rfl ?_
    show Steps p.tables e below (T9.setTop (mkF m 17 #[.val (.ref a1), .val (.int (0 : Int32)), .val (.int pn), .val (.ref b2), .val (.int pn), .unset] [(.int pn), (.int pn)])) _
    refine XS.icmpYes X9.here hx rfl (pc0 := 17) (pc' := 57) rfl (hb hby d12_17) rfl (XT.ii_eq_t rfl) (by decide) (by decide) ?_
    show Steps p.tables e below (T9.setTop (mkF m 57 #[.val (.ref a1), .val (.int (0 : Int32)), .val (.int pn), .val (.ref b2), .val (.int pn), .unset] [])) _
    refine XS.aloadN X9.here hx rfl (hb hby d12_57) rfl rfl ?_
    show Steps p.tables e below (T9.setTop (mkF m 58 #[.val (.ref a1), .val (.int (0 : Int32)), .val (.int pn), .val (.ref b2), .val (.int pn), .unset] [(.ref b2)])) _
    exact k
  obtain ⟨fs, hr, hrun, hended, hW, hsame⟩ := X9.leave (v := some (.ref b2)) (fun h => by rw [Bd.returns] at h; cases h)
  refine ⟨_, _, P15 _ ?_, hrun, hended, _, _, rfl, ?_, ⟨_, rfl⟩, hW, hsame.mono (by decide) (by decide)⟩
  · jvm_step X9.here [X9.here.top, hx, (hb hby d12_58), X9.method', Bd.returns, Value.isRef, FieldType.isReference]
    first | (intro acts; rw [hr _ acts rfl rfl rfl]) | rw [hr _ _ rfl rfl rfl]
    exact Steps.refl _
  · show Q12 Z a1 pn kc cf n h0 n0 _ T9.heap _
    exact ⟨b2, kc_b2, rfl, N9, K13, sz_b2, Y9_1, F11⟩
theorem d13_0 : decode jdk_52_method_15_code 0 = .ok (.iload_n 1, 1) := by decide +kernel
theorem d13_1 : decode jdk_52_method_15_code 1 = .ok (.aload_n 0, 1) := by decide +kernel
theorem d13_2 : decode jdk_52_method_15_code 2 = .ok (.arraylength, 1) := by decide +kernel
theorem d13_3 : decode jdk_52_method_15_code 3 = .ok (.isub, 1) := by decide +kernel
theorem d13_4 : decode jdk_52_method_15_code 4 = .ok (.bipush 31, 2) := by decide +kernel
theorem d13_6 : decode jdk_52_method_15_code 6 = .ok (.iushr, 1) := by decide +kernel
theorem d13_7 : decode jdk_52_method_15_code 7 = .ok (.i2b, 1) := by decide +kernel
theorem d13_8 : decode jdk_52_method_15_code 8 = .ok (.ireturn, 1) := by decide +kernel
theorem pn_13 : plainName "java/lang/StringUTF16" = true := by first | (simp [plainName, overriddenIn]; done) | decide +kernel
theorem ef_13 (m : MethodId) (x0 : Addr) (x1 : Int32) : entryFrame m #[(.ref x0), (.int x1)] 2 = mkF m 0 #[.val (.ref x0), .val (.int x1)] [] := by first | (simp [entryFrame, mkF, argsToLocals, Value.category]; done) | rfl
def Q13 (Z : State) (a1 : Addr) (pn : Int32) (kb : ClassId) (f1 : Nat → Value) (h0 : Heap) (n0 : Nat) (v : Option Value) (h : Heap) (L : List Loc) : Prop := v = some (.int (0 : Int32)) ∧ Fr n0 L ∧ h = h0
set_option maxRecDepth 65536 in
set_option maxHeartbeats 40000000 in
theorem rm13 (l : Launch) (Z : State) (a0 : Array Value) (hw : ∀ d ∈ tables_1, d.before a0 Z = true) (ws : List Jvm.Cond) (a1 : Addr) (pn : Int32) (kb : ClassId) (f1 : Nat → Value) (h0 : Heap) (n0 : Nat) (Z0 : n0 ≤ h0.size) (A_b : own_Af Z h0 a1 kb .byte pn f1) :
    MetFree l (⟨"java/lang/StringUTF16", "coderFromArrayLen", "([BI)B"⟩ : MethodName) (head1 (Jvm.Cond.code (⟨"java/lang/StringUTF16", "coderFromArrayLen", "([BI)B"⟩ : MethodName) jdk_52_method_15_code 2 (some .byte) :: ws) ({ frames := 0, cells := 0, slots := 0, locals := 0 } : Room)) (fun a U => a = #[(.ref a1), (.int pn)] ∧ Z.Warmed39 U.vm ∧ U.heap = h0) (fun _ _ _ _ _ => True) (fun _ U o U' => ∃ v L, o = .returned v ∧ Q13 Z a1 pn kb f1 h0 n0 v U'.heap L ∧ FrameEnd U o U' L ({ frames := 0, cells := 0, slots := 0, locals := 0 } : Room).cells ({ frames := 0, cells := 0, slots := 0, locals := 0 } : Room).slots) := by
  refine MetFree.of_bodySF (plainFor_of_name pn_13) hisR ?_
  intro p e s m args below meth c s₁ Bd hml0 hP hK
  obtain ⟨rfl, hZ, hh⟩ := hP
  have hx := Bd.exec
  have hby := Bd.bytes
  have hml : c.maxLocals = 2 := hml0
  have hown : s.vm.findClass "java/lang/StringUTF16" = some m.cls := findClass_of_methodNamed Bd.named
  have hnm := (name_of_methodNamed Bd.named Bd.method).1
  have X0 : Stand p l e ({ frames := 0, cells := 0, slots := 0, locals := 0 } : Room) s m #[(.ref a1), (.int pn)] below meth c s₁ [] 0 0 := Stand.of_body Bd
  have e0 : s₁.heap = h0 := by rw [← hh, Bd.state]; rfl
  have N0 := Fr.nil n0
  have K0 : Keep h0 h0 [] := Keep.refl _ _
  have P0 : ∀ t, Steps p.tables e below (s₁.setTop (mkF m 0 #[.val (.ref a1), .val (.int pn)] [])) t → Steps p.tables e below (s₁.setTop (entryFrame m #[(.ref a1), (.int pn)] 2)) t := fun t k => castTop (ef_13 m a1 pn) k
  have P1 : ∀ t, Steps p.tables e below (s₁.setTop (mkF m 8 #[.val (.ref a1), .val (.int pn)] [(.int ((XT.ushr (pn - pn) (31 : Int32)).toInt8.toInt32))])) t → Steps p.tables e below (s₁.setTop (entryFrame m #[(.ref a1), (.int pn)] 2)) t := by
    intro t k
    refine P0 _ ?_
    refine XS.iloadN X0.here hx rfl (hb hby d13_0) rfl ?_
    show Steps p.tables e below (s₁.setTop (mkF m 1 #[.val (.ref a1), .val (.int pn)] [(.int pn)])) _
    refine XS.aloadN X0.here hx rfl (hb hby d13_1) rfl rfl ?_
    show Steps p.tables e below (s₁.setTop (mkF m 2 #[.val (.ref a1), .val (.int pn)] [(.ref a1), (.int pn)])) _
    refine own_flen X0 hx hZ e0 A_b rfl rfl (hb hby d13_2) ?_
    show Steps p.tables e below (s₁.setTop (mkF m 3 #[.val (.ref a1), .val (.int pn)] [(.int pn), (.int pn)])) _
    refine XS.isub X0.here hx rfl (hb hby d13_3) rfl ?_
    show Steps p.tables e below (s₁.setTop (mkF m 4 #[.val (.ref a1), .val (.int pn)] [(.int (pn - pn))])) _
    refine XS.bipush X0.here hx rfl (hb hby d13_4) ?_
    show Steps p.tables e below (s₁.setTop (mkF m 6 #[.val (.ref a1), .val (.int pn)] [(.int (31 : Int32)), (.int (pn - pn))])) _
    refine XT.iushr X0.here hx rfl (hb hby d13_6) rfl ?_
    show Steps p.tables e below (s₁.setTop (mkF m 7 #[.val (.ref a1), .val (.int pn)] [(.int (XT.ushr (pn - pn) (31 : Int32)))])) _
    refine XT.i2b X0.here hx rfl (hb hby d13_7) rfl ?_
    show Steps p.tables e below (s₁.setTop (mkF m 8 #[.val (.ref a1), .val (.int pn)] [(.int ((XT.ushr (pn - pn) (31 : Int32)).toInt8.toInt32))])) _
    exact k
  obtain ⟨fs, hr, hrun, hended, hW, hsame⟩ := X0.leave (v := some (.int (nar .byte ((XT.ushr (pn - pn) (31 : Int32)).toInt8.toInt32)))) (fun h => by rw [Bd.returns] at h; cases h)
  refine ⟨_, _, P1 _ ?_, hrun, hended, _, _, rfl, ?_, ⟨_, rfl⟩, hW, hsame.mono (by decide) (by decide)⟩
  · exact retN X0 hx (t := .byte) Bd.returns (by simp) (hb hby d13_8) hr
  · show Q13 Z a1 pn kb f1 h0 n0 _ s₁.heap _
    rw [e0]
    exact ⟨(own_coder pn), N0, rfl⟩
theorem d14_0 : decode jdk_42_method_149_code 0 = .ok (.aload_n 0, 1) := by decide +kernel
theorem d14_1 : decode jdk_42_method_149_code 1 = .ok (.invokespecial 1, 3) := by decide +kernel
theorem d14_4 : decode jdk_42_method_149_code 4 = .ok (.iload_n 3, 1) := by decide +kernel
theorem d14_5 : decode jdk_42_method_149_code 5 = .ok (.ifCond .ne 22, 3) := by decide +kernel
theorem d14_27 : decode jdk_42_method_149_code 27 = .ok (.getstatic 38, 3) := by decide +kernel
theorem d14_30 : decode jdk_42_method_149_code 30 = .ok (.ifCond .eq 28, 3) := by decide +kernel
theorem d14_33 : decode jdk_42_method_149_code 33 = .ok (.aload_n 1, 1) := by decide +kernel
theorem d14_34 : decode jdk_42_method_149_code 34 = .ok (.iload_n 2, 1) := by decide +kernel
theorem d14_35 : decode jdk_42_method_149_code 35 = .ok (.iload_n 3, 1) := by decide +kernel
theorem d14_36 : decode jdk_42_method_149_code 36 = .ok (.invokestatic 177, 3) := by decide +kernel
theorem d14_39 : decode jdk_42_method_149_code 39 = .ok (.astore 5, 2) := by decide +kernel
theorem d14_41 : decode jdk_42_method_149_code 41 = .ok (.aload_n 0, 1) := by decide +kernel
theorem d14_42 : decode jdk_42_method_149_code 42 = .ok (.aload 5, 2) := by decide +kernel
theorem d14_44 : decode jdk_42_method_149_code 44 = .ok (.iload_n 3, 1) := by decide +kernel
theorem d14_45 : decode jdk_42_method_149_code 45 = .ok (.invokestatic 47, 3) := by decide +kernel
theorem d14_48 : decode jdk_42_method_149_code 48 = .ok (.putfield 15, 3) := by decide +kernel
theorem d14_51 : decode jdk_42_method_149_code 51 = .ok (.aload_n 0, 1) := by decide +kernel
theorem d14_52 : decode jdk_42_method_149_code 52 = .ok (.aload 5, 2) := by decide +kernel
theorem d14_54 : decode jdk_42_method_149_code 54 = .ok (.putfield 9, 3) := by decide +kernel
theorem d14_57 : decode jdk_42_method_149_code 57 = .ok (.return_, 1) := by decide +kernel
theorem pn_14 : plainName "java/lang/String" = true := by first | (simp [plainName, overriddenIn]; done) | decide +kernel
theorem ef_14 (m : MethodId) (x0 : Addr) (x1 : Addr) (x2 : Int32) (x3 : Int32) : entryFrame m #[(.ref x0), (.ref x1), (.int x2), (.int x3), .null] 6 = mkF m 0 #[.val (.ref x0), .val (.ref x1), .val (.int x2), .val (.int x3), .val .null, .unset] [] := by first | (simp [entryFrame, mkF, argsToLocals, Value.category]; done) | rfl
def Q14 (Z : State) (a1 : Addr) (a2 : Addr) (pn : Int32) (kc : ClassId) (u1 : Value) (u2 : Value) (ccs : Int32) (cf : Nat → Int32) (n : Nat) (h0 : Heap) (n0 : Nat) (v : Option Value) (h : Heap) (L : List Loc) : Prop := ∃ (b : Addr) (kb : ClassId), v = none ∧ Fr n0 L ∧ Keep h0 h [a1] ∧ h0.size ≤ b ∧ Exa Z h a1 "java/lang/String" ∧ Fld Z h a1 "java/lang/String" "value" "[B" (.ref b) ∧ Fld Z h a1 "java/lang/String" "coder" "B" (.int (0 : Int32)) ∧ own_Af Z h b kb .byte pn (fun i => Value.int (cf i)) ∧ Exa Z h b "[B"
set_option maxRecDepth 65536 in
set_option maxHeartbeats 40000000 in
theorem rm14 (l : Launch) (Z : State) (a0 : Array Value) (hw : ∀ d ∈ tables_1, d.before a0 Z = true) (ws : List Jvm.Cond) (a1 : Addr) (a2 : Addr) (pn : Int32) (kc : ClassId) (u1 : Value) (u2 : Value) (ccs : Int32) (cf : Nat → Int32) (n : Nat) (h0 : Heap) (n0 : Nat) (Z0 : n0 ≤ h0.size) (E_a : Exa Z h0 a1 "java/lang/String") (F_v : Fld Z h0 a1 "java/lang/String" "value" "[B" u1) (F_k : Fld Z h0 a1 "java/lang/String" "coder" "B" u2) (g_a : n0 ≤ a1) (A_c : own_Af Z h0 a2 kc .char pn (fun i => Value.int (cf i))) (S_cs : Sta Z h0 "java/lang/String" "COMPACT_STRINGS" "Z" (.int ccs)) (hcc : ¬ ccs = (0 : Int32)) (hn : pn.toInt = n) (hn4 : n ≤ 4) (hn1 : 1 ≤ n) (hcs : own_cs pn cf) :
    MetFree l (⟨"java/lang/String", "<init>", "([CIILjava/lang/Void;)V"⟩ : MethodName) (head1 (Jvm.Cond.code (⟨"java/lang/String", "<init>", "([CIILjava/lang/Void;)V"⟩ : MethodName) jdk_42_method_149_code 6 none :: ws) ({ frames := 2, cells := 1, slots := 4, locals := 35 } : Room)) (fun a U => a = #[(.ref a1), (.ref a2), (.int (0 : Int32)), (.int pn), .null] ∧ Z.Warmed39 U.vm ∧ U.heap = h0) (fun _ _ _ _ _ => True) (fun _ U o U' => ∃ v L, o = .returned v ∧ Q14 Z a1 a2 pn kc u1 u2 ccs cf n h0 n0 v U'.heap L ∧ FrameEnd U o U' L ({ frames := 2, cells := 1, slots := 4, locals := 35 } : Room).cells ({ frames := 2, cells := 1, slots := 4, locals := 35 } : Room).slots) := by
  refine MetFree.of_bodySF (plainFor_of_name pn_14) hisR ?_
  intro p e s m args below meth c s₁ Bd hml0 hP hK
  obtain ⟨rfl, hZ, hh⟩ := hP
  have hx := Bd.exec
  have hby := Bd.bytes
  have hml : c.maxLocals = 6 := hml0
  have hown : s.vm.findClass "java/lang/String" = some m.cls := findClass_of_methodNamed Bd.named
  have hnm := (name_of_methodNamed Bd.named Bd.method).1
  have X0 : Stand p l e ({ frames := 2, cells := 1, slots := 4, locals := 35 } : Room) s m #[(.ref a1), (.ref a2), (.int (0 : Int32)), (.int pn), .null] below meth c s₁ [] 0 0 := Stand.of_body Bd
  have e0 : s₁.heap = h0 := by rw [← hh, Bd.state]; rfl
  have N0 := Fr.nil n0
  have K0 : Keep h0 h0 [a1] := Keep.refl _ _
  have P0 : ∀ t, Steps p.tables e below (s₁.setTop (mkF m 0 #[.val (.ref a1), .val (.ref a2), .val (.int (0 : Int32)), .val (.int pn), .val .null, .unset] [])) t → Steps p.tables e below (s₁.setTop (entryFrame m #[(.ref a1), (.ref a2), (.int (0 : Int32)), (.int pn), .null] 6)) t := fun t k => castTop (ef_14 m a1 a2 (0 : Int32) pn) k
  have P1 : ∀ t, Steps p.tables e below (s₁.setTop (mkF m 1 #[.val (.ref a1), .val (.ref a2), .val (.int (0 : Int32)), .val (.int pn), .val .null, .unset] [(.ref a1)])) t → Steps p.tables e below (s₁.setTop (entryFrame m #[(.ref a1), (.ref a2), (.int (0 : Int32)), (.int pn), .null] 6)) t := by
    intro t k
    refine P0 _ ?_
    refine XS.aloadN X0.here hx rfl (hb hby d14_0) rfl rfl ?_
    show Steps p.tables e below (s₁.setTop (mkF m 1 #[.val (.ref a1), .val (.ref a2), .val (.int (0 : Int32)), .val (.int pn), .val .null, .unset] [(.ref a1)])) _
    exact k
  obtain ⟨T2, X2, e2, st2⟩ := initO X0 hx hZ hown (hw _ (List.mem_of_getElem? (i := 17) rfl)) (hw _ (List.mem_of_getElem? (i := 18) rfl)) (hw _ (List.mem_of_getElem? (i := 19) rfl)) e0 (g := (mkF m 1 #[.val (.ref a1), .val (.ref a2), .val (.int (0 : Int32)), .val (.int pn), .val .null, .unset] [(.ref a1)])) rfl (by rw [hml]; rfl) rfl (hb hby d14_1) (by decide) (W := 0) (by show 2 * 0 + _ ≤ _; exact Nat.le_of_eq rfl) (by decide)
  have P3 : ∀ t, Steps p.tables e below (T2.setTop (mkF m 4 #[.val (.ref a1), .val (.ref a2), .val (.int (0 : Int32)), .val (.int pn), .val .null, .unset] [])) t → Steps p.tables e below (s₁.setTop (entryFrame m #[(.ref a1), (.ref a2), (.int (0 : Int32)), (.int pn), .null] 6)) t := fun t k => P1 _ (st2 _ k)
  have P4 : ∀ t, Steps p.tables e below (T2.setTop (mkF m 27 #[.val (.ref a1), .val (.ref a2), .val (.int (0 : Int32)), .val (.int pn), .val .null, .unset] [])) t → Steps p.tables e below (s₁.setTop (entryFrame m #[(.ref a1), (.ref a2), (.int (0 : Int32)), (.int pn), .null] 6)) t := by
    intro t k
    refine P3 _ ?_
    refine XS.iloadN X2.here hx rfl (hb hby d14_4) rfl ?_
    show Steps p.tables e below (T2.setTop (mkF m 5 #[.val (.ref a1), .val (.ref a2), .val (.int (0 : Int32)), .val (.int pn), .val .null, .unset] [(.int pn)])) _
    refine XS.ifYes X2.here hx rfl (pc0 := 5) (pc' := 27) rfl (hb hby d14_5) rfl (XT.i0_ne_t (own_np hn hn1)) (by decide) (by decide) ?_
    show Steps p.tables e below (T2.setTop (mkF m 27 #[.val (.ref a1), .val (.ref a2), .val (.int (0 : Int32)), .val (.int pn), .val .null, .unset] [])) _
    exact k
  obtain ⟨T5, X5, e5, st5⟩ := getS2 X2 hx hZ hown (host := "") (Or.inl (hw _ (List.mem_of_getElem? (i := 20) rfl))) Via.refl e2 S_cs (g := (mkF m 27 #[.val (.ref a1), .val (.ref a2), .val (.int (0 : Int32)), .val (.int pn), .val .null, .unset] [])) rfl (hb hby d14_27)
  have P6 : ∀ t, Steps p.tables e below (T5.setTop (mkF m 30 #[.val (.ref a1), .val (.ref a2), .val (.int (0 : Int32)), .val (.int pn), .val .null, .unset] [(.int ccs)])) t → Steps p.tables e below (s₁.setTop (entryFrame m #[(.ref a1), (.ref a2), (.int (0 : Int32)), (.int pn), .null] 6)) t := fun t k => P4 _ (st5 _ k)
  have P7 : ∀ t, Steps p.tables e below (T5.setTop (mkF m 36 #[.val (.ref a1), .val (.ref a2), .val (.int (0 : Int32)), .val (.int pn), .val .null, .unset] [(.int pn), (.int (0 : Int32)), (.ref a2)])) t → Steps p.tables e below (s₁.setTop (entryFrame m #[(.ref a1), (.ref a2), (.int (0 : Int32)), (.int pn), .null] 6)) t := by
    intro t k
    refine P6 _ ?_
    refine XS.ifNo X5.here hx rfl (hb hby d14_30) rfl (XT.i0_eq_f hcc) ?_
    show Steps p.tables e below (T5.setTop (mkF m 33 #[.val (.ref a1), .val (.ref a2), .val (.int (0 : Int32)), .val (.int pn), .val .null, .unset] [])) _
    refine XS.aloadN X5.here hx rfl (hb hby d14_33) rfl rfl ?_
    show Steps p.tables e below (T5.setTop (mkF m 34 #[.val (.ref a1), .val (.ref a2), .val (.int (0 : Int32)), .val (.int pn), .val .null, .unset] [(.ref a2)])) _
    refine XS.iloadN X5.here hx rfl (hb hby d14_34) rfl ?_
    show Steps p.tables e below (T5.setTop (mkF m 35 #[.val (.ref a1), .val (.ref a2), .val (.int (0 : Int32)), .val (.int pn), .val .null, .unset] [(.int (0 : Int32)), (.ref a2)])) _
    refine XS.iloadN X5.here hx rfl (hb hby d14_35) rfl ?_
    show Steps p.tables e below (T5.setTop (mkF m 36 #[.val (.ref a1), .val (.ref a2), .val (.int (0 : Int32)), .val (.int pn), .val .null, .unset] [(.int pn), (.int (0 : Int32)), (.ref a2)])) _
    exact k
  obtain ⟨_, _, ⟨T8, L8, k8, n8⟩, -, X8, ⟨Lc8, hQ8, l8, y8, z8⟩, st8⟩ := Jvm.LawKit.callS X5 hx (y := (⟨"java/lang/StringUTF16", "compress", "([CII)[B"⟩ : MethodName)) hown (mvT hZ (hw _ (List.mem_of_getElem? (i := 21) rfl))) (mvT hZ (hw _ (List.mem_of_getElem? (i := 22) rfl))) (mvT hZ (hw _ (List.mem_of_getElem? (i := 23) rfl))) (mvT hZ (hw _ (List.mem_of_getElem? (i := 24) rfl))) (by decide) (backOf (W := 0) (rm12 l Z a0 hw [] a2 pn kc cf n h0 n0 Z0 A_c hn hn4 hcs) hZ (hw _ (List.mem_of_getElem? (i := 24) rfl)) (hw _ (List.mem_of_getElem? (i := 23) rfl)) (by decide) (by decide)) (g := (mkF m 36 #[.val (.ref a1), .val (.ref a2), .val (.int (0 : Int32)), .val (.int pn), .val .null, .unset] [(.int pn), (.int (0 : Int32)), (.ref a2)])) rfl (by rw [hml]; rfl) (argsL := [(.ref a2), (.int (0 : Int32)), (.int pn)]) (rest := []) (lenOf pd_1 rfl) rfl (by show 2 * 0 + _ ≤ _; exact Nat.le_of_eq rfl) (hb hby d14_36) (fun _ _ => ⟨rfl, e5, (by decide : 0 + 1 ≤ _), (by decide : 0 + 4 ≤ _)⟩)
  dsimp only [Pt.U, Pt.locs, Pt.cells, Pt.slots] at X8 l8 y8 z8 st8 hQ8
  subst l8 y8 z8
  obtain ⟨b_8, kb_8, rfl, N8q, K8, s8_b, Y8_0, Y8_1⟩ := hQ8
  have F9 : Exa Z T8.heap a1 "java/lang/String" := E_a.keep K8
  have F10 : Fld Z T8.heap a1 "java/lang/String" "value" "[B" u1 := F_v.keep K8 nin0
  have F11 : Fld Z T8.heap a1 "java/lang/String" "coder" "B" u2 := F_k.keep K8 nin0
  have F12 : own_Af Z T8.heap a2 kc .char pn (fun i => Value.int (cf i)) := A_c.keep K8 nin0
  have Z13 : n0 ≤ T8.heap.size := Nat.le_trans Z0 K8.1
  have K14 : Keep h0 T8.heap [a1] := K0.trans K8 all0
  have g_b_8 : n0 ≤ b_8 := Nat.le_trans Z0 s8_b
  have sz_b_8 : h0.size ≤ b_8 := Nat.le_trans K0.1 s8_b
  have ne_a1_b_8 : a1 ≠ b_8 := Nat.ne_of_lt (Nat.lt_of_lt_of_le E_a.lt s8_b)
  have ne_a2_b_8 : a2 ≠ b_8 := Nat.ne_of_lt (Nat.lt_of_lt_of_le A_c.lt s8_b)
  have N8 := Fr.app N0 N8q
  have P15 : ∀ t, Steps p.tables e below (T8.setTop (mkF m 39 #[.val (.ref a1), .val (.ref a2), .val (.int (0 : Int32)), .val (.int pn), .val .null, .unset] [(.ref b_8)])) t → Steps p.tables e below (s₁.setTop (entryFrame m #[(.ref a1), (.ref a2), (.int (0 : Int32)), (.int pn), .null] 6)) t := fun t k => P7 _ (st8 _ k)
  have P16 : ∀ t, Steps p.tables e below (T8.setTop (mkF m 45 #[.val (.ref a1), .val (.ref a2), .val (.int (0 : Int32)), .val (.int pn), .val .null, .val (.ref b_8)] [(.int pn), (.ref b_8), (.ref a1)])) t → Steps p.tables e below (s₁.setTop (entryFrame m #[(.ref a1), (.ref a2), (.int (0 : Int32)), (.int pn), .null] 6)) t := by
    intro t k
    refine P15 _ ?_
    refine XS.astore X8.here hx rfl (hb hby d14_39) rfl rfl (l' := #[.val (.ref a1), .val (.ref a2), .val (.int (0 : Int32)), .val (.int pn), .val .null, .val (.ref b_8)]) rfl ?_
    show Steps p.tables e below (T8.setTop (mkF m 41 #[.val (.ref a1), .val (.ref a2), .val (.int (0 : Int32)), .val (.int pn), .val .null, .val (.ref b_8)] [])) _
    refine XS.aloadN X8.here hx rfl (hb hby d14_41) rfl rfl ?_
    show Steps p.tables e below (T8.setTop (mkF m 42 #[.val (.ref a1), .val (.ref a2), .val (.int (0 : Int32)), .val (.int pn), .val .null, .val (.ref b_8)] [(.ref a1)])) _
    refine XS.aload X8.here hx rfl (hb hby d14_42) rfl rfl ?_
    show Steps p.tables e below (T8.setTop (mkF m 44 #[.val (.ref a1), .val (.ref a2), .val (.int (0 : Int32)), .val (.int pn), .val .null, .val (.ref b_8)] [(.ref b_8), (.ref a1)])) _
    refine XS.iloadN X8.here hx rfl (hb hby d14_44) rfl ?_
    show Steps p.tables e below (T8.setTop (mkF m 45 #[.val (.ref a1), .val (.ref a2), .val (.int (0 : Int32)), .val (.int pn), .val .null, .val (.ref b_8)] [(.int pn), (.ref b_8), (.ref a1)])) _
    exact k
  obtain ⟨_, _, ⟨T17, L17, k17, n17⟩, -, X17, ⟨Lc17, hQ17, l17, y17, z17⟩, st17⟩ := Jvm.LawKit.callS X8 hx (y := (⟨"java/lang/StringUTF16", "coderFromArrayLen", "([BI)B"⟩ : MethodName)) hown (mvT hZ (hw _ (List.mem_of_getElem? (i := 29) rfl))) (mvT hZ (hw _ (List.mem_of_getElem? (i := 30) rfl))) (mvT hZ (hw _ (List.mem_of_getElem? (i := 23) rfl))) (mvT hZ (hw _ (List.mem_of_getElem? (i := 31) rfl))) (by decide) (backOf (W := 1) (rm13 l Z a0 hw [] b_8 pn kb_8 (fun i => Value.int (cf i)) T8.heap n0 Z13 Y8_0) hZ (hw _ (List.mem_of_getElem? (i := 31) rfl)) (hw _ (List.mem_of_getElem? (i := 23) rfl)) (by decide) (by decide)) (g := (mkF m 45 #[.val (.ref a1), .val (.ref a2), .val (.int (0 : Int32)), .val (.int pn), .val .null, .val (.ref b_8)] [(.int pn), (.ref b_8), (.ref a1)])) rfl (by rw [hml]; rfl) (argsL := [(.ref b_8), (.int pn)]) (rest := [(.ref a1)]) (lenOf pd_2 rfl) rfl (by show 2 * 0 + _ ≤ _; exact Nat.le_of_eq rfl) (hb hby d14_45) (fun _ _ => ⟨rfl, rfl, (by decide : 1 + 0 ≤ _), (by decide : 4 + 0 ≤ _)⟩)
  dsimp only [Pt.U, Pt.locs, Pt.cells, Pt.slots] at X17 l17 y17 z17 st17 hQ17
  subst l17 y17 z17
  obtain ⟨rfl, N17q, e17⟩ := hQ17
  have N17 := Fr.app N8 N17q
  have P18 : ∀ t, Steps p.tables e below (T17.setTop (mkF m 48 #[.val (.ref a1), .val (.ref a2), .val (.int (0 : Int32)), .val (.int pn), .val .null, .val (.ref b_8)] [(.int (0 : Int32)), (.ref a1)])) t → Steps p.tables e below (s₁.setTop (entryFrame m #[(.ref a1), (.ref a2), (.int (0 : Int32)), (.int pn), .null] 6)) t := fun t k => P16 _ (st17 _ k)
  obtain ⟨T19, h19, X19, e19, W19, st19⟩ := putFN X17 hx hZ hown (hw _ (List.mem_of_getElem? (i := 32) rfl)) Via.refl e17 F11 F9 (Or.inr ⟨(hw _ (List.mem_of_getElem? (i := 33) rfl)), rfl, hnm⟩) (hw _ (List.mem_of_getElem? (i := 8) rfl)) (ty := .byte) (v' := (.int (0 : Int32))) (by decide) rfl rfl (g := (mkF m 48 #[.val (.ref a1), .val (.ref a2), .val (.int (0 : Int32)), .val (.int pn), .val .null, .val (.ref b_8)] [(.int (0 : Int32)), (.ref a1)])) rfl rfl (hb hby d14_48)
  have F20 : Exa Z h19 a1 "java/lang/String" := F9.wr W19
  have F21 : Fld Z h19 a1 "java/lang/String" "value" "[B" u1 := F10.other W19 (Or.inr (slot_ne (Or.inr (hw _ (List.mem_of_getElem? (i := 35) rfl))) (Or.inr (hw _ (List.mem_of_getElem? (i := 33) rfl))) (by decide) (t := (.array .byte)) (t' := .byte) (by decide) (by decide)))
  have F22 : own_Af Z h19 b_8 kb_8 .byte pn (fun i => Value.int (cf i)) := Y8_0.other W19 (Ne.symm ne_a1_b_8)
  have F23 : Exa Z h19 b_8 "[B" := Y8_1.wr W19
  have F24 : Fld Z h19 a1 "java/lang/String" "coder" "B" (.int (0 : Int32)) := F11.same W19
  have Z25 : n0 ≤ h19.size := Nat.le_trans Z13 (Keep.of_wr W19).1
  have K26 : Keep h0 h19 [a1] := K14.wr W19 (Or.inl (List.mem_of_getElem? (i := 0) rfl))
  have N19 := Fr.snoc X19 N17 g_a
  have P27 : ∀ t, Steps p.tables e below (T19.setTop (mkF m 51 #[.val (.ref a1), .val (.ref a2), .val (.int (0 : Int32)), .val (.int pn), .val .null, .val (.ref b_8)] [])) t → Steps p.tables e below (s₁.setTop (entryFrame m #[(.ref a1), (.ref a2), (.int (0 : Int32)), (.int pn), .null] 6)) t := fun t k => P18 _ (st19 _ k)
  have P28 : ∀ t, Steps p.tables e below (T19.setTop (mkF m 54 #[.val (.ref a1), .val (.ref a2), .val (.int (0 : Int32)), .val (.int pn), .val .null, .val (.ref b_8)] [(.ref b_8), (.ref a1)])) t → Steps p.tables e below (s₁.setTop (entryFrame m #[(.ref a1), (.ref a2), (.int (0 : Int32)), (.int pn), .null] 6)) t := by
    intro t k
    refine P27 _ ?_
    refine XS.aloadN X19.here hx rfl (hb hby d14_51) rfl rfl ?_
    show Steps p.tables e below (T19.setTop (mkF m 52 #[.val (.ref a1), .val (.ref a2), .val (.int (0 : Int32)), .val (.int pn), .val .null, .val (.ref b_8)] [(.ref a1)])) _
    refine XS.aload X19.here hx rfl (hb hby d14_52) rfl rfl ?_
    show Steps p.tables e below (T19.setTop (mkF m 54 #[.val (.ref a1), .val (.ref a2), .val (.int (0 : Int32)), .val (.int pn), .val .null, .val (.ref b_8)] [(.ref b_8), (.ref a1)])) _
    exact k
  obtain ⟨T29, h29, X29, e29, W29, st29⟩ := putF X19 hx hZ hown (host := "") (Or.inl (hw _ (List.mem_of_getElem? (i := 34) rfl))) Via.refl e19 F21 F20 (Or.inr ⟨(hw _ (List.mem_of_getElem? (i := 35) rfl)), rfl, hnm⟩) (hw _ (List.mem_of_getElem? (i := 8) rfl)) (ty := (.array .byte)) (by decide) rfl rfl (g := (mkF m 54 #[.val (.ref a1), .val (.ref a2), .val (.int (0 : Int32)), .val (.int pn), .val .null, .val (.ref b_8)] [(.ref b_8), (.ref a1)])) rfl rfl (hb hby d14_54)
  have F30 : Exa Z h29 a1 "java/lang/String" := F20.wr W29
  have F31 : own_Af Z h29 b_8 kb_8 .byte pn (fun i => Value.int (cf i)) := F22.other W29 (Ne.symm ne_a1_b_8)
  have F32 : Exa Z h29 b_8 "[B" := F23.wr W29
  have F33 : Fld Z h29 a1 "java/lang/String" "coder" "B" (.int (0 : Int32)) := F24.other W29 (Or.inr (slot_ne (Or.inr (hw _ (List.mem_of_getElem? (i := 33) rfl))) (Or.inr (hw _ (List.mem_of_getElem? (i := 35) rfl))) (by decide) (t := .byte) (t' := (.array .byte)) (by decide) (by decide)))
  have F34 : Fld Z h29 a1 "java/lang/String" "value" "[B" (.ref b_8) := F21.same W29
  have Z35 : n0 ≤ h29.size := Nat.le_trans Z25 (Keep.of_wr W29).1
  have K36 : Keep h0 h29 [a1] := K26.wr W29 (Or.inl (List.mem_of_getElem? (i := 0) rfl))
  have N29 := Fr.snoc X29 N19 g_a
  have P37 : ∀ t, Steps p.tables e below (T29.setTop (mkF m 57 #[.val (.ref a1), .val (.ref a2), .val (.int (0 : Int32)), .val (.int pn), .val .null, .val (.ref b_8)] [])) t → Steps p.tables e below (s₁.setTop (entryFrame m #[(.ref a1), (.ref a2), (.int (0 : Int32)), (.int pn), .null] 6)) t := fun t k => P28 _ (st29 _ k)
  obtain ⟨fs, hr, hrun, hended, hW, hsame⟩ := X29.leave (v := none) (fun _ => rfl)
  refine ⟨_, _, P37 _ ?_, hrun, hended, _, _, rfl, ?_, ⟨_, rfl⟩, hW, hsame.mono (by decide) (by decide)⟩
  · exact X29.returnOut hx Bd.returns (hb hby d14_57) hr
  · show Q14 Z a1 a2 pn kc u1 u2 ccs cf n h0 n0 _ T29.heap _
    rw [e29]
    exact ⟨b_8, kb_8, rfl, N29, K36, sz_b_8, F30, F34, F33, F31, F32⟩
theorem d15_0 : decode jdk_42_method_3_code 0 = .ok (.aload_n 0, 1) := by decide +kernel
theorem d15_1 : decode jdk_42_method_3_code 1 = .ok (.aload_n 1, 1) := by decide +kernel
theorem d15_2 : decode jdk_42_method_3_code 2 = .ok (.iconst 0, 1) := by decide +kernel
theorem d15_3 : decode jdk_42_method_3_code 3 = .ok (.aload_n 1, 1) := by decide +kernel
theorem d15_4 : decode jdk_42_method_3_code 4 = .ok (.arraylength, 1) := by decide +kernel
theorem d15_5 : decode jdk_42_method_3_code 5 = .ok (.aconst_null, 1) := by decide +kernel
theorem d15_6 : decode jdk_42_method_3_code 6 = .ok (.invokespecial 27, 3) := by decide +kernel
theorem d15_9 : decode jdk_42_method_3_code 9 = .ok (.return_, 1) := by decide +kernel
theorem pn_15 : plainName "java/lang/String" = true := by first | (simp [plainName, overriddenIn]; done) | decide +kernel
theorem ef_15 (m : MethodId) (x0 : Addr) (x1 : Addr) : entryFrame m #[(.ref x0), (.ref x1)] 2 = mkF m 0 #[.val (.ref x0), .val (.ref x1)] [] := by first | (simp [entryFrame, mkF, argsToLocals, Value.category]; done) | rfl
def Q15 (Z : State) (a1 : Addr) (a2 : Addr) (pn : Int32) (kc : ClassId) (u1 : Value) (u2 : Value) (ccs : Int32) (cf : Nat → Int32) (n : Nat) (h0 : Heap) (n0 : Nat) (v : Option Value) (h : Heap) (L : List Loc) : Prop := ∃ (b : Addr) (kb : ClassId), v = none ∧ Fr n0 L ∧ Keep h0 h [a1] ∧ h0.size ≤ b ∧ Exa Z h a1 "java/lang/String" ∧ Fld Z h a1 "java/lang/String" "value" "[B" (.ref b) ∧ Fld Z h a1 "java/lang/String" "coder" "B" (.int (0 : Int32)) ∧ own_Af Z h b kb .byte pn (fun i => Value.int (cf i)) ∧ Exa Z h b "[B"
set_option maxRecDepth 65536 in
set_option maxHeartbeats 40000000 in
theorem rm15 (l : Launch) (Z : State) (a0 : Array Value) (hw : ∀ d ∈ tables_1, d.before a0 Z = true) (ws : List Jvm.Cond) (a1 : Addr) (a2 : Addr) (pn : Int32) (kc : ClassId) (u1 : Value) (u2 : Value) (ccs : Int32) (cf : Nat → Int32) (n : Nat) (h0 : Heap) (n0 : Nat) (Z0 : n0 ≤ h0.size) (E_a : Exa Z h0 a1 "java/lang/String") (F_v : Fld Z h0 a1 "java/lang/String" "value" "[B" u1) (F_k : Fld Z h0 a1 "java/lang/String" "coder" "B" u2) (g_a : n0 ≤ a1) (A_c : own_Af Z h0 a2 kc .char pn (fun i => Value.int (cf i))) (S_cs : Sta Z h0 "java/lang/String" "COMPACT_STRINGS" "Z" (.int ccs)) (hcc : ¬ ccs = (0 : Int32)) (hn : pn.toInt = n) (hn4 : n ≤ 4) (hn1 : 1 ≤ n) (hcs : own_cs pn cf) :
    MetFree l (⟨"java/lang/String", "<init>", "([C)V"⟩ : MethodName) (head1 (Jvm.Cond.code (⟨"java/lang/String", "<init>", "([C)V"⟩ : MethodName) jdk_42_method_3_code 2 none :: ws) ({ frames := 3, cells := 1, slots := 4, locals := 52 } : Room)) (fun a U => a = #[(.ref a1), (.ref a2)] ∧ Z.Warmed39 U.vm ∧ U.heap = h0) (fun _ _ _ _ _ => True) (fun _ U o U' => ∃ v L, o = .returned v ∧ Q15 Z a1 a2 pn kc u1 u2 ccs cf n h0 n0 v U'.heap L ∧ FrameEnd U o U' L ({ frames := 3, cells := 1, slots := 4, locals := 52 } : Room).cells ({ frames := 3, cells := 1, slots := 4, locals := 52 } : Room).slots) := by
  refine MetFree.of_bodySF (plainFor_of_name pn_15) hisR ?_
  intro p e s m args below meth c s₁ Bd hml0 hP hK
  obtain ⟨rfl, hZ, hh⟩ := hP
  have hx := Bd.exec
  have hby := Bd.bytes
  have hml : c.maxLocals = 2 := hml0
  have hown : s.vm.findClass "java/lang/String" = some m.cls := findClass_of_methodNamed Bd.named
  have hnm := (name_of_methodNamed Bd.named Bd.method).1
  have X0 : Stand p l e ({ frames := 3, cells := 1, slots := 4, locals := 52 } : Room) s m #[(.ref a1), (.ref a2)] below meth c s₁ [] 0 0 := Stand.of_body Bd
  have e0 : s₁.heap = h0 := by rw [← hh, Bd.state]; rfl
  have N0 := Fr.nil n0
  have K0 : Keep h0 h0 [a1] := Keep.refl _ _
  have P0 : ∀ t, Steps p.tables e below (s₁.setTop (mkF m 0 #[.val (.ref a1), .val (.ref a2)] [])) t → Steps p.tables e below (s₁.setTop (entryFrame m #[(.ref a1), (.ref a2)] 2)) t := fun t k => castTop (ef_15 m a1 a2) k
  have P1 : ∀ t, Steps p.tables e below (s₁.setTop (mkF m 6 #[.val (.ref a1), .val (.ref a2)] [.null, (.int pn), (.int (0 : Int32)), (.ref a2), (.ref a1)])) t → Steps p.tables e below (s₁.setTop (entryFrame m #[(.ref a1), (.ref a2)] 2)) t := by
    intro t k
    refine P0 _ ?_
    refine XS.aloadN X0.here hx rfl (hb hby d15_0) rfl rfl ?_
    show Steps p.tables e below (s₁.setTop (mkF m 1 #[.val (.ref a1), .val (.ref a2)] [(.ref a1)])) _
    refine XS.aloadN X0.here hx rfl (hb hby d15_1) rfl rfl ?_
    show Steps p.tables e below (s₁.setTop (mkF m 2 #[.val (.ref a1), .val (.ref a2)] [(.ref a2), (.ref a1)])) _
    refine XS.iconst X0.here hx rfl (hb hby d15_2) ?_
    show Steps p.tables e below (s₁.setTop (mkF m 3 #[.val (.ref a1), .val (.ref a2)] [(.int (0 : Int32)), (.ref a2), (.ref a1)])) _
    refine XS.aloadN X0.here hx rfl (hb hby d15_3) rfl rfl ?_
    show Steps p.tables e below (s₁.setTop (mkF m 4 #[.val (.ref a1), .val (.ref a2)] [(.ref a2), (.int (0 : Int32)), (.ref a2), (.ref a1)])) _
    refine own_flen X0 hx hZ e0 A_c rfl rfl (hb hby d15_4) ?_
    show Steps p.tables e below (s₁.setTop (mkF m 5 #[.val (.ref a1), .val (.ref a2)] [(.int pn), (.int (0 : Int32)), (.ref a2), (.ref a1)])) _
    refine XS.aconstNull X0.here hx rfl (hb hby d15_5) ?_
    show Steps p.tables e below (s₁.setTop (mkF m 6 #[.val (.ref a1), .val (.ref a2)] [.null, (.int pn), (.int (0 : Int32)), (.ref a2), (.ref a1)])) _
    exact k
  obtain ⟨_, _, ⟨T2, L2, k2, n2⟩, -, X2, ⟨Lc2, hQ2, l2, y2, z2⟩, st2⟩ := X0.specialBack hx (y := (⟨"java/lang/String", "<init>", "([CIILjava/lang/Void;)V"⟩ : MethodName)) rfl hown (mvT hZ (hw _ (List.mem_of_getElem? (i := 13) rfl))) (mvT hZ (hw _ (List.mem_of_getElem? (i := 14) rfl))) (mvT hZ (hw _ (List.mem_of_getElem? (i := 16) rfl))) (by decide) (backOf (W := 0) (rm14 l Z a0 hw [] a1 a2 pn kc u1 u2 ccs cf n h0 n0 Z0 E_a F_v F_k g_a A_c S_cs hcc hn hn4 hn1 hcs) hZ (hw _ (List.mem_of_getElem? (i := 16) rfl)) (hw _ (List.mem_of_getElem? (i := 9) rfl)) (by decide) (by decide)) (g := (mkF m 6 #[.val (.ref a1), .val (.ref a2)] [.null, (.int pn), (.int (0 : Int32)), (.ref a2), (.ref a1)])) rfl (by rw [hml]; rfl) (Steps.refl _) (a := a1) (argsL := [(.ref a2), (.int (0 : Int32)), (.int pn), .null]) (rest := []) (lenOf pd_3 rfl) rfl (by show 2 * 0 + _ ≤ _; exact Nat.le_of_eq rfl) (hb hby d15_6) (fun _ _ => ⟨rfl, e0, (by decide : 0 + 1 ≤ _), (by decide : 0 + 4 ≤ _)⟩)
  dsimp only [Pt.U, Pt.locs, Pt.cells, Pt.slots] at X2 l2 y2 z2 st2 hQ2
  subst l2 y2 z2
  obtain ⟨b_2, kb_2, rfl, N2q, K2, s2_b, Y2_0, Y2_1, Y2_2, Y2_3, Y2_4⟩ := hQ2
  have F3 : Exa Z T2.heap a1 "java/lang/String" := E_a.keep K2
  have Z4 : n0 ≤ T2.heap.size := Nat.le_trans Z0 K2.1
  have K5 : Keep h0 T2.heap [a1] := K0.trans K2 (allS (Or.inl (List.mem_of_getElem? (i := 0) rfl)) all0)
  have g_b_2 : n0 ≤ b_2 := Nat.le_trans Z0 s2_b
  have sz_b_2 : h0.size ≤ b_2 := Nat.le_trans K0.1 s2_b
  have ne_a1_b_2 : a1 ≠ b_2 := Nat.ne_of_lt (Nat.lt_of_lt_of_le E_a.lt s2_b)
  have ne_a2_b_2 : a2 ≠ b_2 := Nat.ne_of_lt (Nat.lt_of_lt_of_le A_c.lt s2_b)
  have N2 := Fr.app N0 N2q
  have P6 : ∀ t, Steps p.tables e below (T2.setTop (mkF m 9 #[.val (.ref a1), .val (.ref a2)] [])) t → Steps p.tables e below (s₁.setTop (entryFrame m #[(.ref a1), (.ref a2)] 2)) t := fun t k => P1 _ (st2.trans k)
  obtain ⟨fs, hr, hrun, hended, hW, hsame⟩ := X2.leave (v := none) (fun _ => rfl)
  refine ⟨_, _, P6 _ ?_, hrun, hended, _, _, rfl, ?_, ⟨_, rfl⟩, hW, hsame.mono (by decide) (by decide)⟩
  · exact X2.returnOut hx Bd.returns (hb hby d15_9) hr
  · show Q15 Z a1 a2 pn kc u1 u2 ccs cf n h0 n0 _ T2.heap _
    exact ⟨b_2, kb_2, rfl, N2, K5, sz_b_2, Y2_0, Y2_1, Y2_2, Y2_3, Y2_4⟩
theorem d21_0 : decode jdk_42_method_152_code 0 = .ok (.getstatic 38, 3) := by decide +kernel
theorem d21_3 : decode jdk_42_method_152_code 3 = .ok (.ifCond .eq 10, 3) := by decide +kernel
theorem d21_6 : decode jdk_42_method_152_code 6 = .ok (.aload_n 0, 1) := by decide +kernel
theorem d21_7 : decode jdk_42_method_152_code 7 = .ok (.getfield 15, 3) := by decide +kernel
theorem d21_10 : decode jdk_42_method_152_code 10 = .ok (.goto 4, 3) := by decide +kernel
theorem d21_14 : decode jdk_42_method_152_code 14 = .ok (.ireturn, 1) := by decide +kernel
theorem pn_21 : plainName "java/lang/String" = true := by first | (simp [plainName, overriddenIn]; done) | decide +kernel
theorem ef_21 (m : MethodId) (x0 : Addr) : entryFrame m #[(.ref x0)] 1 = mkF m 0 #[.val (.ref x0)] [] := by first | (simp [entryFrame, mkF, argsToLocals, Value.category]; done) | rfl
def Q21 (Z : State) (a1 : Addr) (ccs : Int32) (h0 : Heap) (n0 : Nat) (v : Option Value) (h : Heap) (L : List Loc) : Prop := v = some (.int (0 : Int32)) ∧ Fr n0 L ∧ h = h0
set_option maxRecDepth 65536 in
set_option maxHeartbeats 40000000 in
theorem rm21 (l : Launch) (Z : State) (a0 : Array Value) (hw : ∀ d ∈ tables_1, d.before a0 Z = true) (ws : List Jvm.Cond) (a1 : Addr) (ccs : Int32) (h0 : Heap) (n0 : Nat) (Z0 : n0 ≤ h0.size) (F_k : Fld Z h0 a1 "java/lang/String" "coder" "B" (.int (0 : Int32))) (S_cs : Sta Z h0 "java/lang/String" "COMPACT_STRINGS" "Z" (.int ccs)) (hcc : ¬ ccs = (0 : Int32)) :
    MetFree l (⟨"java/lang/String", "coder", "()B"⟩ : MethodName) (head1 (Jvm.Cond.code (⟨"java/lang/String", "coder", "()B"⟩ : MethodName) jdk_42_method_152_code 1 (some .byte) :: ws) ({ frames := 0, cells := 0, slots := 0, locals := 0 } : Room)) (fun a U => a = #[(.ref a1)] ∧ Z.Warmed39 U.vm ∧ U.heap = h0) (fun _ _ _ _ _ => True) (fun _ U o U' => ∃ v L, o = .returned v ∧ Q21 Z a1 ccs h0 n0 v U'.heap L ∧ FrameEnd U o U' L ({ frames := 0, cells := 0, slots := 0, locals := 0 } : Room).cells ({ frames := 0, cells := 0, slots := 0, locals := 0 } : Room).slots) := by
  refine MetFree.of_bodySF (plainFor_of_name pn_21) hisR ?_
  intro p e s m args below meth c s₁ Bd hml0 hP hK
  obtain ⟨rfl, hZ, hh⟩ := hP
  have hx := Bd.exec
  have hby := Bd.bytes
  have hml : c.maxLocals = 1 := hml0
  have hown : s.vm.findClass "java/lang/String" = some m.cls := findClass_of_methodNamed Bd.named
  have hnm := (name_of_methodNamed Bd.named Bd.method).1
  have X0 : Stand p l e ({ frames := 0, cells := 0, slots := 0, locals := 0 } : Room) s m #[(.ref a1)] below meth c s₁ [] 0 0 := Stand.of_body Bd
  have e0 : s₁.heap = h0 := by rw [← hh, Bd.state]; rfl
  have N0 := Fr.nil n0
  have K0 : Keep h0 h0 [] := Keep.refl _ _
  have P0 : ∀ t, Steps p.tables e below (s₁.setTop (mkF m 0 #[.val (.ref a1)] [])) t → Steps p.tables e below (s₁.setTop (entryFrame m #[(.ref a1)] 1)) t := fun t k => castTop (ef_21 m a1) k
  obtain ⟨T1, X1, e1, st1⟩ := getS2 X0 hx hZ hown (host := "") (Or.inl (hw _ (List.mem_of_getElem? (i := 20) rfl))) Via.refl e0 S_cs (g := (mkF m 0 #[.val (.ref a1)] [])) rfl (hb hby d21_0)
  have P2 : ∀ t, Steps p.tables e below (T1.setTop (mkF m 3 #[.val (.ref a1)] [(.int ccs)])) t → Steps p.tables e below (s₁.setTop (entryFrame m #[(.ref a1)] 1)) t := fun t k => P0 _ (st1 _ k)
  have P3 : ∀ t, Steps p.tables e below (T1.setTop (mkF m 7 #[.val (.ref a1)] [(.ref a1)])) t → Steps p.tables e below (s₁.setTop (entryFrame m #[(.ref a1)] 1)) t := by
    intro t k
    refine P2 _ ?_
    refine XS.ifNo X1.here hx rfl (hb hby d21_3) rfl (XT.i0_eq_f hcc) ?_
    show Steps p.tables e below (T1.setTop (mkF m 6 #[.val (.ref a1)] [])) _
    refine XS.aloadN X1.here hx rfl (hb hby d21_6) rfl rfl ?_
    show Steps p.tables e below (T1.setTop (mkF m 7 #[.val (.ref a1)] [(.ref a1)])) _
    exact k
  obtain ⟨T4, X4, e4, st4⟩ := getF X1 hx hZ hown (host := "") (Or.inl (hw _ (List.mem_of_getElem? (i := 32) rfl))) Via.refl e1 F_k (g := (mkF m 7 #[.val (.ref a1)] [(.ref a1)])) rfl rfl (hb hby d21_7)
  have P5 : ∀ t, Steps p.tables e below (T4.setTop (mkF m 10 #[.val (.ref a1)] [(.int (0 : Int32))])) t → Steps p.tables e below (s₁.setTop (entryFrame m #[(.ref a1)] 1)) t := fun t k => P3 _ (st4 _ k)
  have P6 : ∀ t, Steps p.tables e below (T4.setTop (mkF m 14 #[.val (.ref a1)] [(.int (0 : Int32))])) t → Steps p.tables e below (s₁.setTop (entryFrame m #[(.ref a1)] 1)) t := by
    intro t k
    refine P5 _ ?_
    refine XS.goto X4.here hx rfl (pc0 := 10) (pc' := 14) rfl (hb hby d21_10) (by decide) (by decide) ?_
    show Steps p.tables e below (T4.setTop (mkF m 14 #[.val (.ref a1)] [(.int (0 : Int32))])) _
    exact k
  obtain ⟨fs, hr, hrun, hended, hW, hsame⟩ := X4.leave (v := some (.int (0 : Int32))) (fun h => by rw [Bd.returns] at h; cases h)
  refine ⟨_, _, P6 _ ?_, hrun, hended, _, _, rfl, ?_, ⟨_, rfl⟩, hW, hsame.mono (by decide) (by decide)⟩
  · exact retN X4 hx (t := .byte) Bd.returns (by simp) (hb hby d21_14) hr
  · show Q21 Z a1 ccs h0 n0 _ T4.heap _
    rw [e4]
    exact ⟨rfl, N0, rfl⟩
theorem d22_0 : decode jdk_123_method_3_code 0 = .ok (.iload_n 1, 1) := by decide +kernel
theorem d22_1 : decode jdk_123_method_3_code 1 = .ok (.iload_n 2, 1) := by decide +kernel
theorem d22_2 : decode jdk_123_method_3_code 2 = .ok (.iadd, 1) := by decide +kernel
theorem d22_3 : decode jdk_123_method_3_code 3 = .ok (.istore_n 3, 1) := by decide +kernel
theorem d22_4 : decode jdk_123_method_3_code 4 = .ok (.iload_n 1, 1) := by decide +kernel
theorem d22_5 : decode jdk_123_method_3_code 5 = .ok (.istore 4, 2) := by decide +kernel
theorem d22_7 : decode jdk_123_method_3_code 7 = .ok (.iload 4, 2) := by decide +kernel
theorem d22_9 : decode jdk_123_method_3_code 9 = .ok (.iload_n 3, 1) := by decide +kernel
theorem d22_10 : decode jdk_123_method_3_code 10 = .ok (.if_icmp .ge 21, 3) := by decide +kernel
theorem d22_13 : decode jdk_123_method_3_code 13 = .ok (.aload_n 0, 1) := by decide +kernel
theorem d22_14 : decode jdk_123_method_3_code 14 = .ok (.iload 4, 2) := by decide +kernel
theorem d22_16 : decode jdk_123_method_3_code 16 = .ok (.baload, 1) := by decide +kernel
theorem d22_17 : decode jdk_123_method_3_code 17 = .ok (.ifCond .ge 8, 3) := by decide +kernel
theorem d22_25 : decode jdk_123_method_3_code 25 = .ok (.iinc 4 1, 3) := by decide +kernel
theorem d22_28 : decode jdk_123_method_3_code 28 = .ok (.goto (-21), 3) := by decide +kernel
theorem d22_31 : decode jdk_123_method_3_code 31 = .ok (.iload_n 2, 1) := by decide +kernel
theorem d22_32 : decode jdk_123_method_3_code 32 = .ok (.ireturn, 1) := by decide +kernel
set_option maxRecDepth 65536 in
set_option maxHeartbeats 40000000 in
theorem tn22 {p : Program} {l : Launch} {e : Env} {R : Room} {s : State} {m : MethodId} {args : Array Value} {below : List Frame} {meth : Method} {c : Code} {T : State} {locs : List Loc} {cells slots : Nat} {Z : State} {a0 : Array Value} {h0 : Heap} (a1 : Addr) (pn : Int32) (lim : Int32) (iv : Int32) (kb : ClassId) (cf : Nat → Int32)
    (X0 : Stand p l e R s m args below meth c T locs cells slots) (hx : p.tables.exec = Jvm.exec) (hZ : Z.Warmed39 s.vm) (hw : ∀ d ∈ tables_1, d.before a0 Z = true) (hby : c.code = jdk_123_method_3_code) (hown : s.vm.findClass "java/lang/StringCoding" = some m.cls) (e0 : T.heap = h0) (A_b : own_Af Z h0 a1 kb .byte pn (fun i => Value.int (cf i))) (hlt : iv < lim) (hj : ¬ iv < (0 : Int32) ∧ iv < pn) (hcw : own_c (cf (iv).toNatClampNeg)) :
    ∀ t, Steps p.tables e below (T.setTop (mkF m 7 #[.val (.ref a1), .val (.int (0 : Int32)), .val (.int pn), .val (.int lim), .val (.int (iv + (1 : Int32)))] [])) t → Steps p.tables e below (T.setTop (mkF m 7 #[.val (.ref a1), .val (.int (0 : Int32)), .val (.int pn), .val (.int lim), .val (.int iv)] [])) t := by
  intro t k
  refine XS.iload X0.here hx rfl (hb hby d22_7) rfl ?_
  show Steps p.tables e below (T.setTop (mkF m 9 #[.val (.ref a1), .val (.int (0 : Int32)), .val (.int pn), .val (.int lim), .val (.int iv)] [(.int iv)])) _
  refine XS.iloadN X0.here hx rfl (hb hby d22_9) rfl ?_
  show Steps p.tables e below (T.setTop (mkF m 10 #[.val (.ref a1), .val (.int (0 : Int32)), .val (.int pn), .val (.int lim), .val (.int iv)] [(.int lim), (.int iv)])) _
  refine XS.icmpNo X0.here hx rfl (hb hby d22_10) rfl (XT.ii_ge_f hlt) ?_
  show Steps p.tables e below (T.setTop (mkF m 13 #[.val (.ref a1), .val (.int (0 : Int32)), .val (.int pn), .val (.int lim), .val (.int iv)] [])) _
  refine XS.aloadN X0.here hx rfl (hb hby d22_13) rfl rfl ?_
  show Steps p.tables e below (T.setTop (mkF m 14 #[.val (.ref a1), .val (.int (0 : Int32)), .val (.int pn), .val (.int lim), .val (.int iv)] [(.ref a1)])) _
  refine XS.iload X0.here hx rfl (hb hby d22_14) rfl ?_
  show Steps p.tables e below (T.setTop (mkF m 16 #[.val (.ref a1), .val (.int (0 : Int32)), .val (.int pn), .val (.int lim), .val (.int iv)] [(.int iv), (.ref a1)])) _
  refine own_fbal X0 hx hZ e0 A_b hj (v := (.int (cf (iv).toNatClampNeg))) rfl rfl rfl (hb hby d22_16) ?_
  show Steps p.tables e below (T.setTop (mkF m 17 #[.val (.ref a1), .val (.int (0 : Int32)), .val (.int pn), .val (.int lim), .val (.int iv)] [(.int (cf (iv).toNatClampNeg))])) _
  refine XS.ifYes X0.here hx rfl (pc0 := 17) (pc' := 25) rfl (hb hby d22_17) rfl (XT.i0_ge_t (own_c0 hcw)) (by decide) (by decide) ?_
  show Steps p.tables e below (T.setTop (mkF m 25 #[.val (.ref a1), .val (.int (0 : Int32)), .val (.int pn), .val (.int lim), .val (.int iv)] [])) _
  refine XS.iinc X0.here hx rfl (hb hby d22_25) rfl (l' := #[.val (.ref a1), .val (.int (0 : Int32)), .val (.int pn), .val (.int lim), .val (.int (iv + (1 : Int32)))]) rfl ?_
  show Steps p.tables e below (T.setTop (mkF m 28 #[.val (.ref a1), .val (.int (0 : Int32)), .val (.int pn), .val (.int lim), .val (.int (iv + (1 : Int32)))] [])) _
  refine XS.goto X0.here hx rfl (pc0 := 28) (pc' := 7) rfl (hb hby d22_28) (by decide) (by decide) ?_
  show Steps p.tables e below (T.setTop (mkF m 7 #[.val (.ref a1), .val (.int (0 : Int32)), .val (.int pn), .val (.int lim), .val (.int (iv + (1 : Int32)))] [])) _
  exact k
set_option maxRecDepth 65536 in
set_option maxHeartbeats 40000000 in
theorem lv22 {p : Program} {l : Launch} {e : Env} {R : Room} {s : State} {m : MethodId} {args : Array Value} {below : List Frame} {meth : Method} {c : Code} {T : State} {locs : List Loc} {cells slots : Nat} {Z : State} {a0 : Array Value} {h0 : Heap} (a1 : Addr) (pn : Int32) (lim : Int32) (iv : Int32)
    (X0 : Stand p l e R s m args below meth c T locs cells slots) (hx : p.tables.exec = Jvm.exec) (hZ : Z.Warmed39 s.vm) (hw : ∀ d ∈ tables_1, d.before a0 Z = true) (hby : c.code = jdk_123_method_3_code) (hown : s.vm.findClass "java/lang/StringCoding" = some m.cls) (e0 : T.heap = h0) (hge : ¬ iv < lim) :
    ∀ t, Steps p.tables e below (T.setTop (mkF m 31 #[.val (.ref a1), .val (.int (0 : Int32)), .val (.int pn), .val (.int lim), .val (.int iv)] [])) t → Steps p.tables e below (T.setTop (mkF m 7 #[.val (.ref a1), .val (.int (0 : Int32)), .val (.int pn), .val (.int lim), .val (.int iv)] [])) t := by
  intro t k
  refine XS.iload X0.here hx rfl (hb hby d22_7) rfl ?_
  show Steps p.tables e below (T.setTop (mkF m 9 #[.val (.ref a1), .val (.int (0 : Int32)), .val (.int pn), .val (.int lim), .val (.int iv)] [(.int iv)])) _
  refine XS.iloadN X0.here hx rfl (hb hby d22_9) rfl ?_
  show Steps p.tables e below (T.setTop (mkF m 10 #[.val (.ref a1), .val (.int (0 : Int32)), .val (.int pn), .val (.int lim), .val (.int iv)] [(.int lim), (.int iv)])) _
  refine XS.icmpYes X0.here hx rfl (pc0 := 10) (pc' := 31) rfl (hb hby d22_10) rfl (XT.ii_ge_t hge) (by decide) (by decide) ?_
  show Steps p.tables e below (T.setTop (mkF m 31 #[.val (.ref a1), .val (.int (0 : Int32)), .val (.int pn), .val (.int lim), .val (.int iv)] [])) _
  exact k
theorem loop22 {p : Program} {l : Launch} {e : Env} {R : Room} {s : State} {m : MethodId} {args : Array Value} {below : List Frame} {meth : Method} {c : Code} {Z : State} {a0 : Array Value} {n0 : Nat} {cells slots : Nat} {T : State} {locs : List Loc} {h0 : Heap} (a1 : Addr) (pn lim : Int32) (kb : ClassId) (cf : Nat → Int32) (n : Nat) (X0 : Stand p l e R s m args below meth c T locs cells slots) (hx : p.tables.exec = Jvm.exec) (hZ : Z.Warmed39 s.vm) (hw : ∀ d ∈ tables_1, d.before a0 Z = true) (hby : c.code = jdk_123_method_3_code) (hml : c.maxLocals = 5) (hown : s.vm.findClass "java/lang/StringCoding" = some m.cls) (e0 : T.heap = h0) (A_b : own_Af Z h0 a1 kb .byte pn (fun i => Value.int (cf i))) (hn : pn.toInt = n) (hl : lim.toInt = n) (hn4 : n < 5000) (hcs : own_cs pn cf) (k : Nat) :
    ∀ (i : Nat) (iv : Int32), i + k = n → iv.toInt = i → ∃ jv : Int32, ∀ t, Steps p.tables e below (T.setTop (mkF m 31 #[.val (.ref a1), .val (.int (0 : Int32)), .val (.int pn), .val (.int lim), .val (.int jv)] [])) t → Steps p.tables e below (T.setTop (mkF m 7 #[.val (.ref a1), .val (.int (0 : Int32)), .val (.int pn), .val (.int lim), .val (.int iv)] [])) t := by
  induction k with
  | zero =>
    intro i iv h1 h2
    exact ⟨iv, lv22 a1 pn lim iv X0 hx hZ hw hby hown e0 (by rw [Int32.lt_iff_toInt_lt]; omega)⟩
  | succ k ih =>
    intro i iv h1 h2
    obtain ⟨jv, st2⟩ := ih (i + 1) (iv + (1 : Int32)) (by omega) (own_inc h2 (by omega))
    exact ⟨jv, fun t kk => tn22 a1 pn lim iv kb cf X0 hx hZ hw hby hown e0 A_b (by rw [Int32.lt_iff_toInt_lt]; omega) (own_jn (by omega) (by omega)) (hcs _ (by rw [own_nat h2]; omega)) t (st2 t kk)⟩
theorem pn_22 : plainName "java/lang/StringCoding" = true := by first | (simp [plainName, overriddenIn]; done) | decide +kernel
theorem ef_22 (m : MethodId) (x0 : Addr) (x1 : Int32) (x2 : Int32) : entryFrame m #[(.ref x0), (.int x1), (.int x2)] 5 = mkF m 0 #[.val (.ref x0), .val (.int x1), .val (.int x2), .unset, .unset] [] := by first | (simp [entryFrame, mkF, argsToLocals, Value.category]; done) | rfl
def Q22 (Z : State) (a1 : Addr) (pn : Int32) (kb : ClassId) (cf : Nat → Int32) (n : Nat) (h0 : Heap) (n0 : Nat) (v : Option Value) (h : Heap) (L : List Loc) : Prop := v = some (.int pn) ∧ Fr n0 L ∧ h = h0
set_option maxRecDepth 65536 in
set_option maxHeartbeats 40000000 in
theorem rm22 (l : Launch) (Z : State) (a0 : Array Value) (hw : ∀ d ∈ tables_1, d.before a0 Z = true) (ws : List Jvm.Cond) (a1 : Addr) (pn : Int32) (kb : ClassId) (cf : Nat → Int32) (n : Nat) (h0 : Heap) (n0 : Nat) (Z0 : n0 ≤ h0.size) (A_b : own_Af Z h0 a1 kb .byte pn (fun i => Value.int (cf i))) (hn : pn.toInt = n) (hn4 : n ≤ 4) (hcs : own_cs pn cf) :
    MetFree l (⟨"java/lang/StringCoding", "countPositives", "([BII)I"⟩ : MethodName) (head1 (Jvm.Cond.code (⟨"java/lang/StringCoding", "countPositives", "([BII)I"⟩ : MethodName) jdk_123_method_3_code 5 (some .int) :: ws) ({ frames := 0, cells := 0, slots := 0, locals := 0 } : Room)) (fun a U => a = #[(.ref a1), (.int (0 : Int32)), (.int pn)] ∧ Z.Warmed39 U.vm ∧ U.heap = h0) (fun _ _ _ _ _ => True) (fun _ U o U' => ∃ v L, o = .returned v ∧ Q22 Z a1 pn kb cf n h0 n0 v U'.heap L ∧ FrameEnd U o U' L ({ frames := 0, cells := 0, slots := 0, locals := 0 } : Room).cells ({ frames := 0, cells := 0, slots := 0, locals := 0 } : Room).slots) := by
  refine MetFree.of_bodySF (plainFor_of_name pn_22) hisR ?_
  intro p e s m args below meth c s₁ Bd hml0 hP hK
  obtain ⟨rfl, hZ, hh⟩ := hP
  have hx := Bd.exec
  have hby := Bd.bytes
  have hml : c.maxLocals = 5 := hml0
  have hown : s.vm.findClass "java/lang/StringCoding" = some m.cls := findClass_of_methodNamed Bd.named
  have hnm := (name_of_methodNamed Bd.named Bd.method).1
  have X0 : Stand p l e ({ frames := 0, cells := 0, slots := 0, locals := 0 } : Room) s m #[(.ref a1), (.int (0 : Int32)), (.int pn)] below meth c s₁ [] 0 0 := Stand.of_body Bd
  have e0 : s₁.heap = h0 := by rw [← hh, Bd.state]; rfl
  have N0 := Fr.nil n0
  have K0 : Keep h0 h0 [] := Keep.refl _ _
  have P0 : ∀ t, Steps p.tables e below (s₁.setTop (mkF m 0 #[.val (.ref a1), .val (.int (0 : Int32)), .val (.int pn), .unset, .unset] [])) t → Steps p.tables e below (s₁.setTop (entryFrame m #[(.ref a1), (.int (0 : Int32)), (.int pn)] 5)) t := fun t k => castTop (ef_22 m a1 (0 : Int32) pn) k
  have P1 : ∀ t, Steps p.tables e below (s₁.setTop (mkF m 4 #[.val (.ref a1), .val (.int (0 : Int32)), .val (.int pn), .val (.int ((0 : Int32) + pn)), .unset] [])) t → Steps p.tables e below (s₁.setTop (entryFrame m #[(.ref a1), (.int (0 : Int32)), (.int pn)] 5)) t := by
    intro t k
    refine P0 _ ?_
    refine XS.iloadN X0.here hx rfl (hb hby d22_0) rfl ?_
    show Steps p.tables e below (s₁.setTop (mkF m 1 #[.val (.ref a1), .val (.int (0 : Int32)), .val (.int pn), .unset, .unset] [(.int (0 : Int32))])) _
    refine XS.iloadN X0.here hx rfl (hb hby d22_1) rfl ?_
    show Steps p.tables e below (s₁.setTop (mkF m 2 #[.val (.ref a1), .val (.int (0 : Int32)), .val (.int pn), .unset, .unset] [(.int pn), (.int (0 : Int32))])) _
    refine XS.iadd X0.here hx rfl (hb hby d22_2) rfl ?_
    show Steps p.tables e below (s₁.setTop (mkF m 3 #[.val (.ref a1), .val (.int (0 : Int32)), .val (.int pn), .unset, .unset] [(.int ((0 : Int32) + pn))])) _
    refine XS.istoreN X0.here hx rfl (hb hby d22_3) rfl (l' := #[.val (.ref a1), .val (.int (0 : Int32)), .val (.int pn), .val (.int ((0 : Int32) + pn)), .unset]) rfl ?_
    show Steps p.tables e below (s₁.setTop (mkF m 4 #[.val (.ref a1), .val (.int (0 : Int32)), .val (.int pn), .val (.int ((0 : Int32) + pn)), .unset] [])) _
    exact k
  obtain ⟨lim, hlim⟩ : ∃ z : Int32, z = ((0 : Int32) + pn) := ⟨_, rfl⟩
  rw [← hlim] at P1
  have P2 : ∀ t, Steps p.tables e below (s₁.setTop (mkF m 7 #[.val (.ref a1), .val (.int (0 : Int32)), .val (.int pn), .val (.int lim), .val (.int (0 : Int32))] [])) t → Steps p.tables e below (s₁.setTop (entryFrame m #[(.ref a1), (.int (0 : Int32)), (.int pn)] 5)) t := by
    intro t k
    refine P1 _ ?_
    refine XS.iloadN X0.here hx rfl (hb hby d22_4) rfl ?_
    show Steps p.tables e below (s₁.setTop (mkF m 5 #[.val (.ref a1), .val (.int (0 : Int32)), .val (.int pn), .val (.int lim), .unset] [(.int (0 : Int32))])) _
    refine XS.istore X0.here hx rfl (hb hby d22_5) rfl (l' := #[.val (.ref a1), .val (.int (0 : Int32)), .val (.int pn), .val (.int lim), .val (.int (0 : Int32))]) rfl ?_
    show Steps p.tables e below (s₁.setTop (mkF m 7 #[.val (.ref a1), .val (.int (0 : Int32)), .val (.int pn), .val (.int lim), .val (.int (0 : Int32))] [])) _
    exact k
  obtain ⟨jv, hL⟩ := loop22 (n0 := n0) a1 pn lim kb cf n X0 hx hZ hw hby hml hown e0 A_b hn (by rw [hlim]; exact own_0add hn) (by omega) hcs n 0 (0 : Int32) (by omega) rfl
  have P3 : ∀ t, Steps p.tables e below (s₁.setTop (mkF m 31 #[.val (.ref a1), .val (.int (0 : Int32)), .val (.int pn), .val (.int lim), .val (.int jv)] [])) t → Steps p.tables e below (s₁.setTop (entryFrame m #[(.ref a1), (.int (0 : Int32)), (.int pn)] 5)) t := fun t k => P2 _ (hL _ k)
  have P4 : ∀ t, Steps p.tables e below (s₁.setTop (mkF m 32 #[.val (.ref a1), .val (.int (0 : Int32)), .val (.int pn), .val (.int lim), .val (.int jv)] [(.int pn)])) t → Steps p.tables e below (s₁.setTop (entryFrame m #[(.ref a1), (.int (0 : Int32)), (.int pn)] 5)) t := by
    intro t k
    refine P3 _ ?_
    refine XS.iloadN X0.here hx rfl (hb hby d22_31) rfl ?_
    show Steps p.tables e below (s₁.setTop (mkF m 32 #[.val (.ref a1), .val (.int (0 : Int32)), .val (.int pn), .val (.int lim), .val (.int jv)] [(.int pn)])) _
    exact k
  obtain ⟨fs, hr, hrun, hended, hW, hsame⟩ := X0.leave (v := some (.int pn)) (fun h => by rw [Bd.returns] at h; cases h)
  refine ⟨_, _, P4 _ ?_, hrun, hended, _, _, rfl, ?_, ⟨_, rfl⟩, hW, hsame.mono (by decide) (by decide)⟩
  · exact retI X0 hx Bd.returns (hb hby d22_32) hr
  · show Q22 Z a1 pn kb cf n h0 n0 _ s₁.heap _
    rw [e0]
    exact ⟨rfl, N0, rfl⟩
theorem d23_0 : decode jdk_42_method_24_code 0 = .ok (.iload_n 0, 1) := by decide +kernel
theorem d23_1 : decode jdk_42_method_24_code 1 = .ok (.ifCond .ne 32, 3) := by decide +kernel
theorem d23_4 : decode jdk_42_method_24_code 4 = .ok (.aload_n 1, 1) := by decide +kernel
theorem d23_5 : decode jdk_42_method_24_code 5 = .ok (.iconst 0, 1) := by decide +kernel
theorem d23_6 : decode jdk_42_method_24_code 6 = .ok (.aload_n 1, 1) := by decide +kernel
theorem d23_7 : decode jdk_42_method_24_code 7 = .ok (.arraylength, 1) := by decide +kernel
theorem d23_8 : decode jdk_42_method_24_code 8 = .ok (.invokestatic 92, 3) := by decide +kernel
theorem d23_11 : decode jdk_42_method_24_code 11 = .ok (.istore_n 2, 1) := by decide +kernel
theorem d23_12 : decode jdk_42_method_24_code 12 = .ok (.aload_n 1, 1) := by decide +kernel
theorem d23_13 : decode jdk_42_method_24_code 13 = .ok (.invokevirtual 279, 3) := by decide +kernel
theorem d23_16 : decode jdk_42_method_24_code 16 = .ok (.checkcast 280, 3) := by decide +kernel
theorem d23_19 : decode jdk_42_method_24_code 19 = .ok (.astore_n 3, 1) := by decide +kernel
theorem d23_20 : decode jdk_42_method_24_code 20 = .ok (.iload_n 2, 1) := by decide +kernel
theorem d23_21 : decode jdk_42_method_24_code 21 = .ok (.aload_n 3, 1) := by decide +kernel
theorem d23_22 : decode jdk_42_method_24_code 22 = .ok (.arraylength, 1) := by decide +kernel
theorem d23_23 : decode jdk_42_method_24_code 23 = .ok (.if_icmp .ge 8, 3) := by decide +kernel
theorem d23_31 : decode jdk_42_method_24_code 31 = .ok (.aload_n 3, 1) := by decide +kernel
theorem d23_32 : decode jdk_42_method_24_code 32 = .ok (.areturn, 1) := by decide +kernel
theorem pn_23 : plainName "java/lang/String" = true := by first | (simp [plainName, overriddenIn]; done) | decide +kernel
theorem ef_23 (m : MethodId) (x0 : Int32) (x1 : Addr) : entryFrame m #[(.int x0), (.ref x1)] 7 = mkF m 0 #[.val (.int x0), .val (.ref x1), .unset, .unset, .unset, .unset, .unset] [] := by first | (simp [entryFrame, mkF, argsToLocals, Value.category]; done) | rfl
def Q23 (Z : State) (a2 : Addr) (pn : Int32) (kb : ClassId) (cf : Nat → Int32) (n : Nat) (h0 : Heap) (n0 : Nat) (v : Option Value) (h : Heap) (L : List Loc) : Prop := ∃ (b : Addr), v = some (.ref b) ∧ Fr n0 L ∧ Keep h0 h [] ∧ h0.size ≤ b ∧ own_Af Z h b kb .byte pn (fun i => Value.int (cf i)) ∧ Exa Z h b "[B"
set_option maxRecDepth 65536 in
set_option maxHeartbeats 40000000 in
theorem rm23 (l : Launch) (Z : State) (a0 : Array Value) (hw : ∀ d ∈ tables_1, d.before a0 Z = true) (ws : List Jvm.Cond) (a2 : Addr) (pn : Int32) (kb : ClassId) (cf : Nat → Int32) (n : Nat) (h0 : Heap) (n0 : Nat) (Z0 : n0 ≤ h0.size) (A_b : own_Af Z h0 a2 kb .byte pn (fun i => Value.int (cf i))) (E_b : Exa Z h0 a2 "[B") (hn : pn.toInt = n) (hn4 : n ≤ 4) (hcs : own_cs pn cf) :
    MetFree l (⟨"java/lang/String", "encodeASCII", "(B[B)[B"⟩ : MethodName) (head1 (Jvm.Cond.code (⟨"java/lang/String", "encodeASCII", "(B[B)[B"⟩ : MethodName) jdk_42_method_24_code 7 (some (.array .byte)) :: ws) ({ frames := 1, cells := 1, slots := 4, locals := 16 } : Room)) (fun a U => a = #[(.int (0 : Int32)), (.ref a2)] ∧ Z.Warmed39 U.vm ∧ U.heap = h0) (fun _ _ _ _ _ => True) (fun _ U o U' => ∃ v L, o = .returned v ∧ Q23 Z a2 pn kb cf n h0 n0 v U'.heap L ∧ FrameEnd U o U' L ({ frames := 1, cells := 1, slots := 4, locals := 16 } : Room).cells ({ frames := 1, cells := 1, slots := 4, locals := 16 } : Room).slots) := by
  refine MetFree.of_bodySF (plainFor_of_name pn_23) hisR ?_
  intro p e s m args below meth c s₁ Bd hml0 hP hK
  obtain ⟨rfl, hZ, hh⟩ := hP
  have hx := Bd.exec
  have hby := Bd.bytes
  have hml : c.maxLocals = 7 := hml0
  have hown : s.vm.findClass "java/lang/String" = some m.cls := findClass_of_methodNamed Bd.named
  have hnm := (name_of_methodNamed Bd.named Bd.method).1
  have X0 : Stand p l e ({ frames := 1, cells := 1, slots := 4, locals := 16 } : Room) s m #[(.int (0 : Int32)), (.ref a2)] below meth c s₁ [] 0 0 := Stand.of_body Bd
  have e0 : s₁.heap = h0 := by rw [← hh, Bd.state]; rfl
  have N0 := Fr.nil n0
  have K0 : Keep h0 h0 [] := Keep.refl _ _
  have P0 : ∀ t, Steps p.tables e below (s₁.setTop (mkF m 0 #[.val (.int (0 : Int32)), .val (.ref a2), .unset, .unset, .unset, .unset, .unset] [])) t → Steps p.tables e below (s₁.setTop (entryFrame m #[(.int (0 : Int32)), (.ref a2)] 7)) t := fun t k => castTop (ef_23 m (0 : Int32) a2) k
  have P1 : ∀ t, Steps p.tables e below (s₁.setTop (mkF m 8 #[.val (.int (0 : Int32)), .val (.ref a2), .unset, .unset, .unset, .unset, .unset] [(.int pn), (.int (0 : Int32)), (.ref a2)])) t → Steps p.tables e below (s₁.setTop (entryFrame m #[(.int (0 : Int32)), (.ref a2)] 7)) t := by
    intro t k
    refine P0 _ ?_
    refine XS.iloadN X0.here hx rfl (hb hby d23_0) rfl ?_
    show Steps p.tables e below (s₁.setTop (mkF m 1 #[.val (.int (0 : Int32)), .val (.ref a2), .unset, .unset, .unset, .unset, .unset] [(.int (0 : Int32))])) _
    refine XS.ifNo X0.here hx rfl (hb hby d23_1) rfl (XT.i0_ne_f (by decide)) ?_
    show Steps p.tables e below (s₁.setTop (mkF m 4 #[.val (.int (0 : Int32)), .val (.ref a2), .unset, .unset, .unset, .unset, .unset] [])) _
    refine XS.aloadN X0.here hx rfl (hb hby d23_4) rfl rfl ?_
    show Steps p.tables e below (s₁.setTop (mkF m 5 #[.val (.int (0 : Int32)), .val (.ref a2), .unset, .unset, .unset, .unset, .unset] [(.ref a2)])) _
    refine XS.iconst X0.here hx rfl (hb hby d23_5) ?_
    show Steps p.tables e below (s₁.setTop (mkF m 6 #[.val (.int (0 : Int32)), .val (.ref a2), .unset, .unset, .unset, .unset, .unset] [(.int (0 : Int32)), (.ref a2)])) _
    refine XS.aloadN X0.here hx rfl (hb hby d23_6) rfl rfl ?_
    show Steps p.tables e below (s₁.setTop (mkF m 7 #[.val (.int (0 : Int32)), .val (.ref a2), .unset, .unset, .unset, .unset, .unset] [(.ref a2), (.int (0 : Int32)), (.ref a2)])) _
    refine own_flen X0 hx hZ e0 A_b rfl rfl (hb hby d23_7) ?_
    show Steps p.tables e below (s₁.setTop (mkF m 8 #[.val (.int (0 : Int32)), .val (.ref a2), .unset, .unset, .unset, .unset, .unset] [(.int pn), (.int (0 : Int32)), (.ref a2)])) _
    exact k
  obtain ⟨_, _, ⟨T2, L2, k2, n2⟩, -, X2, ⟨Lc2, hQ2, l2, y2, z2⟩, st2⟩ := Jvm.LawKit.callS X0 hx (y := (⟨"java/lang/StringCoding", "countPositives", "([BII)I"⟩ : MethodName)) hown (mvT hZ (hw _ (List.mem_of_getElem? (i := 64) rfl))) (mvT hZ (hw _ (List.mem_of_getElem? (i := 65) rfl))) (mvT hZ (hw _ (List.mem_of_getElem? (i := 66) rfl))) (mvT hZ (hw _ (List.mem_of_getElem? (i := 67) rfl))) (by decide) (backOf (W := 0) (rm22 l Z a0 hw [] a2 pn kb cf n h0 n0 Z0 A_b hn hn4 hcs) hZ (hw _ (List.mem_of_getElem? (i := 67) rfl)) (hw _ (List.mem_of_getElem? (i := 66) rfl)) (by decide) (by decide)) (g := (mkF m 8 #[.val (.int (0 : Int32)), .val (.ref a2), .unset, .unset, .unset, .unset, .unset] [(.int pn), (.int (0 : Int32)), (.ref a2)])) rfl (by rw [hml]; rfl) (argsL := [(.ref a2), (.int (0 : Int32)), (.int pn)]) (rest := []) (lenOf pd_4 rfl) rfl (by show 2 * 0 + _ ≤ _; exact Nat.le_of_eq rfl) (hb hby d23_8) (fun _ _ => ⟨rfl, e0, (by decide : 0 + 0 ≤ _), (by decide : 0 + 0 ≤ _)⟩)
  dsimp only [Pt.U, Pt.locs, Pt.cells, Pt.slots] at X2 l2 y2 z2 st2 hQ2
  subst l2 y2 z2
  obtain ⟨rfl, N2q, e2⟩ := hQ2
  have N2 := Fr.app N0 N2q
  have P3 : ∀ t, Steps p.tables e below (T2.setTop (mkF m 11 #[.val (.int (0 : Int32)), .val (.ref a2), .unset, .unset, .unset, .unset, .unset] [(.int pn)])) t → Steps p.tables e below (s₁.setTop (entryFrame m #[(.int (0 : Int32)), (.ref a2)] 7)) t := fun t k => P1 _ (st2 _ k)
  have P4 : ∀ t, Steps p.tables e below (T2.setTop (mkF m 13 #[.val (.int (0 : Int32)), .val (.ref a2), .val (.int pn), .unset, .unset, .unset, .unset] [(.ref a2)])) t → Steps p.tables e below (s₁.setTop (entryFrame m #[(.int (0 : Int32)), (.ref a2)] 7)) t := by
    intro t k
    refine P3 _ ?_
    refine XS.istoreN X2.here hx rfl (hb hby d23_11) rfl (l' := #[.val (.int (0 : Int32)), .val (.ref a2), .val (.int pn), .unset, .unset, .unset, .unset]) rfl ?_
    show Steps p.tables e below (T2.setTop (mkF m 12 #[.val (.int (0 : Int32)), .val (.ref a2), .val (.int pn), .unset, .unset, .unset, .unset] [])) _
    refine XS.aloadN X2.here hx rfl (hb hby d23_12) rfl rfl ?_
    show Steps p.tables e below (T2.setTop (mkF m 13 #[.val (.int (0 : Int32)), .val (.ref a2), .val (.int pn), .unset, .unset, .unset, .unset] [(.ref a2)])) _
    exact k
  obtain ⟨T5, h5, X5, e5, E5, V5, B5, st5⟩ := own_clone X2 hx hZ hown (hw _ (List.mem_of_getElem? (i := 68) rfl)) (hw _ (List.mem_of_getElem? (i := 69) rfl)) (hw _ (List.mem_of_getElem? (i := 73) rfl)) (hw _ (List.mem_of_getElem? (i := 71) rfl)) (hw _ (List.mem_of_getElem? (i := 72) rfl)) (hw _ (List.mem_of_getElem? (i := 74) rfl)) e2 A_b E_b (g := (mkF m 13 #[.val (.int (0 : Int32)), .val (.ref a2), .val (.int pn), .unset, .unset, .unset, .unset] [(.ref a2)])) rfl (by rw [hml]; rfl) rfl (hb hby d23_13) (by decide) (W := 0) (cap := 4) (by show 2 * 0 + _ ≤ _; exact Nat.le_of_eq rfl) (by decide) (by rw [own_nat hn]; exact hn4) (by decide) (by decide)
  obtain ⟨bq, g5⟩ : ∃ z, z = h0.size := ⟨_, rfl⟩
  rw [← g5] at V5 B5 st5
  have F6 : own_Af Z h5 a2 kb .byte pn (fun i => Value.int (cf i)) := A_b.ext E5
  have F7 : Exa Z h5 a2 "[B" := E_b.ext E5
  have Z8 : n0 ≤ h5.size := Nat.le_trans Z0 E5.1
  have K9 : Keep h0 h5 [] := K0.ext E5
  have g_bq : n0 ≤ bq := Nat.le_trans Z0 (Nat.le_of_eq g5.symm)
  have sz_bq : h0.size ≤ bq := Nat.le_trans K0.1 (Nat.le_of_eq g5.symm)
  have ne_a2_bq : a2 ≠ bq := Nat.ne_of_lt (Nat.lt_of_lt_of_le A_b.lt (Nat.le_of_eq g5.symm))
  have P10 : ∀ t, Steps p.tables e below (T5.setTop (mkF m 16 #[.val (.int (0 : Int32)), .val (.ref a2), .val (.int pn), .unset, .unset, .unset, .unset] [(.ref bq)])) t → Steps p.tables e below (s₁.setTop (entryFrame m #[(.int (0 : Int32)), (.ref a2)] 7)) t := fun t k => P4 _ (st5 _ k)
  obtain ⟨T11, X11, e11, st11⟩ := castY X5 hx hZ hown (hw _ (List.mem_of_getElem? (i := 75) rfl)) e5 (Ins.self B5) (g := (mkF m 16 #[.val (.int (0 : Int32)), .val (.ref a2), .val (.int pn), .unset, .unset, .unset, .unset] [(.ref bq)])) rfl rfl (hb hby d23_16)
  have P12 : ∀ t, Steps p.tables e below (T11.setTop (mkF m 19 #[.val (.int (0 : Int32)), .val (.ref a2), .val (.int pn), .unset, .unset, .unset, .unset] [(.ref bq)])) t → Steps p.tables e below (s₁.setTop (entryFrame m #[(.int (0 : Int32)), (.ref a2)] 7)) t := fun t k => P10 _ (st11 _ k)
  have P13 : ∀ t, Steps p.tables e below (T11.setTop (mkF m 32 #[.val (.int (0 : Int32)), .val (.ref a2), .val (.int pn), .val (.ref bq), .unset, .unset, .unset] [(.ref bq)])) t → Steps p.tables e below (s₁.setTop (entryFrame m #[(.int (0 : Int32)), (.ref a2)] 7)) t := by
    intro t k
    refine P12 _ ?_
    refine XS.astoreN X11.here hx rfl (hb hby d23_19) rfl rfl (l' := #[.val (.int (0 : Int32)), .val (.ref a2), .val (.int pn), .val (.ref bq), .unset, .unset, .unset]) rfl ?_
    show Steps p.tables e below (T11.setTop (mkF m 20 #[.val (.int (0 : Int32)), .val (.ref a2), .val (.int pn), .val (.ref bq), .unset, .unset, .unset] [])) _
    refine XS.iloadN X11.here hx rfl (hb hby d23_20) rfl ?_
    show Steps p.tables e below (T11.setTop (mkF m 21 #[.val (.int (0 : Int32)), .val (.ref a2), .val (.int pn), .val (.ref bq), .unset, .unset, .unset] [(.int pn)])) _
    refine XS.aloadN X11.here hx rfl (hb hby d23_21) rfl rfl ?_
    show Steps p.tables e below (T11.setTop (mkF m 22 #[.val (.int (0 : Int32)), .val (.ref a2), .val (.int pn), .val (.ref bq), .unset, .unset, .unset] [(.ref bq), (.int pn)])) _
    refine own_flen X11 hx hZ e11 V5 rfl rfl (hb hby d23_22) ?_
    show Steps p.tables e below (T11.setTop (mkF m 23 #[.val (.int (0 : Int32)), .val (.ref a2), .val (.int pn), .val (.ref bq), .unset, .unset, .unset] [(.int pn), (.int pn)])) _
    refine XS.icmpYes X11.here hx rfl (pc0 := 23) (pc' := 31) rfl (hb hby d23_23) rfl (XT.ii_ge_t (fun q => Int32.lt_irrefl q)) (by decide) (by decide) ?_
    show Steps p.tables e below (T11.setTop (mkF m 31 #[.val (.int (0 : Int32)), .val (.ref a2), .val (.int pn), .val (.ref bq), .unset, .unset, .unset] [])) _
    refine XS.aloadN X11.here hx rfl (hb hby d23_31) rfl rfl ?_
    show Steps p.tables e below (T11.setTop (mkF m 32 #[.val (.int (0 : Int32)), .val (.ref a2), .val (.int pn), .val (.ref bq), .unset, .unset, .unset] [(.ref bq)])) _
    exact k
  obtain ⟨fs, hr, hrun, hended, hW, hsame⟩ := X11.leave (v := some (.ref bq)) (fun h => by rw [Bd.returns] at h; cases h)
  refine ⟨_, _, P13 _ ?_, hrun, hended, _, _, rfl, ?_, ⟨_, rfl⟩, hW, hsame.mono (by decide) (by decide)⟩
  · jvm_step X11.here [X11.here.top, hx, (hb hby d23_32), X11.method', Bd.returns, Value.isRef, FieldType.isReference]
    first | (intro acts; rw [hr _ acts rfl rfl rfl]) | rw [hr _ _ rfl rfl rfl]
    exact Steps.refl _
  · show Q23 Z a2 pn kb cf n h0 n0 _ T11.heap _
    rw [e11]
    exact ⟨bq, rfl, N2, K9, sz_bq, V5, B5⟩
theorem d24_0 : decode jdk_42_method_18_code 0 = .ok (.aload_n 0, 1) := by decide +kernel
theorem d24_1 : decode jdk_42_method_18_code 1 = .ok (.getstatic 86, 3) := by decide +kernel
theorem d24_4 : decode jdk_42_method_18_code 4 = .ok (.if_acmp .ne 10, 3) := by decide +kernel
theorem d24_14 : decode jdk_42_method_18_code 14 = .ok (.aload_n 0, 1) := by decide +kernel
theorem d24_15 : decode jdk_42_method_18_code 15 = .ok (.getstatic 116, 3) := by decide +kernel
theorem d24_18 : decode jdk_42_method_18_code 18 = .ok (.if_acmp .ne 9, 3) := by decide +kernel
theorem d24_27 : decode jdk_42_method_18_code 27 = .ok (.aload_n 0, 1) := by decide +kernel
theorem d24_28 : decode jdk_42_method_18_code 28 = .ok (.getstatic 123, 3) := by decide +kernel
theorem d24_31 : decode jdk_42_method_18_code 31 = .ok (.if_acmp .ne 9, 3) := by decide +kernel
theorem d24_34 : decode jdk_42_method_18_code 34 = .ok (.iload_n 1, 1) := by decide +kernel
theorem d24_35 : decode jdk_42_method_18_code 35 = .ok (.aload_n 2, 1) := by decide +kernel
theorem d24_36 : decode jdk_42_method_18_code 36 = .ok (.invokestatic 260, 3) := by decide +kernel
theorem d24_39 : decode jdk_42_method_18_code 39 = .ok (.areturn, 1) := by decide +kernel
theorem pn_24 : plainName "java/lang/String" = true := by first | (simp [plainName, overriddenIn]; done) | decide +kernel
theorem ef_24 (m : MethodId) (x0 : Addr) (x1 : Int32) (x2 : Addr) : entryFrame m #[(.ref x0), (.int x1), (.ref x2)] 3 = mkF m 0 #[.val (.ref x0), .val (.int x1), .val (.ref x2)] [] := by first | (simp [entryFrame, mkF, argsToLocals, Value.category]; done) | rfl
def Q24 (Z : State) (wA : Addr) (a3 : Addr) (pn : Int32) (kb : ClassId) (cf : Nat → Int32) (n : Nat) (wU : Addr) (wI : Addr) (h0 : Heap) (n0 : Nat) (v : Option Value) (h : Heap) (L : List Loc) : Prop := ∃ (b : Addr), v = some (.ref b) ∧ Fr n0 L ∧ Keep h0 h [] ∧ h0.size ≤ b ∧ own_Af Z h b kb .byte pn (fun i => Value.int (cf i)) ∧ Exa Z h b "[B"
set_option maxRecDepth 65536 in
set_option maxHeartbeats 40000000 in
theorem rm24 (l : Launch) (Z : State) (a0 : Array Value) (hw : ∀ d ∈ tables_1, d.before a0 Z = true) (ws : List Jvm.Cond) (wA : Addr) (a3 : Addr) (pn : Int32) (kb : ClassId) (cf : Nat → Int32) (n : Nat) (wU : Addr) (wI : Addr) (h0 : Heap) (n0 : Nat) (Z0 : n0 ≤ h0.size) (A_b : own_Af Z h0 a3 kb .byte pn (fun i => Value.int (cf i))) (E_b : Exa Z h0 a3 "[B") (hn : pn.toInt = n) (hn4 : n ≤ 4) (hcs : own_cs pn cf) (S_wU : Sta Z h0 "sun/nio/cs/UTF_8" "INSTANCE" "Lsun/nio/cs/UTF_8;" (.ref wU)) (S_wI : Sta Z h0 "sun/nio/cs/ISO_8859_1" "INSTANCE" "Lsun/nio/cs/ISO_8859_1;" (.ref wI)) (S_wA : Sta Z h0 "sun/nio/cs/US_ASCII" "INSTANCE" "Lsun/nio/cs/US_ASCII;" (.ref wA)) (neU : ¬ wA = wU) (neI : ¬ wA = wI) :
    MetFree l (⟨"java/lang/String", "encode", "(Ljava/nio/charset/Charset;B[B)[B"⟩ : MethodName) (head1 (Jvm.Cond.code (⟨"java/lang/String", "encode", "(Ljava/nio/charset/Charset;B[B)[B"⟩ : MethodName) jdk_42_method_18_code 3 (some (.array .byte)) :: ws) ({ frames := 2, cells := 1, slots := 4, locals := 34 } : Room)) (fun a U => a = #[(.ref wA), (.int (0 : Int32)), (.ref a3)] ∧ Z.Warmed39 U.vm ∧ U.heap = h0) (fun _ _ _ _ _ => True) (fun _ U o U' => ∃ v L, o = .returned v ∧ Q24 Z wA a3 pn kb cf n wU wI h0 n0 v U'.heap L ∧ FrameEnd U o U' L ({ frames := 2, cells := 1, slots := 4, locals := 34 } : Room).cells ({ frames := 2, cells := 1, slots := 4, locals := 34 } : Room).slots) := by
  refine MetFree.of_bodySF (plainFor_of_name pn_24) hisR ?_
  intro p e s m args below meth c s₁ Bd hml0 hP hK
  obtain ⟨rfl, hZ, hh⟩ := hP
  have hx := Bd.exec
  have hby := Bd.bytes
  have hml : c.maxLocals = 3 := hml0
  have hown : s.vm.findClass "java/lang/String" = some m.cls := findClass_of_methodNamed Bd.named
  have hnm := (name_of_methodNamed Bd.named Bd.method).1
  have X0 : Stand p l e ({ frames := 2, cells := 1, slots := 4, locals := 34 } : Room) s m #[(.ref wA), (.int (0 : Int32)), (.ref a3)] below meth c s₁ [] 0 0 := Stand.of_body Bd
  have e0 : s₁.heap = h0 := by rw [← hh, Bd.state]; rfl
  have N0 := Fr.nil n0
  have K0 : Keep h0 h0 [] := Keep.refl _ _
  have P0 : ∀ t, Steps p.tables e below (s₁.setTop (mkF m 0 #[.val (.ref wA), .val (.int (0 : Int32)), .val (.ref a3)] [])) t → Steps p.tables e below (s₁.setTop (entryFrame m #[(.ref wA), (.int (0 : Int32)), (.ref a3)] 3)) t := fun t k => castTop (ef_24 m wA (0 : Int32) a3) k
  have P1 : ∀ t, Steps p.tables e below (s₁.setTop (mkF m 1 #[.val (.ref wA), .val (.int (0 : Int32)), .val (.ref a3)] [(.ref wA)])) t → Steps p.tables e below (s₁.setTop (entryFrame m #[(.ref wA), (.int (0 : Int32)), (.ref a3)] 3)) t := by
    intro t k
    refine P0 _ ?_
    refine XS.aloadN X0.here hx rfl (hb hby d24_0) rfl rfl ?_
    show Steps p.tables e below (s₁.setTop (mkF m 1 #[.val (.ref wA), .val (.int (0 : Int32)), .val (.ref a3)] [(.ref wA)])) _
    exact k
  obtain ⟨T2, X2, e2, st2⟩ := getS2 X0 hx hZ hown (host := "") (Or.inl (hw _ (List.mem_of_getElem? (i := 55) rfl))) Via.refl e0 S_wU (g := (mkF m 1 #[.val (.ref wA), .val (.int (0 : Int32)), .val (.ref a3)] [(.ref wA)])) rfl (hb hby d24_1)
  have P3 : ∀ t, Steps p.tables e below (T2.setTop (mkF m 4 #[.val (.ref wA), .val (.int (0 : Int32)), .val (.ref a3)] [(.ref wU), (.ref wA)])) t → Steps p.tables e below (s₁.setTop (entryFrame m #[(.ref wA), (.int (0 : Int32)), (.ref a3)] 3)) t := fun t k => P1 _ (st2 _ k)
  have P4 : ∀ t, Steps p.tables e below (T2.setTop (mkF m 15 #[.val (.ref wA), .val (.int (0 : Int32)), .val (.ref a3)] [(.ref wA)])) t → Steps p.tables e below (s₁.setTop (entryFrame m #[(.ref wA), (.int (0 : Int32)), (.ref a3)] 3)) t := by
    intro t k
    refine P3 _ ?_
    refine XT.acmpYes X2.here hx rfl (pc0 := 4) (pc' := 14) rfl (hb hby d24_4) rfl rfl rfl (XT.aa_ne_t (fun q => neU (Value.ref.inj q))) (by decide) (by decide) ?_
    show Steps p.tables e below (T2.setTop (mkF m 14 #[.val (.ref wA), .val (.int (0 : Int32)), .val (.ref a3)] [])) _
    refine XS.aloadN X2.here hx rfl (hb hby d24_14) rfl rfl ?_
    show Steps p.tables e below (T2.setTop (mkF m 15 #[.val (.ref wA), .val (.int (0 : Int32)), .val (.ref a3)] [(.ref wA)])) _
    exact k
  obtain ⟨T5, X5, e5, st5⟩ := getS2 X2 hx hZ hown (host := "") (Or.inl (hw _ (List.mem_of_getElem? (i := 57) rfl))) Via.refl e2 S_wI (g := (mkF m 15 #[.val (.ref wA), .val (.int (0 : Int32)), .val (.ref a3)] [(.ref wA)])) rfl (hb hby d24_15)
  have P6 : ∀ t, Steps p.tables e below (T5.setTop (mkF m 18 #[.val (.ref wA), .val (.int (0 : Int32)), .val (.ref a3)] [(.ref wI), (.ref wA)])) t → Steps p.tables e below (s₁.setTop (entryFrame m #[(.ref wA), (.int (0 : Int32)), (.ref a3)] 3)) t := fun t k => P4 _ (st5 _ k)
  have P7 : ∀ t, Steps p.tables e below (T5.setTop (mkF m 28 #[.val (.ref wA), .val (.int (0 : Int32)), .val (.ref a3)] [(.ref wA)])) t → Steps p.tables e below (s₁.setTop (entryFrame m #[(.ref wA), (.int (0 : Int32)), (.ref a3)] 3)) t := by
    intro t k
    refine P6 _ ?_
    refine XT.acmpYes X5.here hx rfl (pc0 := 18) (pc' := 27) rfl (hb hby d24_18) rfl rfl rfl (XT.aa_ne_t (fun q => neI (Value.ref.inj q))) (by decide) (by decide) ?_
    show Steps p.tables e below (T5.setTop (mkF m 27 #[.val (.ref wA), .val (.int (0 : Int32)), .val (.ref a3)] [])) _
    refine XS.aloadN X5.here hx rfl (hb hby d24_27) rfl rfl ?_
    show Steps p.tables e below (T5.setTop (mkF m 28 #[.val (.ref wA), .val (.int (0 : Int32)), .val (.ref a3)] [(.ref wA)])) _
    exact k
  obtain ⟨T8, X8, e8, st8⟩ := getS2 X5 hx hZ hown (host := "") (Or.inl (hw _ (List.mem_of_getElem? (i := 59) rfl))) Via.refl e5 S_wA (g := (mkF m 28 #[.val (.ref wA), .val (.int (0 : Int32)), .val (.ref a3)] [(.ref wA)])) rfl (hb hby d24_28)
  have P9 : ∀ t, Steps p.tables e below (T8.setTop (mkF m 31 #[.val (.ref wA), .val (.int (0 : Int32)), .val (.ref a3)] [(.ref wA), (.ref wA)])) t → Steps p.tables e below (s₁.setTop (entryFrame m #[(.ref wA), (.int (0 : Int32)), (.ref a3)] 3)) t := fun t k => P7 _ (st8 _ k)
  have P10 : ∀ t, Steps p.tables e below (T8.setTop (mkF m 36 #[.val (.ref wA), .val (.int (0 : Int32)), .val (.ref a3)] [(.ref a3), (.int (0 : Int32))])) t → Steps p.tables e below (s₁.setTop (entryFrame m #[(.ref wA), (.int (0 : Int32)), (.ref a3)] 3)) t := by
    intro t k
    refine P9 _ ?_
    refine XT.acmpNo X8.here hx rfl (hb hby d24_31) rfl rfl rfl (XT.aa_ne_f (congrArg Value.ref rfl)) ?_
    show Steps p.tables e below (T8.setTop (mkF m 34 #[.val (.ref wA), .val (.int (0 : Int32)), .val (.ref a3)] [])) _
    refine XS.iloadN X8.here hx rfl (hb hby d24_34) rfl ?_
    show Steps p.tables e below (T8.setTop (mkF m 35 #[.val (.ref wA), .val (.int (0 : Int32)), .val (.ref a3)] [(.int (0 : Int32))])) _
    refine XS.aloadN X8.here hx rfl (hb hby d24_35) rfl rfl ?_
    show Steps p.tables e below (T8.setTop (mkF m 36 #[.val (.ref wA), .val (.int (0 : Int32)), .val (.ref a3)] [(.ref a3), (.int (0 : Int32))])) _
    exact k
  obtain ⟨_, _, ⟨T11, L11, k11, n11⟩, -, X11, ⟨Lc11, hQ11, l11, y11, z11⟩, st11⟩ := Jvm.LawKit.callS X8 hx (y := (⟨"java/lang/String", "encodeASCII", "(B[B)[B"⟩ : MethodName)) hown (mvT hZ (hw _ (List.mem_of_getElem? (i := 61) rfl))) (mvT hZ (hw _ (List.mem_of_getElem? (i := 62) rfl))) (mvT hZ (hw _ (List.mem_of_getElem? (i := 9) rfl))) (mvT hZ (hw _ (List.mem_of_getElem? (i := 63) rfl))) (by decide) (backOf (W := 0) (rm23 l Z a0 hw [] a3 pn kb cf n h0 n0 Z0 A_b E_b hn hn4 hcs) hZ (hw _ (List.mem_of_getElem? (i := 63) rfl)) (hw _ (List.mem_of_getElem? (i := 9) rfl)) (by decide) (by decide)) (g := (mkF m 36 #[.val (.ref wA), .val (.int (0 : Int32)), .val (.ref a3)] [(.ref a3), (.int (0 : Int32))])) rfl (by rw [hml]; rfl) (argsL := [(.int (0 : Int32)), (.ref a3)]) (rest := []) (lenOf pd_5 rfl) rfl (by show 2 * 0 + _ ≤ _; exact Nat.le_of_eq rfl) (hb hby d24_36) (fun _ _ => ⟨rfl, e8, (by decide : 0 + 1 ≤ _), (by decide : 0 + 4 ≤ _)⟩)
  dsimp only [Pt.U, Pt.locs, Pt.cells, Pt.slots] at X11 l11 y11 z11 st11 hQ11
  subst l11 y11 z11
  obtain ⟨b_11, rfl, N11q, K11, s11_b, Y11_0, Y11_1⟩ := hQ11
  have F12 : own_Af Z T11.heap a3 kb .byte pn (fun i => Value.int (cf i)) := A_b.keep K11 nin0
  have F13 : Exa Z T11.heap a3 "[B" := E_b.keep K11
  have Z14 : n0 ≤ T11.heap.size := Nat.le_trans Z0 K11.1
  have K15 : Keep h0 T11.heap [] := K0.trans K11 all0
  have g_b_11 : n0 ≤ b_11 := Nat.le_trans Z0 s11_b
  have sz_b_11 : h0.size ≤ b_11 := Nat.le_trans K0.1 s11_b
  have ne_a3_b_11 : a3 ≠ b_11 := Nat.ne_of_lt (Nat.lt_of_lt_of_le A_b.lt s11_b)
  have N11 := Fr.app N0 N11q
  have P16 : ∀ t, Steps p.tables e below (T11.setTop (mkF m 39 #[.val (.ref wA), .val (.int (0 : Int32)), .val (.ref a3)] [(.ref b_11)])) t → Steps p.tables e below (s₁.setTop (entryFrame m #[(.ref wA), (.int (0 : Int32)), (.ref a3)] 3)) t := fun t k => P10 _ (st11 _ k)
  obtain ⟨fs, hr, hrun, hended, hW, hsame⟩ := X11.leave (v := some (.ref b_11)) (fun h => by rw [Bd.returns] at h; cases h)
  refine ⟨_, _, P16 _ ?_, hrun, hended, _, _, rfl, ?_, ⟨_, rfl⟩, hW, hsame.mono (by decide) (by decide)⟩
  · jvm_step X11.here [X11.here.top, hx, (hb hby d24_39), X11.method', Bd.returns, Value.isRef, FieldType.isReference]
    first | (intro acts; rw [hr _ acts rfl rfl rfl]) | rw [hr _ _ rfl rfl rfl]
    exact Steps.refl _
  · show Q24 Z wA a3 pn kb cf n wU wI h0 n0 _ T11.heap _
    exact ⟨b_11, rfl, N11, K15, sz_b_11, Y11_0, Y11_1⟩
theorem d25_0 : decode jdk_42_method_64_code 0 = .ok (.aload_n 1, 1) := by decide +kernel
theorem d25_1 : decode jdk_42_method_64_code 1 = .ok (.ifnonnull 11, 3) := by decide +kernel
theorem d25_12 : decode jdk_42_method_64_code 12 = .ok (.aload_n 1, 1) := by decide +kernel
theorem d25_13 : decode jdk_42_method_64_code 13 = .ok (.aload_n 0, 1) := by decide +kernel
theorem d25_14 : decode jdk_42_method_64_code 14 = .ok (.invokevirtual 335, 3) := by decide +kernel
theorem d25_17 : decode jdk_42_method_64_code 17 = .ok (.aload_n 0, 1) := by decide +kernel
theorem d25_18 : decode jdk_42_method_64_code 18 = .ok (.getfield 9, 3) := by decide +kernel
theorem d25_21 : decode jdk_42_method_64_code 21 = .ok (.invokestatic 535, 3) := by decide +kernel
theorem d25_24 : decode jdk_42_method_64_code 24 = .ok (.areturn, 1) := by decide +kernel
theorem pn_25 : plainName "java/lang/String" = true := by first | (simp [plainName, overriddenIn]; done) | decide +kernel
theorem ef_25 (m : MethodId) (x0 : Addr) (x1 : Addr) : entryFrame m #[(.ref x0), (.ref x1)] 2 = mkF m 0 #[.val (.ref x0), .val (.ref x1)] [] := by first | (simp [entryFrame, mkF, argsToLocals, Value.category]; done) | rfl
def Q25 (Z : State) (a1 : Addr) (wA : Addr) (bv : Addr) (pn : Int32) (kb : ClassId) (cf : Nat → Int32) (n : Nat) (wU : Addr) (wI : Addr) (ccs : Int32) (h0 : Heap) (n0 : Nat) (v : Option Value) (h : Heap) (L : List Loc) : Prop := ∃ (b : Addr), v = some (.ref b) ∧ Fr n0 L ∧ Keep h0 h [] ∧ h0.size ≤ b ∧ own_Af Z h b kb .byte pn (fun i => Value.int (cf i)) ∧ Exa Z h b "[B"
set_option maxRecDepth 65536 in
set_option maxHeartbeats 40000000 in
theorem rm25 (l : Launch) (Z : State) (a0 : Array Value) (hw : ∀ d ∈ tables_1, d.before a0 Z = true) (ws : List Jvm.Cond) (a1 : Addr) (wA : Addr) (bv : Addr) (pn : Int32) (kb : ClassId) (cf : Nat → Int32) (n : Nat) (wU : Addr) (wI : Addr) (ccs : Int32) (h0 : Heap) (n0 : Nat) (Z0 : n0 ≤ h0.size) (E_a : Exa Z h0 a1 "java/lang/String") (F_v : Fld Z h0 a1 "java/lang/String" "value" "[B" (.ref bv)) (F_k : Fld Z h0 a1 "java/lang/String" "coder" "B" (.int (0 : Int32))) (A_b : own_Af Z h0 bv kb .byte pn (fun i => Value.int (cf i))) (E_b : Exa Z h0 bv "[B") (hn : pn.toInt = n) (hn4 : n ≤ 4) (hcs : own_cs pn cf) (S_wU : Sta Z h0 "sun/nio/cs/UTF_8" "INSTANCE" "Lsun/nio/cs/UTF_8;" (.ref wU)) (S_wI : Sta Z h0 "sun/nio/cs/ISO_8859_1" "INSTANCE" "Lsun/nio/cs/ISO_8859_1;" (.ref wI)) (S_wA : Sta Z h0 "sun/nio/cs/US_ASCII" "INSTANCE" "Lsun/nio/cs/US_ASCII;" (.ref wA)) (neU : ¬ wA = wU) (neI : ¬ wA = wI) (S_cs : Sta Z h0 "java/lang/String" "COMPACT_STRINGS" "Z" (.int ccs)) (hcc : ¬ ccs = (0 : Int32)) :
    MetFree l (⟨"java/lang/String", "getBytes", "(Ljava/nio/charset/Charset;)[B"⟩ : MethodName) (head1 (Jvm.Cond.code (⟨"java/lang/String", "getBytes", "(Ljava/nio/charset/Charset;)[B"⟩ : MethodName) jdk_42_method_64_code 2 (some (.array .byte)) :: ws) ({ frames := 3, cells := 1, slots := 4, locals := 48 } : Room)) (fun a U => a = #[(.ref a1), (.ref wA)] ∧ Z.Warmed39 U.vm ∧ U.heap = h0) (fun _ _ _ _ _ => True) (fun _ U o U' => ∃ v L, o = .returned v ∧ Q25 Z a1 wA bv pn kb cf n wU wI ccs h0 n0 v U'.heap L ∧ FrameEnd U o U' L ({ frames := 3, cells := 1, slots := 4, locals := 48 } : Room).cells ({ frames := 3, cells := 1, slots := 4, locals := 48 } : Room).slots) := by
  refine MetFree.of_bodySF (plainFor_of_name pn_25) hisR ?_
  intro p e s m args below meth c s₁ Bd hml0 hP hK
  obtain ⟨rfl, hZ, hh⟩ := hP
  have hx := Bd.exec
  have hby := Bd.bytes
  have hml : c.maxLocals = 2 := hml0
  have hown : s.vm.findClass "java/lang/String" = some m.cls := findClass_of_methodNamed Bd.named
  have hnm := (name_of_methodNamed Bd.named Bd.method).1
  have X0 : Stand p l e ({ frames := 3, cells := 1, slots := 4, locals := 48 } : Room) s m #[(.ref a1), (.ref wA)] below meth c s₁ [] 0 0 := Stand.of_body Bd
  have e0 : s₁.heap = h0 := by rw [← hh, Bd.state]; rfl
  have N0 := Fr.nil n0
  have K0 : Keep h0 h0 [] := Keep.refl _ _
  have P0 : ∀ t, Steps p.tables e below (s₁.setTop (mkF m 0 #[.val (.ref a1), .val (.ref wA)] [])) t → Steps p.tables e below (s₁.setTop (entryFrame m #[(.ref a1), (.ref wA)] 2)) t := fun t k => castTop (ef_25 m a1 wA) k
  have P1 : ∀ t, Steps p.tables e below (s₁.setTop (mkF m 14 #[.val (.ref a1), .val (.ref wA)] [(.ref a1), (.ref wA)])) t → Steps p.tables e below (s₁.setTop (entryFrame m #[(.ref a1), (.ref wA)] 2)) t := by
    intro t k
    refine P0 _ ?_
    refine XS.aloadN X0.here hx rfl (hb hby d25_0) rfl rfl ?_
    show Steps p.tables e below (s₁.setTop (mkF m 1 #[.val (.ref a1), .val (.ref wA)] [(.ref wA)])) _
    refine XT.ifnonnullYes X0.here hx rfl (pc0 := 1) (pc' := 12) rfl (hb hby d25_1) rfl (by decide) (by decide) ?_
    show Steps p.tables e below (s₁.setTop (mkF m 12 #[.val (.ref a1), .val (.ref wA)] [])) _
    refine XS.aloadN X0.here hx rfl (hb hby d25_12) rfl rfl ?_
    show Steps p.tables e below (s₁.setTop (mkF m 13 #[.val (.ref a1), .val (.ref wA)] [(.ref wA)])) _
    refine XS.aloadN X0.here hx rfl (hb hby d25_13) rfl rfl ?_
    show Steps p.tables e below (s₁.setTop (mkF m 14 #[.val (.ref a1), .val (.ref wA)] [(.ref a1), (.ref wA)])) _
    exact k
  obtain ⟨cq2, kq2, qa2, qb2, qc2⟩ := isOf hZ e0 E_a
  obtain ⟨_, _, ⟨T2, L2, k2, n2⟩, -, X2, ⟨Lc2, hQ2, l2, y2, z2⟩, st2⟩ := X0.virtualBack hx (y := (⟨"java/lang/String", "coder", "()B"⟩ : MethodName)) (z := (⟨"java/lang/String", "coder", "()B"⟩ : MethodName)) hown (mvT hZ (hw _ (List.mem_of_getElem? (i := 47) rfl))) (mvT hZ (hw _ (List.mem_of_getElem? (i := 48) rfl))) (notFace_of_selects (args := #[]) (mvT hZ (hw _ (List.mem_of_getElem? (i := 50) rfl)))) (mvT hZ (hw _ (List.mem_of_getElem? (i := 50) rfl))) (mvT hZ (hw _ (List.mem_of_getElem? (i := 49) rfl))) (by decide) (backOf (W := 1) (rm21 l Z a0 hw [] a1 ccs h0 n0 Z0 F_k S_cs hcc) hZ (hw _ (List.mem_of_getElem? (i := 51) rfl)) (hw _ (List.mem_of_getElem? (i := 9) rfl)) (by decide) (by decide)) qa2 qc2 (g := (mkF m 14 #[.val (.ref a1), .val (.ref wA)] [(.ref a1), (.ref wA)])) rfl (by rw [hml]; rfl) (Steps.refl _) (argsL := []) (rest := [(.ref wA)]) (lenOf pd_6 rfl) rfl (by show 2 * 0 + _ ≤ _; exact Nat.le_of_eq rfl) (hb hby d25_14) (fun _ _ => ⟨rfl, e0, (by decide : 0 + 0 ≤ _), (by decide : 0 + 0 ≤ _)⟩)
  dsimp only [Pt.U, Pt.locs, Pt.cells, Pt.slots] at X2 l2 y2 z2 st2 hQ2
  subst l2 y2 z2
  obtain ⟨rfl, N2q, e2⟩ := hQ2
  have N2 := Fr.app N0 N2q
  have P3 : ∀ t, Steps p.tables e below (T2.setTop (mkF m 17 #[.val (.ref a1), .val (.ref wA)] [(.int (0 : Int32)), (.ref wA)])) t → Steps p.tables e below (s₁.setTop (entryFrame m #[(.ref a1), (.ref wA)] 2)) t := fun t k => P1 _ (st2.trans k)
  have P4 : ∀ t, Steps p.tables e below (T2.setTop (mkF m 18 #[.val (.ref a1), .val (.ref wA)] [(.ref a1), (.int (0 : Int32)), (.ref wA)])) t → Steps p.tables e below (s₁.setTop (entryFrame m #[(.ref a1), (.ref wA)] 2)) t := by
    intro t k
    refine P3 _ ?_
    refine XS.aloadN X2.here hx rfl (hb hby d25_17) rfl rfl ?_
    show Steps p.tables e below (T2.setTop (mkF m 18 #[.val (.ref a1), .val (.ref wA)] [(.ref a1), (.int (0 : Int32)), (.ref wA)])) _
    exact k
  obtain ⟨T5, X5, e5, st5⟩ := getF X2 hx hZ hown (host := "") (Or.inl (hw _ (List.mem_of_getElem? (i := 34) rfl))) Via.refl e2 F_v (g := (mkF m 18 #[.val (.ref a1), .val (.ref wA)] [(.ref a1), (.int (0 : Int32)), (.ref wA)])) rfl rfl (hb hby d25_18)
  have P6 : ∀ t, Steps p.tables e below (T5.setTop (mkF m 21 #[.val (.ref a1), .val (.ref wA)] [(.ref bv), (.int (0 : Int32)), (.ref wA)])) t → Steps p.tables e below (s₁.setTop (entryFrame m #[(.ref a1), (.ref wA)] 2)) t := fun t k => P4 _ (st5 _ k)
  obtain ⟨_, _, ⟨T7, L7, k7, n7⟩, -, X7, ⟨Lc7, hQ7, l7, y7, z7⟩, st7⟩ := Jvm.LawKit.callS X5 hx (y := (⟨"java/lang/String", "encode", "(Ljava/nio/charset/Charset;B[B)[B"⟩ : MethodName)) hown (mvT hZ (hw _ (List.mem_of_getElem? (i := 52) rfl))) (mvT hZ (hw _ (List.mem_of_getElem? (i := 53) rfl))) (mvT hZ (hw _ (List.mem_of_getElem? (i := 9) rfl))) (mvT hZ (hw _ (List.mem_of_getElem? (i := 54) rfl))) (by decide) (backOf (W := 0) (rm24 l Z a0 hw [] wA bv pn kb cf n wU wI h0 n0 Z0 A_b E_b hn hn4 hcs S_wU S_wI S_wA neU neI) hZ (hw _ (List.mem_of_getElem? (i := 54) rfl)) (hw _ (List.mem_of_getElem? (i := 9) rfl)) (by decide) (by decide)) (g := (mkF m 21 #[.val (.ref a1), .val (.ref wA)] [(.ref bv), (.int (0 : Int32)), (.ref wA)])) rfl (by rw [hml]; rfl) (argsL := [(.ref wA), (.int (0 : Int32)), (.ref bv)]) (rest := []) (lenOf pd_7 rfl) rfl (by show 2 * 0 + _ ≤ _; exact Nat.le_of_eq rfl) (hb hby d25_21) (fun _ _ => ⟨rfl, e5, (by decide : 0 + 1 ≤ _), (by decide : 0 + 4 ≤ _)⟩)
  dsimp only [Pt.U, Pt.locs, Pt.cells, Pt.slots] at X7 l7 y7 z7 st7 hQ7
  subst l7 y7 z7
  obtain ⟨b_7, rfl, N7q, K7, s7_b, Y7_0, Y7_1⟩ := hQ7
  have F8 : Exa Z T7.heap a1 "java/lang/String" := E_a.keep K7
  have F9 : Fld Z T7.heap a1 "java/lang/String" "value" "[B" (.ref bv) := F_v.keep K7 nin0
  have F10 : Fld Z T7.heap a1 "java/lang/String" "coder" "B" (.int (0 : Int32)) := F_k.keep K7 nin0
  have F11 : own_Af Z T7.heap bv kb .byte pn (fun i => Value.int (cf i)) := A_b.keep K7 nin0
  have F12 : Exa Z T7.heap bv "[B" := E_b.keep K7
  have Z13 : n0 ≤ T7.heap.size := Nat.le_trans Z0 K7.1
  have K14 : Keep h0 T7.heap [] := K0.trans K7 all0
  have g_b_7 : n0 ≤ b_7 := Nat.le_trans Z0 s7_b
  have sz_b_7 : h0.size ≤ b_7 := Nat.le_trans K0.1 s7_b
  have ne_a1_b_7 : a1 ≠ b_7 := Nat.ne_of_lt (Nat.lt_of_lt_of_le E_a.lt s7_b)
  have ne_bv_b_7 : bv ≠ b_7 := Nat.ne_of_lt (Nat.lt_of_lt_of_le A_b.lt s7_b)
  have N7 := Fr.app N2 N7q
  have P15 : ∀ t, Steps p.tables e below (T7.setTop (mkF m 24 #[.val (.ref a1), .val (.ref wA)] [(.ref b_7)])) t → Steps p.tables e below (s₁.setTop (entryFrame m #[(.ref a1), (.ref wA)] 2)) t := fun t k => P6 _ (st7 _ k)
  obtain ⟨fs, hr, hrun, hended, hW, hsame⟩ := X7.leave (v := some (.ref b_7)) (fun h => by rw [Bd.returns] at h; cases h)
  refine ⟨_, _, P15 _ ?_, hrun, hended, _, _, rfl, ?_, ⟨_, rfl⟩, hW, hsame.mono (by decide) (by decide)⟩
  · jvm_step X7.here [X7.here.top, hx, (hb hby d25_24), X7.method', Bd.returns, Value.isRef, FieldType.isReference]
    first | (intro acts; rw [hr _ acts rfl rfl rfl]) | rw [hr _ _ rfl rfl rfl]
    exact Steps.refl _
  · show Q25 Z a1 wA bv pn kb cf n wU wI ccs h0 n0 _ T7.heap _
    exact ⟨b_7, rfl, N7, K14, sz_b_7, Y7_0, Y7_1⟩
theorem d26_0 : decode jdk_65_method_109_code 0 = .ok (.iconst 0, 1) := by decide +kernel
theorem d26_1 : decode jdk_65_method_109_code 1 = .ok (.istore_n 2, 1) := by decide +kernel
theorem d26_2 : decode jdk_65_method_109_code 2 = .ok (.aload_n 0, 1) := by decide +kernel
theorem d26_3 : decode jdk_65_method_109_code 3 = .ok (.arraylength, 1) := by decide +kernel
theorem d26_4 : decode jdk_65_method_109_code 4 = .ok (.istore_n 3, 1) := by decide +kernel
theorem d26_5 : decode jdk_65_method_109_code 5 = .ok (.iload_n 2, 1) := by decide +kernel
theorem d26_6 : decode jdk_65_method_109_code 6 = .ok (.iload_n 3, 1) := by decide +kernel
theorem d26_7 : decode jdk_65_method_109_code 7 = .ok (.if_icmp .ge 13, 3) := by decide +kernel
theorem d26_10 : decode jdk_65_method_109_code 10 = .ok (.aload_n 0, 1) := by decide +kernel
theorem d26_11 : decode jdk_65_method_109_code 11 = .ok (.iload_n 2, 1) := by decide +kernel
theorem d26_12 : decode jdk_65_method_109_code 12 = .ok (.iload_n 1, 1) := by decide +kernel
theorem d26_13 : decode jdk_65_method_109_code 13 = .ok (.bastore, 1) := by decide +kernel
theorem d26_14 : decode jdk_65_method_109_code 14 = .ok (.iinc 2 1, 3) := by decide +kernel
theorem d26_17 : decode jdk_65_method_109_code 17 = .ok (.goto (-12), 3) := by decide +kernel
theorem d26_20 : decode jdk_65_method_109_code 20 = .ok (.return_, 1) := by decide +kernel
set_option maxRecDepth 65536 in
set_option maxHeartbeats 40000000 in
theorem tn26 {p : Program} {l : Launch} {e : Env} {R : Room} {s : State} {m : MethodId} {args : Array Value} {below : List Frame} {meth : Method} {c : Code} {T : State} {locs : List Loc} {cells slots : Nat} {Z : State} {a0 : Array Value} {h0 : Heap} {n0 : Nat} (a1 : Addr) (p2 : Int32) (iv : Int32) (pn : Int32) (kb : ClassId) (f3 : Nat → Value) (vb : Int32)
    (X0 : Stand p l e R s m args below meth c T locs cells slots) (hx : p.tables.exec = Jvm.exec) (hZ : Z.Warmed39 s.vm) (hw : ∀ d ∈ tables_1, d.before a0 Z = true) (hby : c.code = jdk_65_method_109_code) (hml : c.maxLocals = 4) (hown : s.vm.findClass "java/util/Arrays" = some m.cls) (e0 : T.heap = h0) (N0 : Fr n0 locs) (Z0 : n0 ≤ h0.size) (A_b : own_Af Z h0 a1 kb .byte pn f3) (g_b : n0 ≤ a1) (hlt : iv < pn) (hj : ¬ iv < (0 : Int32) ∧ iv < pn) (hvb : nar .byte p2 = vb) :
    ∃ (T' : State) (h' : Heap) (locs' : List Loc), Stand p l e R s m args below meth c T' locs' cells slots ∧ T'.heap = h' ∧ Fr n0 locs' ∧ Keep h0 h' [a1] ∧ own_Af Z h' a1 kb .byte pn (fun i => if i = (iv).toNatClampNeg then (.int vb) else f3 i) ∧
      ∀ t, Steps p.tables e below (T'.setTop (mkF m 5 #[.val (.ref a1), .val (.int p2), .val (.int (iv + (1 : Int32))), .val (.int pn)] [])) t → Steps p.tables e below (T.setTop (mkF m 5 #[.val (.ref a1), .val (.int p2), .val (.int iv), .val (.int pn)] [])) t := by
  have K0 : Keep h0 h0 [a1] := Keep.refl _ _
  have P0 : ∀ t, Steps p.tables e below (T.setTop (mkF m 5 #[.val (.ref a1), .val (.int p2), .val (.int iv), .val (.int pn)] [])) t → Steps p.tables e below (T.setTop (mkF m 5 #[.val (.ref a1), .val (.int p2), .val (.int iv), .val (.int pn)] [])) t := fun t k => k
  have P1 : ∀ t, Steps p.tables e below (T.setTop (mkF m 13 #[.val (.ref a1), .val (.int p2), .val (.int iv), .val (.int pn)] [(.int p2), (.int iv), (.ref a1)])) t → Steps p.tables e below (T.setTop (mkF m 5 #[.val (.ref a1), .val (.int p2), .val (.int iv), .val (.int pn)] [])) t := by
    intro t k
    refine P0 _ ?_
    refine XS.iloadN X0.here hx rfl (hb hby d26_5) rfl ?_
    show Steps p.tables e below (T.setTop (mkF m 6 #[.val (.ref a1), .val (.int p2), .val (.int iv), .val (.int pn)] [(.int iv)])) _
    refine XS.iloadN X0.here hx rfl (hb hby d26_6) rfl ?_
    show Steps p.tables e below (T.setTop (mkF m 7 #[.val (.ref a1), .val (.int p2), .val (.int iv), .val (.int pn)] [(.int pn), (.int iv)])) _
    refine XS.icmpNo X0.here hx rfl (hb hby d26_7) rfl (XT.ii_ge_f hlt) ?_
    show Steps p.tables e below (T.setTop (mkF m 10 #[.val (.ref a1), .val (.int p2), .val (.int iv), .val (.int pn)] [])) _
    refine XS.aloadN X0.here hx rfl (hb hby d26_10) rfl rfl ?_
    show Steps p.tables e below (T.setTop (mkF m 11 #[.val (.ref a1), .val (.int p2), .val (.int iv), .val (.int pn)] [(.ref a1)])) _
    refine XS.iloadN X0.here hx rfl (hb hby d26_11) rfl ?_
    show Steps p.tables e below (T.setTop (mkF m 12 #[.val (.ref a1), .val (.int p2), .val (.int iv), .val (.int pn)] [(.int iv), (.ref a1)])) _
    refine XS.iloadN X0.here hx rfl (hb hby d26_12) rfl ?_
    show Steps p.tables e below (T.setTop (mkF m 13 #[.val (.ref a1), .val (.int p2), .val (.int iv), .val (.int pn)] [(.int p2), (.int iv), (.ref a1)])) _
    exact k
  obtain ⟨cl2, Ar2, q2, S2, M2, H2, G2⟩ := A_b
  have in2 : ¬ (iv < 0 ∨ cl2.slots.size ≤ (iv).toNatClampNeg) := inb_of S2 hj
  obtain ⟨T2, h2, X2, e2, W2, st2⟩ := stB X0 hx hZ e0 Ar2 (j := iv) in2 (g := (mkF m 13 #[.val (.ref a1), .val (.int p2), .val (.int iv), .val (.int pn)] [(.int p2), (.int iv), (.ref a1)])) rfl rfl (hb hby d26_13)
  have r2 : nar .byte p2 = vb := hvb
  rw [r2] at W2
  have F3 : own_Af Z h2 a1 kb .byte pn (fun i => if i = (iv).toNatClampNeg then (.int vb) else f3 i) := own_Af.set Ar2 q2 S2 M2 H2 G2 (by rw [← r2]; exact fits_nar_byte _) W2 (Nat.lt_of_not_le fun y => in2 (Or.inr y))
  have Z4 : n0 ≤ h2.size := Nat.le_trans Z0 (Keep.of_wr W2).1
  have K5 : Keep h0 h2 [a1] := K0.wr W2 (Or.inl (List.mem_of_getElem? (i := 0) rfl))
  have N2 := Fr.snoc X2 N0 g_b
  have P6 : ∀ t, Steps p.tables e below (T2.setTop (mkF m 14 #[.val (.ref a1), .val (.int p2), .val (.int iv), .val (.int pn)] [])) t → Steps p.tables e below (T.setTop (mkF m 5 #[.val (.ref a1), .val (.int p2), .val (.int iv), .val (.int pn)] [])) t := fun t k => P1 _ (st2 _ k)
  have P7 : ∀ t, Steps p.tables e below (T2.setTop (mkF m 5 #[.val (.ref a1), .val (.int p2), .val (.int (iv + (1 : Int32))), .val (.int pn)] [])) t → Steps p.tables e below (T.setTop (mkF m 5 #[.val (.ref a1), .val (.int p2), .val (.int iv), .val (.int pn)] [])) t := by
    intro t k
    refine P6 _ ?_
    refine XS.iinc X2.here hx rfl (hb hby d26_14) rfl (l' := #[.val (.ref a1), .val (.int p2), .val (.int (iv + (1 : Int32))), .val (.int pn)]) rfl ?_
    show Steps p.tables e below (T2.setTop (mkF m 17 #[.val (.ref a1), .val (.int p2), .val (.int (iv + (1 : Int32))), .val (.int pn)] [])) _
    refine XS.goto X2.here hx rfl (pc0 := 17) (pc' := 5) rfl (hb hby d26_17) (by decide) (by decide) ?_
    show Steps p.tables e below (T2.setTop (mkF m 5 #[.val (.ref a1), .val (.int p2), .val (.int (iv + (1 : Int32))), .val (.int pn)] [])) _
    exact k
  exact ⟨T2, h2, _, X2, e2, N2, K5, F3, P7⟩
set_option maxRecDepth 65536 in
set_option maxHeartbeats 40000000 in
theorem lv26 {p : Program} {l : Launch} {e : Env} {R : Room} {s : State} {m : MethodId} {args : Array Value} {below : List Frame} {meth : Method} {c : Code} {T : State} {locs : List Loc} {cells slots : Nat} {Z : State} {a0 : Array Value} {h0 : Heap} (a1 : Addr) (p2 : Int32) (iv : Int32) (pn : Int32)
    (X0 : Stand p l e R s m args below meth c T locs cells slots) (hx : p.tables.exec = Jvm.exec) (hZ : Z.Warmed39 s.vm) (hw : ∀ d ∈ tables_1, d.before a0 Z = true) (hby : c.code = jdk_65_method_109_code) (hown : s.vm.findClass "java/util/Arrays" = some m.cls) (e0 : T.heap = h0) (hge : ¬ iv < pn) :
    ∀ t, Steps p.tables e below (T.setTop (mkF m 20 #[.val (.ref a1), .val (.int p2), .val (.int iv), .val (.int pn)] [])) t → Steps p.tables e below (T.setTop (mkF m 5 #[.val (.ref a1), .val (.int p2), .val (.int iv), .val (.int pn)] [])) t := by
  intro t k
  refine XS.iloadN X0.here hx rfl (hb hby d26_5) rfl ?_
  show Steps p.tables e below (T.setTop (mkF m 6 #[.val (.ref a1), .val (.int p2), .val (.int iv), .val (.int pn)] [(.int iv)])) _
  refine XS.iloadN X0.here hx rfl (hb hby d26_6) rfl ?_
  show Steps p.tables e below (T.setTop (mkF m 7 #[.val (.ref a1), .val (.int p2), .val (.int iv), .val (.int pn)] [(.int pn), (.int iv)])) _
  refine XS.icmpYes X0.here hx rfl (pc0 := 7) (pc' := 20) rfl (hb hby d26_7) rfl (XT.ii_ge_t hge) (by decide) (by decide) ?_
  show Steps p.tables e below (T.setTop (mkF m 20 #[.val (.ref a1), .val (.int p2), .val (.int iv), .val (.int pn)] [])) _
  exact k
set_option maxRecDepth 65536 in
theorem loop26 {p : Program} {l : Launch} {e : Env} {R : Room} {s : State} {m : MethodId} {args : Array Value} {below : List Frame} {meth : Method} {c : Code} {Z : State} {a0 : Array Value} {n0 : Nat} {cells slots : Nat} (a1 : Addr) (p2 pn : Int32) (kb : ClassId) (vb : Int32) (n : Nat) (hx : p.tables.exec = Jvm.exec) (hZ : Z.Warmed39 s.vm) (hw : ∀ d ∈ tables_1, d.before a0 Z = true) (hby : c.code = jdk_65_method_109_code) (hml : c.maxLocals = 4) (hown : s.vm.findClass "java/util/Arrays" = some m.cls) (hn : pn.toInt = n) (hn4 : n < 5000) (g_b : n0 ≤ a1) (hvb : nar .byte p2 = vb) (k : Nat) :
    ∀ (T : State) (locs : List Loc) (h0 : Heap) (i : Nat) (iv : Int32) (f3 : Nat → Value), Stand p l e R s m args below meth c T locs cells slots → T.heap = h0 → Fr n0 locs → n0 ≤ h0.size → own_Af Z h0 a1 kb .byte pn f3 → i + k = n → iv.toInt = i → (∀ j, j < i → f3 j = .int vb) →
      ∃ (T' : State) (h' : Heap) (locs' : List Loc) (jv : Int32), Stand p l e R s m args below meth c T' locs' cells slots ∧ T'.heap = h' ∧ Fr n0 locs' ∧ Keep h0 h' [a1] ∧ own_Af Z h' a1 kb .byte pn (fun _ => Value.int vb) ∧
        ∀ t, Steps p.tables e below (T'.setTop (mkF m 20 #[.val (.ref a1), .val (.int p2), .val (.int jv), .val (.int pn)] [])) t → Steps p.tables e below (T.setTop (mkF m 5 #[.val (.ref a1), .val (.int p2), .val (.int iv), .val (.int pn)] [])) t := by
  induction k with
  | zero =>
    intro T locs h0 i iv f3 X0 e0 N0 Z0 A_b h1 h2 h3
    refine ⟨T, h0, locs, iv, X0, e0, N0, Keep.refl _ _, A_b.same (fun j hj => (h3 j (by rw [own_nat hn] at hj; omega)).symm), ?_⟩
    exact lv26 a1 p2 iv pn X0 hx hZ hw hby hown e0 (by rw [Int32.lt_iff_toInt_lt]; omega)
  | succ k ih =>
    intro T locs h0 i iv f3 X0 e0 N0 Z0 A_b h1 h2 h3
    have hj : ¬ iv < (0 : Int32) ∧ iv < pn := own_jn (by omega) (by omega)
    obtain ⟨T1, h1', locs1, X1, e1, N1, K1, B1, st1⟩ := tn26 a1 p2 iv pn kb f3 vb X0 hx hZ hw hby hml hown e0 N0 Z0 A_b g_b hj.2 hj hvb
    obtain ⟨T2, h2', locs2, jv, X2, e2, N2, K2, B2, st2⟩ := ih T1 locs1 h1' (i + 1) (iv + (1 : Int32)) _ X1 e1 N1 (Nat.le_trans Z0 K1.1) B1 (by omega) (own_inc h2 (by omega)) (fun j hj' => by
      rw [own_nat h2]
      by_cases q : j = i
      · simp [q]
      · simp only [q, if_false]; exact h3 j (by omega))
    exact ⟨T2, h2', locs2, jv, X2, e2, N2, K1.trans K2 (fun x hx' => Or.inl hx'), B2, fun t kk => st1 t (st2 t kk)⟩
theorem pn_26 : plainName "java/util/Arrays" = true := by first | (simp [plainName, overriddenIn]; done) | decide +kernel
theorem ef_26 (m : MethodId) (x0 : Addr) (x1 : Int32) : entryFrame m #[(.ref x0), (.int x1)] 4 = mkF m 0 #[.val (.ref x0), .val (.int x1), .unset, .unset] [] := by first | (simp [entryFrame, mkF, argsToLocals, Value.category]; done) | rfl
def Q26 (Z : State) (a1 : Addr) (p2 : Int32) (pn : Int32) (kb : ClassId) (f3 : Nat → Value) (vb : Int32) (n : Nat) (h0 : Heap) (n0 : Nat) (v : Option Value) (h : Heap) (L : List Loc) : Prop := v = none ∧ Fr n0 L ∧ Keep h0 h [a1] ∧ own_Af Z h a1 kb .byte pn (fun _ => Value.int vb)
set_option maxRecDepth 65536 in
set_option maxHeartbeats 40000000 in
theorem rm26 (l : Launch) (Z : State) (a0 : Array Value) (hw : ∀ d ∈ tables_1, d.before a0 Z = true) (ws : List Jvm.Cond) (a1 : Addr) (p2 : Int32) (pn : Int32) (kb : ClassId) (f3 : Nat → Value) (vb : Int32) (n : Nat) (h0 : Heap) (n0 : Nat) (Z0 : n0 ≤ h0.size) (A_b : own_Af Z h0 a1 kb .byte pn f3) (g_b : n0 ≤ a1) (hn : pn.toInt = n) (hn4 : n < 5000) (hvb : nar .byte p2 = vb) :
    MetFree l (⟨"java/util/Arrays", "fill", "([BB)V"⟩ : MethodName) (head1 (Jvm.Cond.code (⟨"java/util/Arrays", "fill", "([BB)V"⟩ : MethodName) jdk_65_method_109_code 4 none :: ws) ({ frames := 0, cells := 0, slots := 0, locals := 0 } : Room)) (fun a U => a = #[(.ref a1), (.int p2)] ∧ Z.Warmed39 U.vm ∧ U.heap = h0) (fun _ _ _ _ _ => True) (fun _ U o U' => ∃ v L, o = .returned v ∧ Q26 Z a1 p2 pn kb f3 vb n h0 n0 v U'.heap L ∧ FrameEnd U o U' L ({ frames := 0, cells := 0, slots := 0, locals := 0 } : Room).cells ({ frames := 0, cells := 0, slots := 0, locals := 0 } : Room).slots) := by
  refine MetFree.of_bodySF (plainFor_of_name pn_26) hisR ?_
  intro p e s m args below meth c s₁ Bd hml0 hP hK
  obtain ⟨rfl, hZ, hh⟩ := hP
  have hx := Bd.exec
  have hby := Bd.bytes
  have hml : c.maxLocals = 4 := hml0
  have hown : s.vm.findClass "java/util/Arrays" = some m.cls := findClass_of_methodNamed Bd.named
  have hnm := (name_of_methodNamed Bd.named Bd.method).1
  have X0 : Stand p l e ({ frames := 0, cells := 0, slots := 0, locals := 0 } : Room) s m #[(.ref a1), (.int p2)] below meth c s₁ [] 0 0 := Stand.of_body Bd
  have e0 : s₁.heap = h0 := by rw [← hh, Bd.state]; rfl
  have N0 := Fr.nil n0
  have K0 : Keep h0 h0 [a1] := Keep.refl _ _
  have P0 : ∀ t, Steps p.tables e below (s₁.setTop (mkF m 0 #[.val (.ref a1), .val (.int p2), .unset, .unset] [])) t → Steps p.tables e below (s₁.setTop (entryFrame m #[(.ref a1), (.int p2)] 4)) t := fun t k => castTop (ef_26 m a1 p2) k
  have P1 : ∀ t, Steps p.tables e below (s₁.setTop (mkF m 5 #[.val (.ref a1), .val (.int p2), .val (.int (0 : Int32)), .val (.int pn)] [])) t → Steps p.tables e below (s₁.setTop (entryFrame m #[(.ref a1), (.int p2)] 4)) t := by
    intro t k
    refine P0 _ ?_
    refine XS.iconst X0.here hx rfl (hb hby d26_0) ?_
    show Steps p.tables e below (s₁.setTop (mkF m 1 #[.val (.ref a1), .val (.int p2), .unset, .unset] [(.int (0 : Int32))])) _
    refine XS.istoreN X0.here hx rfl (hb hby d26_1) rfl (l' := #[.val (.ref a1), .val (.int p2), .val (.int (0 : Int32)), .unset]) rfl ?_
    show Steps p.tables e below (s₁.setTop (mkF m 2 #[.val (.ref a1), .val (.int p2), .val (.int (0 : Int32)), .unset] [])) _
    refine XS.aloadN X0.here hx rfl (hb hby d26_2) rfl rfl ?_
    show Steps p.tables e below (s₁.setTop (mkF m 3 #[.val (.ref a1), .val (.int p2), .val (.int (0 : Int32)), .unset] [(.ref a1)])) _
    refine own_flen X0 hx hZ e0 A_b rfl rfl (hb hby d26_3) ?_
    show Steps p.tables e below (s₁.setTop (mkF m 4 #[.val (.ref a1), .val (.int p2), .val (.int (0 : Int32)), .unset] [(.int pn)])) _
    refine XS.istoreN X0.here hx rfl (hb hby d26_4) rfl (l' := #[.val (.ref a1), .val (.int p2), .val (.int (0 : Int32)), .val (.int pn)]) rfl ?_
    show Steps p.tables e below (s₁.setTop (mkF m 5 #[.val (.ref a1), .val (.int p2), .val (.int (0 : Int32)), .val (.int pn)] [])) _
    exact k
  obtain ⟨T2, h2, lo2, jv, X2, e2, N2, K2, A_b1, st2⟩ := loop26 a1 p2 pn kb vb n hx hZ hw hby hml hown hn hn4 g_b hvb n s₁ _ h0 0 (0 : Int32) f3 X0 e0 N0 Z0 A_b (by omega) rfl (fun j hj => absurd hj (Nat.not_lt_zero j))
  have P3 : ∀ t, Steps p.tables e below (T2.setTop (mkF m 20 #[.val (.ref a1), .val (.int p2), .val (.int jv), .val (.int pn)] [])) t → Steps p.tables e below (s₁.setTop (entryFrame m #[(.ref a1), (.int p2)] 4)) t := fun t k => P1 _ (st2 _ k)
  have Z4 : n0 ≤ h2.size := Nat.le_trans Z0 K2.1
  obtain ⟨fs, hr, hrun, hended, hW, hsame⟩ := X2.leave (v := none) (fun _ => rfl)
  refine ⟨_, _, P3 _ ?_, hrun, hended, _, _, rfl, ?_, ⟨_, rfl⟩, hW, hsame.mono (by decide) (by decide)⟩
  · exact X2.returnOut hx Bd.returns (hb hby d26_20) hr
  · show Q26 Z a1 p2 pn kb f3 vb n h0 n0 _ T2.heap _
    rw [e2]
    exact ⟨rfl, N2, K2, A_b1⟩
theorem d27_0 : decode prog_1_method_1_code 0 = .ok (.aload_n 0, 1) := by decide +kernel
theorem d27_1 : decode prog_1_method_1_code 1 = .ok (.invokespecial 3, 3) := by decide +kernel
theorem d27_4 : decode prog_1_method_1_code 4 = .ok (.aload_n 0, 1) := by decide +kernel
theorem d27_5 : decode prog_1_method_1_code 5 = .ok (.aload_n 1, 1) := by decide +kernel
theorem d27_6 : decode prog_1_method_1_code 6 = .ok (.getstatic 9, 3) := by decide +kernel
theorem d27_9 : decode prog_1_method_1_code 9 = .ok (.invokevirtual 15, 3) := by decide +kernel
theorem d27_12 : decode prog_1_method_1_code 12 = .ok (.putfield 21, 3) := by decide +kernel
theorem d27_15 : decode prog_1_method_1_code 15 = .ok (.aload_n 0, 1) := by decide +kernel
theorem d27_16 : decode prog_1_method_1_code 16 = .ok (.sipush 256, 3) := by decide +kernel
theorem d27_19 : decode prog_1_method_1_code 19 = .ok (.newarray .byte, 2) := by decide +kernel
theorem d27_21 : decode prog_1_method_1_code 21 = .ok (.putfield 27, 3) := by decide +kernel
theorem d27_24 : decode prog_1_method_1_code 24 = .ok (.aload_n 0, 1) := by decide +kernel
theorem d27_25 : decode prog_1_method_1_code 25 = .ok (.getfield 27, 3) := by decide +kernel
theorem d27_28 : decode prog_1_method_1_code 28 = .ok (.iconst (-1), 1) := by decide +kernel
theorem d27_29 : decode prog_1_method_1_code 29 = .ok (.invokestatic 30, 3) := by decide +kernel
theorem d27_32 : decode prog_1_method_1_code 32 = .ok (.iconst 0, 1) := by decide +kernel
theorem d27_33 : decode prog_1_method_1_code 33 = .ok (.istore_n 2, 1) := by decide +kernel
theorem d27_34 : decode prog_1_method_1_code 34 = .ok (.iload_n 2, 1) := by decide +kernel
theorem d27_35 : decode prog_1_method_1_code 35 = .ok (.aload_n 0, 1) := by decide +kernel
theorem d27_36 : decode prog_1_method_1_code 36 = .ok (.getfield 21, 3) := by decide +kernel
theorem d27_39 : decode prog_1_method_1_code 39 = .ok (.arraylength, 1) := by decide +kernel
theorem d27_40 : decode prog_1_method_1_code 40 = .ok (.if_icmp .ge 22, 3) := by decide +kernel
theorem d27_43 : decode prog_1_method_1_code 43 = .ok (.aload_n 0, 1) := by decide +kernel
theorem d27_44 : decode prog_1_method_1_code 44 = .ok (.getfield 27, 3) := by decide +kernel
theorem d27_47 : decode prog_1_method_1_code 47 = .ok (.aload_n 0, 1) := by decide +kernel
theorem d27_48 : decode prog_1_method_1_code 48 = .ok (.getfield 21, 3) := by decide +kernel
theorem d27_51 : decode prog_1_method_1_code 51 = .ok (.iload_n 2, 1) := by decide +kernel
theorem d27_52 : decode prog_1_method_1_code 52 = .ok (.baload, 1) := by decide +kernel
theorem d27_53 : decode prog_1_method_1_code 53 = .ok (.iload_n 2, 1) := by decide +kernel
theorem d27_54 : decode prog_1_method_1_code 54 = .ok (.i2b, 1) := by decide +kernel
theorem d27_55 : decode prog_1_method_1_code 55 = .ok (.bastore, 1) := by decide +kernel
theorem d27_56 : decode prog_1_method_1_code 56 = .ok (.iinc 2 1, 3) := by decide +kernel
theorem d27_59 : decode prog_1_method_1_code 59 = .ok (.goto (-25), 3) := by decide +kernel
theorem d27_62 : decode prog_1_method_1_code 62 = .ok (.return_, 1) := by decide +kernel
set_option maxRecDepth 65536 in
set_option maxHeartbeats 40000000 in
theorem tn27 {p : Program} {l : Launch} {e : Env} {R : Room} {s : State} {m : MethodId} {args : Array Value} {below : List Frame} {meth : Method} {c : Code} {T : State} {locs : List Loc} {cells slots : Nat} {Z : State} {a0 : Array Value} {h0 : Heap} {n0 : Nat} (a1 : Addr) (a2 : Addr) (iv : Int32) (bc : Addr) (bz : Addr) (pn : Int32) (kb : ClassId) (kz : ClassId) (cf : Nat → Int32) (f3 : Nat → Value)
    (X0 : Stand p l e R s m args below meth c T locs cells slots) (hx : p.tables.exec = Jvm.exec) (hZ : Z.Warmed39 s.vm) (hw : ∀ d ∈ tables_1, d.before a0 Z = true) (hby : c.code = prog_1_method_1_code) (hml : c.maxLocals = 3) (hown : s.vm.findClass "com/example/basewright/basewright/Alphabet" = some m.cls) (e0 : T.heap = h0) (N0 : Fr n0 locs) (Z0 : n0 ≤ h0.size) (F_c : Fld Z h0 a1 "com/example/basewright/basewright/Alphabet" "characters" "[B" (.ref bc)) (F_z : Fld Z h0 a1 "com/example/basewright/basewright/Alphabet" "values" "[B" (.ref bz)) (A_b : own_Af Z h0 bc kb .byte pn (fun i => Value.int (cf i))) (A_z : own_Af Z h0 bz kz .byte (256 : Int32) f3) (g_z : n0 ≤ bz) (nebz : bc ≠ bz) (neaz : a1 ≠ bz) (hlt : iv < pn) (hj : ¬ iv < (0 : Int32) ∧ iv < pn) (hjz : ¬ (cf (iv).toNatClampNeg) < (0 : Int32) ∧ (cf (iv).toNatClampNeg) < (256 : Int32)) (hiv : own_c iv) :
    ∃ (T' : State) (h' : Heap) (locs' : List Loc), Stand p l e R s m args below meth c T' locs' cells slots ∧ T'.heap = h' ∧ Fr n0 locs' ∧ Keep h0 h' [bz] ∧ Fld Z h' a1 "com/example/basewright/basewright/Alphabet" "characters" "[B" (.ref bc) ∧ Fld Z h' a1 "com/example/basewright/basewright/Alphabet" "values" "[B" (.ref bz) ∧ own_Af Z h' bc kb .byte pn (fun i => Value.int (cf i)) ∧ own_Af Z h' bz kz .byte (256 : Int32) (fun i => if i = ((cf (iv).toNatClampNeg)).toNatClampNeg then (.int iv) else f3 i) ∧
      ∀ t, Steps p.tables e below (T'.setTop (mkF m 34 #[.val (.ref a1), .val (.ref a2), .val (.int (iv + (1 : Int32)))] [])) t → Steps p.tables e below (T.setTop (mkF m 34 #[.val (.ref a1), .val (.ref a2), .val (.int iv)] [])) t := by
  have K0 : Keep h0 h0 [bz] := Keep.refl _ _
  have P0 : ∀ t, Steps p.tables e below (T.setTop (mkF m 34 #[.val (.ref a1), .val (.ref a2), .val (.int iv)] [])) t → Steps p.tables e below (T.setTop (mkF m 34 #[.val (.ref a1), .val (.ref a2), .val (.int iv)] [])) t := fun t k => k
  have P1 : ∀ t, Steps p.tables e below (T.setTop (mkF m 36 #[.val (.ref a1), .val (.ref a2), .val (.int iv)] [(.ref a1), (.int iv)])) t → Steps p.tables e below (T.setTop (mkF m 34 #[.val (.ref a1), .val (.ref a2), .val (.int iv)] [])) t := by
    intro t k
    refine P0 _ ?_
    refine XS.iloadN X0.here hx rfl (hb hby d27_34) rfl ?_
    show Steps p.tables e below (T.setTop (mkF m 35 #[.val (.ref a1), .val (.ref a2), .val (.int iv)] [(.int iv)])) _
    refine XS.aloadN X0.here hx rfl (hb hby d27_35) rfl rfl ?_
    show Steps p.tables e below (T.setTop (mkF m 36 #[.val (.ref a1), .val (.ref a2), .val (.int iv)] [(.ref a1), (.int iv)])) _
    exact k
  obtain ⟨T2, X2, e2, st2⟩ := getF X0 hx hZ hown (host := "") (Or.inl (hw _ (List.mem_of_getElem? (i := 77) rfl))) Via.refl e0 F_c (g := (mkF m 36 #[.val (.ref a1), .val (.ref a2), .val (.int iv)] [(.ref a1), (.int iv)])) rfl rfl (hb hby d27_36)
  have P3 : ∀ t, Steps p.tables e below (T2.setTop (mkF m 39 #[.val (.ref a1), .val (.ref a2), .val (.int iv)] [(.ref bc), (.int iv)])) t → Steps p.tables e below (T.setTop (mkF m 34 #[.val (.ref a1), .val (.ref a2), .val (.int iv)] [])) t := fun t k => P1 _ (st2 _ k)
  have P4 : ∀ t, Steps p.tables e below (T2.setTop (mkF m 44 #[.val (.ref a1), .val (.ref a2), .val (.int iv)] [(.ref a1)])) t → Steps p.tables e below (T.setTop (mkF m 34 #[.val (.ref a1), .val (.ref a2), .val (.int iv)] [])) t := by
    intro t k
    refine P3 _ ?_
    refine own_flen X2 hx hZ e2 A_b rfl rfl (hb hby d27_39) ?_
    show Steps p.tables e below (T2.setTop (mkF m 40 #[.val (.ref a1), .val (.ref a2), .val (.int iv)] [(.int pn), (.int iv)])) _
    refine XS.icmpNo X2.here hx rfl (hb hby d27_40) rfl (XT.ii_ge_f hlt) ?_
    show Steps p.tables e below (T2.setTop (mkF m 43 #[.val (.ref a1), .val (.ref a2), .val (.int iv)] [])) _
    refine XS.aloadN X2.here hx rfl (hb hby d27_43) rfl rfl ?_
    show Steps p.tables e below (T2.setTop (mkF m 44 #[.val (.ref a1), .val (.ref a2), .val (.int iv)] [(.ref a1)])) _
    exact k
  obtain ⟨T5, X5, e5, st5⟩ := getF X2 hx hZ hown (host := "") (Or.inl (hw _ (List.mem_of_getElem? (i := 79) rfl))) Via.refl e2 F_z (g := (mkF m 44 #[.val (.ref a1), .val (.ref a2), .val (.int iv)] [(.ref a1)])) rfl rfl (hb hby d27_44)
  have P6 : ∀ t, Steps p.tables e below (T5.setTop (mkF m 47 #[.val (.ref a1), .val (.ref a2), .val (.int iv)] [(.ref bz)])) t → Steps p.tables e below (T.setTop (mkF m 34 #[.val (.ref a1), .val (.ref a2), .val (.int iv)] [])) t := fun t k => P4 _ (st5 _ k)
  have P7 : ∀ t, Steps p.tables e below (T5.setTop (mkF m 48 #[.val (.ref a1), .val (.ref a2), .val (.int iv)] [(.ref a1), (.ref bz)])) t → Steps p.tables e below (T.setTop (mkF m 34 #[.val (.ref a1), .val (.ref a2), .val (.int iv)] [])) t := by
    intro t k
    refine P6 _ ?_
    refine XS.aloadN X5.here hx rfl (hb hby d27_47) rfl rfl ?_
    show Steps p.tables e below (T5.setTop (mkF m 48 #[.val (.ref a1), .val (.ref a2), .val (.int iv)] [(.ref a1), (.ref bz)])) _
    exact k
  obtain ⟨T8, X8, e8, st8⟩ := getF X5 hx hZ hown (host := "") (Or.inl (hw _ (List.mem_of_getElem? (i := 77) rfl))) Via.refl e5 F_c (g := (mkF m 48 #[.val (.ref a1), .val (.ref a2), .val (.int iv)] [(.ref a1), (.ref bz)])) rfl rfl (hb hby d27_48)
  have P9 : ∀ t, Steps p.tables e below (T8.setTop (mkF m 51 #[.val (.ref a1), .val (.ref a2), .val (.int iv)] [(.ref bc), (.ref bz)])) t → Steps p.tables e below (T.setTop (mkF m 34 #[.val (.ref a1), .val (.ref a2), .val (.int iv)] [])) t := fun t k => P7 _ (st8 _ k)
  have P10 : ∀ t, Steps p.tables e below (T8.setTop (mkF m 55 #[.val (.ref a1), .val (.ref a2), .val (.int iv)] [(.int (iv.toInt8.toInt32)), (.int (cf (iv).toNatClampNeg)), (.ref bz)])) t → Steps p.tables e below (T.setTop (mkF m 34 #[.val (.ref a1), .val (.ref a2), .val (.int iv)] [])) t := by
    intro t k
    refine P9 _ ?_
    refine XS.iloadN X8.here hx rfl (hb hby d27_51) rfl ?_
    show Steps p.tables e below (T8.setTop (mkF m 52 #[.val (.ref a1), .val (.ref a2), .val (.int iv)] [(.int iv), (.ref bc), (.ref bz)])) _
    refine own_fbal X8 hx hZ e8 A_b hj (v := (.int (cf (iv).toNatClampNeg))) rfl rfl rfl (hb hby d27_52) ?_
    show Steps p.tables e below (T8.setTop (mkF m 53 #[.val (.ref a1), .val (.ref a2), .val (.int iv)] [(.int (cf (iv).toNatClampNeg)), (.ref bz)])) _
    refine XS.iloadN X8.here hx rfl (hb hby d27_53) rfl ?_
    show Steps p.tables e below (T8.setTop (mkF m 54 #[.val (.ref a1), .val (.ref a2), .val (.int iv)] [(.int iv), (.int (cf (iv).toNatClampNeg)), (.ref bz)])) _
    refine XT.i2b X8.here hx rfl (hb hby d27_54) rfl ?_
    show Steps p.tables e below (T8.setTop (mkF m 55 #[.val (.ref a1), .val (.ref a2), .val (.int iv)] [(.int (iv.toInt8.toInt32)), (.int (cf (iv).toNatClampNeg)), (.ref bz)])) _
    exact k
  obtain ⟨cl11, Ar11, q11, S11, M11, H11, G11⟩ := A_z
  have in11 : ¬ ((cf (iv).toNatClampNeg) < 0 ∨ cl11.slots.size ≤ ((cf (iv).toNatClampNeg)).toNatClampNeg) := inb_of S11 hjz
  obtain ⟨T11, h11, X11, e11, W11, st11⟩ := stB X8 hx hZ e8 Ar11 (j := (cf (iv).toNatClampNeg)) in11 (g := (mkF m 55 #[.val (.ref a1), .val (.ref a2), .val (.int iv)] [(.int (iv.toInt8.toInt32)), (.int (cf (iv).toNatClampNeg)), (.ref bz)])) rfl rfl (hb hby d27_55)
  have r11 : nar .byte (iv.toInt8.toInt32) = iv := own_cb hiv
  rw [r11] at W11
  have F12 : Fld Z h11 a1 "com/example/basewright/basewright/Alphabet" "characters" "[B" (.ref bc) := F_c.other W11 (Or.inl neaz)
  have F13 : Fld Z h11 a1 "com/example/basewright/basewright/Alphabet" "values" "[B" (.ref bz) := F_z.other W11 (Or.inl neaz)
  have F14 : own_Af Z h11 bc kb .byte pn (fun i => Value.int (cf i)) := A_b.other W11 nebz
  have F15 : own_Af Z h11 bz kz .byte (256 : Int32) (fun i => if i = ((cf (iv).toNatClampNeg)).toNatClampNeg then (.int iv) else f3 i) := own_Af.set Ar11 q11 S11 M11 H11 G11 (by rw [← r11]; exact fits_nar_byte _) W11 (Nat.lt_of_not_le fun y => in11 (Or.inr y))
  have Z16 : n0 ≤ h11.size := Nat.le_trans Z0 (Keep.of_wr W11).1
  have K17 : Keep h0 h11 [bz] := K0.wr W11 (Or.inl (List.mem_of_getElem? (i := 0) rfl))
  have N11 := Fr.snoc X11 N0 g_z
  have P18 : ∀ t, Steps p.tables e below (T11.setTop (mkF m 56 #[.val (.ref a1), .val (.ref a2), .val (.int iv)] [])) t → Steps p.tables e below (T.setTop (mkF m 34 #[.val (.ref a1), .val (.ref a2), .val (.int iv)] [])) t := fun t k => P10 _ (st11 _ k)
  have P19 : ∀ t, Steps p.tables e below (T11.setTop (mkF m 34 #[.val (.ref a1), .val (.ref a2), .val (.int (iv + (1 : Int32)))] [])) t → Steps p.tables e below (T.setTop (mkF m 34 #[.val (.ref a1), .val (.ref a2), .val (.int iv)] [])) t := by
    intro t k
    refine P18 _ ?_
    refine XS.iinc X11.here hx rfl (hb hby d27_56) rfl (l' := #[.val (.ref a1), .val (.ref a2), .val (.int (iv + (1 : Int32)))]) rfl ?_
    show Steps p.tables e below (T11.setTop (mkF m 59 #[.val (.ref a1), .val (.ref a2), .val (.int (iv + (1 : Int32)))] [])) _
    refine XS.goto X11.here hx rfl (pc0 := 59) (pc' := 34) rfl (hb hby d27_59) (by decide) (by decide) ?_
    show Steps p.tables e below (T11.setTop (mkF m 34 #[.val (.ref a1), .val (.ref a2), .val (.int (iv + (1 : Int32)))] [])) _
    exact k
  exact ⟨T11, h11, _, X11, e11, N11, K17, F12, F13, F14, F15, P19⟩
set_option maxRecDepth 65536 in
set_option maxHeartbeats 40000000 in
theorem lv27 {p : Program} {l : Launch} {e : Env} {R : Room} {s : State} {m : MethodId} {args : Array Value} {below : List Frame} {meth : Method} {c : Code} {T : State} {locs : List Loc} {cells slots : Nat} {Z : State} {a0 : Array Value} {h0 : Heap} {n0 : Nat} (a1 : Addr) (a2 : Addr) (iv : Int32) (bc : Addr) (bz : Addr) (pn : Int32) (kb : ClassId) (kz : ClassId) (cf : Nat → Int32) (f3 : Nat → Value)
    (X0 : Stand p l e R s m args below meth c T locs cells slots) (hx : p.tables.exec = Jvm.exec) (hZ : Z.Warmed39 s.vm) (hw : ∀ d ∈ tables_1, d.before a0 Z = true) (hby : c.code = prog_1_method_1_code) (hml : c.maxLocals = 3) (hown : s.vm.findClass "com/example/basewright/basewright/Alphabet" = some m.cls) (e0 : T.heap = h0) (N0 : Fr n0 locs) (Z0 : n0 ≤ h0.size) (F_c : Fld Z h0 a1 "com/example/basewright/basewright/Alphabet" "characters" "[B" (.ref bc)) (F_z : Fld Z h0 a1 "com/example/basewright/basewright/Alphabet" "values" "[B" (.ref bz)) (A_b : own_Af Z h0 bc kb .byte pn (fun i => Value.int (cf i))) (A_z : own_Af Z h0 bz kz .byte (256 : Int32) f3) (g_z : n0 ≤ bz) (nebz : bc ≠ bz) (neaz : a1 ≠ bz) (hge : ¬ iv < pn) :
    ∃ (T' : State) (h' : Heap) (locs' : List Loc), Stand p l e R s m args below meth c T' locs' cells slots ∧ T'.heap = h' ∧ Fr n0 locs' ∧ Keep h0 h' [bz] ∧ Fld Z h' a1 "com/example/basewright/basewright/Alphabet" "characters" "[B" (.ref bc) ∧ Fld Z h' a1 "com/example/basewright/basewright/Alphabet" "values" "[B" (.ref bz) ∧ own_Af Z h' bc kb .byte pn (fun i => Value.int (cf i)) ∧ own_Af Z h' bz kz .byte (256 : Int32) f3 ∧
      ∀ t, Steps p.tables e below (T'.setTop (mkF m 62 #[.val (.ref a1), .val (.ref a2), .val (.int iv)] [])) t → Steps p.tables e below (T.setTop (mkF m 34 #[.val (.ref a1), .val (.ref a2), .val (.int iv)] [])) t := by
  have K0 : Keep h0 h0 [bz] := Keep.refl _ _
  have P0 : ∀ t, Steps p.tables e below (T.setTop (mkF m 34 #[.val (.ref a1), .val (.ref a2), .val (.int iv)] [])) t → Steps p.tables e below (T.setTop (mkF m 34 #[.val (.ref a1), .val (.ref a2), .val (.int iv)] [])) t := fun t k => k
  have P1 : ∀ t, Steps p.tables e below (T.setTop (mkF m 36 #[.val (.ref a1), .val (.ref a2), .val (.int iv)] [(.ref a1), (.int iv)])) t → Steps p.tables e below (T.setTop (mkF m 34 #[.val (.ref a1), .val (.ref a2), .val (.int iv)] [])) t := by
    intro t k
    refine P0 _ ?_
    refine XS.iloadN X0.here hx rfl (hb hby d27_34) rfl ?_
    show Steps p.tables e below (T.setTop (mkF m 35 #[.val (.ref a1), .val (.ref a2), .val (.int iv)] [(.int iv)])) _
    refine XS.aloadN X0.here hx rfl (hb hby d27_35) rfl rfl ?_
    show Steps p.tables e below (T.setTop (mkF m 36 #[.val (.ref a1), .val (.ref a2), .val (.int iv)] [(.ref a1), (.int iv)])) _
    exact k
  obtain ⟨T2, X2, e2, st2⟩ := getF X0 hx hZ hown (host := "") (Or.inl (hw _ (List.mem_of_getElem? (i := 77) rfl))) Via.refl e0 F_c (g := (mkF m 36 #[.val (.ref a1), .val (.ref a2), .val (.int iv)] [(.ref a1), (.int iv)])) rfl rfl (hb hby d27_36)
  have P3 : ∀ t, Steps p.tables e below (T2.setTop (mkF m 39 #[.val (.ref a1), .val (.ref a2), .val (.int iv)] [(.ref bc), (.int iv)])) t → Steps p.tables e below (T.setTop (mkF m 34 #[.val (.ref a1), .val (.ref a2), .val (.int iv)] [])) t := fun t k => P1 _ (st2 _ k)
  have P4 : ∀ t, Steps p.tables e below (T2.setTop (mkF m 62 #[.val (.ref a1), .val (.ref a2), .val (.int iv)] [])) t → Steps p.tables e below (T.setTop (mkF m 34 #[.val (.ref a1), .val (.ref a2), .val (.int iv)] [])) t := by
    intro t k
    refine P3 _ ?_
    refine own_flen X2 hx hZ e2 A_b rfl rfl (hb hby d27_39) ?_
    show Steps p.tables e below (T2.setTop (mkF m 40 #[.val (.ref a1), .val (.ref a2), .val (.int iv)] [(.int pn), (.int iv)])) _
    refine XS.icmpYes X2.here hx rfl (pc0 := 40) (pc' := 62) rfl (hb hby d27_40) rfl (XT.ii_ge_t hge) (by decide) (by decide) ?_
    show Steps p.tables e below (T2.setTop (mkF m 62 #[.val (.ref a1), .val (.ref a2), .val (.int iv)] [])) _
    exact k
  exact ⟨T2, h0, _, X2, e2, N0, K0, F_c, F_z, A_b, A_z, P4⟩
set_option maxRecDepth 65536 in
theorem loop27 {p : Program} {l : Launch} {e : Env} {R : Room} {s : State} {m : MethodId} {args : Array Value} {below : List Frame} {meth : Method} {c : Code} {Z : State} {a0 : Array Value} {n0 : Nat} {cells slots : Nat} (a1 a2 bc bz : Addr) (pn : Int32) (kb kz : ClassId) (cf : Nat → Int32) (n : Nat) (hx : p.tables.exec = Jvm.exec) (hZ : Z.Warmed39 s.vm) (hw : ∀ d ∈ tables_1, d.before a0 Z = true) (hby : c.code = prog_1_method_1_code) (hml : c.maxLocals = 3) (hown : s.vm.findClass "com/example/basewright/basewright/Alphabet" = some m.cls) (hn : pn.toInt = n) (hn4 : n ≤ 4) (g_z : n0 ≤ bz) (nebz : bc ≠ bz) (neaz : a1 ≠ bz) (hcs : own_cs pn cf) (k : Nat) :
    ∀ (T : State) (locs : List Loc) (h0 : Heap) (i : Nat) (iv : Int32) (f3 : Nat → Value), Stand p l e R s m args below meth c T locs cells slots → T.heap = h0 → Fr n0 locs → n0 ≤ h0.size → Fld Z h0 a1 "com/example/basewright/basewright/Alphabet" "characters" "[B" (.ref bc) → Fld Z h0 a1 "com/example/basewright/basewright/Alphabet" "values" "[B" (.ref bz) → own_Af Z h0 bc kb .byte pn (fun i => Value.int (cf i)) → own_Af Z h0 bz kz .byte (256 : Int32) f3 → i + k = n → iv.toInt = i → (∀ j, f3 j = .int (own_vf cf i j)) →
      ∃ (T' : State) (h' : Heap) (locs' : List Loc) (jv : Int32), Stand p l e R s m args below meth c T' locs' cells slots ∧ T'.heap = h' ∧ Fr n0 locs' ∧ Keep h0 h' [bz] ∧ Fld Z h' a1 "com/example/basewright/basewright/Alphabet" "characters" "[B" (.ref bc) ∧ Fld Z h' a1 "com/example/basewright/basewright/Alphabet" "values" "[B" (.ref bz) ∧ own_Af Z h' bc kb .byte pn (fun i => Value.int (cf i)) ∧ own_Af Z h' bz kz .byte (256 : Int32) (fun j => Value.int (own_vf cf n j)) ∧
        ∀ t, Steps p.tables e below (T'.setTop (mkF m 62 #[.val (.ref a1), .val (.ref a2), .val (.int jv)] [])) t → Steps p.tables e below (T.setTop (mkF m 34 #[.val (.ref a1), .val (.ref a2), .val (.int iv)] [])) t := by
  induction k with
  | zero =>
    intro T locs h0 i iv f3 X0 e0 N0 Z0 F_c F_z A_b A_z h1 h2 h3
    have hi : i = n := by omega
    subst hi
    obtain ⟨T1, h1', locs1, X1, e1, N1, K1, q1, q2, q3, q4, st1⟩ := lv27 a1 a2 iv bc bz pn kb kz cf f3 X0 hx hZ hw hby hml hown e0 N0 Z0 F_c F_z A_b A_z g_z nebz neaz (by rw [Int32.lt_iff_toInt_lt]; omega)
    exact ⟨T1, h1', locs1, iv, X1, e1, N1, K1, q1, q2, q3, q4.same (fun j _ => (h3 j).symm), st1⟩
  | succ k ih =>
    intro T locs h0 i iv f3 X0 e0 N0 Z0 F_c F_z A_b A_z h1 h2 h3
    have hj : ¬ iv < (0 : Int32) ∧ iv < pn := own_jn (by omega) (by omega)
    have hc := hcs (iv).toNatClampNeg (by rw [own_nat h2]; omega)
    obtain ⟨T1, h1', locs1, X1, e1, N1, K1, q1, q2, q3, q4, st1⟩ := tn27 a1 a2 iv bc bz pn kb kz cf f3 X0 hx hZ hw hby hml hown e0 N0 Z0 F_c F_z A_b A_z g_z nebz neaz hj.2 hj (own_jn hc.1 (by have := hc.2; show (cf (iv).toNatClampNeg).toInt < 256; omega)) ⟨by omega, by omega⟩
    obtain ⟨T2, h2', locs2, jv, X2, e2, N2, K2, r1, r2, r3, r4, st2⟩ := ih T1 locs1 h1' (i + 1) (iv + (1 : Int32)) _ X1 e1 N1 (Nat.le_trans Z0 K1.1) q1 q2 q3 q4 (by omega) (own_inc h2 (by omega)) (fun j => by
      rw [own_vf_s, own_nat h2, ← own_ofn h2 (by omega), h3 j]
      by_cases q : j = (cf i).toNatClampNeg
      · simp only [q, if_true]
      · simp only [q, if_false])
    exact ⟨T2, h2', locs2, jv, X2, e2, N2, K1.trans K2 (fun x hx' => Or.inl hx'), r1, r2, r3, r4, fun t kk => st1 t (st2 t kk)⟩
theorem pn_27 : plainName "com/example/basewright/basewright/Alphabet" = true := by first | (simp [plainName, overriddenIn]; done) | decide +kernel
theorem ef_27 (m : MethodId) (x0 : Addr) (x1 : Addr) : entryFrame m #[(.ref x0), (.ref x1)] 3 = mkF m 0 #[.val (.ref x0), .val (.ref x1), .unset] [] := by first | (simp [entryFrame, mkF, argsToLocals, Value.category]; done) | rfl
def Q27 (Z : State) (a1 : Addr) (a2 : Addr) (u1 : Value) (u2 : Value) (bv : Addr) (pn : Int32) (kb : ClassId) (cf : Nat → Int32) (n : Nat) (wA : Addr) (wU : Addr) (wI : Addr) (ccs : Int32) (h0 : Heap) (n0 : Nat) (v : Option Value) (h : Heap) (L : List Loc) : Prop := ∃ (bc : Addr) (bz : Addr) (kz : ClassId), v = none ∧ Fr n0 L ∧ Keep h0 h [a1] ∧ h0.size ≤ bc ∧ h0.size ≤ bz ∧ Exa Z h a1 "com/example/basewright/basewright/Alphabet" ∧ Fld Z h a1 "com/example/basewright/basewright/Alphabet" "characters" "[B" (.ref bc) ∧ Fld Z h a1 "com/example/basewright/basewright/Alphabet" "values" "[B" (.ref bz) ∧ own_Af Z h bc kb .byte pn (fun i => Value.int (cf i)) ∧ own_Af Z h bz kz .byte (256 : Int32) (fun j => Value.int (own_vf cf n j))
set_option maxRecDepth 65536 in
set_option maxHeartbeats 40000000 in
theorem rm27 (l : Launch) (Z : State) (a0 : Array Value) (hw : ∀ d ∈ tables_1, d.before a0 Z = true) (ws : List Jvm.Cond) (a1 : Addr) (a2 : Addr) (u1 : Value) (u2 : Value) (bv : Addr) (pn : Int32) (kb : ClassId) (cf : Nat → Int32) (n : Nat) (wA : Addr) (wU : Addr) (wI : Addr) (ccs : Int32) (h0 : Heap) (n0 : Nat) (Z0 : n0 ≤ h0.size) (O0 : Old Z n0 h0) (E_a : Exa Z h0 a1 "com/example/basewright/basewright/Alphabet") (F_c : Fld Z h0 a1 "com/example/basewright/basewright/Alphabet" "characters" "[B" u1) (F_z : Fld Z h0 a1 "com/example/basewright/basewright/Alphabet" "values" "[B" u2) (g_a : n0 ≤ a1) (E_s : Exa Z h0 a2 "java/lang/String") (F_v : Fld Z h0 a2 "java/lang/String" "value" "[B" (.ref bv)) (F_k : Fld Z h0 a2 "java/lang/String" "coder" "B" (.int (0 : Int32))) (A_b : own_Af Z h0 bv kb .byte pn (fun i => Value.int (cf i))) (E_b : Exa Z h0 bv "[B") (hn : pn.toInt = n) (hn4 : n ≤ 4) (hcs : own_cs pn cf) (S_H : Sta Z Z.heap "java/nio/charset/StandardCharsets" "US_ASCII" "Ljava/nio/charset/Charset;" (.ref wA)) (S_wU : Sta Z Z.heap "sun/nio/cs/UTF_8" "INSTANCE" "Lsun/nio/cs/UTF_8;" (.ref wU)) (S_wI : Sta Z Z.heap "sun/nio/cs/ISO_8859_1" "INSTANCE" "Lsun/nio/cs/ISO_8859_1;" (.ref wI)) (S_wA : Sta Z Z.heap "sun/nio/cs/US_ASCII" "INSTANCE" "Lsun/nio/cs/US_ASCII;" (.ref wA)) (neU : ¬ wA = wU) (neI : ¬ wA = wI) (S_cs : Sta Z Z.heap "java/lang/String" "COMPACT_STRINGS" "Z" (.int ccs)) (hcc : ¬ ccs = (0 : Int32)) :
    MetFree l (⟨"com/example/basewright/basewright/Alphabet", "<init>", "(Ljava/lang/String;)V"⟩ : MethodName) (head1 (Jvm.Cond.code (⟨"com/example/basewright/basewright/Alphabet", "<init>", "(Ljava/lang/String;)V"⟩ : MethodName) prog_1_method_1_code 3 none :: ws) ({ frames := 4, cells := 2, slots := 260, locals := 62 } : Room)) (fun a U => a = #[(.ref a1), (.ref a2)] ∧ Z.Warmed39 U.vm ∧ U.heap = h0) (fun _ _ _ _ _ => True) (fun _ U o U' => ∃ v L, o = .returned v ∧ Q27 Z a1 a2 u1 u2 bv pn kb cf n wA wU wI ccs h0 n0 v U'.heap L ∧ FrameEnd U o U' L ({ frames := 4, cells := 2, slots := 260, locals := 62 } : Room).cells ({ frames := 4, cells := 2, slots := 260, locals := 62 } : Room).slots) := by
  refine MetFree.of_bodySF (plainFor_of_name pn_27) hisR ?_
  intro p e s m args below meth c s₁ Bd hml0 hP hK
  obtain ⟨rfl, hZ, hh⟩ := hP
  have hx := Bd.exec
  have hby := Bd.bytes
  have hml : c.maxLocals = 3 := hml0
  have hown : s.vm.findClass "com/example/basewright/basewright/Alphabet" = some m.cls := findClass_of_methodNamed Bd.named
  have hnm := (name_of_methodNamed Bd.named Bd.method).1
  have X0 : Stand p l e ({ frames := 4, cells := 2, slots := 260, locals := 62 } : Room) s m #[(.ref a1), (.ref a2)] below meth c s₁ [] 0 0 := Stand.of_body Bd
  have e0 : s₁.heap = h0 := by rw [← hh, Bd.state]; rfl
  have N0 := Fr.nil n0
  have K0 : Keep h0 h0 [a1] := Keep.refl _ _
  have P0 : ∀ t, Steps p.tables e below (s₁.setTop (mkF m 0 #[.val (.ref a1), .val (.ref a2), .unset] [])) t → Steps p.tables e below (s₁.setTop (entryFrame m #[(.ref a1), (.ref a2)] 3)) t := fun t k => castTop (ef_27 m a1 a2) k
  have P1 : ∀ t, Steps p.tables e below (s₁.setTop (mkF m 1 #[.val (.ref a1), .val (.ref a2), .unset] [(.ref a1)])) t → Steps p.tables e below (s₁.setTop (entryFrame m #[(.ref a1), (.ref a2)] 3)) t := by
    intro t k
    refine P0 _ ?_
    refine XS.aloadN X0.here hx rfl (hb hby d27_0) rfl rfl ?_
    show Steps p.tables e below (s₁.setTop (mkF m 1 #[.val (.ref a1), .val (.ref a2), .unset] [(.ref a1)])) _
    exact k
  obtain ⟨T2, X2, e2, st2⟩ := initO X0 hx hZ hown (hw _ (List.mem_of_getElem? (i := 39) rfl)) (hw _ (List.mem_of_getElem? (i := 18) rfl)) (hw _ (List.mem_of_getElem? (i := 19) rfl)) e0 (g := (mkF m 1 #[.val (.ref a1), .val (.ref a2), .unset] [(.ref a1)])) rfl (by rw [hml]; rfl) rfl (hb hby d27_1) (by decide) (W := 0) (by show 2 * 0 + _ ≤ _; exact Nat.le_of_eq rfl) (by decide)
  have P3 : ∀ t, Steps p.tables e below (T2.setTop (mkF m 4 #[.val (.ref a1), .val (.ref a2), .unset] [])) t → Steps p.tables e below (s₁.setTop (entryFrame m #[(.ref a1), (.ref a2)] 3)) t := fun t k => P1 _ (st2 _ k)
  have P4 : ∀ t, Steps p.tables e below (T2.setTop (mkF m 6 #[.val (.ref a1), .val (.ref a2), .unset] [(.ref a2), (.ref a1)])) t → Steps p.tables e below (s₁.setTop (entryFrame m #[(.ref a1), (.ref a2)] 3)) t := by
    intro t k
    refine P3 _ ?_
    refine XS.aloadN X2.here hx rfl (hb hby d27_4) rfl rfl ?_
    show Steps p.tables e below (T2.setTop (mkF m 5 #[.val (.ref a1), .val (.ref a2), .unset] [(.ref a1)])) _
    refine XS.aloadN X2.here hx rfl (hb hby d27_5) rfl rfl ?_
    show Steps p.tables e below (T2.setTop (mkF m 6 #[.val (.ref a1), .val (.ref a2), .unset] [(.ref a2), (.ref a1)])) _
    exact k
  obtain ⟨T5, X5, e5, st5⟩ := getS2 X2 hx hZ hown (host := "") (Or.inl (hw _ (List.mem_of_getElem? (i := 40) rfl))) Via.refl e2 (S_H.ext O0.2) (g := (mkF m 6 #[.val (.ref a1), .val (.ref a2), .unset] [(.ref a2), (.ref a1)])) rfl (hb hby d27_6)
  have P6 : ∀ t, Steps p.tables e below (T5.setTop (mkF m 9 #[.val (.ref a1), .val (.ref a2), .unset] [(.ref wA), (.ref a2), (.ref a1)])) t → Steps p.tables e below (s₁.setTop (entryFrame m #[(.ref a1), (.ref a2)] 3)) t := fun t k => P4 _ (st5 _ k)
  obtain ⟨cq7, kq7, qa7, qb7, qc7⟩ := isOf hZ e5 E_s
  obtain ⟨_, _, ⟨T7, L7, k7, n7⟩, -, X7, ⟨Lc7, hQ7, l7, y7, z7⟩, st7⟩ := X5.virtualBack hx (y := (⟨"java/lang/String", "getBytes", "(Ljava/nio/charset/Charset;)[B"⟩ : MethodName)) (z := (⟨"java/lang/String", "getBytes", "(Ljava/nio/charset/Charset;)[B"⟩ : MethodName)) hown (mvT hZ (hw _ (List.mem_of_getElem? (i := 42) rfl))) (mvT hZ (hw _ (List.mem_of_getElem? (i := 43) rfl))) (notFace_of_selects (args := #[]) (mvT hZ (hw _ (List.mem_of_getElem? (i := 45) rfl)))) (mvT hZ (hw _ (List.mem_of_getElem? (i := 45) rfl))) (mvT hZ (hw _ (List.mem_of_getElem? (i := 44) rfl))) (by decide) (backOf (W := 1) (rm25 l Z a0 hw [] a2 wA bv pn kb cf n wU wI ccs h0 n0 Z0 E_s F_v F_k A_b E_b hn hn4 hcs (S_wU.ext O0.2) (S_wI.ext O0.2) (S_wA.ext O0.2) neU neI (S_cs.ext O0.2) hcc) hZ (hw _ (List.mem_of_getElem? (i := 46) rfl)) (hw _ (List.mem_of_getElem? (i := 9) rfl)) (by decide) (by decide)) qa7 qc7 (g := (mkF m 9 #[.val (.ref a1), .val (.ref a2), .unset] [(.ref wA), (.ref a2), (.ref a1)])) rfl (by rw [hml]; rfl) (Steps.refl _) (argsL := [(.ref wA)]) (rest := [(.ref a1)]) (lenOf pd_8 rfl) rfl (by show 2 * 0 + _ ≤ _; exact Nat.le_of_eq rfl) (hb hby d27_9) (fun _ _ => ⟨rfl, e5, (by decide : 0 + 1 ≤ _), (by decide : 0 + 4 ≤ _)⟩)
  dsimp only [Pt.U, Pt.locs, Pt.cells, Pt.slots] at X7 l7 y7 z7 st7 hQ7
  subst l7 y7 z7
  obtain ⟨b_7, rfl, N7q, K7, s7_b, Y7_0, Y7_1⟩ := hQ7
  have F8 : Exa Z T7.heap a1 "com/example/basewright/basewright/Alphabet" := E_a.keep K7
  have F9 : Fld Z T7.heap a1 "com/example/basewright/basewright/Alphabet" "characters" "[B" u1 := F_c.keep K7 nin0
  have F10 : Fld Z T7.heap a1 "com/example/basewright/basewright/Alphabet" "values" "[B" u2 := F_z.keep K7 nin0
  have F11 : Exa Z T7.heap a2 "java/lang/String" := E_s.keep K7
  have F12 : Fld Z T7.heap a2 "java/lang/String" "value" "[B" (.ref bv) := F_v.keep K7 nin0
  have F13 : Fld Z T7.heap a2 "java/lang/String" "coder" "B" (.int (0 : Int32)) := F_k.keep K7 nin0
  have F14 : own_Af Z T7.heap bv kb .byte pn (fun i => Value.int (cf i)) := A_b.keep K7 nin0
  have F15 : Exa Z T7.heap bv "[B" := E_b.keep K7
  have F16 : Old Z n0 T7.heap := O0.keep K7 all0
  have Z17 : n0 ≤ T7.heap.size := Nat.le_trans Z0 K7.1
  have K18 : Keep h0 T7.heap [a1] := K0.trans K7 all0
  have g_b_7 : n0 ≤ b_7 := Nat.le_trans Z0 s7_b
  have sz_b_7 : h0.size ≤ b_7 := Nat.le_trans K0.1 s7_b
  have ne_a1_b_7 : a1 ≠ b_7 := Nat.ne_of_lt (Nat.lt_of_lt_of_le E_a.lt s7_b)
  have ne_a2_b_7 : a2 ≠ b_7 := Nat.ne_of_lt (Nat.lt_of_lt_of_le E_s.lt s7_b)
  have ne_bv_b_7 : bv ≠ b_7 := Nat.ne_of_lt (Nat.lt_of_lt_of_le A_b.lt s7_b)
  have N7 := Fr.app N0 N7q
  have P19 : ∀ t, Steps p.tables e below (T7.setTop (mkF m 12 #[.val (.ref a1), .val (.ref a2), .unset] [(.ref b_7), (.ref a1)])) t → Steps p.tables e below (s₁.setTop (entryFrame m #[(.ref a1), (.ref a2)] 3)) t := fun t k => P6 _ (st7.trans k)
  obtain ⟨T20, h20, X20, e20, W20, st20⟩ := putF X7 hx hZ hown (host := "") (Or.inl (hw _ (List.mem_of_getElem? (i := 77) rfl))) Via.refl rfl F9 F8 (Or.inr ⟨(hw _ (List.mem_of_getElem? (i := 78) rfl)), rfl, hnm⟩) (hw _ (List.mem_of_getElem? (i := 5) rfl)) (ty := (.array .byte)) (by decide) rfl rfl (g := (mkF m 12 #[.val (.ref a1), .val (.ref a2), .unset] [(.ref b_7), (.ref a1)])) rfl rfl (hb hby d27_12)
  have F21 : Exa Z h20 a1 "com/example/basewright/basewright/Alphabet" := F8.wr W20
  have F22 : Fld Z h20 a1 "com/example/basewright/basewright/Alphabet" "values" "[B" u2 := F10.other W20 (Or.inr (slot_ne (Or.inr (hw _ (List.mem_of_getElem? (i := 80) rfl))) (Or.inr (hw _ (List.mem_of_getElem? (i := 78) rfl))) (by decide) (t := (.array .byte)) (t' := (.array .byte)) (by decide) (by decide)))
  have F23 : Exa Z h20 a2 "java/lang/String" := F11.wr W20
  have F24 : Exa Z h20 bv "[B" := F15.wr W20
  have F25 : Old Z n0 h20 := F16.wr W20 g_a
  have F26 : own_Af Z h20 b_7 kb .byte pn (fun i => Value.int (cf i)) := Y7_0.other W20 (Ne.symm ne_a1_b_7)
  have F27 : Exa Z h20 b_7 "[B" := Y7_1.wr W20
  have F28 : Fld Z h20 a1 "com/example/basewright/basewright/Alphabet" "characters" "[B" (.ref b_7) := F9.same W20
  have Z29 : n0 ≤ h20.size := Nat.le_trans Z17 (Keep.of_wr W20).1
  have K30 : Keep h0 h20 [a1] := K18.wr W20 (Or.inl (List.mem_of_getElem? (i := 0) rfl))
  have N20 := Fr.snoc X20 N7 g_a
  have P31 : ∀ t, Steps p.tables e below (T20.setTop (mkF m 15 #[.val (.ref a1), .val (.ref a2), .unset] [])) t → Steps p.tables e below (s₁.setTop (entryFrame m #[(.ref a1), (.ref a2)] 3)) t := fun t k => P19 _ (st20 _ k)
  have P32 : ∀ t, Steps p.tables e below (T20.setTop (mkF m 19 #[.val (.ref a1), .val (.ref a2), .unset] [(.int (256 : Int32)), (.ref a1)])) t → Steps p.tables e below (s₁.setTop (entryFrame m #[(.ref a1), (.ref a2)] 3)) t := by
    intro t k
    refine P31 _ ?_
    refine XS.aloadN X20.here hx rfl (hb hby d27_15) rfl rfl ?_
    show Steps p.tables e below (T20.setTop (mkF m 16 #[.val (.ref a1), .val (.ref a2), .unset] [(.ref a1)])) _
    refine XS.sipush X20.here hx rfl (hb hby d27_16) ?_
    show Steps p.tables e below (T20.setTop (mkF m 19 #[.val (.ref a1), .val (.ref a2), .unset] [(.int (256 : Int32)), (.ref a1)])) _
    exact k
  obtain ⟨T33, h33, k33, X33, e33, E33, A33, st33⟩ := newP X20 hx hZ (hw _ (List.mem_of_getElem? (i := 25) rfl)) e20 (g := (mkF m 19 #[.val (.ref a1), .val (.ref a2), .unset] [(.int (256 : Int32)), (.ref a1)])) rfl (hb hby d27_19) rfl (by decide) (cap := 256) (by decide) (by decide) (by decide) (by decide)
  obtain ⟨b33, g33⟩ : ∃ z, z = h20.size := ⟨_, rfl⟩
  rw [← g33] at A33 st33
  have F34 : Exa Z h33 a1 "com/example/basewright/basewright/Alphabet" := F21.ext E33
  have F35 : Fld Z h33 a1 "com/example/basewright/basewright/Alphabet" "values" "[B" u2 := F22.ext E33
  have F36 : Exa Z h33 a2 "java/lang/String" := F23.ext E33
  have F37 : Exa Z h33 bv "[B" := F24.ext E33
  have F38 : Old Z n0 h33 := F25.ext E33
  have F39 : own_Af Z h33 b_7 kb .byte pn (fun i => Value.int (cf i)) := F26.ext E33
  have F40 : Exa Z h33 b_7 "[B" := F27.ext E33
  have F41 : Fld Z h33 a1 "com/example/basewright/basewright/Alphabet" "characters" "[B" (.ref b_7) := F28.ext E33
  obtain ⟨kc_b33, hkc_b33⟩ : ∃ z, z = k33 := ⟨_, rfl⟩
  rw [← hkc_b33] at A33
  have F42 : own_Af Z h33 b33 kc_b33 .byte (256 : Int32) (fun _ => (.int (0 : Int32))) := own_Af.new A33 (by decide)
  have Z43 : n0 ≤ h33.size := Nat.le_trans Z29 E33.1
  have K44 : Keep h0 h33 [a1] := K30.ext E33
  have g_b33 : n0 ≤ b33 := Nat.le_trans Z29 (Nat.le_of_eq g33.symm)
  have sz_b33 : h0.size ≤ b33 := Nat.le_trans K30.1 (Nat.le_of_eq g33.symm)
  have ne_a1_b33 : a1 ≠ b33 := Nat.ne_of_lt (Nat.lt_of_lt_of_le F21.lt (Nat.le_of_eq g33.symm))
  have ne_a2_b33 : a2 ≠ b33 := Nat.ne_of_lt (Nat.lt_of_lt_of_le F23.lt (Nat.le_of_eq g33.symm))
  have ne_bv_b33 : bv ≠ b33 := Nat.ne_of_lt (Nat.lt_of_lt_of_le F24.lt (Nat.le_of_eq g33.symm))
  have ne_b_7_b33 : b_7 ≠ b33 := Nat.ne_of_lt (Nat.lt_of_lt_of_le F26.lt (Nat.le_of_eq g33.symm))
  have P45 : ∀ t, Steps p.tables e below (T33.setTop (mkF m 21 #[.val (.ref a1), .val (.ref a2), .unset] [(.ref b33), (.ref a1)])) t → Steps p.tables e below (s₁.setTop (entryFrame m #[(.ref a1), (.ref a2)] 3)) t := fun t k => P32 _ (st33 _ k)
  obtain ⟨T46, h46, X46, e46, W46, st46⟩ := putF X33 hx hZ hown (host := "") (Or.inl (hw _ (List.mem_of_getElem? (i := 79) rfl))) Via.refl e33 F35 F34 (Or.inr ⟨(hw _ (List.mem_of_getElem? (i := 80) rfl)), rfl, hnm⟩) (hw _ (List.mem_of_getElem? (i := 5) rfl)) (ty := (.array .byte)) (by decide) rfl rfl (g := (mkF m 21 #[.val (.ref a1), .val (.ref a2), .unset] [(.ref b33), (.ref a1)])) rfl rfl (hb hby d27_21)
  have F47 : Exa Z h46 a1 "com/example/basewright/basewright/Alphabet" := F34.wr W46
  have F48 : Exa Z h46 a2 "java/lang/String" := F36.wr W46
  have F49 : Exa Z h46 bv "[B" := F37.wr W46
  have F50 : Old Z n0 h46 := F38.wr W46 g_a
  have F51 : own_Af Z h46 b_7 kb .byte pn (fun i => Value.int (cf i)) := F39.other W46 (Ne.symm ne_a1_b_7)
  have F52 : Exa Z h46 b_7 "[B" := F40.wr W46
  have F53 : Fld Z h46 a1 "com/example/basewright/basewright/Alphabet" "characters" "[B" (.ref b_7) := F41.other W46 (Or.inr (slot_ne (Or.inr (hw _ (List.mem_of_getElem? (i := 78) rfl))) (Or.inr (hw _ (List.mem_of_getElem? (i := 80) rfl))) (by decide) (t := (.array .byte)) (t' := (.array .byte)) (by decide) (by decide)))
  have F54 : own_Af Z h46 b33 kc_b33 .byte (256 : Int32) (fun _ => (.int (0 : Int32))) := F42.other W46 (Ne.symm ne_a1_b33)
  have F55 : Fld Z h46 a1 "com/example/basewright/basewright/Alphabet" "values" "[B" (.ref b33) := F35.same W46
  have Z56 : n0 ≤ h46.size := Nat.le_trans Z43 (Keep.of_wr W46).1
  have K57 : Keep h0 h46 [a1] := K44.wr W46 (Or.inl (List.mem_of_getElem? (i := 0) rfl))
  have N46 := Fr.snoc X46 N20 g_a
  have P58 : ∀ t, Steps p.tables e below (T46.setTop (mkF m 24 #[.val (.ref a1), .val (.ref a2), .unset] [])) t → Steps p.tables e below (s₁.setTop (entryFrame m #[(.ref a1), (.ref a2)] 3)) t := fun t k => P45 _ (st46 _ k)
  have P59 : ∀ t, Steps p.tables e below (T46.setTop (mkF m 25 #[.val (.ref a1), .val (.ref a2), .unset] [(.ref a1)])) t → Steps p.tables e below (s₁.setTop (entryFrame m #[(.ref a1), (.ref a2)] 3)) t := by
    intro t k
    refine P58 _ ?_
    refine XS.aloadN X46.here hx rfl (hb hby d27_24) rfl rfl ?_
    show Steps p.tables e below (T46.setTop (mkF m 25 #[.val (.ref a1), .val (.ref a2), .unset] [(.ref a1)])) _
    exact k
  obtain ⟨T60, X60, e60, st60⟩ := getF X46 hx hZ hown (host := "") (Or.inl (hw _ (List.mem_of_getElem? (i := 79) rfl))) Via.refl e46 F55 (g := (mkF m 25 #[.val (.ref a1), .val (.ref a2), .unset] [(.ref a1)])) rfl rfl (hb hby d27_25)
  have P61 : ∀ t, Steps p.tables e below (T60.setTop (mkF m 28 #[.val (.ref a1), .val (.ref a2), .unset] [(.ref b33)])) t → Steps p.tables e below (s₁.setTop (entryFrame m #[(.ref a1), (.ref a2)] 3)) t := fun t k => P59 _ (st60 _ k)
  have P62 : ∀ t, Steps p.tables e below (T60.setTop (mkF m 29 #[.val (.ref a1), .val (.ref a2), .unset] [(.int (-1 : Int32)), (.ref b33)])) t → Steps p.tables e below (s₁.setTop (entryFrame m #[(.ref a1), (.ref a2)] 3)) t := by
    intro t k
    refine P61 _ ?_
    refine XS.iconst X60.here hx rfl (hb hby d27_28) ?_
    show Steps p.tables e below (T60.setTop (mkF m 29 #[.val (.ref a1), .val (.ref a2), .unset] [(.int (-1 : Int32)), (.ref b33)])) _
    exact k
  obtain ⟨_, _, ⟨T63, L63, k63, n63⟩, -, X63, ⟨Lc63, hQ63, l63, y63, z63⟩, st63⟩ := Jvm.LawKit.callS X60 hx (y := (⟨"java/util/Arrays", "fill", "([BB)V"⟩ : MethodName)) hown (mvT hZ (hw _ (List.mem_of_getElem? (i := 81) rfl))) (mvT hZ (hw _ (List.mem_of_getElem? (i := 82) rfl))) (mvT hZ (hw _ (List.mem_of_getElem? (i := 83) rfl))) (mvT hZ (hw _ (List.mem_of_getElem? (i := 84) rfl))) (by decide) (backOf (W := 0) (rm26 l Z a0 hw [] b33 (-1 : Int32) (256 : Int32) kc_b33 (fun _ => (.int (0 : Int32))) (-1 : Int32) 256 h46 n0 Z56 F54 g_b33 rfl (by decide) (by decide)) hZ (hw _ (List.mem_of_getElem? (i := 84) rfl)) (hw _ (List.mem_of_getElem? (i := 83) rfl)) (by decide) (by decide)) (g := (mkF m 29 #[.val (.ref a1), .val (.ref a2), .unset] [(.int (-1 : Int32)), (.ref b33)])) rfl (by rw [hml]; rfl) (argsL := [(.ref b33), (.int (-1 : Int32))]) (rest := []) (lenOf pd_9 rfl) rfl (by show 2 * 0 + _ ≤ _; exact Nat.le_of_eq rfl) (hb hby d27_29) (fun _ _ => ⟨rfl, e60, (by decide : 2 + 0 ≤ _), (by decide : 260 + 0 ≤ _)⟩)
  dsimp only [Pt.U, Pt.locs, Pt.cells, Pt.slots] at X63 l63 y63 z63 st63 hQ63
  subst l63 y63 z63
  obtain ⟨rfl, N63q, K63, Y63_0⟩ := hQ63
  have F64 : Exa Z T63.heap a1 "com/example/basewright/basewright/Alphabet" := F47.keep K63
  have F65 : Exa Z T63.heap a2 "java/lang/String" := F48.keep K63
  have F66 : Exa Z T63.heap bv "[B" := F49.keep K63
  have F67 : Old Z n0 T63.heap := F50.keep K63 (allS g_b33 all0)
  have F68 : own_Af Z T63.heap b_7 kb .byte pn (fun i => Value.int (cf i)) := F51.keep K63 (ninS ne_b_7_b33 nin0)
  have F69 : Exa Z T63.heap b_7 "[B" := F52.keep K63
  have F70 : Fld Z T63.heap a1 "com/example/basewright/basewright/Alphabet" "characters" "[B" (.ref b_7) := F53.keep K63 (ninS ne_a1_b33 nin0)
  have F71 : Fld Z T63.heap a1 "com/example/basewright/basewright/Alphabet" "values" "[B" (.ref b33) := F55.keep K63 (ninS ne_a1_b33 nin0)
  have Z72 : n0 ≤ T63.heap.size := Nat.le_trans Z56 K63.1
  have K73 : Keep h0 T63.heap [a1] := K57.trans K63 (allS (Or.inr sz_b33) all0)
  have N63 := Fr.app N46 N63q
  have P74 : ∀ t, Steps p.tables e below (T63.setTop (mkF m 32 #[.val (.ref a1), .val (.ref a2), .unset] [])) t → Steps p.tables e below (s₁.setTop (entryFrame m #[(.ref a1), (.ref a2)] 3)) t := fun t k => P62 _ (st63 _ k)
  have P75 : ∀ t, Steps p.tables e below (T63.setTop (mkF m 34 #[.val (.ref a1), .val (.ref a2), .val (.int (0 : Int32))] [])) t → Steps p.tables e below (s₁.setTop (entryFrame m #[(.ref a1), (.ref a2)] 3)) t := by
    intro t k
    refine P74 _ ?_
    refine XS.iconst X63.here hx rfl (hb hby d27_32) ?_
    show Steps p.tables e below (T63.setTop (mkF m 33 #[.val (.ref a1), .val (.ref a2), .unset] [(.int (0 : Int32))])) _
    refine XS.istoreN X63.here hx rfl (hb hby d27_33) rfl (l' := #[.val (.ref a1), .val (.ref a2), .val (.int (0 : Int32))]) rfl ?_
    show Steps p.tables e below (T63.setTop (mkF m 34 #[.val (.ref a1), .val (.ref a2), .val (.int (0 : Int32))] [])) _
    exact k
  obtain ⟨T76, h76, lo76, jv, X76, e76, N76q, K76, q1, q2, q3, q4, st76⟩ := loop27 a1 a2 b_7 b33 pn kb kc_b33 cf n hx hZ hw hby hml hown hn hn4 g_b33 ne_b_7_b33 ne_a1_b33 hcs n T63 _ T63.heap 0 (0 : Int32) _ X63 rfl N63 Z72 F70 F71 F68 Y63_0 (by omega) rfl (fun j => rfl)
  have P77 : ∀ t, Steps p.tables e below (T76.setTop (mkF m 62 #[.val (.ref a1), .val (.ref a2), .val (.int jv)] [])) t → Steps p.tables e below (s₁.setTop (entryFrame m #[(.ref a1), (.ref a2)] 3)) t := fun t k => P75 _ (st76 _ k)
  have F78 : Exa Z h76 a1 "com/example/basewright/basewright/Alphabet" := F64.keep K76
  have F79 : Exa Z h76 a2 "java/lang/String" := F65.keep K76
  have F80 : Exa Z h76 bv "[B" := F66.keep K76
  have F81 : Old Z n0 h76 := F67.keep K76 (allS g_b33 all0)
  have F82 : own_Af Z h76 b_7 kb .byte pn (fun i => Value.int (cf i)) := F68.keep K76 (ninS ne_b_7_b33 nin0)
  have F83 : Exa Z h76 b_7 "[B" := F69.keep K76
  have F84 : Fld Z h76 a1 "com/example/basewright/basewright/Alphabet" "characters" "[B" (.ref b_7) := F70.keep K76 (ninS ne_a1_b33 nin0)
  have F85 : Fld Z h76 a1 "com/example/basewright/basewright/Alphabet" "values" "[B" (.ref b33) := F71.keep K76 (ninS ne_a1_b33 nin0)
  have Z86 : n0 ≤ h76.size := Nat.le_trans Z72 K76.1
  have K87 : Keep h0 h76 [a1] := K73.trans K76 (allS (Or.inr sz_b33) all0)
  obtain ⟨fs, hr, hrun, hended, hW, hsame⟩ := X76.leave (v := none) (fun _ => rfl)
  refine ⟨_, _, P77 _ ?_, hrun, hended, _, _, rfl, ?_, ⟨_, rfl⟩, hW, hsame.mono (by decide) (by decide)⟩
  · exact X76.returnOut hx Bd.returns (hb hby d27_62) hr
  · show Q27 Z a1 a2 u1 u2 bv pn kb cf n wA wU wI ccs h0 n0 _ T76.heap _
    rw [e76]
    exact ⟨b_7, b33, kc_b33, rfl, N76q, K87, sz_b_7, sz_b33, F78, q1, q2, q3, q4⟩
theorem d29_0 : decode prog_1_method_7_code 0 = .ok (.aload_n 1, 1) := by decide +kernel
theorem d29_1 : decode prog_1_method_7_code 1 = .ok (.arraylength, 1) := by decide +kernel
theorem d29_2 : decode prog_1_method_7_code 2 = .ok (.bipush 8, 2) := by decide +kernel
theorem d29_4 : decode prog_1_method_7_code 4 = .ok (.ishl, 1) := by decide +kernel
theorem d29_5 : decode prog_1_method_7_code 5 = .ok (.newarray .long, 2) := by decide +kernel
theorem d29_7 : decode prog_1_method_7_code 7 = .ok (.astore_n 2, 1) := by decide +kernel
theorem d29_8 : decode prog_1_method_7_code 8 = .ok (.iconst 0, 1) := by decide +kernel
theorem d29_9 : decode prog_1_method_7_code 9 = .ok (.istore_n 3, 1) := by decide +kernel
theorem d29_10 : decode prog_1_method_7_code 10 = .ok (.iload_n 3, 1) := by decide +kernel
theorem d29_11 : decode prog_1_method_7_code 11 = .ok (.aload_n 1, 1) := by decide +kernel
theorem d29_12 : decode prog_1_method_7_code 12 = .ok (.arraylength, 1) := by decide +kernel
theorem d29_13 : decode prog_1_method_7_code 13 = .ok (.if_icmp .ge 65, 3) := by decide +kernel
theorem d29_16 : decode prog_1_method_7_code 16 = .ok (.iconst 0, 1) := by decide +kernel
theorem d29_17 : decode prog_1_method_7_code 17 = .ok (.istore 4, 2) := by decide +kernel
theorem d29_19 : decode prog_1_method_7_code 19 = .ok (.iload 4, 2) := by decide +kernel
theorem d29_21 : decode prog_1_method_7_code 21 = .ok (.aload_n 0, 1) := by decide +kernel
theorem d29_22 : decode prog_1_method_7_code 22 = .ok (.getfield 27, 3) := by decide +kernel
theorem d29_25 : decode prog_1_method_7_code 25 = .ok (.arraylength, 1) := by decide +kernel
theorem d29_26 : decode prog_1_method_7_code 26 = .ok (.if_icmp .ge 46, 3) := by decide +kernel
theorem d29_29 : decode prog_1_method_7_code 29 = .ok (.aload_n 2, 1) := by decide +kernel
theorem d29_30 : decode prog_1_method_7_code 30 = .ok (.iload_n 3, 1) := by decide +kernel
theorem d29_31 : decode prog_1_method_7_code 31 = .ok (.bipush 8, 2) := by decide +kernel
theorem d29_33 : decode prog_1_method_7_code 33 = .ok (.ishl, 1) := by decide +kernel
theorem d29_34 : decode prog_1_method_7_code 34 = .ok (.iload 4, 2) := by decide +kernel
theorem d29_36 : decode prog_1_method_7_code 36 = .ok (.ior, 1) := by decide +kernel
theorem d29_37 : decode prog_1_method_7_code 37 = .ok (.aload_n 0, 1) := by decide +kernel
theorem d29_38 : decode prog_1_method_7_code 38 = .ok (.getfield 27, 3) := by decide +kernel
theorem d29_41 : decode prog_1_method_7_code 41 = .ok (.iload 4, 2) := by decide +kernel
theorem d29_43 : decode prog_1_method_7_code 43 = .ok (.baload, 1) := by decide +kernel
theorem d29_44 : decode prog_1_method_7_code 44 = .ok (.ifCond .ge 9, 3) := by decide +kernel
theorem d29_47 : decode prog_1_method_7_code 47 = .ok (.ldc2_w 36, 3) := by decide +kernel
theorem d29_50 : decode prog_1_method_7_code 50 = .ok (.goto 15, 3) := by decide +kernel
theorem d29_53 : decode prog_1_method_7_code 53 = .ok (.aload_n 0, 1) := by decide +kernel
theorem d29_54 : decode prog_1_method_7_code 54 = .ok (.getfield 27, 3) := by decide +kernel
theorem d29_57 : decode prog_1_method_7_code 57 = .ok (.iload 4, 2) := by decide +kernel
theorem d29_59 : decode prog_1_method_7_code 59 = .ok (.baload, 1) := by decide +kernel
theorem d29_60 : decode prog_1_method_7_code 60 = .ok (.i2l, 1) := by decide +kernel
theorem d29_61 : decode prog_1_method_7_code 61 = .ok (.aload_n 1, 1) := by decide +kernel
theorem d29_62 : decode prog_1_method_7_code 62 = .ok (.iload_n 3, 1) := by decide +kernel
theorem d29_63 : decode prog_1_method_7_code 63 = .ok (.laload, 1) := by decide +kernel
theorem d29_64 : decode prog_1_method_7_code 64 = .ok (.lmul, 1) := by decide +kernel
theorem d29_65 : decode prog_1_method_7_code 65 = .ok (.lastore, 1) := by decide +kernel
theorem d29_66 : decode prog_1_method_7_code 66 = .ok (.iinc 4 1, 3) := by decide +kernel
theorem d29_69 : decode prog_1_method_7_code 69 = .ok (.goto (-50), 3) := by decide +kernel
theorem d29_72 : decode prog_1_method_7_code 72 = .ok (.iinc 3 1, 3) := by decide +kernel
theorem d29_75 : decode prog_1_method_7_code 75 = .ok (.goto (-65), 3) := by decide +kernel
theorem d29_78 : decode prog_1_method_7_code 78 = .ok (.aload_n 2, 1) := by decide +kernel
theorem d29_79 : decode prog_1_method_7_code 79 = .ok (.areturn, 1) := by decide +kernel
set_option maxRecDepth 65536 in
set_option maxHeartbeats 40000000 in
theorem tn29 {p : Program} {l : Launch} {e : Env} {R : Room} {s : State} {m : MethodId} {args : Array Value} {below : List Frame} {meth : Method} {c : Code} {T : State} {locs : List Loc} {cells slots : Nat} {Z : State} {a0 : Array Value} {h0 : Heap} {n0 : Nat} (a1 : Addr) (a2 : Addr) (ps : Addr) (iv : Int32) (jv : Int32) (bz : Addr) (nq : Int32) (pm : Int32) (kz : ClassId) (kw : ClassId) (kp : ClassId) (vf : Nat → Int32) (wf : Nat → Int64) (f3 : Nat → Value)
    (X0 : Stand p l e R s m args below meth c T locs cells slots) (hx : p.tables.exec = Jvm.exec) (hZ : Z.Warmed39 s.vm) (hw : ∀ d ∈ tables_1, d.before a0 Z = true) (hby : c.code = prog_1_method_7_code) (hml : c.maxLocals = 5) (hown : s.vm.findClass "com/example/basewright/basewright/Alphabet" = some m.cls) (e0 : T.heap = h0) (N0 : Fr n0 locs) (Z0 : n0 ≤ h0.size) (F_z : Fld Z h0 a1 "com/example/basewright/basewright/Alphabet" "values" "[B" (.ref bz)) (A_z : own_Af Z h0 bz kz .byte (256 : Int32) (fun j => Value.int (vf j))) (A_w : own_Af Z h0 a2 kw .long pm (fun i => Value.long (wf i))) (A_s : own_Af Z h0 ps kp .long nq f3) (g_s : n0 ≤ ps) (nezs : bz ≠ ps) (neas : a1 ≠ ps) (news : a2 ≠ ps) (hlt : jv < (256 : Int32)) (hj : ¬ jv < (0 : Int32) ∧ jv < (256 : Int32)) (hi : ¬ iv < (0 : Int32) ∧ iv < pm) (hix : ¬ ((iv <<< ((8 : Int32) &&& 31)) ||| jv) < (0 : Int32) ∧ ((iv <<< ((8 : Int32) &&& 31)) ||| jv) < nq) :
    ∃ (T' : State) (h' : Heap) (locs' : List Loc), Stand p l e R s m args below meth c T' locs' cells slots ∧ T'.heap = h' ∧ Fr n0 locs' ∧ Keep h0 h' [ps] ∧ Fld Z h' a1 "com/example/basewright/basewright/Alphabet" "values" "[B" (.ref bz) ∧ own_Af Z h' bz kz .byte (256 : Int32) (fun j => Value.int (vf j)) ∧ own_Af Z h' a2 kw .long pm (fun i => Value.long (wf i)) ∧ own_Af Z h' ps kp .long nq (fun i => if i = (((iv <<< ((8 : Int32) &&& 31)) ||| jv)).toNatClampNeg then (.long (if (vf (jv).toNatClampNeg) < (0 : Int32) then (-1152921504606846976 : Int64) else ((vf (jv).toNatClampNeg).toInt64 * (wf (iv).toNatClampNeg)))) else f3 i) ∧
      ∀ t, Steps p.tables e below (T'.setTop (mkF m 19 #[.val (.ref a1), .val (.ref a2), .val (.ref ps), .val (.int iv), .val (.int (jv + (1 : Int32)))] [])) t → Steps p.tables e below (T.setTop (mkF m 19 #[.val (.ref a1), .val (.ref a2), .val (.ref ps), .val (.int iv), .val (.int jv)] [])) t := by
  have K0 : Keep h0 h0 [ps] := Keep.refl _ _
  have P0 : ∀ t, Steps p.tables e below (T.setTop (mkF m 19 #[.val (.ref a1), .val (.ref a2), .val (.ref ps), .val (.int iv), .val (.int jv)] [])) t → Steps p.tables e below (T.setTop (mkF m 19 #[.val (.ref a1), .val (.ref a2), .val (.ref ps), .val (.int iv), .val (.int jv)] [])) t := fun t k => k
  have P1 : ∀ t, Steps p.tables e below (T.setTop (mkF m 22 #[.val (.ref a1), .val (.ref a2), .val (.ref ps), .val (.int iv), .val (.int jv)] [(.ref a1), (.int jv)])) t → Steps p.tables e below (T.setTop (mkF m 19 #[.val (.ref a1), .val (.ref a2), .val (.ref ps), .val (.int iv), .val (.int jv)] [])) t := by
    intro t k
    refine P0 _ ?_
    refine XS.iload X0.here hx rfl (hb hby d29_19) rfl ?_
    show Steps p.tables e below (T.setTop (mkF m 21 #[.val (.ref a1), .val (.ref a2), .val (.ref ps), .val (.int iv), .val (.int jv)] [(.int jv)])) _
    refine XS.aloadN X0.here hx rfl (hb hby d29_21) rfl rfl ?_
    show Steps p.tables e below (T.setTop (mkF m 22 #[.val (.ref a1), .val (.ref a2), .val (.ref ps), .val (.int iv), .val (.int jv)] [(.ref a1), (.int jv)])) _
    exact k
  obtain ⟨T2, X2, e2, st2⟩ := getF X0 hx hZ hown (host := "") (Or.inl (hw _ (List.mem_of_getElem? (i := 79) rfl))) Via.refl e0 F_z (g := (mkF m 22 #[.val (.ref a1), .val (.ref a2), .val (.ref ps), .val (.int iv), .val (.int jv)] [(.ref a1), (.int jv)])) rfl rfl (hb hby d29_22)
  have P3 : ∀ t, Steps p.tables e below (T2.setTop (mkF m 25 #[.val (.ref a1), .val (.ref a2), .val (.ref ps), .val (.int iv), .val (.int jv)] [(.ref bz), (.int jv)])) t → Steps p.tables e below (T.setTop (mkF m 19 #[.val (.ref a1), .val (.ref a2), .val (.ref ps), .val (.int iv), .val (.int jv)] [])) t := fun t k => P1 _ (st2 _ k)
  have P4 : ∀ t, Steps p.tables e below (T2.setTop (mkF m 38 #[.val (.ref a1), .val (.ref a2), .val (.ref ps), .val (.int iv), .val (.int jv)] [(.ref a1), (.int ((iv <<< ((8 : Int32) &&& 31)) ||| jv)), (.ref ps)])) t → Steps p.tables e below (T.setTop (mkF m 19 #[.val (.ref a1), .val (.ref a2), .val (.ref ps), .val (.int iv), .val (.int jv)] [])) t := by
    intro t k
    refine P3 _ ?_
    refine own_flen X2 hx hZ e2 A_z rfl rfl (hb hby d29_25) ?_
    show Steps p.tables e below (T2.setTop (mkF m 26 #[.val (.ref a1), .val (.ref a2), .val (.ref ps), .val (.int iv), .val (.int jv)] [(.int (256 : Int32)), (.int jv)])) _
    refine XS.icmpNo X2.here hx rfl (hb hby d29_26) rfl (XT.ii_ge_f hlt) ?_
    show Steps p.tables e below (T2.setTop (mkF m 29 #[.val (.ref a1), .val (.ref a2), .val (.ref ps), .val (.int iv), .val (.int jv)] [])) _
    refine XS.aloadN X2.here hx rfl (hb hby d29_29) rfl rfl ?_
    show Steps p.tables e below (T2.setTop (mkF m 30 #[.val (.ref a1), .val (.ref a2), .val (.ref ps), .val (.int iv), .val (.int jv)] [(.ref ps)])) _
    refine XS.iloadN X2.here hx rfl (hb hby d29_30) rfl ?_
    show Steps p.tables e below (T2.setTop (mkF m 31 #[.val (.ref a1), .val (.ref a2), .val (.ref ps), .val (.int iv), .val (.int jv)] [(.int iv), (.ref ps)])) _
    refine XS.bipush X2.here hx rfl (hb hby d29_31) ?_
    show Steps p.tables e below (T2.setTop (mkF m 33 #[.val (.ref a1), .val (.ref a2), .val (.ref ps), .val (.int iv), .val (.int jv)] [(.int (8 : Int32)), (.int iv), (.ref ps)])) _
    refine XT.ishl X2.here hx rfl (hb hby d29_33) rfl ?_
    show Steps p.tables e below (T2.setTop (mkF m 34 #[.val (.ref a1), .val (.ref a2), .val (.ref ps), .val (.int iv), .val (.int jv)] [(.int (iv <<< ((8 : Int32) &&& 31))), (.ref ps)])) _
    refine XS.iload X2.here hx rfl (hb hby d29_34) rfl ?_
    show Steps p.tables e below (T2.setTop (mkF m 36 #[.val (.ref a1), .val (.ref a2), .val (.ref ps), .val (.int iv), .val (.int jv)] [(.int jv), (.int (iv <<< ((8 : Int32) &&& 31))), (.ref ps)])) _
    refine XT.ior X2.here hx rfl (hb hby d29_36) rfl ?_
    show Steps p.tables e below (T2.setTop (mkF m 37 #[.val (.ref a1), .val (.ref a2), .val (.ref ps), .val (.int iv), .val (.int jv)] [(.int ((iv <<< ((8 : Int32) &&& 31)) ||| jv)), (.ref ps)])) _
    refine XS.aloadN X2.here hx rfl (hb hby d29_37) rfl rfl ?_
    show Steps p.tables e below (T2.setTop (mkF m 38 #[.val (.ref a1), .val (.ref a2), .val (.ref ps), .val (.int iv), .val (.int jv)] [(.ref a1), (.int ((iv <<< ((8 : Int32) &&& 31)) ||| jv)), (.ref ps)])) _
    exact k
  obtain ⟨T5, X5, e5, st5⟩ := getF X2 hx hZ hown (host := "") (Or.inl (hw _ (List.mem_of_getElem? (i := 79) rfl))) Via.refl e2 F_z (g := (mkF m 38 #[.val (.ref a1), .val (.ref a2), .val (.ref ps), .val (.int iv), .val (.int jv)] [(.ref a1), (.int ((iv <<< ((8 : Int32) &&& 31)) ||| jv)), (.ref ps)])) rfl rfl (hb hby d29_38)
  have P6 : ∀ t, Steps p.tables e below (T5.setTop (mkF m 41 #[.val (.ref a1), .val (.ref a2), .val (.ref ps), .val (.int iv), .val (.int jv)] [(.ref bz), (.int ((iv <<< ((8 : Int32) &&& 31)) ||| jv)), (.ref ps)])) t → Steps p.tables e below (T.setTop (mkF m 19 #[.val (.ref a1), .val (.ref a2), .val (.ref ps), .val (.int iv), .val (.int jv)] [])) t := fun t k => P4 _ (st5 _ k)
  have P7 : ∀ t, Steps p.tables e below (T5.setTop (mkF m 44 #[.val (.ref a1), .val (.ref a2), .val (.ref ps), .val (.int iv), .val (.int jv)] [(.int (vf (jv).toNatClampNeg)), (.int ((iv <<< ((8 : Int32) &&& 31)) ||| jv)), (.ref ps)])) t → Steps p.tables e below (T.setTop (mkF m 19 #[.val (.ref a1), .val (.ref a2), .val (.ref ps), .val (.int iv), .val (.int jv)] [])) t := by
    intro t k
    refine P6 _ ?_
    refine XS.iload X5.here hx rfl (hb hby d29_41) rfl ?_
    show Steps p.tables e below (T5.setTop (mkF m 43 #[.val (.ref a1), .val (.ref a2), .val (.ref ps), .val (.int iv), .val (.int jv)] [(.int jv), (.ref bz), (.int ((iv <<< ((8 : Int32) &&& 31)) ||| jv)), (.ref ps)])) _
    refine own_fbal X5 hx hZ e5 A_z hj (v := (.int (vf (jv).toNatClampNeg))) rfl rfl rfl (hb hby d29_43) ?_
    show Steps p.tables e below (T5.setTop (mkF m 44 #[.val (.ref a1), .val (.ref a2), .val (.ref ps), .val (.int iv), .val (.int jv)] [(.int (vf (jv).toNatClampNeg)), (.int ((iv <<< ((8 : Int32) &&& 31)) ||| jv)), (.ref ps)])) _
    exact k
  by_cases c44 : (vf (jv).toNatClampNeg) < (0 : Int32)
  · have P8 : ∀ t, Steps p.tables e below (T5.setTop (mkF m 65 #[.val (.ref a1), .val (.ref a2), .val (.ref ps), .val (.int iv), .val (.int jv)] [(.long (-1152921504606846976 : Int64)), (.int ((iv <<< ((8 : Int32) &&& 31)) ||| jv)), (.ref ps)])) t → Steps p.tables e below (T.setTop (mkF m 19 #[.val (.ref a1), .val (.ref a2), .val (.ref ps), .val (.int iv), .val (.int jv)] [])) t := by
      intro t k
      refine P7 _ ?_
      refine XS.ifNo X5.here hx rfl (hb hby d29_44) rfl (XT.i0_ge_f c44) ?_
      show Steps p.tables e below (T5.setTop (mkF m 47 #[.val (.ref a1), .val (.ref a2), .val (.ref ps), .val (.int iv), .val (.int jv)] [(.int ((iv <<< ((8 : Int32) &&& 31)) ||| jv)), (.ref ps)])) _
      refine Jvm.Stand.ldc2J X5 hx hown (mvT hZ (hw _ (List.mem_of_getElem? (i := 90) rfl))) rfl (hb hby d29_47) ?_
      show Steps p.tables e below (T5.setTop (mkF m 50 #[.val (.ref a1), .val (.ref a2), .val (.ref ps), .val (.int iv), .val (.int jv)] [(.long (-1152921504606846976 : Int64)), (.int ((iv <<< ((8 : Int32) &&& 31)) ||| jv)), (.ref ps)])) _
      refine XS.goto X5.here hx rfl (pc0 := 50) (pc' := 65) rfl (hb hby d29_50) (by decide) (by decide) ?_
      show Steps p.tables e below (T5.setTop (mkF m 65 #[.val (.ref a1), .val (.ref a2), .val (.ref ps), .val (.int iv), .val (.int jv)] [(.long (-1152921504606846976 : Int64)), (.int ((iv <<< ((8 : Int32) &&& 31)) ||| jv)), (.ref ps)])) _
      exact k
    obtain ⟨cl9, Ar9, q9, S9, M9, H9, G9⟩ := A_s
    have in9 : ¬ (((iv <<< ((8 : Int32) &&& 31)) ||| jv) < 0 ∨ cl9.slots.size ≤ (((iv <<< ((8 : Int32) &&& 31)) ||| jv)).toNatClampNeg) := inb_of S9 hix
    obtain ⟨T9, h9, X9, e9, W9, st9⟩ := stJ X5 hx hZ e5 Ar9 (j := ((iv <<< ((8 : Int32) &&& 31)) ||| jv)) in9 (g := (mkF m 65 #[.val (.ref a1), .val (.ref a2), .val (.ref ps), .val (.int iv), .val (.int jv)] [(.long (-1152921504606846976 : Int64)), (.int ((iv <<< ((8 : Int32) &&& 31)) ||| jv)), (.ref ps)])) rfl rfl (hb hby d29_65)
    have F10 : Fld Z h9 a1 "com/example/basewright/basewright/Alphabet" "values" "[B" (.ref bz) := F_z.other W9 (Or.inl neas)
    have F11 : own_Af Z h9 bz kz .byte (256 : Int32) (fun j => Value.int (vf j)) := A_z.other W9 nezs
    have F12 : own_Af Z h9 a2 kw .long pm (fun i => Value.long (wf i)) := A_w.other W9 news
    have F13 : own_Af Z h9 ps kp .long nq (fun i => if i = (((iv <<< ((8 : Int32) &&& 31)) ||| jv)).toNatClampNeg then (.long (-1152921504606846976 : Int64)) else f3 i) := own_Af.set Ar9 q9 S9 M9 H9 G9 rfl W9 (Nat.lt_of_not_le fun y => in9 (Or.inr y))
    have Z14 : n0 ≤ h9.size := Nat.le_trans Z0 (Keep.of_wr W9).1
    have K15 : Keep h0 h9 [ps] := K0.wr W9 (Or.inl (List.mem_of_getElem? (i := 0) rfl))
    have N9 := Fr.snoc X9 N0 g_s
    have P16 : ∀ t, Steps p.tables e below (T9.setTop (mkF m 66 #[.val (.ref a1), .val (.ref a2), .val (.ref ps), .val (.int iv), .val (.int jv)] [])) t → Steps p.tables e below (T.setTop (mkF m 19 #[.val (.ref a1), .val (.ref a2), .val (.ref ps), .val (.int iv), .val (.int jv)] [])) t := fun t k => P8 _ (st9 _ k)
    have P17 : ∀ t, Steps p.tables e below (T9.setTop (mkF m 19 #[.val (.ref a1), .val (.ref a2), .val (.ref ps), .val (.int iv), .val (.int (jv + (1 : Int32)))] [])) t → Steps p.tables e below (T.setTop (mkF m 19 #[.val (.ref a1), .val (.ref a2), .val (.ref ps), .val (.int iv), .val (.int jv)] [])) t := by
      intro t k
      refine P16 _ ?_
      refine XS.iinc X9.here hx rfl (hb hby d29_66) rfl (l' := #[.val (.ref a1), .val (.ref a2), .val (.ref ps), .val (.int iv), .val (.int (jv + (1 : Int32)))]) rfl ?_
      show Steps p.tables e below (T9.setTop (mkF m 69 #[.val (.ref a1), .val (.ref a2), .val (.ref ps), .val (.int iv), .val (.int (jv + (1 : Int32)))] [])) _
      refine XS.goto X9.here hx rfl (pc0 := 69) (pc' := 19) rfl (hb hby d29_69) (by decide) (by decide) ?_
      show Steps p.tables e below (T9.setTop (mkF m 19 #[.val (.ref a1), .val (.ref a2), .val (.ref ps), .val (.int iv), .val (.int (jv + (1 : Int32)))] [])) _
      exact k
    exact ⟨T9, h9, _, X9, e9, N9, K15, F10, F11, F12, (by simp only [if_pos c44]; exact F13), P17⟩
  · have P18 : ∀ t, Steps p.tables e below (T5.setTop (mkF m 54 #[.val (.ref a1), .val (.ref a2), .val (.ref ps), .val (.int iv), .val (.int jv)] [(.ref a1), (.int ((iv <<< ((8 : Int32) &&& 31)) ||| jv)), (.ref ps)])) t → Steps p.tables e below (T.setTop (mkF m 19 #[.val (.ref a1), .val (.ref a2), .val (.ref ps), .val (.int iv), .val (.int jv)] [])) t := by
      intro t k
      refine P7 _ ?_
      refine XS.ifYes X5.here hx rfl (pc0 := 44) (pc' := 53) rfl (hb hby d29_44) rfl (XT.i0_ge_t c44) (by decide) (by decide) ?_
      show Steps p.tables e below (T5.setTop (mkF m 53 #[.val (.ref a1), .val (.ref a2), .val (.ref ps), .val (.int iv), .val (.int jv)] [(.int ((iv <<< ((8 : Int32) &&& 31)) ||| jv)), (.ref ps)])) _
      refine XS.aloadN X5.here hx rfl (hb hby d29_53) rfl rfl ?_
      show Steps p.tables e below (T5.setTop (mkF m 54 #[.val (.ref a1), .val (.ref a2), .val (.ref ps), .val (.int iv), .val (.int jv)] [(.ref a1), (.int ((iv <<< ((8 : Int32) &&& 31)) ||| jv)), (.ref ps)])) _
      exact k
    obtain ⟨T19, X19, e19, st19⟩ := getF X5 hx hZ hown (host := "") (Or.inl (hw _ (List.mem_of_getElem? (i := 79) rfl))) Via.refl e5 F_z (g := (mkF m 54 #[.val (.ref a1), .val (.ref a2), .val (.ref ps), .val (.int iv), .val (.int jv)] [(.ref a1), (.int ((iv <<< ((8 : Int32) &&& 31)) ||| jv)), (.ref ps)])) rfl rfl (hb hby d29_54)
    have P20 : ∀ t, Steps p.tables e below (T19.setTop (mkF m 57 #[.val (.ref a1), .val (.ref a2), .val (.ref ps), .val (.int iv), .val (.int jv)] [(.ref bz), (.int ((iv <<< ((8 : Int32) &&& 31)) ||| jv)), (.ref ps)])) t → Steps p.tables e below (T.setTop (mkF m 19 #[.val (.ref a1), .val (.ref a2), .val (.ref ps), .val (.int iv), .val (.int jv)] [])) t := fun t k => P18 _ (st19 _ k)
    have P21 : ∀ t, Steps p.tables e below (T19.setTop (mkF m 65 #[.val (.ref a1), .val (.ref a2), .val (.ref ps), .val (.int iv), .val (.int jv)] [(.long (((vf (jv).toNatClampNeg).toInt64) * (wf (iv).toNatClampNeg))), (.int ((iv <<< ((8 : Int32) &&& 31)) ||| jv)), (.ref ps)])) t → Steps p.tables e below (T.setTop (mkF m 19 #[.val (.ref a1), .val (.ref a2), .val (.ref ps), .val (.int iv), .val (.int jv)] [])) t := by
      intro t k
      refine P20 _ ?_
      refine XS.iload X19.here hx rfl (hb hby d29_57) rfl ?_
      show Steps p.tables e below (T19.setTop (mkF m 59 #[.val (.ref a1), .val (.ref a2), .val (.ref ps), .val (.int iv), .val (.int jv)] [(.int jv), (.ref bz), (.int ((iv <<< ((8 : Int32) &&& 31)) ||| jv)), (.ref ps)])) _
      refine own_fbal X19 hx hZ e19 A_z hj (v := (.int (vf (jv).toNatClampNeg))) rfl rfl rfl (hb hby d29_59) ?_
      show Steps p.tables e below (T19.setTop (mkF m 60 #[.val (.ref a1), .val (.ref a2), .val (.ref ps), .val (.int iv), .val (.int jv)] [(.int (vf (jv).toNatClampNeg)), (.int ((iv <<< ((8 : Int32) &&& 31)) ||| jv)), (.ref ps)])) _
      refine XT.i2l X19.here hx rfl (hb hby d29_60) rfl ?_
      show Steps p.tables e below (T19.setTop (mkF m 61 #[.val (.ref a1), .val (.ref a2), .val (.ref ps), .val (.int iv), .val (.int jv)] [(.long ((vf (jv).toNatClampNeg).toInt64)), (.int ((iv <<< ((8 : Int32) &&& 31)) ||| jv)), (.ref ps)])) _
      refine XS.aloadN X19.here hx rfl (hb hby d29_61) rfl rfl ?_
      show Steps p.tables e below (T19.setTop (mkF m 62 #[.val (.ref a1), .val (.ref a2), .val (.ref ps), .val (.int iv), .val (.int jv)] [(.ref a2), (.long ((vf (jv).toNatClampNeg).toInt64)), (.int ((iv <<< ((8 : Int32) &&& 31)) ||| jv)), (.ref ps)])) _
      refine XS.iloadN X19.here hx rfl (hb hby d29_62) rfl ?_
      show Steps p.tables e below (T19.setTop (mkF m 63 #[.val (.ref a1), .val (.ref a2), .val (.ref ps), .val (.int iv), .val (.int jv)] [(.int iv), (.ref a2), (.long ((vf (jv).toNatClampNeg).toInt64)), (.int ((iv <<< ((8 : Int32) &&& 31)) ||| jv)), (.ref ps)])) _
      refine own_flal X19 hx hZ e19 A_w hi (v := (.long (wf (iv).toNatClampNeg))) rfl rfl rfl (hb hby d29_63) ?_
      show Steps p.tables e below (T19.setTop (mkF m 64 #[.val (.ref a1), .val (.ref a2), .val (.ref ps), .val (.int iv), .val (.int jv)] [(.long (wf (iv).toNatClampNeg)), (.long ((vf (jv).toNatClampNeg).toInt64)), (.int ((iv <<< ((8 : Int32) &&& 31)) ||| jv)), (.ref ps)])) _
      refine XT.lmul X19.here hx rfl (hb hby d29_64) rfl ?_
      show Steps p.tables e below (T19.setTop (mkF m 65 #[.val (.ref a1), .val (.ref a2), .val (.ref ps), .val (.int iv), .val (.int jv)] [(.long (((vf (jv).toNatClampNeg).toInt64) * (wf (iv).toNatClampNeg))), (.int ((iv <<< ((8 : Int32) &&& 31)) ||| jv)), (.ref ps)])) _
      exact k
    obtain ⟨cl22, Ar22, q22, S22, M22, H22, G22⟩ := A_s
    have in22 : ¬ (((iv <<< ((8 : Int32) &&& 31)) ||| jv) < 0 ∨ cl22.slots.size ≤ (((iv <<< ((8 : Int32) &&& 31)) ||| jv)).toNatClampNeg) := inb_of S22 hix
    obtain ⟨T22, h22, X22, e22, W22, st22⟩ := stJ X19 hx hZ e19 Ar22 (j := ((iv <<< ((8 : Int32) &&& 31)) ||| jv)) in22 (g := (mkF m 65 #[.val (.ref a1), .val (.ref a2), .val (.ref ps), .val (.int iv), .val (.int jv)] [(.long (((vf (jv).toNatClampNeg).toInt64) * (wf (iv).toNatClampNeg))), (.int ((iv <<< ((8 : Int32) &&& 31)) ||| jv)), (.ref ps)])) rfl rfl (hb hby d29_65)
    have F23 : Fld Z h22 a1 "com/example/basewright/basewright/Alphabet" "values" "[B" (.ref bz) := F_z.other W22 (Or.inl neas)
    have F24 : own_Af Z h22 bz kz .byte (256 : Int32) (fun j => Value.int (vf j)) := A_z.other W22 nezs
    have F25 : own_Af Z h22 a2 kw .long pm (fun i => Value.long (wf i)) := A_w.other W22 news
    have F26 : own_Af Z h22 ps kp .long nq (fun i => if i = (((iv <<< ((8 : Int32) &&& 31)) ||| jv)).toNatClampNeg then (.long (((vf (jv).toNatClampNeg).toInt64) * (wf (iv).toNatClampNeg))) else f3 i) := own_Af.set Ar22 q22 S22 M22 H22 G22 rfl W22 (Nat.lt_of_not_le fun y => in22 (Or.inr y))
    have Z27 : n0 ≤ h22.size := Nat.le_trans Z0 (Keep.of_wr W22).1
    have K28 : Keep h0 h22 [ps] := K0.wr W22 (Or.inl (List.mem_of_getElem? (i := 0) rfl))
    have N22 := Fr.snoc X22 N0 g_s
    have P29 : ∀ t, Steps p.tables e below (T22.setTop (mkF m 66 #[.val (.ref a1), .val (.ref a2), .val (.ref ps), .val (.int iv), .val (.int jv)] [])) t → Steps p.tables e below (T.setTop (mkF m 19 #[.val (.ref a1), .val (.ref a2), .val (.ref ps), .val (.int iv), .val (.int jv)] [])) t := fun t k => P21 _ (st22 _ k)
    have P30 : ∀ t, Steps p.tables e below (T22.setTop (mkF m 19 #[.val (.ref a1), .val (.ref a2), .val (.ref ps), .val (.int iv), .val (.int (jv + (1 : Int32)))] [])) t → Steps p.tables e below (T.setTop (mkF m 19 #[.val (.ref a1), .val (.ref a2), .val (.ref ps), .val (.int iv), .val (.int jv)] [])) t := by
      intro t k
      refine P29 _ ?_
      refine XS.iinc X22.here hx rfl (hb hby d29_66) rfl (l' := #[.val (.ref a1), .val (.ref a2), .val (.ref ps), .val (.int iv), .val (.int (jv + (1 : Int32)))]) rfl ?_
      show Steps p.tables e below (T22.setTop (mkF m 69 #[.val (.ref a1), .val (.ref a2), .val (.ref ps), .val (.int iv), .val (.int (jv + (1 : Int32)))] [])) _
      refine XS.goto X22.here hx rfl (pc0 := 69) (pc' := 19) rfl (hb hby d29_69) (by decide) (by decide) ?_
      show Steps p.tables e below (T22.setTop (mkF m 19 #[.val (.ref a1), .val (.ref a2), .val (.ref ps), .val (.int iv), .val (.int (jv + (1 : Int32)))] [])) _
      exact k
    exact ⟨T22, h22, _, X22, e22, N22, K28, F23, F24, F25, (by simp only [if_neg c44]; exact F26), P30⟩
set_option maxRecDepth 65536 in
set_option maxHeartbeats 40000000 in
theorem lv29 {p : Program} {l : Launch} {e : Env} {R : Room} {s : State} {m : MethodId} {args : Array Value} {below : List Frame} {meth : Method} {c : Code} {T : State} {locs : List Loc} {cells slots : Nat} {Z : State} {a0 : Array Value} {h0 : Heap} {n0 : Nat} (a1 : Addr) (a2 : Addr) (ps : Addr) (iv : Int32) (jv : Int32) (bz : Addr) (nq : Int32) (pm : Int32) (kz : ClassId) (kw : ClassId) (kp : ClassId) (vf : Nat → Int32) (wf : Nat → Int64) (f3 : Nat → Value)
    (X0 : Stand p l e R s m args below meth c T locs cells slots) (hx : p.tables.exec = Jvm.exec) (hZ : Z.Warmed39 s.vm) (hw : ∀ d ∈ tables_1, d.before a0 Z = true) (hby : c.code = prog_1_method_7_code) (hml : c.maxLocals = 5) (hown : s.vm.findClass "com/example/basewright/basewright/Alphabet" = some m.cls) (e0 : T.heap = h0) (N0 : Fr n0 locs) (Z0 : n0 ≤ h0.size) (F_z : Fld Z h0 a1 "com/example/basewright/basewright/Alphabet" "values" "[B" (.ref bz)) (A_z : own_Af Z h0 bz kz .byte (256 : Int32) (fun j => Value.int (vf j))) (A_w : own_Af Z h0 a2 kw .long pm (fun i => Value.long (wf i))) (A_s : own_Af Z h0 ps kp .long nq f3) (g_s : n0 ≤ ps) (nezs : bz ≠ ps) (neas : a1 ≠ ps) (news : a2 ≠ ps) (hge : ¬ jv < (256 : Int32)) :
    ∃ (T' : State) (h' : Heap) (locs' : List Loc), Stand p l e R s m args below meth c T' locs' cells slots ∧ T'.heap = h' ∧ Fr n0 locs' ∧ Keep h0 h' [ps] ∧ Fld Z h' a1 "com/example/basewright/basewright/Alphabet" "values" "[B" (.ref bz) ∧ own_Af Z h' bz kz .byte (256 : Int32) (fun j => Value.int (vf j)) ∧ own_Af Z h' a2 kw .long pm (fun i => Value.long (wf i)) ∧ own_Af Z h' ps kp .long nq f3 ∧
      ∀ t, Steps p.tables e below (T'.setTop (mkF m 10 #[.val (.ref a1), .val (.ref a2), .val (.ref ps), .val (.int (iv + (1 : Int32))), .val (.int jv)] [])) t → Steps p.tables e below (T.setTop (mkF m 19 #[.val (.ref a1), .val (.ref a2), .val (.ref ps), .val (.int iv), .val (.int jv)] [])) t := by
  have K0 : Keep h0 h0 [ps] := Keep.refl _ _
  have P0 : ∀ t, Steps p.tables e below (T.setTop (mkF m 19 #[.val (.ref a1), .val (.ref a2), .val (.ref ps), .val (.int iv), .val (.int jv)] [])) t → Steps p.tables e below (T.setTop (mkF m 19 #[.val (.ref a1), .val (.ref a2), .val (.ref ps), .val (.int iv), .val (.int jv)] [])) t := fun t k => k
  have P1 : ∀ t, Steps p.tables e below (T.setTop (mkF m 22 #[.val (.ref a1), .val (.ref a2), .val (.ref ps), .val (.int iv), .val (.int jv)] [(.ref a1), (.int jv)])) t → Steps p.tables e below (T.setTop (mkF m 19 #[.val (.ref a1), .val (.ref a2), .val (.ref ps), .val (.int iv), .val (.int jv)] [])) t := by
    intro t k
    refine P0 _ ?_
    refine XS.iload X0.here hx rfl (hb hby d29_19) rfl ?_
    show Steps p.tables e below (T.setTop (mkF m 21 #[.val (.ref a1), .val (.ref a2), .val (.ref ps), .val (.int iv), .val (.int jv)] [(.int jv)])) _
    refine XS.aloadN X0.here hx rfl (hb hby d29_21) rfl rfl ?_
    show Steps p.tables e below (T.setTop (mkF m 22 #[.val (.ref a1), .val (.ref a2), .val (.ref ps), .val (.int iv), .val (.int jv)] [(.ref a1), (.int jv)])) _
    exact k
  obtain ⟨T2, X2, e2, st2⟩ := getF X0 hx hZ hown (host := "") (Or.inl (hw _ (List.mem_of_getElem? (i := 79) rfl))) Via.refl e0 F_z (g := (mkF m 22 #[.val (.ref a1), .val (.ref a2), .val (.ref ps), .val (.int iv), .val (.int jv)] [(.ref a1), (.int jv)])) rfl rfl (hb hby d29_22)
  have P3 : ∀ t, Steps p.tables e below (T2.setTop (mkF m 25 #[.val (.ref a1), .val (.ref a2), .val (.ref ps), .val (.int iv), .val (.int jv)] [(.ref bz), (.int jv)])) t → Steps p.tables e below (T.setTop (mkF m 19 #[.val (.ref a1), .val (.ref a2), .val (.ref ps), .val (.int iv), .val (.int jv)] [])) t := fun t k => P1 _ (st2 _ k)
  have P4 : ∀ t, Steps p.tables e below (T2.setTop (mkF m 10 #[.val (.ref a1), .val (.ref a2), .val (.ref ps), .val (.int (iv + (1 : Int32))), .val (.int jv)] [])) t → Steps p.tables e below (T.setTop (mkF m 19 #[.val (.ref a1), .val (.ref a2), .val (.ref ps), .val (.int iv), .val (.int jv)] [])) t := by
    intro t k
    refine P3 _ ?_
    refine own_flen X2 hx hZ e2 A_z rfl rfl (hb hby d29_25) ?_
    show Steps p.tables e below (T2.setTop (mkF m 26 #[.val (.ref a1), .val (.ref a2), .val (.ref ps), .val (.int iv), .val (.int jv)] [(.int (256 : Int32)), (.int jv)])) _
    refine XS.icmpYes X2.here hx rfl (pc0 := 26) (pc' := 72) rfl (hb hby d29_26) rfl (XT.ii_ge_t hge) (by decide) (by decide) ?_
    show Steps p.tables e below (T2.setTop (mkF m 72 #[.val (.ref a1), .val (.ref a2), .val (.ref ps), .val (.int iv), .val (.int jv)] [])) _
    refine XS.iinc X2.here hx rfl (hb hby d29_72) rfl (l' := #[.val (.ref a1), .val (.ref a2), .val (.ref ps), .val (.int (iv + (1 : Int32))), .val (.int jv)]) rfl ?_
    show Steps p.tables e below (T2.setTop (mkF m 75 #[.val (.ref a1), .val (.ref a2), .val (.ref ps), .val (.int (iv + (1 : Int32))), .val (.int jv)] [])) _
    refine XS.goto X2.here hx rfl (pc0 := 75) (pc' := 10) rfl (hb hby d29_75) (by decide) (by decide) ?_
    show Steps p.tables e below (T2.setTop (mkF m 10 #[.val (.ref a1), .val (.ref a2), .val (.ref ps), .val (.int (iv + (1 : Int32))), .val (.int jv)] [])) _
    exact k
  exact ⟨T2, h0, _, X2, e2, N0, K0, F_z, A_z, A_w, A_s, P4⟩
theorem os29_17 {z0 : Value} {z1 : Value} {z2 : Value} {z3 : Value} {s4 : Slot} {v : Int32} (h : One s4) : storeLocals #[.val z0, .val z1, .val z2, .val z3, s4] 4 (.int v) = some #[.val z0, .val z1, .val z2, .val z3, .val (.int v)] := by
  rcases h with rfl | ⟨w, rfl, hw⟩
  · rfl
  · cases w <;> first | rfl | (simp [Value.category] at hw)
set_option maxRecDepth 65536 in
set_option maxHeartbeats 40000000 in
theorem en29 {p : Program} {l : Launch} {e : Env} {R : Room} {s : State} {m : MethodId} {args : Array Value} {below : List Frame} {meth : Method} {c : Code} {T : State} {locs : List Loc} {cells slots : Nat} {Z : State} {a0 : Array Value} {h0 : Heap} {n0 : Nat} (a1 : Addr) (a2 : Addr) (ps : Addr) (iv : Int32) (s4 : Slot) (bz : Addr) (nq : Int32) (pm : Int32) (kz : ClassId) (kw : ClassId) (kp : ClassId) (vf : Nat → Int32) (wf : Nat → Int64) (f3 : Nat → Value)
    (X0 : Stand p l e R s m args below meth c T locs cells slots) (hx : p.tables.exec = Jvm.exec) (hZ : Z.Warmed39 s.vm) (hw : ∀ d ∈ tables_1, d.before a0 Z = true) (hby : c.code = prog_1_method_7_code) (hml : c.maxLocals = 5) (hown : s.vm.findClass "com/example/basewright/basewright/Alphabet" = some m.cls) (e0 : T.heap = h0) (N0 : Fr n0 locs) (Z0 : n0 ≤ h0.size) (F_z : Fld Z h0 a1 "com/example/basewright/basewright/Alphabet" "values" "[B" (.ref bz)) (A_z : own_Af Z h0 bz kz .byte (256 : Int32) (fun j => Value.int (vf j))) (A_w : own_Af Z h0 a2 kw .long pm (fun i => Value.long (wf i))) (A_s : own_Af Z h0 ps kp .long nq f3) (g_s : n0 ≤ ps) (nezs : bz ≠ ps) (neas : a1 ≠ ps) (news : a2 ≠ ps) (h_s4 : One s4) (hli : iv < pm) :
    ∃ (T' : State) (h' : Heap) (locs' : List Loc), Stand p l e R s m args below meth c T' locs' cells slots ∧ T'.heap = h' ∧ Fr n0 locs' ∧ Keep h0 h' [ps] ∧ Fld Z h' a1 "com/example/basewright/basewright/Alphabet" "values" "[B" (.ref bz) ∧ own_Af Z h' bz kz .byte (256 : Int32) (fun j => Value.int (vf j)) ∧ own_Af Z h' a2 kw .long pm (fun i => Value.long (wf i)) ∧ own_Af Z h' ps kp .long nq f3 ∧
      ∀ t, Steps p.tables e below (T'.setTop (mkF m 19 #[.val (.ref a1), .val (.ref a2), .val (.ref ps), .val (.int iv), .val (.int (0 : Int32))] [])) t → Steps p.tables e below (T.setTop (mkF m 10 #[.val (.ref a1), .val (.ref a2), .val (.ref ps), .val (.int iv), s4] [])) t := by
  have K0 : Keep h0 h0 [ps] := Keep.refl _ _
  have P0 : ∀ t, Steps p.tables e below (T.setTop (mkF m 10 #[.val (.ref a1), .val (.ref a2), .val (.ref ps), .val (.int iv), s4] [])) t → Steps p.tables e below (T.setTop (mkF m 10 #[.val (.ref a1), .val (.ref a2), .val (.ref ps), .val (.int iv), s4] [])) t := fun t k => k
  have P1 : ∀ t, Steps p.tables e below (T.setTop (mkF m 19 #[.val (.ref a1), .val (.ref a2), .val (.ref ps), .val (.int iv), .val (.int (0 : Int32))] [])) t → Steps p.tables e below (T.setTop (mkF m 10 #[.val (.ref a1), .val (.ref a2), .val (.ref ps), .val (.int iv), s4] [])) t := by
    intro t k
    refine P0 _ ?_
    refine XS.iloadN X0.here hx rfl (hb hby d29_10) rfl ?_
    show Steps p.tables e below (T.setTop (mkF m 11 #[.val (.ref a1), .val (.ref a2), .val (.ref ps), .val (.int iv), s4] [(.int iv)])) _
    refine XS.aloadN X0.here hx rfl (hb hby d29_11) rfl rfl ?_
    show Steps p.tables e below (T.setTop (mkF m 12 #[.val (.ref a1), .val (.ref a2), .val (.ref ps), .val (.int iv), s4] [(.ref a2), (.int iv)])) _
    refine own_flen X0 hx hZ e0 A_w rfl rfl (hb hby d29_12) ?_
    show Steps p.tables e below (T.setTop (mkF m 13 #[.val (.ref a1), .val (.ref a2), .val (.ref ps), .val (.int iv), s4] [(.int pm), (.int iv)])) _
    refine XS.icmpNo X0.here hx rfl (hb hby d29_13) rfl (XT.ii_ge_f hli) ?_
    show Steps p.tables e below (T.setTop (mkF m 16 #[.val (.ref a1), .val (.ref a2), .val (.ref ps), .val (.int iv), s4] [])) _
    refine XS.iconst X0.here hx rfl (hb hby d29_16) ?_
    show Steps p.tables e below (T.setTop (mkF m 17 #[.val (.ref a1), .val (.ref a2), .val (.ref ps), .val (.int iv), s4] [(.int (0 : Int32))])) _
    refine XS.istore X0.here hx rfl (hb hby d29_17) rfl (l' := #[.val (.ref a1), .val (.ref a2), .val (.ref ps), .val (.int iv), .val (.int (0 : Int32))]) (os29_17 h_s4) ?_
    show Steps p.tables e below (T.setTop (mkF m 19 #[.val (.ref a1), .val (.ref a2), .val (.ref ps), .val (.int iv), .val (.int (0 : Int32))] [])) _
    exact k
  exact ⟨T, h0, _, X0, e0, N0, K0, F_z, A_z, A_w, A_s, P1⟩
set_option maxRecDepth 65536 in
set_option maxHeartbeats 40000000 in
theorem lo29 {p : Program} {l : Launch} {e : Env} {R : Room} {s : State} {m : MethodId} {args : Array Value} {below : List Frame} {meth : Method} {c : Code} {T : State} {locs : List Loc} {cells slots : Nat} {Z : State} {a0 : Array Value} {h0 : Heap} {n0 : Nat} (a1 : Addr) (a2 : Addr) (ps : Addr) (iv : Int32) (s4 : Slot) (bz : Addr) (nq : Int32) (pm : Int32) (kz : ClassId) (kw : ClassId) (kp : ClassId) (vf : Nat → Int32) (wf : Nat → Int64) (f3 : Nat → Value)
    (X0 : Stand p l e R s m args below meth c T locs cells slots) (hx : p.tables.exec = Jvm.exec) (hZ : Z.Warmed39 s.vm) (hw : ∀ d ∈ tables_1, d.before a0 Z = true) (hby : c.code = prog_1_method_7_code) (hml : c.maxLocals = 5) (hown : s.vm.findClass "com/example/basewright/basewright/Alphabet" = some m.cls) (e0 : T.heap = h0) (N0 : Fr n0 locs) (Z0 : n0 ≤ h0.size) (F_z : Fld Z h0 a1 "com/example/basewright/basewright/Alphabet" "values" "[B" (.ref bz)) (A_z : own_Af Z h0 bz kz .byte (256 : Int32) (fun j => Value.int (vf j))) (A_w : own_Af Z h0 a2 kw .long pm (fun i => Value.long (wf i))) (A_s : own_Af Z h0 ps kp .long nq f3) (g_s : n0 ≤ ps) (nezs : bz ≠ ps) (neas : a1 ≠ ps) (news : a2 ≠ ps) (h_s4 : One s4) (hgi : ¬ iv < pm) :
    ∃ (T' : State) (h' : Heap) (locs' : List Loc), Stand p l e R s m args below meth c T' locs' cells slots ∧ T'.heap = h' ∧ Fr n0 locs' ∧ Keep h0 h' [ps] ∧ Fld Z h' a1 "com/example/basewright/basewright/Alphabet" "values" "[B" (.ref bz) ∧ own_Af Z h' bz kz .byte (256 : Int32) (fun j => Value.int (vf j)) ∧ own_Af Z h' a2 kw .long pm (fun i => Value.long (wf i)) ∧ own_Af Z h' ps kp .long nq f3 ∧
      ∀ t, Steps p.tables e below (T'.setTop (mkF m 78 #[.val (.ref a1), .val (.ref a2), .val (.ref ps), .val (.int iv), s4] [])) t → Steps p.tables e below (T.setTop (mkF m 10 #[.val (.ref a1), .val (.ref a2), .val (.ref ps), .val (.int iv), s4] [])) t := by
  have K0 : Keep h0 h0 [ps] := Keep.refl _ _
  have P0 : ∀ t, Steps p.tables e below (T.setTop (mkF m 10 #[.val (.ref a1), .val (.ref a2), .val (.ref ps), .val (.int iv), s4] [])) t → Steps p.tables e below (T.setTop (mkF m 10 #[.val (.ref a1), .val (.ref a2), .val (.ref ps), .val (.int iv), s4] [])) t := fun t k => k
  have P1 : ∀ t, Steps p.tables e below (T.setTop (mkF m 78 #[.val (.ref a1), .val (.ref a2), .val (.ref ps), .val (.int iv), s4] [])) t → Steps p.tables e below (T.setTop (mkF m 10 #[.val (.ref a1), .val (.ref a2), .val (.ref ps), .val (.int iv), s4] [])) t := by
    intro t k
    refine P0 _ ?_
    refine XS.iloadN X0.here hx rfl (hb hby d29_10) rfl ?_
    show Steps p.tables e below (T.setTop (mkF m 11 #[.val (.ref a1), .val (.ref a2), .val (.ref ps), .val (.int iv), s4] [(.int iv)])) _
    refine XS.aloadN X0.here hx rfl (hb hby d29_11) rfl rfl ?_
    show Steps p.tables e below (T.setTop (mkF m 12 #[.val (.ref a1), .val (.ref a2), .val (.ref ps), .val (.int iv), s4] [(.ref a2), (.int iv)])) _
    refine own_flen X0 hx hZ e0 A_w rfl rfl (hb hby d29_12) ?_
    show Steps p.tables e below (T.setTop (mkF m 13 #[.val (.ref a1), .val (.ref a2), .val (.ref ps), .val (.int iv), s4] [(.int pm), (.int iv)])) _
    refine XS.icmpYes X0.here hx rfl (pc0 := 13) (pc' := 78) rfl (hb hby d29_13) rfl (XT.ii_ge_t hgi) (by decide) (by decide) ?_
    show Steps p.tables e below (T.setTop (mkF m 78 #[.val (.ref a1), .val (.ref a2), .val (.ref ps), .val (.int iv), s4] [])) _
    exact k
  exact ⟨T, h0, _, X0, e0, N0, K0, F_z, A_z, A_w, A_s, P1⟩
set_option maxRecDepth 65536 in
theorem loopI29 {p : Program} {l : Launch} {e : Env} {R : Room} {s : State} {m : MethodId} {args : Array Value} {below : List Frame} {meth : Method} {c : Code} {Z : State} {a0 : Array Value} {n0 : Nat} {cells slots : Nat} (a1 a2 ps bz : Addr) (nq pm : Int32) (kz kw kp : ClassId) (vf : Nat → Int32) (wf : Nat → Int64) (mm : Nat) (hx : p.tables.exec = Jvm.exec) (hZ : Z.Warmed39 s.vm) (hw : ∀ d ∈ tables_1, d.before a0 Z = true) (hby : c.code = prog_1_method_7_code) (hml : c.maxLocals = 5) (hown : s.vm.findClass "com/example/basewright/basewright/Alphabet" = some m.cls) (hm : pm.toInt = mm) (hm2 : mm ≤ 2) (hq : nq.toInt = ((mm * 256 : Nat) : Int)) (g_s : n0 ≤ ps) (nezs : bz ≠ ps) (neas : a1 ≠ ps) (news : a2 ≠ ps) (iv : Int32) (i : Nat) (hiv : iv.toInt = i) (him : i < mm) (k : Nat) :
    ∀ (T : State) (locs : List Loc) (h0 : Heap) (j : Nat) (jv : Int32) (f3 : Nat → Value), Stand p l e R s m args below meth c T locs cells slots → T.heap = h0 → Fr n0 locs → n0 ≤ h0.size → Fld Z h0 a1 "com/example/basewright/basewright/Alphabet" "values" "[B" (.ref bz) → own_Af Z h0 bz kz .byte (256 : Int32) (fun j => Value.int (vf j)) → own_Af Z h0 a2 kw .long pm (fun i => Value.long (wf i)) → own_Af Z h0 ps kp .long nq f3 → j + k = 256 → jv.toInt = j → (∀ c, c < i * 256 + j → f3 c = .long (own_wv vf wf c)) →
      ∃ (T' : State) (h' : Heap) (locs' : List Loc) (jv' : Int32) (f4 : Nat → Value), Stand p l e R s m args below meth c T' locs' cells slots ∧ T'.heap = h' ∧ Fr n0 locs' ∧ Keep h0 h' [ps] ∧ Fld Z h' a1 "com/example/basewright/basewright/Alphabet" "values" "[B" (.ref bz) ∧ own_Af Z h' bz kz .byte (256 : Int32) (fun j => Value.int (vf j)) ∧ own_Af Z h' a2 kw .long pm (fun i => Value.long (wf i)) ∧ own_Af Z h' ps kp .long nq f4 ∧ (∀ c, c < (i + 1) * 256 → f4 c = .long (own_wv vf wf c)) ∧
        ∀ t, Steps p.tables e below (T'.setTop (mkF m 10 #[.val (.ref a1), .val (.ref a2), .val (.ref ps), .val (.int (iv + (1 : Int32))), .val (.int jv')] [])) t → Steps p.tables e below (T.setTop (mkF m 19 #[.val (.ref a1), .val (.ref a2), .val (.ref ps), .val (.int iv), .val (.int jv)] [])) t := by
  induction k with
  | zero =>
    intro T locs h0 j jv f3 X0 e0 N0 Z0 F_z A_z A_w A_s h1 h2 h3
    obtain ⟨T1, h1', locs1, X1, e1, N1, K1, q1, q2, q3, q4, st1⟩ := lv29 a1 a2 ps iv jv bz nq pm kz kw kp vf wf f3 X0 hx hZ hw hby hml hown e0 N0 Z0 F_z A_z A_w A_s g_s nezs neas news (by rw [Int32.lt_iff_toInt_lt]; show ¬ jv.toInt < 256; omega)
    exact ⟨T1, h1', locs1, jv, f3, X1, e1, N1, K1, q1, q2, q3, q4, fun c hc => h3 c (by omega), st1⟩
  | succ k ih =>
    intro T locs h0 j jv f3 X0 e0 N0 Z0 F_z A_z A_w A_s h1 h2 h3
    have hj : ¬ jv < (0 : Int32) ∧ jv < (256 : Int32) := own_jn (by omega) (by show jv.toInt < 256; omega)
    have hi : ¬ iv < (0 : Int32) ∧ iv < pm := own_jn (by omega) (by omega)
    have hx8 := own_ix hiv h2 (by omega) (by omega)
    have hix : ¬ ((iv <<< ((8 : Int32) &&& 31)) ||| jv) < (0 : Int32) ∧ ((iv <<< ((8 : Int32) &&& 31)) ||| jv) < nq := own_jn (by rw [hx8]; exact Int.natCast_nonneg _) (by rw [hx8, hq]; have : i * 256 + j < mm * 256 := (by omega); exact_mod_cast this)
    obtain ⟨T1, h1', locs1, X1, e1, N1, K1, q1, q2, q3, q4, st1⟩ := tn29 a1 a2 ps iv jv bz nq pm kz kw kp vf wf f3 X0 hx hZ hw hby hml hown e0 N0 Z0 F_z A_z A_w A_s g_s nezs neas news hj.2 hj hi hix
    obtain ⟨T2, h2', locs2, jv', f4, X2, e2, N2, K2, r1, r2, r3, r4, r5, st2⟩ := ih T1 locs1 h1' (j + 1) (jv + (1 : Int32)) _ X1 e1 N1 (Nat.le_trans Z0 K1.1) q1 q2 q3 q4 (by omega) (own_inc h2 (by omega)) (fun c hc => by
      rw [own_nat hx8, own_nat h2, own_nat hiv]
      by_cases q : c = i * 256 + j
      · subst q
        have d := own_dv (i := i) (j := j) (by omega)
        unfold own_wv
        rw [d.1, d.2]
        simp only [if_true]
      · simp only [q, if_false]; exact h3 c (by omega))
    exact ⟨T2, h2', locs2, jv', f4, X2, e2, N2, K1.trans K2 (fun x hx' => Or.inl hx'), r1, r2, r3, r4, r5, fun t kk => st1 t (st2 t kk)⟩
set_option maxRecDepth 65536 in
theorem loopO29 {p : Program} {l : Launch} {e : Env} {R : Room} {s : State} {m : MethodId} {args : Array Value} {below : List Frame} {meth : Method} {c : Code} {Z : State} {a0 : Array Value} {n0 : Nat} {cells slots : Nat} (a1 a2 ps bz : Addr) (nq pm : Int32) (kz kw kp : ClassId) (vf : Nat → Int32) (wf : Nat → Int64) (mm : Nat) (hx : p.tables.exec = Jvm.exec) (hZ : Z.Warmed39 s.vm) (hw : ∀ d ∈ tables_1, d.before a0 Z = true) (hby : c.code = prog_1_method_7_code) (hml : c.maxLocals = 5) (hown : s.vm.findClass "com/example/basewright/basewright/Alphabet" = some m.cls) (hm : pm.toInt = mm) (hm2 : mm ≤ 2) (hq : nq.toInt = ((mm * 256 : Nat) : Int)) (g_s : n0 ≤ ps) (nezs : bz ≠ ps) (neas : a1 ≠ ps) (news : a2 ≠ ps) (k : Nat) :
    ∀ (T : State) (locs : List Loc) (h0 : Heap) (i : Nat) (iv : Int32) (s4 : Slot) (f3 : Nat → Value), Stand p l e R s m args below meth c T locs cells slots → T.heap = h0 → Fr n0 locs → n0 ≤ h0.size → Fld Z h0 a1 "com/example/basewright/basewright/Alphabet" "values" "[B" (.ref bz) → own_Af Z h0 bz kz .byte (256 : Int32) (fun j => Value.int (vf j)) → own_Af Z h0 a2 kw .long pm (fun i => Value.long (wf i)) → own_Af Z h0 ps kp .long nq f3 → One s4 → i + k = mm → iv.toInt = i → (∀ c, c < i * 256 → f3 c = .long (own_wv vf wf c)) →
      ∃ (T' : State) (h' : Heap) (locs' : List Loc) (iv' : Int32) (s4' : Slot) (f4 : Nat → Value), Stand p l e R s m args below meth c T' locs' cells slots ∧ T'.heap = h' ∧ Fr n0 locs' ∧ Keep h0 h' [ps] ∧ Fld Z h' a1 "com/example/basewright/basewright/Alphabet" "values" "[B" (.ref bz) ∧ own_Af Z h' bz kz .byte (256 : Int32) (fun j => Value.int (vf j)) ∧ own_Af Z h' a2 kw .long pm (fun i => Value.long (wf i)) ∧ own_Af Z h' ps kp .long nq f4 ∧ (∀ c, c < mm * 256 → f4 c = .long (own_wv vf wf c)) ∧
        ∀ t, Steps p.tables e below (T'.setTop (mkF m 78 #[.val (.ref a1), .val (.ref a2), .val (.ref ps), .val (.int iv'), s4'] [])) t → Steps p.tables e below (T.setTop (mkF m 10 #[.val (.ref a1), .val (.ref a2), .val (.ref ps), .val (.int iv), s4] [])) t := by
  induction k with
  | zero =>
    intro T locs h0 i iv s4 f3 X0 e0 N0 Z0 F_z A_z A_w A_s o4 h1 h2 h3
    obtain ⟨T1, h1', locs1, X1, e1, N1, K1, q1, q2, q3, q4, st1⟩ := lo29 a1 a2 ps iv s4 bz nq pm kz kw kp vf wf f3 X0 hx hZ hw hby hml hown e0 N0 Z0 F_z A_z A_w A_s g_s nezs neas news o4 (by rw [Int32.lt_iff_toInt_lt]; omega)
    exact ⟨T1, h1', locs1, iv, s4, f3, X1, e1, N1, K1, q1, q2, q3, q4, fun c hc => h3 c (by omega), st1⟩
  | succ k ih =>
    intro T locs h0 i iv s4 f3 X0 e0 N0 Z0 F_z A_z A_w A_s o4 h1 h2 h3
    obtain ⟨T1, h1', locs1, X1, e1, N1, K1, q1, q2, q3, q4, st1⟩ := en29 a1 a2 ps iv s4 bz nq pm kz kw kp vf wf f3 X0 hx hZ hw hby hml hown e0 N0 Z0 F_z A_z A_w A_s g_s nezs neas news o4 (by rw [Int32.lt_iff_toInt_lt]; omega)
    obtain ⟨T2, h2', locs2, jv', f4, X2, e2, N2, K2, r1, r2, r3, r4, r5, st2⟩ := loopI29 a1 a2 ps bz nq pm kz kw kp vf wf mm hx hZ hw hby hml hown hm hm2 hq g_s nezs neas news iv i h2 (by omega) 256 T1 locs1 h1' 0 (0 : Int32) f3 X1 e1 N1 (Nat.le_trans Z0 K1.1) q1 q2 q3 q4 (by omega) rfl (fun c hc => h3 c (by omega))
    obtain ⟨T3, h3', locs3, iv', s4', f5, X3, e3, N3, K3, u1, u2, u3, u4, u5, st3⟩ := ih T2 locs2 h2' (i + 1) (iv + (1 : Int32)) (.val (.int jv')) f4 X2 e2 N2 (Nat.le_trans (Nat.le_trans Z0 K1.1) K2.1) r1 r2 r3 r4 (One.val rfl) (by omega) (own_inc h2 (by omega)) r5
    exact ⟨T3, h3', locs3, iv', s4', f5, X3, e3, N3, (K1.trans K2 (fun x hx' => Or.inl hx')).trans K3 (fun x hx' => Or.inl hx'), u1, u2, u3, u4, u5, fun t kk => st1 t (st2 t (st3 t kk))⟩
theorem pn_29 : plainName "com/example/basewright/basewright/Alphabet" = true := by first | (simp [plainName, overriddenIn]; done) | decide +kernel
theorem ef_29 (m : MethodId) (x0 : Addr) (x1 : Addr) : entryFrame m #[(.ref x0), (.ref x1)] 5 = mkF m 0 #[.val (.ref x0), .val (.ref x1), .unset, .unset, .unset] [] := by first | (simp [entryFrame, mkF, argsToLocals, Value.category]; done) | rfl
def Q29 (Z : State) (a1 : Addr) (a2 : Addr) (bz : Addr) (pm : Int32) (kz : ClassId) (kw : ClassId) (vf : Nat → Int32) (wf : Nat → Int64) (mm : Nat) (h0 : Heap) (n0 : Nat) (v : Option Value) (h : Heap) (L : List Loc) : Prop := ∃ (b : Addr) (kp : ClassId) (nq : Int32), v = some (.ref b) ∧ Fr n0 L ∧ Keep h0 h [] ∧ h0.size ≤ b ∧ own_Af Z h b kp .long nq (fun c => Value.long (own_wv vf wf c)) ∧ nq = (pm <<< ((8 : Int32) &&& 31))
set_option maxRecDepth 65536 in
set_option maxHeartbeats 40000000 in
theorem rm29 (l : Launch) (Z : State) (a0 : Array Value) (hw : ∀ d ∈ tables_1, d.before a0 Z = true) (ws : List Jvm.Cond) (a1 : Addr) (a2 : Addr) (bz : Addr) (pm : Int32) (kz : ClassId) (kw : ClassId) (vf : Nat → Int32) (wf : Nat → Int64) (mm : Nat) (h0 : Heap) (n0 : Nat) (Z0 : n0 ≤ h0.size) (F_z : Fld Z h0 a1 "com/example/basewright/basewright/Alphabet" "values" "[B" (.ref bz)) (A_z : own_Af Z h0 bz kz .byte (256 : Int32) (fun j => Value.int (vf j))) (A_w : own_Af Z h0 a2 kw .long pm (fun i => Value.long (wf i))) (hm : pm.toInt = mm) (hm2 : mm ≤ 2) :
    MetFree l (⟨"com/example/basewright/basewright/Alphabet", "weightedValues", "([J)[J"⟩ : MethodName) (head1 (Jvm.Cond.code (⟨"com/example/basewright/basewright/Alphabet", "weightedValues", "([J)[J"⟩ : MethodName) prog_1_method_7_code 5 (some (.array .long)) :: ws) ({ frames := 0, cells := 1, slots := 512, locals := 0 } : Room)) (fun a U => a = #[(.ref a1), (.ref a2)] ∧ Z.Warmed39 U.vm ∧ U.heap = h0) (fun _ _ _ _ _ => True) (fun _ U o U' => ∃ v L, o = .returned v ∧ Q29 Z a1 a2 bz pm kz kw vf wf mm h0 n0 v U'.heap L ∧ FrameEnd U o U' L ({ frames := 0, cells := 1, slots := 512, locals := 0 } : Room).cells ({ frames := 0, cells := 1, slots := 512, locals := 0 } : Room).slots) := by
  refine MetFree.of_bodySF (plainFor_of_name pn_29) hisR ?_
  intro p e s m args below meth c s₁ Bd hml0 hP hK
  obtain ⟨rfl, hZ, hh⟩ := hP
  have hx := Bd.exec
  have hby := Bd.bytes
  have hml : c.maxLocals = 5 := hml0
  have hown : s.vm.findClass "com/example/basewright/basewright/Alphabet" = some m.cls := findClass_of_methodNamed Bd.named
  have hnm := (name_of_methodNamed Bd.named Bd.method).1
  have X0 : Stand p l e ({ frames := 0, cells := 1, slots := 512, locals := 0 } : Room) s m #[(.ref a1), (.ref a2)] below meth c s₁ [] 0 0 := Stand.of_body Bd
  have e0 : s₁.heap = h0 := by rw [← hh, Bd.state]; rfl
  have N0 := Fr.nil n0
  have K0 : Keep h0 h0 [] := Keep.refl _ _
  have P0 : ∀ t, Steps p.tables e below (s₁.setTop (mkF m 0 #[.val (.ref a1), .val (.ref a2), .unset, .unset, .unset] [])) t → Steps p.tables e below (s₁.setTop (entryFrame m #[(.ref a1), (.ref a2)] 5)) t := fun t k => castTop (ef_29 m a1 a2) k
  have P1 : ∀ t, Steps p.tables e below (s₁.setTop (mkF m 5 #[.val (.ref a1), .val (.ref a2), .unset, .unset, .unset] [(.int (pm <<< ((8 : Int32) &&& 31)))])) t → Steps p.tables e below (s₁.setTop (entryFrame m #[(.ref a1), (.ref a2)] 5)) t := by
    intro t k
    refine P0 _ ?_
    refine XS.aloadN X0.here hx rfl (hb hby d29_0) rfl rfl ?_
    show Steps p.tables e below (s₁.setTop (mkF m 1 #[.val (.ref a1), .val (.ref a2), .unset, .unset, .unset] [(.ref a2)])) _
    refine own_flen X0 hx hZ e0 A_w rfl rfl (hb hby d29_1) ?_
    show Steps p.tables e below (s₁.setTop (mkF m 2 #[.val (.ref a1), .val (.ref a2), .unset, .unset, .unset] [(.int pm)])) _
    refine XS.bipush X0.here hx rfl (hb hby d29_2) ?_
    show Steps p.tables e below (s₁.setTop (mkF m 4 #[.val (.ref a1), .val (.ref a2), .unset, .unset, .unset] [(.int (8 : Int32)), (.int pm)])) _
    refine XT.ishl X0.here hx rfl (hb hby d29_4) rfl ?_
    show Steps p.tables e below (s₁.setTop (mkF m 5 #[.val (.ref a1), .val (.ref a2), .unset, .unset, .unset] [(.int (pm <<< ((8 : Int32) &&& 31)))])) _
    exact k
  obtain ⟨nq, hnq⟩ : ∃ z : Int32, z = (pm <<< ((8 : Int32) &&& 31)) := ⟨_, rfl⟩
  rw [← hnq] at P1
  have hsq := own_m8 hnq hm hm2
  obtain ⟨T2, h2, k2, X2, e2, E2, A2, st2⟩ := newP X0 hx hZ (hw _ (List.mem_of_getElem? (i := 3) rfl)) e0 (g := (mkF m 5 #[.val (.ref a1), .val (.ref a2), .unset, .unset, .unset] [(.int nq)])) rfl (hb hby d29_5) rfl (own_nneg hsq.1) (cap := 512) (by rw [own_nat hsq.1]; exact hsq.2) (by decide) (by decide) (by decide)
  obtain ⟨b2, g2⟩ : ∃ z, z = h0.size := ⟨_, rfl⟩
  rw [← g2] at A2 st2
  have F3 : Fld Z h2 a1 "com/example/basewright/basewright/Alphabet" "values" "[B" (.ref bz) := F_z.ext E2
  have F4 : own_Af Z h2 bz kz .byte (256 : Int32) (fun j => Value.int (vf j)) := A_z.ext E2
  have F5 : own_Af Z h2 a2 kw .long pm (fun i => Value.long (wf i)) := A_w.ext E2
  obtain ⟨kc_b2, hkc_b2⟩ : ∃ z, z = k2 := ⟨_, rfl⟩
  rw [← hkc_b2] at A2
  have F6 : own_Af Z h2 b2 kc_b2 .long nq (fun _ => (.long (0 : Int64))) := own_Af.new A2 (own_nneg hsq.1)
  have Z7 : n0 ≤ h2.size := Nat.le_trans Z0 E2.1
  have K8 : Keep h0 h2 [] := K0.ext E2
  have g_b2 : n0 ≤ b2 := Nat.le_trans Z0 (Nat.le_of_eq g2.symm)
  have sz_b2 : h0.size ≤ b2 := Nat.le_trans K0.1 (Nat.le_of_eq g2.symm)
  have ne_a1_b2 : a1 ≠ b2 := Nat.ne_of_lt (Nat.lt_of_lt_of_le F_z.lt (Nat.le_of_eq g2.symm))
  have ne_a2_b2 : a2 ≠ b2 := Nat.ne_of_lt (Nat.lt_of_lt_of_le A_w.lt (Nat.le_of_eq g2.symm))
  have ne_bz_b2 : bz ≠ b2 := Nat.ne_of_lt (Nat.lt_of_lt_of_le A_z.lt (Nat.le_of_eq g2.symm))
  have P9 : ∀ t, Steps p.tables e below (T2.setTop (mkF m 7 #[.val (.ref a1), .val (.ref a2), .unset, .unset, .unset] [(.ref b2)])) t → Steps p.tables e below (s₁.setTop (entryFrame m #[(.ref a1), (.ref a2)] 5)) t := fun t k => P1 _ (st2 _ k)
  have P10 : ∀ t, Steps p.tables e below (T2.setTop (mkF m 10 #[.val (.ref a1), .val (.ref a2), .val (.ref b2), .val (.int (0 : Int32)), .unset] [])) t → Steps p.tables e below (s₁.setTop (entryFrame m #[(.ref a1), (.ref a2)] 5)) t := by
    intro t k
    refine P9 _ ?_
    refine XS.astoreN X2.here hx rfl (hb hby d29_7) rfl rfl (l' := #[.val (.ref a1), .val (.ref a2), .val (.ref b2), .unset, .unset]) rfl ?_
    show Steps p.tables e below (T2.setTop (mkF m 8 #[.val (.ref a1), .val (.ref a2), .val (.ref b2), .unset, .unset] [])) _
    refine XS.iconst X2.here hx rfl (hb hby d29_8) ?_
    show Steps p.tables e below (T2.setTop (mkF m 9 #[.val (.ref a1), .val (.ref a2), .val (.ref b2), .unset, .unset] [(.int (0 : Int32))])) _
    refine XS.istoreN X2.here hx rfl (hb hby d29_9) rfl (l' := #[.val (.ref a1), .val (.ref a2), .val (.ref b2), .val (.int (0 : Int32)), .unset]) rfl ?_
    show Steps p.tables e below (T2.setTop (mkF m 10 #[.val (.ref a1), .val (.ref a2), .val (.ref b2), .val (.int (0 : Int32)), .unset] [])) _
    exact k
  obtain ⟨T11, h11, lo11, iv', s4', f4, X11, e11, N11q, K11, q1, q2, q3, q4, q5, st11⟩ := loopO29 a1 a2 b2 bz nq pm kz kw kc_b2 vf wf mm hx hZ hw hby hml hown hm hm2 hsq.1 g_b2 ne_bz_b2 ne_a1_b2 ne_a2_b2 mm T2 _ h2 0 (0 : Int32) .unset _ X2 e2 N0 Z7 F3 F4 F5 F6 One.u (by omega) rfl (fun c hc => absurd hc (by omega))
  have P12 : ∀ t, Steps p.tables e below (T11.setTop (mkF m 78 #[.val (.ref a1), .val (.ref a2), .val (.ref b2), .val (.int iv'), s4'] [])) t → Steps p.tables e below (s₁.setTop (entryFrame m #[(.ref a1), (.ref a2)] 5)) t := fun t k => P10 _ (st11 _ k)
  have F13 : Fld Z h11 a1 "com/example/basewright/basewright/Alphabet" "values" "[B" (.ref bz) := F3.keep K11 (ninS ne_a1_b2 nin0)
  have F14 : own_Af Z h11 bz kz .byte (256 : Int32) (fun j => Value.int (vf j)) := F4.keep K11 (ninS ne_bz_b2 nin0)
  have F15 : own_Af Z h11 a2 kw .long pm (fun i => Value.long (wf i)) := F5.keep K11 (ninS ne_a2_b2 nin0)
  have Z16 : n0 ≤ h11.size := Nat.le_trans Z7 K11.1
  have K17 : Keep h0 h11 [] := K8.trans K11 (allS (Or.inr sz_b2) all0)
  have q6 : own_Af Z h11 b2 kc_b2 .long nq (fun c => Value.long (own_wv vf wf c)) := q4.same (fun c hc => (q5 c (by rw [own_nat hsq.1] at hc; exact hc)).symm)
  have P18 : ∀ t, Steps p.tables e below (T11.setTop (mkF m 79 #[.val (.ref a1), .val (.ref a2), .val (.ref b2), .val (.int iv'), s4'] [(.ref b2)])) t → Steps p.tables e below (s₁.setTop (entryFrame m #[(.ref a1), (.ref a2)] 5)) t := by
    intro t k
    refine P12 _ ?_
    refine XS.aloadN X11.here hx rfl (hb hby d29_78) rfl rfl ?_
    show Steps p.tables e below (T11.setTop (mkF m 79 #[.val (.ref a1), .val (.ref a2), .val (.ref b2), .val (.int iv'), s4'] [(.ref b2)])) _
    exact k
  obtain ⟨fs, hr, hrun, hended, hW, hsame⟩ := X11.leave (v := some (.ref b2)) (fun h => by rw [Bd.returns] at h; cases h)
  refine ⟨_, _, P18 _ ?_, hrun, hended, _, _, rfl, ?_, ⟨_, rfl⟩, hW, hsame.mono (by decide) (by decide)⟩
  · jvm_step X11.here [X11.here.top, hx, (hb hby d29_79), X11.method', Bd.returns, Value.isRef, FieldType.isReference]
    first | (intro acts; rw [hr _ acts rfl rfl rfl]) | rw [hr _ _ rfl rfl rfl]
    exact Steps.refl _
  · show Q29 Z a1 a2 bz pm kz kw vf wf mm h0 n0 _ T11.heap _
    rw [e11]
    exact ⟨b2, kc_b2, nq, rfl, N11q, K17, sz_b2, q6, hnq⟩
theorem d30_0 : decode method_2_code 0 = .ok (.iload_n 1, 1) := by decide +kernel
theorem d30_1 : decode method_2_code 1 = .ok (.iconst 1, 1) := by decide +kernel
theorem d30_2 : decode method_2_code 2 = .ok (.if_icmp .lt 10, 3) := by decide +kernel
theorem d30_5 : decode method_2_code 5 = .ok (.iload_n 0, 1) := by decide +kernel
theorem d30_6 : decode method_2_code 6 = .ok (.iload_n 2, 1) := by decide +kernel
theorem d30_7 : decode method_2_code 7 = .ok (.if_icmp .ne 5, 3) := by decide +kernel
theorem d30_10 : decode method_2_code 10 = .ok (.lconst 0, 1) := by decide +kernel
theorem d30_11 : decode method_2_code 11 = .ok (.lreturn, 1) := by decide +kernel
theorem d30_12 : decode method_2_code 12 = .ok (.iload_n 1, 1) := by decide +kernel
theorem d30_13 : decode method_2_code 13 = .ok (.iconst 2, 1) := by decide +kernel
theorem d30_14 : decode method_2_code 14 = .ok (.if_icmp .lt 11, 3) := by decide +kernel
theorem d30_17 : decode method_2_code 17 = .ok (.iload_n 0, 1) := by decide +kernel
theorem d30_18 : decode method_2_code 18 = .ok (.iload_n 3, 1) := by decide +kernel
theorem d30_19 : decode method_2_code 19 = .ok (.if_icmp .ne 6, 3) := by decide +kernel
theorem d30_22 : decode method_2_code 22 = .ok (.lload 5, 2) := by decide +kernel
theorem d30_24 : decode method_2_code 24 = .ok (.lreturn, 1) := by decide +kernel
theorem d30_25 : decode method_2_code 25 = .ok (.iload_n 1, 1) := by decide +kernel
theorem d30_26 : decode method_2_code 26 = .ok (.iconst 3, 1) := by decide +kernel
theorem d30_27 : decode method_2_code 27 = .ok (.if_icmp .lt 16, 3) := by decide +kernel
theorem d30_30 : decode method_2_code 30 = .ok (.iload_n 0, 1) := by decide +kernel
theorem d30_31 : decode method_2_code 31 = .ok (.iload 4, 2) := by decide +kernel
theorem d30_33 : decode method_2_code 33 = .ok (.if_icmp .ne 10, 3) := by decide +kernel
theorem d30_36 : decode method_2_code 36 = .ok (.ldc2_w 7, 3) := by decide +kernel
theorem d30_39 : decode method_2_code 39 = .ok (.lload 5, 2) := by decide +kernel
theorem d30_41 : decode method_2_code 41 = .ok (.lmul, 1) := by decide +kernel
theorem d30_42 : decode method_2_code 42 = .ok (.lreturn, 1) := by decide +kernel
theorem d30_43 : decode method_2_code 43 = .ok (.ldc2_w 9, 3) := by decide +kernel
theorem d30_46 : decode method_2_code 46 = .ok (.lreturn, 1) := by decide +kernel
theorem pn_30 : plainName "com/example/basewright/basewright/AlphabetWeightedValuesPinLaw" = true := by first | (simp [plainName, overriddenIn]; done) | decide +kernel
theorem ef_30 (m : MethodId) (x0 : Int32) (x1 : Int32) (x2 : Int32) (x3 : Int32) (x4 : Int32) (x5 : Int64) : entryFrame m #[(.int x0), (.int x1), (.int x2), (.int x3), (.int x4), (.long x5)] 7 = mkF m 0 #[.val (.int x0), .val (.int x1), .val (.int x2), .val (.int x3), .val (.int x4), .val (.long x5), .second] [] := by first | (simp [entryFrame, mkF, argsToLocals, Value.category]; done) | rfl
def Q30 (Z : State) (p1 : Int32) (p2 : Int32) (p3 : Int32) (p4 : Int32) (p5 : Int32) (p6 : Int64) (h0 : Heap) (n0 : Nat) (v : Option Value) (h : Heap) (L : List Loc) : Prop := v = some (.long (own_ex p1 p2 p3 p4 p5 p6)) ∧ Fr n0 L ∧ h = h0
set_option maxRecDepth 65536 in
set_option maxHeartbeats 40000000 in
theorem rm30 (l : Launch) (Z : State) (a0 : Array Value) (hw : ∀ d ∈ tables_1, d.before a0 Z = true) (ws : List Jvm.Cond) (p1 : Int32) (p2 : Int32) (p3 : Int32) (p4 : Int32) (p5 : Int32) (p6 : Int64) (h0 : Heap) (n0 : Nat) (Z0 : n0 ≤ h0.size) :
    MetFree l (⟨"com/example/basewright/basewright/AlphabetWeightedValuesPinLaw", "exp", "(IIIIIJ)J"⟩ : MethodName) (head1 (Jvm.Cond.code (⟨"com/example/basewright/basewright/AlphabetWeightedValuesPinLaw", "exp", "(IIIIIJ)J"⟩ : MethodName) method_2_code 7 (some .long) :: ws) ({ frames := 0, cells := 0, slots := 0, locals := 0 } : Room)) (fun a U => a = #[(.int p1), (.int p2), (.int p3), (.int p4), (.int p5), (.long p6)] ∧ Z.Warmed39 U.vm ∧ U.heap = h0) (fun _ _ _ _ _ => True) (fun _ U o U' => ∃ v L, o = .returned v ∧ Q30 Z p1 p2 p3 p4 p5 p6 h0 n0 v U'.heap L ∧ FrameEnd U o U' L ({ frames := 0, cells := 0, slots := 0, locals := 0 } : Room).cells ({ frames := 0, cells := 0, slots := 0, locals := 0 } : Room).slots) := by
  refine MetFree.of_bodySF (plainFor_of_name pn_30) hisR ?_
  intro p e s m args below meth c s₁ Bd hml0 hP hK
  obtain ⟨rfl, hZ, hh⟩ := hP
  have hx := Bd.exec
  have hby := Bd.bytes
  have hml : c.maxLocals = 7 := hml0
  have hown : s.vm.findClass "com/example/basewright/basewright/AlphabetWeightedValuesPinLaw" = some m.cls := findClass_of_methodNamed Bd.named
  have hnm := (name_of_methodNamed Bd.named Bd.method).1
  have X0 : Stand p l e ({ frames := 0, cells := 0, slots := 0, locals := 0 } : Room) s m #[(.int p1), (.int p2), (.int p3), (.int p4), (.int p5), (.long p6)] below meth c s₁ [] 0 0 := Stand.of_body Bd
  have e0 : s₁.heap = h0 := by rw [← hh, Bd.state]; rfl
  have N0 := Fr.nil n0
  have K0 : Keep h0 h0 [] := Keep.refl _ _
  have P0 : ∀ t, Steps p.tables e below (s₁.setTop (mkF m 0 #[.val (.int p1), .val (.int p2), .val (.int p3), .val (.int p4), .val (.int p5), .val (.long p6), .second] [])) t → Steps p.tables e below (s₁.setTop (entryFrame m #[(.int p1), (.int p2), (.int p3), (.int p4), (.int p5), (.long p6)] 7)) t := fun t k => castTop (ef_30 m p1 p2 p3 p4 p5 p6) k
  have P1 : ∀ t, Steps p.tables e below (s₁.setTop (mkF m 2 #[.val (.int p1), .val (.int p2), .val (.int p3), .val (.int p4), .val (.int p5), .val (.long p6), .second] [(.int (1 : Int32)), (.int p2)])) t → Steps p.tables e below (s₁.setTop (entryFrame m #[(.int p1), (.int p2), (.int p3), (.int p4), (.int p5), (.long p6)] 7)) t := by
    intro t k
    refine P0 _ ?_
    refine XS.iloadN X0.here hx rfl (hb hby d30_0) rfl ?_
    show Steps p.tables e below (s₁.setTop (mkF m 1 #[.val (.int p1), .val (.int p2), .val (.int p3), .val (.int p4), .val (.int p5), .val (.long p6), .second] [(.int p2)])) _
    refine XS.iconst X0.here hx rfl (hb hby d30_1) ?_
    show Steps p.tables e below (s₁.setTop (mkF m 2 #[.val (.int p1), .val (.int p2), .val (.int p3), .val (.int p4), .val (.int p5), .val (.long p6), .second] [(.int (1 : Int32)), (.int p2)])) _
    exact k
  by_cases c2 : p2 < (1 : Int32)
  · have P2 : ∀ t, Steps p.tables e below (s₁.setTop (mkF m 14 #[.val (.int p1), .val (.int p2), .val (.int p3), .val (.int p4), .val (.int p5), .val (.long p6), .second] [(.int (2 : Int32)), (.int p2)])) t → Steps p.tables e below (s₁.setTop (entryFrame m #[(.int p1), (.int p2), (.int p3), (.int p4), (.int p5), (.long p6)] 7)) t := by
      intro t k
      refine P1 _ ?_
      refine XS.icmpYes X0.here hx rfl (pc0 := 2) (pc' := 12) rfl (hb hby d30_2) rfl (XT.ii_lt_t c2) (by decide) (by decide) ?_
      show Steps p.tables e below (s₁.setTop (mkF m 12 #[.val (.int p1), .val (.int p2), .val (.int p3), .val (.int p4), .val (.int p5), .val (.long p6), .second] [])) _
      refine XS.iloadN X0.here hx rfl (hb hby d30_12) rfl ?_
      show Steps p.tables e below (s₁.setTop (mkF m 13 #[.val (.int p1), .val (.int p2), .val (.int p3), .val (.int p4), .val (.int p5), .val (.long p6), .second] [(.int p2)])) _
      refine XS.iconst X0.here hx rfl (hb hby d30_13) ?_
      show Steps p.tables e below (s₁.setTop (mkF m 14 #[.val (.int p1), .val (.int p2), .val (.int p3), .val (.int p4), .val (.int p5), .val (.long p6), .second] [(.int (2 : Int32)), (.int p2)])) _
      exact k
    by_cases c14 : p2 < (2 : Int32)
    · have P3 : ∀ t, Steps p.tables e below (s₁.setTop (mkF m 27 #[.val (.int p1), .val (.int p2), .val (.int p3), .val (.int p4), .val (.int p5), .val (.long p6), .second] [(.int (3 : Int32)), (.int p2)])) t → Steps p.tables e below (s₁.setTop (entryFrame m #[(.int p1), (.int p2), (.int p3), (.int p4), (.int p5), (.long p6)] 7)) t := by
        intro t k
        refine P2 _ ?_
        refine XS.icmpYes X0.here hx rfl (pc0 := 14) (pc' := 25) rfl (hb hby d30_14) rfl (XT.ii_lt_t c14) (by decide) (by decide) ?_
        show Steps p.tables e below (s₁.setTop (mkF m 25 #[.val (.int p1), .val (.int p2), .val (.int p3), .val (.int p4), .val (.int p5), .val (.long p6), .second] [])) _
        refine XS.iloadN X0.here hx rfl (hb hby d30_25) rfl ?_
        show Steps p.tables e below (s₁.setTop (mkF m 26 #[.val (.int p1), .val (.int p2), .val (.int p3), .val (.int p4), .val (.int p5), .val (.long p6), .second] [(.int p2)])) _
        refine XS.iconst X0.here hx rfl (hb hby d30_26) ?_
        show Steps p.tables e below (s₁.setTop (mkF m 27 #[.val (.int p1), .val (.int p2), .val (.int p3), .val (.int p4), .val (.int p5), .val (.long p6), .second] [(.int (3 : Int32)), (.int p2)])) _
        exact k
      by_cases c27 : p2 < (3 : Int32)
      · have P4 : ∀ t, Steps p.tables e below (s₁.setTop (mkF m 46 #[.val (.int p1), .val (.int p2), .val (.int p3), .val (.int p4), .val (.int p5), .val (.long p6), .second] [(.long (-1152921504606846976 : Int64))])) t → Steps p.tables e below (s₁.setTop (entryFrame m #[(.int p1), (.int p2), (.int p3), (.int p4), (.int p5), (.long p6)] 7)) t := by
          intro t k
          refine P3 _ ?_
          refine XS.icmpYes X0.here hx rfl (pc0 := 27) (pc' := 43) rfl (hb hby d30_27) rfl (XT.ii_lt_t c27) (by decide) (by decide) ?_
          show Steps p.tables e below (s₁.setTop (mkF m 43 #[.val (.int p1), .val (.int p2), .val (.int p3), .val (.int p4), .val (.int p5), .val (.long p6), .second] [])) _
          refine Jvm.Stand.ldc2J X0 hx hown (mvT hZ (hw _ (List.mem_of_getElem? (i := 96) rfl))) rfl (hb hby d30_43) ?_
          show Steps p.tables e below (s₁.setTop (mkF m 46 #[.val (.int p1), .val (.int p2), .val (.int p3), .val (.int p4), .val (.int p5), .val (.long p6), .second] [(.long (-1152921504606846976 : Int64))])) _
          exact k
        obtain ⟨fs, hr, hrun, hended, hW, hsame⟩ := X0.leave (v := some (.long (-1152921504606846976 : Int64))) (fun h => by rw [Bd.returns] at h; cases h)
        refine ⟨_, _, P4 _ ?_, hrun, hended, _, _, rfl, ?_, ⟨_, rfl⟩, hW, hsame.mono (by decide) (by decide)⟩
        · exact X0.lreturnOut hx Bd.returns (hb hby d30_46) hr
        · show Q30 Z p1 p2 p3 p4 p5 p6 h0 n0 _ s₁.heap _
          rw [e0]
          exact ⟨(by unfold own_ex; rw [if_pos c2, if_pos c14, if_pos c27]), N0, rfl⟩
      · have P5 : ∀ t, Steps p.tables e below (s₁.setTop (mkF m 33 #[.val (.int p1), .val (.int p2), .val (.int p3), .val (.int p4), .val (.int p5), .val (.long p6), .second] [(.int p5), (.int p1)])) t → Steps p.tables e below (s₁.setTop (entryFrame m #[(.int p1), (.int p2), (.int p3), (.int p4), (.int p5), (.long p6)] 7)) t := by
          intro t k
          refine P3 _ ?_
          refine XS.icmpNo X0.here hx rfl (hb hby d30_27) rfl (XT.ii_lt_f c27) ?_
          show Steps p.tables e below (s₁.setTop (mkF m 30 #[.val (.int p1), .val (.int p2), .val (.int p3), .val (.int p4), .val (.int p5), .val (.long p6), .second] [])) _
          refine XS.iloadN X0.here hx rfl (hb hby d30_30) rfl ?_
          show Steps p.tables e below (s₁.setTop (mkF m 31 #[.val (.int p1), .val (.int p2), .val (.int p3), .val (.int p4), .val (.int p5), .val (.long p6), .second] [(.int p1)])) _
          refine XS.iload X0.here hx rfl (hb hby d30_31) rfl ?_
          show Steps p.tables e below (s₁.setTop (mkF m 33 #[.val (.int p1), .val (.int p2), .val (.int p3), .val (.int p4), .val (.int p5), .val (.long p6), .second] [(.int p5), (.int p1)])) _
          exact k
        by_cases c33 : p1 = p5
        · have P6 : ∀ t, Steps p.tables e below (s₁.setTop (mkF m 42 #[.val (.int p1), .val (.int p2), .val (.int p3), .val (.int p4), .val (.int p5), .val (.long p6), .second] [(.long ((2 : Int64) * p6))])) t → Steps p.tables e below (s₁.setTop (entryFrame m #[(.int p1), (.int p2), (.int p3), (.int p4), (.int p5), (.long p6)] 7)) t := by
            intro t k
            refine P5 _ ?_
            refine XS.icmpNo X0.here hx rfl (hb hby d30_33) rfl (XT.ii_ne_f c33) ?_
            show Steps p.tables e below (s₁.setTop (mkF m 36 #[.val (.int p1), .val (.int p2), .val (.int p3), .val (.int p4), .val (.int p5), .val (.long p6), .second] [])) _
            refine Jvm.Stand.ldc2J X0 hx hown (mvT hZ (hw _ (List.mem_of_getElem? (i := 95) rfl))) rfl (hb hby d30_36) ?_
            show Steps p.tables e below (s₁.setTop (mkF m 39 #[.val (.int p1), .val (.int p2), .val (.int p3), .val (.int p4), .val (.int p5), .val (.long p6), .second] [(.long (2 : Int64))])) _
            refine XT.lload X0.here hx rfl (hb hby d30_39) rfl ?_
            show Steps p.tables e below (s₁.setTop (mkF m 41 #[.val (.int p1), .val (.int p2), .val (.int p3), .val (.int p4), .val (.int p5), .val (.long p6), .second] [(.long p6), (.long (2 : Int64))])) _
            refine XT.lmul X0.here hx rfl (hb hby d30_41) rfl ?_
            show Steps p.tables e below (s₁.setTop (mkF m 42 #[.val (.int p1), .val (.int p2), .val (.int p3), .val (.int p4), .val (.int p5), .val (.long p6), .second] [(.long ((2 : Int64) * p6))])) _
            exact k
          obtain ⟨fs, hr, hrun, hended, hW, hsame⟩ := X0.leave (v := some (.long ((2 : Int64) * p6))) (fun h => by rw [Bd.returns] at h; cases h)
          refine ⟨_, _, P6 _ ?_, hrun, hended, _, _, rfl, ?_, ⟨_, rfl⟩, hW, hsame.mono (by decide) (by decide)⟩
          · exact X0.lreturnOut hx Bd.returns (hb hby d30_42) hr
          · show Q30 Z p1 p2 p3 p4 p5 p6 h0 n0 _ s₁.heap _
            rw [e0]
            exact ⟨(by unfold own_ex; rw [if_pos c2, if_pos c14, if_neg c27, if_pos c33]), N0, rfl⟩
        · have P7 : ∀ t, Steps p.tables e below (s₁.setTop (mkF m 46 #[.val (.int p1), .val (.int p2), .val (.int p3), .val (.int p4), .val (.int p5), .val (.long p6), .second] [(.long (-1152921504606846976 : Int64))])) t → Steps p.tables e below (s₁.setTop (entryFrame m #[(.int p1), (.int p2), (.int p3), (.int p4), (.int p5), (.long p6)] 7)) t := by
            intro t k
            refine P5 _ ?_
            refine XS.icmpYes X0.here hx rfl (pc0 := 33) (pc' := 43) rfl (hb hby d30_33) rfl (XT.ii_ne_t c33) (by decide) (by decide) ?_
            show Steps p.tables e below (s₁.setTop (mkF m 43 #[.val (.int p1), .val (.int p2), .val (.int p3), .val (.int p4), .val (.int p5), .val (.long p6), .second] [])) _
            refine Jvm.Stand.ldc2J X0 hx hown (mvT hZ (hw _ (List.mem_of_getElem? (i := 96) rfl))) rfl (hb hby d30_43) ?_
            show Steps p.tables e below (s₁.setTop (mkF m 46 #[.val (.int p1), .val (.int p2), .val (.int p3), .val (.int p4), .val (.int p5), .val (.long p6), .second] [(.long (-1152921504606846976 : Int64))])) _
            exact k
          obtain ⟨fs, hr, hrun, hended, hW, hsame⟩ := X0.leave (v := some (.long (-1152921504606846976 : Int64))) (fun h => by rw [Bd.returns] at h; cases h)
          refine ⟨_, _, P7 _ ?_, hrun, hended, _, _, rfl, ?_, ⟨_, rfl⟩, hW, hsame.mono (by decide) (by decide)⟩
          · exact X0.lreturnOut hx Bd.returns (hb hby d30_46) hr
          · show Q30 Z p1 p2 p3 p4 p5 p6 h0 n0 _ s₁.heap _
            rw [e0]
            exact ⟨(by unfold own_ex; rw [if_pos c2, if_pos c14, if_neg c27, if_neg c33]), N0, rfl⟩
    · have P8 : ∀ t, Steps p.tables e below (s₁.setTop (mkF m 19 #[.val (.int p1), .val (.int p2), .val (.int p3), .val (.int p4), .val (.int p5), .val (.long p6), .second] [(.int p4), (.int p1)])) t → Steps p.tables e below (s₁.setTop (entryFrame m #[(.int p1), (.int p2), (.int p3), (.int p4), (.int p5), (.long p6)] 7)) t := by
        intro t k
        refine P2 _ ?_
        refine XS.icmpNo X0.here hx rfl (hb hby d30_14) rfl (XT.ii_lt_f c14) ?_
        show Steps p.tables e below (s₁.setTop (mkF m 17 #[.val (.int p1), .val (.int p2), .val (.int p3), .val (.int p4), .val (.int p5), .val (.long p6), .second] [])) _
        refine XS.iloadN X0.here hx rfl (hb hby d30_17) rfl ?_
        show Steps p.tables e below (s₁.setTop (mkF m 18 #[.val (.int p1), .val (.int p2), .val (.int p3), .val (.int p4), .val (.int p5), .val (.long p6), .second] [(.int p1)])) _
        refine XS.iloadN X0.here hx rfl (hb hby d30_18) rfl ?_
        show Steps p.tables e below (s₁.setTop (mkF m 19 #[.val (.int p1), .val (.int p2), .val (.int p3), .val (.int p4), .val (.int p5), .val (.long p6), .second] [(.int p4), (.int p1)])) _
        exact k
      by_cases c19 : p1 = p4
      · have P9 : ∀ t, Steps p.tables e below (s₁.setTop (mkF m 24 #[.val (.int p1), .val (.int p2), .val (.int p3), .val (.int p4), .val (.int p5), .val (.long p6), .second] [(.long p6)])) t → Steps p.tables e below (s₁.setTop (entryFrame m #[(.int p1), (.int p2), (.int p3), (.int p4), (.int p5), (.long p6)] 7)) t := by
          intro t k
          refine P8 _ ?_
          refine XS.icmpNo X0.here hx rfl (hb hby d30_19) rfl (XT.ii_ne_f c19) ?_
          show Steps p.tables e below (s₁.setTop (mkF m 22 #[.val (.int p1), .val (.int p2), .val (.int p3), .val (.int p4), .val (.int p5), .val (.long p6), .second] [])) _
          refine XT.lload X0.here hx rfl (hb hby d30_22) rfl ?_
          show Steps p.tables e below (s₁.setTop (mkF m 24 #[.val (.int p1), .val (.int p2), .val (.int p3), .val (.int p4), .val (.int p5), .val (.long p6), .second] [(.long p6)])) _
          exact k
        obtain ⟨fs, hr, hrun, hended, hW, hsame⟩ := X0.leave (v := some (.long p6)) (fun h => by rw [Bd.returns] at h; cases h)
        refine ⟨_, _, P9 _ ?_, hrun, hended, _, _, rfl, ?_, ⟨_, rfl⟩, hW, hsame.mono (by decide) (by decide)⟩
        · exact X0.lreturnOut hx Bd.returns (hb hby d30_24) hr
        · show Q30 Z p1 p2 p3 p4 p5 p6 h0 n0 _ s₁.heap _
          rw [e0]
          exact ⟨(by unfold own_ex; rw [if_pos c2, if_neg c14, if_pos c19]), N0, rfl⟩
      · have P10 : ∀ t, Steps p.tables e below (s₁.setTop (mkF m 27 #[.val (.int p1), .val (.int p2), .val (.int p3), .val (.int p4), .val (.int p5), .val (.long p6), .second] [(.int (3 : Int32)), (.int p2)])) t → Steps p.tables e below (s₁.setTop (entryFrame m #[(.int p1), (.int p2), (.int p3), (.int p4), (.int p5), (.long p6)] 7)) t := by
          intro t k
          refine P8 _ ?_
          refine XS.icmpYes X0.here hx rfl (pc0 := 19) (pc' := 25) rfl (hb hby d30_19) rfl (XT.ii_ne_t c19) (by decide) (by decide) ?_
          show Steps p.tables e below (s₁.setTop (mkF m 25 #[.val (.int p1), .val (.int p2), .val (.int p3), .val (.int p4), .val (.int p5), .val (.long p6), .second] [])) _
          refine XS.iloadN X0.here hx rfl (hb hby d30_25) rfl ?_
          show Steps p.tables e below (s₁.setTop (mkF m 26 #[.val (.int p1), .val (.int p2), .val (.int p3), .val (.int p4), .val (.int p5), .val (.long p6), .second] [(.int p2)])) _
          refine XS.iconst X0.here hx rfl (hb hby d30_26) ?_
          show Steps p.tables e below (s₁.setTop (mkF m 27 #[.val (.int p1), .val (.int p2), .val (.int p3), .val (.int p4), .val (.int p5), .val (.long p6), .second] [(.int (3 : Int32)), (.int p2)])) _
          exact k
        by_cases c27 : p2 < (3 : Int32)
        · have P11 : ∀ t, Steps p.tables e below (s₁.setTop (mkF m 46 #[.val (.int p1), .val (.int p2), .val (.int p3), .val (.int p4), .val (.int p5), .val (.long p6), .second] [(.long (-1152921504606846976 : Int64))])) t → Steps p.tables e below (s₁.setTop (entryFrame m #[(.int p1), (.int p2), (.int p3), (.int p4), (.int p5), (.long p6)] 7)) t := by
            intro t k
            refine P10 _ ?_
            refine XS.icmpYes X0.here hx rfl (pc0 := 27) (pc' := 43) rfl (hb hby d30_27) rfl (XT.ii_lt_t c27) (by decide) (by decide) ?_
            show Steps p.tables e below (s₁.setTop (mkF m 43 #[.val (.int p1), .val (.int p2), .val (.int p3), .val (.int p4), .val (.int p5), .val (.long p6), .second] [])) _
            refine Jvm.Stand.ldc2J X0 hx hown (mvT hZ (hw _ (List.mem_of_getElem? (i := 96) rfl))) rfl (hb hby d30_43) ?_
            show Steps p.tables e below (s₁.setTop (mkF m 46 #[.val (.int p1), .val (.int p2), .val (.int p3), .val (.int p4), .val (.int p5), .val (.long p6), .second] [(.long (-1152921504606846976 : Int64))])) _
            exact k
          obtain ⟨fs, hr, hrun, hended, hW, hsame⟩ := X0.leave (v := some (.long (-1152921504606846976 : Int64))) (fun h => by rw [Bd.returns] at h; cases h)
          refine ⟨_, _, P11 _ ?_, hrun, hended, _, _, rfl, ?_, ⟨_, rfl⟩, hW, hsame.mono (by decide) (by decide)⟩
          · exact X0.lreturnOut hx Bd.returns (hb hby d30_46) hr
          · show Q30 Z p1 p2 p3 p4 p5 p6 h0 n0 _ s₁.heap _
            rw [e0]
            exact ⟨(by unfold own_ex; rw [if_pos c2, if_neg c14, if_neg c19, if_pos c27]), N0, rfl⟩
        · have P12 : ∀ t, Steps p.tables e below (s₁.setTop (mkF m 33 #[.val (.int p1), .val (.int p2), .val (.int p3), .val (.int p4), .val (.int p5), .val (.long p6), .second] [(.int p5), (.int p1)])) t → Steps p.tables e below (s₁.setTop (entryFrame m #[(.int p1), (.int p2), (.int p3), (.int p4), (.int p5), (.long p6)] 7)) t := by
            intro t k
            refine P10 _ ?_
            refine XS.icmpNo X0.here hx rfl (hb hby d30_27) rfl (XT.ii_lt_f c27) ?_
            show Steps p.tables e below (s₁.setTop (mkF m 30 #[.val (.int p1), .val (.int p2), .val (.int p3), .val (.int p4), .val (.int p5), .val (.long p6), .second] [])) _
            refine XS.iloadN X0.here hx rfl (hb hby d30_30) rfl ?_
            show Steps p.tables e below (s₁.setTop (mkF m 31 #[.val (.int p1), .val (.int p2), .val (.int p3), .val (.int p4), .val (.int p5), .val (.long p6), .second] [(.int p1)])) _
            refine XS.iload X0.here hx rfl (hb hby d30_31) rfl ?_
            show Steps p.tables e below (s₁.setTop (mkF m 33 #[.val (.int p1), .val (.int p2), .val (.int p3), .val (.int p4), .val (.int p5), .val (.long p6), .second] [(.int p5), (.int p1)])) _
            exact k
          by_cases c33 : p1 = p5
          · have P13 : ∀ t, Steps p.tables e below (s₁.setTop (mkF m 42 #[.val (.int p1), .val (.int p2), .val (.int p3), .val (.int p4), .val (.int p5), .val (.long p6), .second] [(.long ((2 : Int64) * p6))])) t → Steps p.tables e below (s₁.setTop (entryFrame m #[(.int p1), (.int p2), (.int p3), (.int p4), (.int p5), (.long p6)] 7)) t := by
              intro t k
              refine P12 _ ?_
              refine XS.icmpNo X0.here hx rfl (hb hby d30_33) rfl (XT.ii_ne_f c33) ?_
              show Steps p.tables e below (s₁.setTop (mkF m 36 #[.val (.int p1), .val (.int p2), .val (.int p3), .val (.int p4), .val (.int p5), .val (.long p6), .second] [])) _
              refine Jvm.Stand.ldc2J X0 hx hown (mvT hZ (hw _ (List.mem_of_getElem? (i := 95) rfl))) rfl (hb hby d30_36) ?_
              show Steps p.tables e below (s₁.setTop (mkF m 39 #[.val (.int p1), .val (.int p2), .val (.int p3), .val (.int p4), .val (.int p5), .val (.long p6), .second] [(.long (2 : Int64))])) _
              refine XT.lload X0.here hx rfl (hb hby d30_39) rfl ?_
              show Steps p.tables e below (s₁.setTop (mkF m 41 #[.val (.int p1), .val (.int p2), .val (.int p3), .val (.int p4), .val (.int p5), .val (.long p6), .second] [(.long p6), (.long (2 : Int64))])) _
              refine XT.lmul X0.here hx rfl (hb hby d30_41) rfl ?_
              show Steps p.tables e below (s₁.setTop (mkF m 42 #[.val (.int p1), .val (.int p2), .val (.int p3), .val (.int p4), .val (.int p5), .val (.long p6), .second] [(.long ((2 : Int64) * p6))])) _
              exact k
            obtain ⟨fs, hr, hrun, hended, hW, hsame⟩ := X0.leave (v := some (.long ((2 : Int64) * p6))) (fun h => by rw [Bd.returns] at h; cases h)
            refine ⟨_, _, P13 _ ?_, hrun, hended, _, _, rfl, ?_, ⟨_, rfl⟩, hW, hsame.mono (by decide) (by decide)⟩
            · exact X0.lreturnOut hx Bd.returns (hb hby d30_42) hr
            · show Q30 Z p1 p2 p3 p4 p5 p6 h0 n0 _ s₁.heap _
              rw [e0]
              exact ⟨(by unfold own_ex; rw [if_pos c2, if_neg c14, if_neg c19, if_neg c27, if_pos c33]), N0, rfl⟩
          · have P14 : ∀ t, Steps p.tables e below (s₁.setTop (mkF m 46 #[.val (.int p1), .val (.int p2), .val (.int p3), .val (.int p4), .val (.int p5), .val (.long p6), .second] [(.long (-1152921504606846976 : Int64))])) t → Steps p.tables e below (s₁.setTop (entryFrame m #[(.int p1), (.int p2), (.int p3), (.int p4), (.int p5), (.long p6)] 7)) t := by
              intro t k
              refine P12 _ ?_
              refine XS.icmpYes X0.here hx rfl (pc0 := 33) (pc' := 43) rfl (hb hby d30_33) rfl (XT.ii_ne_t c33) (by decide) (by decide) ?_
              show Steps p.tables e below (s₁.setTop (mkF m 43 #[.val (.int p1), .val (.int p2), .val (.int p3), .val (.int p4), .val (.int p5), .val (.long p6), .second] [])) _
              refine Jvm.Stand.ldc2J X0 hx hown (mvT hZ (hw _ (List.mem_of_getElem? (i := 96) rfl))) rfl (hb hby d30_43) ?_
              show Steps p.tables e below (s₁.setTop (mkF m 46 #[.val (.int p1), .val (.int p2), .val (.int p3), .val (.int p4), .val (.int p5), .val (.long p6), .second] [(.long (-1152921504606846976 : Int64))])) _
              exact k
            obtain ⟨fs, hr, hrun, hended, hW, hsame⟩ := X0.leave (v := some (.long (-1152921504606846976 : Int64))) (fun h => by rw [Bd.returns] at h; cases h)
            refine ⟨_, _, P14 _ ?_, hrun, hended, _, _, rfl, ?_, ⟨_, rfl⟩, hW, hsame.mono (by decide) (by decide)⟩
            · exact X0.lreturnOut hx Bd.returns (hb hby d30_46) hr
            · show Q30 Z p1 p2 p3 p4 p5 p6 h0 n0 _ s₁.heap _
              rw [e0]
              exact ⟨(by unfold own_ex; rw [if_pos c2, if_neg c14, if_neg c19, if_neg c27, if_neg c33]), N0, rfl⟩
  · have P15 : ∀ t, Steps p.tables e below (s₁.setTop (mkF m 7 #[.val (.int p1), .val (.int p2), .val (.int p3), .val (.int p4), .val (.int p5), .val (.long p6), .second] [(.int p3), (.int p1)])) t → Steps p.tables e below (s₁.setTop (entryFrame m #[(.int p1), (.int p2), (.int p3), (.int p4), (.int p5), (.long p6)] 7)) t := by
      intro t k
      refine P1 _ ?_
      refine XS.icmpNo X0.here hx rfl (hb hby d30_2) rfl (XT.ii_lt_f c2) ?_
      show Steps p.tables e below (s₁.setTop (mkF m 5 #[.val (.int p1), .val (.int p2), .val (.int p3), .val (.int p4), .val (.int p5), .val (.long p6), .second] [])) _
      refine XS.iloadN X0.here hx rfl (hb hby d30_5) rfl ?_
      show Steps p.tables e below (s₁.setTop (mkF m 6 #[.val (.int p1), .val (.int p2), .val (.int p3), .val (.int p4), .val (.int p5), .val (.long p6), .second] [(.int p1)])) _
      refine XS.iloadN X0.here hx rfl (hb hby d30_6) rfl ?_
      show Steps p.tables e below (s₁.setTop (mkF m 7 #[.val (.int p1), .val (.int p2), .val (.int p3), .val (.int p4), .val (.int p5), .val (.long p6), .second] [(.int p3), (.int p1)])) _
      exact k
    by_cases c7 : p1 = p3
    · have P16 : ∀ t, Steps p.tables e below (s₁.setTop (mkF m 11 #[.val (.int p1), .val (.int p2), .val (.int p3), .val (.int p4), .val (.int p5), .val (.long p6), .second] [(.long (0 : Int64))])) t → Steps p.tables e below (s₁.setTop (entryFrame m #[(.int p1), (.int p2), (.int p3), (.int p4), (.int p5), (.long p6)] 7)) t := by
        intro t k
        refine P15 _ ?_
        refine XS.icmpNo X0.here hx rfl (hb hby d30_7) rfl (XT.ii_ne_f c7) ?_
        show Steps p.tables e below (s₁.setTop (mkF m 10 #[.val (.int p1), .val (.int p2), .val (.int p3), .val (.int p4), .val (.int p5), .val (.long p6), .second] [])) _
        refine XT.lconst X0.here hx rfl (hb hby d30_10) ?_
        show Steps p.tables e below (s₁.setTop (mkF m 11 #[.val (.int p1), .val (.int p2), .val (.int p3), .val (.int p4), .val (.int p5), .val (.long p6), .second] [(.long (0 : Int64))])) _
        exact k
      obtain ⟨fs, hr, hrun, hended, hW, hsame⟩ := X0.leave (v := some (.long (0 : Int64))) (fun h => by rw [Bd.returns] at h; cases h)
      refine ⟨_, _, P16 _ ?_, hrun, hended, _, _, rfl, ?_, ⟨_, rfl⟩, hW, hsame.mono (by decide) (by decide)⟩
      · exact X0.lreturnOut hx Bd.returns (hb hby d30_11) hr
      · show Q30 Z p1 p2 p3 p4 p5 p6 h0 n0 _ s₁.heap _
        rw [e0]
        exact ⟨(by unfold own_ex; rw [if_neg c2, if_pos c7]), N0, rfl⟩
    · have P17 : ∀ t, Steps p.tables e below (s₁.setTop (mkF m 14 #[.val (.int p1), .val (.int p2), .val (.int p3), .val (.int p4), .val (.int p5), .val (.long p6), .second] [(.int (2 : Int32)), (.int p2)])) t → Steps p.tables e below (s₁.setTop (entryFrame m #[(.int p1), (.int p2), (.int p3), (.int p4), (.int p5), (.long p6)] 7)) t := by
        intro t k
        refine P15 _ ?_
        refine XS.icmpYes X0.here hx rfl (pc0 := 7) (pc' := 12) rfl (hb hby d30_7) rfl (XT.ii_ne_t c7) (by decide) (by decide) ?_
        show Steps p.tables e below (s₁.setTop (mkF m 12 #[.val (.int p1), .val (.int p2), .val (.int p3), .val (.int p4), .val (.int p5), .val (.long p6), .second] [])) _
        refine XS.iloadN X0.here hx rfl (hb hby d30_12) rfl ?_
        show Steps p.tables e below (s₁.setTop (mkF m 13 #[.val (.int p1), .val (.int p2), .val (.int p3), .val (.int p4), .val (.int p5), .val (.long p6), .second] [(.int p2)])) _
        refine XS.iconst X0.here hx rfl (hb hby d30_13) ?_
        show Steps p.tables e below (s₁.setTop (mkF m 14 #[.val (.int p1), .val (.int p2), .val (.int p3), .val (.int p4), .val (.int p5), .val (.long p6), .second] [(.int (2 : Int32)), (.int p2)])) _
        exact k
      by_cases c14 : p2 < (2 : Int32)
      · have P18 : ∀ t, Steps p.tables e below (s₁.setTop (mkF m 27 #[.val (.int p1), .val (.int p2), .val (.int p3), .val (.int p4), .val (.int p5), .val (.long p6), .second] [(.int (3 : Int32)), (.int p2)])) t → Steps p.tables e below (s₁.setTop (entryFrame m #[(.int p1), (.int p2), (.int p3), (.int p4), (.int p5), (.long p6)] 7)) t := by
          intro t k
          refine P17 _ ?_
          refine XS.icmpYes X0.here hx rfl (pc0 := 14) (pc' := 25) rfl (hb hby d30_14) rfl (XT.ii_lt_t c14) (by decide) (by decide) ?_
          show Steps p.tables e below (s₁.setTop (mkF m 25 #[.val (.int p1), .val (.int p2), .val (.int p3), .val (.int p4), .val (.int p5), .val (.long p6), .second] [])) _
          refine XS.iloadN X0.here hx rfl (hb hby d30_25) rfl ?_
          show Steps p.tables e below (s₁.setTop (mkF m 26 #[.val (.int p1), .val (.int p2), .val (.int p3), .val (.int p4), .val (.int p5), .val (.long p6), .second] [(.int p2)])) _
          refine XS.iconst X0.here hx rfl (hb hby d30_26) ?_
          show Steps p.tables e below (s₁.setTop (mkF m 27 #[.val (.int p1), .val (.int p2), .val (.int p3), .val (.int p4), .val (.int p5), .val (.long p6), .second] [(.int (3 : Int32)), (.int p2)])) _
          exact k
        by_cases c27 : p2 < (3 : Int32)
        · have P19 : ∀ t, Steps p.tables e below (s₁.setTop (mkF m 46 #[.val (.int p1), .val (.int p2), .val (.int p3), .val (.int p4), .val (.int p5), .val (.long p6), .second] [(.long (-1152921504606846976 : Int64))])) t → Steps p.tables e below (s₁.setTop (entryFrame m #[(.int p1), (.int p2), (.int p3), (.int p4), (.int p5), (.long p6)] 7)) t := by
            intro t k
            refine P18 _ ?_
            refine XS.icmpYes X0.here hx rfl (pc0 := 27) (pc' := 43) rfl (hb hby d30_27) rfl (XT.ii_lt_t c27) (by decide) (by decide) ?_
            show Steps p.tables e below (s₁.setTop (mkF m 43 #[.val (.int p1), .val (.int p2), .val (.int p3), .val (.int p4), .val (.int p5), .val (.long p6), .second] [])) _
            refine Jvm.Stand.ldc2J X0 hx hown (mvT hZ (hw _ (List.mem_of_getElem? (i := 96) rfl))) rfl (hb hby d30_43) ?_
            show Steps p.tables e below (s₁.setTop (mkF m 46 #[.val (.int p1), .val (.int p2), .val (.int p3), .val (.int p4), .val (.int p5), .val (.long p6), .second] [(.long (-1152921504606846976 : Int64))])) _
            exact k
          obtain ⟨fs, hr, hrun, hended, hW, hsame⟩ := X0.leave (v := some (.long (-1152921504606846976 : Int64))) (fun h => by rw [Bd.returns] at h; cases h)
          refine ⟨_, _, P19 _ ?_, hrun, hended, _, _, rfl, ?_, ⟨_, rfl⟩, hW, hsame.mono (by decide) (by decide)⟩
          · exact X0.lreturnOut hx Bd.returns (hb hby d30_46) hr
          · show Q30 Z p1 p2 p3 p4 p5 p6 h0 n0 _ s₁.heap _
            rw [e0]
            exact ⟨(by unfold own_ex; rw [if_neg c2, if_neg c7, if_pos c14, if_pos c27]), N0, rfl⟩
        · have P20 : ∀ t, Steps p.tables e below (s₁.setTop (mkF m 33 #[.val (.int p1), .val (.int p2), .val (.int p3), .val (.int p4), .val (.int p5), .val (.long p6), .second] [(.int p5), (.int p1)])) t → Steps p.tables e below (s₁.setTop (entryFrame m #[(.int p1), (.int p2), (.int p3), (.int p4), (.int p5), (.long p6)] 7)) t := by
            intro t k
            refine P18 _ ?_
            refine XS.icmpNo X0.here hx rfl (hb hby d30_27) rfl (XT.ii_lt_f c27) ?_
            show Steps p.tables e below (s₁.setTop (mkF m 30 #[.val (.int p1), .val (.int p2), .val (.int p3), .val (.int p4), .val (.int p5), .val (.long p6), .second] [])) _
            refine XS.iloadN X0.here hx rfl (hb hby d30_30) rfl ?_
            show Steps p.tables e below (s₁.setTop (mkF m 31 #[.val (.int p1), .val (.int p2), .val (.int p3), .val (.int p4), .val (.int p5), .val (.long p6), .second] [(.int p1)])) _
            refine XS.iload X0.here hx rfl (hb hby d30_31) rfl ?_
            show Steps p.tables e below (s₁.setTop (mkF m 33 #[.val (.int p1), .val (.int p2), .val (.int p3), .val (.int p4), .val (.int p5), .val (.long p6), .second] [(.int p5), (.int p1)])) _
            exact k
          by_cases c33 : p1 = p5
          · have P21 : ∀ t, Steps p.tables e below (s₁.setTop (mkF m 42 #[.val (.int p1), .val (.int p2), .val (.int p3), .val (.int p4), .val (.int p5), .val (.long p6), .second] [(.long ((2 : Int64) * p6))])) t → Steps p.tables e below (s₁.setTop (entryFrame m #[(.int p1), (.int p2), (.int p3), (.int p4), (.int p5), (.long p6)] 7)) t := by
              intro t k
              refine P20 _ ?_
              refine XS.icmpNo X0.here hx rfl (hb hby d30_33) rfl (XT.ii_ne_f c33) ?_
              show Steps p.tables e below (s₁.setTop (mkF m 36 #[.val (.int p1), .val (.int p2), .val (.int p3), .val (.int p4), .val (.int p5), .val (.long p6), .second] [])) _
              refine Jvm.Stand.ldc2J X0 hx hown (mvT hZ (hw _ (List.mem_of_getElem? (i := 95) rfl))) rfl (hb hby d30_36) ?_
              show Steps p.tables e below (s₁.setTop (mkF m 39 #[.val (.int p1), .val (.int p2), .val (.int p3), .val (.int p4), .val (.int p5), .val (.long p6), .second] [(.long (2 : Int64))])) _
              refine XT.lload X0.here hx rfl (hb hby d30_39) rfl ?_
              show Steps p.tables e below (s₁.setTop (mkF m 41 #[.val (.int p1), .val (.int p2), .val (.int p3), .val (.int p4), .val (.int p5), .val (.long p6), .second] [(.long p6), (.long (2 : Int64))])) _
              refine XT.lmul X0.here hx rfl (hb hby d30_41) rfl ?_
              show Steps p.tables e below (s₁.setTop (mkF m 42 #[.val (.int p1), .val (.int p2), .val (.int p3), .val (.int p4), .val (.int p5), .val (.long p6), .second] [(.long ((2 : Int64) * p6))])) _
              exact k
            obtain ⟨fs, hr, hrun, hended, hW, hsame⟩ := X0.leave (v := some (.long ((2 : Int64) * p6))) (fun h => by rw [Bd.returns] at h; cases h)
            refine ⟨_, _, P21 _ ?_, hrun, hended, _, _, rfl, ?_, ⟨_, rfl⟩, hW, hsame.mono (by decide) (by decide)⟩
            · exact X0.lreturnOut hx Bd.returns (hb hby d30_42) hr
            · show Q30 Z p1 p2 p3 p4 p5 p6 h0 n0 _ s₁.heap _
              rw [e0]
              exact ⟨(by unfold own_ex; rw [if_neg c2, if_neg c7, if_pos c14, if_neg c27, if_pos c33]), N0, rfl⟩
          · have P22 : ∀ t, Steps p.tables e below (s₁.setTop (mkF m 46 #[.val (.int p1), .val (.int p2), .val (.int p3), .val (.int p4), .val (.int p5), .val (.long p6), .second] [(.long (-1152921504606846976 : Int64))])) t → Steps p.tables e below (s₁.setTop (entryFrame m #[(.int p1), (.int p2), (.int p3), (.int p4), (.int p5), (.long p6)] 7)) t := by
              intro t k
              refine P20 _ ?_
              refine XS.icmpYes X0.here hx rfl (pc0 := 33) (pc' := 43) rfl (hb hby d30_33) rfl (XT.ii_ne_t c33) (by decide) (by decide) ?_
              show Steps p.tables e below (s₁.setTop (mkF m 43 #[.val (.int p1), .val (.int p2), .val (.int p3), .val (.int p4), .val (.int p5), .val (.long p6), .second] [])) _
              refine Jvm.Stand.ldc2J X0 hx hown (mvT hZ (hw _ (List.mem_of_getElem? (i := 96) rfl))) rfl (hb hby d30_43) ?_
              show Steps p.tables e below (s₁.setTop (mkF m 46 #[.val (.int p1), .val (.int p2), .val (.int p3), .val (.int p4), .val (.int p5), .val (.long p6), .second] [(.long (-1152921504606846976 : Int64))])) _
              exact k
            obtain ⟨fs, hr, hrun, hended, hW, hsame⟩ := X0.leave (v := some (.long (-1152921504606846976 : Int64))) (fun h => by rw [Bd.returns] at h; cases h)
            refine ⟨_, _, P22 _ ?_, hrun, hended, _, _, rfl, ?_, ⟨_, rfl⟩, hW, hsame.mono (by decide) (by decide)⟩
            · exact X0.lreturnOut hx Bd.returns (hb hby d30_46) hr
            · show Q30 Z p1 p2 p3 p4 p5 p6 h0 n0 _ s₁.heap _
              rw [e0]
              exact ⟨(by unfold own_ex; rw [if_neg c2, if_neg c7, if_pos c14, if_neg c27, if_neg c33]), N0, rfl⟩
      · have P23 : ∀ t, Steps p.tables e below (s₁.setTop (mkF m 19 #[.val (.int p1), .val (.int p2), .val (.int p3), .val (.int p4), .val (.int p5), .val (.long p6), .second] [(.int p4), (.int p1)])) t → Steps p.tables e below (s₁.setTop (entryFrame m #[(.int p1), (.int p2), (.int p3), (.int p4), (.int p5), (.long p6)] 7)) t := by
          intro t k
          refine P17 _ ?_
          refine XS.icmpNo X0.here hx rfl (hb hby d30_14) rfl (XT.ii_lt_f c14) ?_
          show Steps p.tables e below (s₁.setTop (mkF m 17 #[.val (.int p1), .val (.int p2), .val (.int p3), .val (.int p4), .val (.int p5), .val (.long p6), .second] [])) _
          refine XS.iloadN X0.here hx rfl (hb hby d30_17) rfl ?_
          show Steps p.tables e below (s₁.setTop (mkF m 18 #[.val (.int p1), .val (.int p2), .val (.int p3), .val (.int p4), .val (.int p5), .val (.long p6), .second] [(.int p1)])) _
          refine XS.iloadN X0.here hx rfl (hb hby d30_18) rfl ?_
          show Steps p.tables e below (s₁.setTop (mkF m 19 #[.val (.int p1), .val (.int p2), .val (.int p3), .val (.int p4), .val (.int p5), .val (.long p6), .second] [(.int p4), (.int p1)])) _
          exact k
        by_cases c19 : p1 = p4
        · have P24 : ∀ t, Steps p.tables e below (s₁.setTop (mkF m 24 #[.val (.int p1), .val (.int p2), .val (.int p3), .val (.int p4), .val (.int p5), .val (.long p6), .second] [(.long p6)])) t → Steps p.tables e below (s₁.setTop (entryFrame m #[(.int p1), (.int p2), (.int p3), (.int p4), (.int p5), (.long p6)] 7)) t := by
            intro t k
            refine P23 _ ?_
            refine XS.icmpNo X0.here hx rfl (hb hby d30_19) rfl (XT.ii_ne_f c19) ?_
            show Steps p.tables e below (s₁.setTop (mkF m 22 #[.val (.int p1), .val (.int p2), .val (.int p3), .val (.int p4), .val (.int p5), .val (.long p6), .second] [])) _
            refine XT.lload X0.here hx rfl (hb hby d30_22) rfl ?_
            show Steps p.tables e below (s₁.setTop (mkF m 24 #[.val (.int p1), .val (.int p2), .val (.int p3), .val (.int p4), .val (.int p5), .val (.long p6), .second] [(.long p6)])) _
            exact k
          obtain ⟨fs, hr, hrun, hended, hW, hsame⟩ := X0.leave (v := some (.long p6)) (fun h => by rw [Bd.returns] at h; cases h)
          refine ⟨_, _, P24 _ ?_, hrun, hended, _, _, rfl, ?_, ⟨_, rfl⟩, hW, hsame.mono (by decide) (by decide)⟩
          · exact X0.lreturnOut hx Bd.returns (hb hby d30_24) hr
          · show Q30 Z p1 p2 p3 p4 p5 p6 h0 n0 _ s₁.heap _
            rw [e0]
            exact ⟨(by unfold own_ex; rw [if_neg c2, if_neg c7, if_neg c14, if_pos c19]), N0, rfl⟩
        · have P25 : ∀ t, Steps p.tables e below (s₁.setTop (mkF m 27 #[.val (.int p1), .val (.int p2), .val (.int p3), .val (.int p4), .val (.int p5), .val (.long p6), .second] [(.int (3 : Int32)), (.int p2)])) t → Steps p.tables e below (s₁.setTop (entryFrame m #[(.int p1), (.int p2), (.int p3), (.int p4), (.int p5), (.long p6)] 7)) t := by
            intro t k
            refine P23 _ ?_
            refine XS.icmpYes X0.here hx rfl (pc0 := 19) (pc' := 25) rfl (hb hby d30_19) rfl (XT.ii_ne_t c19) (by decide) (by decide) ?_
            show Steps p.tables e below (s₁.setTop (mkF m 25 #[.val (.int p1), .val (.int p2), .val (.int p3), .val (.int p4), .val (.int p5), .val (.long p6), .second] [])) _
            refine XS.iloadN X0.here hx rfl (hb hby d30_25) rfl ?_
            show Steps p.tables e below (s₁.setTop (mkF m 26 #[.val (.int p1), .val (.int p2), .val (.int p3), .val (.int p4), .val (.int p5), .val (.long p6), .second] [(.int p2)])) _
            refine XS.iconst X0.here hx rfl (hb hby d30_26) ?_
            show Steps p.tables e below (s₁.setTop (mkF m 27 #[.val (.int p1), .val (.int p2), .val (.int p3), .val (.int p4), .val (.int p5), .val (.long p6), .second] [(.int (3 : Int32)), (.int p2)])) _
            exact k
          by_cases c27 : p2 < (3 : Int32)
          · have P26 : ∀ t, Steps p.tables e below (s₁.setTop (mkF m 46 #[.val (.int p1), .val (.int p2), .val (.int p3), .val (.int p4), .val (.int p5), .val (.long p6), .second] [(.long (-1152921504606846976 : Int64))])) t → Steps p.tables e below (s₁.setTop (entryFrame m #[(.int p1), (.int p2), (.int p3), (.int p4), (.int p5), (.long p6)] 7)) t := by
              intro t k
              refine P25 _ ?_
              refine XS.icmpYes X0.here hx rfl (pc0 := 27) (pc' := 43) rfl (hb hby d30_27) rfl (XT.ii_lt_t c27) (by decide) (by decide) ?_
              show Steps p.tables e below (s₁.setTop (mkF m 43 #[.val (.int p1), .val (.int p2), .val (.int p3), .val (.int p4), .val (.int p5), .val (.long p6), .second] [])) _
              refine Jvm.Stand.ldc2J X0 hx hown (mvT hZ (hw _ (List.mem_of_getElem? (i := 96) rfl))) rfl (hb hby d30_43) ?_
              show Steps p.tables e below (s₁.setTop (mkF m 46 #[.val (.int p1), .val (.int p2), .val (.int p3), .val (.int p4), .val (.int p5), .val (.long p6), .second] [(.long (-1152921504606846976 : Int64))])) _
              exact k
            obtain ⟨fs, hr, hrun, hended, hW, hsame⟩ := X0.leave (v := some (.long (-1152921504606846976 : Int64))) (fun h => by rw [Bd.returns] at h; cases h)
            refine ⟨_, _, P26 _ ?_, hrun, hended, _, _, rfl, ?_, ⟨_, rfl⟩, hW, hsame.mono (by decide) (by decide)⟩
            · exact X0.lreturnOut hx Bd.returns (hb hby d30_46) hr
            · show Q30 Z p1 p2 p3 p4 p5 p6 h0 n0 _ s₁.heap _
              rw [e0]
              exact ⟨(by unfold own_ex; rw [if_neg c2, if_neg c7, if_neg c14, if_neg c19, if_pos c27]), N0, rfl⟩
          · have P27 : ∀ t, Steps p.tables e below (s₁.setTop (mkF m 33 #[.val (.int p1), .val (.int p2), .val (.int p3), .val (.int p4), .val (.int p5), .val (.long p6), .second] [(.int p5), (.int p1)])) t → Steps p.tables e below (s₁.setTop (entryFrame m #[(.int p1), (.int p2), (.int p3), (.int p4), (.int p5), (.long p6)] 7)) t := by
              intro t k
              refine P25 _ ?_
              refine XS.icmpNo X0.here hx rfl (hb hby d30_27) rfl (XT.ii_lt_f c27) ?_
              show Steps p.tables e below (s₁.setTop (mkF m 30 #[.val (.int p1), .val (.int p2), .val (.int p3), .val (.int p4), .val (.int p5), .val (.long p6), .second] [])) _
              refine XS.iloadN X0.here hx rfl (hb hby d30_30) rfl ?_
              show Steps p.tables e below (s₁.setTop (mkF m 31 #[.val (.int p1), .val (.int p2), .val (.int p3), .val (.int p4), .val (.int p5), .val (.long p6), .second] [(.int p1)])) _
              refine XS.iload X0.here hx rfl (hb hby d30_31) rfl ?_
              show Steps p.tables e below (s₁.setTop (mkF m 33 #[.val (.int p1), .val (.int p2), .val (.int p3), .val (.int p4), .val (.int p5), .val (.long p6), .second] [(.int p5), (.int p1)])) _
              exact k
            by_cases c33 : p1 = p5
            · have P28 : ∀ t, Steps p.tables e below (s₁.setTop (mkF m 42 #[.val (.int p1), .val (.int p2), .val (.int p3), .val (.int p4), .val (.int p5), .val (.long p6), .second] [(.long ((2 : Int64) * p6))])) t → Steps p.tables e below (s₁.setTop (entryFrame m #[(.int p1), (.int p2), (.int p3), (.int p4), (.int p5), (.long p6)] 7)) t := by
                intro t k
                refine P27 _ ?_
                refine XS.icmpNo X0.here hx rfl (hb hby d30_33) rfl (XT.ii_ne_f c33) ?_
                show Steps p.tables e below (s₁.setTop (mkF m 36 #[.val (.int p1), .val (.int p2), .val (.int p3), .val (.int p4), .val (.int p5), .val (.long p6), .second] [])) _
                refine Jvm.Stand.ldc2J X0 hx hown (mvT hZ (hw _ (List.mem_of_getElem? (i := 95) rfl))) rfl (hb hby d30_36) ?_
                show Steps p.tables e below (s₁.setTop (mkF m 39 #[.val (.int p1), .val (.int p2), .val (.int p3), .val (.int p4), .val (.int p5), .val (.long p6), .second] [(.long (2 : Int64))])) _
                refine XT.lload X0.here hx rfl (hb hby d30_39) rfl ?_
                show Steps p.tables e below (s₁.setTop (mkF m 41 #[.val (.int p1), .val (.int p2), .val (.int p3), .val (.int p4), .val (.int p5), .val (.long p6), .second] [(.long p6), (.long (2 : Int64))])) _
                refine XT.lmul X0.here hx rfl (hb hby d30_41) rfl ?_
                show Steps p.tables e below (s₁.setTop (mkF m 42 #[.val (.int p1), .val (.int p2), .val (.int p3), .val (.int p4), .val (.int p5), .val (.long p6), .second] [(.long ((2 : Int64) * p6))])) _
                exact k
              obtain ⟨fs, hr, hrun, hended, hW, hsame⟩ := X0.leave (v := some (.long ((2 : Int64) * p6))) (fun h => by rw [Bd.returns] at h; cases h)
              refine ⟨_, _, P28 _ ?_, hrun, hended, _, _, rfl, ?_, ⟨_, rfl⟩, hW, hsame.mono (by decide) (by decide)⟩
              · exact X0.lreturnOut hx Bd.returns (hb hby d30_42) hr
              · show Q30 Z p1 p2 p3 p4 p5 p6 h0 n0 _ s₁.heap _
                rw [e0]
                exact ⟨(by unfold own_ex; rw [if_neg c2, if_neg c7, if_neg c14, if_neg c19, if_neg c27, if_pos c33]), N0, rfl⟩
            · have P29 : ∀ t, Steps p.tables e below (s₁.setTop (mkF m 46 #[.val (.int p1), .val (.int p2), .val (.int p3), .val (.int p4), .val (.int p5), .val (.long p6), .second] [(.long (-1152921504606846976 : Int64))])) t → Steps p.tables e below (s₁.setTop (entryFrame m #[(.int p1), (.int p2), (.int p3), (.int p4), (.int p5), (.long p6)] 7)) t := by
                intro t k
                refine P27 _ ?_
                refine XS.icmpYes X0.here hx rfl (pc0 := 33) (pc' := 43) rfl (hb hby d30_33) rfl (XT.ii_ne_t c33) (by decide) (by decide) ?_
                show Steps p.tables e below (s₁.setTop (mkF m 43 #[.val (.int p1), .val (.int p2), .val (.int p3), .val (.int p4), .val (.int p5), .val (.long p6), .second] [])) _
                refine Jvm.Stand.ldc2J X0 hx hown (mvT hZ (hw _ (List.mem_of_getElem? (i := 96) rfl))) rfl (hb hby d30_43) ?_
                show Steps p.tables e below (s₁.setTop (mkF m 46 #[.val (.int p1), .val (.int p2), .val (.int p3), .val (.int p4), .val (.int p5), .val (.long p6), .second] [(.long (-1152921504606846976 : Int64))])) _
                exact k
              obtain ⟨fs, hr, hrun, hended, hW, hsame⟩ := X0.leave (v := some (.long (-1152921504606846976 : Int64))) (fun h => by rw [Bd.returns] at h; cases h)
              refine ⟨_, _, P29 _ ?_, hrun, hended, _, _, rfl, ?_, ⟨_, rfl⟩, hW, hsame.mono (by decide) (by decide)⟩
              · exact X0.lreturnOut hx Bd.returns (hb hby d30_46) hr
              · show Q30 Z p1 p2 p3 p4 p5 p6 h0 n0 _ s₁.heap _
                rw [e0]
                exact ⟨(by unfold own_ex; rw [if_neg c2, if_neg c7, if_neg c14, if_neg c19, if_neg c27, if_neg c33]), N0, rfl⟩
theorem d34_0 : decode jdk_42_method_149_code 0 = .ok (.aload_n 0, 1) := by decide +kernel
theorem d34_1 : decode jdk_42_method_149_code 1 = .ok (.invokespecial 1, 3) := by decide +kernel
theorem d34_4 : decode jdk_42_method_149_code 4 = .ok (.iload_n 3, 1) := by decide +kernel
theorem d34_5 : decode jdk_42_method_149_code 5 = .ok (.ifCond .ne 22, 3) := by decide +kernel
theorem d34_8 : decode jdk_42_method_149_code 8 = .ok (.aload_n 0, 1) := by decide +kernel
theorem d34_9 : decode jdk_42_method_149_code 9 = .ok (.ldc 7, 2) := by decide +kernel
theorem d34_11 : decode jdk_42_method_149_code 11 = .ok (.getfield 9, 3) := by decide +kernel
theorem d34_14 : decode jdk_42_method_149_code 14 = .ok (.putfield 9, 3) := by decide +kernel
theorem d34_17 : decode jdk_42_method_149_code 17 = .ok (.aload_n 0, 1) := by decide +kernel
theorem d34_18 : decode jdk_42_method_149_code 18 = .ok (.ldc 7, 2) := by decide +kernel
theorem d34_20 : decode jdk_42_method_149_code 20 = .ok (.getfield 15, 3) := by decide +kernel
theorem d34_23 : decode jdk_42_method_149_code 23 = .ok (.putfield 15, 3) := by decide +kernel
theorem d34_26 : decode jdk_42_method_149_code 26 = .ok (.return_, 1) := by decide +kernel
theorem pn_34 : plainName "java/lang/String" = true := by first | (simp [plainName, overriddenIn]; done) | decide +kernel
theorem ef_34 (m : MethodId) (x0 : Addr) (x1 : Addr) (x2 : Int32) (x3 : Int32) : entryFrame m #[(.ref x0), (.ref x1), (.int x3), (.int x3), .null] 6 = mkF m 0 #[.val (.ref x0), .val (.ref x1), .val (.int x3), .val (.int x3), .val .null, .unset] [] := by first | (simp [entryFrame, mkF, argsToLocals, Value.category]; done) | rfl
def Q34 (Z : State) (a1 : Addr) (a2 : Addr) (cf : Nat → Int32) (h0 : Heap) (n0 : Nat) (v : Option Value) (h : Heap) (L : List Loc) : Prop := ∃ (b : Addr) (kb : ClassId), v = none ∧ Fr n0 L ∧ Keep h0 h [a1] ∧ Exa Z h a1 "java/lang/String" ∧ Fld Z h a1 "java/lang/String" "value" "[B" (.ref b) ∧ Fld Z h a1 "java/lang/String" "coder" "B" (.int (0 : Int32)) ∧ own_Af Z h b kb .byte (0 : Int32) (fun i => Value.int (cf i)) ∧ Exa Z h b "[B"
set_option maxRecDepth 65536 in
set_option maxHeartbeats 40000000 in
theorem rm34 (l : Launch) (Z : State) (a0 : Array Value) (hw : ∀ d ∈ tables_1, d.before a0 Z = true) (ws : List Jvm.Cond) (a1 : Addr) (a2 : Addr) (cf : Nat → Int32) (h0 : Heap) (n0 : Nat) (Z0 : n0 ≤ h0.size) (E_a : Exa Z h0 a1 "java/lang/String") (F_v : Fld Z h0 a1 "java/lang/String" "value" "[B" .null) (F_k : Fld Z h0 a1 "java/lang/String" "coder" "B" (.int (0 : Int32))) (g_a : n0 ≤ a1) :
    MetFree l (⟨"java/lang/String", "<init>", "([CIILjava/lang/Void;)V"⟩ : MethodName) (head1 (Jvm.Cond.code (⟨"java/lang/String", "<init>", "([CIILjava/lang/Void;)V"⟩ : MethodName) jdk_42_method_149_code 6 none :: ws) ({ frames := 1, cells := 2, slots := 4, locals := 12 } : Room)) (fun a U => a = #[(.ref a1), (.ref a2), (.int (0 : Int32)), (.int (0 : Int32)), .null] ∧ Z.Warmed39 U.vm ∧ U.heap = h0 ∧ CHv Z consts_1 U.vm h0) (fun _ _ _ _ _ => True) (fun _ U o U' => ∃ v L, o = .returned v ∧ Q34 Z a1 a2 cf h0 n0 v U'.heap L ∧ ReturnedEndW U o U' L ({ frames := 1, cells := 2, slots := 4, locals := 12 } : Room).cells ({ frames := 1, cells := 2, slots := 4, locals := 12 } : Room).slots) := by
  refine MetFree.of_bodySF (plainFor_of_name pn_34) hisR ?_
  intro p e s m args below meth c s₁ Bd hml0 hP hK
  obtain ⟨rfl, hZ, hh, hC⟩ := hP
  have hx := Bd.exec
  have hby := Bd.bytes
  have hml : c.maxLocals = 6 := hml0
  have hown : s.vm.findClass "java/lang/String" = some m.cls := findClass_of_methodNamed Bd.named
  have hnm := (name_of_methodNamed Bd.named Bd.method).1
  have X0 : Stand p l e ({ frames := 1, cells := 2, slots := 4, locals := 12 } : Room) s m #[(.ref a1), (.ref a2), (.int (0 : Int32)), (.int (0 : Int32)), .null] below meth c s₁ [] 0 0 := Stand.of_body Bd
  have e0 : s₁.heap = h0 := by rw [← hh, Bd.state]; rfl
  have N0 := Fr.nil n0
  have K0 : Keep h0 h0 [a1] := Keep.refl _ _
  have P0 : ∀ t, Steps p.tables e below (s₁.setTop (mkF m 0 #[.val (.ref a1), .val (.ref a2), .val (.int (0 : Int32)), .val (.int (0 : Int32)), .val .null, .unset] [])) t → Steps p.tables e below (s₁.setTop (entryFrame m #[(.ref a1), (.ref a2), (.int (0 : Int32)), (.int (0 : Int32)), .null] 6)) t := fun t k => castTop (ef_34 m a1 a2 (0 : Int32) (0 : Int32)) k
  have P1 : ∀ t, Steps p.tables e below (s₁.setTop (mkF m 1 #[.val (.ref a1), .val (.ref a2), .val (.int (0 : Int32)), .val (.int (0 : Int32)), .val .null, .unset] [(.ref a1)])) t → Steps p.tables e below (s₁.setTop (entryFrame m #[(.ref a1), (.ref a2), (.int (0 : Int32)), (.int (0 : Int32)), .null] 6)) t := by
    intro t k
    refine P0 _ ?_
    refine XS.aloadN X0.here hx rfl (hb hby d34_0) rfl rfl ?_
    show Steps p.tables e below (s₁.setTop (mkF m 1 #[.val (.ref a1), .val (.ref a2), .val (.int (0 : Int32)), .val (.int (0 : Int32)), .val .null, .unset] [(.ref a1)])) _
    exact k
  obtain ⟨T2, X2, e2, st2⟩ := initO X0 hx hZ hown (hw _ (List.mem_of_getElem? (i := 17) rfl)) (hw _ (List.mem_of_getElem? (i := 18) rfl)) (hw _ (List.mem_of_getElem? (i := 19) rfl)) e0 (g := (mkF m 1 #[.val (.ref a1), .val (.ref a2), .val (.int (0 : Int32)), .val (.int (0 : Int32)), .val .null, .unset] [(.ref a1)])) rfl (by rw [hml]; rfl) rfl (hb hby d34_1) (by decide) (W := 0) (by show 2 * 0 + _ ≤ _; exact Nat.le_of_eq rfl) (by decide)
  have P3 : ∀ t, Steps p.tables e below (T2.setTop (mkF m 4 #[.val (.ref a1), .val (.ref a2), .val (.int (0 : Int32)), .val (.int (0 : Int32)), .val .null, .unset] [])) t → Steps p.tables e below (s₁.setTop (entryFrame m #[(.ref a1), (.ref a2), (.int (0 : Int32)), (.int (0 : Int32)), .null] 6)) t := fun t k => P1 _ (st2 _ k)
  have P4 : ∀ t, Steps p.tables e below (T2.setTop (mkF m 9 #[.val (.ref a1), .val (.ref a2), .val (.int (0 : Int32)), .val (.int (0 : Int32)), .val .null, .unset] [(.ref a1)])) t → Steps p.tables e below (s₁.setTop (entryFrame m #[(.ref a1), (.ref a2), (.int (0 : Int32)), (.int (0 : Int32)), .null] 6)) t := by
    intro t k
    refine P3 _ ?_
    refine XS.iloadN X2.here hx rfl (hb hby d34_4) rfl ?_
    show Steps p.tables e below (T2.setTop (mkF m 5 #[.val (.ref a1), .val (.ref a2), .val (.int (0 : Int32)), .val (.int (0 : Int32)), .val .null, .unset] [(.int (0 : Int32))])) _
    refine XS.ifNo X2.here hx rfl (hb hby d34_5) rfl (XT.i0_ne_f rfl) ?_
    show Steps p.tables e below (T2.setTop (mkF m 8 #[.val (.ref a1), .val (.ref a2), .val (.int (0 : Int32)), .val (.int (0 : Int32)), .val .null, .unset] [])) _
    refine XS.aloadN X2.here hx rfl (hb hby d34_8) rfl rfl ?_
    show Steps p.tables e below (T2.setTop (mkF m 9 #[.val (.ref a1), .val (.ref a2), .val (.int (0 : Int32)), .val (.int (0 : Int32)), .val .null, .unset] [(.ref a1)])) _
    exact k
  obtain ⟨aL, T5, h5, kS, bL, kL, X5, e5, E5, hS, hkS, hZ2, hown2, A_L, C_L, V_L, B_L, -, -, hCr, hLit, -, st5⟩ := ldcCH (s := s) (vm0 := s.vm) (own := "java/lang/String") (text := "") (vs := []) (z := (0 : Int32)) (n := 0) X2 hx hZ hown (hw _ (List.mem_of_getElem? (i := 97) rfl)) (own_str hw) e2 (State.WarmedH.since (State.WarmedH.refl s) 0) (Nat.zero_le _) (own_ew hw) (List.mem_of_getElem? (i := 0) rfl) hC ⟨fun c hc => by simp at hc, rfl⟩ (by decide) rfl (g := (mkF m 9 #[.val (.ref a1), .val (.ref a2), .val (.int (0 : Int32)), .val (.int (0 : Int32)), .val .null, .unset] [(.ref a1)])) rfl (hb hby d34_9) (by decide) (by decide) (by decide) (by decide)
  have hZ := hZ2
  have hown := hown2
  have F6 : Exa Z h5 a1 "java/lang/String" := E_a.ext E5
  have F7 : Fld Z h5 a1 "java/lang/String" "value" "[B" .null := F_v.ext E5
  have F8 : Fld Z h5 a1 "java/lang/String" "coder" "B" (.int (0 : Int32)) := F_k.ext E5
  have Z9 : n0 ≤ h5.size := Nat.le_trans Z0 E5.1
  have K10 : Keep h0 h5 [a1] := K0.ext E5
  have X_L : Exa Z h5 bL "[B" := own_exaB (s := s) hZ hown (hw _ (List.mem_of_getElem? (i := 97) rfl)) (List.mem_of_getElem? (i := 0) rfl) hCr.1 hLit V_L
  have W_L : own_Af Z h5 bL kL .byte (0 : Int32) (fun i => Value.int (cf i)) := (own_conv (l := []) B_L).same (fun i hi => absurd hi (Nat.not_lt_zero i))
  have ne_aL : a1 ≠ aL := own_fne F7 V_L (fun q => by cases q)
  have ne_bL : a1 ≠ bL := own_arrne (hw _ (List.mem_of_getElem? (i := 8) rfl)) F6 W_L
  have P11 : ∀ t, Steps p.tables e below (T5.setTop (mkF m 11 #[.val (.ref a1), .val (.ref a2), .val (.int (0 : Int32)), .val (.int (0 : Int32)), .val .null, .unset] [(.ref aL), (.ref a1)])) t → Steps p.tables e below (s₁.setTop (entryFrame m #[(.ref a1), (.ref a2), (.int (0 : Int32)), (.int (0 : Int32)), .null] 6)) t := fun t k => P4 _ (st5 _ k)
  obtain ⟨T12, X12, e12, st12⟩ := getF X5 hx hZ hown (host := "") (Or.inl (hw _ (List.mem_of_getElem? (i := 34) rfl))) Via.refl e5 V_L (g := (mkF m 11 #[.val (.ref a1), .val (.ref a2), .val (.int (0 : Int32)), .val (.int (0 : Int32)), .val .null, .unset] [(.ref aL), (.ref a1)])) rfl rfl (hb hby d34_11)
  have P13 : ∀ t, Steps p.tables e below (T12.setTop (mkF m 14 #[.val (.ref a1), .val (.ref a2), .val (.int (0 : Int32)), .val (.int (0 : Int32)), .val .null, .unset] [(.ref bL), (.ref a1)])) t → Steps p.tables e below (s₁.setTop (entryFrame m #[(.ref a1), (.ref a2), (.int (0 : Int32)), (.int (0 : Int32)), .null] 6)) t := fun t k => P11 _ (st12 _ k)
  obtain ⟨T14, h14, X14, e14, W14, st14⟩ := putF X12 hx hZ hown (host := "") (Or.inl (hw _ (List.mem_of_getElem? (i := 34) rfl))) Via.refl e12 F7 F6 (Or.inr ⟨(hw _ (List.mem_of_getElem? (i := 35) rfl)), rfl, hnm⟩) (hw _ (List.mem_of_getElem? (i := 8) rfl)) (ty := (.array .byte)) (by decide) rfl rfl (g := (mkF m 14 #[.val (.ref a1), .val (.ref a2), .val (.int (0 : Int32)), .val (.int (0 : Int32)), .val .null, .unset] [(.ref bL), (.ref a1)])) rfl rfl (hb hby d34_14)
  have F15 : Exa Z h14 a1 "java/lang/String" := F6.wr W14
  have F16 : Fld Z h14 a1 "java/lang/String" "coder" "B" (.int (0 : Int32)) := F8.other W14 (Or.inr (slot_ne (Or.inr (hw _ (List.mem_of_getElem? (i := 33) rfl))) (Or.inr (hw _ (List.mem_of_getElem? (i := 35) rfl))) (by decide) (t := .byte) (t' := (.array .byte)) (by decide) (by decide)))
  have F17 : Exa Z h14 aL "java/lang/String" := A_L.wr W14
  have F18 : Fld Z h14 aL "java/lang/String" "value" "[B" (.ref bL) := V_L.other W14 (Or.inl (Ne.symm ne_aL))
  have F19 : Fld Z h14 aL "java/lang/String" "coder" "B" (.int (0 : Int32)) := C_L.other W14 (Or.inl (Ne.symm ne_aL))
  have F20 : Exa Z h14 bL "[B" := X_L.wr W14
  have F21 : own_Af Z h14 bL kL .byte (0 : Int32) (fun i => Value.int (cf i)) := W_L.other W14 (Ne.symm ne_bL)
  have F22 : Fld Z h14 a1 "java/lang/String" "value" "[B" (.ref bL) := F7.same W14
  have hk23 : kS ≤ h14.size := Nat.le_trans hkS (Keep.of_wr W14).1
  have Z24 : n0 ≤ h14.size := Nat.le_trans Z9 (Keep.of_wr W14).1
  have K25 : Keep h0 h14 [a1] := K10.wr W14 (Or.inl (List.mem_of_getElem? (i := 0) rfl))
  have N14 := Fr.snoc X14 N0 g_a
  have P26 : ∀ t, Steps p.tables e below (T14.setTop (mkF m 17 #[.val (.ref a1), .val (.ref a2), .val (.int (0 : Int32)), .val (.int (0 : Int32)), .val .null, .unset] [])) t → Steps p.tables e below (s₁.setTop (entryFrame m #[(.ref a1), (.ref a2), (.int (0 : Int32)), (.int (0 : Int32)), .null] 6)) t := fun t k => P13 _ (st14 _ k)
  have P27 : ∀ t, Steps p.tables e below (T14.setTop (mkF m 18 #[.val (.ref a1), .val (.ref a2), .val (.int (0 : Int32)), .val (.int (0 : Int32)), .val .null, .unset] [(.ref a1)])) t → Steps p.tables e below (s₁.setTop (entryFrame m #[(.ref a1), (.ref a2), (.int (0 : Int32)), (.int (0 : Int32)), .null] 6)) t := by
    intro t k
    refine P26 _ ?_
    refine XS.aloadN X14.here hx rfl (hb hby d34_17) rfl rfl ?_
    show Steps p.tables e below (T14.setTop (mkF m 18 #[.val (.ref a1), .val (.ref a2), .val (.int (0 : Int32)), .val (.int (0 : Int32)), .val .null, .unset] [(.ref a1)])) _
    exact k
  have st28 := ldcR (Z := s.setVm T5.vm) (a0 := a0) X14 hx (State.Warmed39.refl (s.setVm T5.vm)) hown (own_ref (mvS (s := s) (args := a0) hZ (hw _ (List.mem_of_getElem? (i := 97) rfl))) hLit) hLit (g := (mkF m 18 #[.val (.ref a1), .val (.ref a2), .val (.int (0 : Int32)), .val (.int (0 : Int32)), .val .null, .unset] [(.ref a1)])) rfl (hb hby d34_18)
  have P29 : ∀ t, Steps p.tables e below (T14.setTop (mkF m 20 #[.val (.ref a1), .val (.ref a2), .val (.int (0 : Int32)), .val (.int (0 : Int32)), .val .null, .unset] [(.ref aL), (.ref a1)])) t → Steps p.tables e below (s₁.setTop (entryFrame m #[(.ref a1), (.ref a2), (.int (0 : Int32)), (.int (0 : Int32)), .null] 6)) t := fun t k => P27 _ (st28 _ k)
  obtain ⟨T30, X30, e30, st30⟩ := getF X14 hx hZ hown (host := "") (Or.inl (hw _ (List.mem_of_getElem? (i := 32) rfl))) Via.refl e14 F19 (g := (mkF m 20 #[.val (.ref a1), .val (.ref a2), .val (.int (0 : Int32)), .val (.int (0 : Int32)), .val .null, .unset] [(.ref aL), (.ref a1)])) rfl rfl (hb hby d34_20)
  have P31 : ∀ t, Steps p.tables e below (T30.setTop (mkF m 23 #[.val (.ref a1), .val (.ref a2), .val (.int (0 : Int32)), .val (.int (0 : Int32)), .val .null, .unset] [(.int (0 : Int32)), (.ref a1)])) t → Steps p.tables e below (s₁.setTop (entryFrame m #[(.ref a1), (.ref a2), (.int (0 : Int32)), (.int (0 : Int32)), .null] 6)) t := fun t k => P29 _ (st30 _ k)
  obtain ⟨T32, h32, X32, e32, W32, st32⟩ := putFN X30 hx hZ hown (hw _ (List.mem_of_getElem? (i := 32) rfl)) Via.refl e30 F16 F15 (Or.inr ⟨(hw _ (List.mem_of_getElem? (i := 33) rfl)), rfl, hnm⟩) (hw _ (List.mem_of_getElem? (i := 8) rfl)) (ty := .byte) (v' := (.int (0 : Int32))) (by decide) rfl rfl (g := (mkF m 23 #[.val (.ref a1), .val (.ref a2), .val (.int (0 : Int32)), .val (.int (0 : Int32)), .val .null, .unset] [(.int (0 : Int32)), (.ref a1)])) rfl rfl (hb hby d34_23)
  have F33 : Exa Z h32 a1 "java/lang/String" := F15.wr W32
  have F34 : Exa Z h32 aL "java/lang/String" := F17.wr W32
  have F35 : Fld Z h32 aL "java/lang/String" "value" "[B" (.ref bL) := F18.other W32 (Or.inl (Ne.symm ne_aL))
  have F36 : Fld Z h32 aL "java/lang/String" "coder" "B" (.int (0 : Int32)) := F19.other W32 (Or.inl (Ne.symm ne_aL))
  have F37 : Exa Z h32 bL "[B" := F20.wr W32
  have F38 : own_Af Z h32 bL kL .byte (0 : Int32) (fun i => Value.int (cf i)) := F21.other W32 (Ne.symm ne_bL)
  have F39 : Fld Z h32 a1 "java/lang/String" "value" "[B" (.ref bL) := F22.other W32 (Or.inr (slot_ne (Or.inr (hw _ (List.mem_of_getElem? (i := 35) rfl))) (Or.inr (hw _ (List.mem_of_getElem? (i := 33) rfl))) (by decide) (t := (.array .byte)) (t' := .byte) (by decide) (by decide)))
  have F40 : Fld Z h32 a1 "java/lang/String" "coder" "B" (.int (0 : Int32)) := F16.same W32
  have hk41 : kS ≤ h32.size := Nat.le_trans hk23 (Keep.of_wr W32).1
  have Z42 : n0 ≤ h32.size := Nat.le_trans Z24 (Keep.of_wr W32).1
  have K43 : Keep h0 h32 [a1] := K25.wr W32 (Or.inl (List.mem_of_getElem? (i := 0) rfl))
  have N32 := Fr.snoc X32 N14 g_a
  have P44 : ∀ t, Steps p.tables e below (T32.setTop (mkF m 26 #[.val (.ref a1), .val (.ref a2), .val (.int (0 : Int32)), .val (.int (0 : Int32)), .val .null, .unset] [])) t → Steps p.tables e below (s₁.setTop (entryFrame m #[(.ref a1), (.ref a2), (.int (0 : Int32)), (.int (0 : Int32)), .null] 6)) t := fun t k => P31 _ (st32 _ k)
  obtain ⟨fs, hr, hrun, hended, hRW⟩ := X32.leaveW hS (by rw [e32]; exact hk41) (v := none) (fun _ => rfl)
  refine ⟨_, _, P44 _ ?_, hrun, hended, _, _, rfl, ?_, hRW.1, hRW.2.1, hRW.2.2.1, hRW.2.2.2.mono (by decide) (by decide)⟩
  · exact X32.returnOut hx Bd.returns (hb hby d34_26) hr
  · show Q34 Z a1 a2 cf h0 n0 _ T32.heap _
    rw [e32]
    exact ⟨bL, kL, rfl, N32, K43, F33, F39, F40, F38, F37⟩
theorem d35_0 : decode jdk_42_method_3_code 0 = .ok (.aload_n 0, 1) := by decide +kernel
theorem d35_1 : decode jdk_42_method_3_code 1 = .ok (.aload_n 1, 1) := by decide +kernel
theorem d35_2 : decode jdk_42_method_3_code 2 = .ok (.iconst 0, 1) := by decide +kernel
theorem d35_3 : decode jdk_42_method_3_code 3 = .ok (.aload_n 1, 1) := by decide +kernel
theorem d35_4 : decode jdk_42_method_3_code 4 = .ok (.arraylength, 1) := by decide +kernel
theorem d35_5 : decode jdk_42_method_3_code 5 = .ok (.aconst_null, 1) := by decide +kernel
theorem d35_6 : decode jdk_42_method_3_code 6 = .ok (.invokespecial 27, 3) := by decide +kernel
theorem d35_9 : decode jdk_42_method_3_code 9 = .ok (.return_, 1) := by decide +kernel
theorem pn_35 : plainName "java/lang/String" = true := by first | (simp [plainName, overriddenIn]; done) | decide +kernel
theorem ef_35 (m : MethodId) (x0 : Addr) (x1 : Addr) : entryFrame m #[(.ref x0), (.ref x1)] 2 = mkF m 0 #[.val (.ref x0), .val (.ref x1)] [] := by first | (simp [entryFrame, mkF, argsToLocals, Value.category]; done) | rfl
def Q35 (Z : State) (a1 : Addr) (a2 : Addr) (cf : Nat → Int32) (kc : ClassId) (f2 : Nat → Value) (h0 : Heap) (n0 : Nat) (v : Option Value) (h : Heap) (L : List Loc) : Prop := ∃ (b : Addr) (kb : ClassId), v = none ∧ Fr n0 L ∧ Keep h0 h [a1] ∧ Exa Z h a1 "java/lang/String" ∧ Fld Z h a1 "java/lang/String" "value" "[B" (.ref b) ∧ Fld Z h a1 "java/lang/String" "coder" "B" (.int (0 : Int32)) ∧ own_Af Z h b kb .byte (0 : Int32) (fun i => Value.int (cf i)) ∧ Exa Z h b "[B"
set_option maxRecDepth 65536 in
set_option maxHeartbeats 40000000 in
theorem rm35 (l : Launch) (Z : State) (a0 : Array Value) (hw : ∀ d ∈ tables_1, d.before a0 Z = true) (ws : List Jvm.Cond) (a1 : Addr) (a2 : Addr) (cf : Nat → Int32) (kc : ClassId) (f2 : Nat → Value) (h0 : Heap) (n0 : Nat) (Z0 : n0 ≤ h0.size) (E_a : Exa Z h0 a1 "java/lang/String") (F_v : Fld Z h0 a1 "java/lang/String" "value" "[B" .null) (F_k : Fld Z h0 a1 "java/lang/String" "coder" "B" (.int (0 : Int32))) (g_a : n0 ≤ a1) (A_c : own_Af Z h0 a2 kc .char (0 : Int32) f2) :
    MetFree l (⟨"java/lang/String", "<init>", "([C)V"⟩ : MethodName) (head1 (Jvm.Cond.code (⟨"java/lang/String", "<init>", "([C)V"⟩ : MethodName) jdk_42_method_3_code 2 none :: ws) ({ frames := 2, cells := 2, slots := 4, locals := 29 } : Room)) (fun a U => a = #[(.ref a1), (.ref a2)] ∧ Z.Warmed39 U.vm ∧ U.heap = h0 ∧ CHv Z consts_1 U.vm h0) (fun _ _ _ _ _ => True) (fun _ U o U' => ∃ v L, o = .returned v ∧ Q35 Z a1 a2 cf kc f2 h0 n0 v U'.heap L ∧ ReturnedEndW U o U' L ({ frames := 2, cells := 2, slots := 4, locals := 29 } : Room).cells ({ frames := 2, cells := 2, slots := 4, locals := 29 } : Room).slots) := by
  refine MetFree.of_bodySF (plainFor_of_name pn_35) hisR ?_
  intro p e s m args below meth c s₁ Bd hml0 hP hK
  obtain ⟨rfl, hZ, hh, hC⟩ := hP
  have hx := Bd.exec
  have hby := Bd.bytes
  have hml : c.maxLocals = 2 := hml0
  have hown : s.vm.findClass "java/lang/String" = some m.cls := findClass_of_methodNamed Bd.named
  have hnm := (name_of_methodNamed Bd.named Bd.method).1
  have X0 : Stand p l e ({ frames := 2, cells := 2, slots := 4, locals := 29 } : Room) s m #[(.ref a1), (.ref a2)] below meth c s₁ [] 0 0 := Stand.of_body Bd
  have e0 : s₁.heap = h0 := by rw [← hh, Bd.state]; rfl
  have N0 := Fr.nil n0
  have K0 : Keep h0 h0 [a1] := Keep.refl _ _
  have P0 : ∀ t, Steps p.tables e below (s₁.setTop (mkF m 0 #[.val (.ref a1), .val (.ref a2)] [])) t → Steps p.tables e below (s₁.setTop (entryFrame m #[(.ref a1), (.ref a2)] 2)) t := fun t k => castTop (ef_35 m a1 a2) k
  have P1 : ∀ t, Steps p.tables e below (s₁.setTop (mkF m 6 #[.val (.ref a1), .val (.ref a2)] [.null, (.int (0 : Int32)), (.int (0 : Int32)), (.ref a2), (.ref a1)])) t → Steps p.tables e below (s₁.setTop (entryFrame m #[(.ref a1), (.ref a2)] 2)) t := by
    intro t k
    refine P0 _ ?_
    refine XS.aloadN X0.here hx rfl (hb hby d35_0) rfl rfl ?_
    show Steps p.tables e below (s₁.setTop (mkF m 1 #[.val (.ref a1), .val (.ref a2)] [(.ref a1)])) _
    refine XS.aloadN X0.here hx rfl (hb hby d35_1) rfl rfl ?_
    show Steps p.tables e below (s₁.setTop (mkF m 2 #[.val (.ref a1), .val (.ref a2)] [(.ref a2), (.ref a1)])) _
    refine XS.iconst X0.here hx rfl (hb hby d35_2) ?_
    show Steps p.tables e below (s₁.setTop (mkF m 3 #[.val (.ref a1), .val (.ref a2)] [(.int (0 : Int32)), (.ref a2), (.ref a1)])) _
    refine XS.aloadN X0.here hx rfl (hb hby d35_3) rfl rfl ?_
    show Steps p.tables e below (s₁.setTop (mkF m 4 #[.val (.ref a1), .val (.ref a2)] [(.ref a2), (.int (0 : Int32)), (.ref a2), (.ref a1)])) _
    refine own_flen X0 hx hZ e0 A_c rfl rfl (hb hby d35_4) ?_
    show Steps p.tables e below (s₁.setTop (mkF m 5 #[.val (.ref a1), .val (.ref a2)] [(.int (0 : Int32)), (.int (0 : Int32)), (.ref a2), (.ref a1)])) _
    refine XS.aconstNull X0.here hx rfl (hb hby d35_5) ?_
    show Steps p.tables e below (s₁.setTop (mkF m 6 #[.val (.ref a1), .val (.ref a2)] [.null, (.int (0 : Int32)), (.int (0 : Int32)), (.ref a2), (.ref a1)])) _
    exact k
  obtain ⟨_, _, ⟨T2, L2, k2, n2⟩, -, X2, hS, hgr, ⟨Lc2, hQ2, l2, y2, z2⟩, st2⟩ := X0.specialBackS hx (y := (⟨"java/lang/String", "<init>", "([CIILjava/lang/Void;)V"⟩ : MethodName)) rfl hown (mvT hZ (hw _ (List.mem_of_getElem? (i := 13) rfl))) (mvT hZ (hw _ (List.mem_of_getElem? (i := 14) rfl))) (mvT hZ (hw _ (List.mem_of_getElem? (i := 16) rfl))) (by decide) (own_backC (W := 0) (rm34 l Z a0 hw [] a1 a2 cf h0 n0 Z0 E_a F_v F_k g_a) hZ (hw _ (List.mem_of_getElem? (i := 16) rfl)) (hw _ (List.mem_of_getElem? (i := 9) rfl)) (by decide) (by decide) (own_ew hw) hC) (g := (mkF m 6 #[.val (.ref a1), .val (.ref a2)] [.null, (.int (0 : Int32)), (.int (0 : Int32)), (.ref a2), (.ref a1)])) rfl (by rw [hml]; rfl) (Steps.refl _) (a := a1) (argsL := [(.ref a2), (.int (0 : Int32)), (.int (0 : Int32)), .null]) (rest := []) (lenOf pd_3 rfl) rfl (by show 2 * 0 + _ ≤ _; exact Nat.le_of_eq rfl) (hb hby d35_6) (fun _ _ => ⟨rfl, e0, (by decide : 0 + 2 ≤ _), (by decide : 0 + 4 ≤ _)⟩)
  dsimp only [Pt.U, Pt.locs, Pt.cells, Pt.slots] at X2 l2 y2 z2 st2 hQ2 hS hgr
  subst l2 y2 z2
  have hZ : Z.Warmed39 (s.setVm T2.vm).vm := State.Warmed39.trans (t := s) hZ hS.1
  have hown : (s.setVm T2.vm).vm.findClass "java/lang/String" = some m.cls := by rw [show (s.setVm T2.vm).vm = T2.vm from rfl, hS.1.alike.findClass]; exact hown
  obtain ⟨b_2, kb_2, rfl, N2q, K2, Y2_0, Y2_1, Y2_2, Y2_3, Y2_4⟩ := hQ2
  have F3 : Exa Z T2.heap a1 "java/lang/String" := E_a.keep K2
  have Z4 : n0 ≤ T2.heap.size := Nat.le_trans Z0 K2.1
  have K5 : Keep h0 T2.heap [a1] := K0.trans K2 (allS (Or.inl (List.mem_of_getElem? (i := 0) rfl)) all0)
  have N2 := Fr.app N0 N2q
  have P6 : ∀ t, Steps p.tables e below (T2.setTop (mkF m 9 #[.val (.ref a1), .val (.ref a2)] [])) t → Steps p.tables e below (s₁.setTop (entryFrame m #[(.ref a1), (.ref a2)] 2)) t := fun t k => P1 _ (st2.trans k)
  have hk7 : T2.heap.size ≤ T2.heap.size := Nat.le_refl _
  obtain ⟨fs, hr, hrun, hended, hRW⟩ := X2.leaveW hS hk7 (v := none) (fun _ => rfl)
  refine ⟨_, _, P6 _ ?_, hrun, hended, _, _, rfl, ?_, hRW.1, hRW.2.1, hRW.2.2.1, hRW.2.2.2.mono (by decide) (by decide)⟩
  · exact X2.returnOut hx Bd.returns (hb hby d35_9) hr
  · show Q35 Z a1 a2 cf kc f2 h0 n0 _ T2.heap _
    exact ⟨b_2, kb_2, rfl, N2, K5, Y2_0, Y2_1, Y2_2, Y2_3, Y2_4⟩
abbrev vI (x : Int32) : Slot := .val (.int x)
abbrev vJ (x : Int64) : Slot := .val (.long x)
abbrev vR (x : Addr) : Slot := .val (.ref x)
abbrev vU : Slot := .unset
abbrev vS : Slot := .second
set_option maxRecDepth 65536 in
set_option maxHeartbeats 40000000 in
theorem tlA {p : Program} {l : Launch} {e : Env} {s : State} {m : MethodId} {args : Array Value} {below : List Frame} {meth : Method} {c : Code} {T : State} {locs : List Loc} {cells slots : Nat} (hcl : cells ≤ room_1.cells) (hsl : slots ≤ room_1.slots) {Z : State} {a0 : Array Value} {h0 : Heap} {n0 : Nat} (p1 : Int32) (p2 : Int32) (p3 : Int32) (q4 : Int64) (q5 : Int64) (p6 : Int32) (nx : Int32) (mx : Int32) (kx : Int32) (px : Int32) (c0 : Int32) (off : Int32) (c1 : Int32) (dx : Int32) (c2 : Int32) (w0 : Int64) (w1 : Int64) (ba : Addr) (bw : Addr) (bA : Addr) (ps : Addr) (nq : Int32) (kp : ClassId) (kn : Nat) (mm : Nat) (kk : Nat)
    (X0 : Stand p l e room_1 s m args below meth c T locs cells slots) (hx : p.tables.exec = Jvm.exec) (hZ : Z.Warmed39 s.vm) (hw : ∀ d ∈ tables_1, d.before a0 Z = true) (hby : c.code = code) (hml : c.maxLocals = 33) (hown : s.vm.findClass "com/example/basewright/basewright/AlphabetWeightedValuesPinLaw" = some m.cls) (e0 : T.heap = h0) (N0 : Fr n0 locs) (Z0 : n0 ≤ h0.size) (A_t : own_Af Z h0 ps kp .long nq (fun c => Value.long (own_wv (own_vf (own_l3 c0 c1 c2) kn) (own_w2 w0 w1) c))) (hq24 : nq.toInt = ((mm * 256 : Nat) : Int)) (hlen : nq = (mx * (256 : Int32))) (hnn : nx.toInt = (kn : Int)) (hk3 : kn ≤ 3) (hkk : kx.toInt = kk) (hkm : kk < mm) (hm2 : mm ≤ 2) (hk1 : kk ≤ 1) (kc0 : own_c c0) (kc1 : own_c c1) (kc2 : own_c c2) (hne3 : c0 ≠ c1 ∧ c0 ≠ c2 ∧ c1 ≠ c2) (kpx : 0 ≤ px.toInt ∧ px.toInt < 256) (kp8 : 0 ≤ (px ||| (128 : Int32)).toInt ∧ (px ||| (128 : Int32)).toInt < 256) (kp9 : 128 ≤ (px ||| (128 : Int32)).toInt) :
    ∃ (T' : State) (h' : Heap) (locs' : List Loc), Stand p l e room_1 s m args below meth c T' locs' cells slots ∧ T'.heap = h' ∧ Fr n0 locs' ∧ Keep h0 h' [] ∧ own_Af Z h' ps kp .long nq (fun c => Value.long (own_wv (own_vf (own_l3 c0 c1 c2) kn) (own_w2 w0 w1) c)) ∧
      ∀ t, Steps p.tables e below (T'.setTop (mkF m 423 #[vI p1, vI p2, vI p3, vJ q4, vS, vJ q5, vS, vI p6, vI nx, vI mx, vI kx, vI px, vI c0, vI off, vI c1, vI dx, vI c2, vJ w0, vS, vJ w1, vS, vR ba, vR bw, vR bA, vR ps, .val (.long (if kx = (0 : Int32) then w0 else w1)), vS, .val (.int (kx <<< ((8 : Int32) &&& 31))), .val (.int (1 : Int32)), vU, vU, vU, vU] [])) t → Steps p.tables e below (T.setTop (mkF m 254 #[vI p1, vI p2, vI p3, vJ q4, vS, vJ q5, vS, vI p6, vI nx, vI mx, vI kx, vI px, vI c0, vI off, vI c1, vI dx, vI c2, vJ w0, vS, vJ w1, vS, vR ba, vR bw, vR bA, vR ps, vU, vU, vU, vU, vU, vU, vU, vU] [])) t := by
  have K0 : Keep h0 h0 [] := Keep.refl _ _
  have P0 : ∀ t, Steps p.tables e below (T.setTop (mkF m 254 #[vI p1, vI p2, vI p3, vJ q4, vS, vJ q5, vS, vI p6, vI nx, vI mx, vI kx, vI px, vI c0, vI off, vI c1, vI dx, vI c2, vJ w0, vS, vJ w1, vS, vR ba, vR bw, vR bA, vR ps, vU, vU, vU, vU, vU, vU, vU, vU] [])) t → Steps p.tables e below (T.setTop (mkF m 254 #[vI p1, vI p2, vI p3, vJ q4, vS, vJ q5, vS, vI p6, vI nx, vI mx, vI kx, vI px, vI c0, vI off, vI c1, vI dx, vI c2, vJ w0, vS, vJ w1, vS, vR ba, vR bw, vR bA, vR ps, vU, vU, vU, vU, vU, vU, vU, vU] [])) t := fun t k => k
  have hwk2 : own_w2 w0 w1 kk = (if kx = (0 : Int32) then w0 else w1) := own_wk rfl hkk hk1
  have P1 : ∀ t, Steps p.tables e below (T.setTop (mkF m 280 #[vI p1, vI p2, vI p3, vJ q4, vS, vJ q5, vS, vI p6, vI nx, vI mx, vI kx, vI px, vI c0, vI off, vI c1, vI dx, vI c2, vJ w0, vS, vJ w1, vS, vR ba, vR bw, vR bA, vR ps, vU, vU, vU, vU, vU, vU, vU, vU] [(.long (if kx = (0 : Int32) then w0 else w1))])) t → Steps p.tables e below (T.setTop (mkF m 254 #[vI p1, vI p2, vI p3, vJ q4, vS, vJ q5, vS, vI p6, vI nx, vI mx, vI kx, vI px, vI c0, vI off, vI c1, vI dx, vI c2, vJ w0, vS, vJ w1, vS, vR ba, vR bw, vR bA, vR ps, vU, vU, vU, vU, vU, vU, vU, vU] [])) t := by
    intro t k
    refine P0 _ ?_
    refine XS.aload X0.here hx rfl (hb hby at_254) rfl rfl ?_
    show Steps p.tables e below (T.setTop (mkF m 256 #[vI p1, vI p2, vI p3, vJ q4, vS, vJ q5, vS, vI p6, vI nx, vI mx, vI kx, vI px, vI c0, vI off, vI c1, vI dx, vI c2, vJ w0, vS, vJ w1, vS, vR ba, vR bw, vR bA, vR ps, vU, vU, vU, vU, vU, vU, vU, vU] [(.ref ps)])) _
    refine own_flen X0 hx hZ e0 A_t rfl rfl (hb hby at_256) ?_
    show Steps p.tables e below (T.setTop (mkF m 257 #[vI p1, vI p2, vI p3, vJ q4, vS, vJ q5, vS, vI p6, vI nx, vI mx, vI kx, vI px, vI c0, vI off, vI c1, vI dx, vI c2, vJ w0, vS, vJ w1, vS, vR ba, vR bw, vR bA, vR ps, vU, vU, vU, vU, vU, vU, vU, vU] [(.int nq)])) _
    refine XS.iload X0.here hx rfl (hb hby at_257) rfl ?_
    show Steps p.tables e below (T.setTop (mkF m 259 #[vI p1, vI p2, vI p3, vJ q4, vS, vJ q5, vS, vI p6, vI nx, vI mx, vI kx, vI px, vI c0, vI off, vI c1, vI dx, vI c2, vJ w0, vS, vJ w1, vS, vR ba, vR bw, vR bA, vR ps, vU, vU, vU, vU, vU, vU, vU, vU] [(.int mx), (.int nq)])) _
    refine XS.sipush X0.here hx rfl (hb hby at_259) ?_
    show Steps p.tables e below (T.setTop (mkF m 262 #[vI p1, vI p2, vI p3, vJ q4, vS, vJ q5, vS, vI p6, vI nx, vI mx, vI kx, vI px, vI c0, vI off, vI c1, vI dx, vI c2, vJ w0, vS, vJ w1, vS, vR ba, vR bw, vR bA, vR ps, vU, vU, vU, vU, vU, vU, vU, vU] [(.int (256 : Int32)), (.int mx), (.int nq)])) _
    refine XS.imul X0.here hx rfl (hb hby at_262) rfl ?_
    show Steps p.tables e below (T.setTop (mkF m 263 #[vI p1, vI p2, vI p3, vJ q4, vS, vJ q5, vS, vI p6, vI nx, vI mx, vI kx, vI px, vI c0, vI off, vI c1, vI dx, vI c2, vJ w0, vS, vJ w1, vS, vR ba, vR bw, vR bA, vR ps, vU, vU, vU, vU, vU, vU, vU, vU] [(.int (mx * (256 : Int32))), (.int nq)])) _
    refine XS.icmpYes X0.here hx rfl (pc0 := 263) (pc' := 268) rfl (hb hby at_263) rfl (XT.ii_eq_t hlen) (by decide) (by decide) ?_
    show Steps p.tables e below (T.setTop (mkF m 268 #[vI p1, vI p2, vI p3, vJ q4, vS, vJ q5, vS, vI p6, vI nx, vI mx, vI kx, vI px, vI c0, vI off, vI c1, vI dx, vI c2, vJ w0, vS, vJ w1, vS, vR ba, vR bw, vR bA, vR ps, vU, vU, vU, vU, vU, vU, vU, vU] [])) _
    refine XS.iload X0.here hx rfl (hb hby at_268) rfl ?_
    show Steps p.tables e below (T.setTop (mkF m 270 #[vI p1, vI p2, vI p3, vJ q4, vS, vJ q5, vS, vI p6, vI nx, vI mx, vI kx, vI px, vI c0, vI off, vI c1, vI dx, vI c2, vJ w0, vS, vJ w1, vS, vR ba, vR bw, vR bA, vR ps, vU, vU, vU, vU, vU, vU, vU, vU] [(.int kx)])) _
    by_cases c270 : kx = (0 : Int32)
    · try simp only [if_pos c270] at k
      refine XS.ifNo X0.here hx rfl (hb hby at_270) rfl (XT.i0_ne_f c270) ?_
      show Steps p.tables e below (T.setTop (mkF m 273 #[vI p1, vI p2, vI p3, vJ q4, vS, vJ q5, vS, vI p6, vI nx, vI mx, vI kx, vI px, vI c0, vI off, vI c1, vI dx, vI c2, vJ w0, vS, vJ w1, vS, vR ba, vR bw, vR bA, vR ps, vU, vU, vU, vU, vU, vU, vU, vU] [])) _
      refine XT.lload X0.here hx rfl (hb hby at_273) rfl ?_
      show Steps p.tables e below (T.setTop (mkF m 275 #[vI p1, vI p2, vI p3, vJ q4, vS, vJ q5, vS, vI p6, vI nx, vI mx, vI kx, vI px, vI c0, vI off, vI c1, vI dx, vI c2, vJ w0, vS, vJ w1, vS, vR ba, vR bw, vR bA, vR ps, vU, vU, vU, vU, vU, vU, vU, vU] [(.long w0)])) _
      refine XS.goto X0.here hx rfl (pc0 := 275) (pc' := 280) rfl (hb hby at_275) (by decide) (by decide) ?_
      show Steps p.tables e below (T.setTop (mkF m 280 #[vI p1, vI p2, vI p3, vJ q4, vS, vJ q5, vS, vI p6, vI nx, vI mx, vI kx, vI px, vI c0, vI off, vI c1, vI dx, vI c2, vJ w0, vS, vJ w1, vS, vR ba, vR bw, vR bA, vR ps, vU, vU, vU, vU, vU, vU, vU, vU] [(.long w0)])) _
      exact k
    · try simp only [if_neg c270] at k
      refine XS.ifYes X0.here hx rfl (pc0 := 270) (pc' := 278) rfl (hb hby at_270) rfl (XT.i0_ne_t c270) (by decide) (by decide) ?_
      show Steps p.tables e below (T.setTop (mkF m 278 #[vI p1, vI p2, vI p3, vJ q4, vS, vJ q5, vS, vI p6, vI nx, vI mx, vI kx, vI px, vI c0, vI off, vI c1, vI dx, vI c2, vJ w0, vS, vJ w1, vS, vR ba, vR bw, vR bA, vR ps, vU, vU, vU, vU, vU, vU, vU, vU] [])) _
      refine XT.lload X0.here hx rfl (hb hby at_278) rfl ?_
      show Steps p.tables e below (T.setTop (mkF m 280 #[vI p1, vI p2, vI p3, vJ q4, vS, vJ q5, vS, vI p6, vI nx, vI mx, vI kx, vI px, vI c0, vI off, vI c1, vI dx, vI c2, vJ w0, vS, vJ w1, vS, vR ba, vR bw, vR bA, vR ps, vU, vU, vU, vU, vU, vU, vU, vU] [(.long w1)])) _
      exact k
  have P2 : ∀ t, Steps p.tables e below (T.setTop (mkF m 309 #[vI p1, vI p2, vI p3, vJ q4, vS, vJ q5, vS, vI p6, vI nx, vI mx, vI kx, vI px, vI c0, vI off, vI c1, vI dx, vI c2, vJ w0, vS, vJ w1, vS, vR ba, vR bw, vR bA, vR ps, .val (.long (if kx = (0 : Int32) then w0 else w1)), vS, .val (.int (kx <<< ((8 : Int32) &&& 31))), vU, vU, vU, vU, vU] [(.long (if kx = (0 : Int32) then w0 else w1)), (.int c2), (.int c1), (.int c0), (.int nx), (.int c0), (.long (own_wv (own_vf (own_l3 c0 c1 c2) kn) (own_w2 w0 w1) (((kx <<< ((8 : Int32) &&& 31)) ||| c0)).toNatClampNeg))])) t → Steps p.tables e below (T.setTop (mkF m 254 #[vI p1, vI p2, vI p3, vJ q4, vS, vJ q5, vS, vI p6, vI nx, vI mx, vI kx, vI px, vI c0, vI off, vI c1, vI dx, vI c2, vJ w0, vS, vJ w1, vS, vR ba, vR bw, vR bA, vR ps, vU, vU, vU, vU, vU, vU, vU, vU] [])) t := by
    intro t k
    refine P1 _ ?_
    refine XT.lstore X0.here hx rfl (hb hby at_280) rfl (l' := #[vI p1, vI p2, vI p3, vJ q4, vS, vJ q5, vS, vI p6, vI nx, vI mx, vI kx, vI px, vI c0, vI off, vI c1, vI dx, vI c2, vJ w0, vS, vJ w1, vS, vR ba, vR bw, vR bA, vR ps, .val (.long (if kx = (0 : Int32) then w0 else w1)), vS, vU, vU, vU, vU, vU, vU]) rfl ?_
    show Steps p.tables e below (T.setTop (mkF m 282 #[vI p1, vI p2, vI p3, vJ q4, vS, vJ q5, vS, vI p6, vI nx, vI mx, vI kx, vI px, vI c0, vI off, vI c1, vI dx, vI c2, vJ w0, vS, vJ w1, vS, vR ba, vR bw, vR bA, vR ps, .val (.long (if kx = (0 : Int32) then w0 else w1)), vS, vU, vU, vU, vU, vU, vU] [])) _
    refine XS.iload X0.here hx rfl (hb hby at_282) rfl ?_
    show Steps p.tables e below (T.setTop (mkF m 284 #[vI p1, vI p2, vI p3, vJ q4, vS, vJ q5, vS, vI p6, vI nx, vI mx, vI kx, vI px, vI c0, vI off, vI c1, vI dx, vI c2, vJ w0, vS, vJ w1, vS, vR ba, vR bw, vR bA, vR ps, .val (.long (if kx = (0 : Int32) then w0 else w1)), vS, vU, vU, vU, vU, vU, vU] [(.int kx)])) _
    refine XS.bipush X0.here hx rfl (hb hby at_284) ?_
    show Steps p.tables e below (T.setTop (mkF m 286 #[vI p1, vI p2, vI p3, vJ q4, vS, vJ q5, vS, vI p6, vI nx, vI mx, vI kx, vI px, vI c0, vI off, vI c1, vI dx, vI c2, vJ w0, vS, vJ w1, vS, vR ba, vR bw, vR bA, vR ps, .val (.long (if kx = (0 : Int32) then w0 else w1)), vS, vU, vU, vU, vU, vU, vU] [(.int (8 : Int32)), (.int kx)])) _
    refine XT.ishl X0.here hx rfl (hb hby at_286) rfl ?_
    show Steps p.tables e below (T.setTop (mkF m 287 #[vI p1, vI p2, vI p3, vJ q4, vS, vJ q5, vS, vI p6, vI nx, vI mx, vI kx, vI px, vI c0, vI off, vI c1, vI dx, vI c2, vJ w0, vS, vJ w1, vS, vR ba, vR bw, vR bA, vR ps, .val (.long (if kx = (0 : Int32) then w0 else w1)), vS, vU, vU, vU, vU, vU, vU] [(.int (kx <<< ((8 : Int32) &&& 31)))])) _
    refine XS.istore X0.here hx rfl (hb hby at_287) rfl (l' := #[vI p1, vI p2, vI p3, vJ q4, vS, vJ q5, vS, vI p6, vI nx, vI mx, vI kx, vI px, vI c0, vI off, vI c1, vI dx, vI c2, vJ w0, vS, vJ w1, vS, vR ba, vR bw, vR bA, vR ps, .val (.long (if kx = (0 : Int32) then w0 else w1)), vS, .val (.int (kx <<< ((8 : Int32) &&& 31))), vU, vU, vU, vU, vU]) rfl ?_
    show Steps p.tables e below (T.setTop (mkF m 289 #[vI p1, vI p2, vI p3, vJ q4, vS, vJ q5, vS, vI p6, vI nx, vI mx, vI kx, vI px, vI c0, vI off, vI c1, vI dx, vI c2, vJ w0, vS, vJ w1, vS, vR ba, vR bw, vR bA, vR ps, .val (.long (if kx = (0 : Int32) then w0 else w1)), vS, .val (.int (kx <<< ((8 : Int32) &&& 31))), vU, vU, vU, vU, vU] [])) _
    refine XS.aload X0.here hx rfl (hb hby at_289) rfl rfl ?_
    show Steps p.tables e below (T.setTop (mkF m 291 #[vI p1, vI p2, vI p3, vJ q4, vS, vJ q5, vS, vI p6, vI nx, vI mx, vI kx, vI px, vI c0, vI off, vI c1, vI dx, vI c2, vJ w0, vS, vJ w1, vS, vR ba, vR bw, vR bA, vR ps, .val (.long (if kx = (0 : Int32) then w0 else w1)), vS, .val (.int (kx <<< ((8 : Int32) &&& 31))), vU, vU, vU, vU, vU] [(.ref ps)])) _
    refine XS.iload X0.here hx rfl (hb hby at_291) rfl ?_
    show Steps p.tables e below (T.setTop (mkF m 293 #[vI p1, vI p2, vI p3, vJ q4, vS, vJ q5, vS, vI p6, vI nx, vI mx, vI kx, vI px, vI c0, vI off, vI c1, vI dx, vI c2, vJ w0, vS, vJ w1, vS, vR ba, vR bw, vR bA, vR ps, .val (.long (if kx = (0 : Int32) then w0 else w1)), vS, .val (.int (kx <<< ((8 : Int32) &&& 31))), vU, vU, vU, vU, vU] [(.int (kx <<< ((8 : Int32) &&& 31))), (.ref ps)])) _
    refine XS.iload X0.here hx rfl (hb hby at_293) rfl ?_
    show Steps p.tables e below (T.setTop (mkF m 295 #[vI p1, vI p2, vI p3, vJ q4, vS, vJ q5, vS, vI p6, vI nx, vI mx, vI kx, vI px, vI c0, vI off, vI c1, vI dx, vI c2, vJ w0, vS, vJ w1, vS, vR ba, vR bw, vR bA, vR ps, .val (.long (if kx = (0 : Int32) then w0 else w1)), vS, .val (.int (kx <<< ((8 : Int32) &&& 31))), vU, vU, vU, vU, vU] [(.int c0), (.int (kx <<< ((8 : Int32) &&& 31))), (.ref ps)])) _
    refine XT.ior X0.here hx rfl (hb hby at_295) rfl ?_
    show Steps p.tables e below (T.setTop (mkF m 296 #[vI p1, vI p2, vI p3, vJ q4, vS, vJ q5, vS, vI p6, vI nx, vI mx, vI kx, vI px, vI c0, vI off, vI c1, vI dx, vI c2, vJ w0, vS, vJ w1, vS, vR ba, vR bw, vR bA, vR ps, .val (.long (if kx = (0 : Int32) then w0 else w1)), vS, .val (.int (kx <<< ((8 : Int32) &&& 31))), vU, vU, vU, vU, vU] [(.int ((kx <<< ((8 : Int32) &&& 31)) ||| c0)), (.ref ps)])) _
    refine own_flal X0 hx hZ e0 A_t (own_hin (mm := mm) hkk hkm hm2 (own_cr kc0) hq24) (v := (.long (own_wv (own_vf (own_l3 c0 c1 c2) kn) (own_w2 w0 w1) (((kx <<< ((8 : Int32) &&& 31)) ||| c0)).toNatClampNeg))) rfl rfl rfl (hb hby at_296) ?_
    show Steps p.tables e below (T.setTop (mkF m 297 #[vI p1, vI p2, vI p3, vJ q4, vS, vJ q5, vS, vI p6, vI nx, vI mx, vI kx, vI px, vI c0, vI off, vI c1, vI dx, vI c2, vJ w0, vS, vJ w1, vS, vR ba, vR bw, vR bA, vR ps, .val (.long (if kx = (0 : Int32) then w0 else w1)), vS, .val (.int (kx <<< ((8 : Int32) &&& 31))), vU, vU, vU, vU, vU] [(.long (own_wv (own_vf (own_l3 c0 c1 c2) kn) (own_w2 w0 w1) (((kx <<< ((8 : Int32) &&& 31)) ||| c0)).toNatClampNeg))])) _
    refine XS.iload X0.here hx rfl (hb hby at_297) rfl ?_
    show Steps p.tables e below (T.setTop (mkF m 299 #[vI p1, vI p2, vI p3, vJ q4, vS, vJ q5, vS, vI p6, vI nx, vI mx, vI kx, vI px, vI c0, vI off, vI c1, vI dx, vI c2, vJ w0, vS, vJ w1, vS, vR ba, vR bw, vR bA, vR ps, .val (.long (if kx = (0 : Int32) then w0 else w1)), vS, .val (.int (kx <<< ((8 : Int32) &&& 31))), vU, vU, vU, vU, vU] [(.int c0), (.long (own_wv (own_vf (own_l3 c0 c1 c2) kn) (own_w2 w0 w1) (((kx <<< ((8 : Int32) &&& 31)) ||| c0)).toNatClampNeg))])) _
    refine XS.iload X0.here hx rfl (hb hby at_299) rfl ?_
    show Steps p.tables e below (T.setTop (mkF m 301 #[vI p1, vI p2, vI p3, vJ q4, vS, vJ q5, vS, vI p6, vI nx, vI mx, vI kx, vI px, vI c0, vI off, vI c1, vI dx, vI c2, vJ w0, vS, vJ w1, vS, vR ba, vR bw, vR bA, vR ps, .val (.long (if kx = (0 : Int32) then w0 else w1)), vS, .val (.int (kx <<< ((8 : Int32) &&& 31))), vU, vU, vU, vU, vU] [(.int nx), (.int c0), (.long (own_wv (own_vf (own_l3 c0 c1 c2) kn) (own_w2 w0 w1) (((kx <<< ((8 : Int32) &&& 31)) ||| c0)).toNatClampNeg))])) _
    refine XS.iload X0.here hx rfl (hb hby at_301) rfl ?_
    show Steps p.tables e below (T.setTop (mkF m 303 #[vI p1, vI p2, vI p3, vJ q4, vS, vJ q5, vS, vI p6, vI nx, vI mx, vI kx, vI px, vI c0, vI off, vI c1, vI dx, vI c2, vJ w0, vS, vJ w1, vS, vR ba, vR bw, vR bA, vR ps, .val (.long (if kx = (0 : Int32) then w0 else w1)), vS, .val (.int (kx <<< ((8 : Int32) &&& 31))), vU, vU, vU, vU, vU] [(.int c0), (.int nx), (.int c0), (.long (own_wv (own_vf (own_l3 c0 c1 c2) kn) (own_w2 w0 w1) (((kx <<< ((8 : Int32) &&& 31)) ||| c0)).toNatClampNeg))])) _
    refine XS.iload X0.here hx rfl (hb hby at_303) rfl ?_
    show Steps p.tables e below (T.setTop (mkF m 305 #[vI p1, vI p2, vI p3, vJ q4, vS, vJ q5, vS, vI p6, vI nx, vI mx, vI kx, vI px, vI c0, vI off, vI c1, vI dx, vI c2, vJ w0, vS, vJ w1, vS, vR ba, vR bw, vR bA, vR ps, .val (.long (if kx = (0 : Int32) then w0 else w1)), vS, .val (.int (kx <<< ((8 : Int32) &&& 31))), vU, vU, vU, vU, vU] [(.int c1), (.int c0), (.int nx), (.int c0), (.long (own_wv (own_vf (own_l3 c0 c1 c2) kn) (own_w2 w0 w1) (((kx <<< ((8 : Int32) &&& 31)) ||| c0)).toNatClampNeg))])) _
    refine XS.iload X0.here hx rfl (hb hby at_305) rfl ?_
    show Steps p.tables e below (T.setTop (mkF m 307 #[vI p1, vI p2, vI p3, vJ q4, vS, vJ q5, vS, vI p6, vI nx, vI mx, vI kx, vI px, vI c0, vI off, vI c1, vI dx, vI c2, vJ w0, vS, vJ w1, vS, vR ba, vR bw, vR bA, vR ps, .val (.long (if kx = (0 : Int32) then w0 else w1)), vS, .val (.int (kx <<< ((8 : Int32) &&& 31))), vU, vU, vU, vU, vU] [(.int c2), (.int c1), (.int c0), (.int nx), (.int c0), (.long (own_wv (own_vf (own_l3 c0 c1 c2) kn) (own_w2 w0 w1) (((kx <<< ((8 : Int32) &&& 31)) ||| c0)).toNatClampNeg))])) _
    refine XT.lload X0.here hx rfl (hb hby at_307) rfl ?_
    show Steps p.tables e below (T.setTop (mkF m 309 #[vI p1, vI p2, vI p3, vJ q4, vS, vJ q5, vS, vI p6, vI nx, vI mx, vI kx, vI px, vI c0, vI off, vI c1, vI dx, vI c2, vJ w0, vS, vJ w1, vS, vR ba, vR bw, vR bA, vR ps, .val (.long (if kx = (0 : Int32) then w0 else w1)), vS, .val (.int (kx <<< ((8 : Int32) &&& 31))), vU, vU, vU, vU, vU] [(.long (if kx = (0 : Int32) then w0 else w1)), (.int c2), (.int c1), (.int c0), (.int nx), (.int c0), (.long (own_wv (own_vf (own_l3 c0 c1 c2) kn) (own_w2 w0 w1) (((kx <<< ((8 : Int32) &&& 31)) ||| c0)).toNatClampNeg))])) _
    exact k
  obtain ⟨_, _, ⟨T3, L3, k3, n3⟩, -, X3, ⟨Lc3, hQ3, l3, y3, z3⟩, st3⟩ := Jvm.LawKit.callS X0 hx (y := (⟨"com/example/basewright/basewright/AlphabetWeightedValuesPinLaw", "exp", "(IIIIIJ)J"⟩ : MethodName)) hown (mvT hZ (hw _ (List.mem_of_getElem? (i := 91) rfl))) (mvT hZ (hw _ (List.mem_of_getElem? (i := 92) rfl))) (mvT hZ (hw _ (List.mem_of_getElem? (i := 93) rfl))) (mvT hZ (hw _ (List.mem_of_getElem? (i := 94) rfl))) (by decide) (backOf (W := 2) (rm30 l Z a0 hw [] c0 nx c0 c1 c2 (if kx = (0 : Int32) then w0 else w1)  h0 n0 Z0 ) hZ (hw _ (List.mem_of_getElem? (i := 94) rfl)) (hw _ (List.mem_of_getElem? (i := 93) rfl)) (by decide) (by decide)) (g := (mkF m 309 #[vI p1, vI p2, vI p3, vJ q4, vS, vJ q5, vS, vI p6, vI nx, vI mx, vI kx, vI px, vI c0, vI off, vI c1, vI dx, vI c2, vJ w0, vS, vJ w1, vS, vR ba, vR bw, vR bA, vR ps, .val (.long (if kx = (0 : Int32) then w0 else w1)), vS, .val (.int (kx <<< ((8 : Int32) &&& 31))), vU, vU, vU, vU, vU] [(.long (if kx = (0 : Int32) then w0 else w1)), (.int c2), (.int c1), (.int c0), (.int nx), (.int c0), (.long (own_wv (own_vf (own_l3 c0 c1 c2) kn) (own_w2 w0 w1) (((kx <<< ((8 : Int32) &&& 31)) ||| c0)).toNatClampNeg))])) rfl (by rw [hml]; rfl) (argsL := [(.int c0), (.int nx), (.int c0), (.int c1), (.int c2), (.long (if kx = (0 : Int32) then w0 else w1))]) (rest := [(.long (own_wv (own_vf (own_l3 c0 c1 c2) kn) (own_w2 w0 w1) (((kx <<< ((8 : Int32) &&& 31)) ||| c0)).toNatClampNeg))]) (lenOf pd_10 rfl) rfl (by show 2 * 0 + _ ≤ _; exact Nat.le_of_eq rfl) (hb hby at_309) (fun _ _ => ⟨rfl, e0, hcl, hsl⟩)
  dsimp only [Pt.U, Pt.locs, Pt.cells, Pt.slots] at X3 l3 y3 z3 st3 hQ3
  subst l3 y3 z3
  obtain ⟨rfl, N3q, e3⟩ := hQ3
  have N3 := Fr.app N0 N3q
  have P4 : ∀ t, Steps p.tables e below (T3.setTop (mkF m 312 #[vI p1, vI p2, vI p3, vJ q4, vS, vJ q5, vS, vI p6, vI nx, vI mx, vI kx, vI px, vI c0, vI off, vI c1, vI dx, vI c2, vJ w0, vS, vJ w1, vS, vR ba, vR bw, vR bA, vR ps, .val (.long (if kx = (0 : Int32) then w0 else w1)), vS, .val (.int (kx <<< ((8 : Int32) &&& 31))), vU, vU, vU, vU, vU] [(.long (own_ex c0 nx c0 c1 c2 (if kx = (0 : Int32) then w0 else w1))), (.long (own_wv (own_vf (own_l3 c0 c1 c2) kn) (own_w2 w0 w1) (((kx <<< ((8 : Int32) &&& 31)) ||| c0)).toNatClampNeg))])) t → Steps p.tables e below (T.setTop (mkF m 254 #[vI p1, vI p2, vI p3, vJ q4, vS, vJ q5, vS, vI p6, vI nx, vI mx, vI kx, vI px, vI c0, vI off, vI c1, vI dx, vI c2, vJ w0, vS, vJ w1, vS, vR ba, vR bw, vR bA, vR ps, vU, vU, vU, vU, vU, vU, vU, vU] [])) t := fun t k => P2 _ (st3 _ k)
  have P5 : ∀ t, Steps p.tables e below (T3.setTop (mkF m 336 #[vI p1, vI p2, vI p3, vJ q4, vS, vJ q5, vS, vI p6, vI nx, vI mx, vI kx, vI px, vI c0, vI off, vI c1, vI dx, vI c2, vJ w0, vS, vJ w1, vS, vR ba, vR bw, vR bA, vR ps, .val (.long (if kx = (0 : Int32) then w0 else w1)), vS, .val (.int (kx <<< ((8 : Int32) &&& 31))), vU, vU, vU, vU, vU] [(.long (if kx = (0 : Int32) then w0 else w1)), (.int c2), (.int c1), (.int c0), (.int nx), (.int c1), (.long (own_wv (own_vf (own_l3 c0 c1 c2) kn) (own_w2 w0 w1) (((kx <<< ((8 : Int32) &&& 31)) ||| c1)).toNatClampNeg))])) t → Steps p.tables e below (T.setTop (mkF m 254 #[vI p1, vI p2, vI p3, vJ q4, vS, vJ q5, vS, vI p6, vI nx, vI mx, vI kx, vI px, vI c0, vI off, vI c1, vI dx, vI c2, vJ w0, vS, vJ w1, vS, vR ba, vR bw, vR bA, vR ps, vU, vU, vU, vU, vU, vU, vU, vU] [])) t := by
    intro t k
    refine P4 _ ?_
    refine XT.lcmp X3.here hx rfl (hb hby at_312) rfl ?_
    show Steps p.tables e below (T3.setTop (mkF m 313 #[vI p1, vI p2, vI p3, vJ q4, vS, vJ q5, vS, vI p6, vI nx, vI mx, vI kx, vI px, vI c0, vI off, vI c1, vI dx, vI c2, vJ w0, vS, vJ w1, vS, vR ba, vR bw, vR bA, vR ps, .val (.long (if kx = (0 : Int32) then w0 else w1)), vS, .val (.int (kx <<< ((8 : Int32) &&& 31))), vU, vU, vU, vU, vU] [(.int (XT.cmpL (own_wv (own_vf (own_l3 c0 c1 c2) kn) (own_w2 w0 w1) (((kx <<< ((8 : Int32) &&& 31)) ||| c0)).toNatClampNeg) (own_ex c0 nx c0 c1 c2 (if kx = (0 : Int32) then w0 else w1))))])) _
    refine XS.ifNo X3.here hx rfl (hb hby at_313) rfl (XT.ll_ne_f (own_pl (k := kn) hk3 hnn kc0 kc1 kc2 hne3 (own_cr kc0) (own_ixc hkk hk1 (own_cr kc0)) hwk2)) ?_
    show Steps p.tables e below (T3.setTop (mkF m 316 #[vI p1, vI p2, vI p3, vJ q4, vS, vJ q5, vS, vI p6, vI nx, vI mx, vI kx, vI px, vI c0, vI off, vI c1, vI dx, vI c2, vJ w0, vS, vJ w1, vS, vR ba, vR bw, vR bA, vR ps, .val (.long (if kx = (0 : Int32) then w0 else w1)), vS, .val (.int (kx <<< ((8 : Int32) &&& 31))), vU, vU, vU, vU, vU] [])) _
    refine XS.aload X3.here hx rfl (hb hby at_316) rfl rfl ?_
    show Steps p.tables e below (T3.setTop (mkF m 318 #[vI p1, vI p2, vI p3, vJ q4, vS, vJ q5, vS, vI p6, vI nx, vI mx, vI kx, vI px, vI c0, vI off, vI c1, vI dx, vI c2, vJ w0, vS, vJ w1, vS, vR ba, vR bw, vR bA, vR ps, .val (.long (if kx = (0 : Int32) then w0 else w1)), vS, .val (.int (kx <<< ((8 : Int32) &&& 31))), vU, vU, vU, vU, vU] [(.ref ps)])) _
    refine XS.iload X3.here hx rfl (hb hby at_318) rfl ?_
    show Steps p.tables e below (T3.setTop (mkF m 320 #[vI p1, vI p2, vI p3, vJ q4, vS, vJ q5, vS, vI p6, vI nx, vI mx, vI kx, vI px, vI c0, vI off, vI c1, vI dx, vI c2, vJ w0, vS, vJ w1, vS, vR ba, vR bw, vR bA, vR ps, .val (.long (if kx = (0 : Int32) then w0 else w1)), vS, .val (.int (kx <<< ((8 : Int32) &&& 31))), vU, vU, vU, vU, vU] [(.int (kx <<< ((8 : Int32) &&& 31))), (.ref ps)])) _
    refine XS.iload X3.here hx rfl (hb hby at_320) rfl ?_
    show Steps p.tables e below (T3.setTop (mkF m 322 #[vI p1, vI p2, vI p3, vJ q4, vS, vJ q5, vS, vI p6, vI nx, vI mx, vI kx, vI px, vI c0, vI off, vI c1, vI dx, vI c2, vJ w0, vS, vJ w1, vS, vR ba, vR bw, vR bA, vR ps, .val (.long (if kx = (0 : Int32) then w0 else w1)), vS, .val (.int (kx <<< ((8 : Int32) &&& 31))), vU, vU, vU, vU, vU] [(.int c1), (.int (kx <<< ((8 : Int32) &&& 31))), (.ref ps)])) _
    refine XT.ior X3.here hx rfl (hb hby at_322) rfl ?_
    show Steps p.tables e below (T3.setTop (mkF m 323 #[vI p1, vI p2, vI p3, vJ q4, vS, vJ q5, vS, vI p6, vI nx, vI mx, vI kx, vI px, vI c0, vI off, vI c1, vI dx, vI c2, vJ w0, vS, vJ w1, vS, vR ba, vR bw, vR bA, vR ps, .val (.long (if kx = (0 : Int32) then w0 else w1)), vS, .val (.int (kx <<< ((8 : Int32) &&& 31))), vU, vU, vU, vU, vU] [(.int ((kx <<< ((8 : Int32) &&& 31)) ||| c1)), (.ref ps)])) _
    refine own_flal X3 hx hZ e3 A_t (own_hin (mm := mm) hkk hkm hm2 (own_cr kc1) hq24) (v := (.long (own_wv (own_vf (own_l3 c0 c1 c2) kn) (own_w2 w0 w1) (((kx <<< ((8 : Int32) &&& 31)) ||| c1)).toNatClampNeg))) rfl rfl rfl (hb hby at_323) ?_
    show Steps p.tables e below (T3.setTop (mkF m 324 #[vI p1, vI p2, vI p3, vJ q4, vS, vJ q5, vS, vI p6, vI nx, vI mx, vI kx, vI px, vI c0, vI off, vI c1, vI dx, vI c2, vJ w0, vS, vJ w1, vS, vR ba, vR bw, vR bA, vR ps, .val (.long (if kx = (0 : Int32) then w0 else w1)), vS, .val (.int (kx <<< ((8 : Int32) &&& 31))), vU, vU, vU, vU, vU] [(.long (own_wv (own_vf (own_l3 c0 c1 c2) kn) (own_w2 w0 w1) (((kx <<< ((8 : Int32) &&& 31)) ||| c1)).toNatClampNeg))])) _
    refine XS.iload X3.here hx rfl (hb hby at_324) rfl ?_
    show Steps p.tables e below (T3.setTop (mkF m 326 #[vI p1, vI p2, vI p3, vJ q4, vS, vJ q5, vS, vI p6, vI nx, vI mx, vI kx, vI px, vI c0, vI off, vI c1, vI dx, vI c2, vJ w0, vS, vJ w1, vS, vR ba, vR bw, vR bA, vR ps, .val (.long (if kx = (0 : Int32) then w0 else w1)), vS, .val (.int (kx <<< ((8 : Int32) &&& 31))), vU, vU, vU, vU, vU] [(.int c1), (.long (own_wv (own_vf (own_l3 c0 c1 c2) kn) (own_w2 w0 w1) (((kx <<< ((8 : Int32) &&& 31)) ||| c1)).toNatClampNeg))])) _
    refine XS.iload X3.here hx rfl (hb hby at_326) rfl ?_
    show Steps p.tables e below (T3.setTop (mkF m 328 #[vI p1, vI p2, vI p3, vJ q4, vS, vJ q5, vS, vI p6, vI nx, vI mx, vI kx, vI px, vI c0, vI off, vI c1, vI dx, vI c2, vJ w0, vS, vJ w1, vS, vR ba, vR bw, vR bA, vR ps, .val (.long (if kx = (0 : Int32) then w0 else w1)), vS, .val (.int (kx <<< ((8 : Int32) &&& 31))), vU, vU, vU, vU, vU] [(.int nx), (.int c1), (.long (own_wv (own_vf (own_l3 c0 c1 c2) kn) (own_w2 w0 w1) (((kx <<< ((8 : Int32) &&& 31)) ||| c1)).toNatClampNeg))])) _
    refine XS.iload X3.here hx rfl (hb hby at_328) rfl ?_
    show Steps p.tables e below (T3.setTop (mkF m 330 #[vI p1, vI p2, vI p3, vJ q4, vS, vJ q5, vS, vI p6, vI nx, vI mx, vI kx, vI px, vI c0, vI off, vI c1, vI dx, vI c2, vJ w0, vS, vJ w1, vS, vR ba, vR bw, vR bA, vR ps, .val (.long (if kx = (0 : Int32) then w0 else w1)), vS, .val (.int (kx <<< ((8 : Int32) &&& 31))), vU, vU, vU, vU, vU] [(.int c0), (.int nx), (.int c1), (.long (own_wv (own_vf (own_l3 c0 c1 c2) kn) (own_w2 w0 w1) (((kx <<< ((8 : Int32) &&& 31)) ||| c1)).toNatClampNeg))])) _
    refine XS.iload X3.here hx rfl (hb hby at_330) rfl ?_
    show Steps p.tables e below (T3.setTop (mkF m 332 #[vI p1, vI p2, vI p3, vJ q4, vS, vJ q5, vS, vI p6, vI nx, vI mx, vI kx, vI px, vI c0, vI off, vI c1, vI dx, vI c2, vJ w0, vS, vJ w1, vS, vR ba, vR bw, vR bA, vR ps, .val (.long (if kx = (0 : Int32) then w0 else w1)), vS, .val (.int (kx <<< ((8 : Int32) &&& 31))), vU, vU, vU, vU, vU] [(.int c1), (.int c0), (.int nx), (.int c1), (.long (own_wv (own_vf (own_l3 c0 c1 c2) kn) (own_w2 w0 w1) (((kx <<< ((8 : Int32) &&& 31)) ||| c1)).toNatClampNeg))])) _
    refine XS.iload X3.here hx rfl (hb hby at_332) rfl ?_
    show Steps p.tables e below (T3.setTop (mkF m 334 #[vI p1, vI p2, vI p3, vJ q4, vS, vJ q5, vS, vI p6, vI nx, vI mx, vI kx, vI px, vI c0, vI off, vI c1, vI dx, vI c2, vJ w0, vS, vJ w1, vS, vR ba, vR bw, vR bA, vR ps, .val (.long (if kx = (0 : Int32) then w0 else w1)), vS, .val (.int (kx <<< ((8 : Int32) &&& 31))), vU, vU, vU, vU, vU] [(.int c2), (.int c1), (.int c0), (.int nx), (.int c1), (.long (own_wv (own_vf (own_l3 c0 c1 c2) kn) (own_w2 w0 w1) (((kx <<< ((8 : Int32) &&& 31)) ||| c1)).toNatClampNeg))])) _
    refine XT.lload X3.here hx rfl (hb hby at_334) rfl ?_
    show Steps p.tables e below (T3.setTop (mkF m 336 #[vI p1, vI p2, vI p3, vJ q4, vS, vJ q5, vS, vI p6, vI nx, vI mx, vI kx, vI px, vI c0, vI off, vI c1, vI dx, vI c2, vJ w0, vS, vJ w1, vS, vR ba, vR bw, vR bA, vR ps, .val (.long (if kx = (0 : Int32) then w0 else w1)), vS, .val (.int (kx <<< ((8 : Int32) &&& 31))), vU, vU, vU, vU, vU] [(.long (if kx = (0 : Int32) then w0 else w1)), (.int c2), (.int c1), (.int c0), (.int nx), (.int c1), (.long (own_wv (own_vf (own_l3 c0 c1 c2) kn) (own_w2 w0 w1) (((kx <<< ((8 : Int32) &&& 31)) ||| c1)).toNatClampNeg))])) _
    exact k
  obtain ⟨_, _, ⟨T6, L6, k6, n6⟩, -, X6, ⟨Lc6, hQ6, l6, y6, z6⟩, st6⟩ := Jvm.LawKit.callS X3 hx (y := (⟨"com/example/basewright/basewright/AlphabetWeightedValuesPinLaw", "exp", "(IIIIIJ)J"⟩ : MethodName)) hown (mvT hZ (hw _ (List.mem_of_getElem? (i := 91) rfl))) (mvT hZ (hw _ (List.mem_of_getElem? (i := 92) rfl))) (mvT hZ (hw _ (List.mem_of_getElem? (i := 93) rfl))) (mvT hZ (hw _ (List.mem_of_getElem? (i := 94) rfl))) (by decide) (backOf (W := 2) (rm30 l Z a0 hw [] c1 nx c0 c1 c2 (if kx = (0 : Int32) then w0 else w1)  h0 n0 Z0 ) hZ (hw _ (List.mem_of_getElem? (i := 94) rfl)) (hw _ (List.mem_of_getElem? (i := 93) rfl)) (by decide) (by decide)) (g := (mkF m 336 #[vI p1, vI p2, vI p3, vJ q4, vS, vJ q5, vS, vI p6, vI nx, vI mx, vI kx, vI px, vI c0, vI off, vI c1, vI dx, vI c2, vJ w0, vS, vJ w1, vS, vR ba, vR bw, vR bA, vR ps, .val (.long (if kx = (0 : Int32) then w0 else w1)), vS, .val (.int (kx <<< ((8 : Int32) &&& 31))), vU, vU, vU, vU, vU] [(.long (if kx = (0 : Int32) then w0 else w1)), (.int c2), (.int c1), (.int c0), (.int nx), (.int c1), (.long (own_wv (own_vf (own_l3 c0 c1 c2) kn) (own_w2 w0 w1) (((kx <<< ((8 : Int32) &&& 31)) ||| c1)).toNatClampNeg))])) rfl (by rw [hml]; rfl) (argsL := [(.int c1), (.int nx), (.int c0), (.int c1), (.int c2), (.long (if kx = (0 : Int32) then w0 else w1))]) (rest := [(.long (own_wv (own_vf (own_l3 c0 c1 c2) kn) (own_w2 w0 w1) (((kx <<< ((8 : Int32) &&& 31)) ||| c1)).toNatClampNeg))]) (lenOf pd_10 rfl) rfl (by show 2 * 0 + _ ≤ _; exact Nat.le_of_eq rfl) (hb hby at_336) (fun _ _ => ⟨rfl, e3, hcl, hsl⟩)
  dsimp only [Pt.U, Pt.locs, Pt.cells, Pt.slots] at X6 l6 y6 z6 st6 hQ6
  subst l6 y6 z6
  obtain ⟨rfl, N6q, e6⟩ := hQ6
  have N6 := Fr.app N3 N6q
  have P7 : ∀ t, Steps p.tables e below (T6.setTop (mkF m 339 #[vI p1, vI p2, vI p3, vJ q4, vS, vJ q5, vS, vI p6, vI nx, vI mx, vI kx, vI px, vI c0, vI off, vI c1, vI dx, vI c2, vJ w0, vS, vJ w1, vS, vR ba, vR bw, vR bA, vR ps, .val (.long (if kx = (0 : Int32) then w0 else w1)), vS, .val (.int (kx <<< ((8 : Int32) &&& 31))), vU, vU, vU, vU, vU] [(.long (own_ex c1 nx c0 c1 c2 (if kx = (0 : Int32) then w0 else w1))), (.long (own_wv (own_vf (own_l3 c0 c1 c2) kn) (own_w2 w0 w1) (((kx <<< ((8 : Int32) &&& 31)) ||| c1)).toNatClampNeg))])) t → Steps p.tables e below (T.setTop (mkF m 254 #[vI p1, vI p2, vI p3, vJ q4, vS, vJ q5, vS, vI p6, vI nx, vI mx, vI kx, vI px, vI c0, vI off, vI c1, vI dx, vI c2, vJ w0, vS, vJ w1, vS, vR ba, vR bw, vR bA, vR ps, vU, vU, vU, vU, vU, vU, vU, vU] [])) t := fun t k => P5 _ (st6 _ k)
  have P8 : ∀ t, Steps p.tables e below (T6.setTop (mkF m 363 #[vI p1, vI p2, vI p3, vJ q4, vS, vJ q5, vS, vI p6, vI nx, vI mx, vI kx, vI px, vI c0, vI off, vI c1, vI dx, vI c2, vJ w0, vS, vJ w1, vS, vR ba, vR bw, vR bA, vR ps, .val (.long (if kx = (0 : Int32) then w0 else w1)), vS, .val (.int (kx <<< ((8 : Int32) &&& 31))), vU, vU, vU, vU, vU] [(.long (if kx = (0 : Int32) then w0 else w1)), (.int c2), (.int c1), (.int c0), (.int nx), (.int c2), (.long (own_wv (own_vf (own_l3 c0 c1 c2) kn) (own_w2 w0 w1) (((kx <<< ((8 : Int32) &&& 31)) ||| c2)).toNatClampNeg))])) t → Steps p.tables e below (T.setTop (mkF m 254 #[vI p1, vI p2, vI p3, vJ q4, vS, vJ q5, vS, vI p6, vI nx, vI mx, vI kx, vI px, vI c0, vI off, vI c1, vI dx, vI c2, vJ w0, vS, vJ w1, vS, vR ba, vR bw, vR bA, vR ps, vU, vU, vU, vU, vU, vU, vU, vU] [])) t := by
    intro t k
    refine P7 _ ?_
    refine XT.lcmp X6.here hx rfl (hb hby at_339) rfl ?_
    show Steps p.tables e below (T6.setTop (mkF m 340 #[vI p1, vI p2, vI p3, vJ q4, vS, vJ q5, vS, vI p6, vI nx, vI mx, vI kx, vI px, vI c0, vI off, vI c1, vI dx, vI c2, vJ w0, vS, vJ w1, vS, vR ba, vR bw, vR bA, vR ps, .val (.long (if kx = (0 : Int32) then w0 else w1)), vS, .val (.int (kx <<< ((8 : Int32) &&& 31))), vU, vU, vU, vU, vU] [(.int (XT.cmpL (own_wv (own_vf (own_l3 c0 c1 c2) kn) (own_w2 w0 w1) (((kx <<< ((8 : Int32) &&& 31)) ||| c1)).toNatClampNeg) (own_ex c1 nx c0 c1 c2 (if kx = (0 : Int32) then w0 else w1))))])) _
    refine XS.ifNo X6.here hx rfl (hb hby at_340) rfl (XT.ll_ne_f (own_pl (k := kn) hk3 hnn kc0 kc1 kc2 hne3 (own_cr kc1) (own_ixc hkk hk1 (own_cr kc1)) hwk2)) ?_
    show Steps p.tables e below (T6.setTop (mkF m 343 #[vI p1, vI p2, vI p3, vJ q4, vS, vJ q5, vS, vI p6, vI nx, vI mx, vI kx, vI px, vI c0, vI off, vI c1, vI dx, vI c2, vJ w0, vS, vJ w1, vS, vR ba, vR bw, vR bA, vR ps, .val (.long (if kx = (0 : Int32) then w0 else w1)), vS, .val (.int (kx <<< ((8 : Int32) &&& 31))), vU, vU, vU, vU, vU] [])) _
    refine XS.aload X6.here hx rfl (hb hby at_343) rfl rfl ?_
    show Steps p.tables e below (T6.setTop (mkF m 345 #[vI p1, vI p2, vI p3, vJ q4, vS, vJ q5, vS, vI p6, vI nx, vI mx, vI kx, vI px, vI c0, vI off, vI c1, vI dx, vI c2, vJ w0, vS, vJ w1, vS, vR ba, vR bw, vR bA, vR ps, .val (.long (if kx = (0 : Int32) then w0 else w1)), vS, .val (.int (kx <<< ((8 : Int32) &&& 31))), vU, vU, vU, vU, vU] [(.ref ps)])) _
    refine XS.iload X6.here hx rfl (hb hby at_345) rfl ?_
    show Steps p.tables e below (T6.setTop (mkF m 347 #[vI p1, vI p2, vI p3, vJ q4, vS, vJ q5, vS, vI p6, vI nx, vI mx, vI kx, vI px, vI c0, vI off, vI c1, vI dx, vI c2, vJ w0, vS, vJ w1, vS, vR ba, vR bw, vR bA, vR ps, .val (.long (if kx = (0 : Int32) then w0 else w1)), vS, .val (.int (kx <<< ((8 : Int32) &&& 31))), vU, vU, vU, vU, vU] [(.int (kx <<< ((8 : Int32) &&& 31))), (.ref ps)])) _
    refine XS.iload X6.here hx rfl (hb hby at_347) rfl ?_
    show Steps p.tables e below (T6.setTop (mkF m 349 #[vI p1, vI p2, vI p3, vJ q4, vS, vJ q5, vS, vI p6, vI nx, vI mx, vI kx, vI px, vI c0, vI off, vI c1, vI dx, vI c2, vJ w0, vS, vJ w1, vS, vR ba, vR bw, vR bA, vR ps, .val (.long (if kx = (0 : Int32) then w0 else w1)), vS, .val (.int (kx <<< ((8 : Int32) &&& 31))), vU, vU, vU, vU, vU] [(.int c2), (.int (kx <<< ((8 : Int32) &&& 31))), (.ref ps)])) _
    refine XT.ior X6.here hx rfl (hb hby at_349) rfl ?_
    show Steps p.tables e below (T6.setTop (mkF m 350 #[vI p1, vI p2, vI p3, vJ q4, vS, vJ q5, vS, vI p6, vI nx, vI mx, vI kx, vI px, vI c0, vI off, vI c1, vI dx, vI c2, vJ w0, vS, vJ w1, vS, vR ba, vR bw, vR bA, vR ps, .val (.long (if kx = (0 : Int32) then w0 else w1)), vS, .val (.int (kx <<< ((8 : Int32) &&& 31))), vU, vU, vU, vU, vU] [(.int ((kx <<< ((8 : Int32) &&& 31)) ||| c2)), (.ref ps)])) _
    refine own_flal X6 hx hZ e6 A_t (own_hin (mm := mm) hkk hkm hm2 (own_cr kc2) hq24) (v := (.long (own_wv (own_vf (own_l3 c0 c1 c2) kn) (own_w2 w0 w1) (((kx <<< ((8 : Int32) &&& 31)) ||| c2)).toNatClampNeg))) rfl rfl rfl (hb hby at_350) ?_
    show Steps p.tables e below (T6.setTop (mkF m 351 #[vI p1, vI p2, vI p3, vJ q4, vS, vJ q5, vS, vI p6, vI nx, vI mx, vI kx, vI px, vI c0, vI off, vI c1, vI dx, vI c2, vJ w0, vS, vJ w1, vS, vR ba, vR bw, vR bA, vR ps, .val (.long (if kx = (0 : Int32) then w0 else w1)), vS, .val (.int (kx <<< ((8 : Int32) &&& 31))), vU, vU, vU, vU, vU] [(.long (own_wv (own_vf (own_l3 c0 c1 c2) kn) (own_w2 w0 w1) (((kx <<< ((8 : Int32) &&& 31)) ||| c2)).toNatClampNeg))])) _
    refine XS.iload X6.here hx rfl (hb hby at_351) rfl ?_
    show Steps p.tables e below (T6.setTop (mkF m 353 #[vI p1, vI p2, vI p3, vJ q4, vS, vJ q5, vS, vI p6, vI nx, vI mx, vI kx, vI px, vI c0, vI off, vI c1, vI dx, vI c2, vJ w0, vS, vJ w1, vS, vR ba, vR bw, vR bA, vR ps, .val (.long (if kx = (0 : Int32) then w0 else w1)), vS, .val (.int (kx <<< ((8 : Int32) &&& 31))), vU, vU, vU, vU, vU] [(.int c2), (.long (own_wv (own_vf (own_l3 c0 c1 c2) kn) (own_w2 w0 w1) (((kx <<< ((8 : Int32) &&& 31)) ||| c2)).toNatClampNeg))])) _
    refine XS.iload X6.here hx rfl (hb hby at_353) rfl ?_
    show Steps p.tables e below (T6.setTop (mkF m 355 #[vI p1, vI p2, vI p3, vJ q4, vS, vJ q5, vS, vI p6, vI nx, vI mx, vI kx, vI px, vI c0, vI off, vI c1, vI dx, vI c2, vJ w0, vS, vJ w1, vS, vR ba, vR bw, vR bA, vR ps, .val (.long (if kx = (0 : Int32) then w0 else w1)), vS, .val (.int (kx <<< ((8 : Int32) &&& 31))), vU, vU, vU, vU, vU] [(.int nx), (.int c2), (.long (own_wv (own_vf (own_l3 c0 c1 c2) kn) (own_w2 w0 w1) (((kx <<< ((8 : Int32) &&& 31)) ||| c2)).toNatClampNeg))])) _
    refine XS.iload X6.here hx rfl (hb hby at_355) rfl ?_
    show Steps p.tables e below (T6.setTop (mkF m 357 #[vI p1, vI p2, vI p3, vJ q4, vS, vJ q5, vS, vI p6, vI nx, vI mx, vI kx, vI px, vI c0, vI off, vI c1, vI dx, vI c2, vJ w0, vS, vJ w1, vS, vR ba, vR bw, vR bA, vR ps, .val (.long (if kx = (0 : Int32) then w0 else w1)), vS, .val (.int (kx <<< ((8 : Int32) &&& 31))), vU, vU, vU, vU, vU] [(.int c0), (.int nx), (.int c2), (.long (own_wv (own_vf (own_l3 c0 c1 c2) kn) (own_w2 w0 w1) (((kx <<< ((8 : Int32) &&& 31)) ||| c2)).toNatClampNeg))])) _
    refine XS.iload X6.here hx rfl (hb hby at_357) rfl ?_
    show Steps p.tables e below (T6.setTop (mkF m 359 #[vI p1, vI p2, vI p3, vJ q4, vS, vJ q5, vS, vI p6, vI nx, vI mx, vI kx, vI px, vI c0, vI off, vI c1, vI dx, vI c2, vJ w0, vS, vJ w1, vS, vR ba, vR bw, vR bA, vR ps, .val (.long (if kx = (0 : Int32) then w0 else w1)), vS, .val (.int (kx <<< ((8 : Int32) &&& 31))), vU, vU, vU, vU, vU] [(.int c1), (.int c0), (.int nx), (.int c2), (.long (own_wv (own_vf (own_l3 c0 c1 c2) kn) (own_w2 w0 w1) (((kx <<< ((8 : Int32) &&& 31)) ||| c2)).toNatClampNeg))])) _
    refine XS.iload X6.here hx rfl (hb hby at_359) rfl ?_
    show Steps p.tables e below (T6.setTop (mkF m 361 #[vI p1, vI p2, vI p3, vJ q4, vS, vJ q5, vS, vI p6, vI nx, vI mx, vI kx, vI px, vI c0, vI off, vI c1, vI dx, vI c2, vJ w0, vS, vJ w1, vS, vR ba, vR bw, vR bA, vR ps, .val (.long (if kx = (0 : Int32) then w0 else w1)), vS, .val (.int (kx <<< ((8 : Int32) &&& 31))), vU, vU, vU, vU, vU] [(.int c2), (.int c1), (.int c0), (.int nx), (.int c2), (.long (own_wv (own_vf (own_l3 c0 c1 c2) kn) (own_w2 w0 w1) (((kx <<< ((8 : Int32) &&& 31)) ||| c2)).toNatClampNeg))])) _
    refine XT.lload X6.here hx rfl (hb hby at_361) rfl ?_
    show Steps p.tables e below (T6.setTop (mkF m 363 #[vI p1, vI p2, vI p3, vJ q4, vS, vJ q5, vS, vI p6, vI nx, vI mx, vI kx, vI px, vI c0, vI off, vI c1, vI dx, vI c2, vJ w0, vS, vJ w1, vS, vR ba, vR bw, vR bA, vR ps, .val (.long (if kx = (0 : Int32) then w0 else w1)), vS, .val (.int (kx <<< ((8 : Int32) &&& 31))), vU, vU, vU, vU, vU] [(.long (if kx = (0 : Int32) then w0 else w1)), (.int c2), (.int c1), (.int c0), (.int nx), (.int c2), (.long (own_wv (own_vf (own_l3 c0 c1 c2) kn) (own_w2 w0 w1) (((kx <<< ((8 : Int32) &&& 31)) ||| c2)).toNatClampNeg))])) _
    exact k
  obtain ⟨_, _, ⟨T9, L9, k9, n9⟩, -, X9, ⟨Lc9, hQ9, l9, y9, z9⟩, st9⟩ := Jvm.LawKit.callS X6 hx (y := (⟨"com/example/basewright/basewright/AlphabetWeightedValuesPinLaw", "exp", "(IIIIIJ)J"⟩ : MethodName)) hown (mvT hZ (hw _ (List.mem_of_getElem? (i := 91) rfl))) (mvT hZ (hw _ (List.mem_of_getElem? (i := 92) rfl))) (mvT hZ (hw _ (List.mem_of_getElem? (i := 93) rfl))) (mvT hZ (hw _ (List.mem_of_getElem? (i := 94) rfl))) (by decide) (backOf (W := 2) (rm30 l Z a0 hw [] c2 nx c0 c1 c2 (if kx = (0 : Int32) then w0 else w1)  h0 n0 Z0 ) hZ (hw _ (List.mem_of_getElem? (i := 94) rfl)) (hw _ (List.mem_of_getElem? (i := 93) rfl)) (by decide) (by decide)) (g := (mkF m 363 #[vI p1, vI p2, vI p3, vJ q4, vS, vJ q5, vS, vI p6, vI nx, vI mx, vI kx, vI px, vI c0, vI off, vI c1, vI dx, vI c2, vJ w0, vS, vJ w1, vS, vR ba, vR bw, vR bA, vR ps, .val (.long (if kx = (0 : Int32) then w0 else w1)), vS, .val (.int (kx <<< ((8 : Int32) &&& 31))), vU, vU, vU, vU, vU] [(.long (if kx = (0 : Int32) then w0 else w1)), (.int c2), (.int c1), (.int c0), (.int nx), (.int c2), (.long (own_wv (own_vf (own_l3 c0 c1 c2) kn) (own_w2 w0 w1) (((kx <<< ((8 : Int32) &&& 31)) ||| c2)).toNatClampNeg))])) rfl (by rw [hml]; rfl) (argsL := [(.int c2), (.int nx), (.int c0), (.int c1), (.int c2), (.long (if kx = (0 : Int32) then w0 else w1))]) (rest := [(.long (own_wv (own_vf (own_l3 c0 c1 c2) kn) (own_w2 w0 w1) (((kx <<< ((8 : Int32) &&& 31)) ||| c2)).toNatClampNeg))]) (lenOf pd_10 rfl) rfl (by show 2 * 0 + _ ≤ _; exact Nat.le_of_eq rfl) (hb hby at_363) (fun _ _ => ⟨rfl, e6, hcl, hsl⟩)
  dsimp only [Pt.U, Pt.locs, Pt.cells, Pt.slots] at X9 l9 y9 z9 st9 hQ9
  subst l9 y9 z9
  obtain ⟨rfl, N9q, e9⟩ := hQ9
  have N9 := Fr.app N6 N9q
  have P10 : ∀ t, Steps p.tables e below (T9.setTop (mkF m 366 #[vI p1, vI p2, vI p3, vJ q4, vS, vJ q5, vS, vI p6, vI nx, vI mx, vI kx, vI px, vI c0, vI off, vI c1, vI dx, vI c2, vJ w0, vS, vJ w1, vS, vR ba, vR bw, vR bA, vR ps, .val (.long (if kx = (0 : Int32) then w0 else w1)), vS, .val (.int (kx <<< ((8 : Int32) &&& 31))), vU, vU, vU, vU, vU] [(.long (own_ex c2 nx c0 c1 c2 (if kx = (0 : Int32) then w0 else w1))), (.long (own_wv (own_vf (own_l3 c0 c1 c2) kn) (own_w2 w0 w1) (((kx <<< ((8 : Int32) &&& 31)) ||| c2)).toNatClampNeg))])) t → Steps p.tables e below (T.setTop (mkF m 254 #[vI p1, vI p2, vI p3, vJ q4, vS, vJ q5, vS, vI p6, vI nx, vI mx, vI kx, vI px, vI c0, vI off, vI c1, vI dx, vI c2, vJ w0, vS, vJ w1, vS, vR ba, vR bw, vR bA, vR ps, vU, vU, vU, vU, vU, vU, vU, vU] [])) t := fun t k => P8 _ (st9 _ k)
  have P11 : ∀ t, Steps p.tables e below (T9.setTop (mkF m 390 #[vI p1, vI p2, vI p3, vJ q4, vS, vJ q5, vS, vI p6, vI nx, vI mx, vI kx, vI px, vI c0, vI off, vI c1, vI dx, vI c2, vJ w0, vS, vJ w1, vS, vR ba, vR bw, vR bA, vR ps, .val (.long (if kx = (0 : Int32) then w0 else w1)), vS, .val (.int (kx <<< ((8 : Int32) &&& 31))), vU, vU, vU, vU, vU] [(.long (if kx = (0 : Int32) then w0 else w1)), (.int c2), (.int c1), (.int c0), (.int nx), (.int px), (.long (own_wv (own_vf (own_l3 c0 c1 c2) kn) (own_w2 w0 w1) (((kx <<< ((8 : Int32) &&& 31)) ||| px)).toNatClampNeg))])) t → Steps p.tables e below (T.setTop (mkF m 254 #[vI p1, vI p2, vI p3, vJ q4, vS, vJ q5, vS, vI p6, vI nx, vI mx, vI kx, vI px, vI c0, vI off, vI c1, vI dx, vI c2, vJ w0, vS, vJ w1, vS, vR ba, vR bw, vR bA, vR ps, vU, vU, vU, vU, vU, vU, vU, vU] [])) t := by
    intro t k
    refine P10 _ ?_
    refine XT.lcmp X9.here hx rfl (hb hby at_366) rfl ?_
    show Steps p.tables e below (T9.setTop (mkF m 367 #[vI p1, vI p2, vI p3, vJ q4, vS, vJ q5, vS, vI p6, vI nx, vI mx, vI kx, vI px, vI c0, vI off, vI c1, vI dx, vI c2, vJ w0, vS, vJ w1, vS, vR ba, vR bw, vR bA, vR ps, .val (.long (if kx = (0 : Int32) then w0 else w1)), vS, .val (.int (kx <<< ((8 : Int32) &&& 31))), vU, vU, vU, vU, vU] [(.int (XT.cmpL (own_wv (own_vf (own_l3 c0 c1 c2) kn) (own_w2 w0 w1) (((kx <<< ((8 : Int32) &&& 31)) ||| c2)).toNatClampNeg) (own_ex c2 nx c0 c1 c2 (if kx = (0 : Int32) then w0 else w1))))])) _
    refine XS.ifNo X9.here hx rfl (hb hby at_367) rfl (XT.ll_ne_f (own_pl (k := kn) hk3 hnn kc0 kc1 kc2 hne3 (own_cr kc2) (own_ixc hkk hk1 (own_cr kc2)) hwk2)) ?_
    show Steps p.tables e below (T9.setTop (mkF m 370 #[vI p1, vI p2, vI p3, vJ q4, vS, vJ q5, vS, vI p6, vI nx, vI mx, vI kx, vI px, vI c0, vI off, vI c1, vI dx, vI c2, vJ w0, vS, vJ w1, vS, vR ba, vR bw, vR bA, vR ps, .val (.long (if kx = (0 : Int32) then w0 else w1)), vS, .val (.int (kx <<< ((8 : Int32) &&& 31))), vU, vU, vU, vU, vU] [])) _
    refine XS.aload X9.here hx rfl (hb hby at_370) rfl rfl ?_
    show Steps p.tables e below (T9.setTop (mkF m 372 #[vI p1, vI p2, vI p3, vJ q4, vS, vJ q5, vS, vI p6, vI nx, vI mx, vI kx, vI px, vI c0, vI off, vI c1, vI dx, vI c2, vJ w0, vS, vJ w1, vS, vR ba, vR bw, vR bA, vR ps, .val (.long (if kx = (0 : Int32) then w0 else w1)), vS, .val (.int (kx <<< ((8 : Int32) &&& 31))), vU, vU, vU, vU, vU] [(.ref ps)])) _
    refine XS.iload X9.here hx rfl (hb hby at_372) rfl ?_
    show Steps p.tables e below (T9.setTop (mkF m 374 #[vI p1, vI p2, vI p3, vJ q4, vS, vJ q5, vS, vI p6, vI nx, vI mx, vI kx, vI px, vI c0, vI off, vI c1, vI dx, vI c2, vJ w0, vS, vJ w1, vS, vR ba, vR bw, vR bA, vR ps, .val (.long (if kx = (0 : Int32) then w0 else w1)), vS, .val (.int (kx <<< ((8 : Int32) &&& 31))), vU, vU, vU, vU, vU] [(.int (kx <<< ((8 : Int32) &&& 31))), (.ref ps)])) _
    refine XS.iload X9.here hx rfl (hb hby at_374) rfl ?_
    show Steps p.tables e below (T9.setTop (mkF m 376 #[vI p1, vI p2, vI p3, vJ q4, vS, vJ q5, vS, vI p6, vI nx, vI mx, vI kx, vI px, vI c0, vI off, vI c1, vI dx, vI c2, vJ w0, vS, vJ w1, vS, vR ba, vR bw, vR bA, vR ps, .val (.long (if kx = (0 : Int32) then w0 else w1)), vS, .val (.int (kx <<< ((8 : Int32) &&& 31))), vU, vU, vU, vU, vU] [(.int px), (.int (kx <<< ((8 : Int32) &&& 31))), (.ref ps)])) _
    refine XT.ior X9.here hx rfl (hb hby at_376) rfl ?_
    show Steps p.tables e below (T9.setTop (mkF m 377 #[vI p1, vI p2, vI p3, vJ q4, vS, vJ q5, vS, vI p6, vI nx, vI mx, vI kx, vI px, vI c0, vI off, vI c1, vI dx, vI c2, vJ w0, vS, vJ w1, vS, vR ba, vR bw, vR bA, vR ps, .val (.long (if kx = (0 : Int32) then w0 else w1)), vS, .val (.int (kx <<< ((8 : Int32) &&& 31))), vU, vU, vU, vU, vU] [(.int ((kx <<< ((8 : Int32) &&& 31)) ||| px)), (.ref ps)])) _
    refine own_flal X9 hx hZ e9 A_t (own_hin (mm := mm) hkk hkm hm2 kpx hq24) (v := (.long (own_wv (own_vf (own_l3 c0 c1 c2) kn) (own_w2 w0 w1) (((kx <<< ((8 : Int32) &&& 31)) ||| px)).toNatClampNeg))) rfl rfl rfl (hb hby at_377) ?_
    show Steps p.tables e below (T9.setTop (mkF m 378 #[vI p1, vI p2, vI p3, vJ q4, vS, vJ q5, vS, vI p6, vI nx, vI mx, vI kx, vI px, vI c0, vI off, vI c1, vI dx, vI c2, vJ w0, vS, vJ w1, vS, vR ba, vR bw, vR bA, vR ps, .val (.long (if kx = (0 : Int32) then w0 else w1)), vS, .val (.int (kx <<< ((8 : Int32) &&& 31))), vU, vU, vU, vU, vU] [(.long (own_wv (own_vf (own_l3 c0 c1 c2) kn) (own_w2 w0 w1) (((kx <<< ((8 : Int32) &&& 31)) ||| px)).toNatClampNeg))])) _
    refine XS.iload X9.here hx rfl (hb hby at_378) rfl ?_
    show Steps p.tables e below (T9.setTop (mkF m 380 #[vI p1, vI p2, vI p3, vJ q4, vS, vJ q5, vS, vI p6, vI nx, vI mx, vI kx, vI px, vI c0, vI off, vI c1, vI dx, vI c2, vJ w0, vS, vJ w1, vS, vR ba, vR bw, vR bA, vR ps, .val (.long (if kx = (0 : Int32) then w0 else w1)), vS, .val (.int (kx <<< ((8 : Int32) &&& 31))), vU, vU, vU, vU, vU] [(.int px), (.long (own_wv (own_vf (own_l3 c0 c1 c2) kn) (own_w2 w0 w1) (((kx <<< ((8 : Int32) &&& 31)) ||| px)).toNatClampNeg))])) _
    refine XS.iload X9.here hx rfl (hb hby at_380) rfl ?_
    show Steps p.tables e below (T9.setTop (mkF m 382 #[vI p1, vI p2, vI p3, vJ q4, vS, vJ q5, vS, vI p6, vI nx, vI mx, vI kx, vI px, vI c0, vI off, vI c1, vI dx, vI c2, vJ w0, vS, vJ w1, vS, vR ba, vR bw, vR bA, vR ps, .val (.long (if kx = (0 : Int32) then w0 else w1)), vS, .val (.int (kx <<< ((8 : Int32) &&& 31))), vU, vU, vU, vU, vU] [(.int nx), (.int px), (.long (own_wv (own_vf (own_l3 c0 c1 c2) kn) (own_w2 w0 w1) (((kx <<< ((8 : Int32) &&& 31)) ||| px)).toNatClampNeg))])) _
    refine XS.iload X9.here hx rfl (hb hby at_382) rfl ?_
    show Steps p.tables e below (T9.setTop (mkF m 384 #[vI p1, vI p2, vI p3, vJ q4, vS, vJ q5, vS, vI p6, vI nx, vI mx, vI kx, vI px, vI c0, vI off, vI c1, vI dx, vI c2, vJ w0, vS, vJ w1, vS, vR ba, vR bw, vR bA, vR ps, .val (.long (if kx = (0 : Int32) then w0 else w1)), vS, .val (.int (kx <<< ((8 : Int32) &&& 31))), vU, vU, vU, vU, vU] [(.int c0), (.int nx), (.int px), (.long (own_wv (own_vf (own_l3 c0 c1 c2) kn) (own_w2 w0 w1) (((kx <<< ((8 : Int32) &&& 31)) ||| px)).toNatClampNeg))])) _
    refine XS.iload X9.here hx rfl (hb hby at_384) rfl ?_
    show Steps p.tables e below (T9.setTop (mkF m 386 #[vI p1, vI p2, vI p3, vJ q4, vS, vJ q5, vS, vI p6, vI nx, vI mx, vI kx, vI px, vI c0, vI off, vI c1, vI dx, vI c2, vJ w0, vS, vJ w1, vS, vR ba, vR bw, vR bA, vR ps, .val (.long (if kx = (0 : Int32) then w0 else w1)), vS, .val (.int (kx <<< ((8 : Int32) &&& 31))), vU, vU, vU, vU, vU] [(.int c1), (.int c0), (.int nx), (.int px), (.long (own_wv (own_vf (own_l3 c0 c1 c2) kn) (own_w2 w0 w1) (((kx <<< ((8 : Int32) &&& 31)) ||| px)).toNatClampNeg))])) _
    refine XS.iload X9.here hx rfl (hb hby at_386) rfl ?_
    show Steps p.tables e below (T9.setTop (mkF m 388 #[vI p1, vI p2, vI p3, vJ q4, vS, vJ q5, vS, vI p6, vI nx, vI mx, vI kx, vI px, vI c0, vI off, vI c1, vI dx, vI c2, vJ w0, vS, vJ w1, vS, vR ba, vR bw, vR bA, vR ps, .val (.long (if kx = (0 : Int32) then w0 else w1)), vS, .val (.int (kx <<< ((8 : Int32) &&& 31))), vU, vU, vU, vU, vU] [(.int c2), (.int c1), (.int c0), (.int nx), (.int px), (.long (own_wv (own_vf (own_l3 c0 c1 c2) kn) (own_w2 w0 w1) (((kx <<< ((8 : Int32) &&& 31)) ||| px)).toNatClampNeg))])) _
    refine XT.lload X9.here hx rfl (hb hby at_388) rfl ?_
    show Steps p.tables e below (T9.setTop (mkF m 390 #[vI p1, vI p2, vI p3, vJ q4, vS, vJ q5, vS, vI p6, vI nx, vI mx, vI kx, vI px, vI c0, vI off, vI c1, vI dx, vI c2, vJ w0, vS, vJ w1, vS, vR ba, vR bw, vR bA, vR ps, .val (.long (if kx = (0 : Int32) then w0 else w1)), vS, .val (.int (kx <<< ((8 : Int32) &&& 31))), vU, vU, vU, vU, vU] [(.long (if kx = (0 : Int32) then w0 else w1)), (.int c2), (.int c1), (.int c0), (.int nx), (.int px), (.long (own_wv (own_vf (own_l3 c0 c1 c2) kn) (own_w2 w0 w1) (((kx <<< ((8 : Int32) &&& 31)) ||| px)).toNatClampNeg))])) _
    exact k
  obtain ⟨_, _, ⟨T12, L12, k12, n12⟩, -, X12, ⟨Lc12, hQ12, l12, y12, z12⟩, st12⟩ := Jvm.LawKit.callS X9 hx (y := (⟨"com/example/basewright/basewright/AlphabetWeightedValuesPinLaw", "exp", "(IIIIIJ)J"⟩ : MethodName)) hown (mvT hZ (hw _ (List.mem_of_getElem? (i := 91) rfl))) (mvT hZ (hw _ (List.mem_of_getElem? (i := 92) rfl))) (mvT hZ (hw _ (List.mem_of_getElem? (i := 93) rfl))) (mvT hZ (hw _ (List.mem_of_getElem? (i := 94) rfl))) (by decide) (backOf (W := 2) (rm30 l Z a0 hw [] px nx c0 c1 c2 (if kx = (0 : Int32) then w0 else w1)  h0 n0 Z0 ) hZ (hw _ (List.mem_of_getElem? (i := 94) rfl)) (hw _ (List.mem_of_getElem? (i := 93) rfl)) (by decide) (by decide)) (g := (mkF m 390 #[vI p1, vI p2, vI p3, vJ q4, vS, vJ q5, vS, vI p6, vI nx, vI mx, vI kx, vI px, vI c0, vI off, vI c1, vI dx, vI c2, vJ w0, vS, vJ w1, vS, vR ba, vR bw, vR bA, vR ps, .val (.long (if kx = (0 : Int32) then w0 else w1)), vS, .val (.int (kx <<< ((8 : Int32) &&& 31))), vU, vU, vU, vU, vU] [(.long (if kx = (0 : Int32) then w0 else w1)), (.int c2), (.int c1), (.int c0), (.int nx), (.int px), (.long (own_wv (own_vf (own_l3 c0 c1 c2) kn) (own_w2 w0 w1) (((kx <<< ((8 : Int32) &&& 31)) ||| px)).toNatClampNeg))])) rfl (by rw [hml]; rfl) (argsL := [(.int px), (.int nx), (.int c0), (.int c1), (.int c2), (.long (if kx = (0 : Int32) then w0 else w1))]) (rest := [(.long (own_wv (own_vf (own_l3 c0 c1 c2) kn) (own_w2 w0 w1) (((kx <<< ((8 : Int32) &&& 31)) ||| px)).toNatClampNeg))]) (lenOf pd_10 rfl) rfl (by show 2 * 0 + _ ≤ _; exact Nat.le_of_eq rfl) (hb hby at_390) (fun _ _ => ⟨rfl, e9, hcl, hsl⟩)
  dsimp only [Pt.U, Pt.locs, Pt.cells, Pt.slots] at X12 l12 y12 z12 st12 hQ12
  subst l12 y12 z12
  obtain ⟨rfl, N12q, e12⟩ := hQ12
  have N12 := Fr.app N9 N12q
  have P13 : ∀ t, Steps p.tables e below (T12.setTop (mkF m 393 #[vI p1, vI p2, vI p3, vJ q4, vS, vJ q5, vS, vI p6, vI nx, vI mx, vI kx, vI px, vI c0, vI off, vI c1, vI dx, vI c2, vJ w0, vS, vJ w1, vS, vR ba, vR bw, vR bA, vR ps, .val (.long (if kx = (0 : Int32) then w0 else w1)), vS, .val (.int (kx <<< ((8 : Int32) &&& 31))), vU, vU, vU, vU, vU] [(.long (own_ex px nx c0 c1 c2 (if kx = (0 : Int32) then w0 else w1))), (.long (own_wv (own_vf (own_l3 c0 c1 c2) kn) (own_w2 w0 w1) (((kx <<< ((8 : Int32) &&& 31)) ||| px)).toNatClampNeg))])) t → Steps p.tables e below (T.setTop (mkF m 254 #[vI p1, vI p2, vI p3, vJ q4, vS, vJ q5, vS, vI p6, vI nx, vI mx, vI kx, vI px, vI c0, vI off, vI c1, vI dx, vI c2, vJ w0, vS, vJ w1, vS, vR ba, vR bw, vR bA, vR ps, vU, vU, vU, vU, vU, vU, vU, vU] [])) t := fun t k => P11 _ (st12 _ k)
  have P14 : ∀ t, Steps p.tables e below (T12.setTop (mkF m 423 #[vI p1, vI p2, vI p3, vJ q4, vS, vJ q5, vS, vI p6, vI nx, vI mx, vI kx, vI px, vI c0, vI off, vI c1, vI dx, vI c2, vJ w0, vS, vJ w1, vS, vR ba, vR bw, vR bA, vR ps, .val (.long (if kx = (0 : Int32) then w0 else w1)), vS, .val (.int (kx <<< ((8 : Int32) &&& 31))), .val (.int (1 : Int32)), vU, vU, vU, vU] [])) t → Steps p.tables e below (T.setTop (mkF m 254 #[vI p1, vI p2, vI p3, vJ q4, vS, vJ q5, vS, vI p6, vI nx, vI mx, vI kx, vI px, vI c0, vI off, vI c1, vI dx, vI c2, vJ w0, vS, vJ w1, vS, vR ba, vR bw, vR bA, vR ps, vU, vU, vU, vU, vU, vU, vU, vU] [])) t := by
    intro t k
    refine P13 _ ?_
    refine XT.lcmp X12.here hx rfl (hb hby at_393) rfl ?_
    show Steps p.tables e below (T12.setTop (mkF m 394 #[vI p1, vI p2, vI p3, vJ q4, vS, vJ q5, vS, vI p6, vI nx, vI mx, vI kx, vI px, vI c0, vI off, vI c1, vI dx, vI c2, vJ w0, vS, vJ w1, vS, vR ba, vR bw, vR bA, vR ps, .val (.long (if kx = (0 : Int32) then w0 else w1)), vS, .val (.int (kx <<< ((8 : Int32) &&& 31))), vU, vU, vU, vU, vU] [(.int (XT.cmpL (own_wv (own_vf (own_l3 c0 c1 c2) kn) (own_w2 w0 w1) (((kx <<< ((8 : Int32) &&& 31)) ||| px)).toNatClampNeg) (own_ex px nx c0 c1 c2 (if kx = (0 : Int32) then w0 else w1))))])) _
    refine XS.ifNo X12.here hx rfl (hb hby at_394) rfl (XT.ll_ne_f (own_pl (k := kn) hk3 hnn kc0 kc1 kc2 hne3 kpx (own_ixc hkk hk1 kpx) hwk2)) ?_
    show Steps p.tables e below (T12.setTop (mkF m 397 #[vI p1, vI p2, vI p3, vJ q4, vS, vJ q5, vS, vI p6, vI nx, vI mx, vI kx, vI px, vI c0, vI off, vI c1, vI dx, vI c2, vJ w0, vS, vJ w1, vS, vR ba, vR bw, vR bA, vR ps, .val (.long (if kx = (0 : Int32) then w0 else w1)), vS, .val (.int (kx <<< ((8 : Int32) &&& 31))), vU, vU, vU, vU, vU] [])) _
    refine XS.aload X12.here hx rfl (hb hby at_397) rfl rfl ?_
    show Steps p.tables e below (T12.setTop (mkF m 399 #[vI p1, vI p2, vI p3, vJ q4, vS, vJ q5, vS, vI p6, vI nx, vI mx, vI kx, vI px, vI c0, vI off, vI c1, vI dx, vI c2, vJ w0, vS, vJ w1, vS, vR ba, vR bw, vR bA, vR ps, .val (.long (if kx = (0 : Int32) then w0 else w1)), vS, .val (.int (kx <<< ((8 : Int32) &&& 31))), vU, vU, vU, vU, vU] [(.ref ps)])) _
    refine XS.iload X12.here hx rfl (hb hby at_399) rfl ?_
    show Steps p.tables e below (T12.setTop (mkF m 401 #[vI p1, vI p2, vI p3, vJ q4, vS, vJ q5, vS, vI p6, vI nx, vI mx, vI kx, vI px, vI c0, vI off, vI c1, vI dx, vI c2, vJ w0, vS, vJ w1, vS, vR ba, vR bw, vR bA, vR ps, .val (.long (if kx = (0 : Int32) then w0 else w1)), vS, .val (.int (kx <<< ((8 : Int32) &&& 31))), vU, vU, vU, vU, vU] [(.int (kx <<< ((8 : Int32) &&& 31))), (.ref ps)])) _
    refine XS.iload X12.here hx rfl (hb hby at_401) rfl ?_
    show Steps p.tables e below (T12.setTop (mkF m 403 #[vI p1, vI p2, vI p3, vJ q4, vS, vJ q5, vS, vI p6, vI nx, vI mx, vI kx, vI px, vI c0, vI off, vI c1, vI dx, vI c2, vJ w0, vS, vJ w1, vS, vR ba, vR bw, vR bA, vR ps, .val (.long (if kx = (0 : Int32) then w0 else w1)), vS, .val (.int (kx <<< ((8 : Int32) &&& 31))), vU, vU, vU, vU, vU] [(.int px), (.int (kx <<< ((8 : Int32) &&& 31))), (.ref ps)])) _
    refine XS.sipush X12.here hx rfl (hb hby at_403) ?_
    show Steps p.tables e below (T12.setTop (mkF m 406 #[vI p1, vI p2, vI p3, vJ q4, vS, vJ q5, vS, vI p6, vI nx, vI mx, vI kx, vI px, vI c0, vI off, vI c1, vI dx, vI c2, vJ w0, vS, vJ w1, vS, vR ba, vR bw, vR bA, vR ps, .val (.long (if kx = (0 : Int32) then w0 else w1)), vS, .val (.int (kx <<< ((8 : Int32) &&& 31))), vU, vU, vU, vU, vU] [(.int (128 : Int32)), (.int px), (.int (kx <<< ((8 : Int32) &&& 31))), (.ref ps)])) _
    refine XT.ior X12.here hx rfl (hb hby at_406) rfl ?_
    show Steps p.tables e below (T12.setTop (mkF m 407 #[vI p1, vI p2, vI p3, vJ q4, vS, vJ q5, vS, vI p6, vI nx, vI mx, vI kx, vI px, vI c0, vI off, vI c1, vI dx, vI c2, vJ w0, vS, vJ w1, vS, vR ba, vR bw, vR bA, vR ps, .val (.long (if kx = (0 : Int32) then w0 else w1)), vS, .val (.int (kx <<< ((8 : Int32) &&& 31))), vU, vU, vU, vU, vU] [(.int (px ||| (128 : Int32))), (.int (kx <<< ((8 : Int32) &&& 31))), (.ref ps)])) _
    refine XT.ior X12.here hx rfl (hb hby at_407) rfl ?_
    show Steps p.tables e below (T12.setTop (mkF m 408 #[vI p1, vI p2, vI p3, vJ q4, vS, vJ q5, vS, vI p6, vI nx, vI mx, vI kx, vI px, vI c0, vI off, vI c1, vI dx, vI c2, vJ w0, vS, vJ w1, vS, vR ba, vR bw, vR bA, vR ps, .val (.long (if kx = (0 : Int32) then w0 else w1)), vS, .val (.int (kx <<< ((8 : Int32) &&& 31))), vU, vU, vU, vU, vU] [(.int ((kx <<< ((8 : Int32) &&& 31)) ||| (px ||| (128 : Int32)))), (.ref ps)])) _
    refine own_flal X12 hx hZ e12 A_t (own_hin (mm := mm) hkk hkm hm2 kp8 hq24) (v := (.long (own_wv (own_vf (own_l3 c0 c1 c2) kn) (own_w2 w0 w1) (((kx <<< ((8 : Int32) &&& 31)) ||| (px ||| (128 : Int32)))).toNatClampNeg))) rfl rfl rfl (hb hby at_408) ?_
    show Steps p.tables e below (T12.setTop (mkF m 409 #[vI p1, vI p2, vI p3, vJ q4, vS, vJ q5, vS, vI p6, vI nx, vI mx, vI kx, vI px, vI c0, vI off, vI c1, vI dx, vI c2, vJ w0, vS, vJ w1, vS, vR ba, vR bw, vR bA, vR ps, .val (.long (if kx = (0 : Int32) then w0 else w1)), vS, .val (.int (kx <<< ((8 : Int32) &&& 31))), vU, vU, vU, vU, vU] [(.long (own_wv (own_vf (own_l3 c0 c1 c2) kn) (own_w2 w0 w1) (((kx <<< ((8 : Int32) &&& 31)) ||| (px ||| (128 : Int32)))).toNatClampNeg))])) _
    refine Jvm.Stand.ldc2J X12 hx hown (mvT hZ (hw _ (List.mem_of_getElem? (i := 96) rfl))) rfl (hb hby at_409) ?_
    show Steps p.tables e below (T12.setTop (mkF m 412 #[vI p1, vI p2, vI p3, vJ q4, vS, vJ q5, vS, vI p6, vI nx, vI mx, vI kx, vI px, vI c0, vI off, vI c1, vI dx, vI c2, vJ w0, vS, vJ w1, vS, vR ba, vR bw, vR bA, vR ps, .val (.long (if kx = (0 : Int32) then w0 else w1)), vS, .val (.int (kx <<< ((8 : Int32) &&& 31))), vU, vU, vU, vU, vU] [(.long (-1152921504606846976 : Int64)), (.long (own_wv (own_vf (own_l3 c0 c1 c2) kn) (own_w2 w0 w1) (((kx <<< ((8 : Int32) &&& 31)) ||| (px ||| (128 : Int32)))).toNatClampNeg))])) _
    refine XT.lcmp X12.here hx rfl (hb hby at_412) rfl ?_
    show Steps p.tables e below (T12.setTop (mkF m 413 #[vI p1, vI p2, vI p3, vJ q4, vS, vJ q5, vS, vI p6, vI nx, vI mx, vI kx, vI px, vI c0, vI off, vI c1, vI dx, vI c2, vJ w0, vS, vJ w1, vS, vR ba, vR bw, vR bA, vR ps, .val (.long (if kx = (0 : Int32) then w0 else w1)), vS, .val (.int (kx <<< ((8 : Int32) &&& 31))), vU, vU, vU, vU, vU] [(.int (XT.cmpL (own_wv (own_vf (own_l3 c0 c1 c2) kn) (own_w2 w0 w1) (((kx <<< ((8 : Int32) &&& 31)) ||| (px ||| (128 : Int32)))).toNatClampNeg) (-1152921504606846976 : Int64)))])) _
    refine XS.ifNo X12.here hx rfl (hb hby at_413) rfl (XT.ll_ne_f ((own_pl (k := kn) (nx := nx) hk3 hnn kc0 kc1 kc2 hne3 kp8 (own_ixc hkk hk1 kp8) hwk2).trans (own_exn (own_nc kp9 kc0) (own_nc kp9 kc1) (own_nc kp9 kc2)))) ?_
    show Steps p.tables e below (T12.setTop (mkF m 416 #[vI p1, vI p2, vI p3, vJ q4, vS, vJ q5, vS, vI p6, vI nx, vI mx, vI kx, vI px, vI c0, vI off, vI c1, vI dx, vI c2, vJ w0, vS, vJ w1, vS, vR ba, vR bw, vR bA, vR ps, .val (.long (if kx = (0 : Int32) then w0 else w1)), vS, .val (.int (kx <<< ((8 : Int32) &&& 31))), vU, vU, vU, vU, vU] [])) _
    refine XS.iconst X12.here hx rfl (hb hby at_416) ?_
    show Steps p.tables e below (T12.setTop (mkF m 417 #[vI p1, vI p2, vI p3, vJ q4, vS, vJ q5, vS, vI p6, vI nx, vI mx, vI kx, vI px, vI c0, vI off, vI c1, vI dx, vI c2, vJ w0, vS, vJ w1, vS, vR ba, vR bw, vR bA, vR ps, .val (.long (if kx = (0 : Int32) then w0 else w1)), vS, .val (.int (kx <<< ((8 : Int32) &&& 31))), vU, vU, vU, vU, vU] [(.int (1 : Int32))])) _
    refine XS.goto X12.here hx rfl (pc0 := 417) (pc' := 421) rfl (hb hby at_417) (by decide) (by decide) ?_
    show Steps p.tables e below (T12.setTop (mkF m 421 #[vI p1, vI p2, vI p3, vJ q4, vS, vJ q5, vS, vI p6, vI nx, vI mx, vI kx, vI px, vI c0, vI off, vI c1, vI dx, vI c2, vJ w0, vS, vJ w1, vS, vR ba, vR bw, vR bA, vR ps, .val (.long (if kx = (0 : Int32) then w0 else w1)), vS, .val (.int (kx <<< ((8 : Int32) &&& 31))), vU, vU, vU, vU, vU] [(.int (1 : Int32))])) _
    refine XS.istore X12.here hx rfl (hb hby at_421) rfl (l' := #[vI p1, vI p2, vI p3, vJ q4, vS, vJ q5, vS, vI p6, vI nx, vI mx, vI kx, vI px, vI c0, vI off, vI c1, vI dx, vI c2, vJ w0, vS, vJ w1, vS, vR ba, vR bw, vR bA, vR ps, .val (.long (if kx = (0 : Int32) then w0 else w1)), vS, .val (.int (kx <<< ((8 : Int32) &&& 31))), .val (.int (1 : Int32)), vU, vU, vU, vU]) rfl ?_
    show Steps p.tables e below (T12.setTop (mkF m 423 #[vI p1, vI p2, vI p3, vJ q4, vS, vJ q5, vS, vI p6, vI nx, vI mx, vI kx, vI px, vI c0, vI off, vI c1, vI dx, vI c2, vJ w0, vS, vJ w1, vS, vR ba, vR bw, vR bA, vR ps, .val (.long (if kx = (0 : Int32) then w0 else w1)), vS, .val (.int (kx <<< ((8 : Int32) &&& 31))), .val (.int (1 : Int32)), vU, vU, vU, vU] [])) _
    exact k
  exact ⟨T12, h0, _, X12, e12, N12, K0, A_t, P14⟩
set_option maxRecDepth 65536 in
set_option maxHeartbeats 40000000 in
theorem tlB {p : Program} {l : Launch} {e : Env} {s : State} {m : MethodId} {args : Array Value} {below : List Frame} {meth : Method} {c : Code} {T : State} {locs : List Loc} {cells slots : Nat} (hcl : cells ≤ room_1.cells) (hsl : slots ≤ room_1.slots) {Z : State} {a0 : Array Value} {h0 : Heap} {n0 : Nat} (p1 : Int32) (p2 : Int32) (p3 : Int32) (q4 : Int64) (q5 : Int64) (p6 : Int32) (nx : Int32) (mx : Int32) (kx : Int32) (px : Int32) (c0 : Int32) (off : Int32) (c1 : Int32) (dx : Int32) (c2 : Int32) (w0 : Int64) (w1 : Int64) (ba : Addr) (bw : Addr) (bA : Addr) (ps : Addr) (nq : Int32) (kp : ClassId) (kn : Nat) (mm : Nat) (kk : Nat)
    (X0 : Stand p l e room_1 s m args below meth c T locs cells slots) (hx : p.tables.exec = Jvm.exec) (hZ : Z.Warmed39 s.vm) (hw : ∀ d ∈ tables_1, d.before a0 Z = true) (hby : c.code = code) (hml : c.maxLocals = 33) (hown : s.vm.findClass "com/example/basewright/basewright/AlphabetWeightedValuesPinLaw" = some m.cls) (e0 : T.heap = h0) (N0 : Fr n0 locs) (Z0 : n0 ≤ h0.size) (A_t : own_Af Z h0 ps kp .long nq (fun c => Value.long (own_wv (own_vf (own_l3 c0 c1 c2) kn) (own_w2 w0 w1) c))) (hq24 : nq.toInt = ((mm * 256 : Nat) : Int)) (hlen : nq = (mx * (256 : Int32))) (hnn : nx.toInt = (kn : Int)) (hk3 : kn ≤ 3) (hkk : kx.toInt = kk) (hkm : kk < mm) (hm2 : mm ≤ 2) (hk1 : kk ≤ 1) (kc0 : own_c c0) (kc1 : own_c c1) (kc2 : own_c c2) (hne3 : c0 ≠ c1 ∧ c0 ≠ c2 ∧ c1 ≠ c2) (kpx : 0 ≤ px.toInt ∧ px.toInt < 256) (kp8 : 0 ≤ (px ||| (128 : Int32)).toInt ∧ (px ||| (128 : Int32)).toInt < 256) (kp9 : 128 ≤ (px ||| (128 : Int32)).toInt) (hmm2 : mm = 2) :
    ∃ (T' : State) (h' : Heap) (locs' : List Loc), Stand p l e room_1 s m args below meth c T' locs' cells slots ∧ T'.heap = h' ∧ Fr n0 locs' ∧ Keep h0 h' [] ∧ own_Af Z h' ps kp .long nq (fun c => Value.long (own_wv (own_vf (own_l3 c0 c1 c2) kn) (own_w2 w0 w1) c)) ∧
      ∀ t, Steps p.tables e below (T'.setTop (mkF m 576 #[vI p1, vI p2, vI p3, vJ q4, vS, vJ q5, vS, vI p6, vI nx, vI mx, vI kx, vI px, vI c0, vI off, vI c1, vI dx, vI c2, vJ w0, vS, vJ w1, vS, vR ba, vR bw, vR bA, vR ps, .val (.long (if kx = (0 : Int32) then w0 else w1)), vS, .val (.int (kx <<< ((8 : Int32) &&& 31))), .val (.int (1 : Int32)), .val (.int ((1 : Int32) - kx)), .val (.long (if ((1 : Int32) - kx) = (0 : Int32) then w0 else w1)), vS, .val (.int (((1 : Int32) - kx) <<< ((8 : Int32) &&& 31)))] [])) t → Steps p.tables e below (T.setTop (mkF m 429 #[vI p1, vI p2, vI p3, vJ q4, vS, vJ q5, vS, vI p6, vI nx, vI mx, vI kx, vI px, vI c0, vI off, vI c1, vI dx, vI c2, vJ w0, vS, vJ w1, vS, vR ba, vR bw, vR bA, vR ps, .val (.long (if kx = (0 : Int32) then w0 else w1)), vS, .val (.int (kx <<< ((8 : Int32) &&& 31))), .val (.int (1 : Int32)), vU, vU, vU, vU] [])) t := by
  have K0 : Keep h0 h0 [] := Keep.refl _ _
  have P0 : ∀ t, Steps p.tables e below (T.setTop (mkF m 429 #[vI p1, vI p2, vI p3, vJ q4, vS, vJ q5, vS, vI p6, vI nx, vI mx, vI kx, vI px, vI c0, vI off, vI c1, vI dx, vI c2, vJ w0, vS, vJ w1, vS, vR ba, vR bw, vR bA, vR ps, .val (.long (if kx = (0 : Int32) then w0 else w1)), vS, .val (.int (kx <<< ((8 : Int32) &&& 31))), .val (.int (1 : Int32)), vU, vU, vU, vU] [])) t → Steps p.tables e below (T.setTop (mkF m 429 #[vI p1, vI p2, vI p3, vJ q4, vS, vJ q5, vS, vI p6, vI nx, vI mx, vI kx, vI px, vI c0, vI off, vI c1, vI dx, vI c2, vJ w0, vS, vJ w1, vS, vR ba, vR bw, vR bA, vR ps, .val (.long (if kx = (0 : Int32) then w0 else w1)), vS, .val (.int (kx <<< ((8 : Int32) &&& 31))), .val (.int (1 : Int32)), vU, vU, vU, vU] [])) t := fun t k => k
  have hoo := own_ox (ox := ((1 : Int32) - kx)) rfl hkk hk1
  have hko : 1 - kk < mm := by omega
  have hk1o : 1 - kk ≤ 1 := by omega
  have hwo2 : own_w2 w0 w1 (1 - kk) = (if ((1 : Int32) - kx) = (0 : Int32) then w0 else w1) := own_wk rfl hoo hk1o
  have P1 : ∀ t, Steps p.tables e below (T.setTop (mkF m 447 #[vI p1, vI p2, vI p3, vJ q4, vS, vJ q5, vS, vI p6, vI nx, vI mx, vI kx, vI px, vI c0, vI off, vI c1, vI dx, vI c2, vJ w0, vS, vJ w1, vS, vR ba, vR bw, vR bA, vR ps, .val (.long (if kx = (0 : Int32) then w0 else w1)), vS, .val (.int (kx <<< ((8 : Int32) &&& 31))), .val (.int (1 : Int32)), .val (.int ((1 : Int32) - kx)), vU, vU, vU] [(.long (if ((1 : Int32) - kx) = (0 : Int32) then w0 else w1))])) t → Steps p.tables e below (T.setTop (mkF m 429 #[vI p1, vI p2, vI p3, vJ q4, vS, vJ q5, vS, vI p6, vI nx, vI mx, vI kx, vI px, vI c0, vI off, vI c1, vI dx, vI c2, vJ w0, vS, vJ w1, vS, vR ba, vR bw, vR bA, vR ps, .val (.long (if kx = (0 : Int32) then w0 else w1)), vS, .val (.int (kx <<< ((8 : Int32) &&& 31))), .val (.int (1 : Int32)), vU, vU, vU, vU] [])) t := by
    intro t k
    refine P0 _ ?_
    refine XS.iconst X0.here hx rfl (hb hby at_429) ?_
    show Steps p.tables e below (T.setTop (mkF m 430 #[vI p1, vI p2, vI p3, vJ q4, vS, vJ q5, vS, vI p6, vI nx, vI mx, vI kx, vI px, vI c0, vI off, vI c1, vI dx, vI c2, vJ w0, vS, vJ w1, vS, vR ba, vR bw, vR bA, vR ps, .val (.long (if kx = (0 : Int32) then w0 else w1)), vS, .val (.int (kx <<< ((8 : Int32) &&& 31))), .val (.int (1 : Int32)), vU, vU, vU, vU] [(.int (1 : Int32))])) _
    refine XS.iload X0.here hx rfl (hb hby at_430) rfl ?_
    show Steps p.tables e below (T.setTop (mkF m 432 #[vI p1, vI p2, vI p3, vJ q4, vS, vJ q5, vS, vI p6, vI nx, vI mx, vI kx, vI px, vI c0, vI off, vI c1, vI dx, vI c2, vJ w0, vS, vJ w1, vS, vR ba, vR bw, vR bA, vR ps, .val (.long (if kx = (0 : Int32) then w0 else w1)), vS, .val (.int (kx <<< ((8 : Int32) &&& 31))), .val (.int (1 : Int32)), vU, vU, vU, vU] [(.int kx), (.int (1 : Int32))])) _
    refine XS.isub X0.here hx rfl (hb hby at_432) rfl ?_
    show Steps p.tables e below (T.setTop (mkF m 433 #[vI p1, vI p2, vI p3, vJ q4, vS, vJ q5, vS, vI p6, vI nx, vI mx, vI kx, vI px, vI c0, vI off, vI c1, vI dx, vI c2, vJ w0, vS, vJ w1, vS, vR ba, vR bw, vR bA, vR ps, .val (.long (if kx = (0 : Int32) then w0 else w1)), vS, .val (.int (kx <<< ((8 : Int32) &&& 31))), .val (.int (1 : Int32)), vU, vU, vU, vU] [(.int ((1 : Int32) - kx))])) _
    refine XS.istore X0.here hx rfl (hb hby at_433) rfl (l' := #[vI p1, vI p2, vI p3, vJ q4, vS, vJ q5, vS, vI p6, vI nx, vI mx, vI kx, vI px, vI c0, vI off, vI c1, vI dx, vI c2, vJ w0, vS, vJ w1, vS, vR ba, vR bw, vR bA, vR ps, .val (.long (if kx = (0 : Int32) then w0 else w1)), vS, .val (.int (kx <<< ((8 : Int32) &&& 31))), .val (.int (1 : Int32)), .val (.int ((1 : Int32) - kx)), vU, vU, vU]) rfl ?_
    show Steps p.tables e below (T.setTop (mkF m 435 #[vI p1, vI p2, vI p3, vJ q4, vS, vJ q5, vS, vI p6, vI nx, vI mx, vI kx, vI px, vI c0, vI off, vI c1, vI dx, vI c2, vJ w0, vS, vJ w1, vS, vR ba, vR bw, vR bA, vR ps, .val (.long (if kx = (0 : Int32) then w0 else w1)), vS, .val (.int (kx <<< ((8 : Int32) &&& 31))), .val (.int (1 : Int32)), .val (.int ((1 : Int32) - kx)), vU, vU, vU] [])) _
    refine XS.iload X0.here hx rfl (hb hby at_435) rfl ?_
    show Steps p.tables e below (T.setTop (mkF m 437 #[vI p1, vI p2, vI p3, vJ q4, vS, vJ q5, vS, vI p6, vI nx, vI mx, vI kx, vI px, vI c0, vI off, vI c1, vI dx, vI c2, vJ w0, vS, vJ w1, vS, vR ba, vR bw, vR bA, vR ps, .val (.long (if kx = (0 : Int32) then w0 else w1)), vS, .val (.int (kx <<< ((8 : Int32) &&& 31))), .val (.int (1 : Int32)), .val (.int ((1 : Int32) - kx)), vU, vU, vU] [(.int ((1 : Int32) - kx))])) _
    by_cases c437 : ((1 : Int32) - kx) = (0 : Int32)
    · try simp only [if_pos c437] at k
      refine XS.ifNo X0.here hx rfl (hb hby at_437) rfl (XT.i0_ne_f c437) ?_
      show Steps p.tables e below (T.setTop (mkF m 440 #[vI p1, vI p2, vI p3, vJ q4, vS, vJ q5, vS, vI p6, vI nx, vI mx, vI kx, vI px, vI c0, vI off, vI c1, vI dx, vI c2, vJ w0, vS, vJ w1, vS, vR ba, vR bw, vR bA, vR ps, .val (.long (if kx = (0 : Int32) then w0 else w1)), vS, .val (.int (kx <<< ((8 : Int32) &&& 31))), .val (.int (1 : Int32)), .val (.int ((1 : Int32) - kx)), vU, vU, vU] [])) _
      refine XT.lload X0.here hx rfl (hb hby at_440) rfl ?_
      show Steps p.tables e below (T.setTop (mkF m 442 #[vI p1, vI p2, vI p3, vJ q4, vS, vJ q5, vS, vI p6, vI nx, vI mx, vI kx, vI px, vI c0, vI off, vI c1, vI dx, vI c2, vJ w0, vS, vJ w1, vS, vR ba, vR bw, vR bA, vR ps, .val (.long (if kx = (0 : Int32) then w0 else w1)), vS, .val (.int (kx <<< ((8 : Int32) &&& 31))), .val (.int (1 : Int32)), .val (.int ((1 : Int32) - kx)), vU, vU, vU] [(.long w0)])) _
      refine XS.goto X0.here hx rfl (pc0 := 442) (pc' := 447) rfl (hb hby at_442) (by decide) (by decide) ?_
      show Steps p.tables e below (T.setTop (mkF m 447 #[vI p1, vI p2, vI p3, vJ q4, vS, vJ q5, vS, vI p6, vI nx, vI mx, vI kx, vI px, vI c0, vI off, vI c1, vI dx, vI c2, vJ w0, vS, vJ w1, vS, vR ba, vR bw, vR bA, vR ps, .val (.long (if kx = (0 : Int32) then w0 else w1)), vS, .val (.int (kx <<< ((8 : Int32) &&& 31))), .val (.int (1 : Int32)), .val (.int ((1 : Int32) - kx)), vU, vU, vU] [(.long w0)])) _
      exact k
    · try simp only [if_neg c437] at k
      refine XS.ifYes X0.here hx rfl (pc0 := 437) (pc' := 445) rfl (hb hby at_437) rfl (XT.i0_ne_t c437) (by decide) (by decide) ?_
      show Steps p.tables e below (T.setTop (mkF m 445 #[vI p1, vI p2, vI p3, vJ q4, vS, vJ q5, vS, vI p6, vI nx, vI mx, vI kx, vI px, vI c0, vI off, vI c1, vI dx, vI c2, vJ w0, vS, vJ w1, vS, vR ba, vR bw, vR bA, vR ps, .val (.long (if kx = (0 : Int32) then w0 else w1)), vS, .val (.int (kx <<< ((8 : Int32) &&& 31))), .val (.int (1 : Int32)), .val (.int ((1 : Int32) - kx)), vU, vU, vU] [])) _
      refine XT.lload X0.here hx rfl (hb hby at_445) rfl ?_
      show Steps p.tables e below (T.setTop (mkF m 447 #[vI p1, vI p2, vI p3, vJ q4, vS, vJ q5, vS, vI p6, vI nx, vI mx, vI kx, vI px, vI c0, vI off, vI c1, vI dx, vI c2, vJ w0, vS, vJ w1, vS, vR ba, vR bw, vR bA, vR ps, .val (.long (if kx = (0 : Int32) then w0 else w1)), vS, .val (.int (kx <<< ((8 : Int32) &&& 31))), .val (.int (1 : Int32)), .val (.int ((1 : Int32) - kx)), vU, vU, vU] [(.long w1)])) _
      exact k
  have P2 : ∀ t, Steps p.tables e below (T.setTop (mkF m 481 #[vI p1, vI p2, vI p3, vJ q4, vS, vJ q5, vS, vI p6, vI nx, vI mx, vI kx, vI px, vI c0, vI off, vI c1, vI dx, vI c2, vJ w0, vS, vJ w1, vS, vR ba, vR bw, vR bA, vR ps, .val (.long (if kx = (0 : Int32) then w0 else w1)), vS, .val (.int (kx <<< ((8 : Int32) &&& 31))), .val (.int (1 : Int32)), .val (.int ((1 : Int32) - kx)), .val (.long (if ((1 : Int32) - kx) = (0 : Int32) then w0 else w1)), vS, .val (.int (((1 : Int32) - kx) <<< ((8 : Int32) &&& 31)))] [(.long (if ((1 : Int32) - kx) = (0 : Int32) then w0 else w1)), (.int c2), (.int c1), (.int c0), (.int nx), (.int c0), (.long (own_wv (own_vf (own_l3 c0 c1 c2) kn) (own_w2 w0 w1) (((((1 : Int32) - kx) <<< ((8 : Int32) &&& 31)) ||| c0)).toNatClampNeg))])) t → Steps p.tables e below (T.setTop (mkF m 429 #[vI p1, vI p2, vI p3, vJ q4, vS, vJ q5, vS, vI p6, vI nx, vI mx, vI kx, vI px, vI c0, vI off, vI c1, vI dx, vI c2, vJ w0, vS, vJ w1, vS, vR ba, vR bw, vR bA, vR ps, .val (.long (if kx = (0 : Int32) then w0 else w1)), vS, .val (.int (kx <<< ((8 : Int32) &&& 31))), .val (.int (1 : Int32)), vU, vU, vU, vU] [])) t := by
    intro t k
    refine P1 _ ?_
    refine XT.lstore X0.here hx rfl (hb hby at_447) rfl (l' := #[vI p1, vI p2, vI p3, vJ q4, vS, vJ q5, vS, vI p6, vI nx, vI mx, vI kx, vI px, vI c0, vI off, vI c1, vI dx, vI c2, vJ w0, vS, vJ w1, vS, vR ba, vR bw, vR bA, vR ps, .val (.long (if kx = (0 : Int32) then w0 else w1)), vS, .val (.int (kx <<< ((8 : Int32) &&& 31))), .val (.int (1 : Int32)), .val (.int ((1 : Int32) - kx)), .val (.long (if ((1 : Int32) - kx) = (0 : Int32) then w0 else w1)), vS, vU]) rfl ?_
    show Steps p.tables e below (T.setTop (mkF m 449 #[vI p1, vI p2, vI p3, vJ q4, vS, vJ q5, vS, vI p6, vI nx, vI mx, vI kx, vI px, vI c0, vI off, vI c1, vI dx, vI c2, vJ w0, vS, vJ w1, vS, vR ba, vR bw, vR bA, vR ps, .val (.long (if kx = (0 : Int32) then w0 else w1)), vS, .val (.int (kx <<< ((8 : Int32) &&& 31))), .val (.int (1 : Int32)), .val (.int ((1 : Int32) - kx)), .val (.long (if ((1 : Int32) - kx) = (0 : Int32) then w0 else w1)), vS, vU] [])) _
    refine XS.iload X0.here hx rfl (hb hby at_449) rfl ?_
    show Steps p.tables e below (T.setTop (mkF m 451 #[vI p1, vI p2, vI p3, vJ q4, vS, vJ q5, vS, vI p6, vI nx, vI mx, vI kx, vI px, vI c0, vI off, vI c1, vI dx, vI c2, vJ w0, vS, vJ w1, vS, vR ba, vR bw, vR bA, vR ps, .val (.long (if kx = (0 : Int32) then w0 else w1)), vS, .val (.int (kx <<< ((8 : Int32) &&& 31))), .val (.int (1 : Int32)), .val (.int ((1 : Int32) - kx)), .val (.long (if ((1 : Int32) - kx) = (0 : Int32) then w0 else w1)), vS, vU] [(.int ((1 : Int32) - kx))])) _
    refine XS.bipush X0.here hx rfl (hb hby at_451) ?_
    show Steps p.tables e below (T.setTop (mkF m 453 #[vI p1, vI p2, vI p3, vJ q4, vS, vJ q5, vS, vI p6, vI nx, vI mx, vI kx, vI px, vI c0, vI off, vI c1, vI dx, vI c2, vJ w0, vS, vJ w1, vS, vR ba, vR bw, vR bA, vR ps, .val (.long (if kx = (0 : Int32) then w0 else w1)), vS, .val (.int (kx <<< ((8 : Int32) &&& 31))), .val (.int (1 : Int32)), .val (.int ((1 : Int32) - kx)), .val (.long (if ((1 : Int32) - kx) = (0 : Int32) then w0 else w1)), vS, vU] [(.int (8 : Int32)), (.int ((1 : Int32) - kx))])) _
    refine XT.ishl X0.here hx rfl (hb hby at_453) rfl ?_
    show Steps p.tables e below (T.setTop (mkF m 454 #[vI p1, vI p2, vI p3, vJ q4, vS, vJ q5, vS, vI p6, vI nx, vI mx, vI kx, vI px, vI c0, vI off, vI c1, vI dx, vI c2, vJ w0, vS, vJ w1, vS, vR ba, vR bw, vR bA, vR ps, .val (.long (if kx = (0 : Int32) then w0 else w1)), vS, .val (.int (kx <<< ((8 : Int32) &&& 31))), .val (.int (1 : Int32)), .val (.int ((1 : Int32) - kx)), .val (.long (if ((1 : Int32) - kx) = (0 : Int32) then w0 else w1)), vS, vU] [(.int (((1 : Int32) - kx) <<< ((8 : Int32) &&& 31)))])) _
    refine XS.istore X0.here hx rfl (hb hby at_454) rfl (l' := #[vI p1, vI p2, vI p3, vJ q4, vS, vJ q5, vS, vI p6, vI nx, vI mx, vI kx, vI px, vI c0, vI off, vI c1, vI dx, vI c2, vJ w0, vS, vJ w1, vS, vR ba, vR bw, vR bA, vR ps, .val (.long (if kx = (0 : Int32) then w0 else w1)), vS, .val (.int (kx <<< ((8 : Int32) &&& 31))), .val (.int (1 : Int32)), .val (.int ((1 : Int32) - kx)), .val (.long (if ((1 : Int32) - kx) = (0 : Int32) then w0 else w1)), vS, .val (.int (((1 : Int32) - kx) <<< ((8 : Int32) &&& 31)))]) rfl ?_
    show Steps p.tables e below (T.setTop (mkF m 456 #[vI p1, vI p2, vI p3, vJ q4, vS, vJ q5, vS, vI p6, vI nx, vI mx, vI kx, vI px, vI c0, vI off, vI c1, vI dx, vI c2, vJ w0, vS, vJ w1, vS, vR ba, vR bw, vR bA, vR ps, .val (.long (if kx = (0 : Int32) then w0 else w1)), vS, .val (.int (kx <<< ((8 : Int32) &&& 31))), .val (.int (1 : Int32)), .val (.int ((1 : Int32) - kx)), .val (.long (if ((1 : Int32) - kx) = (0 : Int32) then w0 else w1)), vS, .val (.int (((1 : Int32) - kx) <<< ((8 : Int32) &&& 31)))] [])) _
    refine XS.iload X0.here hx rfl (hb hby at_456) rfl ?_
    show Steps p.tables e below (T.setTop (mkF m 458 #[vI p1, vI p2, vI p3, vJ q4, vS, vJ q5, vS, vI p6, vI nx, vI mx, vI kx, vI px, vI c0, vI off, vI c1, vI dx, vI c2, vJ w0, vS, vJ w1, vS, vR ba, vR bw, vR bA, vR ps, .val (.long (if kx = (0 : Int32) then w0 else w1)), vS, .val (.int (kx <<< ((8 : Int32) &&& 31))), .val (.int (1 : Int32)), .val (.int ((1 : Int32) - kx)), .val (.long (if ((1 : Int32) - kx) = (0 : Int32) then w0 else w1)), vS, .val (.int (((1 : Int32) - kx) <<< ((8 : Int32) &&& 31)))] [(.int (1 : Int32))])) _
    refine XS.ifNo X0.here hx rfl (hb hby at_458) rfl (XT.i0_eq_f (by decide)) ?_
    show Steps p.tables e below (T.setTop (mkF m 461 #[vI p1, vI p2, vI p3, vJ q4, vS, vJ q5, vS, vI p6, vI nx, vI mx, vI kx, vI px, vI c0, vI off, vI c1, vI dx, vI c2, vJ w0, vS, vJ w1, vS, vR ba, vR bw, vR bA, vR ps, .val (.long (if kx = (0 : Int32) then w0 else w1)), vS, .val (.int (kx <<< ((8 : Int32) &&& 31))), .val (.int (1 : Int32)), .val (.int ((1 : Int32) - kx)), .val (.long (if ((1 : Int32) - kx) = (0 : Int32) then w0 else w1)), vS, .val (.int (((1 : Int32) - kx) <<< ((8 : Int32) &&& 31)))] [])) _
    refine XS.aload X0.here hx rfl (hb hby at_461) rfl rfl ?_
    show Steps p.tables e below (T.setTop (mkF m 463 #[vI p1, vI p2, vI p3, vJ q4, vS, vJ q5, vS, vI p6, vI nx, vI mx, vI kx, vI px, vI c0, vI off, vI c1, vI dx, vI c2, vJ w0, vS, vJ w1, vS, vR ba, vR bw, vR bA, vR ps, .val (.long (if kx = (0 : Int32) then w0 else w1)), vS, .val (.int (kx <<< ((8 : Int32) &&& 31))), .val (.int (1 : Int32)), .val (.int ((1 : Int32) - kx)), .val (.long (if ((1 : Int32) - kx) = (0 : Int32) then w0 else w1)), vS, .val (.int (((1 : Int32) - kx) <<< ((8 : Int32) &&& 31)))] [(.ref ps)])) _
    refine XS.iload X0.here hx rfl (hb hby at_463) rfl ?_
    show Steps p.tables e below (T.setTop (mkF m 465 #[vI p1, vI p2, vI p3, vJ q4, vS, vJ q5, vS, vI p6, vI nx, vI mx, vI kx, vI px, vI c0, vI off, vI c1, vI dx, vI c2, vJ w0, vS, vJ w1, vS, vR ba, vR bw, vR bA, vR ps, .val (.long (if kx = (0 : Int32) then w0 else w1)), vS, .val (.int (kx <<< ((8 : Int32) &&& 31))), .val (.int (1 : Int32)), .val (.int ((1 : Int32) - kx)), .val (.long (if ((1 : Int32) - kx) = (0 : Int32) then w0 else w1)), vS, .val (.int (((1 : Int32) - kx) <<< ((8 : Int32) &&& 31)))] [(.int (((1 : Int32) - kx) <<< ((8 : Int32) &&& 31))), (.ref ps)])) _
    refine XS.iload X0.here hx rfl (hb hby at_465) rfl ?_
    show Steps p.tables e below (T.setTop (mkF m 467 #[vI p1, vI p2, vI p3, vJ q4, vS, vJ q5, vS, vI p6, vI nx, vI mx, vI kx, vI px, vI c0, vI off, vI c1, vI dx, vI c2, vJ w0, vS, vJ w1, vS, vR ba, vR bw, vR bA, vR ps, .val (.long (if kx = (0 : Int32) then w0 else w1)), vS, .val (.int (kx <<< ((8 : Int32) &&& 31))), .val (.int (1 : Int32)), .val (.int ((1 : Int32) - kx)), .val (.long (if ((1 : Int32) - kx) = (0 : Int32) then w0 else w1)), vS, .val (.int (((1 : Int32) - kx) <<< ((8 : Int32) &&& 31)))] [(.int c0), (.int (((1 : Int32) - kx) <<< ((8 : Int32) &&& 31))), (.ref ps)])) _
    refine XT.ior X0.here hx rfl (hb hby at_467) rfl ?_
    show Steps p.tables e below (T.setTop (mkF m 468 #[vI p1, vI p2, vI p3, vJ q4, vS, vJ q5, vS, vI p6, vI nx, vI mx, vI kx, vI px, vI c0, vI off, vI c1, vI dx, vI c2, vJ w0, vS, vJ w1, vS, vR ba, vR bw, vR bA, vR ps, .val (.long (if kx = (0 : Int32) then w0 else w1)), vS, .val (.int (kx <<< ((8 : Int32) &&& 31))), .val (.int (1 : Int32)), .val (.int ((1 : Int32) - kx)), .val (.long (if ((1 : Int32) - kx) = (0 : Int32) then w0 else w1)), vS, .val (.int (((1 : Int32) - kx) <<< ((8 : Int32) &&& 31)))] [(.int ((((1 : Int32) - kx) <<< ((8 : Int32) &&& 31)) ||| c0)), (.ref ps)])) _
    refine own_flal X0 hx hZ e0 A_t (own_hin (mm := mm) hoo hko hm2 (own_cr kc0) hq24) (v := (.long (own_wv (own_vf (own_l3 c0 c1 c2) kn) (own_w2 w0 w1) (((((1 : Int32) - kx) <<< ((8 : Int32) &&& 31)) ||| c0)).toNatClampNeg))) rfl rfl rfl (hb hby at_468) ?_
    show Steps p.tables e below (T.setTop (mkF m 469 #[vI p1, vI p2, vI p3, vJ q4, vS, vJ q5, vS, vI p6, vI nx, vI mx, vI kx, vI px, vI c0, vI off, vI c1, vI dx, vI c2, vJ w0, vS, vJ w1, vS, vR ba, vR bw, vR bA, vR ps, .val (.long (if kx = (0 : Int32) then w0 else w1)), vS, .val (.int (kx <<< ((8 : Int32) &&& 31))), .val (.int (1 : Int32)), .val (.int ((1 : Int32) - kx)), .val (.long (if ((1 : Int32) - kx) = (0 : Int32) then w0 else w1)), vS, .val (.int (((1 : Int32) - kx) <<< ((8 : Int32) &&& 31)))] [(.long (own_wv (own_vf (own_l3 c0 c1 c2) kn) (own_w2 w0 w1) (((((1 : Int32) - kx) <<< ((8 : Int32) &&& 31)) ||| c0)).toNatClampNeg))])) _
    refine XS.iload X0.here hx rfl (hb hby at_469) rfl ?_
    show Steps p.tables e below (T.setTop (mkF m 471 #[vI p1, vI p2, vI p3, vJ q4, vS, vJ q5, vS, vI p6, vI nx, vI mx, vI kx, vI px, vI c0, vI off, vI c1, vI dx, vI c2, vJ w0, vS, vJ w1, vS, vR ba, vR bw, vR bA, vR ps, .val (.long (if kx = (0 : Int32) then w0 else w1)), vS, .val (.int (kx <<< ((8 : Int32) &&& 31))), .val (.int (1 : Int32)), .val (.int ((1 : Int32) - kx)), .val (.long (if ((1 : Int32) - kx) = (0 : Int32) then w0 else w1)), vS, .val (.int (((1 : Int32) - kx) <<< ((8 : Int32) &&& 31)))] [(.int c0), (.long (own_wv (own_vf (own_l3 c0 c1 c2) kn) (own_w2 w0 w1) (((((1 : Int32) - kx) <<< ((8 : Int32) &&& 31)) ||| c0)).toNatClampNeg))])) _
    refine XS.iload X0.here hx rfl (hb hby at_471) rfl ?_
    show Steps p.tables e below (T.setTop (mkF m 473 #[vI p1, vI p2, vI p3, vJ q4, vS, vJ q5, vS, vI p6, vI nx, vI mx, vI kx, vI px, vI c0, vI off, vI c1, vI dx, vI c2, vJ w0, vS, vJ w1, vS, vR ba, vR bw, vR bA, vR ps, .val (.long (if kx = (0 : Int32) then w0 else w1)), vS, .val (.int (kx <<< ((8 : Int32) &&& 31))), .val (.int (1 : Int32)), .val (.int ((1 : Int32) - kx)), .val (.long (if ((1 : Int32) - kx) = (0 : Int32) then w0 else w1)), vS, .val (.int (((1 : Int32) - kx) <<< ((8 : Int32) &&& 31)))] [(.int nx), (.int c0), (.long (own_wv (own_vf (own_l3 c0 c1 c2) kn) (own_w2 w0 w1) (((((1 : Int32) - kx) <<< ((8 : Int32) &&& 31)) ||| c0)).toNatClampNeg))])) _
    refine XS.iload X0.here hx rfl (hb hby at_473) rfl ?_
    show Steps p.tables e below (T.setTop (mkF m 475 #[vI p1, vI p2, vI p3, vJ q4, vS, vJ q5, vS, vI p6, vI nx, vI mx, vI kx, vI px, vI c0, vI off, vI c1, vI dx, vI c2, vJ w0, vS, vJ w1, vS, vR ba, vR bw, vR bA, vR ps, .val (.long (if kx = (0 : Int32) then w0 else w1)), vS, .val (.int (kx <<< ((8 : Int32) &&& 31))), .val (.int (1 : Int32)), .val (.int ((1 : Int32) - kx)), .val (.long (if ((1 : Int32) - kx) = (0 : Int32) then w0 else w1)), vS, .val (.int (((1 : Int32) - kx) <<< ((8 : Int32) &&& 31)))] [(.int c0), (.int nx), (.int c0), (.long (own_wv (own_vf (own_l3 c0 c1 c2) kn) (own_w2 w0 w1) (((((1 : Int32) - kx) <<< ((8 : Int32) &&& 31)) ||| c0)).toNatClampNeg))])) _
    refine XS.iload X0.here hx rfl (hb hby at_475) rfl ?_
    show Steps p.tables e below (T.setTop (mkF m 477 #[vI p1, vI p2, vI p3, vJ q4, vS, vJ q5, vS, vI p6, vI nx, vI mx, vI kx, vI px, vI c0, vI off, vI c1, vI dx, vI c2, vJ w0, vS, vJ w1, vS, vR ba, vR bw, vR bA, vR ps, .val (.long (if kx = (0 : Int32) then w0 else w1)), vS, .val (.int (kx <<< ((8 : Int32) &&& 31))), .val (.int (1 : Int32)), .val (.int ((1 : Int32) - kx)), .val (.long (if ((1 : Int32) - kx) = (0 : Int32) then w0 else w1)), vS, .val (.int (((1 : Int32) - kx) <<< ((8 : Int32) &&& 31)))] [(.int c1), (.int c0), (.int nx), (.int c0), (.long (own_wv (own_vf (own_l3 c0 c1 c2) kn) (own_w2 w0 w1) (((((1 : Int32) - kx) <<< ((8 : Int32) &&& 31)) ||| c0)).toNatClampNeg))])) _
    refine XS.iload X0.here hx rfl (hb hby at_477) rfl ?_
    show Steps p.tables e below (T.setTop (mkF m 479 #[vI p1, vI p2, vI p3, vJ q4, vS, vJ q5, vS, vI p6, vI nx, vI mx, vI kx, vI px, vI c0, vI off, vI c1, vI dx, vI c2, vJ w0, vS, vJ w1, vS, vR ba, vR bw, vR bA, vR ps, .val (.long (if kx = (0 : Int32) then w0 else w1)), vS, .val (.int (kx <<< ((8 : Int32) &&& 31))), .val (.int (1 : Int32)), .val (.int ((1 : Int32) - kx)), .val (.long (if ((1 : Int32) - kx) = (0 : Int32) then w0 else w1)), vS, .val (.int (((1 : Int32) - kx) <<< ((8 : Int32) &&& 31)))] [(.int c2), (.int c1), (.int c0), (.int nx), (.int c0), (.long (own_wv (own_vf (own_l3 c0 c1 c2) kn) (own_w2 w0 w1) (((((1 : Int32) - kx) <<< ((8 : Int32) &&& 31)) ||| c0)).toNatClampNeg))])) _
    refine XT.lload X0.here hx rfl (hb hby at_479) rfl ?_
    show Steps p.tables e below (T.setTop (mkF m 481 #[vI p1, vI p2, vI p3, vJ q4, vS, vJ q5, vS, vI p6, vI nx, vI mx, vI kx, vI px, vI c0, vI off, vI c1, vI dx, vI c2, vJ w0, vS, vJ w1, vS, vR ba, vR bw, vR bA, vR ps, .val (.long (if kx = (0 : Int32) then w0 else w1)), vS, .val (.int (kx <<< ((8 : Int32) &&& 31))), .val (.int (1 : Int32)), .val (.int ((1 : Int32) - kx)), .val (.long (if ((1 : Int32) - kx) = (0 : Int32) then w0 else w1)), vS, .val (.int (((1 : Int32) - kx) <<< ((8 : Int32) &&& 31)))] [(.long (if ((1 : Int32) - kx) = (0 : Int32) then w0 else w1)), (.int c2), (.int c1), (.int c0), (.int nx), (.int c0), (.long (own_wv (own_vf (own_l3 c0 c1 c2) kn) (own_w2 w0 w1) (((((1 : Int32) - kx) <<< ((8 : Int32) &&& 31)) ||| c0)).toNatClampNeg))])) _
    exact k
  obtain ⟨_, _, ⟨T3, L3, k3, n3⟩, -, X3, ⟨Lc3, hQ3, l3, y3, z3⟩, st3⟩ := Jvm.LawKit.callS X0 hx (y := (⟨"com/example/basewright/basewright/AlphabetWeightedValuesPinLaw", "exp", "(IIIIIJ)J"⟩ : MethodName)) hown (mvT hZ (hw _ (List.mem_of_getElem? (i := 91) rfl))) (mvT hZ (hw _ (List.mem_of_getElem? (i := 92) rfl))) (mvT hZ (hw _ (List.mem_of_getElem? (i := 93) rfl))) (mvT hZ (hw _ (List.mem_of_getElem? (i := 94) rfl))) (by decide) (backOf (W := 2) (rm30 l Z a0 hw [] c0 nx c0 c1 c2 (if ((1 : Int32) - kx) = (0 : Int32) then w0 else w1)  h0 n0 Z0 ) hZ (hw _ (List.mem_of_getElem? (i := 94) rfl)) (hw _ (List.mem_of_getElem? (i := 93) rfl)) (by decide) (by decide)) (g := (mkF m 481 #[vI p1, vI p2, vI p3, vJ q4, vS, vJ q5, vS, vI p6, vI nx, vI mx, vI kx, vI px, vI c0, vI off, vI c1, vI dx, vI c2, vJ w0, vS, vJ w1, vS, vR ba, vR bw, vR bA, vR ps, .val (.long (if kx = (0 : Int32) then w0 else w1)), vS, .val (.int (kx <<< ((8 : Int32) &&& 31))), .val (.int (1 : Int32)), .val (.int ((1 : Int32) - kx)), .val (.long (if ((1 : Int32) - kx) = (0 : Int32) then w0 else w1)), vS, .val (.int (((1 : Int32) - kx) <<< ((8 : Int32) &&& 31)))] [(.long (if ((1 : Int32) - kx) = (0 : Int32) then w0 else w1)), (.int c2), (.int c1), (.int c0), (.int nx), (.int c0), (.long (own_wv (own_vf (own_l3 c0 c1 c2) kn) (own_w2 w0 w1) (((((1 : Int32) - kx) <<< ((8 : Int32) &&& 31)) ||| c0)).toNatClampNeg))])) rfl (by rw [hml]; rfl) (argsL := [(.int c0), (.int nx), (.int c0), (.int c1), (.int c2), (.long (if ((1 : Int32) - kx) = (0 : Int32) then w0 else w1))]) (rest := [(.long (own_wv (own_vf (own_l3 c0 c1 c2) kn) (own_w2 w0 w1) (((((1 : Int32) - kx) <<< ((8 : Int32) &&& 31)) ||| c0)).toNatClampNeg))]) (lenOf pd_10 rfl) rfl (by show 2 * 0 + _ ≤ _; exact Nat.le_of_eq rfl) (hb hby at_481) (fun _ _ => ⟨rfl, e0, hcl, hsl⟩)
  dsimp only [Pt.U, Pt.locs, Pt.cells, Pt.slots] at X3 l3 y3 z3 st3 hQ3
  subst l3 y3 z3
  obtain ⟨rfl, N3q, e3⟩ := hQ3
  have N3 := Fr.app N0 N3q
  have P4 : ∀ t, Steps p.tables e below (T3.setTop (mkF m 484 #[vI p1, vI p2, vI p3, vJ q4, vS, vJ q5, vS, vI p6, vI nx, vI mx, vI kx, vI px, vI c0, vI off, vI c1, vI dx, vI c2, vJ w0, vS, vJ w1, vS, vR ba, vR bw, vR bA, vR ps, .val (.long (if kx = (0 : Int32) then w0 else w1)), vS, .val (.int (kx <<< ((8 : Int32) &&& 31))), .val (.int (1 : Int32)), .val (.int ((1 : Int32) - kx)), .val (.long (if ((1 : Int32) - kx) = (0 : Int32) then w0 else w1)), vS, .val (.int (((1 : Int32) - kx) <<< ((8 : Int32) &&& 31)))] [(.long (own_ex c0 nx c0 c1 c2 (if ((1 : Int32) - kx) = (0 : Int32) then w0 else w1))), (.long (own_wv (own_vf (own_l3 c0 c1 c2) kn) (own_w2 w0 w1) (((((1 : Int32) - kx) <<< ((8 : Int32) &&& 31)) ||| c0)).toNatClampNeg))])) t → Steps p.tables e below (T.setTop (mkF m 429 #[vI p1, vI p2, vI p3, vJ q4, vS, vJ q5, vS, vI p6, vI nx, vI mx, vI kx, vI px, vI c0, vI off, vI c1, vI dx, vI c2, vJ w0, vS, vJ w1, vS, vR ba, vR bw, vR bA, vR ps, .val (.long (if kx = (0 : Int32) then w0 else w1)), vS, .val (.int (kx <<< ((8 : Int32) &&& 31))), .val (.int (1 : Int32)), vU, vU, vU, vU] [])) t := fun t k => P2 _ (st3 _ k)
  have P5 : ∀ t, Steps p.tables e below (T3.setTop (mkF m 508 #[vI p1, vI p2, vI p3, vJ q4, vS, vJ q5, vS, vI p6, vI nx, vI mx, vI kx, vI px, vI c0, vI off, vI c1, vI dx, vI c2, vJ w0, vS, vJ w1, vS, vR ba, vR bw, vR bA, vR ps, .val (.long (if kx = (0 : Int32) then w0 else w1)), vS, .val (.int (kx <<< ((8 : Int32) &&& 31))), .val (.int (1 : Int32)), .val (.int ((1 : Int32) - kx)), .val (.long (if ((1 : Int32) - kx) = (0 : Int32) then w0 else w1)), vS, .val (.int (((1 : Int32) - kx) <<< ((8 : Int32) &&& 31)))] [(.long (if ((1 : Int32) - kx) = (0 : Int32) then w0 else w1)), (.int c2), (.int c1), (.int c0), (.int nx), (.int c1), (.long (own_wv (own_vf (own_l3 c0 c1 c2) kn) (own_w2 w0 w1) (((((1 : Int32) - kx) <<< ((8 : Int32) &&& 31)) ||| c1)).toNatClampNeg))])) t → Steps p.tables e below (T.setTop (mkF m 429 #[vI p1, vI p2, vI p3, vJ q4, vS, vJ q5, vS, vI p6, vI nx, vI mx, vI kx, vI px, vI c0, vI off, vI c1, vI dx, vI c2, vJ w0, vS, vJ w1, vS, vR ba, vR bw, vR bA, vR ps, .val (.long (if kx = (0 : Int32) then w0 else w1)), vS, .val (.int (kx <<< ((8 : Int32) &&& 31))), .val (.int (1 : Int32)), vU, vU, vU, vU] [])) t := by
    intro t k
    refine P4 _ ?_
    refine XT.lcmp X3.here hx rfl (hb hby at_484) rfl ?_
    show Steps p.tables e below (T3.setTop (mkF m 485 #[vI p1, vI p2, vI p3, vJ q4, vS, vJ q5, vS, vI p6, vI nx, vI mx, vI kx, vI px, vI c0, vI off, vI c1, vI dx, vI c2, vJ w0, vS, vJ w1, vS, vR ba, vR bw, vR bA, vR ps, .val (.long (if kx = (0 : Int32) then w0 else w1)), vS, .val (.int (kx <<< ((8 : Int32) &&& 31))), .val (.int (1 : Int32)), .val (.int ((1 : Int32) - kx)), .val (.long (if ((1 : Int32) - kx) = (0 : Int32) then w0 else w1)), vS, .val (.int (((1 : Int32) - kx) <<< ((8 : Int32) &&& 31)))] [(.int (XT.cmpL (own_wv (own_vf (own_l3 c0 c1 c2) kn) (own_w2 w0 w1) (((((1 : Int32) - kx) <<< ((8 : Int32) &&& 31)) ||| c0)).toNatClampNeg) (own_ex c0 nx c0 c1 c2 (if ((1 : Int32) - kx) = (0 : Int32) then w0 else w1))))])) _
    refine XS.ifNo X3.here hx rfl (hb hby at_485) rfl (XT.ll_ne_f (own_pl (k := kn) hk3 hnn kc0 kc1 kc2 hne3 (own_cr kc0) (own_ixc hoo hk1o (own_cr kc0)) hwo2)) ?_
    show Steps p.tables e below (T3.setTop (mkF m 488 #[vI p1, vI p2, vI p3, vJ q4, vS, vJ q5, vS, vI p6, vI nx, vI mx, vI kx, vI px, vI c0, vI off, vI c1, vI dx, vI c2, vJ w0, vS, vJ w1, vS, vR ba, vR bw, vR bA, vR ps, .val (.long (if kx = (0 : Int32) then w0 else w1)), vS, .val (.int (kx <<< ((8 : Int32) &&& 31))), .val (.int (1 : Int32)), .val (.int ((1 : Int32) - kx)), .val (.long (if ((1 : Int32) - kx) = (0 : Int32) then w0 else w1)), vS, .val (.int (((1 : Int32) - kx) <<< ((8 : Int32) &&& 31)))] [])) _
    refine XS.aload X3.here hx rfl (hb hby at_488) rfl rfl ?_
    show Steps p.tables e below (T3.setTop (mkF m 490 #[vI p1, vI p2, vI p3, vJ q4, vS, vJ q5, vS, vI p6, vI nx, vI mx, vI kx, vI px, vI c0, vI off, vI c1, vI dx, vI c2, vJ w0, vS, vJ w1, vS, vR ba, vR bw, vR bA, vR ps, .val (.long (if kx = (0 : Int32) then w0 else w1)), vS, .val (.int (kx <<< ((8 : Int32) &&& 31))), .val (.int (1 : Int32)), .val (.int ((1 : Int32) - kx)), .val (.long (if ((1 : Int32) - kx) = (0 : Int32) then w0 else w1)), vS, .val (.int (((1 : Int32) - kx) <<< ((8 : Int32) &&& 31)))] [(.ref ps)])) _
    refine XS.iload X3.here hx rfl (hb hby at_490) rfl ?_
    show Steps p.tables e below (T3.setTop (mkF m 492 #[vI p1, vI p2, vI p3, vJ q4, vS, vJ q5, vS, vI p6, vI nx, vI mx, vI kx, vI px, vI c0, vI off, vI c1, vI dx, vI c2, vJ w0, vS, vJ w1, vS, vR ba, vR bw, vR bA, vR ps, .val (.long (if kx = (0 : Int32) then w0 else w1)), vS, .val (.int (kx <<< ((8 : Int32) &&& 31))), .val (.int (1 : Int32)), .val (.int ((1 : Int32) - kx)), .val (.long (if ((1 : Int32) - kx) = (0 : Int32) then w0 else w1)), vS, .val (.int (((1 : Int32) - kx) <<< ((8 : Int32) &&& 31)))] [(.int (((1 : Int32) - kx) <<< ((8 : Int32) &&& 31))), (.ref ps)])) _
    refine XS.iload X3.here hx rfl (hb hby at_492) rfl ?_
    show Steps p.tables e below (T3.setTop (mkF m 494 #[vI p1, vI p2, vI p3, vJ q4, vS, vJ q5, vS, vI p6, vI nx, vI mx, vI kx, vI px, vI c0, vI off, vI c1, vI dx, vI c2, vJ w0, vS, vJ w1, vS, vR ba, vR bw, vR bA, vR ps, .val (.long (if kx = (0 : Int32) then w0 else w1)), vS, .val (.int (kx <<< ((8 : Int32) &&& 31))), .val (.int (1 : Int32)), .val (.int ((1 : Int32) - kx)), .val (.long (if ((1 : Int32) - kx) = (0 : Int32) then w0 else w1)), vS, .val (.int (((1 : Int32) - kx) <<< ((8 : Int32) &&& 31)))] [(.int c1), (.int (((1 : Int32) - kx) <<< ((8 : Int32) &&& 31))), (.ref ps)])) _
    refine XT.ior X3.here hx rfl (hb hby at_494) rfl ?_
    show Steps p.tables e below (T3.setTop (mkF m 495 #[vI p1, vI p2, vI p3, vJ q4, vS, vJ q5, vS, vI p6, vI nx, vI mx, vI kx, vI px, vI c0, vI off, vI c1, vI dx, vI c2, vJ w0, vS, vJ w1, vS, vR ba, vR bw, vR bA, vR ps, .val (.long (if kx = (0 : Int32) then w0 else w1)), vS, .val (.int (kx <<< ((8 : Int32) &&& 31))), .val (.int (1 : Int32)), .val (.int ((1 : Int32) - kx)), .val (.long (if ((1 : Int32) - kx) = (0 : Int32) then w0 else w1)), vS, .val (.int (((1 : Int32) - kx) <<< ((8 : Int32) &&& 31)))] [(.int ((((1 : Int32) - kx) <<< ((8 : Int32) &&& 31)) ||| c1)), (.ref ps)])) _
    refine own_flal X3 hx hZ e3 A_t (own_hin (mm := mm) hoo hko hm2 (own_cr kc1) hq24) (v := (.long (own_wv (own_vf (own_l3 c0 c1 c2) kn) (own_w2 w0 w1) (((((1 : Int32) - kx) <<< ((8 : Int32) &&& 31)) ||| c1)).toNatClampNeg))) rfl rfl rfl (hb hby at_495) ?_
    show Steps p.tables e below (T3.setTop (mkF m 496 #[vI p1, vI p2, vI p3, vJ q4, vS, vJ q5, vS, vI p6, vI nx, vI mx, vI kx, vI px, vI c0, vI off, vI c1, vI dx, vI c2, vJ w0, vS, vJ w1, vS, vR ba, vR bw, vR bA, vR ps, .val (.long (if kx = (0 : Int32) then w0 else w1)), vS, .val (.int (kx <<< ((8 : Int32) &&& 31))), .val (.int (1 : Int32)), .val (.int ((1 : Int32) - kx)), .val (.long (if ((1 : Int32) - kx) = (0 : Int32) then w0 else w1)), vS, .val (.int (((1 : Int32) - kx) <<< ((8 : Int32) &&& 31)))] [(.long (own_wv (own_vf (own_l3 c0 c1 c2) kn) (own_w2 w0 w1) (((((1 : Int32) - kx) <<< ((8 : Int32) &&& 31)) ||| c1)).toNatClampNeg))])) _
    refine XS.iload X3.here hx rfl (hb hby at_496) rfl ?_
    show Steps p.tables e below (T3.setTop (mkF m 498 #[vI p1, vI p2, vI p3, vJ q4, vS, vJ q5, vS, vI p6, vI nx, vI mx, vI kx, vI px, vI c0, vI off, vI c1, vI dx, vI c2, vJ w0, vS, vJ w1, vS, vR ba, vR bw, vR bA, vR ps, .val (.long (if kx = (0 : Int32) then w0 else w1)), vS, .val (.int (kx <<< ((8 : Int32) &&& 31))), .val (.int (1 : Int32)), .val (.int ((1 : Int32) - kx)), .val (.long (if ((1 : Int32) - kx) = (0 : Int32) then w0 else w1)), vS, .val (.int (((1 : Int32) - kx) <<< ((8 : Int32) &&& 31)))] [(.int c1), (.long (own_wv (own_vf (own_l3 c0 c1 c2) kn) (own_w2 w0 w1) (((((1 : Int32) - kx) <<< ((8 : Int32) &&& 31)) ||| c1)).toNatClampNeg))])) _
    refine XS.iload X3.here hx rfl (hb hby at_498) rfl ?_
    show Steps p.tables e below (T3.setTop (mkF m 500 #[vI p1, vI p2, vI p3, vJ q4, vS, vJ q5, vS, vI p6, vI nx, vI mx, vI kx, vI px, vI c0, vI off, vI c1, vI dx, vI c2, vJ w0, vS, vJ w1, vS, vR ba, vR bw, vR bA, vR ps, .val (.long (if kx = (0 : Int32) then w0 else w1)), vS, .val (.int (kx <<< ((8 : Int32) &&& 31))), .val (.int (1 : Int32)), .val (.int ((1 : Int32) - kx)), .val (.long (if ((1 : Int32) - kx) = (0 : Int32) then w0 else w1)), vS, .val (.int (((1 : Int32) - kx) <<< ((8 : Int32) &&& 31)))] [(.int nx), (.int c1), (.long (own_wv (own_vf (own_l3 c0 c1 c2) kn) (own_w2 w0 w1) (((((1 : Int32) - kx) <<< ((8 : Int32) &&& 31)) ||| c1)).toNatClampNeg))])) _
    refine XS.iload X3.here hx rfl (hb hby at_500) rfl ?_
    show Steps p.tables e below (T3.setTop (mkF m 502 #[vI p1, vI p2, vI p3, vJ q4, vS, vJ q5, vS, vI p6, vI nx, vI mx, vI kx, vI px, vI c0, vI off, vI c1, vI dx, vI c2, vJ w0, vS, vJ w1, vS, vR ba, vR bw, vR bA, vR ps, .val (.long (if kx = (0 : Int32) then w0 else w1)), vS, .val (.int (kx <<< ((8 : Int32) &&& 31))), .val (.int (1 : Int32)), .val (.int ((1 : Int32) - kx)), .val (.long (if ((1 : Int32) - kx) = (0 : Int32) then w0 else w1)), vS, .val (.int (((1 : Int32) - kx) <<< ((8 : Int32) &&& 31)))] [(.int c0), (.int nx), (.int c1), (.long (own_wv (own_vf (own_l3 c0 c1 c2) kn) (own_w2 w0 w1) (((((1 : Int32) - kx) <<< ((8 : Int32) &&& 31)) ||| c1)).toNatClampNeg))])) _
    refine XS.iload X3.here hx rfl (hb hby at_502) rfl ?_
    show Steps p.tables e below (T3.setTop (mkF m 504 #[vI p1, vI p2, vI p3, vJ q4, vS, vJ q5, vS, vI p6, vI nx, vI mx, vI kx, vI px, vI c0, vI off, vI c1, vI dx, vI c2, vJ w0, vS, vJ w1, vS, vR ba, vR bw, vR bA, vR ps, .val (.long (if kx = (0 : Int32) then w0 else w1)), vS, .val (.int (kx <<< ((8 : Int32) &&& 31))), .val (.int (1 : Int32)), .val (.int ((1 : Int32) - kx)), .val (.long (if ((1 : Int32) - kx) = (0 : Int32) then w0 else w1)), vS, .val (.int (((1 : Int32) - kx) <<< ((8 : Int32) &&& 31)))] [(.int c1), (.int c0), (.int nx), (.int c1), (.long (own_wv (own_vf (own_l3 c0 c1 c2) kn) (own_w2 w0 w1) (((((1 : Int32) - kx) <<< ((8 : Int32) &&& 31)) ||| c1)).toNatClampNeg))])) _
    refine XS.iload X3.here hx rfl (hb hby at_504) rfl ?_
    show Steps p.tables e below (T3.setTop (mkF m 506 #[vI p1, vI p2, vI p3, vJ q4, vS, vJ q5, vS, vI p6, vI nx, vI mx, vI kx, vI px, vI c0, vI off, vI c1, vI dx, vI c2, vJ w0, vS, vJ w1, vS, vR ba, vR bw, vR bA, vR ps, .val (.long (if kx = (0 : Int32) then w0 else w1)), vS, .val (.int (kx <<< ((8 : Int32) &&& 31))), .val (.int (1 : Int32)), .val (.int ((1 : Int32) - kx)), .val (.long (if ((1 : Int32) - kx) = (0 : Int32) then w0 else w1)), vS, .val (.int (((1 : Int32) - kx) <<< ((8 : Int32) &&& 31)))] [(.int c2), (.int c1), (.int c0), (.int nx), (.int c1), (.long (own_wv (own_vf (own_l3 c0 c1 c2) kn) (own_w2 w0 w1) (((((1 : Int32) - kx) <<< ((8 : Int32) &&& 31)) ||| c1)).toNatClampNeg))])) _
    refine XT.lload X3.here hx rfl (hb hby at_506) rfl ?_
    show Steps p.tables e below (T3.setTop (mkF m 508 #[vI p1, vI p2, vI p3, vJ q4, vS, vJ q5, vS, vI p6, vI nx, vI mx, vI kx, vI px, vI c0, vI off, vI c1, vI dx, vI c2, vJ w0, vS, vJ w1, vS, vR ba, vR bw, vR bA, vR ps, .val (.long (if kx = (0 : Int32) then w0 else w1)), vS, .val (.int (kx <<< ((8 : Int32) &&& 31))), .val (.int (1 : Int32)), .val (.int ((1 : Int32) - kx)), .val (.long (if ((1 : Int32) - kx) = (0 : Int32) then w0 else w1)), vS, .val (.int (((1 : Int32) - kx) <<< ((8 : Int32) &&& 31)))] [(.long (if ((1 : Int32) - kx) = (0 : Int32) then w0 else w1)), (.int c2), (.int c1), (.int c0), (.int nx), (.int c1), (.long (own_wv (own_vf (own_l3 c0 c1 c2) kn) (own_w2 w0 w1) (((((1 : Int32) - kx) <<< ((8 : Int32) &&& 31)) ||| c1)).toNatClampNeg))])) _
    exact k
  obtain ⟨_, _, ⟨T6, L6, k6, n6⟩, -, X6, ⟨Lc6, hQ6, l6, y6, z6⟩, st6⟩ := Jvm.LawKit.callS X3 hx (y := (⟨"com/example/basewright/basewright/AlphabetWeightedValuesPinLaw", "exp", "(IIIIIJ)J"⟩ : MethodName)) hown (mvT hZ (hw _ (List.mem_of_getElem? (i := 91) rfl))) (mvT hZ (hw _ (List.mem_of_getElem? (i := 92) rfl))) (mvT hZ (hw _ (List.mem_of_getElem? (i := 93) rfl))) (mvT hZ (hw _ (List.mem_of_getElem? (i := 94) rfl))) (by decide) (backOf (W := 2) (rm30 l Z a0 hw [] c1 nx c0 c1 c2 (if ((1 : Int32) - kx) = (0 : Int32) then w0 else w1)  h0 n0 Z0 ) hZ (hw _ (List.mem_of_getElem? (i := 94) rfl)) (hw _ (List.mem_of_getElem? (i := 93) rfl)) (by decide) (by decide)) (g := (mkF m 508 #[vI p1, vI p2, vI p3, vJ q4, vS, vJ q5, vS, vI p6, vI nx, vI mx, vI kx, vI px, vI c0, vI off, vI c1, vI dx, vI c2, vJ w0, vS, vJ w1, vS, vR ba, vR bw, vR bA, vR ps, .val (.long (if kx = (0 : Int32) then w0 else w1)), vS, .val (.int (kx <<< ((8 : Int32) &&& 31))), .val (.int (1 : Int32)), .val (.int ((1 : Int32) - kx)), .val (.long (if ((1 : Int32) - kx) = (0 : Int32) then w0 else w1)), vS, .val (.int (((1 : Int32) - kx) <<< ((8 : Int32) &&& 31)))] [(.long (if ((1 : Int32) - kx) = (0 : Int32) then w0 else w1)), (.int c2), (.int c1), (.int c0), (.int nx), (.int c1), (.long (own_wv (own_vf (own_l3 c0 c1 c2) kn) (own_w2 w0 w1) (((((1 : Int32) - kx) <<< ((8 : Int32) &&& 31)) ||| c1)).toNatClampNeg))])) rfl (by rw [hml]; rfl) (argsL := [(.int c1), (.int nx), (.int c0), (.int c1), (.int c2), (.long (if ((1 : Int32) - kx) = (0 : Int32) then w0 else w1))]) (rest := [(.long (own_wv (own_vf (own_l3 c0 c1 c2) kn) (own_w2 w0 w1) (((((1 : Int32) - kx) <<< ((8 : Int32) &&& 31)) ||| c1)).toNatClampNeg))]) (lenOf pd_10 rfl) rfl (by show 2 * 0 + _ ≤ _; exact Nat.le_of_eq rfl) (hb hby at_508) (fun _ _ => ⟨rfl, e3, hcl, hsl⟩)
  dsimp only [Pt.U, Pt.locs, Pt.cells, Pt.slots] at X6 l6 y6 z6 st6 hQ6
  subst l6 y6 z6
  obtain ⟨rfl, N6q, e6⟩ := hQ6
  have N6 := Fr.app N3 N6q
  have P7 : ∀ t, Steps p.tables e below (T6.setTop (mkF m 511 #[vI p1, vI p2, vI p3, vJ q4, vS, vJ q5, vS, vI p6, vI nx, vI mx, vI kx, vI px, vI c0, vI off, vI c1, vI dx, vI c2, vJ w0, vS, vJ w1, vS, vR ba, vR bw, vR bA, vR ps, .val (.long (if kx = (0 : Int32) then w0 else w1)), vS, .val (.int (kx <<< ((8 : Int32) &&& 31))), .val (.int (1 : Int32)), .val (.int ((1 : Int32) - kx)), .val (.long (if ((1 : Int32) - kx) = (0 : Int32) then w0 else w1)), vS, .val (.int (((1 : Int32) - kx) <<< ((8 : Int32) &&& 31)))] [(.long (own_ex c1 nx c0 c1 c2 (if ((1 : Int32) - kx) = (0 : Int32) then w0 else w1))), (.long (own_wv (own_vf (own_l3 c0 c1 c2) kn) (own_w2 w0 w1) (((((1 : Int32) - kx) <<< ((8 : Int32) &&& 31)) ||| c1)).toNatClampNeg))])) t → Steps p.tables e below (T.setTop (mkF m 429 #[vI p1, vI p2, vI p3, vJ q4, vS, vJ q5, vS, vI p6, vI nx, vI mx, vI kx, vI px, vI c0, vI off, vI c1, vI dx, vI c2, vJ w0, vS, vJ w1, vS, vR ba, vR bw, vR bA, vR ps, .val (.long (if kx = (0 : Int32) then w0 else w1)), vS, .val (.int (kx <<< ((8 : Int32) &&& 31))), .val (.int (1 : Int32)), vU, vU, vU, vU] [])) t := fun t k => P5 _ (st6 _ k)
  have P8 : ∀ t, Steps p.tables e below (T6.setTop (mkF m 535 #[vI p1, vI p2, vI p3, vJ q4, vS, vJ q5, vS, vI p6, vI nx, vI mx, vI kx, vI px, vI c0, vI off, vI c1, vI dx, vI c2, vJ w0, vS, vJ w1, vS, vR ba, vR bw, vR bA, vR ps, .val (.long (if kx = (0 : Int32) then w0 else w1)), vS, .val (.int (kx <<< ((8 : Int32) &&& 31))), .val (.int (1 : Int32)), .val (.int ((1 : Int32) - kx)), .val (.long (if ((1 : Int32) - kx) = (0 : Int32) then w0 else w1)), vS, .val (.int (((1 : Int32) - kx) <<< ((8 : Int32) &&& 31)))] [(.long (if ((1 : Int32) - kx) = (0 : Int32) then w0 else w1)), (.int c2), (.int c1), (.int c0), (.int nx), (.int c2), (.long (own_wv (own_vf (own_l3 c0 c1 c2) kn) (own_w2 w0 w1) (((((1 : Int32) - kx) <<< ((8 : Int32) &&& 31)) ||| c2)).toNatClampNeg))])) t → Steps p.tables e below (T.setTop (mkF m 429 #[vI p1, vI p2, vI p3, vJ q4, vS, vJ q5, vS, vI p6, vI nx, vI mx, vI kx, vI px, vI c0, vI off, vI c1, vI dx, vI c2, vJ w0, vS, vJ w1, vS, vR ba, vR bw, vR bA, vR ps, .val (.long (if kx = (0 : Int32) then w0 else w1)), vS, .val (.int (kx <<< ((8 : Int32) &&& 31))), .val (.int (1 : Int32)), vU, vU, vU, vU] [])) t := by
    intro t k
    refine P7 _ ?_
    refine XT.lcmp X6.here hx rfl (hb hby at_511) rfl ?_
    show Steps p.tables e below (T6.setTop (mkF m 512 #[vI p1, vI p2, vI p3, vJ q4, vS, vJ q5, vS, vI p6, vI nx, vI mx, vI kx, vI px, vI c0, vI off, vI c1, vI dx, vI c2, vJ w0, vS, vJ w1, vS, vR ba, vR bw, vR bA, vR ps, .val (.long (if kx = (0 : Int32) then w0 else w1)), vS, .val (.int (kx <<< ((8 : Int32) &&& 31))), .val (.int (1 : Int32)), .val (.int ((1 : Int32) - kx)), .val (.long (if ((1 : Int32) - kx) = (0 : Int32) then w0 else w1)), vS, .val (.int (((1 : Int32) - kx) <<< ((8 : Int32) &&& 31)))] [(.int (XT.cmpL (own_wv (own_vf (own_l3 c0 c1 c2) kn) (own_w2 w0 w1) (((((1 : Int32) - kx) <<< ((8 : Int32) &&& 31)) ||| c1)).toNatClampNeg) (own_ex c1 nx c0 c1 c2 (if ((1 : Int32) - kx) = (0 : Int32) then w0 else w1))))])) _
    refine XS.ifNo X6.here hx rfl (hb hby at_512) rfl (XT.ll_ne_f (own_pl (k := kn) hk3 hnn kc0 kc1 kc2 hne3 (own_cr kc1) (own_ixc hoo hk1o (own_cr kc1)) hwo2)) ?_
    show Steps p.tables e below (T6.setTop (mkF m 515 #[vI p1, vI p2, vI p3, vJ q4, vS, vJ q5, vS, vI p6, vI nx, vI mx, vI kx, vI px, vI c0, vI off, vI c1, vI dx, vI c2, vJ w0, vS, vJ w1, vS, vR ba, vR bw, vR bA, vR ps, .val (.long (if kx = (0 : Int32) then w0 else w1)), vS, .val (.int (kx <<< ((8 : Int32) &&& 31))), .val (.int (1 : Int32)), .val (.int ((1 : Int32) - kx)), .val (.long (if ((1 : Int32) - kx) = (0 : Int32) then w0 else w1)), vS, .val (.int (((1 : Int32) - kx) <<< ((8 : Int32) &&& 31)))] [])) _
    refine XS.aload X6.here hx rfl (hb hby at_515) rfl rfl ?_
    show Steps p.tables e below (T6.setTop (mkF m 517 #[vI p1, vI p2, vI p3, vJ q4, vS, vJ q5, vS, vI p6, vI nx, vI mx, vI kx, vI px, vI c0, vI off, vI c1, vI dx, vI c2, vJ w0, vS, vJ w1, vS, vR ba, vR bw, vR bA, vR ps, .val (.long (if kx = (0 : Int32) then w0 else w1)), vS, .val (.int (kx <<< ((8 : Int32) &&& 31))), .val (.int (1 : Int32)), .val (.int ((1 : Int32) - kx)), .val (.long (if ((1 : Int32) - kx) = (0 : Int32) then w0 else w1)), vS, .val (.int (((1 : Int32) - kx) <<< ((8 : Int32) &&& 31)))] [(.ref ps)])) _
    refine XS.iload X6.here hx rfl (hb hby at_517) rfl ?_
    show Steps p.tables e below (T6.setTop (mkF m 519 #[vI p1, vI p2, vI p3, vJ q4, vS, vJ q5, vS, vI p6, vI nx, vI mx, vI kx, vI px, vI c0, vI off, vI c1, vI dx, vI c2, vJ w0, vS, vJ w1, vS, vR ba, vR bw, vR bA, vR ps, .val (.long (if kx = (0 : Int32) then w0 else w1)), vS, .val (.int (kx <<< ((8 : Int32) &&& 31))), .val (.int (1 : Int32)), .val (.int ((1 : Int32) - kx)), .val (.long (if ((1 : Int32) - kx) = (0 : Int32) then w0 else w1)), vS, .val (.int (((1 : Int32) - kx) <<< ((8 : Int32) &&& 31)))] [(.int (((1 : Int32) - kx) <<< ((8 : Int32) &&& 31))), (.ref ps)])) _
    refine XS.iload X6.here hx rfl (hb hby at_519) rfl ?_
    show Steps p.tables e below (T6.setTop (mkF m 521 #[vI p1, vI p2, vI p3, vJ q4, vS, vJ q5, vS, vI p6, vI nx, vI mx, vI kx, vI px, vI c0, vI off, vI c1, vI dx, vI c2, vJ w0, vS, vJ w1, vS, vR ba, vR bw, vR bA, vR ps, .val (.long (if kx = (0 : Int32) then w0 else w1)), vS, .val (.int (kx <<< ((8 : Int32) &&& 31))), .val (.int (1 : Int32)), .val (.int ((1 : Int32) - kx)), .val (.long (if ((1 : Int32) - kx) = (0 : Int32) then w0 else w1)), vS, .val (.int (((1 : Int32) - kx) <<< ((8 : Int32) &&& 31)))] [(.int c2), (.int (((1 : Int32) - kx) <<< ((8 : Int32) &&& 31))), (.ref ps)])) _
    refine XT.ior X6.here hx rfl (hb hby at_521) rfl ?_
    show Steps p.tables e below (T6.setTop (mkF m 522 #[vI p1, vI p2, vI p3, vJ q4, vS, vJ q5, vS, vI p6, vI nx, vI mx, vI kx, vI px, vI c0, vI off, vI c1, vI dx, vI c2, vJ w0, vS, vJ w1, vS, vR ba, vR bw, vR bA, vR ps, .val (.long (if kx = (0 : Int32) then w0 else w1)), vS, .val (.int (kx <<< ((8 : Int32) &&& 31))), .val (.int (1 : Int32)), .val (.int ((1 : Int32) - kx)), .val (.long (if ((1 : Int32) - kx) = (0 : Int32) then w0 else w1)), vS, .val (.int (((1 : Int32) - kx) <<< ((8 : Int32) &&& 31)))] [(.int ((((1 : Int32) - kx) <<< ((8 : Int32) &&& 31)) ||| c2)), (.ref ps)])) _
    refine own_flal X6 hx hZ e6 A_t (own_hin (mm := mm) hoo hko hm2 (own_cr kc2) hq24) (v := (.long (own_wv (own_vf (own_l3 c0 c1 c2) kn) (own_w2 w0 w1) (((((1 : Int32) - kx) <<< ((8 : Int32) &&& 31)) ||| c2)).toNatClampNeg))) rfl rfl rfl (hb hby at_522) ?_
    show Steps p.tables e below (T6.setTop (mkF m 523 #[vI p1, vI p2, vI p3, vJ q4, vS, vJ q5, vS, vI p6, vI nx, vI mx, vI kx, vI px, vI c0, vI off, vI c1, vI dx, vI c2, vJ w0, vS, vJ w1, vS, vR ba, vR bw, vR bA, vR ps, .val (.long (if kx = (0 : Int32) then w0 else w1)), vS, .val (.int (kx <<< ((8 : Int32) &&& 31))), .val (.int (1 : Int32)), .val (.int ((1 : Int32) - kx)), .val (.long (if ((1 : Int32) - kx) = (0 : Int32) then w0 else w1)), vS, .val (.int (((1 : Int32) - kx) <<< ((8 : Int32) &&& 31)))] [(.long (own_wv (own_vf (own_l3 c0 c1 c2) kn) (own_w2 w0 w1) (((((1 : Int32) - kx) <<< ((8 : Int32) &&& 31)) ||| c2)).toNatClampNeg))])) _
    refine XS.iload X6.here hx rfl (hb hby at_523) rfl ?_
    show Steps p.tables e below (T6.setTop (mkF m 525 #[vI p1, vI p2, vI p3, vJ q4, vS, vJ q5, vS, vI p6, vI nx, vI mx, vI kx, vI px, vI c0, vI off, vI c1, vI dx, vI c2, vJ w0, vS, vJ w1, vS, vR ba, vR bw, vR bA, vR ps, .val (.long (if kx = (0 : Int32) then w0 else w1)), vS, .val (.int (kx <<< ((8 : Int32) &&& 31))), .val (.int (1 : Int32)), .val (.int ((1 : Int32) - kx)), .val (.long (if ((1 : Int32) - kx) = (0 : Int32) then w0 else w1)), vS, .val (.int (((1 : Int32) - kx) <<< ((8 : Int32) &&& 31)))] [(.int c2), (.long (own_wv (own_vf (own_l3 c0 c1 c2) kn) (own_w2 w0 w1) (((((1 : Int32) - kx) <<< ((8 : Int32) &&& 31)) ||| c2)).toNatClampNeg))])) _
    refine XS.iload X6.here hx rfl (hb hby at_525) rfl ?_
    show Steps p.tables e below (T6.setTop (mkF m 527 #[vI p1, vI p2, vI p3, vJ q4, vS, vJ q5, vS, vI p6, vI nx, vI mx, vI kx, vI px, vI c0, vI off, vI c1, vI dx, vI c2, vJ w0, vS, vJ w1, vS, vR ba, vR bw, vR bA, vR ps, .val (.long (if kx = (0 : Int32) then w0 else w1)), vS, .val (.int (kx <<< ((8 : Int32) &&& 31))), .val (.int (1 : Int32)), .val (.int ((1 : Int32) - kx)), .val (.long (if ((1 : Int32) - kx) = (0 : Int32) then w0 else w1)), vS, .val (.int (((1 : Int32) - kx) <<< ((8 : Int32) &&& 31)))] [(.int nx), (.int c2), (.long (own_wv (own_vf (own_l3 c0 c1 c2) kn) (own_w2 w0 w1) (((((1 : Int32) - kx) <<< ((8 : Int32) &&& 31)) ||| c2)).toNatClampNeg))])) _
    refine XS.iload X6.here hx rfl (hb hby at_527) rfl ?_
    show Steps p.tables e below (T6.setTop (mkF m 529 #[vI p1, vI p2, vI p3, vJ q4, vS, vJ q5, vS, vI p6, vI nx, vI mx, vI kx, vI px, vI c0, vI off, vI c1, vI dx, vI c2, vJ w0, vS, vJ w1, vS, vR ba, vR bw, vR bA, vR ps, .val (.long (if kx = (0 : Int32) then w0 else w1)), vS, .val (.int (kx <<< ((8 : Int32) &&& 31))), .val (.int (1 : Int32)), .val (.int ((1 : Int32) - kx)), .val (.long (if ((1 : Int32) - kx) = (0 : Int32) then w0 else w1)), vS, .val (.int (((1 : Int32) - kx) <<< ((8 : Int32) &&& 31)))] [(.int c0), (.int nx), (.int c2), (.long (own_wv (own_vf (own_l3 c0 c1 c2) kn) (own_w2 w0 w1) (((((1 : Int32) - kx) <<< ((8 : Int32) &&& 31)) ||| c2)).toNatClampNeg))])) _
    refine XS.iload X6.here hx rfl (hb hby at_529) rfl ?_
    show Steps p.tables e below (T6.setTop (mkF m 531 #[vI p1, vI p2, vI p3, vJ q4, vS, vJ q5, vS, vI p6, vI nx, vI mx, vI kx, vI px, vI c0, vI off, vI c1, vI dx, vI c2, vJ w0, vS, vJ w1, vS, vR ba, vR bw, vR bA, vR ps, .val (.long (if kx = (0 : Int32) then w0 else w1)), vS, .val (.int (kx <<< ((8 : Int32) &&& 31))), .val (.int (1 : Int32)), .val (.int ((1 : Int32) - kx)), .val (.long (if ((1 : Int32) - kx) = (0 : Int32) then w0 else w1)), vS, .val (.int (((1 : Int32) - kx) <<< ((8 : Int32) &&& 31)))] [(.int c1), (.int c0), (.int nx), (.int c2), (.long (own_wv (own_vf (own_l3 c0 c1 c2) kn) (own_w2 w0 w1) (((((1 : Int32) - kx) <<< ((8 : Int32) &&& 31)) ||| c2)).toNatClampNeg))])) _
    refine XS.iload X6.here hx rfl (hb hby at_531) rfl ?_
    show Steps p.tables e below (T6.setTop (mkF m 533 #[vI p1, vI p2, vI p3, vJ q4, vS, vJ q5, vS, vI p6, vI nx, vI mx, vI kx, vI px, vI c0, vI off, vI c1, vI dx, vI c2, vJ w0, vS, vJ w1, vS, vR ba, vR bw, vR bA, vR ps, .val (.long (if kx = (0 : Int32) then w0 else w1)), vS, .val (.int (kx <<< ((8 : Int32) &&& 31))), .val (.int (1 : Int32)), .val (.int ((1 : Int32) - kx)), .val (.long (if ((1 : Int32) - kx) = (0 : Int32) then w0 else w1)), vS, .val (.int (((1 : Int32) - kx) <<< ((8 : Int32) &&& 31)))] [(.int c2), (.int c1), (.int c0), (.int nx), (.int c2), (.long (own_wv (own_vf (own_l3 c0 c1 c2) kn) (own_w2 w0 w1) (((((1 : Int32) - kx) <<< ((8 : Int32) &&& 31)) ||| c2)).toNatClampNeg))])) _
    refine XT.lload X6.here hx rfl (hb hby at_533) rfl ?_
    show Steps p.tables e below (T6.setTop (mkF m 535 #[vI p1, vI p2, vI p3, vJ q4, vS, vJ q5, vS, vI p6, vI nx, vI mx, vI kx, vI px, vI c0, vI off, vI c1, vI dx, vI c2, vJ w0, vS, vJ w1, vS, vR ba, vR bw, vR bA, vR ps, .val (.long (if kx = (0 : Int32) then w0 else w1)), vS, .val (.int (kx <<< ((8 : Int32) &&& 31))), .val (.int (1 : Int32)), .val (.int ((1 : Int32) - kx)), .val (.long (if ((1 : Int32) - kx) = (0 : Int32) then w0 else w1)), vS, .val (.int (((1 : Int32) - kx) <<< ((8 : Int32) &&& 31)))] [(.long (if ((1 : Int32) - kx) = (0 : Int32) then w0 else w1)), (.int c2), (.int c1), (.int c0), (.int nx), (.int c2), (.long (own_wv (own_vf (own_l3 c0 c1 c2) kn) (own_w2 w0 w1) (((((1 : Int32) - kx) <<< ((8 : Int32) &&& 31)) ||| c2)).toNatClampNeg))])) _
    exact k
  obtain ⟨_, _, ⟨T9, L9, k9, n9⟩, -, X9, ⟨Lc9, hQ9, l9, y9, z9⟩, st9⟩ := Jvm.LawKit.callS X6 hx (y := (⟨"com/example/basewright/basewright/AlphabetWeightedValuesPinLaw", "exp", "(IIIIIJ)J"⟩ : MethodName)) hown (mvT hZ (hw _ (List.mem_of_getElem? (i := 91) rfl))) (mvT hZ (hw _ (List.mem_of_getElem? (i := 92) rfl))) (mvT hZ (hw _ (List.mem_of_getElem? (i := 93) rfl))) (mvT hZ (hw _ (List.mem_of_getElem? (i := 94) rfl))) (by decide) (backOf (W := 2) (rm30 l Z a0 hw [] c2 nx c0 c1 c2 (if ((1 : Int32) - kx) = (0 : Int32) then w0 else w1)  h0 n0 Z0 ) hZ (hw _ (List.mem_of_getElem? (i := 94) rfl)) (hw _ (List.mem_of_getElem? (i := 93) rfl)) (by decide) (by decide)) (g := (mkF m 535 #[vI p1, vI p2, vI p3, vJ q4, vS, vJ q5, vS, vI p6, vI nx, vI mx, vI kx, vI px, vI c0, vI off, vI c1, vI dx, vI c2, vJ w0, vS, vJ w1, vS, vR ba, vR bw, vR bA, vR ps, .val (.long (if kx = (0 : Int32) then w0 else w1)), vS, .val (.int (kx <<< ((8 : Int32) &&& 31))), .val (.int (1 : Int32)), .val (.int ((1 : Int32) - kx)), .val (.long (if ((1 : Int32) - kx) = (0 : Int32) then w0 else w1)), vS, .val (.int (((1 : Int32) - kx) <<< ((8 : Int32) &&& 31)))] [(.long (if ((1 : Int32) - kx) = (0 : Int32) then w0 else w1)), (.int c2), (.int c1), (.int c0), (.int nx), (.int c2), (.long (own_wv (own_vf (own_l3 c0 c1 c2) kn) (own_w2 w0 w1) (((((1 : Int32) - kx) <<< ((8 : Int32) &&& 31)) ||| c2)).toNatClampNeg))])) rfl (by rw [hml]; rfl) (argsL := [(.int c2), (.int nx), (.int c0), (.int c1), (.int c2), (.long (if ((1 : Int32) - kx) = (0 : Int32) then w0 else w1))]) (rest := [(.long (own_wv (own_vf (own_l3 c0 c1 c2) kn) (own_w2 w0 w1) (((((1 : Int32) - kx) <<< ((8 : Int32) &&& 31)) ||| c2)).toNatClampNeg))]) (lenOf pd_10 rfl) rfl (by show 2 * 0 + _ ≤ _; exact Nat.le_of_eq rfl) (hb hby at_535) (fun _ _ => ⟨rfl, e6, hcl, hsl⟩)
  dsimp only [Pt.U, Pt.locs, Pt.cells, Pt.slots] at X9 l9 y9 z9 st9 hQ9
  subst l9 y9 z9
  obtain ⟨rfl, N9q, e9⟩ := hQ9
  have N9 := Fr.app N6 N9q
  have P10 : ∀ t, Steps p.tables e below (T9.setTop (mkF m 538 #[vI p1, vI p2, vI p3, vJ q4, vS, vJ q5, vS, vI p6, vI nx, vI mx, vI kx, vI px, vI c0, vI off, vI c1, vI dx, vI c2, vJ w0, vS, vJ w1, vS, vR ba, vR bw, vR bA, vR ps, .val (.long (if kx = (0 : Int32) then w0 else w1)), vS, .val (.int (kx <<< ((8 : Int32) &&& 31))), .val (.int (1 : Int32)), .val (.int ((1 : Int32) - kx)), .val (.long (if ((1 : Int32) - kx) = (0 : Int32) then w0 else w1)), vS, .val (.int (((1 : Int32) - kx) <<< ((8 : Int32) &&& 31)))] [(.long (own_ex c2 nx c0 c1 c2 (if ((1 : Int32) - kx) = (0 : Int32) then w0 else w1))), (.long (own_wv (own_vf (own_l3 c0 c1 c2) kn) (own_w2 w0 w1) (((((1 : Int32) - kx) <<< ((8 : Int32) &&& 31)) ||| c2)).toNatClampNeg))])) t → Steps p.tables e below (T.setTop (mkF m 429 #[vI p1, vI p2, vI p3, vJ q4, vS, vJ q5, vS, vI p6, vI nx, vI mx, vI kx, vI px, vI c0, vI off, vI c1, vI dx, vI c2, vJ w0, vS, vJ w1, vS, vR ba, vR bw, vR bA, vR ps, .val (.long (if kx = (0 : Int32) then w0 else w1)), vS, .val (.int (kx <<< ((8 : Int32) &&& 31))), .val (.int (1 : Int32)), vU, vU, vU, vU] [])) t := fun t k => P8 _ (st9 _ k)
  have P11 : ∀ t, Steps p.tables e below (T9.setTop (mkF m 562 #[vI p1, vI p2, vI p3, vJ q4, vS, vJ q5, vS, vI p6, vI nx, vI mx, vI kx, vI px, vI c0, vI off, vI c1, vI dx, vI c2, vJ w0, vS, vJ w1, vS, vR ba, vR bw, vR bA, vR ps, .val (.long (if kx = (0 : Int32) then w0 else w1)), vS, .val (.int (kx <<< ((8 : Int32) &&& 31))), .val (.int (1 : Int32)), .val (.int ((1 : Int32) - kx)), .val (.long (if ((1 : Int32) - kx) = (0 : Int32) then w0 else w1)), vS, .val (.int (((1 : Int32) - kx) <<< ((8 : Int32) &&& 31)))] [(.long (if ((1 : Int32) - kx) = (0 : Int32) then w0 else w1)), (.int c2), (.int c1), (.int c0), (.int nx), (.int px), (.long (own_wv (own_vf (own_l3 c0 c1 c2) kn) (own_w2 w0 w1) (((((1 : Int32) - kx) <<< ((8 : Int32) &&& 31)) ||| px)).toNatClampNeg))])) t → Steps p.tables e below (T.setTop (mkF m 429 #[vI p1, vI p2, vI p3, vJ q4, vS, vJ q5, vS, vI p6, vI nx, vI mx, vI kx, vI px, vI c0, vI off, vI c1, vI dx, vI c2, vJ w0, vS, vJ w1, vS, vR ba, vR bw, vR bA, vR ps, .val (.long (if kx = (0 : Int32) then w0 else w1)), vS, .val (.int (kx <<< ((8 : Int32) &&& 31))), .val (.int (1 : Int32)), vU, vU, vU, vU] [])) t := by
    intro t k
    refine P10 _ ?_
    refine XT.lcmp X9.here hx rfl (hb hby at_538) rfl ?_
    show Steps p.tables e below (T9.setTop (mkF m 539 #[vI p1, vI p2, vI p3, vJ q4, vS, vJ q5, vS, vI p6, vI nx, vI mx, vI kx, vI px, vI c0, vI off, vI c1, vI dx, vI c2, vJ w0, vS, vJ w1, vS, vR ba, vR bw, vR bA, vR ps, .val (.long (if kx = (0 : Int32) then w0 else w1)), vS, .val (.int (kx <<< ((8 : Int32) &&& 31))), .val (.int (1 : Int32)), .val (.int ((1 : Int32) - kx)), .val (.long (if ((1 : Int32) - kx) = (0 : Int32) then w0 else w1)), vS, .val (.int (((1 : Int32) - kx) <<< ((8 : Int32) &&& 31)))] [(.int (XT.cmpL (own_wv (own_vf (own_l3 c0 c1 c2) kn) (own_w2 w0 w1) (((((1 : Int32) - kx) <<< ((8 : Int32) &&& 31)) ||| c2)).toNatClampNeg) (own_ex c2 nx c0 c1 c2 (if ((1 : Int32) - kx) = (0 : Int32) then w0 else w1))))])) _
    refine XS.ifNo X9.here hx rfl (hb hby at_539) rfl (XT.ll_ne_f (own_pl (k := kn) hk3 hnn kc0 kc1 kc2 hne3 (own_cr kc2) (own_ixc hoo hk1o (own_cr kc2)) hwo2)) ?_
    show Steps p.tables e below (T9.setTop (mkF m 542 #[vI p1, vI p2, vI p3, vJ q4, vS, vJ q5, vS, vI p6, vI nx, vI mx, vI kx, vI px, vI c0, vI off, vI c1, vI dx, vI c2, vJ w0, vS, vJ w1, vS, vR ba, vR bw, vR bA, vR ps, .val (.long (if kx = (0 : Int32) then w0 else w1)), vS, .val (.int (kx <<< ((8 : Int32) &&& 31))), .val (.int (1 : Int32)), .val (.int ((1 : Int32) - kx)), .val (.long (if ((1 : Int32) - kx) = (0 : Int32) then w0 else w1)), vS, .val (.int (((1 : Int32) - kx) <<< ((8 : Int32) &&& 31)))] [])) _
    refine XS.aload X9.here hx rfl (hb hby at_542) rfl rfl ?_
    show Steps p.tables e below (T9.setTop (mkF m 544 #[vI p1, vI p2, vI p3, vJ q4, vS, vJ q5, vS, vI p6, vI nx, vI mx, vI kx, vI px, vI c0, vI off, vI c1, vI dx, vI c2, vJ w0, vS, vJ w1, vS, vR ba, vR bw, vR bA, vR ps, .val (.long (if kx = (0 : Int32) then w0 else w1)), vS, .val (.int (kx <<< ((8 : Int32) &&& 31))), .val (.int (1 : Int32)), .val (.int ((1 : Int32) - kx)), .val (.long (if ((1 : Int32) - kx) = (0 : Int32) then w0 else w1)), vS, .val (.int (((1 : Int32) - kx) <<< ((8 : Int32) &&& 31)))] [(.ref ps)])) _
    refine XS.iload X9.here hx rfl (hb hby at_544) rfl ?_
    show Steps p.tables e below (T9.setTop (mkF m 546 #[vI p1, vI p2, vI p3, vJ q4, vS, vJ q5, vS, vI p6, vI nx, vI mx, vI kx, vI px, vI c0, vI off, vI c1, vI dx, vI c2, vJ w0, vS, vJ w1, vS, vR ba, vR bw, vR bA, vR ps, .val (.long (if kx = (0 : Int32) then w0 else w1)), vS, .val (.int (kx <<< ((8 : Int32) &&& 31))), .val (.int (1 : Int32)), .val (.int ((1 : Int32) - kx)), .val (.long (if ((1 : Int32) - kx) = (0 : Int32) then w0 else w1)), vS, .val (.int (((1 : Int32) - kx) <<< ((8 : Int32) &&& 31)))] [(.int (((1 : Int32) - kx) <<< ((8 : Int32) &&& 31))), (.ref ps)])) _
    refine XS.iload X9.here hx rfl (hb hby at_546) rfl ?_
    show Steps p.tables e below (T9.setTop (mkF m 548 #[vI p1, vI p2, vI p3, vJ q4, vS, vJ q5, vS, vI p6, vI nx, vI mx, vI kx, vI px, vI c0, vI off, vI c1, vI dx, vI c2, vJ w0, vS, vJ w1, vS, vR ba, vR bw, vR bA, vR ps, .val (.long (if kx = (0 : Int32) then w0 else w1)), vS, .val (.int (kx <<< ((8 : Int32) &&& 31))), .val (.int (1 : Int32)), .val (.int ((1 : Int32) - kx)), .val (.long (if ((1 : Int32) - kx) = (0 : Int32) then w0 else w1)), vS, .val (.int (((1 : Int32) - kx) <<< ((8 : Int32) &&& 31)))] [(.int px), (.int (((1 : Int32) - kx) <<< ((8 : Int32) &&& 31))), (.ref ps)])) _
    refine XT.ior X9.here hx rfl (hb hby at_548) rfl ?_
    show Steps p.tables e below (T9.setTop (mkF m 549 #[vI p1, vI p2, vI p3, vJ q4, vS, vJ q5, vS, vI p6, vI nx, vI mx, vI kx, vI px, vI c0, vI off, vI c1, vI dx, vI c2, vJ w0, vS, vJ w1, vS, vR ba, vR bw, vR bA, vR ps, .val (.long (if kx = (0 : Int32) then w0 else w1)), vS, .val (.int (kx <<< ((8 : Int32) &&& 31))), .val (.int (1 : Int32)), .val (.int ((1 : Int32) - kx)), .val (.long (if ((1 : Int32) - kx) = (0 : Int32) then w0 else w1)), vS, .val (.int (((1 : Int32) - kx) <<< ((8 : Int32) &&& 31)))] [(.int ((((1 : Int32) - kx) <<< ((8 : Int32) &&& 31)) ||| px)), (.ref ps)])) _
    refine own_flal X9 hx hZ e9 A_t (own_hin (mm := mm) hoo hko hm2 kpx hq24) (v := (.long (own_wv (own_vf (own_l3 c0 c1 c2) kn) (own_w2 w0 w1) (((((1 : Int32) - kx) <<< ((8 : Int32) &&& 31)) ||| px)).toNatClampNeg))) rfl rfl rfl (hb hby at_549) ?_
    show Steps p.tables e below (T9.setTop (mkF m 550 #[vI p1, vI p2, vI p3, vJ q4, vS, vJ q5, vS, vI p6, vI nx, vI mx, vI kx, vI px, vI c0, vI off, vI c1, vI dx, vI c2, vJ w0, vS, vJ w1, vS, vR ba, vR bw, vR bA, vR ps, .val (.long (if kx = (0 : Int32) then w0 else w1)), vS, .val (.int (kx <<< ((8 : Int32) &&& 31))), .val (.int (1 : Int32)), .val (.int ((1 : Int32) - kx)), .val (.long (if ((1 : Int32) - kx) = (0 : Int32) then w0 else w1)), vS, .val (.int (((1 : Int32) - kx) <<< ((8 : Int32) &&& 31)))] [(.long (own_wv (own_vf (own_l3 c0 c1 c2) kn) (own_w2 w0 w1) (((((1 : Int32) - kx) <<< ((8 : Int32) &&& 31)) ||| px)).toNatClampNeg))])) _
    refine XS.iload X9.here hx rfl (hb hby at_550) rfl ?_
    show Steps p.tables e below (T9.setTop (mkF m 552 #[vI p1, vI p2, vI p3, vJ q4, vS, vJ q5, vS, vI p6, vI nx, vI mx, vI kx, vI px, vI c0, vI off, vI c1, vI dx, vI c2, vJ w0, vS, vJ w1, vS, vR ba, vR bw, vR bA, vR ps, .val (.long (if kx = (0 : Int32) then w0 else w1)), vS, .val (.int (kx <<< ((8 : Int32) &&& 31))), .val (.int (1 : Int32)), .val (.int ((1 : Int32) - kx)), .val (.long (if ((1 : Int32) - kx) = (0 : Int32) then w0 else w1)), vS, .val (.int (((1 : Int32) - kx) <<< ((8 : Int32) &&& 31)))] [(.int px), (.long (own_wv (own_vf (own_l3 c0 c1 c2) kn) (own_w2 w0 w1) (((((1 : Int32) - kx) <<< ((8 : Int32) &&& 31)) ||| px)).toNatClampNeg))])) _
    refine XS.iload X9.here hx rfl (hb hby at_552) rfl ?_
    show Steps p.tables e below (T9.setTop (mkF m 554 #[vI p1, vI p2, vI p3, vJ q4, vS, vJ q5, vS, vI p6, vI nx, vI mx, vI kx, vI px, vI c0, vI off, vI c1, vI dx, vI c2, vJ w0, vS, vJ w1, vS, vR ba, vR bw, vR bA, vR ps, .val (.long (if kx = (0 : Int32) then w0 else w1)), vS, .val (.int (kx <<< ((8 : Int32) &&& 31))), .val (.int (1 : Int32)), .val (.int ((1 : Int32) - kx)), .val (.long (if ((1 : Int32) - kx) = (0 : Int32) then w0 else w1)), vS, .val (.int (((1 : Int32) - kx) <<< ((8 : Int32) &&& 31)))] [(.int nx), (.int px), (.long (own_wv (own_vf (own_l3 c0 c1 c2) kn) (own_w2 w0 w1) (((((1 : Int32) - kx) <<< ((8 : Int32) &&& 31)) ||| px)).toNatClampNeg))])) _
    refine XS.iload X9.here hx rfl (hb hby at_554) rfl ?_
    show Steps p.tables e below (T9.setTop (mkF m 556 #[vI p1, vI p2, vI p3, vJ q4, vS, vJ q5, vS, vI p6, vI nx, vI mx, vI kx, vI px, vI c0, vI off, vI c1, vI dx, vI c2, vJ w0, vS, vJ w1, vS, vR ba, vR bw, vR bA, vR ps, .val (.long (if kx = (0 : Int32) then w0 else w1)), vS, .val (.int (kx <<< ((8 : Int32) &&& 31))), .val (.int (1 : Int32)), .val (.int ((1 : Int32) - kx)), .val (.long (if ((1 : Int32) - kx) = (0 : Int32) then w0 else w1)), vS, .val (.int (((1 : Int32) - kx) <<< ((8 : Int32) &&& 31)))] [(.int c0), (.int nx), (.int px), (.long (own_wv (own_vf (own_l3 c0 c1 c2) kn) (own_w2 w0 w1) (((((1 : Int32) - kx) <<< ((8 : Int32) &&& 31)) ||| px)).toNatClampNeg))])) _
    refine XS.iload X9.here hx rfl (hb hby at_556) rfl ?_
    show Steps p.tables e below (T9.setTop (mkF m 558 #[vI p1, vI p2, vI p3, vJ q4, vS, vJ q5, vS, vI p6, vI nx, vI mx, vI kx, vI px, vI c0, vI off, vI c1, vI dx, vI c2, vJ w0, vS, vJ w1, vS, vR ba, vR bw, vR bA, vR ps, .val (.long (if kx = (0 : Int32) then w0 else w1)), vS, .val (.int (kx <<< ((8 : Int32) &&& 31))), .val (.int (1 : Int32)), .val (.int ((1 : Int32) - kx)), .val (.long (if ((1 : Int32) - kx) = (0 : Int32) then w0 else w1)), vS, .val (.int (((1 : Int32) - kx) <<< ((8 : Int32) &&& 31)))] [(.int c1), (.int c0), (.int nx), (.int px), (.long (own_wv (own_vf (own_l3 c0 c1 c2) kn) (own_w2 w0 w1) (((((1 : Int32) - kx) <<< ((8 : Int32) &&& 31)) ||| px)).toNatClampNeg))])) _
    refine XS.iload X9.here hx rfl (hb hby at_558) rfl ?_
    show Steps p.tables e below (T9.setTop (mkF m 560 #[vI p1, vI p2, vI p3, vJ q4, vS, vJ q5, vS, vI p6, vI nx, vI mx, vI kx, vI px, vI c0, vI off, vI c1, vI dx, vI c2, vJ w0, vS, vJ w1, vS, vR ba, vR bw, vR bA, vR ps, .val (.long (if kx = (0 : Int32) then w0 else w1)), vS, .val (.int (kx <<< ((8 : Int32) &&& 31))), .val (.int (1 : Int32)), .val (.int ((1 : Int32) - kx)), .val (.long (if ((1 : Int32) - kx) = (0 : Int32) then w0 else w1)), vS, .val (.int (((1 : Int32) - kx) <<< ((8 : Int32) &&& 31)))] [(.int c2), (.int c1), (.int c0), (.int nx), (.int px), (.long (own_wv (own_vf (own_l3 c0 c1 c2) kn) (own_w2 w0 w1) (((((1 : Int32) - kx) <<< ((8 : Int32) &&& 31)) ||| px)).toNatClampNeg))])) _
    refine XT.lload X9.here hx rfl (hb hby at_560) rfl ?_
    show Steps p.tables e below (T9.setTop (mkF m 562 #[vI p1, vI p2, vI p3, vJ q4, vS, vJ q5, vS, vI p6, vI nx, vI mx, vI kx, vI px, vI c0, vI off, vI c1, vI dx, vI c2, vJ w0, vS, vJ w1, vS, vR ba, vR bw, vR bA, vR ps, .val (.long (if kx = (0 : Int32) then w0 else w1)), vS, .val (.int (kx <<< ((8 : Int32) &&& 31))), .val (.int (1 : Int32)), .val (.int ((1 : Int32) - kx)), .val (.long (if ((1 : Int32) - kx) = (0 : Int32) then w0 else w1)), vS, .val (.int (((1 : Int32) - kx) <<< ((8 : Int32) &&& 31)))] [(.long (if ((1 : Int32) - kx) = (0 : Int32) then w0 else w1)), (.int c2), (.int c1), (.int c0), (.int nx), (.int px), (.long (own_wv (own_vf (own_l3 c0 c1 c2) kn) (own_w2 w0 w1) (((((1 : Int32) - kx) <<< ((8 : Int32) &&& 31)) ||| px)).toNatClampNeg))])) _
    exact k
  obtain ⟨_, _, ⟨T12, L12, k12, n12⟩, -, X12, ⟨Lc12, hQ12, l12, y12, z12⟩, st12⟩ := Jvm.LawKit.callS X9 hx (y := (⟨"com/example/basewright/basewright/AlphabetWeightedValuesPinLaw", "exp", "(IIIIIJ)J"⟩ : MethodName)) hown (mvT hZ (hw _ (List.mem_of_getElem? (i := 91) rfl))) (mvT hZ (hw _ (List.mem_of_getElem? (i := 92) rfl))) (mvT hZ (hw _ (List.mem_of_getElem? (i := 93) rfl))) (mvT hZ (hw _ (List.mem_of_getElem? (i := 94) rfl))) (by decide) (backOf (W := 2) (rm30 l Z a0 hw [] px nx c0 c1 c2 (if ((1 : Int32) - kx) = (0 : Int32) then w0 else w1)  h0 n0 Z0 ) hZ (hw _ (List.mem_of_getElem? (i := 94) rfl)) (hw _ (List.mem_of_getElem? (i := 93) rfl)) (by decide) (by decide)) (g := (mkF m 562 #[vI p1, vI p2, vI p3, vJ q4, vS, vJ q5, vS, vI p6, vI nx, vI mx, vI kx, vI px, vI c0, vI off, vI c1, vI dx, vI c2, vJ w0, vS, vJ w1, vS, vR ba, vR bw, vR bA, vR ps, .val (.long (if kx = (0 : Int32) then w0 else w1)), vS, .val (.int (kx <<< ((8 : Int32) &&& 31))), .val (.int (1 : Int32)), .val (.int ((1 : Int32) - kx)), .val (.long (if ((1 : Int32) - kx) = (0 : Int32) then w0 else w1)), vS, .val (.int (((1 : Int32) - kx) <<< ((8 : Int32) &&& 31)))] [(.long (if ((1 : Int32) - kx) = (0 : Int32) then w0 else w1)), (.int c2), (.int c1), (.int c0), (.int nx), (.int px), (.long (own_wv (own_vf (own_l3 c0 c1 c2) kn) (own_w2 w0 w1) (((((1 : Int32) - kx) <<< ((8 : Int32) &&& 31)) ||| px)).toNatClampNeg))])) rfl (by rw [hml]; rfl) (argsL := [(.int px), (.int nx), (.int c0), (.int c1), (.int c2), (.long (if ((1 : Int32) - kx) = (0 : Int32) then w0 else w1))]) (rest := [(.long (own_wv (own_vf (own_l3 c0 c1 c2) kn) (own_w2 w0 w1) (((((1 : Int32) - kx) <<< ((8 : Int32) &&& 31)) ||| px)).toNatClampNeg))]) (lenOf pd_10 rfl) rfl (by show 2 * 0 + _ ≤ _; exact Nat.le_of_eq rfl) (hb hby at_562) (fun _ _ => ⟨rfl, e9, hcl, hsl⟩)
  dsimp only [Pt.U, Pt.locs, Pt.cells, Pt.slots] at X12 l12 y12 z12 st12 hQ12
  subst l12 y12 z12
  obtain ⟨rfl, N12q, e12⟩ := hQ12
  have N12 := Fr.app N9 N12q
  have P13 : ∀ t, Steps p.tables e below (T12.setTop (mkF m 565 #[vI p1, vI p2, vI p3, vJ q4, vS, vJ q5, vS, vI p6, vI nx, vI mx, vI kx, vI px, vI c0, vI off, vI c1, vI dx, vI c2, vJ w0, vS, vJ w1, vS, vR ba, vR bw, vR bA, vR ps, .val (.long (if kx = (0 : Int32) then w0 else w1)), vS, .val (.int (kx <<< ((8 : Int32) &&& 31))), .val (.int (1 : Int32)), .val (.int ((1 : Int32) - kx)), .val (.long (if ((1 : Int32) - kx) = (0 : Int32) then w0 else w1)), vS, .val (.int (((1 : Int32) - kx) <<< ((8 : Int32) &&& 31)))] [(.long (own_ex px nx c0 c1 c2 (if ((1 : Int32) - kx) = (0 : Int32) then w0 else w1))), (.long (own_wv (own_vf (own_l3 c0 c1 c2) kn) (own_w2 w0 w1) (((((1 : Int32) - kx) <<< ((8 : Int32) &&& 31)) ||| px)).toNatClampNeg))])) t → Steps p.tables e below (T.setTop (mkF m 429 #[vI p1, vI p2, vI p3, vJ q4, vS, vJ q5, vS, vI p6, vI nx, vI mx, vI kx, vI px, vI c0, vI off, vI c1, vI dx, vI c2, vJ w0, vS, vJ w1, vS, vR ba, vR bw, vR bA, vR ps, .val (.long (if kx = (0 : Int32) then w0 else w1)), vS, .val (.int (kx <<< ((8 : Int32) &&& 31))), .val (.int (1 : Int32)), vU, vU, vU, vU] [])) t := fun t k => P11 _ (st12 _ k)
  have P14 : ∀ t, Steps p.tables e below (T12.setTop (mkF m 576 #[vI p1, vI p2, vI p3, vJ q4, vS, vJ q5, vS, vI p6, vI nx, vI mx, vI kx, vI px, vI c0, vI off, vI c1, vI dx, vI c2, vJ w0, vS, vJ w1, vS, vR ba, vR bw, vR bA, vR ps, .val (.long (if kx = (0 : Int32) then w0 else w1)), vS, .val (.int (kx <<< ((8 : Int32) &&& 31))), .val (.int (1 : Int32)), .val (.int ((1 : Int32) - kx)), .val (.long (if ((1 : Int32) - kx) = (0 : Int32) then w0 else w1)), vS, .val (.int (((1 : Int32) - kx) <<< ((8 : Int32) &&& 31)))] [])) t → Steps p.tables e below (T.setTop (mkF m 429 #[vI p1, vI p2, vI p3, vJ q4, vS, vJ q5, vS, vI p6, vI nx, vI mx, vI kx, vI px, vI c0, vI off, vI c1, vI dx, vI c2, vJ w0, vS, vJ w1, vS, vR ba, vR bw, vR bA, vR ps, .val (.long (if kx = (0 : Int32) then w0 else w1)), vS, .val (.int (kx <<< ((8 : Int32) &&& 31))), .val (.int (1 : Int32)), vU, vU, vU, vU] [])) t := by
    intro t k
    refine P13 _ ?_
    refine XT.lcmp X12.here hx rfl (hb hby at_565) rfl ?_
    show Steps p.tables e below (T12.setTop (mkF m 566 #[vI p1, vI p2, vI p3, vJ q4, vS, vJ q5, vS, vI p6, vI nx, vI mx, vI kx, vI px, vI c0, vI off, vI c1, vI dx, vI c2, vJ w0, vS, vJ w1, vS, vR ba, vR bw, vR bA, vR ps, .val (.long (if kx = (0 : Int32) then w0 else w1)), vS, .val (.int (kx <<< ((8 : Int32) &&& 31))), .val (.int (1 : Int32)), .val (.int ((1 : Int32) - kx)), .val (.long (if ((1 : Int32) - kx) = (0 : Int32) then w0 else w1)), vS, .val (.int (((1 : Int32) - kx) <<< ((8 : Int32) &&& 31)))] [(.int (XT.cmpL (own_wv (own_vf (own_l3 c0 c1 c2) kn) (own_w2 w0 w1) (((((1 : Int32) - kx) <<< ((8 : Int32) &&& 31)) ||| px)).toNatClampNeg) (own_ex px nx c0 c1 c2 (if ((1 : Int32) - kx) = (0 : Int32) then w0 else w1))))])) _
    refine XS.ifNo X12.here hx rfl (hb hby at_566) rfl (XT.ll_ne_f (own_pl (k := kn) hk3 hnn kc0 kc1 kc2 hne3 kpx (own_ixc hoo hk1o kpx) hwo2)) ?_
    show Steps p.tables e below (T12.setTop (mkF m 569 #[vI p1, vI p2, vI p3, vJ q4, vS, vJ q5, vS, vI p6, vI nx, vI mx, vI kx, vI px, vI c0, vI off, vI c1, vI dx, vI c2, vJ w0, vS, vJ w1, vS, vR ba, vR bw, vR bA, vR ps, .val (.long (if kx = (0 : Int32) then w0 else w1)), vS, .val (.int (kx <<< ((8 : Int32) &&& 31))), .val (.int (1 : Int32)), .val (.int ((1 : Int32) - kx)), .val (.long (if ((1 : Int32) - kx) = (0 : Int32) then w0 else w1)), vS, .val (.int (((1 : Int32) - kx) <<< ((8 : Int32) &&& 31)))] [])) _
    refine XS.iconst X12.here hx rfl (hb hby at_569) ?_
    show Steps p.tables e below (T12.setTop (mkF m 570 #[vI p1, vI p2, vI p3, vJ q4, vS, vJ q5, vS, vI p6, vI nx, vI mx, vI kx, vI px, vI c0, vI off, vI c1, vI dx, vI c2, vJ w0, vS, vJ w1, vS, vR ba, vR bw, vR bA, vR ps, .val (.long (if kx = (0 : Int32) then w0 else w1)), vS, .val (.int (kx <<< ((8 : Int32) &&& 31))), .val (.int (1 : Int32)), .val (.int ((1 : Int32) - kx)), .val (.long (if ((1 : Int32) - kx) = (0 : Int32) then w0 else w1)), vS, .val (.int (((1 : Int32) - kx) <<< ((8 : Int32) &&& 31)))] [(.int (1 : Int32))])) _
    refine XS.goto X12.here hx rfl (pc0 := 570) (pc' := 574) rfl (hb hby at_570) (by decide) (by decide) ?_
    show Steps p.tables e below (T12.setTop (mkF m 574 #[vI p1, vI p2, vI p3, vJ q4, vS, vJ q5, vS, vI p6, vI nx, vI mx, vI kx, vI px, vI c0, vI off, vI c1, vI dx, vI c2, vJ w0, vS, vJ w1, vS, vR ba, vR bw, vR bA, vR ps, .val (.long (if kx = (0 : Int32) then w0 else w1)), vS, .val (.int (kx <<< ((8 : Int32) &&& 31))), .val (.int (1 : Int32)), .val (.int ((1 : Int32) - kx)), .val (.long (if ((1 : Int32) - kx) = (0 : Int32) then w0 else w1)), vS, .val (.int (((1 : Int32) - kx) <<< ((8 : Int32) &&& 31)))] [(.int (1 : Int32))])) _
    refine XS.istore X12.here hx rfl (hb hby at_574) rfl (l' := #[vI p1, vI p2, vI p3, vJ q4, vS, vJ q5, vS, vI p6, vI nx, vI mx, vI kx, vI px, vI c0, vI off, vI c1, vI dx, vI c2, vJ w0, vS, vJ w1, vS, vR ba, vR bw, vR bA, vR ps, .val (.long (if kx = (0 : Int32) then w0 else w1)), vS, .val (.int (kx <<< ((8 : Int32) &&& 31))), .val (.int (1 : Int32)), .val (.int ((1 : Int32) - kx)), .val (.long (if ((1 : Int32) - kx) = (0 : Int32) then w0 else w1)), vS, .val (.int (((1 : Int32) - kx) <<< ((8 : Int32) &&& 31)))]) rfl ?_
    show Steps p.tables e below (T12.setTop (mkF m 576 #[vI p1, vI p2, vI p3, vJ q4, vS, vJ q5, vS, vI p6, vI nx, vI mx, vI kx, vI px, vI c0, vI off, vI c1, vI dx, vI c2, vJ w0, vS, vJ w1, vS, vR ba, vR bw, vR bA, vR ps, .val (.long (if kx = (0 : Int32) then w0 else w1)), vS, .val (.int (kx <<< ((8 : Int32) &&& 31))), .val (.int (1 : Int32)), .val (.int ((1 : Int32) - kx)), .val (.long (if ((1 : Int32) - kx) = (0 : Int32) then w0 else w1)), vS, .val (.int (((1 : Int32) - kx) <<< ((8 : Int32) &&& 31)))] [])) _
    exact k
  exact ⟨T12, h0, _, X12, e12, N12, K0, A_t, P14⟩
theorem pn_0 : plainName "com/example/basewright/basewright/AlphabetWeightedValuesPinLaw" = true := by first | (simp [plainName, overriddenIn]; done) | decide +kernel
theorem ef_0 (m : MethodId) (x0 : Int32) (x1 : Int32) (x2 : Int32) (x3 : Int64) (x4 : Int64) (x5 : Int32) : entryFrame m #[(.int x0), (.int x1), (.int x2), (.long x3), (.long x4), (.int x5)] maxLocals = mkF m 0 #[.val (.int x0), .val (.int x1), .val (.int x2), .val (.long x3), .second, .val (.long x4), .second, .val (.int x5), .unset, .unset, .unset, .unset, .unset, .unset, .unset, .unset, .unset, .unset, .unset, .unset, .unset, .unset, .unset, .unset, .unset, .unset, .unset, .unset, .unset, .unset, .unset, .unset, .unset] [] := by first | (simp [entryFrame, mkF, argsToLocals, Value.category, maxLocals]; done) | rfl
def Q0 (Z : State) (p1 : Int32) (p2 : Int32) (p3 : Int32) (q4 : Int64) (q5 : Int64) (p6 : Int32) (ccs : Int32) (wA : Addr) (wU : Addr) (wI : Addr) (h0 : Heap) (n0 : Nat) (v : Option Value) (h : Heap) (L : List Loc) : Prop := v = some (.int 1) ∧ Fr n0 L
set_option maxRecDepth 65536 in
set_option maxHeartbeats 40000000 in
theorem rm0 (l : Launch) (Z : State) (a0 : Array Value) (hw : ∀ d ∈ tables_1, d.before a0 Z = true) (ws : List Jvm.Cond) (p1 : Int32) (p2 : Int32) (p3 : Int32) (q4 : Int64) (q5 : Int64) (p6 : Int32) (ccs : Int32) (wA : Addr) (wU : Addr) (wI : Addr) (h0 : Heap) (n0 : Nat) (Z0 : n0 ≤ h0.size) (O0 : Old Z n0 h0) (S_H : Sta Z Z.heap "java/nio/charset/StandardCharsets" "US_ASCII" "Ljava/nio/charset/Charset;" (.ref wA)) (S_wU : Sta Z Z.heap "sun/nio/cs/UTF_8" "INSTANCE" "Lsun/nio/cs/UTF_8;" (.ref wU)) (S_wI : Sta Z Z.heap "sun/nio/cs/ISO_8859_1" "INSTANCE" "Lsun/nio/cs/ISO_8859_1;" (.ref wI)) (S_wA : Sta Z Z.heap "sun/nio/cs/US_ASCII" "INSTANCE" "Lsun/nio/cs/US_ASCII;" (.ref wA)) (neU : ¬ wA = wU) (neI : ¬ wA = wI) (S_cs : Sta Z Z.heap "java/lang/String" "COMPACT_STRINGS" "Z" (.int ccs)) (hcc : ¬ ccs = (0 : Int32)) (hfl : ¬ (p6 &&& (3 : Int32)) = (0 : Int32)) :
    MetFree l x (head1 (Jvm.Cond.code x code maxLocals ret :: ws) room_1) (fun a U => a = #[(.int p1), (.int p2), (.int p3), (.long q4), (.long q5), (.int p6)] ∧ Z.Warmed39 U.vm ∧ U.heap = h0) (fun _ _ _ _ _ => True) (fun _ U o U' => ∃ v L, o = .returned v ∧ Q0 Z p1 p2 p3 q4 q5 p6 ccs wA wU wI h0 n0 v U'.heap L ∧ FrameEnd U o U' L room_1.cells room_1.slots) := by
  refine MetFree.of_bodySF (plainFor_of_name pn_0) hisR ?_
  intro p e s m args below meth c s₁ Bd hml0 hP hK
  obtain ⟨rfl, hZ, hh⟩ := hP
  have hx := Bd.exec
  have hby := Bd.bytes
  have hml : c.maxLocals = 33 := hml0
  have hown : s.vm.findClass "com/example/basewright/basewright/AlphabetWeightedValuesPinLaw" = some m.cls := findClass_of_methodNamed Bd.named
  have hnm := (name_of_methodNamed Bd.named Bd.method).1
  have X0 : Stand p l e room_1 s m #[(.int p1), (.int p2), (.int p3), (.long q4), (.long q5), (.int p6)] below meth c s₁ [] 0 0 := Stand.of_body Bd
  have e0 : s₁.heap = h0 := by rw [← hh, Bd.state]; rfl
  have N0 := Fr.nil n0
  have K0 : Keep h0 h0 [] := Keep.refl _ _
  have P0 : ∀ t, Steps p.tables e below (s₁.setTop (mkF m 0 #[vI p1, vI p2, vI p3, vJ q4, vS, vJ q5, vS, vI p6, vU, vU, vU, vU, vU, vU, vU, vU, vU, vU, vU, vU, vU, vU, vU, vU, vU, vU, vU, vU, vU, vU, vU, vU, vU] [])) t → Steps p.tables e below (s₁.setTop (entryFrame m #[(.int p1), (.int p2), (.int p3), (.long q4), (.long q5), (.int p6)] maxLocals)) t := fun t k => castTop (ef_0 m p1 p2 p3 q4 q5 p6) k
  have P1 : ∀ t, Steps p.tables e below (s₁.setTop (mkF m 6 #[vI p1, vI p2, vI p3, vJ q4, vS, vJ q5, vS, vI p6, .val (.int (p6 &&& (3 : Int32))), vU, vU, vU, vU, vU, vU, vU, vU, vU, vU, vU, vU, vU, vU, vU, vU, vU, vU, vU, vU, vU, vU, vU, vU] [])) t → Steps p.tables e below (s₁.setTop (entryFrame m #[(.int p1), (.int p2), (.int p3), (.long q4), (.long q5), (.int p6)] maxLocals)) t := by
    intro t k
    refine P0 _ ?_
    refine XS.iload X0.here hx rfl (hb hby at_0) rfl ?_
    show Steps p.tables e below (s₁.setTop (mkF m 2 #[vI p1, vI p2, vI p3, vJ q4, vS, vJ q5, vS, vI p6, vU, vU, vU, vU, vU, vU, vU, vU, vU, vU, vU, vU, vU, vU, vU, vU, vU, vU, vU, vU, vU, vU, vU, vU, vU] [(.int p6)])) _
    refine XS.iconst X0.here hx rfl (hb hby at_2) ?_
    show Steps p.tables e below (s₁.setTop (mkF m 3 #[vI p1, vI p2, vI p3, vJ q4, vS, vJ q5, vS, vI p6, vU, vU, vU, vU, vU, vU, vU, vU, vU, vU, vU, vU, vU, vU, vU, vU, vU, vU, vU, vU, vU, vU, vU, vU, vU] [(.int (3 : Int32)), (.int p6)])) _
    refine XS.iand X0.here hx rfl (hb hby at_3) rfl ?_
    show Steps p.tables e below (s₁.setTop (mkF m 4 #[vI p1, vI p2, vI p3, vJ q4, vS, vJ q5, vS, vI p6, vU, vU, vU, vU, vU, vU, vU, vU, vU, vU, vU, vU, vU, vU, vU, vU, vU, vU, vU, vU, vU, vU, vU, vU, vU] [(.int (p6 &&& (3 : Int32)))])) _
    refine XS.istore X0.here hx rfl (hb hby at_4) rfl (l' := #[vI p1, vI p2, vI p3, vJ q4, vS, vJ q5, vS, vI p6, .val (.int (p6 &&& (3 : Int32))), vU, vU, vU, vU, vU, vU, vU, vU, vU, vU, vU, vU, vU, vU, vU, vU, vU, vU, vU, vU, vU, vU, vU, vU]) rfl ?_
    show Steps p.tables e below (s₁.setTop (mkF m 6 #[vI p1, vI p2, vI p3, vJ q4, vS, vJ q5, vS, vI p6, .val (.int (p6 &&& (3 : Int32))), vU, vU, vU, vU, vU, vU, vU, vU, vU, vU, vU, vU, vU, vU, vU, vU, vU, vU, vU, vU, vU, vU, vU, vU] [])) _
    exact k
  obtain ⟨nx, hnx⟩ : ∃ z : Int32, z = (p6 &&& (3 : Int32)) := ⟨_, rfl⟩
  rw [← hnx] at P1
  have hone : ¬ nx = (0 : Int32) := fun q => hfl (hnx.symm.trans q)
  have P2 : ∀ t, Steps p.tables e below (s₁.setTop (mkF m 16 #[vI p1, vI p2, vI p3, vJ q4, vS, vJ q5, vS, vI p6, vI nx, .val (.int ((1 : Int32) + ((p6 >>> ((2 : Int32) &&& 31)) &&& (1 : Int32)))), vU, vU, vU, vU, vU, vU, vU, vU, vU, vU, vU, vU, vU, vU, vU, vU, vU, vU, vU, vU, vU, vU, vU] [])) t → Steps p.tables e below (s₁.setTop (entryFrame m #[(.int p1), (.int p2), (.int p3), (.long q4), (.long q5), (.int p6)] maxLocals)) t := by
    intro t k
    refine P1 _ ?_
    refine XS.iconst X0.here hx rfl (hb hby at_6) ?_
    show Steps p.tables e below (s₁.setTop (mkF m 7 #[vI p1, vI p2, vI p3, vJ q4, vS, vJ q5, vS, vI p6, vI nx, vU, vU, vU, vU, vU, vU, vU, vU, vU, vU, vU, vU, vU, vU, vU, vU, vU, vU, vU, vU, vU, vU, vU, vU] [(.int (1 : Int32))])) _
    refine XS.iload X0.here hx rfl (hb hby at_7) rfl ?_
    show Steps p.tables e below (s₁.setTop (mkF m 9 #[vI p1, vI p2, vI p3, vJ q4, vS, vJ q5, vS, vI p6, vI nx, vU, vU, vU, vU, vU, vU, vU, vU, vU, vU, vU, vU, vU, vU, vU, vU, vU, vU, vU, vU, vU, vU, vU, vU] [(.int p6), (.int (1 : Int32))])) _
    refine XS.iconst X0.here hx rfl (hb hby at_9) ?_
    show Steps p.tables e below (s₁.setTop (mkF m 10 #[vI p1, vI p2, vI p3, vJ q4, vS, vJ q5, vS, vI p6, vI nx, vU, vU, vU, vU, vU, vU, vU, vU, vU, vU, vU, vU, vU, vU, vU, vU, vU, vU, vU, vU, vU, vU, vU, vU] [(.int (2 : Int32)), (.int p6), (.int (1 : Int32))])) _
    refine XT.ishr X0.here hx rfl (hb hby at_10) rfl ?_
    show Steps p.tables e below (s₁.setTop (mkF m 11 #[vI p1, vI p2, vI p3, vJ q4, vS, vJ q5, vS, vI p6, vI nx, vU, vU, vU, vU, vU, vU, vU, vU, vU, vU, vU, vU, vU, vU, vU, vU, vU, vU, vU, vU, vU, vU, vU, vU] [(.int (p6 >>> ((2 : Int32) &&& 31))), (.int (1 : Int32))])) _
    refine XS.iconst X0.here hx rfl (hb hby at_11) ?_
    show Steps p.tables e below (s₁.setTop (mkF m 12 #[vI p1, vI p2, vI p3, vJ q4, vS, vJ q5, vS, vI p6, vI nx, vU, vU, vU, vU, vU, vU, vU, vU, vU, vU, vU, vU, vU, vU, vU, vU, vU, vU, vU, vU, vU, vU, vU, vU] [(.int (1 : Int32)), (.int (p6 >>> ((2 : Int32) &&& 31))), (.int (1 : Int32))])) _
    refine XS.iand X0.here hx rfl (hb hby at_12) rfl ?_
    show Steps p.tables e below (s₁.setTop (mkF m 13 #[vI p1, vI p2, vI p3, vJ q4, vS, vJ q5, vS, vI p6, vI nx, vU, vU, vU, vU, vU, vU, vU, vU, vU, vU, vU, vU, vU, vU, vU, vU, vU, vU, vU, vU, vU, vU, vU, vU] [(.int ((p6 >>> ((2 : Int32) &&& 31)) &&& (1 : Int32))), (.int (1 : Int32))])) _
    refine XS.iadd X0.here hx rfl (hb hby at_13) rfl ?_
    show Steps p.tables e below (s₁.setTop (mkF m 14 #[vI p1, vI p2, vI p3, vJ q4, vS, vJ q5, vS, vI p6, vI nx, vU, vU, vU, vU, vU, vU, vU, vU, vU, vU, vU, vU, vU, vU, vU, vU, vU, vU, vU, vU, vU, vU, vU, vU] [(.int ((1 : Int32) + ((p6 >>> ((2 : Int32) &&& 31)) &&& (1 : Int32))))])) _
    refine XS.istore X0.here hx rfl (hb hby at_14) rfl (l' := #[vI p1, vI p2, vI p3, vJ q4, vS, vJ q5, vS, vI p6, vI nx, .val (.int ((1 : Int32) + ((p6 >>> ((2 : Int32) &&& 31)) &&& (1 : Int32)))), vU, vU, vU, vU, vU, vU, vU, vU, vU, vU, vU, vU, vU, vU, vU, vU, vU, vU, vU, vU, vU, vU, vU]) rfl ?_
    show Steps p.tables e below (s₁.setTop (mkF m 16 #[vI p1, vI p2, vI p3, vJ q4, vS, vJ q5, vS, vI p6, vI nx, .val (.int ((1 : Int32) + ((p6 >>> ((2 : Int32) &&& 31)) &&& (1 : Int32)))), vU, vU, vU, vU, vU, vU, vU, vU, vU, vU, vU, vU, vU, vU, vU, vU, vU, vU, vU, vU, vU, vU, vU] [])) _
    exact k
  obtain ⟨mx, hmx⟩ : ∃ z : Int32, z = ((1 : Int32) + ((p6 >>> ((2 : Int32) &&& 31)) &&& (1 : Int32))) := ⟨_, rfl⟩
  rw [← hmx] at P2
  have hm12 := own_mx hmx
  have hmz := own_mz hm12
  have P3 : ∀ t, Steps p.tables e below (s₁.setTop (mkF m 27 #[vI p1, vI p2, vI p3, vJ q4, vS, vJ q5, vS, vI p6, vI nx, vI mx, .val (.int (((p6 >>> ((3 : Int32) &&& 31)) &&& (1 : Int32)) % mx)), vU, vU, vU, vU, vU, vU, vU, vU, vU, vU, vU, vU, vU, vU, vU, vU, vU, vU, vU, vU, vU, vU] [])) t → Steps p.tables e below (s₁.setTop (entryFrame m #[(.int p1), (.int p2), (.int p3), (.long q4), (.long q5), (.int p6)] maxLocals)) t := by
    intro t k
    refine P2 _ ?_
    refine XS.iload X0.here hx rfl (hb hby at_16) rfl ?_
    show Steps p.tables e below (s₁.setTop (mkF m 18 #[vI p1, vI p2, vI p3, vJ q4, vS, vJ q5, vS, vI p6, vI nx, vI mx, vU, vU, vU, vU, vU, vU, vU, vU, vU, vU, vU, vU, vU, vU, vU, vU, vU, vU, vU, vU, vU, vU, vU] [(.int p6)])) _
    refine XS.iconst X0.here hx rfl (hb hby at_18) ?_
    show Steps p.tables e below (s₁.setTop (mkF m 19 #[vI p1, vI p2, vI p3, vJ q4, vS, vJ q5, vS, vI p6, vI nx, vI mx, vU, vU, vU, vU, vU, vU, vU, vU, vU, vU, vU, vU, vU, vU, vU, vU, vU, vU, vU, vU, vU, vU, vU] [(.int (3 : Int32)), (.int p6)])) _
    refine XT.ishr X0.here hx rfl (hb hby at_19) rfl ?_
    show Steps p.tables e below (s₁.setTop (mkF m 20 #[vI p1, vI p2, vI p3, vJ q4, vS, vJ q5, vS, vI p6, vI nx, vI mx, vU, vU, vU, vU, vU, vU, vU, vU, vU, vU, vU, vU, vU, vU, vU, vU, vU, vU, vU, vU, vU, vU, vU] [(.int (p6 >>> ((3 : Int32) &&& 31)))])) _
    refine XS.iconst X0.here hx rfl (hb hby at_20) ?_
    show Steps p.tables e below (s₁.setTop (mkF m 21 #[vI p1, vI p2, vI p3, vJ q4, vS, vJ q5, vS, vI p6, vI nx, vI mx, vU, vU, vU, vU, vU, vU, vU, vU, vU, vU, vU, vU, vU, vU, vU, vU, vU, vU, vU, vU, vU, vU, vU] [(.int (1 : Int32)), (.int (p6 >>> ((3 : Int32) &&& 31)))])) _
    refine XS.iand X0.here hx rfl (hb hby at_21) rfl ?_
    show Steps p.tables e below (s₁.setTop (mkF m 22 #[vI p1, vI p2, vI p3, vJ q4, vS, vJ q5, vS, vI p6, vI nx, vI mx, vU, vU, vU, vU, vU, vU, vU, vU, vU, vU, vU, vU, vU, vU, vU, vU, vU, vU, vU, vU, vU, vU, vU] [(.int ((p6 >>> ((3 : Int32) &&& 31)) &&& (1 : Int32)))])) _
    refine XS.iload X0.here hx rfl (hb hby at_22) rfl ?_
    show Steps p.tables e below (s₁.setTop (mkF m 24 #[vI p1, vI p2, vI p3, vJ q4, vS, vJ q5, vS, vI p6, vI nx, vI mx, vU, vU, vU, vU, vU, vU, vU, vU, vU, vU, vU, vU, vU, vU, vU, vU, vU, vU, vU, vU, vU, vU, vU] [(.int mx), (.int ((p6 >>> ((3 : Int32) &&& 31)) &&& (1 : Int32)))])) _
    refine iremM X0 hx rfl (hb hby at_24) rfl hmz ?_
    show Steps p.tables e below (s₁.setTop (mkF m 25 #[vI p1, vI p2, vI p3, vJ q4, vS, vJ q5, vS, vI p6, vI nx, vI mx, vU, vU, vU, vU, vU, vU, vU, vU, vU, vU, vU, vU, vU, vU, vU, vU, vU, vU, vU, vU, vU, vU, vU] [(.int (((p6 >>> ((3 : Int32) &&& 31)) &&& (1 : Int32)) % mx))])) _
    refine XS.istore X0.here hx rfl (hb hby at_25) rfl (l' := #[vI p1, vI p2, vI p3, vJ q4, vS, vJ q5, vS, vI p6, vI nx, vI mx, .val (.int (((p6 >>> ((3 : Int32) &&& 31)) &&& (1 : Int32)) % mx)), vU, vU, vU, vU, vU, vU, vU, vU, vU, vU, vU, vU, vU, vU, vU, vU, vU, vU, vU, vU, vU, vU]) rfl ?_
    show Steps p.tables e below (s₁.setTop (mkF m 27 #[vI p1, vI p2, vI p3, vJ q4, vS, vJ q5, vS, vI p6, vI nx, vI mx, .val (.int (((p6 >>> ((3 : Int32) &&& 31)) &&& (1 : Int32)) % mx)), vU, vU, vU, vU, vU, vU, vU, vU, vU, vU, vU, vU, vU, vU, vU, vU, vU, vU, vU, vU, vU, vU] [])) _
    exact k
  obtain ⟨kx, hkx⟩ : ∃ z : Int32, z = (((p6 >>> ((3 : Int32) &&& 31)) &&& (1 : Int32)) % mx) := ⟨_, rfl⟩
  rw [← hkx] at P3
  obtain ⟨kk, hkk, hkm0, hk1⟩ := own_kx hkx hm12
  have P4 : ∀ t, Steps p.tables e below (s₁.setTop (mkF m 37 #[vI p1, vI p2, vI p3, vJ q4, vS, vJ q5, vS, vI p6, vI nx, vI mx, vI kx, .val (.int ((p6 >>> ((4 : Int32) &&& 31)) &&& (255 : Int32))), vU, vU, vU, vU, vU, vU, vU, vU, vU, vU, vU, vU, vU, vU, vU, vU, vU, vU, vU, vU, vU] [])) t → Steps p.tables e below (s₁.setTop (entryFrame m #[(.int p1), (.int p2), (.int p3), (.long q4), (.long q5), (.int p6)] maxLocals)) t := by
    intro t k
    refine P3 _ ?_
    refine XS.iload X0.here hx rfl (hb hby at_27) rfl ?_
    show Steps p.tables e below (s₁.setTop (mkF m 29 #[vI p1, vI p2, vI p3, vJ q4, vS, vJ q5, vS, vI p6, vI nx, vI mx, vI kx, vU, vU, vU, vU, vU, vU, vU, vU, vU, vU, vU, vU, vU, vU, vU, vU, vU, vU, vU, vU, vU, vU] [(.int p6)])) _
    refine XS.iconst X0.here hx rfl (hb hby at_29) ?_
    show Steps p.tables e below (s₁.setTop (mkF m 30 #[vI p1, vI p2, vI p3, vJ q4, vS, vJ q5, vS, vI p6, vI nx, vI mx, vI kx, vU, vU, vU, vU, vU, vU, vU, vU, vU, vU, vU, vU, vU, vU, vU, vU, vU, vU, vU, vU, vU, vU] [(.int (4 : Int32)), (.int p6)])) _
    refine XT.ishr X0.here hx rfl (hb hby at_30) rfl ?_
    show Steps p.tables e below (s₁.setTop (mkF m 31 #[vI p1, vI p2, vI p3, vJ q4, vS, vJ q5, vS, vI p6, vI nx, vI mx, vI kx, vU, vU, vU, vU, vU, vU, vU, vU, vU, vU, vU, vU, vU, vU, vU, vU, vU, vU, vU, vU, vU, vU] [(.int (p6 >>> ((4 : Int32) &&& 31)))])) _
    refine XS.sipush X0.here hx rfl (hb hby at_31) ?_
    show Steps p.tables e below (s₁.setTop (mkF m 34 #[vI p1, vI p2, vI p3, vJ q4, vS, vJ q5, vS, vI p6, vI nx, vI mx, vI kx, vU, vU, vU, vU, vU, vU, vU, vU, vU, vU, vU, vU, vU, vU, vU, vU, vU, vU, vU, vU, vU, vU] [(.int (255 : Int32)), (.int (p6 >>> ((4 : Int32) &&& 31)))])) _
    refine XS.iand X0.here hx rfl (hb hby at_34) rfl ?_
    show Steps p.tables e below (s₁.setTop (mkF m 35 #[vI p1, vI p2, vI p3, vJ q4, vS, vJ q5, vS, vI p6, vI nx, vI mx, vI kx, vU, vU, vU, vU, vU, vU, vU, vU, vU, vU, vU, vU, vU, vU, vU, vU, vU, vU, vU, vU, vU, vU] [(.int ((p6 >>> ((4 : Int32) &&& 31)) &&& (255 : Int32)))])) _
    refine XS.istore X0.here hx rfl (hb hby at_35) rfl (l' := #[vI p1, vI p2, vI p3, vJ q4, vS, vJ q5, vS, vI p6, vI nx, vI mx, vI kx, .val (.int ((p6 >>> ((4 : Int32) &&& 31)) &&& (255 : Int32))), vU, vU, vU, vU, vU, vU, vU, vU, vU, vU, vU, vU, vU, vU, vU, vU, vU, vU, vU, vU, vU]) rfl ?_
    show Steps p.tables e below (s₁.setTop (mkF m 37 #[vI p1, vI p2, vI p3, vJ q4, vS, vJ q5, vS, vI p6, vI nx, vI mx, vI kx, .val (.int ((p6 >>> ((4 : Int32) &&& 31)) &&& (255 : Int32))), vU, vU, vU, vU, vU, vU, vU, vU, vU, vU, vU, vU, vU, vU, vU, vU, vU, vU, vU, vU, vU] [])) _
    exact k
  obtain ⟨px, hpx⟩ : ∃ z : Int32, z = ((p6 >>> ((4 : Int32) &&& 31)) &&& (255 : Int32)) := ⟨_, rfl⟩
  rw [← hpx] at P4
  have kpx := own_h8 hpx
  have kp8 : 0 ≤ (px ||| (128 : Int32)).toInt ∧ (px ||| (128 : Int32)).toInt < 256 := ⟨by have := (own_or8 kpx).1; omega, (own_or8 kpx).2⟩
  have kp9 := (own_or8 kpx).1
  have P5 : ∀ t, Steps p.tables e below (s₁.setTop (mkF m 43 #[vI p1, vI p2, vI p3, vJ q4, vS, vJ q5, vS, vI p6, vI nx, vI mx, vI kx, vI px, .val (.int (p1 &&& (127 : Int32))), vU, vU, vU, vU, vU, vU, vU, vU, vU, vU, vU, vU, vU, vU, vU, vU, vU, vU, vU, vU] [])) t → Steps p.tables e below (s₁.setTop (entryFrame m #[(.int p1), (.int p2), (.int p3), (.long q4), (.long q5), (.int p6)] maxLocals)) t := by
    intro t k
    refine P4 _ ?_
    refine XS.iloadN X0.here hx rfl (hb hby at_37) rfl ?_
    show Steps p.tables e below (s₁.setTop (mkF m 38 #[vI p1, vI p2, vI p3, vJ q4, vS, vJ q5, vS, vI p6, vI nx, vI mx, vI kx, vI px, vU, vU, vU, vU, vU, vU, vU, vU, vU, vU, vU, vU, vU, vU, vU, vU, vU, vU, vU, vU, vU] [(.int p1)])) _
    refine XS.bipush X0.here hx rfl (hb hby at_38) ?_
    show Steps p.tables e below (s₁.setTop (mkF m 40 #[vI p1, vI p2, vI p3, vJ q4, vS, vJ q5, vS, vI p6, vI nx, vI mx, vI kx, vI px, vU, vU, vU, vU, vU, vU, vU, vU, vU, vU, vU, vU, vU, vU, vU, vU, vU, vU, vU, vU, vU] [(.int (127 : Int32)), (.int p1)])) _
    refine XS.iand X0.here hx rfl (hb hby at_40) rfl ?_
    show Steps p.tables e below (s₁.setTop (mkF m 41 #[vI p1, vI p2, vI p3, vJ q4, vS, vJ q5, vS, vI p6, vI nx, vI mx, vI kx, vI px, vU, vU, vU, vU, vU, vU, vU, vU, vU, vU, vU, vU, vU, vU, vU, vU, vU, vU, vU, vU, vU] [(.int (p1 &&& (127 : Int32)))])) _
    refine XS.istore X0.here hx rfl (hb hby at_41) rfl (l' := #[vI p1, vI p2, vI p3, vJ q4, vS, vJ q5, vS, vI p6, vI nx, vI mx, vI kx, vI px, .val (.int (p1 &&& (127 : Int32))), vU, vU, vU, vU, vU, vU, vU, vU, vU, vU, vU, vU, vU, vU, vU, vU, vU, vU, vU, vU]) rfl ?_
    show Steps p.tables e below (s₁.setTop (mkF m 43 #[vI p1, vI p2, vI p3, vJ q4, vS, vJ q5, vS, vI p6, vI nx, vI mx, vI kx, vI px, .val (.int (p1 &&& (127 : Int32))), vU, vU, vU, vU, vU, vU, vU, vU, vU, vU, vU, vU, vU, vU, vU, vU, vU, vU, vU, vU] [])) _
    exact k
  obtain ⟨c0, hc0⟩ : ∃ z : Int32, z = (p1 &&& (127 : Int32)) := ⟨_, rfl⟩
  rw [← hc0] at P5
  have kc0 := own_m7 hc0
  have P6 : ∀ t, Steps p.tables e below (s₁.setTop (mkF m 54 #[vI p1, vI p2, vI p3, vJ q4, vS, vJ q5, vS, vI p6, vI nx, vI mx, vI kx, vI px, vI c0, .val (.int ((1 : Int32) + ((p2 &&& (2147483647 : Int32)) % (127 : Int32)))), vU, vU, vU, vU, vU, vU, vU, vU, vU, vU, vU, vU, vU, vU, vU, vU, vU, vU, vU] [])) t → Steps p.tables e below (s₁.setTop (entryFrame m #[(.int p1), (.int p2), (.int p3), (.long q4), (.long q5), (.int p6)] maxLocals)) t := by
    intro t k
    refine P5 _ ?_
    refine XS.iconst X0.here hx rfl (hb hby at_43) ?_
    show Steps p.tables e below (s₁.setTop (mkF m 44 #[vI p1, vI p2, vI p3, vJ q4, vS, vJ q5, vS, vI p6, vI nx, vI mx, vI kx, vI px, vI c0, vU, vU, vU, vU, vU, vU, vU, vU, vU, vU, vU, vU, vU, vU, vU, vU, vU, vU, vU, vU] [(.int (1 : Int32))])) _
    refine XS.iloadN X0.here hx rfl (hb hby at_44) rfl ?_
    show Steps p.tables e below (s₁.setTop (mkF m 45 #[vI p1, vI p2, vI p3, vJ q4, vS, vJ q5, vS, vI p6, vI nx, vI mx, vI kx, vI px, vI c0, vU, vU, vU, vU, vU, vU, vU, vU, vU, vU, vU, vU, vU, vU, vU, vU, vU, vU, vU, vU] [(.int p2), (.int (1 : Int32))])) _
    refine Jvm.Stand.ldcI X0 hx hown (mvT hZ (hw _ (List.mem_of_getElem? (i := 0) rfl))) rfl (hb hby at_45) ?_
    show Steps p.tables e below (s₁.setTop (mkF m 47 #[vI p1, vI p2, vI p3, vJ q4, vS, vJ q5, vS, vI p6, vI nx, vI mx, vI kx, vI px, vI c0, vU, vU, vU, vU, vU, vU, vU, vU, vU, vU, vU, vU, vU, vU, vU, vU, vU, vU, vU, vU] [(.int (2147483647 : Int32)), (.int p2), (.int (1 : Int32))])) _
    refine XS.iand X0.here hx rfl (hb hby at_47) rfl ?_
    show Steps p.tables e below (s₁.setTop (mkF m 48 #[vI p1, vI p2, vI p3, vJ q4, vS, vJ q5, vS, vI p6, vI nx, vI mx, vI kx, vI px, vI c0, vU, vU, vU, vU, vU, vU, vU, vU, vU, vU, vU, vU, vU, vU, vU, vU, vU, vU, vU, vU] [(.int (p2 &&& (2147483647 : Int32))), (.int (1 : Int32))])) _
    refine XS.bipush X0.here hx rfl (hb hby at_48) ?_
    show Steps p.tables e below (s₁.setTop (mkF m 50 #[vI p1, vI p2, vI p3, vJ q4, vS, vJ q5, vS, vI p6, vI nx, vI mx, vI kx, vI px, vI c0, vU, vU, vU, vU, vU, vU, vU, vU, vU, vU, vU, vU, vU, vU, vU, vU, vU, vU, vU, vU] [(.int (127 : Int32)), (.int (p2 &&& (2147483647 : Int32))), (.int (1 : Int32))])) _
    refine iremM X0 hx rfl (hb hby at_50) rfl (by decide) ?_
    show Steps p.tables e below (s₁.setTop (mkF m 51 #[vI p1, vI p2, vI p3, vJ q4, vS, vJ q5, vS, vI p6, vI nx, vI mx, vI kx, vI px, vI c0, vU, vU, vU, vU, vU, vU, vU, vU, vU, vU, vU, vU, vU, vU, vU, vU, vU, vU, vU, vU] [(.int ((p2 &&& (2147483647 : Int32)) % (127 : Int32))), (.int (1 : Int32))])) _
    refine XS.iadd X0.here hx rfl (hb hby at_51) rfl ?_
    show Steps p.tables e below (s₁.setTop (mkF m 52 #[vI p1, vI p2, vI p3, vJ q4, vS, vJ q5, vS, vI p6, vI nx, vI mx, vI kx, vI px, vI c0, vU, vU, vU, vU, vU, vU, vU, vU, vU, vU, vU, vU, vU, vU, vU, vU, vU, vU, vU, vU] [(.int ((1 : Int32) + ((p2 &&& (2147483647 : Int32)) % (127 : Int32))))])) _
    refine XS.istore X0.here hx rfl (hb hby at_52) rfl (l' := #[vI p1, vI p2, vI p3, vJ q4, vS, vJ q5, vS, vI p6, vI nx, vI mx, vI kx, vI px, vI c0, .val (.int ((1 : Int32) + ((p2 &&& (2147483647 : Int32)) % (127 : Int32)))), vU, vU, vU, vU, vU, vU, vU, vU, vU, vU, vU, vU, vU, vU, vU, vU, vU, vU, vU]) rfl ?_
    show Steps p.tables e below (s₁.setTop (mkF m 54 #[vI p1, vI p2, vI p3, vJ q4, vS, vJ q5, vS, vI p6, vI nx, vI mx, vI kx, vI px, vI c0, .val (.int ((1 : Int32) + ((p2 &&& (2147483647 : Int32)) % (127 : Int32)))), vU, vU, vU, vU, vU, vU, vU, vU, vU, vU, vU, vU, vU, vU, vU, vU, vU, vU, vU] [])) _
    exact k
  obtain ⟨off, hoff⟩ : ∃ z : Int32, z = ((1 : Int32) + ((p2 &&& (2147483647 : Int32)) % (127 : Int32))) := ⟨_, rfl⟩
  rw [← hoff] at P6
  have P7 : ∀ t, Steps p.tables e below (s₁.setTop (mkF m 64 #[vI p1, vI p2, vI p3, vJ q4, vS, vJ q5, vS, vI p6, vI nx, vI mx, vI kx, vI px, vI c0, vI off, .val (.int ((c0 + off) &&& (127 : Int32))), vU, vU, vU, vU, vU, vU, vU, vU, vU, vU, vU, vU, vU, vU, vU, vU, vU, vU] [])) t → Steps p.tables e below (s₁.setTop (entryFrame m #[(.int p1), (.int p2), (.int p3), (.long q4), (.long q5), (.int p6)] maxLocals)) t := by
    intro t k
    refine P6 _ ?_
    refine XS.iload X0.here hx rfl (hb hby at_54) rfl ?_
    show Steps p.tables e below (s₁.setTop (mkF m 56 #[vI p1, vI p2, vI p3, vJ q4, vS, vJ q5, vS, vI p6, vI nx, vI mx, vI kx, vI px, vI c0, vI off, vU, vU, vU, vU, vU, vU, vU, vU, vU, vU, vU, vU, vU, vU, vU, vU, vU, vU, vU] [(.int c0)])) _
    refine XS.iload X0.here hx rfl (hb hby at_56) rfl ?_
    show Steps p.tables e below (s₁.setTop (mkF m 58 #[vI p1, vI p2, vI p3, vJ q4, vS, vJ q5, vS, vI p6, vI nx, vI mx, vI kx, vI px, vI c0, vI off, vU, vU, vU, vU, vU, vU, vU, vU, vU, vU, vU, vU, vU, vU, vU, vU, vU, vU, vU] [(.int off), (.int c0)])) _
    refine XS.iadd X0.here hx rfl (hb hby at_58) rfl ?_
    show Steps p.tables e below (s₁.setTop (mkF m 59 #[vI p1, vI p2, vI p3, vJ q4, vS, vJ q5, vS, vI p6, vI nx, vI mx, vI kx, vI px, vI c0, vI off, vU, vU, vU, vU, vU, vU, vU, vU, vU, vU, vU, vU, vU, vU, vU, vU, vU, vU, vU] [(.int (c0 + off))])) _
    refine XS.bipush X0.here hx rfl (hb hby at_59) ?_
    show Steps p.tables e below (s₁.setTop (mkF m 61 #[vI p1, vI p2, vI p3, vJ q4, vS, vJ q5, vS, vI p6, vI nx, vI mx, vI kx, vI px, vI c0, vI off, vU, vU, vU, vU, vU, vU, vU, vU, vU, vU, vU, vU, vU, vU, vU, vU, vU, vU, vU] [(.int (127 : Int32)), (.int (c0 + off))])) _
    refine XS.iand X0.here hx rfl (hb hby at_61) rfl ?_
    show Steps p.tables e below (s₁.setTop (mkF m 62 #[vI p1, vI p2, vI p3, vJ q4, vS, vJ q5, vS, vI p6, vI nx, vI mx, vI kx, vI px, vI c0, vI off, vU, vU, vU, vU, vU, vU, vU, vU, vU, vU, vU, vU, vU, vU, vU, vU, vU, vU, vU] [(.int ((c0 + off) &&& (127 : Int32)))])) _
    refine XS.istore X0.here hx rfl (hb hby at_62) rfl (l' := #[vI p1, vI p2, vI p3, vJ q4, vS, vJ q5, vS, vI p6, vI nx, vI mx, vI kx, vI px, vI c0, vI off, .val (.int ((c0 + off) &&& (127 : Int32))), vU, vU, vU, vU, vU, vU, vU, vU, vU, vU, vU, vU, vU, vU, vU, vU, vU, vU]) rfl ?_
    show Steps p.tables e below (s₁.setTop (mkF m 64 #[vI p1, vI p2, vI p3, vJ q4, vS, vJ q5, vS, vI p6, vI nx, vI mx, vI kx, vI px, vI c0, vI off, .val (.int ((c0 + off) &&& (127 : Int32))), vU, vU, vU, vU, vU, vU, vU, vU, vU, vU, vU, vU, vU, vU, vU, vU, vU, vU] [])) _
    exact k
  obtain ⟨c1, hc1⟩ : ∃ z : Int32, z = ((c0 + off) &&& (127 : Int32)) := ⟨_, rfl⟩
  rw [← hc1] at P7
  have kc1 := own_m7 hc1
  have P8 : ∀ t, Steps p.tables e below (s₁.setTop (mkF m 75 #[vI p1, vI p2, vI p3, vJ q4, vS, vJ q5, vS, vI p6, vI nx, vI mx, vI kx, vI px, vI c0, vI off, vI c1, .val (.int ((1 : Int32) + ((p3 &&& (2147483647 : Int32)) % (126 : Int32)))), vU, vU, vU, vU, vU, vU, vU, vU, vU, vU, vU, vU, vU, vU, vU, vU, vU] [])) t → Steps p.tables e below (s₁.setTop (entryFrame m #[(.int p1), (.int p2), (.int p3), (.long q4), (.long q5), (.int p6)] maxLocals)) t := by
    intro t k
    refine P7 _ ?_
    refine XS.iconst X0.here hx rfl (hb hby at_64) ?_
    show Steps p.tables e below (s₁.setTop (mkF m 65 #[vI p1, vI p2, vI p3, vJ q4, vS, vJ q5, vS, vI p6, vI nx, vI mx, vI kx, vI px, vI c0, vI off, vI c1, vU, vU, vU, vU, vU, vU, vU, vU, vU, vU, vU, vU, vU, vU, vU, vU, vU, vU] [(.int (1 : Int32))])) _
    refine XS.iloadN X0.here hx rfl (hb hby at_65) rfl ?_
    show Steps p.tables e below (s₁.setTop (mkF m 66 #[vI p1, vI p2, vI p3, vJ q4, vS, vJ q5, vS, vI p6, vI nx, vI mx, vI kx, vI px, vI c0, vI off, vI c1, vU, vU, vU, vU, vU, vU, vU, vU, vU, vU, vU, vU, vU, vU, vU, vU, vU, vU] [(.int p3), (.int (1 : Int32))])) _
    refine Jvm.Stand.ldcI X0 hx hown (mvT hZ (hw _ (List.mem_of_getElem? (i := 0) rfl))) rfl (hb hby at_66) ?_
    show Steps p.tables e below (s₁.setTop (mkF m 68 #[vI p1, vI p2, vI p3, vJ q4, vS, vJ q5, vS, vI p6, vI nx, vI mx, vI kx, vI px, vI c0, vI off, vI c1, vU, vU, vU, vU, vU, vU, vU, vU, vU, vU, vU, vU, vU, vU, vU, vU, vU, vU] [(.int (2147483647 : Int32)), (.int p3), (.int (1 : Int32))])) _
    refine XS.iand X0.here hx rfl (hb hby at_68) rfl ?_
    show Steps p.tables e below (s₁.setTop (mkF m 69 #[vI p1, vI p2, vI p3, vJ q4, vS, vJ q5, vS, vI p6, vI nx, vI mx, vI kx, vI px, vI c0, vI off, vI c1, vU, vU, vU, vU, vU, vU, vU, vU, vU, vU, vU, vU, vU, vU, vU, vU, vU, vU] [(.int (p3 &&& (2147483647 : Int32))), (.int (1 : Int32))])) _
    refine XS.bipush X0.here hx rfl (hb hby at_69) ?_
    show Steps p.tables e below (s₁.setTop (mkF m 71 #[vI p1, vI p2, vI p3, vJ q4, vS, vJ q5, vS, vI p6, vI nx, vI mx, vI kx, vI px, vI c0, vI off, vI c1, vU, vU, vU, vU, vU, vU, vU, vU, vU, vU, vU, vU, vU, vU, vU, vU, vU, vU] [(.int (126 : Int32)), (.int (p3 &&& (2147483647 : Int32))), (.int (1 : Int32))])) _
    refine iremM X0 hx rfl (hb hby at_71) rfl (by decide) ?_
    show Steps p.tables e below (s₁.setTop (mkF m 72 #[vI p1, vI p2, vI p3, vJ q4, vS, vJ q5, vS, vI p6, vI nx, vI mx, vI kx, vI px, vI c0, vI off, vI c1, vU, vU, vU, vU, vU, vU, vU, vU, vU, vU, vU, vU, vU, vU, vU, vU, vU, vU] [(.int ((p3 &&& (2147483647 : Int32)) % (126 : Int32))), (.int (1 : Int32))])) _
    refine XS.iadd X0.here hx rfl (hb hby at_72) rfl ?_
    show Steps p.tables e below (s₁.setTop (mkF m 73 #[vI p1, vI p2, vI p3, vJ q4, vS, vJ q5, vS, vI p6, vI nx, vI mx, vI kx, vI px, vI c0, vI off, vI c1, vU, vU, vU, vU, vU, vU, vU, vU, vU, vU, vU, vU, vU, vU, vU, vU, vU, vU] [(.int ((1 : Int32) + ((p3 &&& (2147483647 : Int32)) % (126 : Int32))))])) _
    refine XS.istore X0.here hx rfl (hb hby at_73) rfl (l' := #[vI p1, vI p2, vI p3, vJ q4, vS, vJ q5, vS, vI p6, vI nx, vI mx, vI kx, vI px, vI c0, vI off, vI c1, .val (.int ((1 : Int32) + ((p3 &&& (2147483647 : Int32)) % (126 : Int32)))), vU, vU, vU, vU, vU, vU, vU, vU, vU, vU, vU, vU, vU, vU, vU, vU, vU]) rfl ?_
    show Steps p.tables e below (s₁.setTop (mkF m 75 #[vI p1, vI p2, vI p3, vJ q4, vS, vJ q5, vS, vI p6, vI nx, vI mx, vI kx, vI px, vI c0, vI off, vI c1, .val (.int ((1 : Int32) + ((p3 &&& (2147483647 : Int32)) % (126 : Int32)))), vU, vU, vU, vU, vU, vU, vU, vU, vU, vU, vU, vU, vU, vU, vU, vU, vU] [])) _
    exact k
  obtain ⟨d0, hd0⟩ : ∃ z : Int32, z = ((1 : Int32) + ((p3 &&& (2147483647 : Int32)) % (126 : Int32))) := ⟨_, rfl⟩
  rw [← hd0] at P8
  have P9 : ∀ t, Steps p.tables e below (s₁.setTop (mkF m 88 #[vI p1, vI p2, vI p3, vJ q4, vS, vJ q5, vS, vI p6, vI nx, vI mx, vI kx, vI px, vI c0, vI off, vI c1, .val (.int (if d0 < off then d0 else (d0 + (1 : Int32)))), vU, vU, vU, vU, vU, vU, vU, vU, vU, vU, vU, vU, vU, vU, vU, vU, vU] [])) t → Steps p.tables e below (s₁.setTop (entryFrame m #[(.int p1), (.int p2), (.int p3), (.long q4), (.long q5), (.int p6)] maxLocals)) t := by
    intro t k
    refine P8 _ ?_
    refine XS.iload X0.here hx rfl (hb hby at_75) rfl ?_
    show Steps p.tables e below (s₁.setTop (mkF m 77 #[vI p1, vI p2, vI p3, vJ q4, vS, vJ q5, vS, vI p6, vI nx, vI mx, vI kx, vI px, vI c0, vI off, vI c1, vI d0, vU, vU, vU, vU, vU, vU, vU, vU, vU, vU, vU, vU, vU, vU, vU, vU, vU] [(.int d0)])) _
    refine XS.iload X0.here hx rfl (hb hby at_77) rfl ?_
    show Steps p.tables e below (s₁.setTop (mkF m 79 #[vI p1, vI p2, vI p3, vJ q4, vS, vJ q5, vS, vI p6, vI nx, vI mx, vI kx, vI px, vI c0, vI off, vI c1, vI d0, vU, vU, vU, vU, vU, vU, vU, vU, vU, vU, vU, vU, vU, vU, vU, vU, vU] [(.int off), (.int d0)])) _
    by_cases c79 : d0 < off
    · try simp only [if_pos c79] at k
      refine XS.icmpYes X0.here hx rfl (pc0 := 79) (pc' := 88) rfl (hb hby at_79) rfl (XT.ii_lt_t c79) (by decide) (by decide) ?_
      show Steps p.tables e below (s₁.setTop (mkF m 88 #[vI p1, vI p2, vI p3, vJ q4, vS, vJ q5, vS, vI p6, vI nx, vI mx, vI kx, vI px, vI c0, vI off, vI c1, vI d0, vU, vU, vU, vU, vU, vU, vU, vU, vU, vU, vU, vU, vU, vU, vU, vU, vU] [])) _
      exact k
    · try simp only [if_neg c79] at k
      refine XS.icmpNo X0.here hx rfl (hb hby at_79) rfl (XT.ii_lt_f c79) ?_
      show Steps p.tables e below (s₁.setTop (mkF m 82 #[vI p1, vI p2, vI p3, vJ q4, vS, vJ q5, vS, vI p6, vI nx, vI mx, vI kx, vI px, vI c0, vI off, vI c1, vI d0, vU, vU, vU, vU, vU, vU, vU, vU, vU, vU, vU, vU, vU, vU, vU, vU, vU] [])) _
      refine XS.iload X0.here hx rfl (hb hby at_82) rfl ?_
      show Steps p.tables e below (s₁.setTop (mkF m 84 #[vI p1, vI p2, vI p3, vJ q4, vS, vJ q5, vS, vI p6, vI nx, vI mx, vI kx, vI px, vI c0, vI off, vI c1, vI d0, vU, vU, vU, vU, vU, vU, vU, vU, vU, vU, vU, vU, vU, vU, vU, vU, vU] [(.int d0)])) _
      refine XS.iconst X0.here hx rfl (hb hby at_84) ?_
      show Steps p.tables e below (s₁.setTop (mkF m 85 #[vI p1, vI p2, vI p3, vJ q4, vS, vJ q5, vS, vI p6, vI nx, vI mx, vI kx, vI px, vI c0, vI off, vI c1, vI d0, vU, vU, vU, vU, vU, vU, vU, vU, vU, vU, vU, vU, vU, vU, vU, vU, vU] [(.int (1 : Int32)), (.int d0)])) _
      refine XS.iadd X0.here hx rfl (hb hby at_85) rfl ?_
      show Steps p.tables e below (s₁.setTop (mkF m 86 #[vI p1, vI p2, vI p3, vJ q4, vS, vJ q5, vS, vI p6, vI nx, vI mx, vI kx, vI px, vI c0, vI off, vI c1, vI d0, vU, vU, vU, vU, vU, vU, vU, vU, vU, vU, vU, vU, vU, vU, vU, vU, vU] [(.int (d0 + (1 : Int32)))])) _
      refine XS.istore X0.here hx rfl (hb hby at_86) rfl (l' := #[vI p1, vI p2, vI p3, vJ q4, vS, vJ q5, vS, vI p6, vI nx, vI mx, vI kx, vI px, vI c0, vI off, vI c1, .val (.int (d0 + (1 : Int32))), vU, vU, vU, vU, vU, vU, vU, vU, vU, vU, vU, vU, vU, vU, vU, vU, vU]) rfl ?_
      show Steps p.tables e below (s₁.setTop (mkF m 88 #[vI p1, vI p2, vI p3, vJ q4, vS, vJ q5, vS, vI p6, vI nx, vI mx, vI kx, vI px, vI c0, vI off, vI c1, .val (.int (d0 + (1 : Int32))), vU, vU, vU, vU, vU, vU, vU, vU, vU, vU, vU, vU, vU, vU, vU, vU, vU] [])) _
      exact k
  obtain ⟨dx, hdx⟩ : ∃ z : Int32, z = (if d0 < off then d0 else (d0 + (1 : Int32))) := ⟨_, rfl⟩
  rw [← hdx] at P9
  have P10 : ∀ t, Steps p.tables e below (s₁.setTop (mkF m 98 #[vI p1, vI p2, vI p3, vJ q4, vS, vJ q5, vS, vI p6, vI nx, vI mx, vI kx, vI px, vI c0, vI off, vI c1, vI dx, .val (.int ((c0 + dx) &&& (127 : Int32))), vU, vU, vU, vU, vU, vU, vU, vU, vU, vU, vU, vU, vU, vU, vU, vU] [])) t → Steps p.tables e below (s₁.setTop (entryFrame m #[(.int p1), (.int p2), (.int p3), (.long q4), (.long q5), (.int p6)] maxLocals)) t := by
    intro t k
    refine P9 _ ?_
    refine XS.iload X0.here hx rfl (hb hby at_88) rfl ?_
    show Steps p.tables e below (s₁.setTop (mkF m 90 #[vI p1, vI p2, vI p3, vJ q4, vS, vJ q5, vS, vI p6, vI nx, vI mx, vI kx, vI px, vI c0, vI off, vI c1, vI dx, vU, vU, vU, vU, vU, vU, vU, vU, vU, vU, vU, vU, vU, vU, vU, vU, vU] [(.int c0)])) _
    refine XS.iload X0.here hx rfl (hb hby at_90) rfl ?_
    show Steps p.tables e below (s₁.setTop (mkF m 92 #[vI p1, vI p2, vI p3, vJ q4, vS, vJ q5, vS, vI p6, vI nx, vI mx, vI kx, vI px, vI c0, vI off, vI c1, vI dx, vU, vU, vU, vU, vU, vU, vU, vU, vU, vU, vU, vU, vU, vU, vU, vU, vU] [(.int dx), (.int c0)])) _
    refine XS.iadd X0.here hx rfl (hb hby at_92) rfl ?_
    show Steps p.tables e below (s₁.setTop (mkF m 93 #[vI p1, vI p2, vI p3, vJ q4, vS, vJ q5, vS, vI p6, vI nx, vI mx, vI kx, vI px, vI c0, vI off, vI c1, vI dx, vU, vU, vU, vU, vU, vU, vU, vU, vU, vU, vU, vU, vU, vU, vU, vU, vU] [(.int (c0 + dx))])) _
    refine XS.bipush X0.here hx rfl (hb hby at_93) ?_
    show Steps p.tables e below (s₁.setTop (mkF m 95 #[vI p1, vI p2, vI p3, vJ q4, vS, vJ q5, vS, vI p6, vI nx, vI mx, vI kx, vI px, vI c0, vI off, vI c1, vI dx, vU, vU, vU, vU, vU, vU, vU, vU, vU, vU, vU, vU, vU, vU, vU, vU, vU] [(.int (127 : Int32)), (.int (c0 + dx))])) _
    refine XS.iand X0.here hx rfl (hb hby at_95) rfl ?_
    show Steps p.tables e below (s₁.setTop (mkF m 96 #[vI p1, vI p2, vI p3, vJ q4, vS, vJ q5, vS, vI p6, vI nx, vI mx, vI kx, vI px, vI c0, vI off, vI c1, vI dx, vU, vU, vU, vU, vU, vU, vU, vU, vU, vU, vU, vU, vU, vU, vU, vU, vU] [(.int ((c0 + dx) &&& (127 : Int32)))])) _
    refine XS.istore X0.here hx rfl (hb hby at_96) rfl (l' := #[vI p1, vI p2, vI p3, vJ q4, vS, vJ q5, vS, vI p6, vI nx, vI mx, vI kx, vI px, vI c0, vI off, vI c1, vI dx, .val (.int ((c0 + dx) &&& (127 : Int32))), vU, vU, vU, vU, vU, vU, vU, vU, vU, vU, vU, vU, vU, vU, vU, vU]) rfl ?_
    show Steps p.tables e below (s₁.setTop (mkF m 98 #[vI p1, vI p2, vI p3, vJ q4, vS, vJ q5, vS, vI p6, vI nx, vI mx, vI kx, vI px, vI c0, vI off, vI c1, vI dx, .val (.int ((c0 + dx) &&& (127 : Int32))), vU, vU, vU, vU, vU, vU, vU, vU, vU, vU, vU, vU, vU, vU, vU, vU] [])) _
    exact k
  obtain ⟨c2, hc2⟩ : ∃ z : Int32, z = ((c0 + dx) &&& (127 : Int32)) := ⟨_, rfl⟩
  rw [← hc2] at P10
  have kc2 := own_m7 hc2
  have hne3 := own_three kc0 (own_ofr hoff) (own_dd hdx (own_dr hd0) (own_ofr hoff)) hc1 hc2
  have P11 : ∀ t, Steps p.tables e below (s₁.setTop (mkF m 105 #[vI p1, vI p2, vI p3, vJ q4, vS, vJ q5, vS, vI p6, vI nx, vI mx, vI kx, vI px, vI c0, vI off, vI c1, vI dx, vI c2, .val (.long (q4 &&& (288230376151711743 : Int64))), vS, vU, vU, vU, vU, vU, vU, vU, vU, vU, vU, vU, vU, vU, vU] [])) t → Steps p.tables e below (s₁.setTop (entryFrame m #[(.int p1), (.int p2), (.int p3), (.long q4), (.long q5), (.int p6)] maxLocals)) t := by
    intro t k
    refine P10 _ ?_
    refine XT.lloadN X0.here hx rfl (hb hby at_98) rfl ?_
    show Steps p.tables e below (s₁.setTop (mkF m 99 #[vI p1, vI p2, vI p3, vJ q4, vS, vJ q5, vS, vI p6, vI nx, vI mx, vI kx, vI px, vI c0, vI off, vI c1, vI dx, vI c2, vU, vU, vU, vU, vU, vU, vU, vU, vU, vU, vU, vU, vU, vU, vU, vU] [(.long q4)])) _
    refine Jvm.Stand.ldc2J X0 hx hown (mvT hZ (hw _ (List.mem_of_getElem? (i := 1) rfl))) rfl (hb hby at_99) ?_
    show Steps p.tables e below (s₁.setTop (mkF m 102 #[vI p1, vI p2, vI p3, vJ q4, vS, vJ q5, vS, vI p6, vI nx, vI mx, vI kx, vI px, vI c0, vI off, vI c1, vI dx, vI c2, vU, vU, vU, vU, vU, vU, vU, vU, vU, vU, vU, vU, vU, vU, vU, vU] [(.long (288230376151711743 : Int64)), (.long q4)])) _
    refine XT.land X0.here hx rfl (hb hby at_102) rfl ?_
    show Steps p.tables e below (s₁.setTop (mkF m 103 #[vI p1, vI p2, vI p3, vJ q4, vS, vJ q5, vS, vI p6, vI nx, vI mx, vI kx, vI px, vI c0, vI off, vI c1, vI dx, vI c2, vU, vU, vU, vU, vU, vU, vU, vU, vU, vU, vU, vU, vU, vU, vU, vU] [(.long (q4 &&& (288230376151711743 : Int64)))])) _
    refine XT.lstore X0.here hx rfl (hb hby at_103) rfl (l' := #[vI p1, vI p2, vI p3, vJ q4, vS, vJ q5, vS, vI p6, vI nx, vI mx, vI kx, vI px, vI c0, vI off, vI c1, vI dx, vI c2, .val (.long (q4 &&& (288230376151711743 : Int64))), vS, vU, vU, vU, vU, vU, vU, vU, vU, vU, vU, vU, vU, vU, vU]) rfl ?_
    show Steps p.tables e below (s₁.setTop (mkF m 105 #[vI p1, vI p2, vI p3, vJ q4, vS, vJ q5, vS, vI p6, vI nx, vI mx, vI kx, vI px, vI c0, vI off, vI c1, vI dx, vI c2, .val (.long (q4 &&& (288230376151711743 : Int64))), vS, vU, vU, vU, vU, vU, vU, vU, vU, vU, vU, vU, vU, vU, vU] [])) _
    exact k
  obtain ⟨w0, hw0⟩ : ∃ z : Int64, z = (q4 &&& (288230376151711743 : Int64)) := ⟨_, rfl⟩
  rw [← hw0] at P11
  have P12 : ∀ t, Steps p.tables e below (s₁.setTop (mkF m 113 #[vI p1, vI p2, vI p3, vJ q4, vS, vJ q5, vS, vI p6, vI nx, vI mx, vI kx, vI px, vI c0, vI off, vI c1, vI dx, vI c2, vJ w0, vS, .val (.long (q5 &&& (288230376151711743 : Int64))), vS, vU, vU, vU, vU, vU, vU, vU, vU, vU, vU, vU, vU] [])) t → Steps p.tables e below (s₁.setTop (entryFrame m #[(.int p1), (.int p2), (.int p3), (.long q4), (.long q5), (.int p6)] maxLocals)) t := by
    intro t k
    refine P11 _ ?_
    refine XT.lload X0.here hx rfl (hb hby at_105) rfl ?_
    show Steps p.tables e below (s₁.setTop (mkF m 107 #[vI p1, vI p2, vI p3, vJ q4, vS, vJ q5, vS, vI p6, vI nx, vI mx, vI kx, vI px, vI c0, vI off, vI c1, vI dx, vI c2, vJ w0, vS, vU, vU, vU, vU, vU, vU, vU, vU, vU, vU, vU, vU, vU, vU] [(.long q5)])) _
    refine Jvm.Stand.ldc2J X0 hx hown (mvT hZ (hw _ (List.mem_of_getElem? (i := 1) rfl))) rfl (hb hby at_107) ?_
    show Steps p.tables e below (s₁.setTop (mkF m 110 #[vI p1, vI p2, vI p3, vJ q4, vS, vJ q5, vS, vI p6, vI nx, vI mx, vI kx, vI px, vI c0, vI off, vI c1, vI dx, vI c2, vJ w0, vS, vU, vU, vU, vU, vU, vU, vU, vU, vU, vU, vU, vU, vU, vU] [(.long (288230376151711743 : Int64)), (.long q5)])) _
    refine XT.land X0.here hx rfl (hb hby at_110) rfl ?_
    show Steps p.tables e below (s₁.setTop (mkF m 111 #[vI p1, vI p2, vI p3, vJ q4, vS, vJ q5, vS, vI p6, vI nx, vI mx, vI kx, vI px, vI c0, vI off, vI c1, vI dx, vI c2, vJ w0, vS, vU, vU, vU, vU, vU, vU, vU, vU, vU, vU, vU, vU, vU, vU] [(.long (q5 &&& (288230376151711743 : Int64)))])) _
    refine XT.lstore X0.here hx rfl (hb hby at_111) rfl (l' := #[vI p1, vI p2, vI p3, vJ q4, vS, vJ q5, vS, vI p6, vI nx, vI mx, vI kx, vI px, vI c0, vI off, vI c1, vI dx, vI c2, vJ w0, vS, .val (.long (q5 &&& (288230376151711743 : Int64))), vS, vU, vU, vU, vU, vU, vU, vU, vU, vU, vU, vU, vU]) rfl ?_
    show Steps p.tables e below (s₁.setTop (mkF m 113 #[vI p1, vI p2, vI p3, vJ q4, vS, vJ q5, vS, vI p6, vI nx, vI mx, vI kx, vI px, vI c0, vI off, vI c1, vI dx, vI c2, vJ w0, vS, .val (.long (q5 &&& (288230376151711743 : Int64))), vS, vU, vU, vU, vU, vU, vU, vU, vU, vU, vU, vU, vU] [])) _
    exact k
  obtain ⟨w1, hw1⟩ : ∃ z : Int64, z = (q5 &&& (288230376151711743 : Int64)) := ⟨_, rfl⟩
  rw [← hw1] at P12
  have P13 : ∀ t, Steps p.tables e below (s₁.setTop (mkF m 129 #[vI p1, vI p2, vI p3, vJ q4, vS, vJ q5, vS, vI p6, vI nx, vI mx, vI kx, vI px, vI c0, vI off, vI c1, vI dx, vI c2, vJ w0, vS, vJ w1, vS, vU, vU, vU, vU, vU, vU, vU, vU, vU, vU, vU, vU] [(.int (1 : Int32)), (.int nx)])) t → Steps p.tables e below (s₁.setTop (entryFrame m #[(.int p1), (.int p2), (.int p3), (.long q4), (.long q5), (.int p6)] maxLocals)) t := by
    intro t k
    refine P12 _ ?_
    refine XS.iload X0.here hx rfl (hb hby at_113) rfl ?_
    show Steps p.tables e below (s₁.setTop (mkF m 115 #[vI p1, vI p2, vI p3, vJ q4, vS, vJ q5, vS, vI p6, vI nx, vI mx, vI kx, vI px, vI c0, vI off, vI c1, vI dx, vI c2, vJ w0, vS, vJ w1, vS, vU, vU, vU, vU, vU, vU, vU, vU, vU, vU, vU, vU] [(.int nx)])) _
    refine XS.ifYes X0.here hx rfl (pc0 := 115) (pc' := 126) rfl (hb hby at_115) rfl (XT.i0_ne_t hone) (by decide) (by decide) ?_
    show Steps p.tables e below (s₁.setTop (mkF m 126 #[vI p1, vI p2, vI p3, vJ q4, vS, vJ q5, vS, vI p6, vI nx, vI mx, vI kx, vI px, vI c0, vI off, vI c1, vI dx, vI c2, vJ w0, vS, vJ w1, vS, vU, vU, vU, vU, vU, vU, vU, vU, vU, vU, vU, vU] [])) _
    refine XS.iload X0.here hx rfl (hb hby at_126) rfl ?_
    show Steps p.tables e below (s₁.setTop (mkF m 128 #[vI p1, vI p2, vI p3, vJ q4, vS, vJ q5, vS, vI p6, vI nx, vI mx, vI kx, vI px, vI c0, vI off, vI c1, vI dx, vI c2, vJ w0, vS, vJ w1, vS, vU, vU, vU, vU, vU, vU, vU, vU, vU, vU, vU, vU] [(.int nx)])) _
    refine XS.iconst X0.here hx rfl (hb hby at_128) ?_
    show Steps p.tables e below (s₁.setTop (mkF m 129 #[vI p1, vI p2, vI p3, vJ q4, vS, vJ q5, vS, vI p6, vI nx, vI mx, vI kx, vI px, vI c0, vI off, vI c1, vI dx, vI c2, vJ w0, vS, vJ w1, vS, vU, vU, vU, vU, vU, vU, vU, vU, vU, vU, vU, vU] [(.int (1 : Int32)), (.int nx)])) _
    exact k
  by_cases c129 : nx = (1 : Int32)
  · have P14 : ∀ t, Steps p.tables e below (s₁.setTop (mkF m 133 #[vI p1, vI p2, vI p3, vJ q4, vS, vJ q5, vS, vI p6, vI nx, vI mx, vI kx, vI px, vI c0, vI off, vI c1, vI dx, vI c2, vJ w0, vS, vJ w1, vS, vU, vU, vU, vU, vU, vU, vU, vU, vU, vU, vU, vU] [(.int (1 : Int32))])) t → Steps p.tables e below (s₁.setTop (entryFrame m #[(.int p1), (.int p2), (.int p3), (.long q4), (.long q5), (.int p6)] maxLocals)) t := by
      intro t k
      refine P13 _ ?_
      refine XS.icmpNo X0.here hx rfl (hb hby at_129) rfl (XT.ii_ne_f c129) ?_
      show Steps p.tables e below (s₁.setTop (mkF m 132 #[vI p1, vI p2, vI p3, vJ q4, vS, vJ q5, vS, vI p6, vI nx, vI mx, vI kx, vI px, vI c0, vI off, vI c1, vI dx, vI c2, vJ w0, vS, vJ w1, vS, vU, vU, vU, vU, vU, vU, vU, vU, vU, vU, vU, vU] [])) _
      refine XS.iconst X0.here hx rfl (hb hby at_132) ?_
      show Steps p.tables e below (s₁.setTop (mkF m 133 #[vI p1, vI p2, vI p3, vJ q4, vS, vJ q5, vS, vI p6, vI nx, vI mx, vI kx, vI px, vI c0, vI off, vI c1, vI dx, vI c2, vJ w0, vS, vJ w1, vS, vU, vU, vU, vU, vU, vU, vU, vU, vU, vU, vU, vU] [(.int (1 : Int32))])) _
      exact k
    obtain ⟨T15, h15, k15, X15, e15, E15, A15, st15⟩ := newP X0 hx hZ (hw _ (List.mem_of_getElem? (i := 2) rfl)) e0 (g := (mkF m 133 #[vI p1, vI p2, vI p3, vJ q4, vS, vJ q5, vS, vI p6, vI nx, vI mx, vI kx, vI px, vI c0, vI off, vI c1, vI dx, vI c2, vJ w0, vS, vJ w1, vS, vU, vU, vU, vU, vU, vU, vU, vU, vU, vU, vU, vU] [(.int (1 : Int32))])) rfl (hb hby at_133) rfl (by decide) (cap := 1) (by decide) (by decide) (by decide) (by decide)
    obtain ⟨b15, g15⟩ : ∃ z, z = h0.size := ⟨_, rfl⟩
    rw [← g15] at A15 st15
    have F16 : Old Z n0 h15 := O0.ext E15
    obtain ⟨kc_b15, hkc_b15⟩ : ∃ z, z = k15 := ⟨_, rfl⟩
    rw [← hkc_b15] at A15
    have F17 : Arv Z h15 b15 kc_b15 .char (1 : Int32) [(.int (0 : Int32))] (.int (0 : Int32)) := (Arv.new A15 (by decide)).pad (pad_rep [] (.int (0 : Int32)) 1)
    have Z18 : n0 ≤ h15.size := Nat.le_trans Z0 E15.1
    have K19 : Keep h0 h15 [] := K0.ext E15
    have g_b15 : n0 ≤ b15 := Nat.le_trans Z0 (Nat.le_of_eq g15.symm)
    have sz_b15 : h0.size ≤ b15 := Nat.le_trans K0.1 (Nat.le_of_eq g15.symm)
    have P20 : ∀ t, Steps p.tables e below (T15.setTop (mkF m 135 #[vI p1, vI p2, vI p3, vJ q4, vS, vJ q5, vS, vI p6, vI nx, vI mx, vI kx, vI px, vI c0, vI off, vI c1, vI dx, vI c2, vJ w0, vS, vJ w1, vS, vU, vU, vU, vU, vU, vU, vU, vU, vU, vU, vU, vU] [(.ref b15)])) t → Steps p.tables e below (s₁.setTop (entryFrame m #[(.int p1), (.int p2), (.int p3), (.long q4), (.long q5), (.int p6)] maxLocals)) t := fun t k => P14 _ (st15 _ k)
    have P21 : ∀ t, Steps p.tables e below (T15.setTop (mkF m 140 #[vI p1, vI p2, vI p3, vJ q4, vS, vJ q5, vS, vI p6, vI nx, vI mx, vI kx, vI px, vI c0, vI off, vI c1, vI dx, vI c2, vJ w0, vS, vJ w1, vS, vU, vU, vU, vU, vU, vU, vU, vU, vU, vU, vU, vU] [(.int (c0.toUInt32.toUInt16.toUInt32.toInt32)), (.int (0 : Int32)), (.ref b15), (.ref b15)])) t → Steps p.tables e below (s₁.setTop (entryFrame m #[(.int p1), (.int p2), (.int p3), (.long q4), (.long q5), (.int p6)] maxLocals)) t := by
      intro t k
      refine P20 _ ?_
      refine XS.dup X15.here hx rfl (hb hby at_135) rfl rfl ?_
      show Steps p.tables e below (T15.setTop (mkF m 136 #[vI p1, vI p2, vI p3, vJ q4, vS, vJ q5, vS, vI p6, vI nx, vI mx, vI kx, vI px, vI c0, vI off, vI c1, vI dx, vI c2, vJ w0, vS, vJ w1, vS, vU, vU, vU, vU, vU, vU, vU, vU, vU, vU, vU, vU] [(.ref b15), (.ref b15)])) _
      refine XS.iconst X15.here hx rfl (hb hby at_136) ?_
      show Steps p.tables e below (T15.setTop (mkF m 137 #[vI p1, vI p2, vI p3, vJ q4, vS, vJ q5, vS, vI p6, vI nx, vI mx, vI kx, vI px, vI c0, vI off, vI c1, vI dx, vI c2, vJ w0, vS, vJ w1, vS, vU, vU, vU, vU, vU, vU, vU, vU, vU, vU, vU, vU] [(.int (0 : Int32)), (.ref b15), (.ref b15)])) _
      refine XS.iload X15.here hx rfl (hb hby at_137) rfl ?_
      show Steps p.tables e below (T15.setTop (mkF m 139 #[vI p1, vI p2, vI p3, vJ q4, vS, vJ q5, vS, vI p6, vI nx, vI mx, vI kx, vI px, vI c0, vI off, vI c1, vI dx, vI c2, vJ w0, vS, vJ w1, vS, vU, vU, vU, vU, vU, vU, vU, vU, vU, vU, vU, vU] [(.int c0), (.int (0 : Int32)), (.ref b15), (.ref b15)])) _
      refine XT.i2c X15.here hx rfl (hb hby at_139) rfl ?_
      show Steps p.tables e below (T15.setTop (mkF m 140 #[vI p1, vI p2, vI p3, vJ q4, vS, vJ q5, vS, vI p6, vI nx, vI mx, vI kx, vI px, vI c0, vI off, vI c1, vI dx, vI c2, vJ w0, vS, vJ w1, vS, vU, vU, vU, vU, vU, vU, vU, vU, vU, vU, vU, vU] [(.int (c0.toUInt32.toUInt16.toUInt32.toInt32)), (.int (0 : Int32)), (.ref b15), (.ref b15)])) _
      exact k
    obtain ⟨cl22, Ar22, q22, S22, M22, H22, G22⟩ := F17
    have in22 : ¬ ((0 : Int32) < 0 ∨ cl22.slots.size ≤ ((0 : Int32)).toNatClampNeg) := inb_of S22 ⟨by decide, by decide⟩
    obtain ⟨T22, h22, X22, e22, W22, st22⟩ := stC X15 hx hZ e15 Ar22 (j := (0 : Int32)) in22 (g := (mkF m 140 #[vI p1, vI p2, vI p3, vJ q4, vS, vJ q5, vS, vI p6, vI nx, vI mx, vI kx, vI px, vI c0, vI off, vI c1, vI dx, vI c2, vJ w0, vS, vJ w1, vS, vU, vU, vU, vU, vU, vU, vU, vU, vU, vU, vU, vU] [(.int (c0.toUInt32.toUInt16.toUInt32.toInt32)), (.int (0 : Int32)), (.ref b15), (.ref b15)])) rfl rfl (hb hby at_140)
    rw [own_c2c kc0] at W22
    have F23 : Old Z n0 h22 := F16.wr W22 g_b15
    have F24 : Arv Z h22 b15 kc_b15 .char (1 : Int32) [(.int c0)] (.int (0 : Int32)) := Arv.set Ar22 q22 S22 M22 H22 G22 (by have q := fits_nar_char (c0.toUInt32.toUInt16.toUInt32.toInt32); first | exact own_c2c kc0 ▸ q | (rw [own_c2c kc0] at q; exact q) | (simp only [nar] at q; exact q)) W22 0 rfl (Nat.le_of_ble_eq_true rfl)
    have Z25 : n0 ≤ h22.size := Nat.le_trans Z18 (Keep.of_wr W22).1
    have K26 : Keep h0 h22 [] := K19.wr W22 (Or.inr sz_b15)
    have N22 := Fr.snoc X22 N0 g_b15
    have P27 : ∀ t, Steps p.tables e below (T22.setTop (mkF m 141 #[vI p1, vI p2, vI p3, vJ q4, vS, vJ q5, vS, vI p6, vI nx, vI mx, vI kx, vI px, vI c0, vI off, vI c1, vI dx, vI c2, vJ w0, vS, vJ w1, vS, vU, vU, vU, vU, vU, vU, vU, vU, vU, vU, vU, vU] [(.ref b15)])) t → Steps p.tables e below (s₁.setTop (entryFrame m #[(.int p1), (.int p2), (.int p3), (.long q4), (.long q5), (.int p6)] maxLocals)) t := fun t k => P21 _ (st22 _ k)
    have P28 : ∀ t, Steps p.tables e below (T22.setTop (mkF m 198 #[vI p1, vI p2, vI p3, vJ q4, vS, vJ q5, vS, vI p6, vI nx, vI mx, vI kx, vI px, vI c0, vI off, vI c1, vI dx, vI c2, vJ w0, vS, vJ w1, vS, vR b15, vU, vU, vU, vU, vU, vU, vU, vU, vU, vU, vU] [(.int (1 : Int32)), (.int mx)])) t → Steps p.tables e below (s₁.setTop (entryFrame m #[(.int p1), (.int p2), (.int p3), (.long q4), (.long q5), (.int p6)] maxLocals)) t := by
      intro t k
      refine P27 _ ?_
      refine XS.astore X22.here hx rfl (hb hby at_141) rfl rfl (l' := #[vI p1, vI p2, vI p3, vJ q4, vS, vJ q5, vS, vI p6, vI nx, vI mx, vI kx, vI px, vI c0, vI off, vI c1, vI dx, vI c2, vJ w0, vS, vJ w1, vS, vR b15, vU, vU, vU, vU, vU, vU, vU, vU, vU, vU, vU]) rfl ?_
      show Steps p.tables e below (T22.setTop (mkF m 143 #[vI p1, vI p2, vI p3, vJ q4, vS, vJ q5, vS, vI p6, vI nx, vI mx, vI kx, vI px, vI c0, vI off, vI c1, vI dx, vI c2, vJ w0, vS, vJ w1, vS, vR b15, vU, vU, vU, vU, vU, vU, vU, vU, vU, vU, vU] [])) _
      refine XS.goto X22.here hx rfl (pc0 := 143) (pc' := 195) rfl (hb hby at_143) (by decide) (by decide) ?_
      show Steps p.tables e below (T22.setTop (mkF m 195 #[vI p1, vI p2, vI p3, vJ q4, vS, vJ q5, vS, vI p6, vI nx, vI mx, vI kx, vI px, vI c0, vI off, vI c1, vI dx, vI c2, vJ w0, vS, vJ w1, vS, vR b15, vU, vU, vU, vU, vU, vU, vU, vU, vU, vU, vU] [])) _
      refine XS.iload X22.here hx rfl (hb hby at_195) rfl ?_
      show Steps p.tables e below (T22.setTop (mkF m 197 #[vI p1, vI p2, vI p3, vJ q4, vS, vJ q5, vS, vI p6, vI nx, vI mx, vI kx, vI px, vI c0, vI off, vI c1, vI dx, vI c2, vJ w0, vS, vJ w1, vS, vR b15, vU, vU, vU, vU, vU, vU, vU, vU, vU, vU, vU] [(.int mx)])) _
      refine XS.iconst X22.here hx rfl (hb hby at_197) ?_
      show Steps p.tables e below (T22.setTop (mkF m 198 #[vI p1, vI p2, vI p3, vJ q4, vS, vJ q5, vS, vI p6, vI nx, vI mx, vI kx, vI px, vI c0, vI off, vI c1, vI dx, vI c2, vJ w0, vS, vJ w1, vS, vR b15, vU, vU, vU, vU, vU, vU, vU, vU, vU, vU, vU] [(.int (1 : Int32)), (.int mx)])) _
      exact k
    by_cases c198 : mx = (1 : Int32)
    · have P29 : ∀ t, Steps p.tables e below (T22.setTop (mkF m 202 #[vI p1, vI p2, vI p3, vJ q4, vS, vJ q5, vS, vI p6, vI nx, vI mx, vI kx, vI px, vI c0, vI off, vI c1, vI dx, vI c2, vJ w0, vS, vJ w1, vS, vR b15, vU, vU, vU, vU, vU, vU, vU, vU, vU, vU, vU] [(.int (1 : Int32))])) t → Steps p.tables e below (s₁.setTop (entryFrame m #[(.int p1), (.int p2), (.int p3), (.long q4), (.long q5), (.int p6)] maxLocals)) t := by
        intro t k
        refine P28 _ ?_
        refine XS.icmpNo X22.here hx rfl (hb hby at_198) rfl (XT.ii_ne_f c198) ?_
        show Steps p.tables e below (T22.setTop (mkF m 201 #[vI p1, vI p2, vI p3, vJ q4, vS, vJ q5, vS, vI p6, vI nx, vI mx, vI kx, vI px, vI c0, vI off, vI c1, vI dx, vI c2, vJ w0, vS, vJ w1, vS, vR b15, vU, vU, vU, vU, vU, vU, vU, vU, vU, vU, vU] [])) _
        refine XS.iconst X22.here hx rfl (hb hby at_201) ?_
        show Steps p.tables e below (T22.setTop (mkF m 202 #[vI p1, vI p2, vI p3, vJ q4, vS, vJ q5, vS, vI p6, vI nx, vI mx, vI kx, vI px, vI c0, vI off, vI c1, vI dx, vI c2, vJ w0, vS, vJ w1, vS, vR b15, vU, vU, vU, vU, vU, vU, vU, vU, vU, vU, vU] [(.int (1 : Int32))])) _
        exact k
      obtain ⟨T30, h30, k30, X30, e30, E30, A30, st30⟩ := newP X22 hx hZ (hw _ (List.mem_of_getElem? (i := 3) rfl)) e22 (g := (mkF m 202 #[vI p1, vI p2, vI p3, vJ q4, vS, vJ q5, vS, vI p6, vI nx, vI mx, vI kx, vI px, vI c0, vI off, vI c1, vI dx, vI c2, vJ w0, vS, vJ w1, vS, vR b15, vU, vU, vU, vU, vU, vU, vU, vU, vU, vU, vU] [(.int (1 : Int32))])) rfl (hb hby at_202) rfl (by decide) (cap := 1) (by decide) (by decide) (by decide) (by decide)
      obtain ⟨b30, g30⟩ : ∃ z, z = h22.size := ⟨_, rfl⟩
      rw [← g30] at A30 st30
      have F31 : Old Z n0 h30 := F23.ext E30
      have F32 : Arv Z h30 b15 kc_b15 .char (1 : Int32) [(.int c0)] (.int (0 : Int32)) := F24.ext E30
      obtain ⟨kc_b30, hkc_b30⟩ : ∃ z, z = k30 := ⟨_, rfl⟩
      rw [← hkc_b30] at A30
      have F33 : Arv Z h30 b30 kc_b30 .long (1 : Int32) [(.long (0 : Int64))] (.long (0 : Int64)) := (Arv.new A30 (by decide)).pad (pad_rep [] (.long (0 : Int64)) 1)
      have Z34 : n0 ≤ h30.size := Nat.le_trans Z25 E30.1
      have K35 : Keep h0 h30 [] := K26.ext E30
      have g_b30 : n0 ≤ b30 := Nat.le_trans Z25 (Nat.le_of_eq g30.symm)
      have sz_b30 : h0.size ≤ b30 := Nat.le_trans K26.1 (Nat.le_of_eq g30.symm)
      have ne_b15_b30 : b15 ≠ b30 := Nat.ne_of_lt (Nat.lt_of_lt_of_le F24.lt (Nat.le_of_eq g30.symm))
      have P36 : ∀ t, Steps p.tables e below (T30.setTop (mkF m 204 #[vI p1, vI p2, vI p3, vJ q4, vS, vJ q5, vS, vI p6, vI nx, vI mx, vI kx, vI px, vI c0, vI off, vI c1, vI dx, vI c2, vJ w0, vS, vJ w1, vS, vR b15, vU, vU, vU, vU, vU, vU, vU, vU, vU, vU, vU] [(.ref b30)])) t → Steps p.tables e below (s₁.setTop (entryFrame m #[(.int p1), (.int p2), (.int p3), (.long q4), (.long q5), (.int p6)] maxLocals)) t := fun t k => P29 _ (st30 _ k)
      have P37 : ∀ t, Steps p.tables e below (T30.setTop (mkF m 208 #[vI p1, vI p2, vI p3, vJ q4, vS, vJ q5, vS, vI p6, vI nx, vI mx, vI kx, vI px, vI c0, vI off, vI c1, vI dx, vI c2, vJ w0, vS, vJ w1, vS, vR b15, vU, vU, vU, vU, vU, vU, vU, vU, vU, vU, vU] [(.long w0), (.int (0 : Int32)), (.ref b30), (.ref b30)])) t → Steps p.tables e below (s₁.setTop (entryFrame m #[(.int p1), (.int p2), (.int p3), (.long q4), (.long q5), (.int p6)] maxLocals)) t := by
        intro t k
        refine P36 _ ?_
        refine XS.dup X30.here hx rfl (hb hby at_204) rfl rfl ?_
        show Steps p.tables e below (T30.setTop (mkF m 205 #[vI p1, vI p2, vI p3, vJ q4, vS, vJ q5, vS, vI p6, vI nx, vI mx, vI kx, vI px, vI c0, vI off, vI c1, vI dx, vI c2, vJ w0, vS, vJ w1, vS, vR b15, vU, vU, vU, vU, vU, vU, vU, vU, vU, vU, vU] [(.ref b30), (.ref b30)])) _
        refine XS.iconst X30.here hx rfl (hb hby at_205) ?_
        show Steps p.tables e below (T30.setTop (mkF m 206 #[vI p1, vI p2, vI p3, vJ q4, vS, vJ q5, vS, vI p6, vI nx, vI mx, vI kx, vI px, vI c0, vI off, vI c1, vI dx, vI c2, vJ w0, vS, vJ w1, vS, vR b15, vU, vU, vU, vU, vU, vU, vU, vU, vU, vU, vU] [(.int (0 : Int32)), (.ref b30), (.ref b30)])) _
        refine XT.lload X30.here hx rfl (hb hby at_206) rfl ?_
        show Steps p.tables e below (T30.setTop (mkF m 208 #[vI p1, vI p2, vI p3, vJ q4, vS, vJ q5, vS, vI p6, vI nx, vI mx, vI kx, vI px, vI c0, vI off, vI c1, vI dx, vI c2, vJ w0, vS, vJ w1, vS, vR b15, vU, vU, vU, vU, vU, vU, vU, vU, vU, vU, vU] [(.long w0), (.int (0 : Int32)), (.ref b30), (.ref b30)])) _
        exact k
      obtain ⟨cl38, Ar38, q38, S38, M38, H38, G38⟩ := F33
      have in38 : ¬ ((0 : Int32) < 0 ∨ cl38.slots.size ≤ ((0 : Int32)).toNatClampNeg) := inb_of S38 ⟨by decide, by decide⟩
      obtain ⟨T38, h38, X38, e38, W38, st38⟩ := stJ X30 hx hZ e30 Ar38 (j := (0 : Int32)) in38 (g := (mkF m 208 #[vI p1, vI p2, vI p3, vJ q4, vS, vJ q5, vS, vI p6, vI nx, vI mx, vI kx, vI px, vI c0, vI off, vI c1, vI dx, vI c2, vJ w0, vS, vJ w1, vS, vR b15, vU, vU, vU, vU, vU, vU, vU, vU, vU, vU, vU] [(.long w0), (.int (0 : Int32)), (.ref b30), (.ref b30)])) rfl rfl (hb hby at_208)
      have F39 : Old Z n0 h38 := F31.wr W38 g_b30
      have F40 : Arv Z h38 b15 kc_b15 .char (1 : Int32) [(.int c0)] (.int (0 : Int32)) := F32.other W38 ne_b15_b30
      have F41 : Arv Z h38 b30 kc_b30 .long (1 : Int32) [(.long w0)] (.long (0 : Int64)) := Arv.set Ar38 q38 S38 M38 H38 G38 rfl W38 0 rfl (Nat.le_of_ble_eq_true rfl)
      have Z42 : n0 ≤ h38.size := Nat.le_trans Z34 (Keep.of_wr W38).1
      have K43 : Keep h0 h38 [] := K35.wr W38 (Or.inr sz_b30)
      have N38 := Fr.snoc X38 N22 g_b30
      have P44 : ∀ t, Steps p.tables e below (T38.setTop (mkF m 209 #[vI p1, vI p2, vI p3, vJ q4, vS, vJ q5, vS, vI p6, vI nx, vI mx, vI kx, vI px, vI c0, vI off, vI c1, vI dx, vI c2, vJ w0, vS, vJ w1, vS, vR b15, vU, vU, vU, vU, vU, vU, vU, vU, vU, vU, vU] [(.ref b30)])) t → Steps p.tables e below (s₁.setTop (entryFrame m #[(.int p1), (.int p2), (.int p3), (.long q4), (.long q5), (.int p6)] maxLocals)) t := fun t k => P37 _ (st38 _ k)
      have P45 : ∀ t, Steps p.tables e below (T38.setTop (mkF m 227 #[vI p1, vI p2, vI p3, vJ q4, vS, vJ q5, vS, vI p6, vI nx, vI mx, vI kx, vI px, vI c0, vI off, vI c1, vI dx, vI c2, vJ w0, vS, vJ w1, vS, vR b15, vR b30, vU, vU, vU, vU, vU, vU, vU, vU, vU, vU] [])) t → Steps p.tables e below (s₁.setTop (entryFrame m #[(.int p1), (.int p2), (.int p3), (.long q4), (.long q5), (.int p6)] maxLocals)) t := by
        intro t k
        refine P44 _ ?_
        refine XS.goto X38.here hx rfl (pc0 := 209) (pc' := 225) rfl (hb hby at_209) (by decide) (by decide) ?_
        show Steps p.tables e below (T38.setTop (mkF m 225 #[vI p1, vI p2, vI p3, vJ q4, vS, vJ q5, vS, vI p6, vI nx, vI mx, vI kx, vI px, vI c0, vI off, vI c1, vI dx, vI c2, vJ w0, vS, vJ w1, vS, vR b15, vU, vU, vU, vU, vU, vU, vU, vU, vU, vU, vU] [(.ref b30)])) _
        refine XS.astore X38.here hx rfl (hb hby at_225) rfl rfl (l' := #[vI p1, vI p2, vI p3, vJ q4, vS, vJ q5, vS, vI p6, vI nx, vI mx, vI kx, vI px, vI c0, vI off, vI c1, vI dx, vI c2, vJ w0, vS, vJ w1, vS, vR b15, vR b30, vU, vU, vU, vU, vU, vU, vU, vU, vU, vU]) rfl ?_
        show Steps p.tables e below (T38.setTop (mkF m 227 #[vI p1, vI p2, vI p3, vJ q4, vS, vJ q5, vS, vI p6, vI nx, vI mx, vI kx, vI px, vI c0, vI off, vI c1, vI dx, vI c2, vJ w0, vS, vJ w1, vS, vR b15, vR b30, vU, vU, vU, vU, vU, vU, vU, vU, vU, vU] [])) _
        exact k
      have V46 : own_Af Z h38 b15 kc_b15 .char (1 : Int32) (fun i => Value.int ((own_l3 c0 c1 c2) i)) := (own_convV F40).same (fun i hi => by
        match i, hi with
        | 0, _ => rfl
        | j + 1, hj => exact absurd hj (by show ¬ j + 1 < 1; omega))
      have V47 : own_Af Z h38 b30 kc_b30 .long (1 : Int32) (fun i => Value.long ((own_w2 w0 w1) i)) := (own_convV F41).same (fun i hi => by
        match i, hi with
        | 0, _ => rfl
        | j + 1, hj => exact absurd hj (by show ¬ j + 1 < 1; omega))
      have hnv : nx = (1 : Int32) := c129
      have hmv : mx = (1 : Int32) := c198
      have hkm : kk < 1 := by
        rw [hmv] at hkm0
        have e : (1 : Int32).toInt = 1 := rfl
        omega
      have hnn : nx.toInt = ((1 : Nat) : Int) := by rw [hnv]; rfl
      obtain ⟨T48, h48, X48, e48, E48, A48, D48, -, st48⟩ := newO X38 hx hZ hown (hw _ (List.mem_of_getElem? (i := 4) rfl)) (hw _ (List.mem_of_getElem? (i := 5) rfl)) (hw _ (List.mem_of_getElem? (i := 6) rfl)) e38 (g := (mkF m 227 #[vI p1, vI p2, vI p3, vJ q4, vS, vJ q5, vS, vI p6, vI nx, vI mx, vI kx, vI px, vI c0, vI off, vI c1, vI dx, vI c2, vJ w0, vS, vJ w1, vS, vR b15, vR b30, vU, vU, vU, vU, vU, vU, vU, vU, vU, vU] [])) rfl (hb hby at_227) (by decide) (by decide)
      obtain ⟨bA, g48⟩ : ∃ z, z = h38.size := ⟨_, rfl⟩
      rw [← g48] at A48 D48 st48
      have F49 : Old Z n0 h48 := F39.ext E48
      have F50 : own_Af Z h48 b15 kc_b15 .char (1 : Int32) (fun i => Value.int ((own_l3 c0 c1 c2) i)) := V46.ext E48
      have F51 : own_Af Z h48 b30 kc_b30 .long (1 : Int32) (fun i => Value.long ((own_w2 w0 w1) i)) := V47.ext E48
      have F52 : Fld Z h48 bA "com/example/basewright/basewright/Alphabet" "characters" "[B" .null := D48 (Or.inr (hw _ (List.mem_of_getElem? (i := 78) rfl))) (ty := (.array .byte)) (by decide)
      have F53 : Fld Z h48 bA "com/example/basewright/basewright/Alphabet" "values" "[B" .null := D48 (Or.inr (hw _ (List.mem_of_getElem? (i := 80) rfl))) (ty := (.array .byte)) (by decide)
      have Z54 : n0 ≤ h48.size := Nat.le_trans Z42 E48.1
      have K55 : Keep h0 h48 [] := K43.ext E48
      have g_bA : n0 ≤ bA := Nat.le_trans Z42 (Nat.le_of_eq g48.symm)
      have sz_bA : h0.size ≤ bA := Nat.le_trans K43.1 (Nat.le_of_eq g48.symm)
      have ne_b15_bA : b15 ≠ bA := Nat.ne_of_lt (Nat.lt_of_lt_of_le V46.lt (Nat.le_of_eq g48.symm))
      have ne_b30_bA : b30 ≠ bA := Nat.ne_of_lt (Nat.lt_of_lt_of_le V47.lt (Nat.le_of_eq g48.symm))
      have P56 : ∀ t, Steps p.tables e below (T48.setTop (mkF m 230 #[vI p1, vI p2, vI p3, vJ q4, vS, vJ q5, vS, vI p6, vI nx, vI mx, vI kx, vI px, vI c0, vI off, vI c1, vI dx, vI c2, vJ w0, vS, vJ w1, vS, vR b15, vR b30, vU, vU, vU, vU, vU, vU, vU, vU, vU, vU] [(.ref bA)])) t → Steps p.tables e below (s₁.setTop (entryFrame m #[(.int p1), (.int p2), (.int p3), (.long q4), (.long q5), (.int p6)] maxLocals)) t := fun t k => P45 _ (st48 _ k)
      have P57 : ∀ t, Steps p.tables e below (T48.setTop (mkF m 231 #[vI p1, vI p2, vI p3, vJ q4, vS, vJ q5, vS, vI p6, vI nx, vI mx, vI kx, vI px, vI c0, vI off, vI c1, vI dx, vI c2, vJ w0, vS, vJ w1, vS, vR b15, vR b30, vU, vU, vU, vU, vU, vU, vU, vU, vU, vU] [(.ref bA), (.ref bA)])) t → Steps p.tables e below (s₁.setTop (entryFrame m #[(.int p1), (.int p2), (.int p3), (.long q4), (.long q5), (.int p6)] maxLocals)) t := by
        intro t k
        refine P56 _ ?_
        refine XS.dup X48.here hx rfl (hb hby at_230) rfl rfl ?_
        show Steps p.tables e below (T48.setTop (mkF m 231 #[vI p1, vI p2, vI p3, vJ q4, vS, vJ q5, vS, vI p6, vI nx, vI mx, vI kx, vI px, vI c0, vI off, vI c1, vI dx, vI c2, vJ w0, vS, vJ w1, vS, vR b15, vR b30, vU, vU, vU, vU, vU, vU, vU, vU, vU, vU] [(.ref bA), (.ref bA)])) _
        exact k
      obtain ⟨T58, h58, X58, e58, E58, A58, D58, -, st58⟩ := newO X48 hx hZ hown (hw _ (List.mem_of_getElem? (i := 7) rfl)) (hw _ (List.mem_of_getElem? (i := 8) rfl)) (hw _ (List.mem_of_getElem? (i := 9) rfl)) e48 (g := (mkF m 231 #[vI p1, vI p2, vI p3, vJ q4, vS, vJ q5, vS, vI p6, vI nx, vI mx, vI kx, vI px, vI c0, vI off, vI c1, vI dx, vI c2, vJ w0, vS, vJ w1, vS, vR b15, vR b30, vU, vU, vU, vU, vU, vU, vU, vU, vU, vU] [(.ref bA), (.ref bA)])) rfl (hb hby at_231) (by decide) (by decide)
      obtain ⟨b58, g58⟩ : ∃ z, z = h48.size := ⟨_, rfl⟩
      rw [← g58] at A58 D58 st58
      have F59 : Old Z n0 h58 := F49.ext E58
      have F60 : own_Af Z h58 b15 kc_b15 .char (1 : Int32) (fun i => Value.int ((own_l3 c0 c1 c2) i)) := F50.ext E58
      have F61 : own_Af Z h58 b30 kc_b30 .long (1 : Int32) (fun i => Value.long ((own_w2 w0 w1) i)) := F51.ext E58
      have F62 : Exa Z h58 bA "com/example/basewright/basewright/Alphabet" := A48.ext E58
      have F63 : Fld Z h58 bA "com/example/basewright/basewright/Alphabet" "characters" "[B" .null := F52.ext E58
      have F64 : Fld Z h58 bA "com/example/basewright/basewright/Alphabet" "values" "[B" .null := F53.ext E58
      have F65 : Fld Z h58 b58 "java/lang/String" "coder" "B" (.int (0 : Int32)) := D58 (Or.inr (hw _ (List.mem_of_getElem? (i := 33) rfl))) (ty := .byte) (by decide)
      have F66 : Fld Z h58 b58 "java/lang/String" "value" "[B" .null := D58 (Or.inr (hw _ (List.mem_of_getElem? (i := 35) rfl))) (ty := (.array .byte)) (by decide)
      have Z67 : n0 ≤ h58.size := Nat.le_trans Z54 E58.1
      have K68 : Keep h0 h58 [] := K55.ext E58
      have g_b58 : n0 ≤ b58 := Nat.le_trans Z54 (Nat.le_of_eq g58.symm)
      have sz_b58 : h0.size ≤ b58 := Nat.le_trans K55.1 (Nat.le_of_eq g58.symm)
      have ne_b15_b58 : b15 ≠ b58 := Nat.ne_of_lt (Nat.lt_of_lt_of_le F50.lt (Nat.le_of_eq g58.symm))
      have ne_b30_b58 : b30 ≠ b58 := Nat.ne_of_lt (Nat.lt_of_lt_of_le F51.lt (Nat.le_of_eq g58.symm))
      have ne_bA_b58 : bA ≠ b58 := Nat.ne_of_lt (Nat.lt_of_lt_of_le A48.lt (Nat.le_of_eq g58.symm))
      have P69 : ∀ t, Steps p.tables e below (T58.setTop (mkF m 234 #[vI p1, vI p2, vI p3, vJ q4, vS, vJ q5, vS, vI p6, vI nx, vI mx, vI kx, vI px, vI c0, vI off, vI c1, vI dx, vI c2, vJ w0, vS, vJ w1, vS, vR b15, vR b30, vU, vU, vU, vU, vU, vU, vU, vU, vU, vU] [(.ref b58), (.ref bA), (.ref bA)])) t → Steps p.tables e below (s₁.setTop (entryFrame m #[(.int p1), (.int p2), (.int p3), (.long q4), (.long q5), (.int p6)] maxLocals)) t := fun t k => P57 _ (st58 _ k)
      have P70 : ∀ t, Steps p.tables e below (T58.setTop (mkF m 237 #[vI p1, vI p2, vI p3, vJ q4, vS, vJ q5, vS, vI p6, vI nx, vI mx, vI kx, vI px, vI c0, vI off, vI c1, vI dx, vI c2, vJ w0, vS, vJ w1, vS, vR b15, vR b30, vU, vU, vU, vU, vU, vU, vU, vU, vU, vU] [(.ref b15), (.ref b58), (.ref b58), (.ref bA), (.ref bA)])) t → Steps p.tables e below (s₁.setTop (entryFrame m #[(.int p1), (.int p2), (.int p3), (.long q4), (.long q5), (.int p6)] maxLocals)) t := by
        intro t k
        refine P69 _ ?_
        refine XS.dup X58.here hx rfl (hb hby at_234) rfl rfl ?_
        show Steps p.tables e below (T58.setTop (mkF m 235 #[vI p1, vI p2, vI p3, vJ q4, vS, vJ q5, vS, vI p6, vI nx, vI mx, vI kx, vI px, vI c0, vI off, vI c1, vI dx, vI c2, vJ w0, vS, vJ w1, vS, vR b15, vR b30, vU, vU, vU, vU, vU, vU, vU, vU, vU, vU] [(.ref b58), (.ref b58), (.ref bA), (.ref bA)])) _
        refine XS.aload X58.here hx rfl (hb hby at_235) rfl rfl ?_
        show Steps p.tables e below (T58.setTop (mkF m 237 #[vI p1, vI p2, vI p3, vJ q4, vS, vJ q5, vS, vI p6, vI nx, vI mx, vI kx, vI px, vI c0, vI off, vI c1, vI dx, vI c2, vJ w0, vS, vJ w1, vS, vR b15, vR b30, vU, vU, vU, vU, vU, vU, vU, vU, vU, vU] [(.ref b15), (.ref b58), (.ref b58), (.ref bA), (.ref bA)])) _
        exact k
      obtain ⟨_, _, ⟨T71, L71, k71, n71⟩, -, X71, ⟨Lc71, hQ71, l71, y71, z71⟩, st71⟩ := X58.specialBack hx (y := (⟨"java/lang/String", "<init>", "([C)V"⟩ : MethodName)) rfl hown (mvT hZ (hw _ (List.mem_of_getElem? (i := 10) rfl))) (mvT hZ (hw _ (List.mem_of_getElem? (i := 11) rfl))) (mvT hZ (hw _ (List.mem_of_getElem? (i := 12) rfl))) (by decide) (backOf (W := 3) (rm15 l Z a0 hw [] b58 b15 (1 : Int32) kc_b15 .null (.int (0 : Int32)) ccs (own_l3 c0 c1 c2) 1 h58 n0 Z67 A58 F66 F65 g_b58 F60 (S_cs.ext F59.2) hcc rfl (by decide) (by decide) (own_l3s kc0 kc1 kc2 (by decide))) hZ (hw _ (List.mem_of_getElem? (i := 12) rfl)) (hw _ (List.mem_of_getElem? (i := 9) rfl)) (by decide) (by decide)) (g := (mkF m 237 #[vI p1, vI p2, vI p3, vJ q4, vS, vJ q5, vS, vI p6, vI nx, vI mx, vI kx, vI px, vI c0, vI off, vI c1, vI dx, vI c2, vJ w0, vS, vJ w1, vS, vR b15, vR b30, vU, vU, vU, vU, vU, vU, vU, vU, vU, vU] [(.ref b15), (.ref b58), (.ref b58), (.ref bA), (.ref bA)])) rfl (by rw [hml]; rfl) (Steps.refl _) (a := b58) (argsL := [(.ref b15)]) (rest := [(.ref b58), (.ref bA), (.ref bA)]) (lenOf pd_11 rfl) rfl (by show 2 * 0 + _ ≤ _; exact Nat.le_of_eq rfl) (hb hby at_237) (fun _ _ => ⟨rfl, e58, (by decide : 4 + 1 ≤ _), (by decide : 8 + 4 ≤ _)⟩)
      dsimp only [Pt.U, Pt.locs, Pt.cells, Pt.slots] at X71 l71 y71 z71 st71 hQ71
      subst l71 y71 z71
      obtain ⟨b_71, kb_71, rfl, N71q, K71, s71_b, Y71_0, Y71_1, Y71_2, Y71_3, Y71_4⟩ := hQ71
      have F72 : Old Z n0 T71.heap := F59.keep K71 (allS g_b58 all0)
      have F73 : own_Af Z T71.heap b15 kc_b15 .char (1 : Int32) (fun i => Value.int ((own_l3 c0 c1 c2) i)) := F60.keep K71 (ninS ne_b15_b58 nin0)
      have F74 : own_Af Z T71.heap b30 kc_b30 .long (1 : Int32) (fun i => Value.long ((own_w2 w0 w1) i)) := F61.keep K71 (ninS ne_b30_b58 nin0)
      have F75 : Exa Z T71.heap bA "com/example/basewright/basewright/Alphabet" := F62.keep K71
      have F76 : Fld Z T71.heap bA "com/example/basewright/basewright/Alphabet" "characters" "[B" .null := F63.keep K71 (ninS ne_bA_b58 nin0)
      have F77 : Fld Z T71.heap bA "com/example/basewright/basewright/Alphabet" "values" "[B" .null := F64.keep K71 (ninS ne_bA_b58 nin0)
      have F78 : Exa Z T71.heap b58 "java/lang/String" := A58.keep K71
      have Z79 : n0 ≤ T71.heap.size := Nat.le_trans Z67 K71.1
      have K80 : Keep h0 T71.heap [] := K68.trans K71 (allS (Or.inr sz_b58) all0)
      have g_b_71 : n0 ≤ b_71 := Nat.le_trans Z67 s71_b
      have sz_b_71 : h0.size ≤ b_71 := Nat.le_trans K68.1 s71_b
      have ne_b15_b_71 : b15 ≠ b_71 := Nat.ne_of_lt (Nat.lt_of_lt_of_le F60.lt s71_b)
      have ne_b30_b_71 : b30 ≠ b_71 := Nat.ne_of_lt (Nat.lt_of_lt_of_le F61.lt s71_b)
      have ne_bA_b_71 : bA ≠ b_71 := Nat.ne_of_lt (Nat.lt_of_lt_of_le F62.lt s71_b)
      have ne_b58_b_71 : b58 ≠ b_71 := Nat.ne_of_lt (Nat.lt_of_lt_of_le A58.lt s71_b)
      have N71 := Fr.app N38 N71q
      have P81 : ∀ t, Steps p.tables e below (T71.setTop (mkF m 240 #[vI p1, vI p2, vI p3, vJ q4, vS, vJ q5, vS, vI p6, vI nx, vI mx, vI kx, vI px, vI c0, vI off, vI c1, vI dx, vI c2, vJ w0, vS, vJ w1, vS, vR b15, vR b30, vU, vU, vU, vU, vU, vU, vU, vU, vU, vU] [(.ref b58), (.ref bA), (.ref bA)])) t → Steps p.tables e below (s₁.setTop (entryFrame m #[(.int p1), (.int p2), (.int p3), (.long q4), (.long q5), (.int p6)] maxLocals)) t := fun t k => P70 _ (st71.trans k)
      obtain ⟨_, _, ⟨T82, L82, k82, n82⟩, -, X82, ⟨Lc82, hQ82, l82, y82, z82⟩, st82⟩ := X71.specialBack hx (y := (⟨"com/example/basewright/basewright/Alphabet", "<init>", "(Ljava/lang/String;)V"⟩ : MethodName)) rfl hown (mvT hZ (hw _ (List.mem_of_getElem? (i := 36) rfl))) (mvT hZ (hw _ (List.mem_of_getElem? (i := 37) rfl))) (mvT hZ (hw _ (List.mem_of_getElem? (i := 38) rfl))) (by decide) (backOf (W := 1) (rm27 l Z a0 hw [] bA b58 .null .null b_71 (1 : Int32) kb_71 (own_l3 c0 c1 c2) 1 wA wU wI ccs T71.heap n0 Z79 F72 F75 F76 F77 g_bA Y71_0 Y71_1 Y71_2 Y71_3 Y71_4 rfl (by decide) (own_l3s kc0 kc1 kc2 (by decide)) S_H S_wU S_wI S_wA neU neI S_cs hcc) hZ (hw _ (List.mem_of_getElem? (i := 38) rfl)) (hw _ (List.mem_of_getElem? (i := 6) rfl)) (by decide) (by decide)) (g := (mkF m 240 #[vI p1, vI p2, vI p3, vJ q4, vS, vJ q5, vS, vI p6, vI nx, vI mx, vI kx, vI px, vI c0, vI off, vI c1, vI dx, vI c2, vJ w0, vS, vJ w1, vS, vR b15, vR b30, vU, vU, vU, vU, vU, vU, vU, vU, vU, vU] [(.ref b58), (.ref bA), (.ref bA)])) rfl (by rw [hml]; rfl) (Steps.refl _) (a := bA) (argsL := [(.ref b58)]) (rest := [(.ref bA)]) (lenOf pd_12 rfl) rfl (by show 2 * 0 + _ ≤ _; exact Nat.le_of_eq rfl) (hb hby at_240) (fun _ _ => ⟨rfl, rfl, (by decide : 5 + 2 ≤ _), (by decide : 12 + 260 ≤ _)⟩)
      dsimp only [Pt.U, Pt.locs, Pt.cells, Pt.slots] at X82 l82 y82 z82 st82 hQ82
      subst l82 y82 z82
      obtain ⟨bc_82, bz_82, kz_82, rfl, N82q, K82, s82_bc, s82_bz, Y82_0, Y82_1, Y82_2, Y82_3, Y82_4⟩ := hQ82
      have F83 : Old Z n0 T82.heap := F72.keep K82 (allS g_bA all0)
      have F84 : own_Af Z T82.heap b15 kc_b15 .char (1 : Int32) (fun i => Value.int ((own_l3 c0 c1 c2) i)) := F73.keep K82 (ninS ne_b15_bA nin0)
      have F85 : own_Af Z T82.heap b30 kc_b30 .long (1 : Int32) (fun i => Value.long ((own_w2 w0 w1) i)) := F74.keep K82 (ninS ne_b30_bA nin0)
      have F86 : Exa Z T82.heap bA "com/example/basewright/basewright/Alphabet" := F75.keep K82
      have F87 : Exa Z T82.heap b58 "java/lang/String" := Y71_0.keep K82
      have F88 : Fld Z T82.heap b58 "java/lang/String" "value" "[B" (.ref b_71) := Y71_1.keep K82 (ninS (Ne.symm ne_bA_b58) nin0)
      have F89 : Fld Z T82.heap b58 "java/lang/String" "coder" "B" (.int (0 : Int32)) := Y71_2.keep K82 (ninS (Ne.symm ne_bA_b58) nin0)
      have F90 : own_Af Z T82.heap b_71 kb_71 .byte (1 : Int32) (fun i => Value.int ((own_l3 c0 c1 c2) i)) := Y71_3.keep K82 (ninS (Ne.symm ne_bA_b_71) nin0)
      have F91 : Exa Z T82.heap b_71 "[B" := Y71_4.keep K82
      have Z92 : n0 ≤ T82.heap.size := Nat.le_trans Z79 K82.1
      have K93 : Keep h0 T82.heap [] := K80.trans K82 (allS (Or.inr sz_bA) all0)
      have g_bc_82 : n0 ≤ bc_82 := Nat.le_trans Z79 s82_bc
      have sz_bc_82 : h0.size ≤ bc_82 := Nat.le_trans K80.1 s82_bc
      have ne_b15_bc_82 : b15 ≠ bc_82 := Nat.ne_of_lt (Nat.lt_of_lt_of_le F73.lt s82_bc)
      have ne_b30_bc_82 : b30 ≠ bc_82 := Nat.ne_of_lt (Nat.lt_of_lt_of_le F74.lt s82_bc)
      have ne_bA_bc_82 : bA ≠ bc_82 := Nat.ne_of_lt (Nat.lt_of_lt_of_le F75.lt s82_bc)
      have ne_b58_bc_82 : b58 ≠ bc_82 := Nat.ne_of_lt (Nat.lt_of_lt_of_le Y71_0.lt s82_bc)
      have ne_b_71_bc_82 : b_71 ≠ bc_82 := Nat.ne_of_lt (Nat.lt_of_lt_of_le Y71_3.lt s82_bc)
      have g_bz_82 : n0 ≤ bz_82 := Nat.le_trans Z79 s82_bz
      have sz_bz_82 : h0.size ≤ bz_82 := Nat.le_trans K80.1 s82_bz
      have ne_b15_bz_82 : b15 ≠ bz_82 := Nat.ne_of_lt (Nat.lt_of_lt_of_le F73.lt s82_bz)
      have ne_b30_bz_82 : b30 ≠ bz_82 := Nat.ne_of_lt (Nat.lt_of_lt_of_le F74.lt s82_bz)
      have ne_bA_bz_82 : bA ≠ bz_82 := Nat.ne_of_lt (Nat.lt_of_lt_of_le F75.lt s82_bz)
      have ne_b58_bz_82 : b58 ≠ bz_82 := Nat.ne_of_lt (Nat.lt_of_lt_of_le Y71_0.lt s82_bz)
      have ne_b_71_bz_82 : b_71 ≠ bz_82 := Nat.ne_of_lt (Nat.lt_of_lt_of_le Y71_3.lt s82_bz)
      have N82 := Fr.app N71 N82q
      have P94 : ∀ t, Steps p.tables e below (T82.setTop (mkF m 243 #[vI p1, vI p2, vI p3, vJ q4, vS, vJ q5, vS, vI p6, vI nx, vI mx, vI kx, vI px, vI c0, vI off, vI c1, vI dx, vI c2, vJ w0, vS, vJ w1, vS, vR b15, vR b30, vU, vU, vU, vU, vU, vU, vU, vU, vU, vU] [(.ref bA)])) t → Steps p.tables e below (s₁.setTop (entryFrame m #[(.int p1), (.int p2), (.int p3), (.long q4), (.long q5), (.int p6)] maxLocals)) t := fun t k => P81 _ (st82.trans k)
      have P95 : ∀ t, Steps p.tables e below (T82.setTop (mkF m 249 #[vI p1, vI p2, vI p3, vJ q4, vS, vJ q5, vS, vI p6, vI nx, vI mx, vI kx, vI px, vI c0, vI off, vI c1, vI dx, vI c2, vJ w0, vS, vJ w1, vS, vR b15, vR b30, vR bA, vU, vU, vU, vU, vU, vU, vU, vU, vU] [(.ref b30), (.ref bA)])) t → Steps p.tables e below (s₁.setTop (entryFrame m #[(.int p1), (.int p2), (.int p3), (.long q4), (.long q5), (.int p6)] maxLocals)) t := by
        intro t k
        refine P94 _ ?_
        refine XS.astore X82.here hx rfl (hb hby at_243) rfl rfl (l' := #[vI p1, vI p2, vI p3, vJ q4, vS, vJ q5, vS, vI p6, vI nx, vI mx, vI kx, vI px, vI c0, vI off, vI c1, vI dx, vI c2, vJ w0, vS, vJ w1, vS, vR b15, vR b30, vR bA, vU, vU, vU, vU, vU, vU, vU, vU, vU]) rfl ?_
        show Steps p.tables e below (T82.setTop (mkF m 245 #[vI p1, vI p2, vI p3, vJ q4, vS, vJ q5, vS, vI p6, vI nx, vI mx, vI kx, vI px, vI c0, vI off, vI c1, vI dx, vI c2, vJ w0, vS, vJ w1, vS, vR b15, vR b30, vR bA, vU, vU, vU, vU, vU, vU, vU, vU, vU] [])) _
        refine XS.aload X82.here hx rfl (hb hby at_245) rfl rfl ?_
        show Steps p.tables e below (T82.setTop (mkF m 247 #[vI p1, vI p2, vI p3, vJ q4, vS, vJ q5, vS, vI p6, vI nx, vI mx, vI kx, vI px, vI c0, vI off, vI c1, vI dx, vI c2, vJ w0, vS, vJ w1, vS, vR b15, vR b30, vR bA, vU, vU, vU, vU, vU, vU, vU, vU, vU] [(.ref bA)])) _
        refine XS.aload X82.here hx rfl (hb hby at_247) rfl rfl ?_
        show Steps p.tables e below (T82.setTop (mkF m 249 #[vI p1, vI p2, vI p3, vJ q4, vS, vJ q5, vS, vI p6, vI nx, vI mx, vI kx, vI px, vI c0, vI off, vI c1, vI dx, vI c2, vJ w0, vS, vJ w1, vS, vR b15, vR b30, vR bA, vU, vU, vU, vU, vU, vU, vU, vU, vU] [(.ref b30), (.ref bA)])) _
        exact k
      obtain ⟨cq96, kq96, qa96, qb96, qc96⟩ := isOf hZ rfl Y82_0
      obtain ⟨_, _, ⟨T96, L96, k96, n96⟩, -, X96, ⟨Lc96, hQ96, l96, y96, z96⟩, st96⟩ := X82.virtualBack hx (y := (⟨"com/example/basewright/basewright/Alphabet", "weightedValues", "([J)[J"⟩ : MethodName)) (z := (⟨"com/example/basewright/basewright/Alphabet", "weightedValues", "([J)[J"⟩ : MethodName)) hown (mvT hZ (hw _ (List.mem_of_getElem? (i := 85) rfl))) (mvT hZ (hw _ (List.mem_of_getElem? (i := 86) rfl))) (notFace_of_selects (args := #[]) (mvT hZ (hw _ (List.mem_of_getElem? (i := 88) rfl)))) (mvT hZ (hw _ (List.mem_of_getElem? (i := 88) rfl))) (mvT hZ (hw _ (List.mem_of_getElem? (i := 87) rfl))) (by decide) (backOf (W := 0) (rm29 l Z a0 hw [] bA b30 bz_82 (1 : Int32) kz_82 kc_b30 (own_vf (own_l3 c0 c1 c2) 1) (own_w2 w0 w1) 1 T82.heap n0 Z92 Y82_2 Y82_4 F85 rfl (by decide)) hZ (hw _ (List.mem_of_getElem? (i := 89) rfl)) (hw _ (List.mem_of_getElem? (i := 6) rfl)) (by decide) (by decide)) qa96 qc96 (g := (mkF m 249 #[vI p1, vI p2, vI p3, vJ q4, vS, vJ q5, vS, vI p6, vI nx, vI mx, vI kx, vI px, vI c0, vI off, vI c1, vI dx, vI c2, vJ w0, vS, vJ w1, vS, vR b15, vR b30, vR bA, vU, vU, vU, vU, vU, vU, vU, vU, vU] [(.ref b30), (.ref bA)])) rfl (by rw [hml]; rfl) (Steps.refl _) (argsL := [(.ref b30)]) (rest := []) (lenOf pd_13 rfl) rfl (by show 2 * 0 + _ ≤ _; exact Nat.le_of_eq rfl) (hb hby at_249) (fun _ _ => ⟨rfl, rfl, (by decide : 7 + 1 ≤ _), (by decide : 272 + 512 ≤ _)⟩)
      dsimp only [Pt.U, Pt.locs, Pt.cells, Pt.slots] at X96 l96 y96 z96 st96 hQ96
      subst l96 y96 z96
      obtain ⟨b_96, kp_96, nq_96, rfl, N96q, K96, s96_b, Y96_0, Y96_1⟩ := hQ96
      have F97 : Old Z n0 T96.heap := F83.keep K96 all0
      have F98 : own_Af Z T96.heap b15 kc_b15 .char (1 : Int32) (fun i => Value.int ((own_l3 c0 c1 c2) i)) := F84.keep K96 nin0
      have F99 : own_Af Z T96.heap b30 kc_b30 .long (1 : Int32) (fun i => Value.long ((own_w2 w0 w1) i)) := F85.keep K96 nin0
      have F100 : Exa Z T96.heap bA "com/example/basewright/basewright/Alphabet" := Y82_0.keep K96
      have F101 : Exa Z T96.heap b58 "java/lang/String" := F87.keep K96
      have F102 : Fld Z T96.heap b58 "java/lang/String" "value" "[B" (.ref b_71) := F88.keep K96 nin0
      have F103 : Fld Z T96.heap b58 "java/lang/String" "coder" "B" (.int (0 : Int32)) := F89.keep K96 nin0
      have F104 : own_Af Z T96.heap b_71 kb_71 .byte (1 : Int32) (fun i => Value.int ((own_l3 c0 c1 c2) i)) := F90.keep K96 nin0
      have F105 : Exa Z T96.heap b_71 "[B" := F91.keep K96
      have F106 : Fld Z T96.heap bA "com/example/basewright/basewright/Alphabet" "characters" "[B" (.ref bc_82) := Y82_1.keep K96 nin0
      have F107 : Fld Z T96.heap bA "com/example/basewright/basewright/Alphabet" "values" "[B" (.ref bz_82) := Y82_2.keep K96 nin0
      have F108 : own_Af Z T96.heap bc_82 kb_71 .byte (1 : Int32) (fun i => Value.int ((own_l3 c0 c1 c2) i)) := Y82_3.keep K96 nin0
      have F109 : own_Af Z T96.heap bz_82 kz_82 .byte (256 : Int32) (fun j => Value.int (own_vf (own_l3 c0 c1 c2) 1 j)) := Y82_4.keep K96 nin0
      have Z110 : n0 ≤ T96.heap.size := Nat.le_trans Z92 K96.1
      have K111 : Keep h0 T96.heap [] := K93.trans K96 all0
      have g_b_96 : n0 ≤ b_96 := Nat.le_trans Z92 s96_b
      have sz_b_96 : h0.size ≤ b_96 := Nat.le_trans K93.1 s96_b
      have ne_b15_b_96 : b15 ≠ b_96 := Nat.ne_of_lt (Nat.lt_of_lt_of_le F84.lt s96_b)
      have ne_b30_b_96 : b30 ≠ b_96 := Nat.ne_of_lt (Nat.lt_of_lt_of_le F85.lt s96_b)
      have ne_bA_b_96 : bA ≠ b_96 := Nat.ne_of_lt (Nat.lt_of_lt_of_le Y82_0.lt s96_b)
      have ne_b58_b_96 : b58 ≠ b_96 := Nat.ne_of_lt (Nat.lt_of_lt_of_le F87.lt s96_b)
      have ne_b_71_b_96 : b_71 ≠ b_96 := Nat.ne_of_lt (Nat.lt_of_lt_of_le F90.lt s96_b)
      have ne_bc_82_b_96 : bc_82 ≠ b_96 := Nat.ne_of_lt (Nat.lt_of_lt_of_le Y82_3.lt s96_b)
      have ne_bz_82_b_96 : bz_82 ≠ b_96 := Nat.ne_of_lt (Nat.lt_of_lt_of_le Y82_4.lt s96_b)
      have N96 := Fr.app N82 N96q
      have P112 : ∀ t, Steps p.tables e below (T96.setTop (mkF m 252 #[vI p1, vI p2, vI p3, vJ q4, vS, vJ q5, vS, vI p6, vI nx, vI mx, vI kx, vI px, vI c0, vI off, vI c1, vI dx, vI c2, vJ w0, vS, vJ w1, vS, vR b15, vR b30, vR bA, vU, vU, vU, vU, vU, vU, vU, vU, vU] [(.ref b_96)])) t → Steps p.tables e below (s₁.setTop (entryFrame m #[(.int p1), (.int p2), (.int p3), (.long q4), (.long q5), (.int p6)] maxLocals)) t := fun t k => P95 _ (st96.trans k)
      have P113 : ∀ t, Steps p.tables e below (T96.setTop (mkF m 254 #[vI p1, vI p2, vI p3, vJ q4, vS, vJ q5, vS, vI p6, vI nx, vI mx, vI kx, vI px, vI c0, vI off, vI c1, vI dx, vI c2, vJ w0, vS, vJ w1, vS, vR b15, vR b30, vR bA, vR b_96, vU, vU, vU, vU, vU, vU, vU, vU] [])) t → Steps p.tables e below (s₁.setTop (entryFrame m #[(.int p1), (.int p2), (.int p3), (.long q4), (.long q5), (.int p6)] maxLocals)) t := by
        intro t k
        refine P112 _ ?_
        refine XS.astore X96.here hx rfl (hb hby at_252) rfl rfl (l' := #[vI p1, vI p2, vI p3, vJ q4, vS, vJ q5, vS, vI p6, vI nx, vI mx, vI kx, vI px, vI c0, vI off, vI c1, vI dx, vI c2, vJ w0, vS, vJ w1, vS, vR b15, vR b30, vR bA, vR b_96, vU, vU, vU, vU, vU, vU, vU, vU]) rfl ?_
        show Steps p.tables e below (T96.setTop (mkF m 254 #[vI p1, vI p2, vI p3, vJ q4, vS, vJ q5, vS, vI p6, vI nx, vI mx, vI kx, vI px, vI c0, vI off, vI c1, vI dx, vI c2, vJ w0, vS, vJ w1, vS, vR b15, vR b30, vR bA, vR b_96, vU, vU, vU, vU, vU, vU, vU, vU] [])) _
        exact k
      have hq24 := (own_m8 (mm := 1) Y96_1 rfl (by decide)).1
      have hlen : nq_96 = (mx * (256 : Int32)) := by rw [Y96_1, hmv]; rfl
      obtain ⟨T114, h114, lo114, X114, e114, N114, K114, q114, st114⟩ := tlA (by decide) (by decide) p1 p2 p3 q4 q5 p6 nx mx kx px c0 off c1 dx c2 w0 w1 b15 b30 bA b_96 nq_96 kp_96 1 1 kk X96 hx hZ hw hby hml hown rfl N96 Z110 Y96_0 hq24 hlen hnn (by decide) hkk hkm (by decide) hk1 kc0 kc1 kc2 hne3 kpx kp8 kp9
      have P115 : ∀ t, Steps p.tables e below (T114.setTop (mkF m 423 #[vI p1, vI p2, vI p3, vJ q4, vS, vJ q5, vS, vI p6, vI nx, vI mx, vI kx, vI px, vI c0, vI off, vI c1, vI dx, vI c2, vJ w0, vS, vJ w1, vS, vR b15, vR b30, vR bA, vR b_96, .val (.long (if kx = (0 : Int32) then w0 else w1)), vS, .val (.int (kx <<< ((8 : Int32) &&& 31))), .val (.int (1 : Int32)), vU, vU, vU, vU] [])) t → Steps p.tables e below (s₁.setTop (entryFrame m #[(.int p1), (.int p2), (.int p3), (.long q4), (.long q5), (.int p6)] maxLocals)) t := fun t k => P113 _ (st114 _ k)
      have Z116 : n0 ≤ h114.size := Nat.le_trans Z110 K114.1
      have P117 : ∀ t, Steps p.tables e below (T114.setTop (mkF m 578 #[vI p1, vI p2, vI p3, vJ q4, vS, vJ q5, vS, vI p6, vI nx, vI mx, vI kx, vI px, vI c0, vI off, vI c1, vI dx, vI c2, vJ w0, vS, vJ w1, vS, vR b15, vR b30, vR bA, vR b_96, .val (.long (if kx = (0 : Int32) then w0 else w1)), vS, .val (.int (kx <<< ((8 : Int32) &&& 31))), .val (.int (1 : Int32)), vU, vU, vU, vU] [(.int (1 : Int32))])) t → Steps p.tables e below (s₁.setTop (entryFrame m #[(.int p1), (.int p2), (.int p3), (.long q4), (.long q5), (.int p6)] maxLocals)) t := by
        intro t k
        refine P115 _ ?_
        refine XS.iload X114.here hx rfl (hb hby at_423) rfl ?_
        show Steps p.tables e below (T114.setTop (mkF m 425 #[vI p1, vI p2, vI p3, vJ q4, vS, vJ q5, vS, vI p6, vI nx, vI mx, vI kx, vI px, vI c0, vI off, vI c1, vI dx, vI c2, vJ w0, vS, vJ w1, vS, vR b15, vR b30, vR bA, vR b_96, .val (.long (if kx = (0 : Int32) then w0 else w1)), vS, .val (.int (kx <<< ((8 : Int32) &&& 31))), .val (.int (1 : Int32)), vU, vU, vU, vU] [(.int mx)])) _
        refine XS.iconst X114.here hx rfl (hb hby at_425) ?_
        show Steps p.tables e below (T114.setTop (mkF m 426 #[vI p1, vI p2, vI p3, vJ q4, vS, vJ q5, vS, vI p6, vI nx, vI mx, vI kx, vI px, vI c0, vI off, vI c1, vI dx, vI c2, vJ w0, vS, vJ w1, vS, vR b15, vR b30, vR bA, vR b_96, .val (.long (if kx = (0 : Int32) then w0 else w1)), vS, .val (.int (kx <<< ((8 : Int32) &&& 31))), .val (.int (1 : Int32)), vU, vU, vU, vU] [(.int (2 : Int32)), (.int mx)])) _
        refine XS.icmpYes X114.here hx rfl (pc0 := 426) (pc' := 576) rfl (hb hby at_426) rfl (XT.ii_ne_t (by rw [hmv]; decide)) (by decide) (by decide) ?_
        show Steps p.tables e below (T114.setTop (mkF m 576 #[vI p1, vI p2, vI p3, vJ q4, vS, vJ q5, vS, vI p6, vI nx, vI mx, vI kx, vI px, vI c0, vI off, vI c1, vI dx, vI c2, vJ w0, vS, vJ w1, vS, vR b15, vR b30, vR bA, vR b_96, .val (.long (if kx = (0 : Int32) then w0 else w1)), vS, .val (.int (kx <<< ((8 : Int32) &&& 31))), .val (.int (1 : Int32)), vU, vU, vU, vU] [])) _
        refine XS.iload X114.here hx rfl (hb hby at_576) rfl ?_
        show Steps p.tables e below (T114.setTop (mkF m 578 #[vI p1, vI p2, vI p3, vJ q4, vS, vJ q5, vS, vI p6, vI nx, vI mx, vI kx, vI px, vI c0, vI off, vI c1, vI dx, vI c2, vJ w0, vS, vJ w1, vS, vR b15, vR b30, vR bA, vR b_96, .val (.long (if kx = (0 : Int32) then w0 else w1)), vS, .val (.int (kx <<< ((8 : Int32) &&& 31))), .val (.int (1 : Int32)), vU, vU, vU, vU] [(.int (1 : Int32))])) _
        exact k
      obtain ⟨fs, hr, hrun, hended, hW, hsame⟩ := X114.leave (v := some (.int (1 : Int32))) (fun h => by rw [Bd.returns] at h; cases h)
      refine ⟨_, _, P117 _ ?_, hrun, hended, _, _, rfl, ?_, ⟨_, rfl⟩, hW, hsame.mono (by decide) (by decide)⟩
      · exact retN X114 hx (t := .boolean) Bd.returns (by simp) (hb hby at_578) hr
      · show Q0 Z p1 p2 p3 q4 q5 p6 ccs wA wU wI h0 n0 _ T114.heap _
        rw [e114]
        exact ⟨rfl, N114⟩
    · have P118 : ∀ t, Steps p.tables e below (T22.setTop (mkF m 213 #[vI p1, vI p2, vI p3, vJ q4, vS, vJ q5, vS, vI p6, vI nx, vI mx, vI kx, vI px, vI c0, vI off, vI c1, vI dx, vI c2, vJ w0, vS, vJ w1, vS, vR b15, vU, vU, vU, vU, vU, vU, vU, vU, vU, vU, vU] [(.int (2 : Int32))])) t → Steps p.tables e below (s₁.setTop (entryFrame m #[(.int p1), (.int p2), (.int p3), (.long q4), (.long q5), (.int p6)] maxLocals)) t := by
        intro t k
        refine P28 _ ?_
        refine XS.icmpYes X22.here hx rfl (pc0 := 198) (pc' := 212) rfl (hb hby at_198) rfl (XT.ii_ne_t c198) (by decide) (by decide) ?_
        show Steps p.tables e below (T22.setTop (mkF m 212 #[vI p1, vI p2, vI p3, vJ q4, vS, vJ q5, vS, vI p6, vI nx, vI mx, vI kx, vI px, vI c0, vI off, vI c1, vI dx, vI c2, vJ w0, vS, vJ w1, vS, vR b15, vU, vU, vU, vU, vU, vU, vU, vU, vU, vU, vU] [])) _
        refine XS.iconst X22.here hx rfl (hb hby at_212) ?_
        show Steps p.tables e below (T22.setTop (mkF m 213 #[vI p1, vI p2, vI p3, vJ q4, vS, vJ q5, vS, vI p6, vI nx, vI mx, vI kx, vI px, vI c0, vI off, vI c1, vI dx, vI c2, vJ w0, vS, vJ w1, vS, vR b15, vU, vU, vU, vU, vU, vU, vU, vU, vU, vU, vU] [(.int (2 : Int32))])) _
        exact k
      obtain ⟨T119, h119, k119, X119, e119, E119, A119, st119⟩ := newP X22 hx hZ (hw _ (List.mem_of_getElem? (i := 3) rfl)) e22 (g := (mkF m 213 #[vI p1, vI p2, vI p3, vJ q4, vS, vJ q5, vS, vI p6, vI nx, vI mx, vI kx, vI px, vI c0, vI off, vI c1, vI dx, vI c2, vJ w0, vS, vJ w1, vS, vR b15, vU, vU, vU, vU, vU, vU, vU, vU, vU, vU, vU] [(.int (2 : Int32))])) rfl (hb hby at_213) rfl (by decide) (cap := 2) (by decide) (by decide) (by decide) (by decide)
      obtain ⟨b119, g119⟩ : ∃ z, z = h22.size := ⟨_, rfl⟩
      rw [← g119] at A119 st119
      have F120 : Old Z n0 h119 := F23.ext E119
      have F121 : Arv Z h119 b15 kc_b15 .char (1 : Int32) [(.int c0)] (.int (0 : Int32)) := F24.ext E119
      obtain ⟨kc_b119, hkc_b119⟩ : ∃ z, z = k119 := ⟨_, rfl⟩
      rw [← hkc_b119] at A119
      have F122 : Arv Z h119 b119 kc_b119 .long (2 : Int32) [(.long (0 : Int64)), (.long (0 : Int64))] (.long (0 : Int64)) := (Arv.new A119 (by decide)).pad (pad_rep [] (.long (0 : Int64)) 2)
      have Z123 : n0 ≤ h119.size := Nat.le_trans Z25 E119.1
      have K124 : Keep h0 h119 [] := K26.ext E119
      have g_b119 : n0 ≤ b119 := Nat.le_trans Z25 (Nat.le_of_eq g119.symm)
      have sz_b119 : h0.size ≤ b119 := Nat.le_trans K26.1 (Nat.le_of_eq g119.symm)
      have ne_b15_b119 : b15 ≠ b119 := Nat.ne_of_lt (Nat.lt_of_lt_of_le F24.lt (Nat.le_of_eq g119.symm))
      have P125 : ∀ t, Steps p.tables e below (T119.setTop (mkF m 215 #[vI p1, vI p2, vI p3, vJ q4, vS, vJ q5, vS, vI p6, vI nx, vI mx, vI kx, vI px, vI c0, vI off, vI c1, vI dx, vI c2, vJ w0, vS, vJ w1, vS, vR b15, vU, vU, vU, vU, vU, vU, vU, vU, vU, vU, vU] [(.ref b119)])) t → Steps p.tables e below (s₁.setTop (entryFrame m #[(.int p1), (.int p2), (.int p3), (.long q4), (.long q5), (.int p6)] maxLocals)) t := fun t k => P118 _ (st119 _ k)
      have P126 : ∀ t, Steps p.tables e below (T119.setTop (mkF m 219 #[vI p1, vI p2, vI p3, vJ q4, vS, vJ q5, vS, vI p6, vI nx, vI mx, vI kx, vI px, vI c0, vI off, vI c1, vI dx, vI c2, vJ w0, vS, vJ w1, vS, vR b15, vU, vU, vU, vU, vU, vU, vU, vU, vU, vU, vU] [(.long w0), (.int (0 : Int32)), (.ref b119), (.ref b119)])) t → Steps p.tables e below (s₁.setTop (entryFrame m #[(.int p1), (.int p2), (.int p3), (.long q4), (.long q5), (.int p6)] maxLocals)) t := by
        intro t k
        refine P125 _ ?_
        refine XS.dup X119.here hx rfl (hb hby at_215) rfl rfl ?_
        show Steps p.tables e below (T119.setTop (mkF m 216 #[vI p1, vI p2, vI p3, vJ q4, vS, vJ q5, vS, vI p6, vI nx, vI mx, vI kx, vI px, vI c0, vI off, vI c1, vI dx, vI c2, vJ w0, vS, vJ w1, vS, vR b15, vU, vU, vU, vU, vU, vU, vU, vU, vU, vU, vU] [(.ref b119), (.ref b119)])) _
        refine XS.iconst X119.here hx rfl (hb hby at_216) ?_
        show Steps p.tables e below (T119.setTop (mkF m 217 #[vI p1, vI p2, vI p3, vJ q4, vS, vJ q5, vS, vI p6, vI nx, vI mx, vI kx, vI px, vI c0, vI off, vI c1, vI dx, vI c2, vJ w0, vS, vJ w1, vS, vR b15, vU, vU, vU, vU, vU, vU, vU, vU, vU, vU, vU] [(.int (0 : Int32)), (.ref b119), (.ref b119)])) _
        refine XT.lload X119.here hx rfl (hb hby at_217) rfl ?_
        show Steps p.tables e below (T119.setTop (mkF m 219 #[vI p1, vI p2, vI p3, vJ q4, vS, vJ q5, vS, vI p6, vI nx, vI mx, vI kx, vI px, vI c0, vI off, vI c1, vI dx, vI c2, vJ w0, vS, vJ w1, vS, vR b15, vU, vU, vU, vU, vU, vU, vU, vU, vU, vU, vU] [(.long w0), (.int (0 : Int32)), (.ref b119), (.ref b119)])) _
        exact k
      obtain ⟨cl127, Ar127, q127, S127, M127, H127, G127⟩ := F122
      have in127 : ¬ ((0 : Int32) < 0 ∨ cl127.slots.size ≤ ((0 : Int32)).toNatClampNeg) := inb_of S127 ⟨by decide, by decide⟩
      obtain ⟨T127, h127, X127, e127, W127, st127⟩ := stJ X119 hx hZ e119 Ar127 (j := (0 : Int32)) in127 (g := (mkF m 219 #[vI p1, vI p2, vI p3, vJ q4, vS, vJ q5, vS, vI p6, vI nx, vI mx, vI kx, vI px, vI c0, vI off, vI c1, vI dx, vI c2, vJ w0, vS, vJ w1, vS, vR b15, vU, vU, vU, vU, vU, vU, vU, vU, vU, vU, vU] [(.long w0), (.int (0 : Int32)), (.ref b119), (.ref b119)])) rfl rfl (hb hby at_219)
      have F128 : Old Z n0 h127 := F120.wr W127 g_b119
      have F129 : Arv Z h127 b15 kc_b15 .char (1 : Int32) [(.int c0)] (.int (0 : Int32)) := F121.other W127 ne_b15_b119
      have F130 : Arv Z h127 b119 kc_b119 .long (2 : Int32) [(.long w0), (.long (0 : Int64))] (.long (0 : Int64)) := Arv.set Ar127 q127 S127 M127 H127 G127 rfl W127 0 rfl (Nat.le_of_ble_eq_true rfl)
      have Z131 : n0 ≤ h127.size := Nat.le_trans Z123 (Keep.of_wr W127).1
      have K132 : Keep h0 h127 [] := K124.wr W127 (Or.inr sz_b119)
      have N127 := Fr.snoc X127 N22 g_b119
      have P133 : ∀ t, Steps p.tables e below (T127.setTop (mkF m 220 #[vI p1, vI p2, vI p3, vJ q4, vS, vJ q5, vS, vI p6, vI nx, vI mx, vI kx, vI px, vI c0, vI off, vI c1, vI dx, vI c2, vJ w0, vS, vJ w1, vS, vR b15, vU, vU, vU, vU, vU, vU, vU, vU, vU, vU, vU] [(.ref b119)])) t → Steps p.tables e below (s₁.setTop (entryFrame m #[(.int p1), (.int p2), (.int p3), (.long q4), (.long q5), (.int p6)] maxLocals)) t := fun t k => P126 _ (st127 _ k)
      have P134 : ∀ t, Steps p.tables e below (T127.setTop (mkF m 224 #[vI p1, vI p2, vI p3, vJ q4, vS, vJ q5, vS, vI p6, vI nx, vI mx, vI kx, vI px, vI c0, vI off, vI c1, vI dx, vI c2, vJ w0, vS, vJ w1, vS, vR b15, vU, vU, vU, vU, vU, vU, vU, vU, vU, vU, vU] [(.long w1), (.int (1 : Int32)), (.ref b119), (.ref b119)])) t → Steps p.tables e below (s₁.setTop (entryFrame m #[(.int p1), (.int p2), (.int p3), (.long q4), (.long q5), (.int p6)] maxLocals)) t := by
        intro t k
        refine P133 _ ?_
        refine XS.dup X127.here hx rfl (hb hby at_220) rfl rfl ?_
        show Steps p.tables e below (T127.setTop (mkF m 221 #[vI p1, vI p2, vI p3, vJ q4, vS, vJ q5, vS, vI p6, vI nx, vI mx, vI kx, vI px, vI c0, vI off, vI c1, vI dx, vI c2, vJ w0, vS, vJ w1, vS, vR b15, vU, vU, vU, vU, vU, vU, vU, vU, vU, vU, vU] [(.ref b119), (.ref b119)])) _
        refine XS.iconst X127.here hx rfl (hb hby at_221) ?_
        show Steps p.tables e below (T127.setTop (mkF m 222 #[vI p1, vI p2, vI p3, vJ q4, vS, vJ q5, vS, vI p6, vI nx, vI mx, vI kx, vI px, vI c0, vI off, vI c1, vI dx, vI c2, vJ w0, vS, vJ w1, vS, vR b15, vU, vU, vU, vU, vU, vU, vU, vU, vU, vU, vU] [(.int (1 : Int32)), (.ref b119), (.ref b119)])) _
        refine XT.lload X127.here hx rfl (hb hby at_222) rfl ?_
        show Steps p.tables e below (T127.setTop (mkF m 224 #[vI p1, vI p2, vI p3, vJ q4, vS, vJ q5, vS, vI p6, vI nx, vI mx, vI kx, vI px, vI c0, vI off, vI c1, vI dx, vI c2, vJ w0, vS, vJ w1, vS, vR b15, vU, vU, vU, vU, vU, vU, vU, vU, vU, vU, vU] [(.long w1), (.int (1 : Int32)), (.ref b119), (.ref b119)])) _
        exact k
      obtain ⟨cl135, Ar135, q135, S135, M135, H135, G135⟩ := F130
      have in135 : ¬ ((1 : Int32) < 0 ∨ cl135.slots.size ≤ ((1 : Int32)).toNatClampNeg) := inb_of S135 ⟨by decide, by decide⟩
      obtain ⟨T135, h135, X135, e135, W135, st135⟩ := stJ X127 hx hZ e127 Ar135 (j := (1 : Int32)) in135 (g := (mkF m 224 #[vI p1, vI p2, vI p3, vJ q4, vS, vJ q5, vS, vI p6, vI nx, vI mx, vI kx, vI px, vI c0, vI off, vI c1, vI dx, vI c2, vJ w0, vS, vJ w1, vS, vR b15, vU, vU, vU, vU, vU, vU, vU, vU, vU, vU, vU] [(.long w1), (.int (1 : Int32)), (.ref b119), (.ref b119)])) rfl rfl (hb hby at_224)
      have F136 : Old Z n0 h135 := F128.wr W135 g_b119
      have F137 : Arv Z h135 b15 kc_b15 .char (1 : Int32) [(.int c0)] (.int (0 : Int32)) := F129.other W135 ne_b15_b119
      have F138 : Arv Z h135 b119 kc_b119 .long (2 : Int32) [(.long w0), (.long w1)] (.long (0 : Int64)) := Arv.set Ar135 q135 S135 M135 H135 G135 rfl W135 1 rfl (Nat.le_of_ble_eq_true rfl)
      have Z139 : n0 ≤ h135.size := Nat.le_trans Z131 (Keep.of_wr W135).1
      have K140 : Keep h0 h135 [] := K132.wr W135 (Or.inr sz_b119)
      have N135 := Fr.snoc X135 N127 g_b119
      have P141 : ∀ t, Steps p.tables e below (T135.setTop (mkF m 225 #[vI p1, vI p2, vI p3, vJ q4, vS, vJ q5, vS, vI p6, vI nx, vI mx, vI kx, vI px, vI c0, vI off, vI c1, vI dx, vI c2, vJ w0, vS, vJ w1, vS, vR b15, vU, vU, vU, vU, vU, vU, vU, vU, vU, vU, vU] [(.ref b119)])) t → Steps p.tables e below (s₁.setTop (entryFrame m #[(.int p1), (.int p2), (.int p3), (.long q4), (.long q5), (.int p6)] maxLocals)) t := fun t k => P134 _ (st135 _ k)
      have P142 : ∀ t, Steps p.tables e below (T135.setTop (mkF m 227 #[vI p1, vI p2, vI p3, vJ q4, vS, vJ q5, vS, vI p6, vI nx, vI mx, vI kx, vI px, vI c0, vI off, vI c1, vI dx, vI c2, vJ w0, vS, vJ w1, vS, vR b15, vR b119, vU, vU, vU, vU, vU, vU, vU, vU, vU, vU] [])) t → Steps p.tables e below (s₁.setTop (entryFrame m #[(.int p1), (.int p2), (.int p3), (.long q4), (.long q5), (.int p6)] maxLocals)) t := by
        intro t k
        refine P141 _ ?_
        refine XS.astore X135.here hx rfl (hb hby at_225) rfl rfl (l' := #[vI p1, vI p2, vI p3, vJ q4, vS, vJ q5, vS, vI p6, vI nx, vI mx, vI kx, vI px, vI c0, vI off, vI c1, vI dx, vI c2, vJ w0, vS, vJ w1, vS, vR b15, vR b119, vU, vU, vU, vU, vU, vU, vU, vU, vU, vU]) rfl ?_
        show Steps p.tables e below (T135.setTop (mkF m 227 #[vI p1, vI p2, vI p3, vJ q4, vS, vJ q5, vS, vI p6, vI nx, vI mx, vI kx, vI px, vI c0, vI off, vI c1, vI dx, vI c2, vJ w0, vS, vJ w1, vS, vR b15, vR b119, vU, vU, vU, vU, vU, vU, vU, vU, vU, vU] [])) _
        exact k
      have V143 : own_Af Z h135 b15 kc_b15 .char (1 : Int32) (fun i => Value.int ((own_l3 c0 c1 c2) i)) := (own_convV F137).same (fun i hi => by
        match i, hi with
        | 0, _ => rfl
        | j + 1, hj => exact absurd hj (by show ¬ j + 1 < 1; omega))
      have V144 : own_Af Z h135 b119 kc_b119 .long (2 : Int32) (fun i => Value.long ((own_w2 w0 w1) i)) := (own_convV F138).same (fun i hi => by
        match i, hi with
        | 0, _ => rfl
        | 1, _ => rfl
        | j + 2, hj => exact absurd hj (by show ¬ j + 2 < 2; omega))
      have hnv : nx = (1 : Int32) := c129
      have hmv : mx = (2 : Int32) := (hm12.resolve_left c198)
      have hkm : kk < 2 := by
        rw [hmv] at hkm0
        have e : (2 : Int32).toInt = 2 := rfl
        omega
      have hnn : nx.toInt = ((1 : Nat) : Int) := by rw [hnv]; rfl
      obtain ⟨T145, h145, X145, e145, E145, A145, D145, -, st145⟩ := newO X135 hx hZ hown (hw _ (List.mem_of_getElem? (i := 4) rfl)) (hw _ (List.mem_of_getElem? (i := 5) rfl)) (hw _ (List.mem_of_getElem? (i := 6) rfl)) e135 (g := (mkF m 227 #[vI p1, vI p2, vI p3, vJ q4, vS, vJ q5, vS, vI p6, vI nx, vI mx, vI kx, vI px, vI c0, vI off, vI c1, vI dx, vI c2, vJ w0, vS, vJ w1, vS, vR b15, vR b119, vU, vU, vU, vU, vU, vU, vU, vU, vU, vU] [])) rfl (hb hby at_227) (by decide) (by decide)
      obtain ⟨bA, g145⟩ : ∃ z, z = h135.size := ⟨_, rfl⟩
      rw [← g145] at A145 D145 st145
      have F146 : Old Z n0 h145 := F136.ext E145
      have F147 : own_Af Z h145 b15 kc_b15 .char (1 : Int32) (fun i => Value.int ((own_l3 c0 c1 c2) i)) := V143.ext E145
      have F148 : own_Af Z h145 b119 kc_b119 .long (2 : Int32) (fun i => Value.long ((own_w2 w0 w1) i)) := V144.ext E145
      have F149 : Fld Z h145 bA "com/example/basewright/basewright/Alphabet" "characters" "[B" .null := D145 (Or.inr (hw _ (List.mem_of_getElem? (i := 78) rfl))) (ty := (.array .byte)) (by decide)
      have F150 : Fld Z h145 bA "com/example/basewright/basewright/Alphabet" "values" "[B" .null := D145 (Or.inr (hw _ (List.mem_of_getElem? (i := 80) rfl))) (ty := (.array .byte)) (by decide)
      have Z151 : n0 ≤ h145.size := Nat.le_trans Z139 E145.1
      have K152 : Keep h0 h145 [] := K140.ext E145
      have g_bA : n0 ≤ bA := Nat.le_trans Z139 (Nat.le_of_eq g145.symm)
      have sz_bA : h0.size ≤ bA := Nat.le_trans K140.1 (Nat.le_of_eq g145.symm)
      have ne_b15_bA : b15 ≠ bA := Nat.ne_of_lt (Nat.lt_of_lt_of_le V143.lt (Nat.le_of_eq g145.symm))
      have ne_b119_bA : b119 ≠ bA := Nat.ne_of_lt (Nat.lt_of_lt_of_le V144.lt (Nat.le_of_eq g145.symm))
      have P153 : ∀ t, Steps p.tables e below (T145.setTop (mkF m 230 #[vI p1, vI p2, vI p3, vJ q4, vS, vJ q5, vS, vI p6, vI nx, vI mx, vI kx, vI px, vI c0, vI off, vI c1, vI dx, vI c2, vJ w0, vS, vJ w1, vS, vR b15, vR b119, vU, vU, vU, vU, vU, vU, vU, vU, vU, vU] [(.ref bA)])) t → Steps p.tables e below (s₁.setTop (entryFrame m #[(.int p1), (.int p2), (.int p3), (.long q4), (.long q5), (.int p6)] maxLocals)) t := fun t k => P142 _ (st145 _ k)
      have P154 : ∀ t, Steps p.tables e below (T145.setTop (mkF m 231 #[vI p1, vI p2, vI p3, vJ q4, vS, vJ q5, vS, vI p6, vI nx, vI mx, vI kx, vI px, vI c0, vI off, vI c1, vI dx, vI c2, vJ w0, vS, vJ w1, vS, vR b15, vR b119, vU, vU, vU, vU, vU, vU, vU, vU, vU, vU] [(.ref bA), (.ref bA)])) t → Steps p.tables e below (s₁.setTop (entryFrame m #[(.int p1), (.int p2), (.int p3), (.long q4), (.long q5), (.int p6)] maxLocals)) t := by
        intro t k
        refine P153 _ ?_
        refine XS.dup X145.here hx rfl (hb hby at_230) rfl rfl ?_
        show Steps p.tables e below (T145.setTop (mkF m 231 #[vI p1, vI p2, vI p3, vJ q4, vS, vJ q5, vS, vI p6, vI nx, vI mx, vI kx, vI px, vI c0, vI off, vI c1, vI dx, vI c2, vJ w0, vS, vJ w1, vS, vR b15, vR b119, vU, vU, vU, vU, vU, vU, vU, vU, vU, vU] [(.ref bA), (.ref bA)])) _
        exact k
      obtain ⟨T155, h155, X155, e155, E155, A155, D155, -, st155⟩ := newO X145 hx hZ hown (hw _ (List.mem_of_getElem? (i := 7) rfl)) (hw _ (List.mem_of_getElem? (i := 8) rfl)) (hw _ (List.mem_of_getElem? (i := 9) rfl)) e145 (g := (mkF m 231 #[vI p1, vI p2, vI p3, vJ q4, vS, vJ q5, vS, vI p6, vI nx, vI mx, vI kx, vI px, vI c0, vI off, vI c1, vI dx, vI c2, vJ w0, vS, vJ w1, vS, vR b15, vR b119, vU, vU, vU, vU, vU, vU, vU, vU, vU, vU] [(.ref bA), (.ref bA)])) rfl (hb hby at_231) (by decide) (by decide)
      obtain ⟨b155, g155⟩ : ∃ z, z = h145.size := ⟨_, rfl⟩
      rw [← g155] at A155 D155 st155
      have F156 : Old Z n0 h155 := F146.ext E155
      have F157 : own_Af Z h155 b15 kc_b15 .char (1 : Int32) (fun i => Value.int ((own_l3 c0 c1 c2) i)) := F147.ext E155
      have F158 : own_Af Z h155 b119 kc_b119 .long (2 : Int32) (fun i => Value.long ((own_w2 w0 w1) i)) := F148.ext E155
      have F159 : Exa Z h155 bA "com/example/basewright/basewright/Alphabet" := A145.ext E155
      have F160 : Fld Z h155 bA "com/example/basewright/basewright/Alphabet" "characters" "[B" .null := F149.ext E155
      have F161 : Fld Z h155 bA "com/example/basewright/basewright/Alphabet" "values" "[B" .null := F150.ext E155
      have F162 : Fld Z h155 b155 "java/lang/String" "coder" "B" (.int (0 : Int32)) := D155 (Or.inr (hw _ (List.mem_of_getElem? (i := 33) rfl))) (ty := .byte) (by decide)
      have F163 : Fld Z h155 b155 "java/lang/String" "value" "[B" .null := D155 (Or.inr (hw _ (List.mem_of_getElem? (i := 35) rfl))) (ty := (.array .byte)) (by decide)
      have Z164 : n0 ≤ h155.size := Nat.le_trans Z151 E155.1
      have K165 : Keep h0 h155 [] := K152.ext E155
      have g_b155 : n0 ≤ b155 := Nat.le_trans Z151 (Nat.le_of_eq g155.symm)
      have sz_b155 : h0.size ≤ b155 := Nat.le_trans K152.1 (Nat.le_of_eq g155.symm)
      have ne_b15_b155 : b15 ≠ b155 := Nat.ne_of_lt (Nat.lt_of_lt_of_le F147.lt (Nat.le_of_eq g155.symm))
      have ne_b119_b155 : b119 ≠ b155 := Nat.ne_of_lt (Nat.lt_of_lt_of_le F148.lt (Nat.le_of_eq g155.symm))
      have ne_bA_b155 : bA ≠ b155 := Nat.ne_of_lt (Nat.lt_of_lt_of_le A145.lt (Nat.le_of_eq g155.symm))
      have P166 : ∀ t, Steps p.tables e below (T155.setTop (mkF m 234 #[vI p1, vI p2, vI p3, vJ q4, vS, vJ q5, vS, vI p6, vI nx, vI mx, vI kx, vI px, vI c0, vI off, vI c1, vI dx, vI c2, vJ w0, vS, vJ w1, vS, vR b15, vR b119, vU, vU, vU, vU, vU, vU, vU, vU, vU, vU] [(.ref b155), (.ref bA), (.ref bA)])) t → Steps p.tables e below (s₁.setTop (entryFrame m #[(.int p1), (.int p2), (.int p3), (.long q4), (.long q5), (.int p6)] maxLocals)) t := fun t k => P154 _ (st155 _ k)
      have P167 : ∀ t, Steps p.tables e below (T155.setTop (mkF m 237 #[vI p1, vI p2, vI p3, vJ q4, vS, vJ q5, vS, vI p6, vI nx, vI mx, vI kx, vI px, vI c0, vI off, vI c1, vI dx, vI c2, vJ w0, vS, vJ w1, vS, vR b15, vR b119, vU, vU, vU, vU, vU, vU, vU, vU, vU, vU] [(.ref b15), (.ref b155), (.ref b155), (.ref bA), (.ref bA)])) t → Steps p.tables e below (s₁.setTop (entryFrame m #[(.int p1), (.int p2), (.int p3), (.long q4), (.long q5), (.int p6)] maxLocals)) t := by
        intro t k
        refine P166 _ ?_
        refine XS.dup X155.here hx rfl (hb hby at_234) rfl rfl ?_
        show Steps p.tables e below (T155.setTop (mkF m 235 #[vI p1, vI p2, vI p3, vJ q4, vS, vJ q5, vS, vI p6, vI nx, vI mx, vI kx, vI px, vI c0, vI off, vI c1, vI dx, vI c2, vJ w0, vS, vJ w1, vS, vR b15, vR b119, vU, vU, vU, vU, vU, vU, vU, vU, vU, vU] [(.ref b155), (.ref b155), (.ref bA), (.ref bA)])) _
        refine XS.aload X155.here hx rfl (hb hby at_235) rfl rfl ?_
        show Steps p.tables e below (T155.setTop (mkF m 237 #[vI p1, vI p2, vI p3, vJ q4, vS, vJ q5, vS, vI p6, vI nx, vI mx, vI kx, vI px, vI c0, vI off, vI c1, vI dx, vI c2, vJ w0, vS, vJ w1, vS, vR b15, vR b119, vU, vU, vU, vU, vU, vU, vU, vU, vU, vU] [(.ref b15), (.ref b155), (.ref b155), (.ref bA), (.ref bA)])) _
        exact k
      obtain ⟨_, _, ⟨T168, L168, k168, n168⟩, -, X168, ⟨Lc168, hQ168, l168, y168, z168⟩, st168⟩ := X155.specialBack hx (y := (⟨"java/lang/String", "<init>", "([C)V"⟩ : MethodName)) rfl hown (mvT hZ (hw _ (List.mem_of_getElem? (i := 10) rfl))) (mvT hZ (hw _ (List.mem_of_getElem? (i := 11) rfl))) (mvT hZ (hw _ (List.mem_of_getElem? (i := 12) rfl))) (by decide) (backOf (W := 3) (rm15 l Z a0 hw [] b155 b15 (1 : Int32) kc_b15 .null (.int (0 : Int32)) ccs (own_l3 c0 c1 c2) 1 h155 n0 Z164 A155 F163 F162 g_b155 F157 (S_cs.ext F156.2) hcc rfl (by decide) (by decide) (own_l3s kc0 kc1 kc2 (by decide))) hZ (hw _ (List.mem_of_getElem? (i := 12) rfl)) (hw _ (List.mem_of_getElem? (i := 9) rfl)) (by decide) (by decide)) (g := (mkF m 237 #[vI p1, vI p2, vI p3, vJ q4, vS, vJ q5, vS, vI p6, vI nx, vI mx, vI kx, vI px, vI c0, vI off, vI c1, vI dx, vI c2, vJ w0, vS, vJ w1, vS, vR b15, vR b119, vU, vU, vU, vU, vU, vU, vU, vU, vU, vU] [(.ref b15), (.ref b155), (.ref b155), (.ref bA), (.ref bA)])) rfl (by rw [hml]; rfl) (Steps.refl _) (a := b155) (argsL := [(.ref b15)]) (rest := [(.ref b155), (.ref bA), (.ref bA)]) (lenOf pd_11 rfl) rfl (by show 2 * 0 + _ ≤ _; exact Nat.le_of_eq rfl) (hb hby at_237) (fun _ _ => ⟨rfl, e155, (by decide : 4 + 1 ≤ _), (by decide : 9 + 4 ≤ _)⟩)
      dsimp only [Pt.U, Pt.locs, Pt.cells, Pt.slots] at X168 l168 y168 z168 st168 hQ168
      subst l168 y168 z168
      obtain ⟨b_168, kb_168, rfl, N168q, K168, s168_b, Y168_0, Y168_1, Y168_2, Y168_3, Y168_4⟩ := hQ168
      have F169 : Old Z n0 T168.heap := F156.keep K168 (allS g_b155 all0)
      have F170 : own_Af Z T168.heap b15 kc_b15 .char (1 : Int32) (fun i => Value.int ((own_l3 c0 c1 c2) i)) := F157.keep K168 (ninS ne_b15_b155 nin0)
      have F171 : own_Af Z T168.heap b119 kc_b119 .long (2 : Int32) (fun i => Value.long ((own_w2 w0 w1) i)) := F158.keep K168 (ninS ne_b119_b155 nin0)
      have F172 : Exa Z T168.heap bA "com/example/basewright/basewright/Alphabet" := F159.keep K168
      have F173 : Fld Z T168.heap bA "com/example/basewright/basewright/Alphabet" "characters" "[B" .null := F160.keep K168 (ninS ne_bA_b155 nin0)
      have F174 : Fld Z T168.heap bA "com/example/basewright/basewright/Alphabet" "values" "[B" .null := F161.keep K168 (ninS ne_bA_b155 nin0)
      have F175 : Exa Z T168.heap b155 "java/lang/String" := A155.keep K168
      have Z176 : n0 ≤ T168.heap.size := Nat.le_trans Z164 K168.1
      have K177 : Keep h0 T168.heap [] := K165.trans K168 (allS (Or.inr sz_b155) all0)
      have g_b_168 : n0 ≤ b_168 := Nat.le_trans Z164 s168_b
      have sz_b_168 : h0.size ≤ b_168 := Nat.le_trans K165.1 s168_b
      have ne_b15_b_168 : b15 ≠ b_168 := Nat.ne_of_lt (Nat.lt_of_lt_of_le F157.lt s168_b)
      have ne_b119_b_168 : b119 ≠ b_168 := Nat.ne_of_lt (Nat.lt_of_lt_of_le F158.lt s168_b)
      have ne_bA_b_168 : bA ≠ b_168 := Nat.ne_of_lt (Nat.lt_of_lt_of_le F159.lt s168_b)
      have ne_b155_b_168 : b155 ≠ b_168 := Nat.ne_of_lt (Nat.lt_of_lt_of_le A155.lt s168_b)
      have N168 := Fr.app N135 N168q
      have P178 : ∀ t, Steps p.tables e below (T168.setTop (mkF m 240 #[vI p1, vI p2, vI p3, vJ q4, vS, vJ q5, vS, vI p6, vI nx, vI mx, vI kx, vI px, vI c0, vI off, vI c1, vI dx, vI c2, vJ w0, vS, vJ w1, vS, vR b15, vR b119, vU, vU, vU, vU, vU, vU, vU, vU, vU, vU] [(.ref b155), (.ref bA), (.ref bA)])) t → Steps p.tables e below (s₁.setTop (entryFrame m #[(.int p1), (.int p2), (.int p3), (.long q4), (.long q5), (.int p6)] maxLocals)) t := fun t k => P167 _ (st168.trans k)
      obtain ⟨_, _, ⟨T179, L179, k179, n179⟩, -, X179, ⟨Lc179, hQ179, l179, y179, z179⟩, st179⟩ := X168.specialBack hx (y := (⟨"com/example/basewright/basewright/Alphabet", "<init>", "(Ljava/lang/String;)V"⟩ : MethodName)) rfl hown (mvT hZ (hw _ (List.mem_of_getElem? (i := 36) rfl))) (mvT hZ (hw _ (List.mem_of_getElem? (i := 37) rfl))) (mvT hZ (hw _ (List.mem_of_getElem? (i := 38) rfl))) (by decide) (backOf (W := 1) (rm27 l Z a0 hw [] bA b155 .null .null b_168 (1 : Int32) kb_168 (own_l3 c0 c1 c2) 1 wA wU wI ccs T168.heap n0 Z176 F169 F172 F173 F174 g_bA Y168_0 Y168_1 Y168_2 Y168_3 Y168_4 rfl (by decide) (own_l3s kc0 kc1 kc2 (by decide)) S_H S_wU S_wI S_wA neU neI S_cs hcc) hZ (hw _ (List.mem_of_getElem? (i := 38) rfl)) (hw _ (List.mem_of_getElem? (i := 6) rfl)) (by decide) (by decide)) (g := (mkF m 240 #[vI p1, vI p2, vI p3, vJ q4, vS, vJ q5, vS, vI p6, vI nx, vI mx, vI kx, vI px, vI c0, vI off, vI c1, vI dx, vI c2, vJ w0, vS, vJ w1, vS, vR b15, vR b119, vU, vU, vU, vU, vU, vU, vU, vU, vU, vU] [(.ref b155), (.ref bA), (.ref bA)])) rfl (by rw [hml]; rfl) (Steps.refl _) (a := bA) (argsL := [(.ref b155)]) (rest := [(.ref bA)]) (lenOf pd_12 rfl) rfl (by show 2 * 0 + _ ≤ _; exact Nat.le_of_eq rfl) (hb hby at_240) (fun _ _ => ⟨rfl, rfl, (by decide : 5 + 2 ≤ _), (by decide : 13 + 260 ≤ _)⟩)
      dsimp only [Pt.U, Pt.locs, Pt.cells, Pt.slots] at X179 l179 y179 z179 st179 hQ179
      subst l179 y179 z179
      obtain ⟨bc_179, bz_179, kz_179, rfl, N179q, K179, s179_bc, s179_bz, Y179_0, Y179_1, Y179_2, Y179_3, Y179_4⟩ := hQ179
      have F180 : Old Z n0 T179.heap := F169.keep K179 (allS g_bA all0)
      have F181 : own_Af Z T179.heap b15 kc_b15 .char (1 : Int32) (fun i => Value.int ((own_l3 c0 c1 c2) i)) := F170.keep K179 (ninS ne_b15_bA nin0)
      have F182 : own_Af Z T179.heap b119 kc_b119 .long (2 : Int32) (fun i => Value.long ((own_w2 w0 w1) i)) := F171.keep K179 (ninS ne_b119_bA nin0)
      have F183 : Exa Z T179.heap bA "com/example/basewright/basewright/Alphabet" := F172.keep K179
      have F184 : Exa Z T179.heap b155 "java/lang/String" := Y168_0.keep K179
      have F185 : Fld Z T179.heap b155 "java/lang/String" "value" "[B" (.ref b_168) := Y168_1.keep K179 (ninS (Ne.symm ne_bA_b155) nin0)
      have F186 : Fld Z T179.heap b155 "java/lang/String" "coder" "B" (.int (0 : Int32)) := Y168_2.keep K179 (ninS (Ne.symm ne_bA_b155) nin0)
      have F187 : own_Af Z T179.heap b_168 kb_168 .byte (1 : Int32) (fun i => Value.int ((own_l3 c0 c1 c2) i)) := Y168_3.keep K179 (ninS (Ne.symm ne_bA_b_168) nin0)
      have F188 : Exa Z T179.heap b_168 "[B" := Y168_4.keep K179
      have Z189 : n0 ≤ T179.heap.size := Nat.le_trans Z176 K179.1
      have K190 : Keep h0 T179.heap [] := K177.trans K179 (allS (Or.inr sz_bA) all0)
      have g_bc_179 : n0 ≤ bc_179 := Nat.le_trans Z176 s179_bc
      have sz_bc_179 : h0.size ≤ bc_179 := Nat.le_trans K177.1 s179_bc
      have ne_b15_bc_179 : b15 ≠ bc_179 := Nat.ne_of_lt (Nat.lt_of_lt_of_le F170.lt s179_bc)
      have ne_b119_bc_179 : b119 ≠ bc_179 := Nat.ne_of_lt (Nat.lt_of_lt_of_le F171.lt s179_bc)
      have ne_bA_bc_179 : bA ≠ bc_179 := Nat.ne_of_lt (Nat.lt_of_lt_of_le F172.lt s179_bc)
      have ne_b155_bc_179 : b155 ≠ bc_179 := Nat.ne_of_lt (Nat.lt_of_lt_of_le Y168_0.lt s179_bc)
      have ne_b_168_bc_179 : b_168 ≠ bc_179 := Nat.ne_of_lt (Nat.lt_of_lt_of_le Y168_3.lt s179_bc)
      have g_bz_179 : n0 ≤ bz_179 := Nat.le_trans Z176 s179_bz
      have sz_bz_179 : h0.size ≤ bz_179 := Nat.le_trans K177.1 s179_bz
      have ne_b15_bz_179 : b15 ≠ bz_179 := Nat.ne_of_lt (Nat.lt_of_lt_of_le F170.lt s179_bz)
      have ne_b119_bz_179 : b119 ≠ bz_179 := Nat.ne_of_lt (Nat.lt_of_lt_of_le F171.lt s179_bz)
      have ne_bA_bz_179 : bA ≠ bz_179 := Nat.ne_of_lt (Nat.lt_of_lt_of_le F172.lt s179_bz)
      have ne_b155_bz_179 : b155 ≠ bz_179 := Nat.ne_of_lt (Nat.lt_of_lt_of_le Y168_0.lt s179_bz)
      have ne_b_168_bz_179 : b_168 ≠ bz_179 := Nat.ne_of_lt (Nat.lt_of_lt_of_le Y168_3.lt s179_bz)
      have N179 := Fr.app N168 N179q
      have P191 : ∀ t, Steps p.tables e below (T179.setTop (mkF m 243 #[vI p1, vI p2, vI p3, vJ q4, vS, vJ q5, vS, vI p6, vI nx, vI mx, vI kx, vI px, vI c0, vI off, vI c1, vI dx, vI c2, vJ w0, vS, vJ w1, vS, vR b15, vR b119, vU, vU, vU, vU, vU, vU, vU, vU, vU, vU] [(.ref bA)])) t → Steps p.tables e below (s₁.setTop (entryFrame m #[(.int p1), (.int p2), (.int p3), (.long q4), (.long q5), (.int p6)] maxLocals)) t := fun t k => P178 _ (st179.trans k)
      have P192 : ∀ t, Steps p.tables e below (T179.setTop (mkF m 249 #[vI p1, vI p2, vI p3, vJ q4, vS, vJ q5, vS, vI p6, vI nx, vI mx, vI kx, vI px, vI c0, vI off, vI c1, vI dx, vI c2, vJ w0, vS, vJ w1, vS, vR b15, vR b119, vR bA, vU, vU, vU, vU, vU, vU, vU, vU, vU] [(.ref b119), (.ref bA)])) t → Steps p.tables e below (s₁.setTop (entryFrame m #[(.int p1), (.int p2), (.int p3), (.long q4), (.long q5), (.int p6)] maxLocals)) t := by
        intro t k
        refine P191 _ ?_
        refine XS.astore X179.here hx rfl (hb hby at_243) rfl rfl (l' := #[vI p1, vI p2, vI p3, vJ q4, vS, vJ q5, vS, vI p6, vI nx, vI mx, vI kx, vI px, vI c0, vI off, vI c1, vI dx, vI c2, vJ w0, vS, vJ w1, vS, vR b15, vR b119, vR bA, vU, vU, vU, vU, vU, vU, vU, vU, vU]) rfl ?_
        show Steps p.tables e below (T179.setTop (mkF m 245 #[vI p1, vI p2, vI p3, vJ q4, vS, vJ q5, vS, vI p6, vI nx, vI mx, vI kx, vI px, vI c0, vI off, vI c1, vI dx, vI c2, vJ w0, vS, vJ w1, vS, vR b15, vR b119, vR bA, vU, vU, vU, vU, vU, vU, vU, vU, vU] [])) _
        refine XS.aload X179.here hx rfl (hb hby at_245) rfl rfl ?_
        show Steps p.tables e below (T179.setTop (mkF m 247 #[vI p1, vI p2, vI p3, vJ q4, vS, vJ q5, vS, vI p6, vI nx, vI mx, vI kx, vI px, vI c0, vI off, vI c1, vI dx, vI c2, vJ w0, vS, vJ w1, vS, vR b15, vR b119, vR bA, vU, vU, vU, vU, vU, vU, vU, vU, vU] [(.ref bA)])) _
        refine XS.aload X179.here hx rfl (hb hby at_247) rfl rfl ?_
        show Steps p.tables e below (T179.setTop (mkF m 249 #[vI p1, vI p2, vI p3, vJ q4, vS, vJ q5, vS, vI p6, vI nx, vI mx, vI kx, vI px, vI c0, vI off, vI c1, vI dx, vI c2, vJ w0, vS, vJ w1, vS, vR b15, vR b119, vR bA, vU, vU, vU, vU, vU, vU, vU, vU, vU] [(.ref b119), (.ref bA)])) _
        exact k
      obtain ⟨cq193, kq193, qa193, qb193, qc193⟩ := isOf hZ rfl Y179_0
      obtain ⟨_, _, ⟨T193, L193, k193, n193⟩, -, X193, ⟨Lc193, hQ193, l193, y193, z193⟩, st193⟩ := X179.virtualBack hx (y := (⟨"com/example/basewright/basewright/Alphabet", "weightedValues", "([J)[J"⟩ : MethodName)) (z := (⟨"com/example/basewright/basewright/Alphabet", "weightedValues", "([J)[J"⟩ : MethodName)) hown (mvT hZ (hw _ (List.mem_of_getElem? (i := 85) rfl))) (mvT hZ (hw _ (List.mem_of_getElem? (i := 86) rfl))) (notFace_of_selects (args := #[]) (mvT hZ (hw _ (List.mem_of_getElem? (i := 88) rfl)))) (mvT hZ (hw _ (List.mem_of_getElem? (i := 88) rfl))) (mvT hZ (hw _ (List.mem_of_getElem? (i := 87) rfl))) (by decide) (backOf (W := 0) (rm29 l Z a0 hw [] bA b119 bz_179 (2 : Int32) kz_179 kc_b119 (own_vf (own_l3 c0 c1 c2) 1) (own_w2 w0 w1) 2 T179.heap n0 Z189 Y179_2 Y179_4 F182 rfl (by decide)) hZ (hw _ (List.mem_of_getElem? (i := 89) rfl)) (hw _ (List.mem_of_getElem? (i := 6) rfl)) (by decide) (by decide)) qa193 qc193 (g := (mkF m 249 #[vI p1, vI p2, vI p3, vJ q4, vS, vJ q5, vS, vI p6, vI nx, vI mx, vI kx, vI px, vI c0, vI off, vI c1, vI dx, vI c2, vJ w0, vS, vJ w1, vS, vR b15, vR b119, vR bA, vU, vU, vU, vU, vU, vU, vU, vU, vU] [(.ref b119), (.ref bA)])) rfl (by rw [hml]; rfl) (Steps.refl _) (argsL := [(.ref b119)]) (rest := []) (lenOf pd_13 rfl) rfl (by show 2 * 0 + _ ≤ _; exact Nat.le_of_eq rfl) (hb hby at_249) (fun _ _ => ⟨rfl, rfl, (by decide : 7 + 1 ≤ _), (by decide : 273 + 512 ≤ _)⟩)
      dsimp only [Pt.U, Pt.locs, Pt.cells, Pt.slots] at X193 l193 y193 z193 st193 hQ193
      subst l193 y193 z193
      obtain ⟨b_193, kp_193, nq_193, rfl, N193q, K193, s193_b, Y193_0, Y193_1⟩ := hQ193
      have F194 : Old Z n0 T193.heap := F180.keep K193 all0
      have F195 : own_Af Z T193.heap b15 kc_b15 .char (1 : Int32) (fun i => Value.int ((own_l3 c0 c1 c2) i)) := F181.keep K193 nin0
      have F196 : own_Af Z T193.heap b119 kc_b119 .long (2 : Int32) (fun i => Value.long ((own_w2 w0 w1) i)) := F182.keep K193 nin0
      have F197 : Exa Z T193.heap bA "com/example/basewright/basewright/Alphabet" := Y179_0.keep K193
      have F198 : Exa Z T193.heap b155 "java/lang/String" := F184.keep K193
      have F199 : Fld Z T193.heap b155 "java/lang/String" "value" "[B" (.ref b_168) := F185.keep K193 nin0
      have F200 : Fld Z T193.heap b155 "java/lang/String" "coder" "B" (.int (0 : Int32)) := F186.keep K193 nin0
      have F201 : own_Af Z T193.heap b_168 kb_168 .byte (1 : Int32) (fun i => Value.int ((own_l3 c0 c1 c2) i)) := F187.keep K193 nin0
      have F202 : Exa Z T193.heap b_168 "[B" := F188.keep K193
      have F203 : Fld Z T193.heap bA "com/example/basewright/basewright/Alphabet" "characters" "[B" (.ref bc_179) := Y179_1.keep K193 nin0
      have F204 : Fld Z T193.heap bA "com/example/basewright/basewright/Alphabet" "values" "[B" (.ref bz_179) := Y179_2.keep K193 nin0
      have F205 : own_Af Z T193.heap bc_179 kb_168 .byte (1 : Int32) (fun i => Value.int ((own_l3 c0 c1 c2) i)) := Y179_3.keep K193 nin0
      have F206 : own_Af Z T193.heap bz_179 kz_179 .byte (256 : Int32) (fun j => Value.int (own_vf (own_l3 c0 c1 c2) 1 j)) := Y179_4.keep K193 nin0
      have Z207 : n0 ≤ T193.heap.size := Nat.le_trans Z189 K193.1
      have K208 : Keep h0 T193.heap [] := K190.trans K193 all0
      have g_b_193 : n0 ≤ b_193 := Nat.le_trans Z189 s193_b
      have sz_b_193 : h0.size ≤ b_193 := Nat.le_trans K190.1 s193_b
      have ne_b15_b_193 : b15 ≠ b_193 := Nat.ne_of_lt (Nat.lt_of_lt_of_le F181.lt s193_b)
      have ne_b119_b_193 : b119 ≠ b_193 := Nat.ne_of_lt (Nat.lt_of_lt_of_le F182.lt s193_b)
      have ne_bA_b_193 : bA ≠ b_193 := Nat.ne_of_lt (Nat.lt_of_lt_of_le Y179_0.lt s193_b)
      have ne_b155_b_193 : b155 ≠ b_193 := Nat.ne_of_lt (Nat.lt_of_lt_of_le F184.lt s193_b)
      have ne_b_168_b_193 : b_168 ≠ b_193 := Nat.ne_of_lt (Nat.lt_of_lt_of_le F187.lt s193_b)
      have ne_bc_179_b_193 : bc_179 ≠ b_193 := Nat.ne_of_lt (Nat.lt_of_lt_of_le Y179_3.lt s193_b)
      have ne_bz_179_b_193 : bz_179 ≠ b_193 := Nat.ne_of_lt (Nat.lt_of_lt_of_le Y179_4.lt s193_b)
      have N193 := Fr.app N179 N193q
      have P209 : ∀ t, Steps p.tables e below (T193.setTop (mkF m 252 #[vI p1, vI p2, vI p3, vJ q4, vS, vJ q5, vS, vI p6, vI nx, vI mx, vI kx, vI px, vI c0, vI off, vI c1, vI dx, vI c2, vJ w0, vS, vJ w1, vS, vR b15, vR b119, vR bA, vU, vU, vU, vU, vU, vU, vU, vU, vU] [(.ref b_193)])) t → Steps p.tables e below (s₁.setTop (entryFrame m #[(.int p1), (.int p2), (.int p3), (.long q4), (.long q5), (.int p6)] maxLocals)) t := fun t k => P192 _ (st193.trans k)
      have P210 : ∀ t, Steps p.tables e below (T193.setTop (mkF m 254 #[vI p1, vI p2, vI p3, vJ q4, vS, vJ q5, vS, vI p6, vI nx, vI mx, vI kx, vI px, vI c0, vI off, vI c1, vI dx, vI c2, vJ w0, vS, vJ w1, vS, vR b15, vR b119, vR bA, vR b_193, vU, vU, vU, vU, vU, vU, vU, vU] [])) t → Steps p.tables e below (s₁.setTop (entryFrame m #[(.int p1), (.int p2), (.int p3), (.long q4), (.long q5), (.int p6)] maxLocals)) t := by
        intro t k
        refine P209 _ ?_
        refine XS.astore X193.here hx rfl (hb hby at_252) rfl rfl (l' := #[vI p1, vI p2, vI p3, vJ q4, vS, vJ q5, vS, vI p6, vI nx, vI mx, vI kx, vI px, vI c0, vI off, vI c1, vI dx, vI c2, vJ w0, vS, vJ w1, vS, vR b15, vR b119, vR bA, vR b_193, vU, vU, vU, vU, vU, vU, vU, vU]) rfl ?_
        show Steps p.tables e below (T193.setTop (mkF m 254 #[vI p1, vI p2, vI p3, vJ q4, vS, vJ q5, vS, vI p6, vI nx, vI mx, vI kx, vI px, vI c0, vI off, vI c1, vI dx, vI c2, vJ w0, vS, vJ w1, vS, vR b15, vR b119, vR bA, vR b_193, vU, vU, vU, vU, vU, vU, vU, vU] [])) _
        exact k
      have hq24 := (own_m8 (mm := 2) Y193_1 rfl (by decide)).1
      have hlen : nq_193 = (mx * (256 : Int32)) := by rw [Y193_1, hmv]; rfl
      obtain ⟨T211, h211, lo211, X211, e211, N211, K211, q211, st211⟩ := tlA (by decide) (by decide) p1 p2 p3 q4 q5 p6 nx mx kx px c0 off c1 dx c2 w0 w1 b15 b119 bA b_193 nq_193 kp_193 1 2 kk X193 hx hZ hw hby hml hown rfl N193 Z207 Y193_0 hq24 hlen hnn (by decide) hkk hkm (by decide) hk1 kc0 kc1 kc2 hne3 kpx kp8 kp9
      have P212 : ∀ t, Steps p.tables e below (T211.setTop (mkF m 423 #[vI p1, vI p2, vI p3, vJ q4, vS, vJ q5, vS, vI p6, vI nx, vI mx, vI kx, vI px, vI c0, vI off, vI c1, vI dx, vI c2, vJ w0, vS, vJ w1, vS, vR b15, vR b119, vR bA, vR b_193, .val (.long (if kx = (0 : Int32) then w0 else w1)), vS, .val (.int (kx <<< ((8 : Int32) &&& 31))), .val (.int (1 : Int32)), vU, vU, vU, vU] [])) t → Steps p.tables e below (s₁.setTop (entryFrame m #[(.int p1), (.int p2), (.int p3), (.long q4), (.long q5), (.int p6)] maxLocals)) t := fun t k => P210 _ (st211 _ k)
      have Z213 : n0 ≤ h211.size := Nat.le_trans Z207 K211.1
      have P214 : ∀ t, Steps p.tables e below (T211.setTop (mkF m 429 #[vI p1, vI p2, vI p3, vJ q4, vS, vJ q5, vS, vI p6, vI nx, vI mx, vI kx, vI px, vI c0, vI off, vI c1, vI dx, vI c2, vJ w0, vS, vJ w1, vS, vR b15, vR b119, vR bA, vR b_193, .val (.long (if kx = (0 : Int32) then w0 else w1)), vS, .val (.int (kx <<< ((8 : Int32) &&& 31))), .val (.int (1 : Int32)), vU, vU, vU, vU] [])) t → Steps p.tables e below (s₁.setTop (entryFrame m #[(.int p1), (.int p2), (.int p3), (.long q4), (.long q5), (.int p6)] maxLocals)) t := by
        intro t k
        refine P212 _ ?_
        refine XS.iload X211.here hx rfl (hb hby at_423) rfl ?_
        show Steps p.tables e below (T211.setTop (mkF m 425 #[vI p1, vI p2, vI p3, vJ q4, vS, vJ q5, vS, vI p6, vI nx, vI mx, vI kx, vI px, vI c0, vI off, vI c1, vI dx, vI c2, vJ w0, vS, vJ w1, vS, vR b15, vR b119, vR bA, vR b_193, .val (.long (if kx = (0 : Int32) then w0 else w1)), vS, .val (.int (kx <<< ((8 : Int32) &&& 31))), .val (.int (1 : Int32)), vU, vU, vU, vU] [(.int mx)])) _
        refine XS.iconst X211.here hx rfl (hb hby at_425) ?_
        show Steps p.tables e below (T211.setTop (mkF m 426 #[vI p1, vI p2, vI p3, vJ q4, vS, vJ q5, vS, vI p6, vI nx, vI mx, vI kx, vI px, vI c0, vI off, vI c1, vI dx, vI c2, vJ w0, vS, vJ w1, vS, vR b15, vR b119, vR bA, vR b_193, .val (.long (if kx = (0 : Int32) then w0 else w1)), vS, .val (.int (kx <<< ((8 : Int32) &&& 31))), .val (.int (1 : Int32)), vU, vU, vU, vU] [(.int (2 : Int32)), (.int mx)])) _
        refine XS.icmpNo X211.here hx rfl (hb hby at_426) rfl (XT.ii_ne_f hmv) ?_
        show Steps p.tables e below (T211.setTop (mkF m 429 #[vI p1, vI p2, vI p3, vJ q4, vS, vJ q5, vS, vI p6, vI nx, vI mx, vI kx, vI px, vI c0, vI off, vI c1, vI dx, vI c2, vJ w0, vS, vJ w1, vS, vR b15, vR b119, vR bA, vR b_193, .val (.long (if kx = (0 : Int32) then w0 else w1)), vS, .val (.int (kx <<< ((8 : Int32) &&& 31))), .val (.int (1 : Int32)), vU, vU, vU, vU] [])) _
        exact k
      obtain ⟨T215, h215, lo215, X215, e215, N215, K215, q215, st215⟩ := tlB (by decide) (by decide) p1 p2 p3 q4 q5 p6 nx mx kx px c0 off c1 dx c2 w0 w1 b15 b119 bA b_193 nq_193 kp_193 1 2 kk X211 hx hZ hw hby hml hown e211 N211 Z213 q211 hq24 hlen hnn (by decide) hkk hkm (by decide) hk1 kc0 kc1 kc2 hne3 kpx kp8 kp9 rfl
      have P216 : ∀ t, Steps p.tables e below (T215.setTop (mkF m 576 #[vI p1, vI p2, vI p3, vJ q4, vS, vJ q5, vS, vI p6, vI nx, vI mx, vI kx, vI px, vI c0, vI off, vI c1, vI dx, vI c2, vJ w0, vS, vJ w1, vS, vR b15, vR b119, vR bA, vR b_193, .val (.long (if kx = (0 : Int32) then w0 else w1)), vS, .val (.int (kx <<< ((8 : Int32) &&& 31))), .val (.int (1 : Int32)), .val (.int ((1 : Int32) - kx)), .val (.long (if ((1 : Int32) - kx) = (0 : Int32) then w0 else w1)), vS, .val (.int (((1 : Int32) - kx) <<< ((8 : Int32) &&& 31)))] [])) t → Steps p.tables e below (s₁.setTop (entryFrame m #[(.int p1), (.int p2), (.int p3), (.long q4), (.long q5), (.int p6)] maxLocals)) t := fun t k => P214 _ (st215 _ k)
      have Z217 : n0 ≤ h215.size := Nat.le_trans Z213 K215.1
      have P218 : ∀ t, Steps p.tables e below (T215.setTop (mkF m 578 #[vI p1, vI p2, vI p3, vJ q4, vS, vJ q5, vS, vI p6, vI nx, vI mx, vI kx, vI px, vI c0, vI off, vI c1, vI dx, vI c2, vJ w0, vS, vJ w1, vS, vR b15, vR b119, vR bA, vR b_193, .val (.long (if kx = (0 : Int32) then w0 else w1)), vS, .val (.int (kx <<< ((8 : Int32) &&& 31))), .val (.int (1 : Int32)), .val (.int ((1 : Int32) - kx)), .val (.long (if ((1 : Int32) - kx) = (0 : Int32) then w0 else w1)), vS, .val (.int (((1 : Int32) - kx) <<< ((8 : Int32) &&& 31)))] [(.int (1 : Int32))])) t → Steps p.tables e below (s₁.setTop (entryFrame m #[(.int p1), (.int p2), (.int p3), (.long q4), (.long q5), (.int p6)] maxLocals)) t := by
        intro t k
        refine P216 _ ?_
        refine XS.iload X215.here hx rfl (hb hby at_576) rfl ?_
        show Steps p.tables e below (T215.setTop (mkF m 578 #[vI p1, vI p2, vI p3, vJ q4, vS, vJ q5, vS, vI p6, vI nx, vI mx, vI kx, vI px, vI c0, vI off, vI c1, vI dx, vI c2, vJ w0, vS, vJ w1, vS, vR b15, vR b119, vR bA, vR b_193, .val (.long (if kx = (0 : Int32) then w0 else w1)), vS, .val (.int (kx <<< ((8 : Int32) &&& 31))), .val (.int (1 : Int32)), .val (.int ((1 : Int32) - kx)), .val (.long (if ((1 : Int32) - kx) = (0 : Int32) then w0 else w1)), vS, .val (.int (((1 : Int32) - kx) <<< ((8 : Int32) &&& 31)))] [(.int (1 : Int32))])) _
        exact k
      obtain ⟨fs, hr, hrun, hended, hW, hsame⟩ := X215.leave (v := some (.int (1 : Int32))) (fun h => by rw [Bd.returns] at h; cases h)
      refine ⟨_, _, P218 _ ?_, hrun, hended, _, _, rfl, ?_, ⟨_, rfl⟩, hW, hsame.mono (by decide) (by decide)⟩
      · exact retN X215 hx (t := .boolean) Bd.returns (by simp) (hb hby at_578) hr
      · show Q0 Z p1 p2 p3 q4 q5 p6 ccs wA wU wI h0 n0 _ T215.heap _
        rw [e215]
        exact ⟨rfl, N215⟩
  · have P219 : ∀ t, Steps p.tables e below (s₁.setTop (mkF m 149 #[vI p1, vI p2, vI p3, vJ q4, vS, vJ q5, vS, vI p6, vI nx, vI mx, vI kx, vI px, vI c0, vI off, vI c1, vI dx, vI c2, vJ w0, vS, vJ w1, vS, vU, vU, vU, vU, vU, vU, vU, vU, vU, vU, vU, vU] [(.int (2 : Int32)), (.int nx)])) t → Steps p.tables e below (s₁.setTop (entryFrame m #[(.int p1), (.int p2), (.int p3), (.long q4), (.long q5), (.int p6)] maxLocals)) t := by
      intro t k
      refine P13 _ ?_
      refine XS.icmpYes X0.here hx rfl (pc0 := 129) (pc' := 146) rfl (hb hby at_129) rfl (XT.ii_ne_t c129) (by decide) (by decide) ?_
      show Steps p.tables e below (s₁.setTop (mkF m 146 #[vI p1, vI p2, vI p3, vJ q4, vS, vJ q5, vS, vI p6, vI nx, vI mx, vI kx, vI px, vI c0, vI off, vI c1, vI dx, vI c2, vJ w0, vS, vJ w1, vS, vU, vU, vU, vU, vU, vU, vU, vU, vU, vU, vU, vU] [])) _
      refine XS.iload X0.here hx rfl (hb hby at_146) rfl ?_
      show Steps p.tables e below (s₁.setTop (mkF m 148 #[vI p1, vI p2, vI p3, vJ q4, vS, vJ q5, vS, vI p6, vI nx, vI mx, vI kx, vI px, vI c0, vI off, vI c1, vI dx, vI c2, vJ w0, vS, vJ w1, vS, vU, vU, vU, vU, vU, vU, vU, vU, vU, vU, vU, vU] [(.int nx)])) _
      refine XS.iconst X0.here hx rfl (hb hby at_148) ?_
      show Steps p.tables e below (s₁.setTop (mkF m 149 #[vI p1, vI p2, vI p3, vJ q4, vS, vJ q5, vS, vI p6, vI nx, vI mx, vI kx, vI px, vI c0, vI off, vI c1, vI dx, vI c2, vJ w0, vS, vJ w1, vS, vU, vU, vU, vU, vU, vU, vU, vU, vU, vU, vU, vU] [(.int (2 : Int32)), (.int nx)])) _
      exact k
    by_cases c149 : nx = (2 : Int32)
    · have P220 : ∀ t, Steps p.tables e below (s₁.setTop (mkF m 153 #[vI p1, vI p2, vI p3, vJ q4, vS, vJ q5, vS, vI p6, vI nx, vI mx, vI kx, vI px, vI c0, vI off, vI c1, vI dx, vI c2, vJ w0, vS, vJ w1, vS, vU, vU, vU, vU, vU, vU, vU, vU, vU, vU, vU, vU] [(.int (2 : Int32))])) t → Steps p.tables e below (s₁.setTop (entryFrame m #[(.int p1), (.int p2), (.int p3), (.long q4), (.long q5), (.int p6)] maxLocals)) t := by
        intro t k
        refine P219 _ ?_
        refine XS.icmpNo X0.here hx rfl (hb hby at_149) rfl (XT.ii_ne_f c149) ?_
        show Steps p.tables e below (s₁.setTop (mkF m 152 #[vI p1, vI p2, vI p3, vJ q4, vS, vJ q5, vS, vI p6, vI nx, vI mx, vI kx, vI px, vI c0, vI off, vI c1, vI dx, vI c2, vJ w0, vS, vJ w1, vS, vU, vU, vU, vU, vU, vU, vU, vU, vU, vU, vU, vU] [])) _
        refine XS.iconst X0.here hx rfl (hb hby at_152) ?_
        show Steps p.tables e below (s₁.setTop (mkF m 153 #[vI p1, vI p2, vI p3, vJ q4, vS, vJ q5, vS, vI p6, vI nx, vI mx, vI kx, vI px, vI c0, vI off, vI c1, vI dx, vI c2, vJ w0, vS, vJ w1, vS, vU, vU, vU, vU, vU, vU, vU, vU, vU, vU, vU, vU] [(.int (2 : Int32))])) _
        exact k
      obtain ⟨T221, h221, k221, X221, e221, E221, A221, st221⟩ := newP X0 hx hZ (hw _ (List.mem_of_getElem? (i := 2) rfl)) e0 (g := (mkF m 153 #[vI p1, vI p2, vI p3, vJ q4, vS, vJ q5, vS, vI p6, vI nx, vI mx, vI kx, vI px, vI c0, vI off, vI c1, vI dx, vI c2, vJ w0, vS, vJ w1, vS, vU, vU, vU, vU, vU, vU, vU, vU, vU, vU, vU, vU] [(.int (2 : Int32))])) rfl (hb hby at_153) rfl (by decide) (cap := 2) (by decide) (by decide) (by decide) (by decide)
      obtain ⟨b221, g221⟩ : ∃ z, z = h0.size := ⟨_, rfl⟩
      rw [← g221] at A221 st221
      have F222 : Old Z n0 h221 := O0.ext E221
      obtain ⟨kc_b221, hkc_b221⟩ : ∃ z, z = k221 := ⟨_, rfl⟩
      rw [← hkc_b221] at A221
      have F223 : Arv Z h221 b221 kc_b221 .char (2 : Int32) [(.int (0 : Int32)), (.int (0 : Int32))] (.int (0 : Int32)) := (Arv.new A221 (by decide)).pad (pad_rep [] (.int (0 : Int32)) 2)
      have Z224 : n0 ≤ h221.size := Nat.le_trans Z0 E221.1
      have K225 : Keep h0 h221 [] := K0.ext E221
      have g_b221 : n0 ≤ b221 := Nat.le_trans Z0 (Nat.le_of_eq g221.symm)
      have sz_b221 : h0.size ≤ b221 := Nat.le_trans K0.1 (Nat.le_of_eq g221.symm)
      have P226 : ∀ t, Steps p.tables e below (T221.setTop (mkF m 155 #[vI p1, vI p2, vI p3, vJ q4, vS, vJ q5, vS, vI p6, vI nx, vI mx, vI kx, vI px, vI c0, vI off, vI c1, vI dx, vI c2, vJ w0, vS, vJ w1, vS, vU, vU, vU, vU, vU, vU, vU, vU, vU, vU, vU, vU] [(.ref b221)])) t → Steps p.tables e below (s₁.setTop (entryFrame m #[(.int p1), (.int p2), (.int p3), (.long q4), (.long q5), (.int p6)] maxLocals)) t := fun t k => P220 _ (st221 _ k)
      have P227 : ∀ t, Steps p.tables e below (T221.setTop (mkF m 160 #[vI p1, vI p2, vI p3, vJ q4, vS, vJ q5, vS, vI p6, vI nx, vI mx, vI kx, vI px, vI c0, vI off, vI c1, vI dx, vI c2, vJ w0, vS, vJ w1, vS, vU, vU, vU, vU, vU, vU, vU, vU, vU, vU, vU, vU] [(.int (c0.toUInt32.toUInt16.toUInt32.toInt32)), (.int (0 : Int32)), (.ref b221), (.ref b221)])) t → Steps p.tables e below (s₁.setTop (entryFrame m #[(.int p1), (.int p2), (.int p3), (.long q4), (.long q5), (.int p6)] maxLocals)) t := by
        intro t k
        refine P226 _ ?_
        refine XS.dup X221.here hx rfl (hb hby at_155) rfl rfl ?_
        show Steps p.tables e below (T221.setTop (mkF m 156 #[vI p1, vI p2, vI p3, vJ q4, vS, vJ q5, vS, vI p6, vI nx, vI mx, vI kx, vI px, vI c0, vI off, vI c1, vI dx, vI c2, vJ w0, vS, vJ w1, vS, vU, vU, vU, vU, vU, vU, vU, vU, vU, vU, vU, vU] [(.ref b221), (.ref b221)])) _
        refine XS.iconst X221.here hx rfl (hb hby at_156) ?_
        show Steps p.tables e below (T221.setTop (mkF m 157 #[vI p1, vI p2, vI p3, vJ q4, vS, vJ q5, vS, vI p6, vI nx, vI mx, vI kx, vI px, vI c0, vI off, vI c1, vI dx, vI c2, vJ w0, vS, vJ w1, vS, vU, vU, vU, vU, vU, vU, vU, vU, vU, vU, vU, vU] [(.int (0 : Int32)), (.ref b221), (.ref b221)])) _
        refine XS.iload X221.here hx rfl (hb hby at_157) rfl ?_
        show Steps p.tables e below (T221.setTop (mkF m 159 #[vI p1, vI p2, vI p3, vJ q4, vS, vJ q5, vS, vI p6, vI nx, vI mx, vI kx, vI px, vI c0, vI off, vI c1, vI dx, vI c2, vJ w0, vS, vJ w1, vS, vU, vU, vU, vU, vU, vU, vU, vU, vU, vU, vU, vU] [(.int c0), (.int (0 : Int32)), (.ref b221), (.ref b221)])) _
        refine XT.i2c X221.here hx rfl (hb hby at_159) rfl ?_
        show Steps p.tables e below (T221.setTop (mkF m 160 #[vI p1, vI p2, vI p3, vJ q4, vS, vJ q5, vS, vI p6, vI nx, vI mx, vI kx, vI px, vI c0, vI off, vI c1, vI dx, vI c2, vJ w0, vS, vJ w1, vS, vU, vU, vU, vU, vU, vU, vU, vU, vU, vU, vU, vU] [(.int (c0.toUInt32.toUInt16.toUInt32.toInt32)), (.int (0 : Int32)), (.ref b221), (.ref b221)])) _
        exact k
      obtain ⟨cl228, Ar228, q228, S228, M228, H228, G228⟩ := F223
      have in228 : ¬ ((0 : Int32) < 0 ∨ cl228.slots.size ≤ ((0 : Int32)).toNatClampNeg) := inb_of S228 ⟨by decide, by decide⟩
      obtain ⟨T228, h228, X228, e228, W228, st228⟩ := stC X221 hx hZ e221 Ar228 (j := (0 : Int32)) in228 (g := (mkF m 160 #[vI p1, vI p2, vI p3, vJ q4, vS, vJ q5, vS, vI p6, vI nx, vI mx, vI kx, vI px, vI c0, vI off, vI c1, vI dx, vI c2, vJ w0, vS, vJ w1, vS, vU, vU, vU, vU, vU, vU, vU, vU, vU, vU, vU, vU] [(.int (c0.toUInt32.toUInt16.toUInt32.toInt32)), (.int (0 : Int32)), (.ref b221), (.ref b221)])) rfl rfl (hb hby at_160)
      rw [own_c2c kc0] at W228
      have F229 : Old Z n0 h228 := F222.wr W228 g_b221
      have F230 : Arv Z h228 b221 kc_b221 .char (2 : Int32) [(.int c0), (.int (0 : Int32))] (.int (0 : Int32)) := Arv.set Ar228 q228 S228 M228 H228 G228 (by have q := fits_nar_char (c0.toUInt32.toUInt16.toUInt32.toInt32); first | exact own_c2c kc0 ▸ q | (rw [own_c2c kc0] at q; exact q) | (simp only [nar] at q; exact q)) W228 0 rfl (Nat.le_of_ble_eq_true rfl)
      have Z231 : n0 ≤ h228.size := Nat.le_trans Z224 (Keep.of_wr W228).1
      have K232 : Keep h0 h228 [] := K225.wr W228 (Or.inr sz_b221)
      have N228 := Fr.snoc X228 N0 g_b221
      have P233 : ∀ t, Steps p.tables e below (T228.setTop (mkF m 161 #[vI p1, vI p2, vI p3, vJ q4, vS, vJ q5, vS, vI p6, vI nx, vI mx, vI kx, vI px, vI c0, vI off, vI c1, vI dx, vI c2, vJ w0, vS, vJ w1, vS, vU, vU, vU, vU, vU, vU, vU, vU, vU, vU, vU, vU] [(.ref b221)])) t → Steps p.tables e below (s₁.setTop (entryFrame m #[(.int p1), (.int p2), (.int p3), (.long q4), (.long q5), (.int p6)] maxLocals)) t := fun t k => P227 _ (st228 _ k)
      have P234 : ∀ t, Steps p.tables e below (T228.setTop (mkF m 166 #[vI p1, vI p2, vI p3, vJ q4, vS, vJ q5, vS, vI p6, vI nx, vI mx, vI kx, vI px, vI c0, vI off, vI c1, vI dx, vI c2, vJ w0, vS, vJ w1, vS, vU, vU, vU, vU, vU, vU, vU, vU, vU, vU, vU, vU] [(.int (c1.toUInt32.toUInt16.toUInt32.toInt32)), (.int (1 : Int32)), (.ref b221), (.ref b221)])) t → Steps p.tables e below (s₁.setTop (entryFrame m #[(.int p1), (.int p2), (.int p3), (.long q4), (.long q5), (.int p6)] maxLocals)) t := by
        intro t k
        refine P233 _ ?_
        refine XS.dup X228.here hx rfl (hb hby at_161) rfl rfl ?_
        show Steps p.tables e below (T228.setTop (mkF m 162 #[vI p1, vI p2, vI p3, vJ q4, vS, vJ q5, vS, vI p6, vI nx, vI mx, vI kx, vI px, vI c0, vI off, vI c1, vI dx, vI c2, vJ w0, vS, vJ w1, vS, vU, vU, vU, vU, vU, vU, vU, vU, vU, vU, vU, vU] [(.ref b221), (.ref b221)])) _
        refine XS.iconst X228.here hx rfl (hb hby at_162) ?_
        show Steps p.tables e below (T228.setTop (mkF m 163 #[vI p1, vI p2, vI p3, vJ q4, vS, vJ q5, vS, vI p6, vI nx, vI mx, vI kx, vI px, vI c0, vI off, vI c1, vI dx, vI c2, vJ w0, vS, vJ w1, vS, vU, vU, vU, vU, vU, vU, vU, vU, vU, vU, vU, vU] [(.int (1 : Int32)), (.ref b221), (.ref b221)])) _
        refine XS.iload X228.here hx rfl (hb hby at_163) rfl ?_
        show Steps p.tables e below (T228.setTop (mkF m 165 #[vI p1, vI p2, vI p3, vJ q4, vS, vJ q5, vS, vI p6, vI nx, vI mx, vI kx, vI px, vI c0, vI off, vI c1, vI dx, vI c2, vJ w0, vS, vJ w1, vS, vU, vU, vU, vU, vU, vU, vU, vU, vU, vU, vU, vU] [(.int c1), (.int (1 : Int32)), (.ref b221), (.ref b221)])) _
        refine XT.i2c X228.here hx rfl (hb hby at_165) rfl ?_
        show Steps p.tables e below (T228.setTop (mkF m 166 #[vI p1, vI p2, vI p3, vJ q4, vS, vJ q5, vS, vI p6, vI nx, vI mx, vI kx, vI px, vI c0, vI off, vI c1, vI dx, vI c2, vJ w0, vS, vJ w1, vS, vU, vU, vU, vU, vU, vU, vU, vU, vU, vU, vU, vU] [(.int (c1.toUInt32.toUInt16.toUInt32.toInt32)), (.int (1 : Int32)), (.ref b221), (.ref b221)])) _
        exact k
      obtain ⟨cl235, Ar235, q235, S235, M235, H235, G235⟩ := F230
      have in235 : ¬ ((1 : Int32) < 0 ∨ cl235.slots.size ≤ ((1 : Int32)).toNatClampNeg) := inb_of S235 ⟨by decide, by decide⟩
      obtain ⟨T235, h235, X235, e235, W235, st235⟩ := stC X228 hx hZ e228 Ar235 (j := (1 : Int32)) in235 (g := (mkF m 166 #[vI p1, vI p2, vI p3, vJ q4, vS, vJ q5, vS, vI p6, vI nx, vI mx, vI kx, vI px, vI c0, vI off, vI c1, vI dx, vI c2, vJ w0, vS, vJ w1, vS, vU, vU, vU, vU, vU, vU, vU, vU, vU, vU, vU, vU] [(.int (c1.toUInt32.toUInt16.toUInt32.toInt32)), (.int (1 : Int32)), (.ref b221), (.ref b221)])) rfl rfl (hb hby at_166)
      rw [own_c2c kc1] at W235
      have F236 : Old Z n0 h235 := F229.wr W235 g_b221
      have F237 : Arv Z h235 b221 kc_b221 .char (2 : Int32) [(.int c0), (.int c1)] (.int (0 : Int32)) := Arv.set Ar235 q235 S235 M235 H235 G235 (by have q := fits_nar_char (c1.toUInt32.toUInt16.toUInt32.toInt32); first | exact own_c2c kc1 ▸ q | (rw [own_c2c kc1] at q; exact q) | (simp only [nar] at q; exact q)) W235 1 rfl (Nat.le_of_ble_eq_true rfl)
      have Z238 : n0 ≤ h235.size := Nat.le_trans Z231 (Keep.of_wr W235).1
      have K239 : Keep h0 h235 [] := K232.wr W235 (Or.inr sz_b221)
      have N235 := Fr.snoc X235 N228 g_b221
      have P240 : ∀ t, Steps p.tables e below (T235.setTop (mkF m 167 #[vI p1, vI p2, vI p3, vJ q4, vS, vJ q5, vS, vI p6, vI nx, vI mx, vI kx, vI px, vI c0, vI off, vI c1, vI dx, vI c2, vJ w0, vS, vJ w1, vS, vU, vU, vU, vU, vU, vU, vU, vU, vU, vU, vU, vU] [(.ref b221)])) t → Steps p.tables e below (s₁.setTop (entryFrame m #[(.int p1), (.int p2), (.int p3), (.long q4), (.long q5), (.int p6)] maxLocals)) t := fun t k => P234 _ (st235 _ k)
      have P241 : ∀ t, Steps p.tables e below (T235.setTop (mkF m 198 #[vI p1, vI p2, vI p3, vJ q4, vS, vJ q5, vS, vI p6, vI nx, vI mx, vI kx, vI px, vI c0, vI off, vI c1, vI dx, vI c2, vJ w0, vS, vJ w1, vS, vR b221, vU, vU, vU, vU, vU, vU, vU, vU, vU, vU, vU] [(.int (1 : Int32)), (.int mx)])) t → Steps p.tables e below (s₁.setTop (entryFrame m #[(.int p1), (.int p2), (.int p3), (.long q4), (.long q5), (.int p6)] maxLocals)) t := by
        intro t k
        refine P240 _ ?_
        refine XS.astore X235.here hx rfl (hb hby at_167) rfl rfl (l' := #[vI p1, vI p2, vI p3, vJ q4, vS, vJ q5, vS, vI p6, vI nx, vI mx, vI kx, vI px, vI c0, vI off, vI c1, vI dx, vI c2, vJ w0, vS, vJ w1, vS, vR b221, vU, vU, vU, vU, vU, vU, vU, vU, vU, vU, vU]) rfl ?_
        show Steps p.tables e below (T235.setTop (mkF m 169 #[vI p1, vI p2, vI p3, vJ q4, vS, vJ q5, vS, vI p6, vI nx, vI mx, vI kx, vI px, vI c0, vI off, vI c1, vI dx, vI c2, vJ w0, vS, vJ w1, vS, vR b221, vU, vU, vU, vU, vU, vU, vU, vU, vU, vU, vU] [])) _
        refine XS.goto X235.here hx rfl (pc0 := 169) (pc' := 195) rfl (hb hby at_169) (by decide) (by decide) ?_
        show Steps p.tables e below (T235.setTop (mkF m 195 #[vI p1, vI p2, vI p3, vJ q4, vS, vJ q5, vS, vI p6, vI nx, vI mx, vI kx, vI px, vI c0, vI off, vI c1, vI dx, vI c2, vJ w0, vS, vJ w1, vS, vR b221, vU, vU, vU, vU, vU, vU, vU, vU, vU, vU, vU] [])) _
        refine XS.iload X235.here hx rfl (hb hby at_195) rfl ?_
        show Steps p.tables e below (T235.setTop (mkF m 197 #[vI p1, vI p2, vI p3, vJ q4, vS, vJ q5, vS, vI p6, vI nx, vI mx, vI kx, vI px, vI c0, vI off, vI c1, vI dx, vI c2, vJ w0, vS, vJ w1, vS, vR b221, vU, vU, vU, vU, vU, vU, vU, vU, vU, vU, vU] [(.int mx)])) _
        refine XS.iconst X235.here hx rfl (hb hby at_197) ?_
        show Steps p.tables e below (T235.setTop (mkF m 198 #[vI p1, vI p2, vI p3, vJ q4, vS, vJ q5, vS, vI p6, vI nx, vI mx, vI kx, vI px, vI c0, vI off, vI c1, vI dx, vI c2, vJ w0, vS, vJ w1, vS, vR b221, vU, vU, vU, vU, vU, vU, vU, vU, vU, vU, vU] [(.int (1 : Int32)), (.int mx)])) _
        exact k
      by_cases c198 : mx = (1 : Int32)
      · have P242 : ∀ t, Steps p.tables e below (T235.setTop (mkF m 202 #[vI p1, vI p2, vI p3, vJ q4, vS, vJ q5, vS, vI p6, vI nx, vI mx, vI kx, vI px, vI c0, vI off, vI c1, vI dx, vI c2, vJ w0, vS, vJ w1, vS, vR b221, vU, vU, vU, vU, vU, vU, vU, vU, vU, vU, vU] [(.int (1 : Int32))])) t → Steps p.tables e below (s₁.setTop (entryFrame m #[(.int p1), (.int p2), (.int p3), (.long q4), (.long q5), (.int p6)] maxLocals)) t := by
          intro t k
          refine P241 _ ?_
          refine XS.icmpNo X235.here hx rfl (hb hby at_198) rfl (XT.ii_ne_f c198) ?_
          show Steps p.tables e below (T235.setTop (mkF m 201 #[vI p1, vI p2, vI p3, vJ q4, vS, vJ q5, vS, vI p6, vI nx, vI mx, vI kx, vI px, vI c0, vI off, vI c1, vI dx, vI c2, vJ w0, vS, vJ w1, vS, vR b221, vU, vU, vU, vU, vU, vU, vU, vU, vU, vU, vU] [])) _
          refine XS.iconst X235.here hx rfl (hb hby at_201) ?_
          show Steps p.tables e below (T235.setTop (mkF m 202 #[vI p1, vI p2, vI p3, vJ q4, vS, vJ q5, vS, vI p6, vI nx, vI mx, vI kx, vI px, vI c0, vI off, vI c1, vI dx, vI c2, vJ w0, vS, vJ w1, vS, vR b221, vU, vU, vU, vU, vU, vU, vU, vU, vU, vU, vU] [(.int (1 : Int32))])) _
          exact k
        obtain ⟨T243, h243, k243, X243, e243, E243, A243, st243⟩ := newP X235 hx hZ (hw _ (List.mem_of_getElem? (i := 3) rfl)) e235 (g := (mkF m 202 #[vI p1, vI p2, vI p3, vJ q4, vS, vJ q5, vS, vI p6, vI nx, vI mx, vI kx, vI px, vI c0, vI off, vI c1, vI dx, vI c2, vJ w0, vS, vJ w1, vS, vR b221, vU, vU, vU, vU, vU, vU, vU, vU, vU, vU, vU] [(.int (1 : Int32))])) rfl (hb hby at_202) rfl (by decide) (cap := 1) (by decide) (by decide) (by decide) (by decide)
        obtain ⟨b243, g243⟩ : ∃ z, z = h235.size := ⟨_, rfl⟩
        rw [← g243] at A243 st243
        have F244 : Old Z n0 h243 := F236.ext E243
        have F245 : Arv Z h243 b221 kc_b221 .char (2 : Int32) [(.int c0), (.int c1)] (.int (0 : Int32)) := F237.ext E243
        obtain ⟨kc_b243, hkc_b243⟩ : ∃ z, z = k243 := ⟨_, rfl⟩
        rw [← hkc_b243] at A243
        have F246 : Arv Z h243 b243 kc_b243 .long (1 : Int32) [(.long (0 : Int64))] (.long (0 : Int64)) := (Arv.new A243 (by decide)).pad (pad_rep [] (.long (0 : Int64)) 1)
        have Z247 : n0 ≤ h243.size := Nat.le_trans Z238 E243.1
        have K248 : Keep h0 h243 [] := K239.ext E243
        have g_b243 : n0 ≤ b243 := Nat.le_trans Z238 (Nat.le_of_eq g243.symm)
        have sz_b243 : h0.size ≤ b243 := Nat.le_trans K239.1 (Nat.le_of_eq g243.symm)
        have ne_b221_b243 : b221 ≠ b243 := Nat.ne_of_lt (Nat.lt_of_lt_of_le F237.lt (Nat.le_of_eq g243.symm))
        have P249 : ∀ t, Steps p.tables e below (T243.setTop (mkF m 204 #[vI p1, vI p2, vI p3, vJ q4, vS, vJ q5, vS, vI p6, vI nx, vI mx, vI kx, vI px, vI c0, vI off, vI c1, vI dx, vI c2, vJ w0, vS, vJ w1, vS, vR b221, vU, vU, vU, vU, vU, vU, vU, vU, vU, vU, vU] [(.ref b243)])) t → Steps p.tables e below (s₁.setTop (entryFrame m #[(.int p1), (.int p2), (.int p3), (.long q4), (.long q5), (.int p6)] maxLocals)) t := fun t k => P242 _ (st243 _ k)
        have P250 : ∀ t, Steps p.tables e below (T243.setTop (mkF m 208 #[vI p1, vI p2, vI p3, vJ q4, vS, vJ q5, vS, vI p6, vI nx, vI mx, vI kx, vI px, vI c0, vI off, vI c1, vI dx, vI c2, vJ w0, vS, vJ w1, vS, vR b221, vU, vU, vU, vU, vU, vU, vU, vU, vU, vU, vU] [(.long w0), (.int (0 : Int32)), (.ref b243), (.ref b243)])) t → Steps p.tables e below (s₁.setTop (entryFrame m #[(.int p1), (.int p2), (.int p3), (.long q4), (.long q5), (.int p6)] maxLocals)) t := by
          intro t k
          refine P249 _ ?_
          refine XS.dup X243.here hx rfl (hb hby at_204) rfl rfl ?_
          show Steps p.tables e below (T243.setTop (mkF m 205 #[vI p1, vI p2, vI p3, vJ q4, vS, vJ q5, vS, vI p6, vI nx, vI mx, vI kx, vI px, vI c0, vI off, vI c1, vI dx, vI c2, vJ w0, vS, vJ w1, vS, vR b221, vU, vU, vU, vU, vU, vU, vU, vU, vU, vU, vU] [(.ref b243), (.ref b243)])) _
          refine XS.iconst X243.here hx rfl (hb hby at_205) ?_
          show Steps p.tables e below (T243.setTop (mkF m 206 #[vI p1, vI p2, vI p3, vJ q4, vS, vJ q5, vS, vI p6, vI nx, vI mx, vI kx, vI px, vI c0, vI off, vI c1, vI dx, vI c2, vJ w0, vS, vJ w1, vS, vR b221, vU, vU, vU, vU, vU, vU, vU, vU, vU, vU, vU] [(.int (0 : Int32)), (.ref b243), (.ref b243)])) _
          refine XT.lload X243.here hx rfl (hb hby at_206) rfl ?_
          show Steps p.tables e below (T243.setTop (mkF m 208 #[vI p1, vI p2, vI p3, vJ q4, vS, vJ q5, vS, vI p6, vI nx, vI mx, vI kx, vI px, vI c0, vI off, vI c1, vI dx, vI c2, vJ w0, vS, vJ w1, vS, vR b221, vU, vU, vU, vU, vU, vU, vU, vU, vU, vU, vU] [(.long w0), (.int (0 : Int32)), (.ref b243), (.ref b243)])) _
          exact k
        obtain ⟨cl251, Ar251, q251, S251, M251, H251, G251⟩ := F246
        have in251 : ¬ ((0 : Int32) < 0 ∨ cl251.slots.size ≤ ((0 : Int32)).toNatClampNeg) := inb_of S251 ⟨by decide, by decide⟩
        obtain ⟨T251, h251, X251, e251, W251, st251⟩ := stJ X243 hx hZ e243 Ar251 (j := (0 : Int32)) in251 (g := (mkF m 208 #[vI p1, vI p2, vI p3, vJ q4, vS, vJ q5, vS, vI p6, vI nx, vI mx, vI kx, vI px, vI c0, vI off, vI c1, vI dx, vI c2, vJ w0, vS, vJ w1, vS, vR b221, vU, vU, vU, vU, vU, vU, vU, vU, vU, vU, vU] [(.long w0), (.int (0 : Int32)), (.ref b243), (.ref b243)])) rfl rfl (hb hby at_208)
        have F252 : Old Z n0 h251 := F244.wr W251 g_b243
        have F253 : Arv Z h251 b221 kc_b221 .char (2 : Int32) [(.int c0), (.int c1)] (.int (0 : Int32)) := F245.other W251 ne_b221_b243
        have F254 : Arv Z h251 b243 kc_b243 .long (1 : Int32) [(.long w0)] (.long (0 : Int64)) := Arv.set Ar251 q251 S251 M251 H251 G251 rfl W251 0 rfl (Nat.le_of_ble_eq_true rfl)
        have Z255 : n0 ≤ h251.size := Nat.le_trans Z247 (Keep.of_wr W251).1
        have K256 : Keep h0 h251 [] := K248.wr W251 (Or.inr sz_b243)
        have N251 := Fr.snoc X251 N235 g_b243
        have P257 : ∀ t, Steps p.tables e below (T251.setTop (mkF m 209 #[vI p1, vI p2, vI p3, vJ q4, vS, vJ q5, vS, vI p6, vI nx, vI mx, vI kx, vI px, vI c0, vI off, vI c1, vI dx, vI c2, vJ w0, vS, vJ w1, vS, vR b221, vU, vU, vU, vU, vU, vU, vU, vU, vU, vU, vU] [(.ref b243)])) t → Steps p.tables e below (s₁.setTop (entryFrame m #[(.int p1), (.int p2), (.int p3), (.long q4), (.long q5), (.int p6)] maxLocals)) t := fun t k => P250 _ (st251 _ k)
        have P258 : ∀ t, Steps p.tables e below (T251.setTop (mkF m 227 #[vI p1, vI p2, vI p3, vJ q4, vS, vJ q5, vS, vI p6, vI nx, vI mx, vI kx, vI px, vI c0, vI off, vI c1, vI dx, vI c2, vJ w0, vS, vJ w1, vS, vR b221, vR b243, vU, vU, vU, vU, vU, vU, vU, vU, vU, vU] [])) t → Steps p.tables e below (s₁.setTop (entryFrame m #[(.int p1), (.int p2), (.int p3), (.long q4), (.long q5), (.int p6)] maxLocals)) t := by
          intro t k
          refine P257 _ ?_
          refine XS.goto X251.here hx rfl (pc0 := 209) (pc' := 225) rfl (hb hby at_209) (by decide) (by decide) ?_
          show Steps p.tables e below (T251.setTop (mkF m 225 #[vI p1, vI p2, vI p3, vJ q4, vS, vJ q5, vS, vI p6, vI nx, vI mx, vI kx, vI px, vI c0, vI off, vI c1, vI dx, vI c2, vJ w0, vS, vJ w1, vS, vR b221, vU, vU, vU, vU, vU, vU, vU, vU, vU, vU, vU] [(.ref b243)])) _
          refine XS.astore X251.here hx rfl (hb hby at_225) rfl rfl (l' := #[vI p1, vI p2, vI p3, vJ q4, vS, vJ q5, vS, vI p6, vI nx, vI mx, vI kx, vI px, vI c0, vI off, vI c1, vI dx, vI c2, vJ w0, vS, vJ w1, vS, vR b221, vR b243, vU, vU, vU, vU, vU, vU, vU, vU, vU, vU]) rfl ?_
          show Steps p.tables e below (T251.setTop (mkF m 227 #[vI p1, vI p2, vI p3, vJ q4, vS, vJ q5, vS, vI p6, vI nx, vI mx, vI kx, vI px, vI c0, vI off, vI c1, vI dx, vI c2, vJ w0, vS, vJ w1, vS, vR b221, vR b243, vU, vU, vU, vU, vU, vU, vU, vU, vU, vU] [])) _
          exact k
        have V259 : own_Af Z h251 b221 kc_b221 .char (2 : Int32) (fun i => Value.int ((own_l3 c0 c1 c2) i)) := (own_convV F253).same (fun i hi => by
          match i, hi with
          | 0, _ => rfl
          | 1, _ => rfl
          | j + 2, hj => exact absurd hj (by show ¬ j + 2 < 2; omega))
        have V260 : own_Af Z h251 b243 kc_b243 .long (1 : Int32) (fun i => Value.long ((own_w2 w0 w1) i)) := (own_convV F254).same (fun i hi => by
          match i, hi with
          | 0, _ => rfl
          | j + 1, hj => exact absurd hj (by show ¬ j + 1 < 1; omega))
        have hnv : nx = (2 : Int32) := c149
        have hmv : mx = (1 : Int32) := c198
        have hkm : kk < 1 := by
          rw [hmv] at hkm0
          have e : (1 : Int32).toInt = 1 := rfl
          omega
        have hnn : nx.toInt = ((2 : Nat) : Int) := by rw [hnv]; rfl
        obtain ⟨T261, h261, X261, e261, E261, A261, D261, -, st261⟩ := newO X251 hx hZ hown (hw _ (List.mem_of_getElem? (i := 4) rfl)) (hw _ (List.mem_of_getElem? (i := 5) rfl)) (hw _ (List.mem_of_getElem? (i := 6) rfl)) e251 (g := (mkF m 227 #[vI p1, vI p2, vI p3, vJ q4, vS, vJ q5, vS, vI p6, vI nx, vI mx, vI kx, vI px, vI c0, vI off, vI c1, vI dx, vI c2, vJ w0, vS, vJ w1, vS, vR b221, vR b243, vU, vU, vU, vU, vU, vU, vU, vU, vU, vU] [])) rfl (hb hby at_227) (by decide) (by decide)
        obtain ⟨bA, g261⟩ : ∃ z, z = h251.size := ⟨_, rfl⟩
        rw [← g261] at A261 D261 st261
        have F262 : Old Z n0 h261 := F252.ext E261
        have F263 : own_Af Z h261 b221 kc_b221 .char (2 : Int32) (fun i => Value.int ((own_l3 c0 c1 c2) i)) := V259.ext E261
        have F264 : own_Af Z h261 b243 kc_b243 .long (1 : Int32) (fun i => Value.long ((own_w2 w0 w1) i)) := V260.ext E261
        have F265 : Fld Z h261 bA "com/example/basewright/basewright/Alphabet" "characters" "[B" .null := D261 (Or.inr (hw _ (List.mem_of_getElem? (i := 78) rfl))) (ty := (.array .byte)) (by decide)
        have F266 : Fld Z h261 bA "com/example/basewright/basewright/Alphabet" "values" "[B" .null := D261 (Or.inr (hw _ (List.mem_of_getElem? (i := 80) rfl))) (ty := (.array .byte)) (by decide)
        have Z267 : n0 ≤ h261.size := Nat.le_trans Z255 E261.1
        have K268 : Keep h0 h261 [] := K256.ext E261
        have g_bA : n0 ≤ bA := Nat.le_trans Z255 (Nat.le_of_eq g261.symm)
        have sz_bA : h0.size ≤ bA := Nat.le_trans K256.1 (Nat.le_of_eq g261.symm)
        have ne_b221_bA : b221 ≠ bA := Nat.ne_of_lt (Nat.lt_of_lt_of_le V259.lt (Nat.le_of_eq g261.symm))
        have ne_b243_bA : b243 ≠ bA := Nat.ne_of_lt (Nat.lt_of_lt_of_le V260.lt (Nat.le_of_eq g261.symm))
        have P269 : ∀ t, Steps p.tables e below (T261.setTop (mkF m 230 #[vI p1, vI p2, vI p3, vJ q4, vS, vJ q5, vS, vI p6, vI nx, vI mx, vI kx, vI px, vI c0, vI off, vI c1, vI dx, vI c2, vJ w0, vS, vJ w1, vS, vR b221, vR b243, vU, vU, vU, vU, vU, vU, vU, vU, vU, vU] [(.ref bA)])) t → Steps p.tables e below (s₁.setTop (entryFrame m #[(.int p1), (.int p2), (.int p3), (.long q4), (.long q5), (.int p6)] maxLocals)) t := fun t k => P258 _ (st261 _ k)
        have P270 : ∀ t, Steps p.tables e below (T261.setTop (mkF m 231 #[vI p1, vI p2, vI p3, vJ q4, vS, vJ q5, vS, vI p6, vI nx, vI mx, vI kx, vI px, vI c0, vI off, vI c1, vI dx, vI c2, vJ w0, vS, vJ w1, vS, vR b221, vR b243, vU, vU, vU, vU, vU, vU, vU, vU, vU, vU] [(.ref bA), (.ref bA)])) t → Steps p.tables e below (s₁.setTop (entryFrame m #[(.int p1), (.int p2), (.int p3), (.long q4), (.long q5), (.int p6)] maxLocals)) t := by
          intro t k
          refine P269 _ ?_
          refine XS.dup X261.here hx rfl (hb hby at_230) rfl rfl ?_
          show Steps p.tables e below (T261.setTop (mkF m 231 #[vI p1, vI p2, vI p3, vJ q4, vS, vJ q5, vS, vI p6, vI nx, vI mx, vI kx, vI px, vI c0, vI off, vI c1, vI dx, vI c2, vJ w0, vS, vJ w1, vS, vR b221, vR b243, vU, vU, vU, vU, vU, vU, vU, vU, vU, vU] [(.ref bA), (.ref bA)])) _
          exact k
        obtain ⟨T271, h271, X271, e271, E271, A271, D271, -, st271⟩ := newO X261 hx hZ hown (hw _ (List.mem_of_getElem? (i := 7) rfl)) (hw _ (List.mem_of_getElem? (i := 8) rfl)) (hw _ (List.mem_of_getElem? (i := 9) rfl)) e261 (g := (mkF m 231 #[vI p1, vI p2, vI p3, vJ q4, vS, vJ q5, vS, vI p6, vI nx, vI mx, vI kx, vI px, vI c0, vI off, vI c1, vI dx, vI c2, vJ w0, vS, vJ w1, vS, vR b221, vR b243, vU, vU, vU, vU, vU, vU, vU, vU, vU, vU] [(.ref bA), (.ref bA)])) rfl (hb hby at_231) (by decide) (by decide)
        obtain ⟨b271, g271⟩ : ∃ z, z = h261.size := ⟨_, rfl⟩
        rw [← g271] at A271 D271 st271
        have F272 : Old Z n0 h271 := F262.ext E271
        have F273 : own_Af Z h271 b221 kc_b221 .char (2 : Int32) (fun i => Value.int ((own_l3 c0 c1 c2) i)) := F263.ext E271
        have F274 : own_Af Z h271 b243 kc_b243 .long (1 : Int32) (fun i => Value.long ((own_w2 w0 w1) i)) := F264.ext E271
        have F275 : Exa Z h271 bA "com/example/basewright/basewright/Alphabet" := A261.ext E271
        have F276 : Fld Z h271 bA "com/example/basewright/basewright/Alphabet" "characters" "[B" .null := F265.ext E271
        have F277 : Fld Z h271 bA "com/example/basewright/basewright/Alphabet" "values" "[B" .null := F266.ext E271
        have F278 : Fld Z h271 b271 "java/lang/String" "coder" "B" (.int (0 : Int32)) := D271 (Or.inr (hw _ (List.mem_of_getElem? (i := 33) rfl))) (ty := .byte) (by decide)
        have F279 : Fld Z h271 b271 "java/lang/String" "value" "[B" .null := D271 (Or.inr (hw _ (List.mem_of_getElem? (i := 35) rfl))) (ty := (.array .byte)) (by decide)
        have Z280 : n0 ≤ h271.size := Nat.le_trans Z267 E271.1
        have K281 : Keep h0 h271 [] := K268.ext E271
        have g_b271 : n0 ≤ b271 := Nat.le_trans Z267 (Nat.le_of_eq g271.symm)
        have sz_b271 : h0.size ≤ b271 := Nat.le_trans K268.1 (Nat.le_of_eq g271.symm)
        have ne_b221_b271 : b221 ≠ b271 := Nat.ne_of_lt (Nat.lt_of_lt_of_le F263.lt (Nat.le_of_eq g271.symm))
        have ne_b243_b271 : b243 ≠ b271 := Nat.ne_of_lt (Nat.lt_of_lt_of_le F264.lt (Nat.le_of_eq g271.symm))
        have ne_bA_b271 : bA ≠ b271 := Nat.ne_of_lt (Nat.lt_of_lt_of_le A261.lt (Nat.le_of_eq g271.symm))
        have P282 : ∀ t, Steps p.tables e below (T271.setTop (mkF m 234 #[vI p1, vI p2, vI p3, vJ q4, vS, vJ q5, vS, vI p6, vI nx, vI mx, vI kx, vI px, vI c0, vI off, vI c1, vI dx, vI c2, vJ w0, vS, vJ w1, vS, vR b221, vR b243, vU, vU, vU, vU, vU, vU, vU, vU, vU, vU] [(.ref b271), (.ref bA), (.ref bA)])) t → Steps p.tables e below (s₁.setTop (entryFrame m #[(.int p1), (.int p2), (.int p3), (.long q4), (.long q5), (.int p6)] maxLocals)) t := fun t k => P270 _ (st271 _ k)
        have P283 : ∀ t, Steps p.tables e below (T271.setTop (mkF m 237 #[vI p1, vI p2, vI p3, vJ q4, vS, vJ q5, vS, vI p6, vI nx, vI mx, vI kx, vI px, vI c0, vI off, vI c1, vI dx, vI c2, vJ w0, vS, vJ w1, vS, vR b221, vR b243, vU, vU, vU, vU, vU, vU, vU, vU, vU, vU] [(.ref b221), (.ref b271), (.ref b271), (.ref bA), (.ref bA)])) t → Steps p.tables e below (s₁.setTop (entryFrame m #[(.int p1), (.int p2), (.int p3), (.long q4), (.long q5), (.int p6)] maxLocals)) t := by
          intro t k
          refine P282 _ ?_
          refine XS.dup X271.here hx rfl (hb hby at_234) rfl rfl ?_
          show Steps p.tables e below (T271.setTop (mkF m 235 #[vI p1, vI p2, vI p3, vJ q4, vS, vJ q5, vS, vI p6, vI nx, vI mx, vI kx, vI px, vI c0, vI off, vI c1, vI dx, vI c2, vJ w0, vS, vJ w1, vS, vR b221, vR b243, vU, vU, vU, vU, vU, vU, vU, vU, vU, vU] [(.ref b271), (.ref b271), (.ref bA), (.ref bA)])) _
          refine XS.aload X271.here hx rfl (hb hby at_235) rfl rfl ?_
          show Steps p.tables e below (T271.setTop (mkF m 237 #[vI p1, vI p2, vI p3, vJ q4, vS, vJ q5, vS, vI p6, vI nx, vI mx, vI kx, vI px, vI c0, vI off, vI c1, vI dx, vI c2, vJ w0, vS, vJ w1, vS, vR b221, vR b243, vU, vU, vU, vU, vU, vU, vU, vU, vU, vU] [(.ref b221), (.ref b271), (.ref b271), (.ref bA), (.ref bA)])) _
          exact k
        obtain ⟨_, _, ⟨T284, L284, k284, n284⟩, -, X284, ⟨Lc284, hQ284, l284, y284, z284⟩, st284⟩ := X271.specialBack hx (y := (⟨"java/lang/String", "<init>", "([C)V"⟩ : MethodName)) rfl hown (mvT hZ (hw _ (List.mem_of_getElem? (i := 10) rfl))) (mvT hZ (hw _ (List.mem_of_getElem? (i := 11) rfl))) (mvT hZ (hw _ (List.mem_of_getElem? (i := 12) rfl))) (by decide) (backOf (W := 3) (rm15 l Z a0 hw [] b271 b221 (2 : Int32) kc_b221 .null (.int (0 : Int32)) ccs (own_l3 c0 c1 c2) 2 h271 n0 Z280 A271 F279 F278 g_b271 F273 (S_cs.ext F272.2) hcc rfl (by decide) (by decide) (own_l3s kc0 kc1 kc2 (by decide))) hZ (hw _ (List.mem_of_getElem? (i := 12) rfl)) (hw _ (List.mem_of_getElem? (i := 9) rfl)) (by decide) (by decide)) (g := (mkF m 237 #[vI p1, vI p2, vI p3, vJ q4, vS, vJ q5, vS, vI p6, vI nx, vI mx, vI kx, vI px, vI c0, vI off, vI c1, vI dx, vI c2, vJ w0, vS, vJ w1, vS, vR b221, vR b243, vU, vU, vU, vU, vU, vU, vU, vU, vU, vU] [(.ref b221), (.ref b271), (.ref b271), (.ref bA), (.ref bA)])) rfl (by rw [hml]; rfl) (Steps.refl _) (a := b271) (argsL := [(.ref b221)]) (rest := [(.ref b271), (.ref bA), (.ref bA)]) (lenOf pd_11 rfl) rfl (by show 2 * 0 + _ ≤ _; exact Nat.le_of_eq rfl) (hb hby at_237) (fun _ _ => ⟨rfl, e271, (by decide : 4 + 1 ≤ _), (by decide : 9 + 4 ≤ _)⟩)
        dsimp only [Pt.U, Pt.locs, Pt.cells, Pt.slots] at X284 l284 y284 z284 st284 hQ284
        subst l284 y284 z284
        obtain ⟨b_284, kb_284, rfl, N284q, K284, s284_b, Y284_0, Y284_1, Y284_2, Y284_3, Y284_4⟩ := hQ284
        have F285 : Old Z n0 T284.heap := F272.keep K284 (allS g_b271 all0)
        have F286 : own_Af Z T284.heap b221 kc_b221 .char (2 : Int32) (fun i => Value.int ((own_l3 c0 c1 c2) i)) := F273.keep K284 (ninS ne_b221_b271 nin0)
        have F287 : own_Af Z T284.heap b243 kc_b243 .long (1 : Int32) (fun i => Value.long ((own_w2 w0 w1) i)) := F274.keep K284 (ninS ne_b243_b271 nin0)
        have F288 : Exa Z T284.heap bA "com/example/basewright/basewright/Alphabet" := F275.keep K284
        have F289 : Fld Z T284.heap bA "com/example/basewright/basewright/Alphabet" "characters" "[B" .null := F276.keep K284 (ninS ne_bA_b271 nin0)
        have F290 : Fld Z T284.heap bA "com/example/basewright/basewright/Alphabet" "values" "[B" .null := F277.keep K284 (ninS ne_bA_b271 nin0)
        have F291 : Exa Z T284.heap b271 "java/lang/String" := A271.keep K284
        have Z292 : n0 ≤ T284.heap.size := Nat.le_trans Z280 K284.1
        have K293 : Keep h0 T284.heap [] := K281.trans K284 (allS (Or.inr sz_b271) all0)
        have g_b_284 : n0 ≤ b_284 := Nat.le_trans Z280 s284_b
        have sz_b_284 : h0.size ≤ b_284 := Nat.le_trans K281.1 s284_b
        have ne_b221_b_284 : b221 ≠ b_284 := Nat.ne_of_lt (Nat.lt_of_lt_of_le F273.lt s284_b)
        have ne_b243_b_284 : b243 ≠ b_284 := Nat.ne_of_lt (Nat.lt_of_lt_of_le F274.lt s284_b)
        have ne_bA_b_284 : bA ≠ b_284 := Nat.ne_of_lt (Nat.lt_of_lt_of_le F275.lt s284_b)
        have ne_b271_b_284 : b271 ≠ b_284 := Nat.ne_of_lt (Nat.lt_of_lt_of_le A271.lt s284_b)
        have N284 := Fr.app N251 N284q
        have P294 : ∀ t, Steps p.tables e below (T284.setTop (mkF m 240 #[vI p1, vI p2, vI p3, vJ q4, vS, vJ q5, vS, vI p6, vI nx, vI mx, vI kx, vI px, vI c0, vI off, vI c1, vI dx, vI c2, vJ w0, vS, vJ w1, vS, vR b221, vR b243, vU, vU, vU, vU, vU, vU, vU, vU, vU, vU] [(.ref b271), (.ref bA), (.ref bA)])) t → Steps p.tables e below (s₁.setTop (entryFrame m #[(.int p1), (.int p2), (.int p3), (.long q4), (.long q5), (.int p6)] maxLocals)) t := fun t k => P283 _ (st284.trans k)
        obtain ⟨_, _, ⟨T295, L295, k295, n295⟩, -, X295, ⟨Lc295, hQ295, l295, y295, z295⟩, st295⟩ := X284.specialBack hx (y := (⟨"com/example/basewright/basewright/Alphabet", "<init>", "(Ljava/lang/String;)V"⟩ : MethodName)) rfl hown (mvT hZ (hw _ (List.mem_of_getElem? (i := 36) rfl))) (mvT hZ (hw _ (List.mem_of_getElem? (i := 37) rfl))) (mvT hZ (hw _ (List.mem_of_getElem? (i := 38) rfl))) (by decide) (backOf (W := 1) (rm27 l Z a0 hw [] bA b271 .null .null b_284 (2 : Int32) kb_284 (own_l3 c0 c1 c2) 2 wA wU wI ccs T284.heap n0 Z292 F285 F288 F289 F290 g_bA Y284_0 Y284_1 Y284_2 Y284_3 Y284_4 rfl (by decide) (own_l3s kc0 kc1 kc2 (by decide)) S_H S_wU S_wI S_wA neU neI S_cs hcc) hZ (hw _ (List.mem_of_getElem? (i := 38) rfl)) (hw _ (List.mem_of_getElem? (i := 6) rfl)) (by decide) (by decide)) (g := (mkF m 240 #[vI p1, vI p2, vI p3, vJ q4, vS, vJ q5, vS, vI p6, vI nx, vI mx, vI kx, vI px, vI c0, vI off, vI c1, vI dx, vI c2, vJ w0, vS, vJ w1, vS, vR b221, vR b243, vU, vU, vU, vU, vU, vU, vU, vU, vU, vU] [(.ref b271), (.ref bA), (.ref bA)])) rfl (by rw [hml]; rfl) (Steps.refl _) (a := bA) (argsL := [(.ref b271)]) (rest := [(.ref bA)]) (lenOf pd_12 rfl) rfl (by show 2 * 0 + _ ≤ _; exact Nat.le_of_eq rfl) (hb hby at_240) (fun _ _ => ⟨rfl, rfl, (by decide : 5 + 2 ≤ _), (by decide : 13 + 260 ≤ _)⟩)
        dsimp only [Pt.U, Pt.locs, Pt.cells, Pt.slots] at X295 l295 y295 z295 st295 hQ295
        subst l295 y295 z295
        obtain ⟨bc_295, bz_295, kz_295, rfl, N295q, K295, s295_bc, s295_bz, Y295_0, Y295_1, Y295_2, Y295_3, Y295_4⟩ := hQ295
        have F296 : Old Z n0 T295.heap := F285.keep K295 (allS g_bA all0)
        have F297 : own_Af Z T295.heap b221 kc_b221 .char (2 : Int32) (fun i => Value.int ((own_l3 c0 c1 c2) i)) := F286.keep K295 (ninS ne_b221_bA nin0)
        have F298 : own_Af Z T295.heap b243 kc_b243 .long (1 : Int32) (fun i => Value.long ((own_w2 w0 w1) i)) := F287.keep K295 (ninS ne_b243_bA nin0)
        have F299 : Exa Z T295.heap bA "com/example/basewright/basewright/Alphabet" := F288.keep K295
        have F300 : Exa Z T295.heap b271 "java/lang/String" := Y284_0.keep K295
        have F301 : Fld Z T295.heap b271 "java/lang/String" "value" "[B" (.ref b_284) := Y284_1.keep K295 (ninS (Ne.symm ne_bA_b271) nin0)
        have F302 : Fld Z T295.heap b271 "java/lang/String" "coder" "B" (.int (0 : Int32)) := Y284_2.keep K295 (ninS (Ne.symm ne_bA_b271) nin0)
        have F303 : own_Af Z T295.heap b_284 kb_284 .byte (2 : Int32) (fun i => Value.int ((own_l3 c0 c1 c2) i)) := Y284_3.keep K295 (ninS (Ne.symm ne_bA_b_284) nin0)
        have F304 : Exa Z T295.heap b_284 "[B" := Y284_4.keep K295
        have Z305 : n0 ≤ T295.heap.size := Nat.le_trans Z292 K295.1
        have K306 : Keep h0 T295.heap [] := K293.trans K295 (allS (Or.inr sz_bA) all0)
        have g_bc_295 : n0 ≤ bc_295 := Nat.le_trans Z292 s295_bc
        have sz_bc_295 : h0.size ≤ bc_295 := Nat.le_trans K293.1 s295_bc
        have ne_b221_bc_295 : b221 ≠ bc_295 := Nat.ne_of_lt (Nat.lt_of_lt_of_le F286.lt s295_bc)
        have ne_b243_bc_295 : b243 ≠ bc_295 := Nat.ne_of_lt (Nat.lt_of_lt_of_le F287.lt s295_bc)
        have ne_bA_bc_295 : bA ≠ bc_295 := Nat.ne_of_lt (Nat.lt_of_lt_of_le F288.lt s295_bc)
        have ne_b271_bc_295 : b271 ≠ bc_295 := Nat.ne_of_lt (Nat.lt_of_lt_of_le Y284_0.lt s295_bc)
        have ne_b_284_bc_295 : b_284 ≠ bc_295 := Nat.ne_of_lt (Nat.lt_of_lt_of_le Y284_3.lt s295_bc)
        have g_bz_295 : n0 ≤ bz_295 := Nat.le_trans Z292 s295_bz
        have sz_bz_295 : h0.size ≤ bz_295 := Nat.le_trans K293.1 s295_bz
        have ne_b221_bz_295 : b221 ≠ bz_295 := Nat.ne_of_lt (Nat.lt_of_lt_of_le F286.lt s295_bz)
        have ne_b243_bz_295 : b243 ≠ bz_295 := Nat.ne_of_lt (Nat.lt_of_lt_of_le F287.lt s295_bz)
        have ne_bA_bz_295 : bA ≠ bz_295 := Nat.ne_of_lt (Nat.lt_of_lt_of_le F288.lt s295_bz)
        have ne_b271_bz_295 : b271 ≠ bz_295 := Nat.ne_of_lt (Nat.lt_of_lt_of_le Y284_0.lt s295_bz)
        have ne_b_284_bz_295 : b_284 ≠ bz_295 := Nat.ne_of_lt (Nat.lt_of_lt_of_le Y284_3.lt s295_bz)
        have N295 := Fr.app N284 N295q
        have P307 : ∀ t, Steps p.tables e below (T295.setTop (mkF m 243 #[vI p1, vI p2, vI p3, vJ q4, vS, vJ q5, vS, vI p6, vI nx, vI mx, vI kx, vI px, vI c0, vI off, vI c1, vI dx, vI c2, vJ w0, vS, vJ w1, vS, vR b221, vR b243, vU, vU, vU, vU, vU, vU, vU, vU, vU, vU] [(.ref bA)])) t → Steps p.tables e below (s₁.setTop (entryFrame m #[(.int p1), (.int p2), (.int p3), (.long q4), (.long q5), (.int p6)] maxLocals)) t := fun t k => P294 _ (st295.trans k)
        have P308 : ∀ t, Steps p.tables e below (T295.setTop (mkF m 249 #[vI p1, vI p2, vI p3, vJ q4, vS, vJ q5, vS, vI p6, vI nx, vI mx, vI kx, vI px, vI c0, vI off, vI c1, vI dx, vI c2, vJ w0, vS, vJ w1, vS, vR b221, vR b243, vR bA, vU, vU, vU, vU, vU, vU, vU, vU, vU] [(.ref b243), (.ref bA)])) t → Steps p.tables e below (s₁.setTop (entryFrame m #[(.int p1), (.int p2), (.int p3), (.long q4), (.long q5), (.int p6)] maxLocals)) t := by
          intro t k
          refine P307 _ ?_
          refine XS.astore X295.here hx rfl (hb hby at_243) rfl rfl (l' := #[vI p1, vI p2, vI p3, vJ q4, vS, vJ q5, vS, vI p6, vI nx, vI mx, vI kx, vI px, vI c0, vI off, vI c1, vI dx, vI c2, vJ w0, vS, vJ w1, vS, vR b221, vR b243, vR bA, vU, vU, vU, vU, vU, vU, vU, vU, vU]) rfl ?_
          show Steps p.tables e below (T295.setTop (mkF m 245 #[vI p1, vI p2, vI p3, vJ q4, vS, vJ q5, vS, vI p6, vI nx, vI mx, vI kx, vI px, vI c0, vI off, vI c1, vI dx, vI c2, vJ w0, vS, vJ w1, vS, vR b221, vR b243, vR bA, vU, vU, vU, vU, vU, vU, vU, vU, vU] [])) _
          refine XS.aload X295.here hx rfl (hb hby at_245) rfl rfl ?_
          show Steps p.tables e below (T295.setTop (mkF m 247 #[vI p1, vI p2, vI p3, vJ q4, vS, vJ q5, vS, vI p6, vI nx, vI mx, vI kx, vI px, vI c0, vI off, vI c1, vI dx, vI c2, vJ w0, vS, vJ w1, vS, vR b221, vR b243, vR bA, vU, vU, vU, vU, vU, vU, vU, vU, vU] [(.ref bA)])) _
          refine XS.aload X295.here hx rfl (hb hby at_247) rfl rfl ?_
          show Steps p.tables e below (T295.setTop (mkF m 249 #[vI p1, vI p2, vI p3, vJ q4, vS, vJ q5, vS, vI p6, vI nx, vI mx, vI kx, vI px, vI c0, vI off, vI c1, vI dx, vI c2, vJ w0, vS, vJ w1, vS, vR b221, vR b243, vR bA, vU, vU, vU, vU, vU, vU, vU, vU, vU] [(.ref b243), (.ref bA)])) _
          exact k
        obtain ⟨cq309, kq309, qa309, qb309, qc309⟩ := isOf hZ rfl Y295_0
        obtain ⟨_, _, ⟨T309, L309, k309, n309⟩, -, X309, ⟨Lc309, hQ309, l309, y309, z309⟩, st309⟩ := X295.virtualBack hx (y := (⟨"com/example/basewright/basewright/Alphabet", "weightedValues", "([J)[J"⟩ : MethodName)) (z := (⟨"com/example/basewright/basewright/Alphabet", "weightedValues", "([J)[J"⟩ : MethodName)) hown (mvT hZ (hw _ (List.mem_of_getElem? (i := 85) rfl))) (mvT hZ (hw _ (List.mem_of_getElem? (i := 86) rfl))) (notFace_of_selects (args := #[]) (mvT hZ (hw _ (List.mem_of_getElem? (i := 88) rfl)))) (mvT hZ (hw _ (List.mem_of_getElem? (i := 88) rfl))) (mvT hZ (hw _ (List.mem_of_getElem? (i := 87) rfl))) (by decide) (backOf (W := 0) (rm29 l Z a0 hw [] bA b243 bz_295 (1 : Int32) kz_295 kc_b243 (own_vf (own_l3 c0 c1 c2) 2) (own_w2 w0 w1) 1 T295.heap n0 Z305 Y295_2 Y295_4 F298 rfl (by decide)) hZ (hw _ (List.mem_of_getElem? (i := 89) rfl)) (hw _ (List.mem_of_getElem? (i := 6) rfl)) (by decide) (by decide)) qa309 qc309 (g := (mkF m 249 #[vI p1, vI p2, vI p3, vJ q4, vS, vJ q5, vS, vI p6, vI nx, vI mx, vI kx, vI px, vI c0, vI off, vI c1, vI dx, vI c2, vJ w0, vS, vJ w1, vS, vR b221, vR b243, vR bA, vU, vU, vU, vU, vU, vU, vU, vU, vU] [(.ref b243), (.ref bA)])) rfl (by rw [hml]; rfl) (Steps.refl _) (argsL := [(.ref b243)]) (rest := []) (lenOf pd_13 rfl) rfl (by show 2 * 0 + _ ≤ _; exact Nat.le_of_eq rfl) (hb hby at_249) (fun _ _ => ⟨rfl, rfl, (by decide : 7 + 1 ≤ _), (by decide : 273 + 512 ≤ _)⟩)
        dsimp only [Pt.U, Pt.locs, Pt.cells, Pt.slots] at X309 l309 y309 z309 st309 hQ309
        subst l309 y309 z309
        obtain ⟨b_309, kp_309, nq_309, rfl, N309q, K309, s309_b, Y309_0, Y309_1⟩ := hQ309
        have F310 : Old Z n0 T309.heap := F296.keep K309 all0
        have F311 : own_Af Z T309.heap b221 kc_b221 .char (2 : Int32) (fun i => Value.int ((own_l3 c0 c1 c2) i)) := F297.keep K309 nin0
        have F312 : own_Af Z T309.heap b243 kc_b243 .long (1 : Int32) (fun i => Value.long ((own_w2 w0 w1) i)) := F298.keep K309 nin0
        have F313 : Exa Z T309.heap bA "com/example/basewright/basewright/Alphabet" := Y295_0.keep K309
        have F314 : Exa Z T309.heap b271 "java/lang/String" := F300.keep K309
        have F315 : Fld Z T309.heap b271 "java/lang/String" "value" "[B" (.ref b_284) := F301.keep K309 nin0
        have F316 : Fld Z T309.heap b271 "java/lang/String" "coder" "B" (.int (0 : Int32)) := F302.keep K309 nin0
        have F317 : own_Af Z T309.heap b_284 kb_284 .byte (2 : Int32) (fun i => Value.int ((own_l3 c0 c1 c2) i)) := F303.keep K309 nin0
        have F318 : Exa Z T309.heap b_284 "[B" := F304.keep K309
        have F319 : Fld Z T309.heap bA "com/example/basewright/basewright/Alphabet" "characters" "[B" (.ref bc_295) := Y295_1.keep K309 nin0
        have F320 : Fld Z T309.heap bA "com/example/basewright/basewright/Alphabet" "values" "[B" (.ref bz_295) := Y295_2.keep K309 nin0
        have F321 : own_Af Z T309.heap bc_295 kb_284 .byte (2 : Int32) (fun i => Value.int ((own_l3 c0 c1 c2) i)) := Y295_3.keep K309 nin0
        have F322 : own_Af Z T309.heap bz_295 kz_295 .byte (256 : Int32) (fun j => Value.int (own_vf (own_l3 c0 c1 c2) 2 j)) := Y295_4.keep K309 nin0
        have Z323 : n0 ≤ T309.heap.size := Nat.le_trans Z305 K309.1
        have K324 : Keep h0 T309.heap [] := K306.trans K309 all0
        have g_b_309 : n0 ≤ b_309 := Nat.le_trans Z305 s309_b
        have sz_b_309 : h0.size ≤ b_309 := Nat.le_trans K306.1 s309_b
        have ne_b221_b_309 : b221 ≠ b_309 := Nat.ne_of_lt (Nat.lt_of_lt_of_le F297.lt s309_b)
        have ne_b243_b_309 : b243 ≠ b_309 := Nat.ne_of_lt (Nat.lt_of_lt_of_le F298.lt s309_b)
        have ne_bA_b_309 : bA ≠ b_309 := Nat.ne_of_lt (Nat.lt_of_lt_of_le Y295_0.lt s309_b)
        have ne_b271_b_309 : b271 ≠ b_309 := Nat.ne_of_lt (Nat.lt_of_lt_of_le F300.lt s309_b)
        have ne_b_284_b_309 : b_284 ≠ b_309 := Nat.ne_of_lt (Nat.lt_of_lt_of_le F303.lt s309_b)
        have ne_bc_295_b_309 : bc_295 ≠ b_309 := Nat.ne_of_lt (Nat.lt_of_lt_of_le Y295_3.lt s309_b)
        have ne_bz_295_b_309 : bz_295 ≠ b_309 := Nat.ne_of_lt (Nat.lt_of_lt_of_le Y295_4.lt s309_b)
        have N309 := Fr.app N295 N309q
        have P325 : ∀ t, Steps p.tables e below (T309.setTop (mkF m 252 #[vI p1, vI p2, vI p3, vJ q4, vS, vJ q5, vS, vI p6, vI nx, vI mx, vI kx, vI px, vI c0, vI off, vI c1, vI dx, vI c2, vJ w0, vS, vJ w1, vS, vR b221, vR b243, vR bA, vU, vU, vU, vU, vU, vU, vU, vU, vU] [(.ref b_309)])) t → Steps p.tables e below (s₁.setTop (entryFrame m #[(.int p1), (.int p2), (.int p3), (.long q4), (.long q5), (.int p6)] maxLocals)) t := fun t k => P308 _ (st309.trans k)
        have P326 : ∀ t, Steps p.tables e below (T309.setTop (mkF m 254 #[vI p1, vI p2, vI p3, vJ q4, vS, vJ q5, vS, vI p6, vI nx, vI mx, vI kx, vI px, vI c0, vI off, vI c1, vI dx, vI c2, vJ w0, vS, vJ w1, vS, vR b221, vR b243, vR bA, vR b_309, vU, vU, vU, vU, vU, vU, vU, vU] [])) t → Steps p.tables e below (s₁.setTop (entryFrame m #[(.int p1), (.int p2), (.int p3), (.long q4), (.long q5), (.int p6)] maxLocals)) t := by
          intro t k
          refine P325 _ ?_
          refine XS.astore X309.here hx rfl (hb hby at_252) rfl rfl (l' := #[vI p1, vI p2, vI p3, vJ q4, vS, vJ q5, vS, vI p6, vI nx, vI mx, vI kx, vI px, vI c0, vI off, vI c1, vI dx, vI c2, vJ w0, vS, vJ w1, vS, vR b221, vR b243, vR bA, vR b_309, vU, vU, vU, vU, vU, vU, vU, vU]) rfl ?_
          show Steps p.tables e below (T309.setTop (mkF m 254 #[vI p1, vI p2, vI p3, vJ q4, vS, vJ q5, vS, vI p6, vI nx, vI mx, vI kx, vI px, vI c0, vI off, vI c1, vI dx, vI c2, vJ w0, vS, vJ w1, vS, vR b221, vR b243, vR bA, vR b_309, vU, vU, vU, vU, vU, vU, vU, vU] [])) _
          exact k
        have hq24 := (own_m8 (mm := 1) Y309_1 rfl (by decide)).1
        have hlen : nq_309 = (mx * (256 : Int32)) := by rw [Y309_1, hmv]; rfl
        obtain ⟨T327, h327, lo327, X327, e327, N327, K327, q327, st327⟩ := tlA (by decide) (by decide) p1 p2 p3 q4 q5 p6 nx mx kx px c0 off c1 dx c2 w0 w1 b221 b243 bA b_309 nq_309 kp_309 2 1 kk X309 hx hZ hw hby hml hown rfl N309 Z323 Y309_0 hq24 hlen hnn (by decide) hkk hkm (by decide) hk1 kc0 kc1 kc2 hne3 kpx kp8 kp9
        have P328 : ∀ t, Steps p.tables e below (T327.setTop (mkF m 423 #[vI p1, vI p2, vI p3, vJ q4, vS, vJ q5, vS, vI p6, vI nx, vI mx, vI kx, vI px, vI c0, vI off, vI c1, vI dx, vI c2, vJ w0, vS, vJ w1, vS, vR b221, vR b243, vR bA, vR b_309, .val (.long (if kx = (0 : Int32) then w0 else w1)), vS, .val (.int (kx <<< ((8 : Int32) &&& 31))), .val (.int (1 : Int32)), vU, vU, vU, vU] [])) t → Steps p.tables e below (s₁.setTop (entryFrame m #[(.int p1), (.int p2), (.int p3), (.long q4), (.long q5), (.int p6)] maxLocals)) t := fun t k => P326 _ (st327 _ k)
        have Z329 : n0 ≤ h327.size := Nat.le_trans Z323 K327.1
        have P330 : ∀ t, Steps p.tables e below (T327.setTop (mkF m 578 #[vI p1, vI p2, vI p3, vJ q4, vS, vJ q5, vS, vI p6, vI nx, vI mx, vI kx, vI px, vI c0, vI off, vI c1, vI dx, vI c2, vJ w0, vS, vJ w1, vS, vR b221, vR b243, vR bA, vR b_309, .val (.long (if kx = (0 : Int32) then w0 else w1)), vS, .val (.int (kx <<< ((8 : Int32) &&& 31))), .val (.int (1 : Int32)), vU, vU, vU, vU] [(.int (1 : Int32))])) t → Steps p.tables e below (s₁.setTop (entryFrame m #[(.int p1), (.int p2), (.int p3), (.long q4), (.long q5), (.int p6)] maxLocals)) t := by
          intro t k
          refine P328 _ ?_
          refine XS.iload X327.here hx rfl (hb hby at_423) rfl ?_
          show Steps p.tables e below (T327.setTop (mkF m 425 #[vI p1, vI p2, vI p3, vJ q4, vS, vJ q5, vS, vI p6, vI nx, vI mx, vI kx, vI px, vI c0, vI off, vI c1, vI dx, vI c2, vJ w0, vS, vJ w1, vS, vR b221, vR b243, vR bA, vR b_309, .val (.long (if kx = (0 : Int32) then w0 else w1)), vS, .val (.int (kx <<< ((8 : Int32) &&& 31))), .val (.int (1 : Int32)), vU, vU, vU, vU] [(.int mx)])) _
          refine XS.iconst X327.here hx rfl (hb hby at_425) ?_
          show Steps p.tables e below (T327.setTop (mkF m 426 #[vI p1, vI p2, vI p3, vJ q4, vS, vJ q5, vS, vI p6, vI nx, vI mx, vI kx, vI px, vI c0, vI off, vI c1, vI dx, vI c2, vJ w0, vS, vJ w1, vS, vR b221, vR b243, vR bA, vR b_309, .val (.long (if kx = (0 : Int32) then w0 else w1)), vS, .val (.int (kx <<< ((8 : Int32) &&& 31))), .val (.int (1 : Int32)), vU, vU, vU, vU] [(.int (2 : Int32)), (.int mx)])) _
          refine XS.icmpYes X327.here hx rfl (pc0 := 426) (pc' := 576) rfl (hb hby at_426) rfl (XT.ii_ne_t (by rw [hmv]; decide)) (by decide) (by decide) ?_
          show Steps p.tables e below (T327.setTop (mkF m 576 #[vI p1, vI p2, vI p3, vJ q4, vS, vJ q5, vS, vI p6, vI nx, vI mx, vI kx, vI px, vI c0, vI off, vI c1, vI dx, vI c2, vJ w0, vS, vJ w1, vS, vR b221, vR b243, vR bA, vR b_309, .val (.long (if kx = (0 : Int32) then w0 else w1)), vS, .val (.int (kx <<< ((8 : Int32) &&& 31))), .val (.int (1 : Int32)), vU, vU, vU, vU] [])) _
          refine XS.iload X327.here hx rfl (hb hby at_576) rfl ?_
          show Steps p.tables e below (T327.setTop (mkF m 578 #[vI p1, vI p2, vI p3, vJ q4, vS, vJ q5, vS, vI p6, vI nx, vI mx, vI kx, vI px, vI c0, vI off, vI c1, vI dx, vI c2, vJ w0, vS, vJ w1, vS, vR b221, vR b243, vR bA, vR b_309, .val (.long (if kx = (0 : Int32) then w0 else w1)), vS, .val (.int (kx <<< ((8 : Int32) &&& 31))), .val (.int (1 : Int32)), vU, vU, vU, vU] [(.int (1 : Int32))])) _
          exact k
        obtain ⟨fs, hr, hrun, hended, hW, hsame⟩ := X327.leave (v := some (.int (1 : Int32))) (fun h => by rw [Bd.returns] at h; cases h)
        refine ⟨_, _, P330 _ ?_, hrun, hended, _, _, rfl, ?_, ⟨_, rfl⟩, hW, hsame.mono (by decide) (by decide)⟩
        · exact retN X327 hx (t := .boolean) Bd.returns (by simp) (hb hby at_578) hr
        · show Q0 Z p1 p2 p3 q4 q5 p6 ccs wA wU wI h0 n0 _ T327.heap _
          rw [e327]
          exact ⟨rfl, N327⟩
      · have P331 : ∀ t, Steps p.tables e below (T235.setTop (mkF m 213 #[vI p1, vI p2, vI p3, vJ q4, vS, vJ q5, vS, vI p6, vI nx, vI mx, vI kx, vI px, vI c0, vI off, vI c1, vI dx, vI c2, vJ w0, vS, vJ w1, vS, vR b221, vU, vU, vU, vU, vU, vU, vU, vU, vU, vU, vU] [(.int (2 : Int32))])) t → Steps p.tables e below (s₁.setTop (entryFrame m #[(.int p1), (.int p2), (.int p3), (.long q4), (.long q5), (.int p6)] maxLocals)) t := by
          intro t k
          refine P241 _ ?_
          refine XS.icmpYes X235.here hx rfl (pc0 := 198) (pc' := 212) rfl (hb hby at_198) rfl (XT.ii_ne_t c198) (by decide) (by decide) ?_
          show Steps p.tables e below (T235.setTop (mkF m 212 #[vI p1, vI p2, vI p3, vJ q4, vS, vJ q5, vS, vI p6, vI nx, vI mx, vI kx, vI px, vI c0, vI off, vI c1, vI dx, vI c2, vJ w0, vS, vJ w1, vS, vR b221, vU, vU, vU, vU, vU, vU, vU, vU, vU, vU, vU] [])) _
          refine XS.iconst X235.here hx rfl (hb hby at_212) ?_
          show Steps p.tables e below (T235.setTop (mkF m 213 #[vI p1, vI p2, vI p3, vJ q4, vS, vJ q5, vS, vI p6, vI nx, vI mx, vI kx, vI px, vI c0, vI off, vI c1, vI dx, vI c2, vJ w0, vS, vJ w1, vS, vR b221, vU, vU, vU, vU, vU, vU, vU, vU, vU, vU, vU] [(.int (2 : Int32))])) _
          exact k
        obtain ⟨T332, h332, k332, X332, e332, E332, A332, st332⟩ := newP X235 hx hZ (hw _ (List.mem_of_getElem? (i := 3) rfl)) e235 (g := (mkF m 213 #[vI p1, vI p2, vI p3, vJ q4, vS, vJ q5, vS, vI p6, vI nx, vI mx, vI kx, vI px, vI c0, vI off, vI c1, vI dx, vI c2, vJ w0, vS, vJ w1, vS, vR b221, vU, vU, vU, vU, vU, vU, vU, vU, vU, vU, vU] [(.int (2 : Int32))])) rfl (hb hby at_213) rfl (by decide) (cap := 2) (by decide) (by decide) (by decide) (by decide)
        obtain ⟨b332, g332⟩ : ∃ z, z = h235.size := ⟨_, rfl⟩
        rw [← g332] at A332 st332
        have F333 : Old Z n0 h332 := F236.ext E332
        have F334 : Arv Z h332 b221 kc_b221 .char (2 : Int32) [(.int c0), (.int c1)] (.int (0 : Int32)) := F237.ext E332
        obtain ⟨kc_b332, hkc_b332⟩ : ∃ z, z = k332 := ⟨_, rfl⟩
        rw [← hkc_b332] at A332
        have F335 : Arv Z h332 b332 kc_b332 .long (2 : Int32) [(.long (0 : Int64)), (.long (0 : Int64))] (.long (0 : Int64)) := (Arv.new A332 (by decide)).pad (pad_rep [] (.long (0 : Int64)) 2)
        have Z336 : n0 ≤ h332.size := Nat.le_trans Z238 E332.1
        have K337 : Keep h0 h332 [] := K239.ext E332
        have g_b332 : n0 ≤ b332 := Nat.le_trans Z238 (Nat.le_of_eq g332.symm)
        have sz_b332 : h0.size ≤ b332 := Nat.le_trans K239.1 (Nat.le_of_eq g332.symm)
        have ne_b221_b332 : b221 ≠ b332 := Nat.ne_of_lt (Nat.lt_of_lt_of_le F237.lt (Nat.le_of_eq g332.symm))
        have P338 : ∀ t, Steps p.tables e below (T332.setTop (mkF m 215 #[vI p1, vI p2, vI p3, vJ q4, vS, vJ q5, vS, vI p6, vI nx, vI mx, vI kx, vI px, vI c0, vI off, vI c1, vI dx, vI c2, vJ w0, vS, vJ w1, vS, vR b221, vU, vU, vU, vU, vU, vU, vU, vU, vU, vU, vU] [(.ref b332)])) t → Steps p.tables e below (s₁.setTop (entryFrame m #[(.int p1), (.int p2), (.int p3), (.long q4), (.long q5), (.int p6)] maxLocals)) t := fun t k => P331 _ (st332 _ k)
        have P339 : ∀ t, Steps p.tables e below (T332.setTop (mkF m 219 #[vI p1, vI p2, vI p3, vJ q4, vS, vJ q5, vS, vI p6, vI nx, vI mx, vI kx, vI px, vI c0, vI off, vI c1, vI dx, vI c2, vJ w0, vS, vJ w1, vS, vR b221, vU, vU, vU, vU, vU, vU, vU, vU, vU, vU, vU] [(.long w0), (.int (0 : Int32)), (.ref b332), (.ref b332)])) t → Steps p.tables e below (s₁.setTop (entryFrame m #[(.int p1), (.int p2), (.int p3), (.long q4), (.long q5), (.int p6)] maxLocals)) t := by
          intro t k
          refine P338 _ ?_
          refine XS.dup X332.here hx rfl (hb hby at_215) rfl rfl ?_
          show Steps p.tables e below (T332.setTop (mkF m 216 #[vI p1, vI p2, vI p3, vJ q4, vS, vJ q5, vS, vI p6, vI nx, vI mx, vI kx, vI px, vI c0, vI off, vI c1, vI dx, vI c2, vJ w0, vS, vJ w1, vS, vR b221, vU, vU, vU, vU, vU, vU, vU, vU, vU, vU, vU] [(.ref b332), (.ref b332)])) _
          refine XS.iconst X332.here hx rfl (hb hby at_216) ?_
          show Steps p.tables e below (T332.setTop (mkF m 217 #[vI p1, vI p2, vI p3, vJ q4, vS, vJ q5, vS, vI p6, vI nx, vI mx, vI kx, vI px, vI c0, vI off, vI c1, vI dx, vI c2, vJ w0, vS, vJ w1, vS, vR b221, vU, vU, vU, vU, vU, vU, vU, vU, vU, vU, vU] [(.int (0 : Int32)), (.ref b332), (.ref b332)])) _
          refine XT.lload X332.here hx rfl (hb hby at_217) rfl ?_
          show Steps p.tables e below (T332.setTop (mkF m 219 #[vI p1, vI p2, vI p3, vJ q4, vS, vJ q5, vS, vI p6, vI nx, vI mx, vI kx, vI px, vI c0, vI off, vI c1, vI dx, vI c2, vJ w0, vS, vJ w1, vS, vR b221, vU, vU, vU, vU, vU, vU, vU, vU, vU, vU, vU] [(.long w0), (.int (0 : Int32)), (.ref b332), (.ref b332)])) _
          exact k
        obtain ⟨cl340, Ar340, q340, S340, M340, H340, G340⟩ := F335
        have in340 : ¬ ((0 : Int32) < 0 ∨ cl340.slots.size ≤ ((0 : Int32)).toNatClampNeg) := inb_of S340 ⟨by decide, by decide⟩
        obtain ⟨T340, h340, X340, e340, W340, st340⟩ := stJ X332 hx hZ e332 Ar340 (j := (0 : Int32)) in340 (g := (mkF m 219 #[vI p1, vI p2, vI p3, vJ q4, vS, vJ q5, vS, vI p6, vI nx, vI mx, vI kx, vI px, vI c0, vI off, vI c1, vI dx, vI c2, vJ w0, vS, vJ w1, vS, vR b221, vU, vU, vU, vU, vU, vU, vU, vU, vU, vU, vU] [(.long w0), (.int (0 : Int32)), (.ref b332), (.ref b332)])) rfl rfl (hb hby at_219)
        have F341 : Old Z n0 h340 := F333.wr W340 g_b332
        have F342 : Arv Z h340 b221 kc_b221 .char (2 : Int32) [(.int c0), (.int c1)] (.int (0 : Int32)) := F334.other W340 ne_b221_b332
        have F343 : Arv Z h340 b332 kc_b332 .long (2 : Int32) [(.long w0), (.long (0 : Int64))] (.long (0 : Int64)) := Arv.set Ar340 q340 S340 M340 H340 G340 rfl W340 0 rfl (Nat.le_of_ble_eq_true rfl)
        have Z344 : n0 ≤ h340.size := Nat.le_trans Z336 (Keep.of_wr W340).1
        have K345 : Keep h0 h340 [] := K337.wr W340 (Or.inr sz_b332)
        have N340 := Fr.snoc X340 N235 g_b332
        have P346 : ∀ t, Steps p.tables e below (T340.setTop (mkF m 220 #[vI p1, vI p2, vI p3, vJ q4, vS, vJ q5, vS, vI p6, vI nx, vI mx, vI kx, vI px, vI c0, vI off, vI c1, vI dx, vI c2, vJ w0, vS, vJ w1, vS, vR b221, vU, vU, vU, vU, vU, vU, vU, vU, vU, vU, vU] [(.ref b332)])) t → Steps p.tables e below (s₁.setTop (entryFrame m #[(.int p1), (.int p2), (.int p3), (.long q4), (.long q5), (.int p6)] maxLocals)) t := fun t k => P339 _ (st340 _ k)
        have P347 : ∀ t, Steps p.tables e below (T340.setTop (mkF m 224 #[vI p1, vI p2, vI p3, vJ q4, vS, vJ q5, vS, vI p6, vI nx, vI mx, vI kx, vI px, vI c0, vI off, vI c1, vI dx, vI c2, vJ w0, vS, vJ w1, vS, vR b221, vU, vU, vU, vU, vU, vU, vU, vU, vU, vU, vU] [(.long w1), (.int (1 : Int32)), (.ref b332), (.ref b332)])) t → Steps p.tables e below (s₁.setTop (entryFrame m #[(.int p1), (.int p2), (.int p3), (.long q4), (.long q5), (.int p6)] maxLocals)) t := by
          intro t k
          refine P346 _ ?_
          refine XS.dup X340.here hx rfl (hb hby at_220) rfl rfl ?_
          show Steps p.tables e below (T340.setTop (mkF m 221 #[vI p1, vI p2, vI p3, vJ q4, vS, vJ q5, vS, vI p6, vI nx, vI mx, vI kx, vI px, vI c0, vI off, vI c1, vI dx, vI c2, vJ w0, vS, vJ w1, vS, vR b221, vU, vU, vU, vU, vU, vU, vU, vU, vU, vU, vU] [(.ref b332), (.ref b332)])) _
          refine XS.iconst X340.here hx rfl (hb hby at_221) ?_
          show Steps p.tables e below (T340.setTop (mkF m 222 #[vI p1, vI p2, vI p3, vJ q4, vS, vJ q5, vS, vI p6, vI nx, vI mx, vI kx, vI px, vI c0, vI off, vI c1, vI dx, vI c2, vJ w0, vS, vJ w1, vS, vR b221, vU, vU, vU, vU, vU, vU, vU, vU, vU, vU, vU] [(.int (1 : Int32)), (.ref b332), (.ref b332)])) _
          refine XT.lload X340.here hx rfl (hb hby at_222) rfl ?_
          show Steps p.tables e below (T340.setTop (mkF m 224 #[vI p1, vI p2, vI p3, vJ q4, vS, vJ q5, vS, vI p6, vI nx, vI mx, vI kx, vI px, vI c0, vI off, vI c1, vI dx, vI c2, vJ w0, vS, vJ w1, vS, vR b221, vU, vU, vU, vU, vU, vU, vU, vU, vU, vU, vU] [(.long w1), (.int (1 : Int32)), (.ref b332), (.ref b332)])) _
          exact k
        obtain ⟨cl348, Ar348, q348, S348, M348, H348, G348⟩ := F343
        have in348 : ¬ ((1 : Int32) < 0 ∨ cl348.slots.size ≤ ((1 : Int32)).toNatClampNeg) := inb_of S348 ⟨by decide, by decide⟩
        obtain ⟨T348, h348, X348, e348, W348, st348⟩ := stJ X340 hx hZ e340 Ar348 (j := (1 : Int32)) in348 (g := (mkF m 224 #[vI p1, vI p2, vI p3, vJ q4, vS, vJ q5, vS, vI p6, vI nx, vI mx, vI kx, vI px, vI c0, vI off, vI c1, vI dx, vI c2, vJ w0, vS, vJ w1, vS, vR b221, vU, vU, vU, vU, vU, vU, vU, vU, vU, vU, vU] [(.long w1), (.int (1 : Int32)), (.ref b332), (.ref b332)])) rfl rfl (hb hby at_224)
        have F349 : Old Z n0 h348 := F341.wr W348 g_b332
        have F350 : Arv Z h348 b221 kc_b221 .char (2 : Int32) [(.int c0), (.int c1)] (.int (0 : Int32)) := F342.other W348 ne_b221_b332
        have F351 : Arv Z h348 b332 kc_b332 .long (2 : Int32) [(.long w0), (.long w1)] (.long (0 : Int64)) := Arv.set Ar348 q348 S348 M348 H348 G348 rfl W348 1 rfl (Nat.le_of_ble_eq_true rfl)
        have Z352 : n0 ≤ h348.size := Nat.le_trans Z344 (Keep.of_wr W348).1
        have K353 : Keep h0 h348 [] := K345.wr W348 (Or.inr sz_b332)
        have N348 := Fr.snoc X348 N340 g_b332
        have P354 : ∀ t, Steps p.tables e below (T348.setTop (mkF m 225 #[vI p1, vI p2, vI p3, vJ q4, vS, vJ q5, vS, vI p6, vI nx, vI mx, vI kx, vI px, vI c0, vI off, vI c1, vI dx, vI c2, vJ w0, vS, vJ w1, vS, vR b221, vU, vU, vU, vU, vU, vU, vU, vU, vU, vU, vU] [(.ref b332)])) t → Steps p.tables e below (s₁.setTop (entryFrame m #[(.int p1), (.int p2), (.int p3), (.long q4), (.long q5), (.int p6)] maxLocals)) t := fun t k => P347 _ (st348 _ k)
        have P355 : ∀ t, Steps p.tables e below (T348.setTop (mkF m 227 #[vI p1, vI p2, vI p3, vJ q4, vS, vJ q5, vS, vI p6, vI nx, vI mx, vI kx, vI px, vI c0, vI off, vI c1, vI dx, vI c2, vJ w0, vS, vJ w1, vS, vR b221, vR b332, vU, vU, vU, vU, vU, vU, vU, vU, vU, vU] [])) t → Steps p.tables e below (s₁.setTop (entryFrame m #[(.int p1), (.int p2), (.int p3), (.long q4), (.long q5), (.int p6)] maxLocals)) t := by
          intro t k
          refine P354 _ ?_
          refine XS.astore X348.here hx rfl (hb hby at_225) rfl rfl (l' := #[vI p1, vI p2, vI p3, vJ q4, vS, vJ q5, vS, vI p6, vI nx, vI mx, vI kx, vI px, vI c0, vI off, vI c1, vI dx, vI c2, vJ w0, vS, vJ w1, vS, vR b221, vR b332, vU, vU, vU, vU, vU, vU, vU, vU, vU, vU]) rfl ?_
          show Steps p.tables e below (T348.setTop (mkF m 227 #[vI p1, vI p2, vI p3, vJ q4, vS, vJ q5, vS, vI p6, vI nx, vI mx, vI kx, vI px, vI c0, vI off, vI c1, vI dx, vI c2, vJ w0, vS, vJ w1, vS, vR b221, vR b332, vU, vU, vU, vU, vU, vU, vU, vU, vU, vU] [])) _
          exact k
        have V356 : own_Af Z h348 b221 kc_b221 .char (2 : Int32) (fun i => Value.int ((own_l3 c0 c1 c2) i)) := (own_convV F350).same (fun i hi => by
          match i, hi with
          | 0, _ => rfl
          | 1, _ => rfl
          | j + 2, hj => exact absurd hj (by show ¬ j + 2 < 2; omega))
        have V357 : own_Af Z h348 b332 kc_b332 .long (2 : Int32) (fun i => Value.long ((own_w2 w0 w1) i)) := (own_convV F351).same (fun i hi => by
          match i, hi with
          | 0, _ => rfl
          | 1, _ => rfl
          | j + 2, hj => exact absurd hj (by show ¬ j + 2 < 2; omega))
        have hnv : nx = (2 : Int32) := c149
        have hmv : mx = (2 : Int32) := (hm12.resolve_left c198)
        have hkm : kk < 2 := by
          rw [hmv] at hkm0
          have e : (2 : Int32).toInt = 2 := rfl
          omega
        have hnn : nx.toInt = ((2 : Nat) : Int) := by rw [hnv]; rfl
        obtain ⟨T358, h358, X358, e358, E358, A358, D358, -, st358⟩ := newO X348 hx hZ hown (hw _ (List.mem_of_getElem? (i := 4) rfl)) (hw _ (List.mem_of_getElem? (i := 5) rfl)) (hw _ (List.mem_of_getElem? (i := 6) rfl)) e348 (g := (mkF m 227 #[vI p1, vI p2, vI p3, vJ q4, vS, vJ q5, vS, vI p6, vI nx, vI mx, vI kx, vI px, vI c0, vI off, vI c1, vI dx, vI c2, vJ w0, vS, vJ w1, vS, vR b221, vR b332, vU, vU, vU, vU, vU, vU, vU, vU, vU, vU] [])) rfl (hb hby at_227) (by decide) (by decide)
        obtain ⟨bA, g358⟩ : ∃ z, z = h348.size := ⟨_, rfl⟩
        rw [← g358] at A358 D358 st358
        have F359 : Old Z n0 h358 := F349.ext E358
        have F360 : own_Af Z h358 b221 kc_b221 .char (2 : Int32) (fun i => Value.int ((own_l3 c0 c1 c2) i)) := V356.ext E358
        have F361 : own_Af Z h358 b332 kc_b332 .long (2 : Int32) (fun i => Value.long ((own_w2 w0 w1) i)) := V357.ext E358
        have F362 : Fld Z h358 bA "com/example/basewright/basewright/Alphabet" "characters" "[B" .null := D358 (Or.inr (hw _ (List.mem_of_getElem? (i := 78) rfl))) (ty := (.array .byte)) (by decide)
        have F363 : Fld Z h358 bA "com/example/basewright/basewright/Alphabet" "values" "[B" .null := D358 (Or.inr (hw _ (List.mem_of_getElem? (i := 80) rfl))) (ty := (.array .byte)) (by decide)
        have Z364 : n0 ≤ h358.size := Nat.le_trans Z352 E358.1
        have K365 : Keep h0 h358 [] := K353.ext E358
        have g_bA : n0 ≤ bA := Nat.le_trans Z352 (Nat.le_of_eq g358.symm)
        have sz_bA : h0.size ≤ bA := Nat.le_trans K353.1 (Nat.le_of_eq g358.symm)
        have ne_b221_bA : b221 ≠ bA := Nat.ne_of_lt (Nat.lt_of_lt_of_le V356.lt (Nat.le_of_eq g358.symm))
        have ne_b332_bA : b332 ≠ bA := Nat.ne_of_lt (Nat.lt_of_lt_of_le V357.lt (Nat.le_of_eq g358.symm))
        have P366 : ∀ t, Steps p.tables e below (T358.setTop (mkF m 230 #[vI p1, vI p2, vI p3, vJ q4, vS, vJ q5, vS, vI p6, vI nx, vI mx, vI kx, vI px, vI c0, vI off, vI c1, vI dx, vI c2, vJ w0, vS, vJ w1, vS, vR b221, vR b332, vU, vU, vU, vU, vU, vU, vU, vU, vU, vU] [(.ref bA)])) t → Steps p.tables e below (s₁.setTop (entryFrame m #[(.int p1), (.int p2), (.int p3), (.long q4), (.long q5), (.int p6)] maxLocals)) t := fun t k => P355 _ (st358 _ k)
        have P367 : ∀ t, Steps p.tables e below (T358.setTop (mkF m 231 #[vI p1, vI p2, vI p3, vJ q4, vS, vJ q5, vS, vI p6, vI nx, vI mx, vI kx, vI px, vI c0, vI off, vI c1, vI dx, vI c2, vJ w0, vS, vJ w1, vS, vR b221, vR b332, vU, vU, vU, vU, vU, vU, vU, vU, vU, vU] [(.ref bA), (.ref bA)])) t → Steps p.tables e below (s₁.setTop (entryFrame m #[(.int p1), (.int p2), (.int p3), (.long q4), (.long q5), (.int p6)] maxLocals)) t := by
          intro t k
          refine P366 _ ?_
          refine XS.dup X358.here hx rfl (hb hby at_230) rfl rfl ?_
          show Steps p.tables e below (T358.setTop (mkF m 231 #[vI p1, vI p2, vI p3, vJ q4, vS, vJ q5, vS, vI p6, vI nx, vI mx, vI kx, vI px, vI c0, vI off, vI c1, vI dx, vI c2, vJ w0, vS, vJ w1, vS, vR b221, vR b332, vU, vU, vU, vU, vU, vU, vU, vU, vU, vU] [(.ref bA), (.ref bA)])) _
          exact k
        obtain ⟨T368, h368, X368, e368, E368, A368, D368, -, st368⟩ := newO X358 hx hZ hown (hw _ (List.mem_of_getElem? (i := 7) rfl)) (hw _ (List.mem_of_getElem? (i := 8) rfl)) (hw _ (List.mem_of_getElem? (i := 9) rfl)) e358 (g := (mkF m 231 #[vI p1, vI p2, vI p3, vJ q4, vS, vJ q5, vS, vI p6, vI nx, vI mx, vI kx, vI px, vI c0, vI off, vI c1, vI dx, vI c2, vJ w0, vS, vJ w1, vS, vR b221, vR b332, vU, vU, vU, vU, vU, vU, vU, vU, vU, vU] [(.ref bA), (.ref bA)])) rfl (hb hby at_231) (by decide) (by decide)
        obtain ⟨b368, g368⟩ : ∃ z, z = h358.size := ⟨_, rfl⟩
        rw [← g368] at A368 D368 st368
        have F369 : Old Z n0 h368 := F359.ext E368
        have F370 : own_Af Z h368 b221 kc_b221 .char (2 : Int32) (fun i => Value.int ((own_l3 c0 c1 c2) i)) := F360.ext E368
        have F371 : own_Af Z h368 b332 kc_b332 .long (2 : Int32) (fun i => Value.long ((own_w2 w0 w1) i)) := F361.ext E368
        have F372 : Exa Z h368 bA "com/example/basewright/basewright/Alphabet" := A358.ext E368
        have F373 : Fld Z h368 bA "com/example/basewright/basewright/Alphabet" "characters" "[B" .null := F362.ext E368
        have F374 : Fld Z h368 bA "com/example/basewright/basewright/Alphabet" "values" "[B" .null := F363.ext E368
        have F375 : Fld Z h368 b368 "java/lang/String" "coder" "B" (.int (0 : Int32)) := D368 (Or.inr (hw _ (List.mem_of_getElem? (i := 33) rfl))) (ty := .byte) (by decide)
        have F376 : Fld Z h368 b368 "java/lang/String" "value" "[B" .null := D368 (Or.inr (hw _ (List.mem_of_getElem? (i := 35) rfl))) (ty := (.array .byte)) (by decide)
        have Z377 : n0 ≤ h368.size := Nat.le_trans Z364 E368.1
        have K378 : Keep h0 h368 [] := K365.ext E368
        have g_b368 : n0 ≤ b368 := Nat.le_trans Z364 (Nat.le_of_eq g368.symm)
        have sz_b368 : h0.size ≤ b368 := Nat.le_trans K365.1 (Nat.le_of_eq g368.symm)
        have ne_b221_b368 : b221 ≠ b368 := Nat.ne_of_lt (Nat.lt_of_lt_of_le F360.lt (Nat.le_of_eq g368.symm))
        have ne_b332_b368 : b332 ≠ b368 := Nat.ne_of_lt (Nat.lt_of_lt_of_le F361.lt (Nat.le_of_eq g368.symm))
        have ne_bA_b368 : bA ≠ b368 := Nat.ne_of_lt (Nat.lt_of_lt_of_le A358.lt (Nat.le_of_eq g368.symm))
        have P379 : ∀ t, Steps p.tables e below (T368.setTop (mkF m 234 #[vI p1, vI p2, vI p3, vJ q4, vS, vJ q5, vS, vI p6, vI nx, vI mx, vI kx, vI px, vI c0, vI off, vI c1, vI dx, vI c2, vJ w0, vS, vJ w1, vS, vR b221, vR b332, vU, vU, vU, vU, vU, vU, vU, vU, vU, vU] [(.ref b368), (.ref bA), (.ref bA)])) t → Steps p.tables e below (s₁.setTop (entryFrame m #[(.int p1), (.int p2), (.int p3), (.long q4), (.long q5), (.int p6)] maxLocals)) t := fun t k => P367 _ (st368 _ k)
        have P380 : ∀ t, Steps p.tables e below (T368.setTop (mkF m 237 #[vI p1, vI p2, vI p3, vJ q4, vS, vJ q5, vS, vI p6, vI nx, vI mx, vI kx, vI px, vI c0, vI off, vI c1, vI dx, vI c2, vJ w0, vS, vJ w1, vS, vR b221, vR b332, vU, vU, vU, vU, vU, vU, vU, vU, vU, vU] [(.ref b221), (.ref b368), (.ref b368), (.ref bA), (.ref bA)])) t → Steps p.tables e below (s₁.setTop (entryFrame m #[(.int p1), (.int p2), (.int p3), (.long q4), (.long q5), (.int p6)] maxLocals)) t := by
          intro t k
          refine P379 _ ?_
          refine XS.dup X368.here hx rfl (hb hby at_234) rfl rfl ?_
          show Steps p.tables e below (T368.setTop (mkF m 235 #[vI p1, vI p2, vI p3, vJ q4, vS, vJ q5, vS, vI p6, vI nx, vI mx, vI kx, vI px, vI c0, vI off, vI c1, vI dx, vI c2, vJ w0, vS, vJ w1, vS, vR b221, vR b332, vU, vU, vU, vU, vU, vU, vU, vU, vU, vU] [(.ref b368), (.ref b368), (.ref bA), (.ref bA)])) _
          refine XS.aload X368.here hx rfl (hb hby at_235) rfl rfl ?_
          show Steps p.tables e below (T368.setTop (mkF m 237 #[vI p1, vI p2, vI p3, vJ q4, vS, vJ q5, vS, vI p6, vI nx, vI mx, vI kx, vI px, vI c0, vI off, vI c1, vI dx, vI c2, vJ w0, vS, vJ w1, vS, vR b221, vR b332, vU, vU, vU, vU, vU, vU, vU, vU, vU, vU] [(.ref b221), (.ref b368), (.ref b368), (.ref bA), (.ref bA)])) _
          exact k
        obtain ⟨_, _, ⟨T381, L381, k381, n381⟩, -, X381, ⟨Lc381, hQ381, l381, y381, z381⟩, st381⟩ := X368.specialBack hx (y := (⟨"java/lang/String", "<init>", "([C)V"⟩ : MethodName)) rfl hown (mvT hZ (hw _ (List.mem_of_getElem? (i := 10) rfl))) (mvT hZ (hw _ (List.mem_of_getElem? (i := 11) rfl))) (mvT hZ (hw _ (List.mem_of_getElem? (i := 12) rfl))) (by decide) (backOf (W := 3) (rm15 l Z a0 hw [] b368 b221 (2 : Int32) kc_b221 .null (.int (0 : Int32)) ccs (own_l3 c0 c1 c2) 2 h368 n0 Z377 A368 F376 F375 g_b368 F370 (S_cs.ext F369.2) hcc rfl (by decide) (by decide) (own_l3s kc0 kc1 kc2 (by decide))) hZ (hw _ (List.mem_of_getElem? (i := 12) rfl)) (hw _ (List.mem_of_getElem? (i := 9) rfl)) (by decide) (by decide)) (g := (mkF m 237 #[vI p1, vI p2, vI p3, vJ q4, vS, vJ q5, vS, vI p6, vI nx, vI mx, vI kx, vI px, vI c0, vI off, vI c1, vI dx, vI c2, vJ w0, vS, vJ w1, vS, vR b221, vR b332, vU, vU, vU, vU, vU, vU, vU, vU, vU, vU] [(.ref b221), (.ref b368), (.ref b368), (.ref bA), (.ref bA)])) rfl (by rw [hml]; rfl) (Steps.refl _) (a := b368) (argsL := [(.ref b221)]) (rest := [(.ref b368), (.ref bA), (.ref bA)]) (lenOf pd_11 rfl) rfl (by show 2 * 0 + _ ≤ _; exact Nat.le_of_eq rfl) (hb hby at_237) (fun _ _ => ⟨rfl, e368, (by decide : 4 + 1 ≤ _), (by decide : 10 + 4 ≤ _)⟩)
        dsimp only [Pt.U, Pt.locs, Pt.cells, Pt.slots] at X381 l381 y381 z381 st381 hQ381
        subst l381 y381 z381
        obtain ⟨b_381, kb_381, rfl, N381q, K381, s381_b, Y381_0, Y381_1, Y381_2, Y381_3, Y381_4⟩ := hQ381
        have F382 : Old Z n0 T381.heap := F369.keep K381 (allS g_b368 all0)
        have F383 : own_Af Z T381.heap b221 kc_b221 .char (2 : Int32) (fun i => Value.int ((own_l3 c0 c1 c2) i)) := F370.keep K381 (ninS ne_b221_b368 nin0)
        have F384 : own_Af Z T381.heap b332 kc_b332 .long (2 : Int32) (fun i => Value.long ((own_w2 w0 w1) i)) := F371.keep K381 (ninS ne_b332_b368 nin0)
        have F385 : Exa Z T381.heap bA "com/example/basewright/basewright/Alphabet" := F372.keep K381
        have F386 : Fld Z T381.heap bA "com/example/basewright/basewright/Alphabet" "characters" "[B" .null := F373.keep K381 (ninS ne_bA_b368 nin0)
        have F387 : Fld Z T381.heap bA "com/example/basewright/basewright/Alphabet" "values" "[B" .null := F374.keep K381 (ninS ne_bA_b368 nin0)
        have F388 : Exa Z T381.heap b368 "java/lang/String" := A368.keep K381
        have Z389 : n0 ≤ T381.heap.size := Nat.le_trans Z377 K381.1
        have K390 : Keep h0 T381.heap [] := K378.trans K381 (allS (Or.inr sz_b368) all0)
        have g_b_381 : n0 ≤ b_381 := Nat.le_trans Z377 s381_b
        have sz_b_381 : h0.size ≤ b_381 := Nat.le_trans K378.1 s381_b
        have ne_b221_b_381 : b221 ≠ b_381 := Nat.ne_of_lt (Nat.lt_of_lt_of_le F370.lt s381_b)
        have ne_b332_b_381 : b332 ≠ b_381 := Nat.ne_of_lt (Nat.lt_of_lt_of_le F371.lt s381_b)
        have ne_bA_b_381 : bA ≠ b_381 := Nat.ne_of_lt (Nat.lt_of_lt_of_le F372.lt s381_b)
        have ne_b368_b_381 : b368 ≠ b_381 := Nat.ne_of_lt (Nat.lt_of_lt_of_le A368.lt s381_b)
        have N381 := Fr.app N348 N381q
        have P391 : ∀ t, Steps p.tables e below (T381.setTop (mkF m 240 #[vI p1, vI p2, vI p3, vJ q4, vS, vJ q5, vS, vI p6, vI nx, vI mx, vI kx, vI px, vI c0, vI off, vI c1, vI dx, vI c2, vJ w0, vS, vJ w1, vS, vR b221, vR b332, vU, vU, vU, vU, vU, vU, vU, vU, vU, vU] [(.ref b368), (.ref bA), (.ref bA)])) t → Steps p.tables e below (s₁.setTop (entryFrame m #[(.int p1), (.int p2), (.int p3), (.long q4), (.long q5), (.int p6)] maxLocals)) t := fun t k => P380 _ (st381.trans k)
        obtain ⟨_, _, ⟨T392, L392, k392, n392⟩, -, X392, ⟨Lc392, hQ392, l392, y392, z392⟩, st392⟩ := X381.specialBack hx (y := (⟨"com/example/basewright/basewright/Alphabet", "<init>", "(Ljava/lang/String;)V"⟩ : MethodName)) rfl hown (mvT hZ (hw _ (List.mem_of_getElem? (i := 36) rfl))) (mvT hZ (hw _ (List.mem_of_getElem? (i := 37) rfl))) (mvT hZ (hw _ (List.mem_of_getElem? (i := 38) rfl))) (by decide) (backOf (W := 1) (rm27 l Z a0 hw [] bA b368 .null .null b_381 (2 : Int32) kb_381 (own_l3 c0 c1 c2) 2 wA wU wI ccs T381.heap n0 Z389 F382 F385 F386 F387 g_bA Y381_0 Y381_1 Y381_2 Y381_3 Y381_4 rfl (by decide) (own_l3s kc0 kc1 kc2 (by decide)) S_H S_wU S_wI S_wA neU neI S_cs hcc) hZ (hw _ (List.mem_of_getElem? (i := 38) rfl)) (hw _ (List.mem_of_getElem? (i := 6) rfl)) (by decide) (by decide)) (g := (mkF m 240 #[vI p1, vI p2, vI p3, vJ q4, vS, vJ q5, vS, vI p6, vI nx, vI mx, vI kx, vI px, vI c0, vI off, vI c1, vI dx, vI c2, vJ w0, vS, vJ w1, vS, vR b221, vR b332, vU, vU, vU, vU, vU, vU, vU, vU, vU, vU] [(.ref b368), (.ref bA), (.ref bA)])) rfl (by rw [hml]; rfl) (Steps.refl _) (a := bA) (argsL := [(.ref b368)]) (rest := [(.ref bA)]) (lenOf pd_12 rfl) rfl (by show 2 * 0 + _ ≤ _; exact Nat.le_of_eq rfl) (hb hby at_240) (fun _ _ => ⟨rfl, rfl, (by decide : 5 + 2 ≤ _), (by decide : 14 + 260 ≤ _)⟩)
        dsimp only [Pt.U, Pt.locs, Pt.cells, Pt.slots] at X392 l392 y392 z392 st392 hQ392
        subst l392 y392 z392
        obtain ⟨bc_392, bz_392, kz_392, rfl, N392q, K392, s392_bc, s392_bz, Y392_0, Y392_1, Y392_2, Y392_3, Y392_4⟩ := hQ392
        have F393 : Old Z n0 T392.heap := F382.keep K392 (allS g_bA all0)
        have F394 : own_Af Z T392.heap b221 kc_b221 .char (2 : Int32) (fun i => Value.int ((own_l3 c0 c1 c2) i)) := F383.keep K392 (ninS ne_b221_bA nin0)
        have F395 : own_Af Z T392.heap b332 kc_b332 .long (2 : Int32) (fun i => Value.long ((own_w2 w0 w1) i)) := F384.keep K392 (ninS ne_b332_bA nin0)
        have F396 : Exa Z T392.heap bA "com/example/basewright/basewright/Alphabet" := F385.keep K392
        have F397 : Exa Z T392.heap b368 "java/lang/String" := Y381_0.keep K392
        have F398 : Fld Z T392.heap b368 "java/lang/String" "value" "[B" (.ref b_381) := Y381_1.keep K392 (ninS (Ne.symm ne_bA_b368) nin0)
        have F399 : Fld Z T392.heap b368 "java/lang/String" "coder" "B" (.int (0 : Int32)) := Y381_2.keep K392 (ninS (Ne.symm ne_bA_b368) nin0)
        have F400 : own_Af Z T392.heap b_381 kb_381 .byte (2 : Int32) (fun i => Value.int ((own_l3 c0 c1 c2) i)) := Y381_3.keep K392 (ninS (Ne.symm ne_bA_b_381) nin0)
        have F401 : Exa Z T392.heap b_381 "[B" := Y381_4.keep K392
        have Z402 : n0 ≤ T392.heap.size := Nat.le_trans Z389 K392.1
        have K403 : Keep h0 T392.heap [] := K390.trans K392 (allS (Or.inr sz_bA) all0)
        have g_bc_392 : n0 ≤ bc_392 := Nat.le_trans Z389 s392_bc
        have sz_bc_392 : h0.size ≤ bc_392 := Nat.le_trans K390.1 s392_bc
        have ne_b221_bc_392 : b221 ≠ bc_392 := Nat.ne_of_lt (Nat.lt_of_lt_of_le F383.lt s392_bc)
        have ne_b332_bc_392 : b332 ≠ bc_392 := Nat.ne_of_lt (Nat.lt_of_lt_of_le F384.lt s392_bc)
        have ne_bA_bc_392 : bA ≠ bc_392 := Nat.ne_of_lt (Nat.lt_of_lt_of_le F385.lt s392_bc)
        have ne_b368_bc_392 : b368 ≠ bc_392 := Nat.ne_of_lt (Nat.lt_of_lt_of_le Y381_0.lt s392_bc)
        have ne_b_381_bc_392 : b_381 ≠ bc_392 := Nat.ne_of_lt (Nat.lt_of_lt_of_le Y381_3.lt s392_bc)
        have g_bz_392 : n0 ≤ bz_392 := Nat.le_trans Z389 s392_bz
        have sz_bz_392 : h0.size ≤ bz_392 := Nat.le_trans K390.1 s392_bz
        have ne_b221_bz_392 : b221 ≠ bz_392 := Nat.ne_of_lt (Nat.lt_of_lt_of_le F383.lt s392_bz)
        have ne_b332_bz_392 : b332 ≠ bz_392 := Nat.ne_of_lt (Nat.lt_of_lt_of_le F384.lt s392_bz)
        have ne_bA_bz_392 : bA ≠ bz_392 := Nat.ne_of_lt (Nat.lt_of_lt_of_le F385.lt s392_bz)
        have ne_b368_bz_392 : b368 ≠ bz_392 := Nat.ne_of_lt (Nat.lt_of_lt_of_le Y381_0.lt s392_bz)
        have ne_b_381_bz_392 : b_381 ≠ bz_392 := Nat.ne_of_lt (Nat.lt_of_lt_of_le Y381_3.lt s392_bz)
        have N392 := Fr.app N381 N392q
        have P404 : ∀ t, Steps p.tables e below (T392.setTop (mkF m 243 #[vI p1, vI p2, vI p3, vJ q4, vS, vJ q5, vS, vI p6, vI nx, vI mx, vI kx, vI px, vI c0, vI off, vI c1, vI dx, vI c2, vJ w0, vS, vJ w1, vS, vR b221, vR b332, vU, vU, vU, vU, vU, vU, vU, vU, vU, vU] [(.ref bA)])) t → Steps p.tables e below (s₁.setTop (entryFrame m #[(.int p1), (.int p2), (.int p3), (.long q4), (.long q5), (.int p6)] maxLocals)) t := fun t k => P391 _ (st392.trans k)
        have P405 : ∀ t, Steps p.tables e below (T392.setTop (mkF m 249 #[vI p1, vI p2, vI p3, vJ q4, vS, vJ q5, vS, vI p6, vI nx, vI mx, vI kx, vI px, vI c0, vI off, vI c1, vI dx, vI c2, vJ w0, vS, vJ w1, vS, vR b221, vR b332, vR bA, vU, vU, vU, vU, vU, vU, vU, vU, vU] [(.ref b332), (.ref bA)])) t → Steps p.tables e below (s₁.setTop (entryFrame m #[(.int p1), (.int p2), (.int p3), (.long q4), (.long q5), (.int p6)] maxLocals)) t := by
          intro t k
          refine P404 _ ?_
          refine XS.astore X392.here hx rfl (hb hby at_243) rfl rfl (l' := #[vI p1, vI p2, vI p3, vJ q4, vS, vJ q5, vS, vI p6, vI nx, vI mx, vI kx, vI px, vI c0, vI off, vI c1, vI dx, vI c2, vJ w0, vS, vJ w1, vS, vR b221, vR b332, vR bA, vU, vU, vU, vU, vU, vU, vU, vU, vU]) rfl ?_
          show Steps p.tables e below (T392.setTop (mkF m 245 #[vI p1, vI p2, vI p3, vJ q4, vS, vJ q5, vS, vI p6, vI nx, vI mx, vI kx, vI px, vI c0, vI off, vI c1, vI dx, vI c2, vJ w0, vS, vJ w1, vS, vR b221, vR b332, vR bA, vU, vU, vU, vU, vU, vU, vU, vU, vU] [])) _
          refine XS.aload X392.here hx rfl (hb hby at_245) rfl rfl ?_
          show Steps p.tables e below (T392.setTop (mkF m 247 #[vI p1, vI p2, vI p3, vJ q4, vS, vJ q5, vS, vI p6, vI nx, vI mx, vI kx, vI px, vI c0, vI off, vI c1, vI dx, vI c2, vJ w0, vS, vJ w1, vS, vR b221, vR b332, vR bA, vU, vU, vU, vU, vU, vU, vU, vU, vU] [(.ref bA)])) _
          refine XS.aload X392.here hx rfl (hb hby at_247) rfl rfl ?_
          show Steps p.tables e below (T392.setTop (mkF m 249 #[vI p1, vI p2, vI p3, vJ q4, vS, vJ q5, vS, vI p6, vI nx, vI mx, vI kx, vI px, vI c0, vI off, vI c1, vI dx, vI c2, vJ w0, vS, vJ w1, vS, vR b221, vR b332, vR bA, vU, vU, vU, vU, vU, vU, vU, vU, vU] [(.ref b332), (.ref bA)])) _
          exact k
        obtain ⟨cq406, kq406, qa406, qb406, qc406⟩ := isOf hZ rfl Y392_0
        obtain ⟨_, _, ⟨T406, L406, k406, n406⟩, -, X406, ⟨Lc406, hQ406, l406, y406, z406⟩, st406⟩ := X392.virtualBack hx (y := (⟨"com/example/basewright/basewright/Alphabet", "weightedValues", "([J)[J"⟩ : MethodName)) (z := (⟨"com/example/basewright/basewright/Alphabet", "weightedValues", "([J)[J"⟩ : MethodName)) hown (mvT hZ (hw _ (List.mem_of_getElem? (i := 85) rfl))) (mvT hZ (hw _ (List.mem_of_getElem? (i := 86) rfl))) (notFace_of_selects (args := #[]) (mvT hZ (hw _ (List.mem_of_getElem? (i := 88) rfl)))) (mvT hZ (hw _ (List.mem_of_getElem? (i := 88) rfl))) (mvT hZ (hw _ (List.mem_of_getElem? (i := 87) rfl))) (by decide) (backOf (W := 0) (rm29 l Z a0 hw [] bA b332 bz_392 (2 : Int32) kz_392 kc_b332 (own_vf (own_l3 c0 c1 c2) 2) (own_w2 w0 w1) 2 T392.heap n0 Z402 Y392_2 Y392_4 F395 rfl (by decide)) hZ (hw _ (List.mem_of_getElem? (i := 89) rfl)) (hw _ (List.mem_of_getElem? (i := 6) rfl)) (by decide) (by decide)) qa406 qc406 (g := (mkF m 249 #[vI p1, vI p2, vI p3, vJ q4, vS, vJ q5, vS, vI p6, vI nx, vI mx, vI kx, vI px, vI c0, vI off, vI c1, vI dx, vI c2, vJ w0, vS, vJ w1, vS, vR b221, vR b332, vR bA, vU, vU, vU, vU, vU, vU, vU, vU, vU] [(.ref b332), (.ref bA)])) rfl (by rw [hml]; rfl) (Steps.refl _) (argsL := [(.ref b332)]) (rest := []) (lenOf pd_13 rfl) rfl (by show 2 * 0 + _ ≤ _; exact Nat.le_of_eq rfl) (hb hby at_249) (fun _ _ => ⟨rfl, rfl, (by decide : 7 + 1 ≤ _), (by decide : 274 + 512 ≤ _)⟩)
        dsimp only [Pt.U, Pt.locs, Pt.cells, Pt.slots] at X406 l406 y406 z406 st406 hQ406
        subst l406 y406 z406
        obtain ⟨b_406, kp_406, nq_406, rfl, N406q, K406, s406_b, Y406_0, Y406_1⟩ := hQ406
        have F407 : Old Z n0 T406.heap := F393.keep K406 all0
        have F408 : own_Af Z T406.heap b221 kc_b221 .char (2 : Int32) (fun i => Value.int ((own_l3 c0 c1 c2) i)) := F394.keep K406 nin0
        have F409 : own_Af Z T406.heap b332 kc_b332 .long (2 : Int32) (fun i => Value.long ((own_w2 w0 w1) i)) := F395.keep K406 nin0
        have F410 : Exa Z T406.heap bA "com/example/basewright/basewright/Alphabet" := Y392_0.keep K406
        have F411 : Exa Z T406.heap b368 "java/lang/String" := F397.keep K406
        have F412 : Fld Z T406.heap b368 "java/lang/String" "value" "[B" (.ref b_381) := F398.keep K406 nin0
        have F413 : Fld Z T406.heap b368 "java/lang/String" "coder" "B" (.int (0 : Int32)) := F399.keep K406 nin0
        have F414 : own_Af Z T406.heap b_381 kb_381 .byte (2 : Int32) (fun i => Value.int ((own_l3 c0 c1 c2) i)) := F400.keep K406 nin0
        have F415 : Exa Z T406.heap b_381 "[B" := F401.keep K406
        have F416 : Fld Z T406.heap bA "com/example/basewright/basewright/Alphabet" "characters" "[B" (.ref bc_392) := Y392_1.keep K406 nin0
        have F417 : Fld Z T406.heap bA "com/example/basewright/basewright/Alphabet" "values" "[B" (.ref bz_392) := Y392_2.keep K406 nin0
        have F418 : own_Af Z T406.heap bc_392 kb_381 .byte (2 : Int32) (fun i => Value.int ((own_l3 c0 c1 c2) i)) := Y392_3.keep K406 nin0
        have F419 : own_Af Z T406.heap bz_392 kz_392 .byte (256 : Int32) (fun j => Value.int (own_vf (own_l3 c0 c1 c2) 2 j)) := Y392_4.keep K406 nin0
        have Z420 : n0 ≤ T406.heap.size := Nat.le_trans Z402 K406.1
        have K421 : Keep h0 T406.heap [] := K403.trans K406 all0
        have g_b_406 : n0 ≤ b_406 := Nat.le_trans Z402 s406_b
        have sz_b_406 : h0.size ≤ b_406 := Nat.le_trans K403.1 s406_b
        have ne_b221_b_406 : b221 ≠ b_406 := Nat.ne_of_lt (Nat.lt_of_lt_of_le F394.lt s406_b)
        have ne_b332_b_406 : b332 ≠ b_406 := Nat.ne_of_lt (Nat.lt_of_lt_of_le F395.lt s406_b)
        have ne_bA_b_406 : bA ≠ b_406 := Nat.ne_of_lt (Nat.lt_of_lt_of_le Y392_0.lt s406_b)
        have ne_b368_b_406 : b368 ≠ b_406 := Nat.ne_of_lt (Nat.lt_of_lt_of_le F397.lt s406_b)
        have ne_b_381_b_406 : b_381 ≠ b_406 := Nat.ne_of_lt (Nat.lt_of_lt_of_le F400.lt s406_b)
        have ne_bc_392_b_406 : bc_392 ≠ b_406 := Nat.ne_of_lt (Nat.lt_of_lt_of_le Y392_3.lt s406_b)
        have ne_bz_392_b_406 : bz_392 ≠ b_406 := Nat.ne_of_lt (Nat.lt_of_lt_of_le Y392_4.lt s406_b)
        have N406 := Fr.app N392 N406q
        have P422 : ∀ t, Steps p.tables e below (T406.setTop (mkF m 252 #[vI p1, vI p2, vI p3, vJ q4, vS, vJ q5, vS, vI p6, vI nx, vI mx, vI kx, vI px, vI c0, vI off, vI c1, vI dx, vI c2, vJ w0, vS, vJ w1, vS, vR b221, vR b332, vR bA, vU, vU, vU, vU, vU, vU, vU, vU, vU] [(.ref b_406)])) t → Steps p.tables e below (s₁.setTop (entryFrame m #[(.int p1), (.int p2), (.int p3), (.long q4), (.long q5), (.int p6)] maxLocals)) t := fun t k => P405 _ (st406.trans k)
        have P423 : ∀ t, Steps p.tables e below (T406.setTop (mkF m 254 #[vI p1, vI p2, vI p3, vJ q4, vS, vJ q5, vS, vI p6, vI nx, vI mx, vI kx, vI px, vI c0, vI off, vI c1, vI dx, vI c2, vJ w0, vS, vJ w1, vS, vR b221, vR b332, vR bA, vR b_406, vU, vU, vU, vU, vU, vU, vU, vU] [])) t → Steps p.tables e below (s₁.setTop (entryFrame m #[(.int p1), (.int p2), (.int p3), (.long q4), (.long q5), (.int p6)] maxLocals)) t := by
          intro t k
          refine P422 _ ?_
          refine XS.astore X406.here hx rfl (hb hby at_252) rfl rfl (l' := #[vI p1, vI p2, vI p3, vJ q4, vS, vJ q5, vS, vI p6, vI nx, vI mx, vI kx, vI px, vI c0, vI off, vI c1, vI dx, vI c2, vJ w0, vS, vJ w1, vS, vR b221, vR b332, vR bA, vR b_406, vU, vU, vU, vU, vU, vU, vU, vU]) rfl ?_
          show Steps p.tables e below (T406.setTop (mkF m 254 #[vI p1, vI p2, vI p3, vJ q4, vS, vJ q5, vS, vI p6, vI nx, vI mx, vI kx, vI px, vI c0, vI off, vI c1, vI dx, vI c2, vJ w0, vS, vJ w1, vS, vR b221, vR b332, vR bA, vR b_406, vU, vU, vU, vU, vU, vU, vU, vU] [])) _
          exact k
        have hq24 := (own_m8 (mm := 2) Y406_1 rfl (by decide)).1
        have hlen : nq_406 = (mx * (256 : Int32)) := by rw [Y406_1, hmv]; rfl
        obtain ⟨T424, h424, lo424, X424, e424, N424, K424, q424, st424⟩ := tlA (by decide) (by decide) p1 p2 p3 q4 q5 p6 nx mx kx px c0 off c1 dx c2 w0 w1 b221 b332 bA b_406 nq_406 kp_406 2 2 kk X406 hx hZ hw hby hml hown rfl N406 Z420 Y406_0 hq24 hlen hnn (by decide) hkk hkm (by decide) hk1 kc0 kc1 kc2 hne3 kpx kp8 kp9
        have P425 : ∀ t, Steps p.tables e below (T424.setTop (mkF m 423 #[vI p1, vI p2, vI p3, vJ q4, vS, vJ q5, vS, vI p6, vI nx, vI mx, vI kx, vI px, vI c0, vI off, vI c1, vI dx, vI c2, vJ w0, vS, vJ w1, vS, vR b221, vR b332, vR bA, vR b_406, .val (.long (if kx = (0 : Int32) then w0 else w1)), vS, .val (.int (kx <<< ((8 : Int32) &&& 31))), .val (.int (1 : Int32)), vU, vU, vU, vU] [])) t → Steps p.tables e below (s₁.setTop (entryFrame m #[(.int p1), (.int p2), (.int p3), (.long q4), (.long q5), (.int p6)] maxLocals)) t := fun t k => P423 _ (st424 _ k)
        have Z426 : n0 ≤ h424.size := Nat.le_trans Z420 K424.1
        have P427 : ∀ t, Steps p.tables e below (T424.setTop (mkF m 429 #[vI p1, vI p2, vI p3, vJ q4, vS, vJ q5, vS, vI p6, vI nx, vI mx, vI kx, vI px, vI c0, vI off, vI c1, vI dx, vI c2, vJ w0, vS, vJ w1, vS, vR b221, vR b332, vR bA, vR b_406, .val (.long (if kx = (0 : Int32) then w0 else w1)), vS, .val (.int (kx <<< ((8 : Int32) &&& 31))), .val (.int (1 : Int32)), vU, vU, vU, vU] [])) t → Steps p.tables e below (s₁.setTop (entryFrame m #[(.int p1), (.int p2), (.int p3), (.long q4), (.long q5), (.int p6)] maxLocals)) t := by
          intro t k
          refine P425 _ ?_
          refine XS.iload X424.here hx rfl (hb hby at_423) rfl ?_
          show Steps p.tables e below (T424.setTop (mkF m 425 #[vI p1, vI p2, vI p3, vJ q4, vS, vJ q5, vS, vI p6, vI nx, vI mx, vI kx, vI px, vI c0, vI off, vI c1, vI dx, vI c2, vJ w0, vS, vJ w1, vS, vR b221, vR b332, vR bA, vR b_406, .val (.long (if kx = (0 : Int32) then w0 else w1)), vS, .val (.int (kx <<< ((8 : Int32) &&& 31))), .val (.int (1 : Int32)), vU, vU, vU, vU] [(.int mx)])) _
          refine XS.iconst X424.here hx rfl (hb hby at_425) ?_
          show Steps p.tables e below (T424.setTop (mkF m 426 #[vI p1, vI p2, vI p3, vJ q4, vS, vJ q5, vS, vI p6, vI nx, vI mx, vI kx, vI px, vI c0, vI off, vI c1, vI dx, vI c2, vJ w0, vS, vJ w1, vS, vR b221, vR b332, vR bA, vR b_406, .val (.long (if kx = (0 : Int32) then w0 else w1)), vS, .val (.int (kx <<< ((8 : Int32) &&& 31))), .val (.int (1 : Int32)), vU, vU, vU, vU] [(.int (2 : Int32)), (.int mx)])) _
          refine XS.icmpNo X424.here hx rfl (hb hby at_426) rfl (XT.ii_ne_f hmv) ?_
          show Steps p.tables e below (T424.setTop (mkF m 429 #[vI p1, vI p2, vI p3, vJ q4, vS, vJ q5, vS, vI p6, vI nx, vI mx, vI kx, vI px, vI c0, vI off, vI c1, vI dx, vI c2, vJ w0, vS, vJ w1, vS, vR b221, vR b332, vR bA, vR b_406, .val (.long (if kx = (0 : Int32) then w0 else w1)), vS, .val (.int (kx <<< ((8 : Int32) &&& 31))), .val (.int (1 : Int32)), vU, vU, vU, vU] [])) _
          exact k
        obtain ⟨T428, h428, lo428, X428, e428, N428, K428, q428, st428⟩ := tlB (by decide) (by decide) p1 p2 p3 q4 q5 p6 nx mx kx px c0 off c1 dx c2 w0 w1 b221 b332 bA b_406 nq_406 kp_406 2 2 kk X424 hx hZ hw hby hml hown e424 N424 Z426 q424 hq24 hlen hnn (by decide) hkk hkm (by decide) hk1 kc0 kc1 kc2 hne3 kpx kp8 kp9 rfl
        have P429 : ∀ t, Steps p.tables e below (T428.setTop (mkF m 576 #[vI p1, vI p2, vI p3, vJ q4, vS, vJ q5, vS, vI p6, vI nx, vI mx, vI kx, vI px, vI c0, vI off, vI c1, vI dx, vI c2, vJ w0, vS, vJ w1, vS, vR b221, vR b332, vR bA, vR b_406, .val (.long (if kx = (0 : Int32) then w0 else w1)), vS, .val (.int (kx <<< ((8 : Int32) &&& 31))), .val (.int (1 : Int32)), .val (.int ((1 : Int32) - kx)), .val (.long (if ((1 : Int32) - kx) = (0 : Int32) then w0 else w1)), vS, .val (.int (((1 : Int32) - kx) <<< ((8 : Int32) &&& 31)))] [])) t → Steps p.tables e below (s₁.setTop (entryFrame m #[(.int p1), (.int p2), (.int p3), (.long q4), (.long q5), (.int p6)] maxLocals)) t := fun t k => P427 _ (st428 _ k)
        have Z430 : n0 ≤ h428.size := Nat.le_trans Z426 K428.1
        have P431 : ∀ t, Steps p.tables e below (T428.setTop (mkF m 578 #[vI p1, vI p2, vI p3, vJ q4, vS, vJ q5, vS, vI p6, vI nx, vI mx, vI kx, vI px, vI c0, vI off, vI c1, vI dx, vI c2, vJ w0, vS, vJ w1, vS, vR b221, vR b332, vR bA, vR b_406, .val (.long (if kx = (0 : Int32) then w0 else w1)), vS, .val (.int (kx <<< ((8 : Int32) &&& 31))), .val (.int (1 : Int32)), .val (.int ((1 : Int32) - kx)), .val (.long (if ((1 : Int32) - kx) = (0 : Int32) then w0 else w1)), vS, .val (.int (((1 : Int32) - kx) <<< ((8 : Int32) &&& 31)))] [(.int (1 : Int32))])) t → Steps p.tables e below (s₁.setTop (entryFrame m #[(.int p1), (.int p2), (.int p3), (.long q4), (.long q5), (.int p6)] maxLocals)) t := by
          intro t k
          refine P429 _ ?_
          refine XS.iload X428.here hx rfl (hb hby at_576) rfl ?_
          show Steps p.tables e below (T428.setTop (mkF m 578 #[vI p1, vI p2, vI p3, vJ q4, vS, vJ q5, vS, vI p6, vI nx, vI mx, vI kx, vI px, vI c0, vI off, vI c1, vI dx, vI c2, vJ w0, vS, vJ w1, vS, vR b221, vR b332, vR bA, vR b_406, .val (.long (if kx = (0 : Int32) then w0 else w1)), vS, .val (.int (kx <<< ((8 : Int32) &&& 31))), .val (.int (1 : Int32)), .val (.int ((1 : Int32) - kx)), .val (.long (if ((1 : Int32) - kx) = (0 : Int32) then w0 else w1)), vS, .val (.int (((1 : Int32) - kx) <<< ((8 : Int32) &&& 31)))] [(.int (1 : Int32))])) _
          exact k
        obtain ⟨fs, hr, hrun, hended, hW, hsame⟩ := X428.leave (v := some (.int (1 : Int32))) (fun h => by rw [Bd.returns] at h; cases h)
        refine ⟨_, _, P431 _ ?_, hrun, hended, _, _, rfl, ?_, ⟨_, rfl⟩, hW, hsame.mono (by decide) (by decide)⟩
        · exact retN X428 hx (t := .boolean) Bd.returns (by simp) (hb hby at_578) hr
        · show Q0 Z p1 p2 p3 q4 q5 p6 ccs wA wU wI h0 n0 _ T428.heap _
          rw [e428]
          exact ⟨rfl, N428⟩
    · have P432 : ∀ t, Steps p.tables e below (s₁.setTop (mkF m 173 #[vI p1, vI p2, vI p3, vJ q4, vS, vJ q5, vS, vI p6, vI nx, vI mx, vI kx, vI px, vI c0, vI off, vI c1, vI dx, vI c2, vJ w0, vS, vJ w1, vS, vU, vU, vU, vU, vU, vU, vU, vU, vU, vU, vU, vU] [(.int (3 : Int32))])) t → Steps p.tables e below (s₁.setTop (entryFrame m #[(.int p1), (.int p2), (.int p3), (.long q4), (.long q5), (.int p6)] maxLocals)) t := by
        intro t k
        refine P219 _ ?_
        refine XS.icmpYes X0.here hx rfl (pc0 := 149) (pc' := 172) rfl (hb hby at_149) rfl (XT.ii_ne_t c149) (by decide) (by decide) ?_
        show Steps p.tables e below (s₁.setTop (mkF m 172 #[vI p1, vI p2, vI p3, vJ q4, vS, vJ q5, vS, vI p6, vI nx, vI mx, vI kx, vI px, vI c0, vI off, vI c1, vI dx, vI c2, vJ w0, vS, vJ w1, vS, vU, vU, vU, vU, vU, vU, vU, vU, vU, vU, vU, vU] [])) _
        refine XS.iconst X0.here hx rfl (hb hby at_172) ?_
        show Steps p.tables e below (s₁.setTop (mkF m 173 #[vI p1, vI p2, vI p3, vJ q4, vS, vJ q5, vS, vI p6, vI nx, vI mx, vI kx, vI px, vI c0, vI off, vI c1, vI dx, vI c2, vJ w0, vS, vJ w1, vS, vU, vU, vU, vU, vU, vU, vU, vU, vU, vU, vU, vU] [(.int (3 : Int32))])) _
        exact k
      obtain ⟨T433, h433, k433, X433, e433, E433, A433, st433⟩ := newP X0 hx hZ (hw _ (List.mem_of_getElem? (i := 2) rfl)) e0 (g := (mkF m 173 #[vI p1, vI p2, vI p3, vJ q4, vS, vJ q5, vS, vI p6, vI nx, vI mx, vI kx, vI px, vI c0, vI off, vI c1, vI dx, vI c2, vJ w0, vS, vJ w1, vS, vU, vU, vU, vU, vU, vU, vU, vU, vU, vU, vU, vU] [(.int (3 : Int32))])) rfl (hb hby at_173) rfl (by decide) (cap := 3) (by decide) (by decide) (by decide) (by decide)
      obtain ⟨b433, g433⟩ : ∃ z, z = h0.size := ⟨_, rfl⟩
      rw [← g433] at A433 st433
      have F434 : Old Z n0 h433 := O0.ext E433
      obtain ⟨kc_b433, hkc_b433⟩ : ∃ z, z = k433 := ⟨_, rfl⟩
      rw [← hkc_b433] at A433
      have F435 : Arv Z h433 b433 kc_b433 .char (3 : Int32) [(.int (0 : Int32)), (.int (0 : Int32)), (.int (0 : Int32))] (.int (0 : Int32)) := (Arv.new A433 (by decide)).pad (pad_rep [] (.int (0 : Int32)) 3)
      have Z436 : n0 ≤ h433.size := Nat.le_trans Z0 E433.1
      have K437 : Keep h0 h433 [] := K0.ext E433
      have g_b433 : n0 ≤ b433 := Nat.le_trans Z0 (Nat.le_of_eq g433.symm)
      have sz_b433 : h0.size ≤ b433 := Nat.le_trans K0.1 (Nat.le_of_eq g433.symm)
      have P438 : ∀ t, Steps p.tables e below (T433.setTop (mkF m 175 #[vI p1, vI p2, vI p3, vJ q4, vS, vJ q5, vS, vI p6, vI nx, vI mx, vI kx, vI px, vI c0, vI off, vI c1, vI dx, vI c2, vJ w0, vS, vJ w1, vS, vU, vU, vU, vU, vU, vU, vU, vU, vU, vU, vU, vU] [(.ref b433)])) t → Steps p.tables e below (s₁.setTop (entryFrame m #[(.int p1), (.int p2), (.int p3), (.long q4), (.long q5), (.int p6)] maxLocals)) t := fun t k => P432 _ (st433 _ k)
      have P439 : ∀ t, Steps p.tables e below (T433.setTop (mkF m 180 #[vI p1, vI p2, vI p3, vJ q4, vS, vJ q5, vS, vI p6, vI nx, vI mx, vI kx, vI px, vI c0, vI off, vI c1, vI dx, vI c2, vJ w0, vS, vJ w1, vS, vU, vU, vU, vU, vU, vU, vU, vU, vU, vU, vU, vU] [(.int (c0.toUInt32.toUInt16.toUInt32.toInt32)), (.int (0 : Int32)), (.ref b433), (.ref b433)])) t → Steps p.tables e below (s₁.setTop (entryFrame m #[(.int p1), (.int p2), (.int p3), (.long q4), (.long q5), (.int p6)] maxLocals)) t := by
        intro t k
        refine P438 _ ?_
        refine XS.dup X433.here hx rfl (hb hby at_175) rfl rfl ?_
        show Steps p.tables e below (T433.setTop (mkF m 176 #[vI p1, vI p2, vI p3, vJ q4, vS, vJ q5, vS, vI p6, vI nx, vI mx, vI kx, vI px, vI c0, vI off, vI c1, vI dx, vI c2, vJ w0, vS, vJ w1, vS, vU, vU, vU, vU, vU, vU, vU, vU, vU, vU, vU, vU] [(.ref b433), (.ref b433)])) _
        refine XS.iconst X433.here hx rfl (hb hby at_176) ?_
        show Steps p.tables e below (T433.setTop (mkF m 177 #[vI p1, vI p2, vI p3, vJ q4, vS, vJ q5, vS, vI p6, vI nx, vI mx, vI kx, vI px, vI c0, vI off, vI c1, vI dx, vI c2, vJ w0, vS, vJ w1, vS, vU, vU, vU, vU, vU, vU, vU, vU, vU, vU, vU, vU] [(.int (0 : Int32)), (.ref b433), (.ref b433)])) _
        refine XS.iload X433.here hx rfl (hb hby at_177) rfl ?_
        show Steps p.tables e below (T433.setTop (mkF m 179 #[vI p1, vI p2, vI p3, vJ q4, vS, vJ q5, vS, vI p6, vI nx, vI mx, vI kx, vI px, vI c0, vI off, vI c1, vI dx, vI c2, vJ w0, vS, vJ w1, vS, vU, vU, vU, vU, vU, vU, vU, vU, vU, vU, vU, vU] [(.int c0), (.int (0 : Int32)), (.ref b433), (.ref b433)])) _
        refine XT.i2c X433.here hx rfl (hb hby at_179) rfl ?_
        show Steps p.tables e below (T433.setTop (mkF m 180 #[vI p1, vI p2, vI p3, vJ q4, vS, vJ q5, vS, vI p6, vI nx, vI mx, vI kx, vI px, vI c0, vI off, vI c1, vI dx, vI c2, vJ w0, vS, vJ w1, vS, vU, vU, vU, vU, vU, vU, vU, vU, vU, vU, vU, vU] [(.int (c0.toUInt32.toUInt16.toUInt32.toInt32)), (.int (0 : Int32)), (.ref b433), (.ref b433)])) _
        exact k
      obtain ⟨cl440, Ar440, q440, S440, M440, H440, G440⟩ := F435
      have in440 : ¬ ((0 : Int32) < 0 ∨ cl440.slots.size ≤ ((0 : Int32)).toNatClampNeg) := inb_of S440 ⟨by decide, by decide⟩
      obtain ⟨T440, h440, X440, e440, W440, st440⟩ := stC X433 hx hZ e433 Ar440 (j := (0 : Int32)) in440 (g := (mkF m 180 #[vI p1, vI p2, vI p3, vJ q4, vS, vJ q5, vS, vI p6, vI nx, vI mx, vI kx, vI px, vI c0, vI off, vI c1, vI dx, vI c2, vJ w0, vS, vJ w1, vS, vU, vU, vU, vU, vU, vU, vU, vU, vU, vU, vU, vU] [(.int (c0.toUInt32.toUInt16.toUInt32.toInt32)), (.int (0 : Int32)), (.ref b433), (.ref b433)])) rfl rfl (hb hby at_180)
      rw [own_c2c kc0] at W440
      have F441 : Old Z n0 h440 := F434.wr W440 g_b433
      have F442 : Arv Z h440 b433 kc_b433 .char (3 : Int32) [(.int c0), (.int (0 : Int32)), (.int (0 : Int32))] (.int (0 : Int32)) := Arv.set Ar440 q440 S440 M440 H440 G440 (by have q := fits_nar_char (c0.toUInt32.toUInt16.toUInt32.toInt32); first | exact own_c2c kc0 ▸ q | (rw [own_c2c kc0] at q; exact q) | (simp only [nar] at q; exact q)) W440 0 rfl (Nat.le_of_ble_eq_true rfl)
      have Z443 : n0 ≤ h440.size := Nat.le_trans Z436 (Keep.of_wr W440).1
      have K444 : Keep h0 h440 [] := K437.wr W440 (Or.inr sz_b433)
      have N440 := Fr.snoc X440 N0 g_b433
      have P445 : ∀ t, Steps p.tables e below (T440.setTop (mkF m 181 #[vI p1, vI p2, vI p3, vJ q4, vS, vJ q5, vS, vI p6, vI nx, vI mx, vI kx, vI px, vI c0, vI off, vI c1, vI dx, vI c2, vJ w0, vS, vJ w1, vS, vU, vU, vU, vU, vU, vU, vU, vU, vU, vU, vU, vU] [(.ref b433)])) t → Steps p.tables e below (s₁.setTop (entryFrame m #[(.int p1), (.int p2), (.int p3), (.long q4), (.long q5), (.int p6)] maxLocals)) t := fun t k => P439 _ (st440 _ k)
      have P446 : ∀ t, Steps p.tables e below (T440.setTop (mkF m 186 #[vI p1, vI p2, vI p3, vJ q4, vS, vJ q5, vS, vI p6, vI nx, vI mx, vI kx, vI px, vI c0, vI off, vI c1, vI dx, vI c2, vJ w0, vS, vJ w1, vS, vU, vU, vU, vU, vU, vU, vU, vU, vU, vU, vU, vU] [(.int (c1.toUInt32.toUInt16.toUInt32.toInt32)), (.int (1 : Int32)), (.ref b433), (.ref b433)])) t → Steps p.tables e below (s₁.setTop (entryFrame m #[(.int p1), (.int p2), (.int p3), (.long q4), (.long q5), (.int p6)] maxLocals)) t := by
        intro t k
        refine P445 _ ?_
        refine XS.dup X440.here hx rfl (hb hby at_181) rfl rfl ?_
        show Steps p.tables e below (T440.setTop (mkF m 182 #[vI p1, vI p2, vI p3, vJ q4, vS, vJ q5, vS, vI p6, vI nx, vI mx, vI kx, vI px, vI c0, vI off, vI c1, vI dx, vI c2, vJ w0, vS, vJ w1, vS, vU, vU, vU, vU, vU, vU, vU, vU, vU, vU, vU, vU] [(.ref b433), (.ref b433)])) _
        refine XS.iconst X440.here hx rfl (hb hby at_182) ?_
        show Steps p.tables e below (T440.setTop (mkF m 183 #[vI p1, vI p2, vI p3, vJ q4, vS, vJ q5, vS, vI p6, vI nx, vI mx, vI kx, vI px, vI c0, vI off, vI c1, vI dx, vI c2, vJ w0, vS, vJ w1, vS, vU, vU, vU, vU, vU, vU, vU, vU, vU, vU, vU, vU] [(.int (1 : Int32)), (.ref b433), (.ref b433)])) _
        refine XS.iload X440.here hx rfl (hb hby at_183) rfl ?_
        show Steps p.tables e below (T440.setTop (mkF m 185 #[vI p1, vI p2, vI p3, vJ q4, vS, vJ q5, vS, vI p6, vI nx, vI mx, vI kx, vI px, vI c0, vI off, vI c1, vI dx, vI c2, vJ w0, vS, vJ w1, vS, vU, vU, vU, vU, vU, vU, vU, vU, vU, vU, vU, vU] [(.int c1), (.int (1 : Int32)), (.ref b433), (.ref b433)])) _
        refine XT.i2c X440.here hx rfl (hb hby at_185) rfl ?_
        show Steps p.tables e below (T440.setTop (mkF m 186 #[vI p1, vI p2, vI p3, vJ q4, vS, vJ q5, vS, vI p6, vI nx, vI mx, vI kx, vI px, vI c0, vI off, vI c1, vI dx, vI c2, vJ w0, vS, vJ w1, vS, vU, vU, vU, vU, vU, vU, vU, vU, vU, vU, vU, vU] [(.int (c1.toUInt32.toUInt16.toUInt32.toInt32)), (.int (1 : Int32)), (.ref b433), (.ref b433)])) _
        exact k
      obtain ⟨cl447, Ar447, q447, S447, M447, H447, G447⟩ := F442
      have in447 : ¬ ((1 : Int32) < 0 ∨ cl447.slots.size ≤ ((1 : Int32)).toNatClampNeg) := inb_of S447 ⟨by decide, by decide⟩
      obtain ⟨T447, h447, X447, e447, W447, st447⟩ := stC X440 hx hZ e440 Ar447 (j := (1 : Int32)) in447 (g := (mkF m 186 #[vI p1, vI p2, vI p3, vJ q4, vS, vJ q5, vS, vI p6, vI nx, vI mx, vI kx, vI px, vI c0, vI off, vI c1, vI dx, vI c2, vJ w0, vS, vJ w1, vS, vU, vU, vU, vU, vU, vU, vU, vU, vU, vU, vU, vU] [(.int (c1.toUInt32.toUInt16.toUInt32.toInt32)), (.int (1 : Int32)), (.ref b433), (.ref b433)])) rfl rfl (hb hby at_186)
      rw [own_c2c kc1] at W447
      have F448 : Old Z n0 h447 := F441.wr W447 g_b433
      have F449 : Arv Z h447 b433 kc_b433 .char (3 : Int32) [(.int c0), (.int c1), (.int (0 : Int32))] (.int (0 : Int32)) := Arv.set Ar447 q447 S447 M447 H447 G447 (by have q := fits_nar_char (c1.toUInt32.toUInt16.toUInt32.toInt32); first | exact own_c2c kc1 ▸ q | (rw [own_c2c kc1] at q; exact q) | (simp only [nar] at q; exact q)) W447 1 rfl (Nat.le_of_ble_eq_true rfl)
      have Z450 : n0 ≤ h447.size := Nat.le_trans Z443 (Keep.of_wr W447).1
      have K451 : Keep h0 h447 [] := K444.wr W447 (Or.inr sz_b433)
      have N447 := Fr.snoc X447 N440 g_b433
      have P452 : ∀ t, Steps p.tables e below (T447.setTop (mkF m 187 #[vI p1, vI p2, vI p3, vJ q4, vS, vJ q5, vS, vI p6, vI nx, vI mx, vI kx, vI px, vI c0, vI off, vI c1, vI dx, vI c2, vJ w0, vS, vJ w1, vS, vU, vU, vU, vU, vU, vU, vU, vU, vU, vU, vU, vU] [(.ref b433)])) t → Steps p.tables e below (s₁.setTop (entryFrame m #[(.int p1), (.int p2), (.int p3), (.long q4), (.long q5), (.int p6)] maxLocals)) t := fun t k => P446 _ (st447 _ k)
      have P453 : ∀ t, Steps p.tables e below (T447.setTop (mkF m 192 #[vI p1, vI p2, vI p3, vJ q4, vS, vJ q5, vS, vI p6, vI nx, vI mx, vI kx, vI px, vI c0, vI off, vI c1, vI dx, vI c2, vJ w0, vS, vJ w1, vS, vU, vU, vU, vU, vU, vU, vU, vU, vU, vU, vU, vU] [(.int (c2.toUInt32.toUInt16.toUInt32.toInt32)), (.int (2 : Int32)), (.ref b433), (.ref b433)])) t → Steps p.tables e below (s₁.setTop (entryFrame m #[(.int p1), (.int p2), (.int p3), (.long q4), (.long q5), (.int p6)] maxLocals)) t := by
        intro t k
        refine P452 _ ?_
        refine XS.dup X447.here hx rfl (hb hby at_187) rfl rfl ?_
        show Steps p.tables e below (T447.setTop (mkF m 188 #[vI p1, vI p2, vI p3, vJ q4, vS, vJ q5, vS, vI p6, vI nx, vI mx, vI kx, vI px, vI c0, vI off, vI c1, vI dx, vI c2, vJ w0, vS, vJ w1, vS, vU, vU, vU, vU, vU, vU, vU, vU, vU, vU, vU, vU] [(.ref b433), (.ref b433)])) _
        refine XS.iconst X447.here hx rfl (hb hby at_188) ?_
        show Steps p.tables e below (T447.setTop (mkF m 189 #[vI p1, vI p2, vI p3, vJ q4, vS, vJ q5, vS, vI p6, vI nx, vI mx, vI kx, vI px, vI c0, vI off, vI c1, vI dx, vI c2, vJ w0, vS, vJ w1, vS, vU, vU, vU, vU, vU, vU, vU, vU, vU, vU, vU, vU] [(.int (2 : Int32)), (.ref b433), (.ref b433)])) _
        refine XS.iload X447.here hx rfl (hb hby at_189) rfl ?_
        show Steps p.tables e below (T447.setTop (mkF m 191 #[vI p1, vI p2, vI p3, vJ q4, vS, vJ q5, vS, vI p6, vI nx, vI mx, vI kx, vI px, vI c0, vI off, vI c1, vI dx, vI c2, vJ w0, vS, vJ w1, vS, vU, vU, vU, vU, vU, vU, vU, vU, vU, vU, vU, vU] [(.int c2), (.int (2 : Int32)), (.ref b433), (.ref b433)])) _
        refine XT.i2c X447.here hx rfl (hb hby at_191) rfl ?_
        show Steps p.tables e below (T447.setTop (mkF m 192 #[vI p1, vI p2, vI p3, vJ q4, vS, vJ q5, vS, vI p6, vI nx, vI mx, vI kx, vI px, vI c0, vI off, vI c1, vI dx, vI c2, vJ w0, vS, vJ w1, vS, vU, vU, vU, vU, vU, vU, vU, vU, vU, vU, vU, vU] [(.int (c2.toUInt32.toUInt16.toUInt32.toInt32)), (.int (2 : Int32)), (.ref b433), (.ref b433)])) _
        exact k
      obtain ⟨cl454, Ar454, q454, S454, M454, H454, G454⟩ := F449
      have in454 : ¬ ((2 : Int32) < 0 ∨ cl454.slots.size ≤ ((2 : Int32)).toNatClampNeg) := inb_of S454 ⟨by decide, by decide⟩
      obtain ⟨T454, h454, X454, e454, W454, st454⟩ := stC X447 hx hZ e447 Ar454 (j := (2 : Int32)) in454 (g := (mkF m 192 #[vI p1, vI p2, vI p3, vJ q4, vS, vJ q5, vS, vI p6, vI nx, vI mx, vI kx, vI px, vI c0, vI off, vI c1, vI dx, vI c2, vJ w0, vS, vJ w1, vS, vU, vU, vU, vU, vU, vU, vU, vU, vU, vU, vU, vU] [(.int (c2.toUInt32.toUInt16.toUInt32.toInt32)), (.int (2 : Int32)), (.ref b433), (.ref b433)])) rfl rfl (hb hby at_192)
      rw [own_c2c kc2] at W454
      have F455 : Old Z n0 h454 := F448.wr W454 g_b433
      have F456 : Arv Z h454 b433 kc_b433 .char (3 : Int32) [(.int c0), (.int c1), (.int c2)] (.int (0 : Int32)) := Arv.set Ar454 q454 S454 M454 H454 G454 (by have q := fits_nar_char (c2.toUInt32.toUInt16.toUInt32.toInt32); first | exact own_c2c kc2 ▸ q | (rw [own_c2c kc2] at q; exact q) | (simp only [nar] at q; exact q)) W454 2 rfl (Nat.le_of_ble_eq_true rfl)
      have Z457 : n0 ≤ h454.size := Nat.le_trans Z450 (Keep.of_wr W454).1
      have K458 : Keep h0 h454 [] := K451.wr W454 (Or.inr sz_b433)
      have N454 := Fr.snoc X454 N447 g_b433
      have P459 : ∀ t, Steps p.tables e below (T454.setTop (mkF m 193 #[vI p1, vI p2, vI p3, vJ q4, vS, vJ q5, vS, vI p6, vI nx, vI mx, vI kx, vI px, vI c0, vI off, vI c1, vI dx, vI c2, vJ w0, vS, vJ w1, vS, vU, vU, vU, vU, vU, vU, vU, vU, vU, vU, vU, vU] [(.ref b433)])) t → Steps p.tables e below (s₁.setTop (entryFrame m #[(.int p1), (.int p2), (.int p3), (.long q4), (.long q5), (.int p6)] maxLocals)) t := fun t k => P453 _ (st454 _ k)
      have P460 : ∀ t, Steps p.tables e below (T454.setTop (mkF m 198 #[vI p1, vI p2, vI p3, vJ q4, vS, vJ q5, vS, vI p6, vI nx, vI mx, vI kx, vI px, vI c0, vI off, vI c1, vI dx, vI c2, vJ w0, vS, vJ w1, vS, vR b433, vU, vU, vU, vU, vU, vU, vU, vU, vU, vU, vU] [(.int (1 : Int32)), (.int mx)])) t → Steps p.tables e below (s₁.setTop (entryFrame m #[(.int p1), (.int p2), (.int p3), (.long q4), (.long q5), (.int p6)] maxLocals)) t := by
        intro t k
        refine P459 _ ?_
        refine XS.astore X454.here hx rfl (hb hby at_193) rfl rfl (l' := #[vI p1, vI p2, vI p3, vJ q4, vS, vJ q5, vS, vI p6, vI nx, vI mx, vI kx, vI px, vI c0, vI off, vI c1, vI dx, vI c2, vJ w0, vS, vJ w1, vS, vR b433, vU, vU, vU, vU, vU, vU, vU, vU, vU, vU, vU]) rfl ?_
        show Steps p.tables e below (T454.setTop (mkF m 195 #[vI p1, vI p2, vI p3, vJ q4, vS, vJ q5, vS, vI p6, vI nx, vI mx, vI kx, vI px, vI c0, vI off, vI c1, vI dx, vI c2, vJ w0, vS, vJ w1, vS, vR b433, vU, vU, vU, vU, vU, vU, vU, vU, vU, vU, vU] [])) _
        refine XS.iload X454.here hx rfl (hb hby at_195) rfl ?_
        show Steps p.tables e below (T454.setTop (mkF m 197 #[vI p1, vI p2, vI p3, vJ q4, vS, vJ q5, vS, vI p6, vI nx, vI mx, vI kx, vI px, vI c0, vI off, vI c1, vI dx, vI c2, vJ w0, vS, vJ w1, vS, vR b433, vU, vU, vU, vU, vU, vU, vU, vU, vU, vU, vU] [(.int mx)])) _
        refine XS.iconst X454.here hx rfl (hb hby at_197) ?_
        show Steps p.tables e below (T454.setTop (mkF m 198 #[vI p1, vI p2, vI p3, vJ q4, vS, vJ q5, vS, vI p6, vI nx, vI mx, vI kx, vI px, vI c0, vI off, vI c1, vI dx, vI c2, vJ w0, vS, vJ w1, vS, vR b433, vU, vU, vU, vU, vU, vU, vU, vU, vU, vU, vU] [(.int (1 : Int32)), (.int mx)])) _
        exact k
      by_cases c198 : mx = (1 : Int32)
      · have P461 : ∀ t, Steps p.tables e below (T454.setTop (mkF m 202 #[vI p1, vI p2, vI p3, vJ q4, vS, vJ q5, vS, vI p6, vI nx, vI mx, vI kx, vI px, vI c0, vI off, vI c1, vI dx, vI c2, vJ w0, vS, vJ w1, vS, vR b433, vU, vU, vU, vU, vU, vU, vU, vU, vU, vU, vU] [(.int (1 : Int32))])) t → Steps p.tables e below (s₁.setTop (entryFrame m #[(.int p1), (.int p2), (.int p3), (.long q4), (.long q5), (.int p6)] maxLocals)) t := by
          intro t k
          refine P460 _ ?_
          refine XS.icmpNo X454.here hx rfl (hb hby at_198) rfl (XT.ii_ne_f c198) ?_
          show Steps p.tables e below (T454.setTop (mkF m 201 #[vI p1, vI p2, vI p3, vJ q4, vS, vJ q5, vS, vI p6, vI nx, vI mx, vI kx, vI px, vI c0, vI off, vI c1, vI dx, vI c2, vJ w0, vS, vJ w1, vS, vR b433, vU, vU, vU, vU, vU, vU, vU, vU, vU, vU, vU] [])) _
          refine XS.iconst X454.here hx rfl (hb hby at_201) ?_
          show Steps p.tables e below (T454.setTop (mkF m 202 #[vI p1, vI p2, vI p3, vJ q4, vS, vJ q5, vS, vI p6, vI nx, vI mx, vI kx, vI px, vI c0, vI off, vI c1, vI dx, vI c2, vJ w0, vS, vJ w1, vS, vR b433, vU, vU, vU, vU, vU, vU, vU, vU, vU, vU, vU] [(.int (1 : Int32))])) _
          exact k
        obtain ⟨T462, h462, k462, X462, e462, E462, A462, st462⟩ := newP X454 hx hZ (hw _ (List.mem_of_getElem? (i := 3) rfl)) e454 (g := (mkF m 202 #[vI p1, vI p2, vI p3, vJ q4, vS, vJ q5, vS, vI p6, vI nx, vI mx, vI kx, vI px, vI c0, vI off, vI c1, vI dx, vI c2, vJ w0, vS, vJ w1, vS, vR b433, vU, vU, vU, vU, vU, vU, vU, vU, vU, vU, vU] [(.int (1 : Int32))])) rfl (hb hby at_202) rfl (by decide) (cap := 1) (by decide) (by decide) (by decide) (by decide)
        obtain ⟨b462, g462⟩ : ∃ z, z = h454.size := ⟨_, rfl⟩
        rw [← g462] at A462 st462
        have F463 : Old Z n0 h462 := F455.ext E462
        have F464 : Arv Z h462 b433 kc_b433 .char (3 : Int32) [(.int c0), (.int c1), (.int c2)] (.int (0 : Int32)) := F456.ext E462
        obtain ⟨kc_b462, hkc_b462⟩ : ∃ z, z = k462 := ⟨_, rfl⟩
        rw [← hkc_b462] at A462
        have F465 : Arv Z h462 b462 kc_b462 .long (1 : Int32) [(.long (0 : Int64))] (.long (0 : Int64)) := (Arv.new A462 (by decide)).pad (pad_rep [] (.long (0 : Int64)) 1)
        have Z466 : n0 ≤ h462.size := Nat.le_trans Z457 E462.1
        have K467 : Keep h0 h462 [] := K458.ext E462
        have g_b462 : n0 ≤ b462 := Nat.le_trans Z457 (Nat.le_of_eq g462.symm)
        have sz_b462 : h0.size ≤ b462 := Nat.le_trans K458.1 (Nat.le_of_eq g462.symm)
        have ne_b433_b462 : b433 ≠ b462 := Nat.ne_of_lt (Nat.lt_of_lt_of_le F456.lt (Nat.le_of_eq g462.symm))
        have P468 : ∀ t, Steps p.tables e below (T462.setTop (mkF m 204 #[vI p1, vI p2, vI p3, vJ q4, vS, vJ q5, vS, vI p6, vI nx, vI mx, vI kx, vI px, vI c0, vI off, vI c1, vI dx, vI c2, vJ w0, vS, vJ w1, vS, vR b433, vU, vU, vU, vU, vU, vU, vU, vU, vU, vU, vU] [(.ref b462)])) t → Steps p.tables e below (s₁.setTop (entryFrame m #[(.int p1), (.int p2), (.int p3), (.long q4), (.long q5), (.int p6)] maxLocals)) t := fun t k => P461 _ (st462 _ k)
        have P469 : ∀ t, Steps p.tables e below (T462.setTop (mkF m 208 #[vI p1, vI p2, vI p3, vJ q4, vS, vJ q5, vS, vI p6, vI nx, vI mx, vI kx, vI px, vI c0, vI off, vI c1, vI dx, vI c2, vJ w0, vS, vJ w1, vS, vR b433, vU, vU, vU, vU, vU, vU, vU, vU, vU, vU, vU] [(.long w0), (.int (0 : Int32)), (.ref b462), (.ref b462)])) t → Steps p.tables e below (s₁.setTop (entryFrame m #[(.int p1), (.int p2), (.int p3), (.long q4), (.long q5), (.int p6)] maxLocals)) t := by
          intro t k
          refine P468 _ ?_
          refine XS.dup X462.here hx rfl (hb hby at_204) rfl rfl ?_
          show Steps p.tables e below (T462.setTop (mkF m 205 #[vI p1, vI p2, vI p3, vJ q4, vS, vJ q5, vS, vI p6, vI nx, vI mx, vI kx, vI px, vI c0, vI off, vI c1, vI dx, vI c2, vJ w0, vS, vJ w1, vS, vR b433, vU, vU, vU, vU, vU, vU, vU, vU, vU, vU, vU] [(.ref b462), (.ref b462)])) _
          refine XS.iconst X462.here hx rfl (hb hby at_205) ?_
          show Steps p.tables e below (T462.setTop (mkF m 206 #[vI p1, vI p2, vI p3, vJ q4, vS, vJ q5, vS, vI p6, vI nx, vI mx, vI kx, vI px, vI c0, vI off, vI c1, vI dx, vI c2, vJ w0, vS, vJ w1, vS, vR b433, vU, vU, vU, vU, vU, vU, vU, vU, vU, vU, vU] [(.int (0 : Int32)), (.ref b462), (.ref b462)])) _
          refine XT.lload X462.here hx rfl (hb hby at_206) rfl ?_
          show Steps p.tables e below (T462.setTop (mkF m 208 #[vI p1, vI p2, vI p3, vJ q4, vS, vJ q5, vS, vI p6, vI nx, vI mx, vI kx, vI px, vI c0, vI off, vI c1, vI dx, vI c2, vJ w0, vS, vJ w1, vS, vR b433, vU, vU, vU, vU, vU, vU, vU, vU, vU, vU, vU] [(.long w0), (.int (0 : Int32)), (.ref b462), (.ref b462)])) _
          exact k
        obtain ⟨cl470, Ar470, q470, S470, M470, H470, G470⟩ := F465
        have in470 : ¬ ((0 : Int32) < 0 ∨ cl470.slots.size ≤ ((0 : Int32)).toNatClampNeg) := inb_of S470 ⟨by decide, by decide⟩
        obtain ⟨T470, h470, X470, e470, W470, st470⟩ := stJ X462 hx hZ e462 Ar470 (j := (0 : Int32)) in470 (g := (mkF m 208 #[vI p1, vI p2, vI p3, vJ q4, vS, vJ q5, vS, vI p6, vI nx, vI mx, vI kx, vI px, vI c0, vI off, vI c1, vI dx, vI c2, vJ w0, vS, vJ w1, vS, vR b433, vU, vU, vU, vU, vU, vU, vU, vU, vU, vU, vU] [(.long w0), (.int (0 : Int32)), (.ref b462), (.ref b462)])) rfl rfl (hb hby at_208)
        have F471 : Old Z n0 h470 := F463.wr W470 g_b462
        have F472 : Arv Z h470 b433 kc_b433 .char (3 : Int32) [(.int c0), (.int c1), (.int c2)] (.int (0 : Int32)) := F464.other W470 ne_b433_b462
        have F473 : Arv Z h470 b462 kc_b462 .long (1 : Int32) [(.long w0)] (.long (0 : Int64)) := Arv.set Ar470 q470 S470 M470 H470 G470 rfl W470 0 rfl (Nat.le_of_ble_eq_true rfl)
        have Z474 : n0 ≤ h470.size := Nat.le_trans Z466 (Keep.of_wr W470).1
        have K475 : Keep h0 h470 [] := K467.wr W470 (Or.inr sz_b462)
        have N470 := Fr.snoc X470 N454 g_b462
        have P476 : ∀ t, Steps p.tables e below (T470.setTop (mkF m 209 #[vI p1, vI p2, vI p3, vJ q4, vS, vJ q5, vS, vI p6, vI nx, vI mx, vI kx, vI px, vI c0, vI off, vI c1, vI dx, vI c2, vJ w0, vS, vJ w1, vS, vR b433, vU, vU, vU, vU, vU, vU, vU, vU, vU, vU, vU] [(.ref b462)])) t → Steps p.tables e below (s₁.setTop (entryFrame m #[(.int p1), (.int p2), (.int p3), (.long q4), (.long q5), (.int p6)] maxLocals)) t := fun t k => P469 _ (st470 _ k)
        have P477 : ∀ t, Steps p.tables e below (T470.setTop (mkF m 227 #[vI p1, vI p2, vI p3, vJ q4, vS, vJ q5, vS, vI p6, vI nx, vI mx, vI kx, vI px, vI c0, vI off, vI c1, vI dx, vI c2, vJ w0, vS, vJ w1, vS, vR b433, vR b462, vU, vU, vU, vU, vU, vU, vU, vU, vU, vU] [])) t → Steps p.tables e below (s₁.setTop (entryFrame m #[(.int p1), (.int p2), (.int p3), (.long q4), (.long q5), (.int p6)] maxLocals)) t := by
          intro t k
          refine P476 _ ?_
          refine XS.goto X470.here hx rfl (pc0 := 209) (pc' := 225) rfl (hb hby at_209) (by decide) (by decide) ?_
          show Steps p.tables e below (T470.setTop (mkF m 225 #[vI p1, vI p2, vI p3, vJ q4, vS, vJ q5, vS, vI p6, vI nx, vI mx, vI kx, vI px, vI c0, vI off, vI c1, vI dx, vI c2, vJ w0, vS, vJ w1, vS, vR b433, vU, vU, vU, vU, vU, vU, vU, vU, vU, vU, vU] [(.ref b462)])) _
          refine XS.astore X470.here hx rfl (hb hby at_225) rfl rfl (l' := #[vI p1, vI p2, vI p3, vJ q4, vS, vJ q5, vS, vI p6, vI nx, vI mx, vI kx, vI px, vI c0, vI off, vI c1, vI dx, vI c2, vJ w0, vS, vJ w1, vS, vR b433, vR b462, vU, vU, vU, vU, vU, vU, vU, vU, vU, vU]) rfl ?_
          show Steps p.tables e below (T470.setTop (mkF m 227 #[vI p1, vI p2, vI p3, vJ q4, vS, vJ q5, vS, vI p6, vI nx, vI mx, vI kx, vI px, vI c0, vI off, vI c1, vI dx, vI c2, vJ w0, vS, vJ w1, vS, vR b433, vR b462, vU, vU, vU, vU, vU, vU, vU, vU, vU, vU] [])) _
          exact k
        have V478 : own_Af Z h470 b433 kc_b433 .char (3 : Int32) (fun i => Value.int ((own_l3 c0 c1 c2) i)) := (own_convV F472).same (fun i hi => by
          match i, hi with
          | 0, _ => rfl
          | 1, _ => rfl
          | 2, _ => rfl
          | j + 3, hj => exact absurd hj (by show ¬ j + 3 < 3; omega))
        have V479 : own_Af Z h470 b462 kc_b462 .long (1 : Int32) (fun i => Value.long ((own_w2 w0 w1) i)) := (own_convV F473).same (fun i hi => by
          match i, hi with
          | 0, _ => rfl
          | j + 1, hj => exact absurd hj (by show ¬ j + 1 < 1; omega))
        have hnv : nx = (3 : Int32) := (own_n3 hnx hone c129 c149)
        have hmv : mx = (1 : Int32) := c198
        have hkm : kk < 1 := by
          rw [hmv] at hkm0
          have e : (1 : Int32).toInt = 1 := rfl
          omega
        have hnn : nx.toInt = ((3 : Nat) : Int) := by rw [hnv]; rfl
        obtain ⟨T480, h480, X480, e480, E480, A480, D480, -, st480⟩ := newO X470 hx hZ hown (hw _ (List.mem_of_getElem? (i := 4) rfl)) (hw _ (List.mem_of_getElem? (i := 5) rfl)) (hw _ (List.mem_of_getElem? (i := 6) rfl)) e470 (g := (mkF m 227 #[vI p1, vI p2, vI p3, vJ q4, vS, vJ q5, vS, vI p6, vI nx, vI mx, vI kx, vI px, vI c0, vI off, vI c1, vI dx, vI c2, vJ w0, vS, vJ w1, vS, vR b433, vR b462, vU, vU, vU, vU, vU, vU, vU, vU, vU, vU] [])) rfl (hb hby at_227) (by decide) (by decide)
        obtain ⟨bA, g480⟩ : ∃ z, z = h470.size := ⟨_, rfl⟩
        rw [← g480] at A480 D480 st480
        have F481 : Old Z n0 h480 := F471.ext E480
        have F482 : own_Af Z h480 b433 kc_b433 .char (3 : Int32) (fun i => Value.int ((own_l3 c0 c1 c2) i)) := V478.ext E480
        have F483 : own_Af Z h480 b462 kc_b462 .long (1 : Int32) (fun i => Value.long ((own_w2 w0 w1) i)) := V479.ext E480
        have F484 : Fld Z h480 bA "com/example/basewright/basewright/Alphabet" "characters" "[B" .null := D480 (Or.inr (hw _ (List.mem_of_getElem? (i := 78) rfl))) (ty := (.array .byte)) (by decide)
        have F485 : Fld Z h480 bA "com/example/basewright/basewright/Alphabet" "values" "[B" .null := D480 (Or.inr (hw _ (List.mem_of_getElem? (i := 80) rfl))) (ty := (.array .byte)) (by decide)
        have Z486 : n0 ≤ h480.size := Nat.le_trans Z474 E480.1
        have K487 : Keep h0 h480 [] := K475.ext E480
        have g_bA : n0 ≤ bA := Nat.le_trans Z474 (Nat.le_of_eq g480.symm)
        have sz_bA : h0.size ≤ bA := Nat.le_trans K475.1 (Nat.le_of_eq g480.symm)
        have ne_b433_bA : b433 ≠ bA := Nat.ne_of_lt (Nat.lt_of_lt_of_le V478.lt (Nat.le_of_eq g480.symm))
        have ne_b462_bA : b462 ≠ bA := Nat.ne_of_lt (Nat.lt_of_lt_of_le V479.lt (Nat.le_of_eq g480.symm))
        have P488 : ∀ t, Steps p.tables e below (T480.setTop (mkF m 230 #[vI p1, vI p2, vI p3, vJ q4, vS, vJ q5, vS, vI p6, vI nx, vI mx, vI kx, vI px, vI c0, vI off, vI c1, vI dx, vI c2, vJ w0, vS, vJ w1, vS, vR b433, vR b462, vU, vU, vU, vU, vU, vU, vU, vU, vU, vU] [(.ref bA)])) t → Steps p.tables e below (s₁.setTop (entryFrame m #[(.int p1), (.int p2), (.int p3), (.long q4), (.long q5), (.int p6)] maxLocals)) t := fun t k => P477 _ (st480 _ k)
        have P489 : ∀ t, Steps p.tables e below (T480.setTop (mkF m 231 #[vI p1, vI p2, vI p3, vJ q4, vS, vJ q5, vS, vI p6, vI nx, vI mx, vI kx, vI px, vI c0, vI off, vI c1, vI dx, vI c2, vJ w0, vS, vJ w1, vS, vR b433, vR b462, vU, vU, vU, vU, vU, vU, vU, vU, vU, vU] [(.ref bA), (.ref bA)])) t → Steps p.tables e below (s₁.setTop (entryFrame m #[(.int p1), (.int p2), (.int p3), (.long q4), (.long q5), (.int p6)] maxLocals)) t := by
          intro t k
          refine P488 _ ?_
          refine XS.dup X480.here hx rfl (hb hby at_230) rfl rfl ?_
          show Steps p.tables e below (T480.setTop (mkF m 231 #[vI p1, vI p2, vI p3, vJ q4, vS, vJ q5, vS, vI p6, vI nx, vI mx, vI kx, vI px, vI c0, vI off, vI c1, vI dx, vI c2, vJ w0, vS, vJ w1, vS, vR b433, vR b462, vU, vU, vU, vU, vU, vU, vU, vU, vU, vU] [(.ref bA), (.ref bA)])) _
          exact k
        obtain ⟨T490, h490, X490, e490, E490, A490, D490, -, st490⟩ := newO X480 hx hZ hown (hw _ (List.mem_of_getElem? (i := 7) rfl)) (hw _ (List.mem_of_getElem? (i := 8) rfl)) (hw _ (List.mem_of_getElem? (i := 9) rfl)) e480 (g := (mkF m 231 #[vI p1, vI p2, vI p3, vJ q4, vS, vJ q5, vS, vI p6, vI nx, vI mx, vI kx, vI px, vI c0, vI off, vI c1, vI dx, vI c2, vJ w0, vS, vJ w1, vS, vR b433, vR b462, vU, vU, vU, vU, vU, vU, vU, vU, vU, vU] [(.ref bA), (.ref bA)])) rfl (hb hby at_231) (by decide) (by decide)
        obtain ⟨b490, g490⟩ : ∃ z, z = h480.size := ⟨_, rfl⟩
        rw [← g490] at A490 D490 st490
        have F491 : Old Z n0 h490 := F481.ext E490
        have F492 : own_Af Z h490 b433 kc_b433 .char (3 : Int32) (fun i => Value.int ((own_l3 c0 c1 c2) i)) := F482.ext E490
        have F493 : own_Af Z h490 b462 kc_b462 .long (1 : Int32) (fun i => Value.long ((own_w2 w0 w1) i)) := F483.ext E490
        have F494 : Exa Z h490 bA "com/example/basewright/basewright/Alphabet" := A480.ext E490
        have F495 : Fld Z h490 bA "com/example/basewright/basewright/Alphabet" "characters" "[B" .null := F484.ext E490
        have F496 : Fld Z h490 bA "com/example/basewright/basewright/Alphabet" "values" "[B" .null := F485.ext E490
        have F497 : Fld Z h490 b490 "java/lang/String" "coder" "B" (.int (0 : Int32)) := D490 (Or.inr (hw _ (List.mem_of_getElem? (i := 33) rfl))) (ty := .byte) (by decide)
        have F498 : Fld Z h490 b490 "java/lang/String" "value" "[B" .null := D490 (Or.inr (hw _ (List.mem_of_getElem? (i := 35) rfl))) (ty := (.array .byte)) (by decide)
        have Z499 : n0 ≤ h490.size := Nat.le_trans Z486 E490.1
        have K500 : Keep h0 h490 [] := K487.ext E490
        have g_b490 : n0 ≤ b490 := Nat.le_trans Z486 (Nat.le_of_eq g490.symm)
        have sz_b490 : h0.size ≤ b490 := Nat.le_trans K487.1 (Nat.le_of_eq g490.symm)
        have ne_b433_b490 : b433 ≠ b490 := Nat.ne_of_lt (Nat.lt_of_lt_of_le F482.lt (Nat.le_of_eq g490.symm))
        have ne_b462_b490 : b462 ≠ b490 := Nat.ne_of_lt (Nat.lt_of_lt_of_le F483.lt (Nat.le_of_eq g490.symm))
        have ne_bA_b490 : bA ≠ b490 := Nat.ne_of_lt (Nat.lt_of_lt_of_le A480.lt (Nat.le_of_eq g490.symm))
        have P501 : ∀ t, Steps p.tables e below (T490.setTop (mkF m 234 #[vI p1, vI p2, vI p3, vJ q4, vS, vJ q5, vS, vI p6, vI nx, vI mx, vI kx, vI px, vI c0, vI off, vI c1, vI dx, vI c2, vJ w0, vS, vJ w1, vS, vR b433, vR b462, vU, vU, vU, vU, vU, vU, vU, vU, vU, vU] [(.ref b490), (.ref bA), (.ref bA)])) t → Steps p.tables e below (s₁.setTop (entryFrame m #[(.int p1), (.int p2), (.int p3), (.long q4), (.long q5), (.int p6)] maxLocals)) t := fun t k => P489 _ (st490 _ k)
        have P502 : ∀ t, Steps p.tables e below (T490.setTop (mkF m 237 #[vI p1, vI p2, vI p3, vJ q4, vS, vJ q5, vS, vI p6, vI nx, vI mx, vI kx, vI px, vI c0, vI off, vI c1, vI dx, vI c2, vJ w0, vS, vJ w1, vS, vR b433, vR b462, vU, vU, vU, vU, vU, vU, vU, vU, vU, vU] [(.ref b433), (.ref b490), (.ref b490), (.ref bA), (.ref bA)])) t → Steps p.tables e below (s₁.setTop (entryFrame m #[(.int p1), (.int p2), (.int p3), (.long q4), (.long q5), (.int p6)] maxLocals)) t := by
          intro t k
          refine P501 _ ?_
          refine XS.dup X490.here hx rfl (hb hby at_234) rfl rfl ?_
          show Steps p.tables e below (T490.setTop (mkF m 235 #[vI p1, vI p2, vI p3, vJ q4, vS, vJ q5, vS, vI p6, vI nx, vI mx, vI kx, vI px, vI c0, vI off, vI c1, vI dx, vI c2, vJ w0, vS, vJ w1, vS, vR b433, vR b462, vU, vU, vU, vU, vU, vU, vU, vU, vU, vU] [(.ref b490), (.ref b490), (.ref bA), (.ref bA)])) _
          refine XS.aload X490.here hx rfl (hb hby at_235) rfl rfl ?_
          show Steps p.tables e below (T490.setTop (mkF m 237 #[vI p1, vI p2, vI p3, vJ q4, vS, vJ q5, vS, vI p6, vI nx, vI mx, vI kx, vI px, vI c0, vI off, vI c1, vI dx, vI c2, vJ w0, vS, vJ w1, vS, vR b433, vR b462, vU, vU, vU, vU, vU, vU, vU, vU, vU, vU] [(.ref b433), (.ref b490), (.ref b490), (.ref bA), (.ref bA)])) _
          exact k
        obtain ⟨_, _, ⟨T503, L503, k503, n503⟩, -, X503, ⟨Lc503, hQ503, l503, y503, z503⟩, st503⟩ := X490.specialBack hx (y := (⟨"java/lang/String", "<init>", "([C)V"⟩ : MethodName)) rfl hown (mvT hZ (hw _ (List.mem_of_getElem? (i := 10) rfl))) (mvT hZ (hw _ (List.mem_of_getElem? (i := 11) rfl))) (mvT hZ (hw _ (List.mem_of_getElem? (i := 12) rfl))) (by decide) (backOf (W := 3) (rm15 l Z a0 hw [] b490 b433 (3 : Int32) kc_b433 .null (.int (0 : Int32)) ccs (own_l3 c0 c1 c2) 3 h490 n0 Z499 A490 F498 F497 g_b490 F492 (S_cs.ext F491.2) hcc rfl (by decide) (by decide) (own_l3s kc0 kc1 kc2 (by decide))) hZ (hw _ (List.mem_of_getElem? (i := 12) rfl)) (hw _ (List.mem_of_getElem? (i := 9) rfl)) (by decide) (by decide)) (g := (mkF m 237 #[vI p1, vI p2, vI p3, vJ q4, vS, vJ q5, vS, vI p6, vI nx, vI mx, vI kx, vI px, vI c0, vI off, vI c1, vI dx, vI c2, vJ w0, vS, vJ w1, vS, vR b433, vR b462, vU, vU, vU, vU, vU, vU, vU, vU, vU, vU] [(.ref b433), (.ref b490), (.ref b490), (.ref bA), (.ref bA)])) rfl (by rw [hml]; rfl) (Steps.refl _) (a := b490) (argsL := [(.ref b433)]) (rest := [(.ref b490), (.ref bA), (.ref bA)]) (lenOf pd_11 rfl) rfl (by show 2 * 0 + _ ≤ _; exact Nat.le_of_eq rfl) (hb hby at_237) (fun _ _ => ⟨rfl, e490, (by decide : 4 + 1 ≤ _), (by decide : 10 + 4 ≤ _)⟩)
        dsimp only [Pt.U, Pt.locs, Pt.cells, Pt.slots] at X503 l503 y503 z503 st503 hQ503
        subst l503 y503 z503
        obtain ⟨b_503, kb_503, rfl, N503q, K503, s503_b, Y503_0, Y503_1, Y503_2, Y503_3, Y503_4⟩ := hQ503
        have F504 : Old Z n0 T503.heap := F491.keep K503 (allS g_b490 all0)
        have F505 : own_Af Z T503.heap b433 kc_b433 .char (3 : Int32) (fun i => Value.int ((own_l3 c0 c1 c2) i)) := F492.keep K503 (ninS ne_b433_b490 nin0)
        have F506 : own_Af Z T503.heap b462 kc_b462 .long (1 : Int32) (fun i => Value.long ((own_w2 w0 w1) i)) := F493.keep K503 (ninS ne_b462_b490 nin0)
        have F507 : Exa Z T503.heap bA "com/example/basewright/basewright/Alphabet" := F494.keep K503
        have F508 : Fld Z T503.heap bA "com/example/basewright/basewright/Alphabet" "characters" "[B" .null := F495.keep K503 (ninS ne_bA_b490 nin0)
        have F509 : Fld Z T503.heap bA "com/example/basewright/basewright/Alphabet" "values" "[B" .null := F496.keep K503 (ninS ne_bA_b490 nin0)
        have F510 : Exa Z T503.heap b490 "java/lang/String" := A490.keep K503
        have Z511 : n0 ≤ T503.heap.size := Nat.le_trans Z499 K503.1
        have K512 : Keep h0 T503.heap [] := K500.trans K503 (allS (Or.inr sz_b490) all0)
        have g_b_503 : n0 ≤ b_503 := Nat.le_trans Z499 s503_b
        have sz_b_503 : h0.size ≤ b_503 := Nat.le_trans K500.1 s503_b
        have ne_b433_b_503 : b433 ≠ b_503 := Nat.ne_of_lt (Nat.lt_of_lt_of_le F492.lt s503_b)
        have ne_b462_b_503 : b462 ≠ b_503 := Nat.ne_of_lt (Nat.lt_of_lt_of_le F493.lt s503_b)
        have ne_bA_b_503 : bA ≠ b_503 := Nat.ne_of_lt (Nat.lt_of_lt_of_le F494.lt s503_b)
        have ne_b490_b_503 : b490 ≠ b_503 := Nat.ne_of_lt (Nat.lt_of_lt_of_le A490.lt s503_b)
        have N503 := Fr.app N470 N503q
        have P513 : ∀ t, Steps p.tables e below (T503.setTop (mkF m 240 #[vI p1, vI p2, vI p3, vJ q4, vS, vJ q5, vS, vI p6, vI nx, vI mx, vI kx, vI px, vI c0, vI off, vI c1, vI dx, vI c2, vJ w0, vS, vJ w1, vS, vR b433, vR b462, vU, vU, vU, vU, vU, vU, vU, vU, vU, vU] [(.ref b490), (.ref bA), (.ref bA)])) t → Steps p.tables e below (s₁.setTop (entryFrame m #[(.int p1), (.int p2), (.int p3), (.long q4), (.long q5), (.int p6)] maxLocals)) t := fun t k => P502 _ (st503.trans k)
        obtain ⟨_, _, ⟨T514, L514, k514, n514⟩, -, X514, ⟨Lc514, hQ514, l514, y514, z514⟩, st514⟩ := X503.specialBack hx (y := (⟨"com/example/basewright/basewright/Alphabet", "<init>", "(Ljava/lang/String;)V"⟩ : MethodName)) rfl hown (mvT hZ (hw _ (List.mem_of_getElem? (i := 36) rfl))) (mvT hZ (hw _ (List.mem_of_getElem? (i := 37) rfl))) (mvT hZ (hw _ (List.mem_of_getElem? (i := 38) rfl))) (by decide) (backOf (W := 1) (rm27 l Z a0 hw [] bA b490 .null .null b_503 (3 : Int32) kb_503 (own_l3 c0 c1 c2) 3 wA wU wI ccs T503.heap n0 Z511 F504 F507 F508 F509 g_bA Y503_0 Y503_1 Y503_2 Y503_3 Y503_4 rfl (by decide) (own_l3s kc0 kc1 kc2 (by decide)) S_H S_wU S_wI S_wA neU neI S_cs hcc) hZ (hw _ (List.mem_of_getElem? (i := 38) rfl)) (hw _ (List.mem_of_getElem? (i := 6) rfl)) (by decide) (by decide)) (g := (mkF m 240 #[vI p1, vI p2, vI p3, vJ q4, vS, vJ q5, vS, vI p6, vI nx, vI mx, vI kx, vI px, vI c0, vI off, vI c1, vI dx, vI c2, vJ w0, vS, vJ w1, vS, vR b433, vR b462, vU, vU, vU, vU, vU, vU, vU, vU, vU, vU] [(.ref b490), (.ref bA), (.ref bA)])) rfl (by rw [hml]; rfl) (Steps.refl _) (a := bA) (argsL := [(.ref b490)]) (rest := [(.ref bA)]) (lenOf pd_12 rfl) rfl (by show 2 * 0 + _ ≤ _; exact Nat.le_of_eq rfl) (hb hby at_240) (fun _ _ => ⟨rfl, rfl, (by decide : 5 + 2 ≤ _), (by decide : 14 + 260 ≤ _)⟩)
        dsimp only [Pt.U, Pt.locs, Pt.cells, Pt.slots] at X514 l514 y514 z514 st514 hQ514
        subst l514 y514 z514
        obtain ⟨bc_514, bz_514, kz_514, rfl, N514q, K514, s514_bc, s514_bz, Y514_0, Y514_1, Y514_2, Y514_3, Y514_4⟩ := hQ514
        have F515 : Old Z n0 T514.heap := F504.keep K514 (allS g_bA all0)
        have F516 : own_Af Z T514.heap b433 kc_b433 .char (3 : Int32) (fun i => Value.int ((own_l3 c0 c1 c2) i)) := F505.keep K514 (ninS ne_b433_bA nin0)
        have F517 : own_Af Z T514.heap b462 kc_b462 .long (1 : Int32) (fun i => Value.long ((own_w2 w0 w1) i)) := F506.keep K514 (ninS ne_b462_bA nin0)
        have F518 : Exa Z T514.heap bA "com/example/basewright/basewright/Alphabet" := F507.keep K514
        have F519 : Exa Z T514.heap b490 "java/lang/String" := Y503_0.keep K514
        have F520 : Fld Z T514.heap b490 "java/lang/String" "value" "[B" (.ref b_503) := Y503_1.keep K514 (ninS (Ne.symm ne_bA_b490) nin0)
        have F521 : Fld Z T514.heap b490 "java/lang/String" "coder" "B" (.int (0 : Int32)) := Y503_2.keep K514 (ninS (Ne.symm ne_bA_b490) nin0)
        have F522 : own_Af Z T514.heap b_503 kb_503 .byte (3 : Int32) (fun i => Value.int ((own_l3 c0 c1 c2) i)) := Y503_3.keep K514 (ninS (Ne.symm ne_bA_b_503) nin0)
        have F523 : Exa Z T514.heap b_503 "[B" := Y503_4.keep K514
        have Z524 : n0 ≤ T514.heap.size := Nat.le_trans Z511 K514.1
        have K525 : Keep h0 T514.heap [] := K512.trans K514 (allS (Or.inr sz_bA) all0)
        have g_bc_514 : n0 ≤ bc_514 := Nat.le_trans Z511 s514_bc
        have sz_bc_514 : h0.size ≤ bc_514 := Nat.le_trans K512.1 s514_bc
        have ne_b433_bc_514 : b433 ≠ bc_514 := Nat.ne_of_lt (Nat.lt_of_lt_of_le F505.lt s514_bc)
        have ne_b462_bc_514 : b462 ≠ bc_514 := Nat.ne_of_lt (Nat.lt_of_lt_of_le F506.lt s514_bc)
        have ne_bA_bc_514 : bA ≠ bc_514 := Nat.ne_of_lt (Nat.lt_of_lt_of_le F507.lt s514_bc)
        have ne_b490_bc_514 : b490 ≠ bc_514 := Nat.ne_of_lt (Nat.lt_of_lt_of_le Y503_0.lt s514_bc)
        have ne_b_503_bc_514 : b_503 ≠ bc_514 := Nat.ne_of_lt (Nat.lt_of_lt_of_le Y503_3.lt s514_bc)
        have g_bz_514 : n0 ≤ bz_514 := Nat.le_trans Z511 s514_bz
        have sz_bz_514 : h0.size ≤ bz_514 := Nat.le_trans K512.1 s514_bz
        have ne_b433_bz_514 : b433 ≠ bz_514 := Nat.ne_of_lt (Nat.lt_of_lt_of_le F505.lt s514_bz)
        have ne_b462_bz_514 : b462 ≠ bz_514 := Nat.ne_of_lt (Nat.lt_of_lt_of_le F506.lt s514_bz)
        have ne_bA_bz_514 : bA ≠ bz_514 := Nat.ne_of_lt (Nat.lt_of_lt_of_le F507.lt s514_bz)
        have ne_b490_bz_514 : b490 ≠ bz_514 := Nat.ne_of_lt (Nat.lt_of_lt_of_le Y503_0.lt s514_bz)
        have ne_b_503_bz_514 : b_503 ≠ bz_514 := Nat.ne_of_lt (Nat.lt_of_lt_of_le Y503_3.lt s514_bz)
        have N514 := Fr.app N503 N514q
        have P526 : ∀ t, Steps p.tables e below (T514.setTop (mkF m 243 #[vI p1, vI p2, vI p3, vJ q4, vS, vJ q5, vS, vI p6, vI nx, vI mx, vI kx, vI px, vI c0, vI off, vI c1, vI dx, vI c2, vJ w0, vS, vJ w1, vS, vR b433, vR b462, vU, vU, vU, vU, vU, vU, vU, vU, vU, vU] [(.ref bA)])) t → Steps p.tables e below (s₁.setTop (entryFrame m #[(.int p1), (.int p2), (.int p3), (.long q4), (.long q5), (.int p6)] maxLocals)) t := fun t k => P513 _ (st514.trans k)
        have P527 : ∀ t, Steps p.tables e below (T514.setTop (mkF m 249 #[vI p1, vI p2, vI p3, vJ q4, vS, vJ q5, vS, vI p6, vI nx, vI mx, vI kx, vI px, vI c0, vI off, vI c1, vI dx, vI c2, vJ w0, vS, vJ w1, vS, vR b433, vR b462, vR bA, vU, vU, vU, vU, vU, vU, vU, vU, vU] [(.ref b462), (.ref bA)])) t → Steps p.tables e below (s₁.setTop (entryFrame m #[(.int p1), (.int p2), (.int p3), (.long q4), (.long q5), (.int p6)] maxLocals)) t := by
          intro t k
          refine P526 _ ?_
          refine XS.astore X514.here hx rfl (hb hby at_243) rfl rfl (l' := #[vI p1, vI p2, vI p3, vJ q4, vS, vJ q5, vS, vI p6, vI nx, vI mx, vI kx, vI px, vI c0, vI off, vI c1, vI dx, vI c2, vJ w0, vS, vJ w1, vS, vR b433, vR b462, vR bA, vU, vU, vU, vU, vU, vU, vU, vU, vU]) rfl ?_
          show Steps p.tables e below (T514.setTop (mkF m 245 #[vI p1, vI p2, vI p3, vJ q4, vS, vJ q5, vS, vI p6, vI nx, vI mx, vI kx, vI px, vI c0, vI off, vI c1, vI dx, vI c2, vJ w0, vS, vJ w1, vS, vR b433, vR b462, vR bA, vU, vU, vU, vU, vU, vU, vU, vU, vU] [])) _
          refine XS.aload X514.here hx rfl (hb hby at_245) rfl rfl ?_
          show Steps p.tables e below (T514.setTop (mkF m 247 #[vI p1, vI p2, vI p3, vJ q4, vS, vJ q5, vS, vI p6, vI nx, vI mx, vI kx, vI px, vI c0, vI off, vI c1, vI dx, vI c2, vJ w0, vS, vJ w1, vS, vR b433, vR b462, vR bA, vU, vU, vU, vU, vU, vU, vU, vU, vU] [(.ref bA)])) _
          refine XS.aload X514.here hx rfl (hb hby at_247) rfl rfl ?_
          show Steps p.tables e below (T514.setTop (mkF m 249 #[vI p1, vI p2, vI p3, vJ q4, vS, vJ q5, vS, vI p6, vI nx, vI mx, vI kx, vI px, vI c0, vI off, vI c1, vI dx, vI c2, vJ w0, vS, vJ w1, vS, vR b433, vR b462, vR bA, vU, vU, vU, vU, vU, vU, vU, vU, vU] [(.ref b462), (.ref bA)])) _
          exact k
        obtain ⟨cq528, kq528, qa528, qb528, qc528⟩ := isOf hZ rfl Y514_0
        obtain ⟨_, _, ⟨T528, L528, k528, n528⟩, -, X528, ⟨Lc528, hQ528, l528, y528, z528⟩, st528⟩ := X514.virtualBack hx (y := (⟨"com/example/basewright/basewright/Alphabet", "weightedValues", "([J)[J"⟩ : MethodName)) (z := (⟨"com/example/basewright/basewright/Alphabet", "weightedValues", "([J)[J"⟩ : MethodName)) hown (mvT hZ (hw _ (List.mem_of_getElem? (i := 85) rfl))) (mvT hZ (hw _ (List.mem_of_getElem? (i := 86) rfl))) (notFace_of_selects (args := #[]) (mvT hZ (hw _ (List.mem_of_getElem? (i := 88) rfl)))) (mvT hZ (hw _ (List.mem_of_getElem? (i := 88) rfl))) (mvT hZ (hw _ (List.mem_of_getElem? (i := 87) rfl))) (by decide) (backOf (W := 0) (rm29 l Z a0 hw [] bA b462 bz_514 (1 : Int32) kz_514 kc_b462 (own_vf (own_l3 c0 c1 c2) 3) (own_w2 w0 w1) 1 T514.heap n0 Z524 Y514_2 Y514_4 F517 rfl (by decide)) hZ (hw _ (List.mem_of_getElem? (i := 89) rfl)) (hw _ (List.mem_of_getElem? (i := 6) rfl)) (by decide) (by decide)) qa528 qc528 (g := (mkF m 249 #[vI p1, vI p2, vI p3, vJ q4, vS, vJ q5, vS, vI p6, vI nx, vI mx, vI kx, vI px, vI c0, vI off, vI c1, vI dx, vI c2, vJ w0, vS, vJ w1, vS, vR b433, vR b462, vR bA, vU, vU, vU, vU, vU, vU, vU, vU, vU] [(.ref b462), (.ref bA)])) rfl (by rw [hml]; rfl) (Steps.refl _) (argsL := [(.ref b462)]) (rest := []) (lenOf pd_13 rfl) rfl (by show 2 * 0 + _ ≤ _; exact Nat.le_of_eq rfl) (hb hby at_249) (fun _ _ => ⟨rfl, rfl, (by decide : 7 + 1 ≤ _), (by decide : 274 + 512 ≤ _)⟩)
        dsimp only [Pt.U, Pt.locs, Pt.cells, Pt.slots] at X528 l528 y528 z528 st528 hQ528
        subst l528 y528 z528
        obtain ⟨b_528, kp_528, nq_528, rfl, N528q, K528, s528_b, Y528_0, Y528_1⟩ := hQ528
        have F529 : Old Z n0 T528.heap := F515.keep K528 all0
        have F530 : own_Af Z T528.heap b433 kc_b433 .char (3 : Int32) (fun i => Value.int ((own_l3 c0 c1 c2) i)) := F516.keep K528 nin0
        have F531 : own_Af Z T528.heap b462 kc_b462 .long (1 : Int32) (fun i => Value.long ((own_w2 w0 w1) i)) := F517.keep K528 nin0
        have F532 : Exa Z T528.heap bA "com/example/basewright/basewright/Alphabet" := Y514_0.keep K528
        have F533 : Exa Z T528.heap b490 "java/lang/String" := F519.keep K528
        have F534 : Fld Z T528.heap b490 "java/lang/String" "value" "[B" (.ref b_503) := F520.keep K528 nin0
        have F535 : Fld Z T528.heap b490 "java/lang/String" "coder" "B" (.int (0 : Int32)) := F521.keep K528 nin0
        have F536 : own_Af Z T528.heap b_503 kb_503 .byte (3 : Int32) (fun i => Value.int ((own_l3 c0 c1 c2) i)) := F522.keep K528 nin0
        have F537 : Exa Z T528.heap b_503 "[B" := F523.keep K528
        have F538 : Fld Z T528.heap bA "com/example/basewright/basewright/Alphabet" "characters" "[B" (.ref bc_514) := Y514_1.keep K528 nin0
        have F539 : Fld Z T528.heap bA "com/example/basewright/basewright/Alphabet" "values" "[B" (.ref bz_514) := Y514_2.keep K528 nin0
        have F540 : own_Af Z T528.heap bc_514 kb_503 .byte (3 : Int32) (fun i => Value.int ((own_l3 c0 c1 c2) i)) := Y514_3.keep K528 nin0
        have F541 : own_Af Z T528.heap bz_514 kz_514 .byte (256 : Int32) (fun j => Value.int (own_vf (own_l3 c0 c1 c2) 3 j)) := Y514_4.keep K528 nin0
        have Z542 : n0 ≤ T528.heap.size := Nat.le_trans Z524 K528.1
        have K543 : Keep h0 T528.heap [] := K525.trans K528 all0
        have g_b_528 : n0 ≤ b_528 := Nat.le_trans Z524 s528_b
        have sz_b_528 : h0.size ≤ b_528 := Nat.le_trans K525.1 s528_b
        have ne_b433_b_528 : b433 ≠ b_528 := Nat.ne_of_lt (Nat.lt_of_lt_of_le F516.lt s528_b)
        have ne_b462_b_528 : b462 ≠ b_528 := Nat.ne_of_lt (Nat.lt_of_lt_of_le F517.lt s528_b)
        have ne_bA_b_528 : bA ≠ b_528 := Nat.ne_of_lt (Nat.lt_of_lt_of_le Y514_0.lt s528_b)
        have ne_b490_b_528 : b490 ≠ b_528 := Nat.ne_of_lt (Nat.lt_of_lt_of_le F519.lt s528_b)
        have ne_b_503_b_528 : b_503 ≠ b_528 := Nat.ne_of_lt (Nat.lt_of_lt_of_le F522.lt s528_b)
        have ne_bc_514_b_528 : bc_514 ≠ b_528 := Nat.ne_of_lt (Nat.lt_of_lt_of_le Y514_3.lt s528_b)
        have ne_bz_514_b_528 : bz_514 ≠ b_528 := Nat.ne_of_lt (Nat.lt_of_lt_of_le Y514_4.lt s528_b)
        have N528 := Fr.app N514 N528q
        have P544 : ∀ t, Steps p.tables e below (T528.setTop (mkF m 252 #[vI p1, vI p2, vI p3, vJ q4, vS, vJ q5, vS, vI p6, vI nx, vI mx, vI kx, vI px, vI c0, vI off, vI c1, vI dx, vI c2, vJ w0, vS, vJ w1, vS, vR b433, vR b462, vR bA, vU, vU, vU, vU, vU, vU, vU, vU, vU] [(.ref b_528)])) t → Steps p.tables e below (s₁.setTop (entryFrame m #[(.int p1), (.int p2), (.int p3), (.long q4), (.long q5), (.int p6)] maxLocals)) t := fun t k => P527 _ (st528.trans k)
        have P545 : ∀ t, Steps p.tables e below (T528.setTop (mkF m 254 #[vI p1, vI p2, vI p3, vJ q4, vS, vJ q5, vS, vI p6, vI nx, vI mx, vI kx, vI px, vI c0, vI off, vI c1, vI dx, vI c2, vJ w0, vS, vJ w1, vS, vR b433, vR b462, vR bA, vR b_528, vU, vU, vU, vU, vU, vU, vU, vU] [])) t → Steps p.tables e below (s₁.setTop (entryFrame m #[(.int p1), (.int p2), (.int p3), (.long q4), (.long q5), (.int p6)] maxLocals)) t := by
          intro t k
          refine P544 _ ?_
          refine XS.astore X528.here hx rfl (hb hby at_252) rfl rfl (l' := #[vI p1, vI p2, vI p3, vJ q4, vS, vJ q5, vS, vI p6, vI nx, vI mx, vI kx, vI px, vI c0, vI off, vI c1, vI dx, vI c2, vJ w0, vS, vJ w1, vS, vR b433, vR b462, vR bA, vR b_528, vU, vU, vU, vU, vU, vU, vU, vU]) rfl ?_
          show Steps p.tables e below (T528.setTop (mkF m 254 #[vI p1, vI p2, vI p3, vJ q4, vS, vJ q5, vS, vI p6, vI nx, vI mx, vI kx, vI px, vI c0, vI off, vI c1, vI dx, vI c2, vJ w0, vS, vJ w1, vS, vR b433, vR b462, vR bA, vR b_528, vU, vU, vU, vU, vU, vU, vU, vU] [])) _
          exact k
        have hq24 := (own_m8 (mm := 1) Y528_1 rfl (by decide)).1
        have hlen : nq_528 = (mx * (256 : Int32)) := by rw [Y528_1, hmv]; rfl
        obtain ⟨T546, h546, lo546, X546, e546, N546, K546, q546, st546⟩ := tlA (by decide) (by decide) p1 p2 p3 q4 q5 p6 nx mx kx px c0 off c1 dx c2 w0 w1 b433 b462 bA b_528 nq_528 kp_528 3 1 kk X528 hx hZ hw hby hml hown rfl N528 Z542 Y528_0 hq24 hlen hnn (by decide) hkk hkm (by decide) hk1 kc0 kc1 kc2 hne3 kpx kp8 kp9
        have P547 : ∀ t, Steps p.tables e below (T546.setTop (mkF m 423 #[vI p1, vI p2, vI p3, vJ q4, vS, vJ q5, vS, vI p6, vI nx, vI mx, vI kx, vI px, vI c0, vI off, vI c1, vI dx, vI c2, vJ w0, vS, vJ w1, vS, vR b433, vR b462, vR bA, vR b_528, .val (.long (if kx = (0 : Int32) then w0 else w1)), vS, .val (.int (kx <<< ((8 : Int32) &&& 31))), .val (.int (1 : Int32)), vU, vU, vU, vU] [])) t → Steps p.tables e below (s₁.setTop (entryFrame m #[(.int p1), (.int p2), (.int p3), (.long q4), (.long q5), (.int p6)] maxLocals)) t := fun t k => P545 _ (st546 _ k)
        have Z548 : n0 ≤ h546.size := Nat.le_trans Z542 K546.1
        have P549 : ∀ t, Steps p.tables e below (T546.setTop (mkF m 578 #[vI p1, vI p2, vI p3, vJ q4, vS, vJ q5, vS, vI p6, vI nx, vI mx, vI kx, vI px, vI c0, vI off, vI c1, vI dx, vI c2, vJ w0, vS, vJ w1, vS, vR b433, vR b462, vR bA, vR b_528, .val (.long (if kx = (0 : Int32) then w0 else w1)), vS, .val (.int (kx <<< ((8 : Int32) &&& 31))), .val (.int (1 : Int32)), vU, vU, vU, vU] [(.int (1 : Int32))])) t → Steps p.tables e below (s₁.setTop (entryFrame m #[(.int p1), (.int p2), (.int p3), (.long q4), (.long q5), (.int p6)] maxLocals)) t := by
          intro t k
          refine P547 _ ?_
          refine XS.iload X546.here hx rfl (hb hby at_423) rfl ?_
          show Steps p.tables e below (T546.setTop (mkF m 425 #[vI p1, vI p2, vI p3, vJ q4, vS, vJ q5, vS, vI p6, vI nx, vI mx, vI kx, vI px, vI c0, vI off, vI c1, vI dx, vI c2, vJ w0, vS, vJ w1, vS, vR b433, vR b462, vR bA, vR b_528, .val (.long (if kx = (0 : Int32) then w0 else w1)), vS, .val (.int (kx <<< ((8 : Int32) &&& 31))), .val (.int (1 : Int32)), vU, vU, vU, vU] [(.int mx)])) _
          refine XS.iconst X546.here hx rfl (hb hby at_425) ?_
          show Steps p.tables e below (T546.setTop (mkF m 426 #[vI p1, vI p2, vI p3, vJ q4, vS, vJ q5, vS, vI p6, vI nx, vI mx, vI kx, vI px, vI c0, vI off, vI c1, vI dx, vI c2, vJ w0, vS, vJ w1, vS, vR b433, vR b462, vR bA, vR b_528, .val (.long (if kx = (0 : Int32) then w0 else w1)), vS, .val (.int (kx <<< ((8 : Int32) &&& 31))), .val (.int (1 : Int32)), vU, vU, vU, vU] [(.int (2 : Int32)), (.int mx)])) _
          refine XS.icmpYes X546.here hx rfl (pc0 := 426) (pc' := 576) rfl (hb hby at_426) rfl (XT.ii_ne_t (by rw [hmv]; decide)) (by decide) (by decide) ?_
          show Steps p.tables e below (T546.setTop (mkF m 576 #[vI p1, vI p2, vI p3, vJ q4, vS, vJ q5, vS, vI p6, vI nx, vI mx, vI kx, vI px, vI c0, vI off, vI c1, vI dx, vI c2, vJ w0, vS, vJ w1, vS, vR b433, vR b462, vR bA, vR b_528, .val (.long (if kx = (0 : Int32) then w0 else w1)), vS, .val (.int (kx <<< ((8 : Int32) &&& 31))), .val (.int (1 : Int32)), vU, vU, vU, vU] [])) _
          refine XS.iload X546.here hx rfl (hb hby at_576) rfl ?_
          show Steps p.tables e below (T546.setTop (mkF m 578 #[vI p1, vI p2, vI p3, vJ q4, vS, vJ q5, vS, vI p6, vI nx, vI mx, vI kx, vI px, vI c0, vI off, vI c1, vI dx, vI c2, vJ w0, vS, vJ w1, vS, vR b433, vR b462, vR bA, vR b_528, .val (.long (if kx = (0 : Int32) then w0 else w1)), vS, .val (.int (kx <<< ((8 : Int32) &&& 31))), .val (.int (1 : Int32)), vU, vU, vU, vU] [(.int (1 : Int32))])) _
          exact k
        obtain ⟨fs, hr, hrun, hended, hW, hsame⟩ := X546.leave (v := some (.int (1 : Int32))) (fun h => by rw [Bd.returns] at h; cases h)
        refine ⟨_, _, P549 _ ?_, hrun, hended, _, _, rfl, ?_, ⟨_, rfl⟩, hW, hsame.mono (by decide) (by decide)⟩
        · exact retN X546 hx (t := .boolean) Bd.returns (by simp) (hb hby at_578) hr
        · show Q0 Z p1 p2 p3 q4 q5 p6 ccs wA wU wI h0 n0 _ T546.heap _
          rw [e546]
          exact ⟨rfl, N546⟩
      · have P550 : ∀ t, Steps p.tables e below (T454.setTop (mkF m 213 #[vI p1, vI p2, vI p3, vJ q4, vS, vJ q5, vS, vI p6, vI nx, vI mx, vI kx, vI px, vI c0, vI off, vI c1, vI dx, vI c2, vJ w0, vS, vJ w1, vS, vR b433, vU, vU, vU, vU, vU, vU, vU, vU, vU, vU, vU] [(.int (2 : Int32))])) t → Steps p.tables e below (s₁.setTop (entryFrame m #[(.int p1), (.int p2), (.int p3), (.long q4), (.long q5), (.int p6)] maxLocals)) t := by
          intro t k
          refine P460 _ ?_
          refine XS.icmpYes X454.here hx rfl (pc0 := 198) (pc' := 212) rfl (hb hby at_198) rfl (XT.ii_ne_t c198) (by decide) (by decide) ?_
          show Steps p.tables e below (T454.setTop (mkF m 212 #[vI p1, vI p2, vI p3, vJ q4, vS, vJ q5, vS, vI p6, vI nx, vI mx, vI kx, vI px, vI c0, vI off, vI c1, vI dx, vI c2, vJ w0, vS, vJ w1, vS, vR b433, vU, vU, vU, vU, vU, vU, vU, vU, vU, vU, vU] [])) _
          refine XS.iconst X454.here hx rfl (hb hby at_212) ?_
          show Steps p.tables e below (T454.setTop (mkF m 213 #[vI p1, vI p2, vI p3, vJ q4, vS, vJ q5, vS, vI p6, vI nx, vI mx, vI kx, vI px, vI c0, vI off, vI c1, vI dx, vI c2, vJ w0, vS, vJ w1, vS, vR b433, vU, vU, vU, vU, vU, vU, vU, vU, vU, vU, vU] [(.int (2 : Int32))])) _
          exact k
        obtain ⟨T551, h551, k551, X551, e551, E551, A551, st551⟩ := newP X454 hx hZ (hw _ (List.mem_of_getElem? (i := 3) rfl)) e454 (g := (mkF m 213 #[vI p1, vI p2, vI p3, vJ q4, vS, vJ q5, vS, vI p6, vI nx, vI mx, vI kx, vI px, vI c0, vI off, vI c1, vI dx, vI c2, vJ w0, vS, vJ w1, vS, vR b433, vU, vU, vU, vU, vU, vU, vU, vU, vU, vU, vU] [(.int (2 : Int32))])) rfl (hb hby at_213) rfl (by decide) (cap := 2) (by decide) (by decide) (by decide) (by decide)
        obtain ⟨b551, g551⟩ : ∃ z, z = h454.size := ⟨_, rfl⟩
        rw [← g551] at A551 st551
        have F552 : Old Z n0 h551 := F455.ext E551
        have F553 : Arv Z h551 b433 kc_b433 .char (3 : Int32) [(.int c0), (.int c1), (.int c2)] (.int (0 : Int32)) := F456.ext E551
        obtain ⟨kc_b551, hkc_b551⟩ : ∃ z, z = k551 := ⟨_, rfl⟩
        rw [← hkc_b551] at A551
        have F554 : Arv Z h551 b551 kc_b551 .long (2 : Int32) [(.long (0 : Int64)), (.long (0 : Int64))] (.long (0 : Int64)) := (Arv.new A551 (by decide)).pad (pad_rep [] (.long (0 : Int64)) 2)
        have Z555 : n0 ≤ h551.size := Nat.le_trans Z457 E551.1
        have K556 : Keep h0 h551 [] := K458.ext E551
        have g_b551 : n0 ≤ b551 := Nat.le_trans Z457 (Nat.le_of_eq g551.symm)
        have sz_b551 : h0.size ≤ b551 := Nat.le_trans K458.1 (Nat.le_of_eq g551.symm)
        have ne_b433_b551 : b433 ≠ b551 := Nat.ne_of_lt (Nat.lt_of_lt_of_le F456.lt (Nat.le_of_eq g551.symm))
        have P557 : ∀ t, Steps p.tables e below (T551.setTop (mkF m 215 #[vI p1, vI p2, vI p3, vJ q4, vS, vJ q5, vS, vI p6, vI nx, vI mx, vI kx, vI px, vI c0, vI off, vI c1, vI dx, vI c2, vJ w0, vS, vJ w1, vS, vR b433, vU, vU, vU, vU, vU, vU, vU, vU, vU, vU, vU] [(.ref b551)])) t → Steps p.tables e below (s₁.setTop (entryFrame m #[(.int p1), (.int p2), (.int p3), (.long q4), (.long q5), (.int p6)] maxLocals)) t := fun t k => P550 _ (st551 _ k)
        have P558 : ∀ t, Steps p.tables e below (T551.setTop (mkF m 219 #[vI p1, vI p2, vI p3, vJ q4, vS, vJ q5, vS, vI p6, vI nx, vI mx, vI kx, vI px, vI c0, vI off, vI c1, vI dx, vI c2, vJ w0, vS, vJ w1, vS, vR b433, vU, vU, vU, vU, vU, vU, vU, vU, vU, vU, vU] [(.long w0), (.int (0 : Int32)), (.ref b551), (.ref b551)])) t → Steps p.tables e below (s₁.setTop (entryFrame m #[(.int p1), (.int p2), (.int p3), (.long q4), (.long q5), (.int p6)] maxLocals)) t := by
          intro t k
          refine P557 _ ?_
          refine XS.dup X551.here hx rfl (hb hby at_215) rfl rfl ?_
          show Steps p.tables e below (T551.setTop (mkF m 216 #[vI p1, vI p2, vI p3, vJ q4, vS, vJ q5, vS, vI p6, vI nx, vI mx, vI kx, vI px, vI c0, vI off, vI c1, vI dx, vI c2, vJ w0, vS, vJ w1, vS, vR b433, vU, vU, vU, vU, vU, vU, vU, vU, vU, vU, vU] [(.ref b551), (.ref b551)])) _
          refine XS.iconst X551.here hx rfl (hb hby at_216) ?_
          show Steps p.tables e below (T551.setTop (mkF m 217 #[vI p1, vI p2, vI p3, vJ q4, vS, vJ q5, vS, vI p6, vI nx, vI mx, vI kx, vI px, vI c0, vI off, vI c1, vI dx, vI c2, vJ w0, vS, vJ w1, vS, vR b433, vU, vU, vU, vU, vU, vU, vU, vU, vU, vU, vU] [(.int (0 : Int32)), (.ref b551), (.ref b551)])) _
          refine XT.lload X551.here hx rfl (hb hby at_217) rfl ?_
          show Steps p.tables e below (T551.setTop (mkF m 219 #[vI p1, vI p2, vI p3, vJ q4, vS, vJ q5, vS, vI p6, vI nx, vI mx, vI kx, vI px, vI c0, vI off, vI c1, vI dx, vI c2, vJ w0, vS, vJ w1, vS, vR b433, vU, vU, vU, vU, vU, vU, vU, vU, vU, vU, vU] [(.long w0), (.int (0 : Int32)), (.ref b551), (.ref b551)])) _
          exact k
        obtain ⟨cl559, Ar559, q559, S559, M559, H559, G559⟩ := F554
        have in559 : ¬ ((0 : Int32) < 0 ∨ cl559.slots.size ≤ ((0 : Int32)).toNatClampNeg) := inb_of S559 ⟨by decide, by decide⟩
        obtain ⟨T559, h559, X559, e559, W559, st559⟩ := stJ X551 hx hZ e551 Ar559 (j := (0 : Int32)) in559 (g := (mkF m 219 #[vI p1, vI p2, vI p3, vJ q4, vS, vJ q5, vS, vI p6, vI nx, vI mx, vI kx, vI px, vI c0, vI off, vI c1, vI dx, vI c2, vJ w0, vS, vJ w1, vS, vR b433, vU, vU, vU, vU, vU, vU, vU, vU, vU, vU, vU] [(.long w0), (.int (0 : Int32)), (.ref b551), (.ref b551)])) rfl rfl (hb hby at_219)
        have F560 : Old Z n0 h559 := F552.wr W559 g_b551
        have F561 : Arv Z h559 b433 kc_b433 .char (3 : Int32) [(.int c0), (.int c1), (.int c2)] (.int (0 : Int32)) := F553.other W559 ne_b433_b551
        have F562 : Arv Z h559 b551 kc_b551 .long (2 : Int32) [(.long w0), (.long (0 : Int64))] (.long (0 : Int64)) := Arv.set Ar559 q559 S559 M559 H559 G559 rfl W559 0 rfl (Nat.le_of_ble_eq_true rfl)
        have Z563 : n0 ≤ h559.size := Nat.le_trans Z555 (Keep.of_wr W559).1
        have K564 : Keep h0 h559 [] := K556.wr W559 (Or.inr sz_b551)
        have N559 := Fr.snoc X559 N454 g_b551
        have P565 : ∀ t, Steps p.tables e below (T559.setTop (mkF m 220 #[vI p1, vI p2, vI p3, vJ q4, vS, vJ q5, vS, vI p6, vI nx, vI mx, vI kx, vI px, vI c0, vI off, vI c1, vI dx, vI c2, vJ w0, vS, vJ w1, vS, vR b433, vU, vU, vU, vU, vU, vU, vU, vU, vU, vU, vU] [(.ref b551)])) t → Steps p.tables e below (s₁.setTop (entryFrame m #[(.int p1), (.int p2), (.int p3), (.long q4), (.long q5), (.int p6)] maxLocals)) t := fun t k => P558 _ (st559 _ k)
        have P566 : ∀ t, Steps p.tables e below (T559.setTop (mkF m 224 #[vI p1, vI p2, vI p3, vJ q4, vS, vJ q5, vS, vI p6, vI nx, vI mx, vI kx, vI px, vI c0, vI off, vI c1, vI dx, vI c2, vJ w0, vS, vJ w1, vS, vR b433, vU, vU, vU, vU, vU, vU, vU, vU, vU, vU, vU] [(.long w1), (.int (1 : Int32)), (.ref b551), (.ref b551)])) t → Steps p.tables e below (s₁.setTop (entryFrame m #[(.int p1), (.int p2), (.int p3), (.long q4), (.long q5), (.int p6)] maxLocals)) t := by
          intro t k
          refine P565 _ ?_
          refine XS.dup X559.here hx rfl (hb hby at_220) rfl rfl ?_
          show Steps p.tables e below (T559.setTop (mkF m 221 #[vI p1, vI p2, vI p3, vJ q4, vS, vJ q5, vS, vI p6, vI nx, vI mx, vI kx, vI px, vI c0, vI off, vI c1, vI dx, vI c2, vJ w0, vS, vJ w1, vS, vR b433, vU, vU, vU, vU, vU, vU, vU, vU, vU, vU, vU] [(.ref b551), (.ref b551)])) _
          refine XS.iconst X559.here hx rfl (hb hby at_221) ?_
          show Steps p.tables e below (T559.setTop (mkF m 222 #[vI p1, vI p2, vI p3, vJ q4, vS, vJ q5, vS, vI p6, vI nx, vI mx, vI kx, vI px, vI c0, vI off, vI c1, vI dx, vI c2, vJ w0, vS, vJ w1, vS, vR b433, vU, vU, vU, vU, vU, vU, vU, vU, vU, vU, vU] [(.int (1 : Int32)), (.ref b551), (.ref b551)])) _
          refine XT.lload X559.here hx rfl (hb hby at_222) rfl ?_
          show Steps p.tables e below (T559.setTop (mkF m 224 #[vI p1, vI p2, vI p3, vJ q4, vS, vJ q5, vS, vI p6, vI nx, vI mx, vI kx, vI px, vI c0, vI off, vI c1, vI dx, vI c2, vJ w0, vS, vJ w1, vS, vR b433, vU, vU, vU, vU, vU, vU, vU, vU, vU, vU, vU] [(.long w1), (.int (1 : Int32)), (.ref b551), (.ref b551)])) _
          exact k
        obtain ⟨cl567, Ar567, q567, S567, M567, H567, G567⟩ := F562
        have in567 : ¬ ((1 : Int32) < 0 ∨ cl567.slots.size ≤ ((1 : Int32)).toNatClampNeg) := inb_of S567 ⟨by decide, by decide⟩
        obtain ⟨T567, h567, X567, e567, W567, st567⟩ := stJ X559 hx hZ e559 Ar567 (j := (1 : Int32)) in567 (g := (mkF m 224 #[vI p1, vI p2, vI p3, vJ q4, vS, vJ q5, vS, vI p6, vI nx, vI mx, vI kx, vI px, vI c0, vI off, vI c1, vI dx, vI c2, vJ w0, vS, vJ w1, vS, vR b433, vU, vU, vU, vU, vU, vU, vU, vU, vU, vU, vU] [(.long w1), (.int (1 : Int32)), (.ref b551), (.ref b551)])) rfl rfl (hb hby at_224)
        have F568 : Old Z n0 h567 := F560.wr W567 g_b551
        have F569 : Arv Z h567 b433 kc_b433 .char (3 : Int32) [(.int c0), (.int c1), (.int c2)] (.int (0 : Int32)) := F561.other W567 ne_b433_b551
        have F570 : Arv Z h567 b551 kc_b551 .long (2 : Int32) [(.long w0), (.long w1)] (.long (0 : Int64)) := Arv.set Ar567 q567 S567 M567 H567 G567 rfl W567 1 rfl (Nat.le_of_ble_eq_true rfl)
        have Z571 : n0 ≤ h567.size := Nat.le_trans Z563 (Keep.of_wr W567).1
        have K572 : Keep h0 h567 [] := K564.wr W567 (Or.inr sz_b551)
        have N567 := Fr.snoc X567 N559 g_b551
        have P573 : ∀ t, Steps p.tables e below (T567.setTop (mkF m 225 #[vI p1, vI p2, vI p3, vJ q4, vS, vJ q5, vS, vI p6, vI nx, vI mx, vI kx, vI px, vI c0, vI off, vI c1, vI dx, vI c2, vJ w0, vS, vJ w1, vS, vR b433, vU, vU, vU, vU, vU, vU, vU, vU, vU, vU, vU] [(.ref b551)])) t → Steps p.tables e below (s₁.setTop (entryFrame m #[(.int p1), (.int p2), (.int p3), (.long q4), (.long q5), (.int p6)] maxLocals)) t := fun t k => P566 _ (st567 _ k)
        have P574 : ∀ t, Steps p.tables e below (T567.setTop (mkF m 227 #[vI p1, vI p2, vI p3, vJ q4, vS, vJ q5, vS, vI p6, vI nx, vI mx, vI kx, vI px, vI c0, vI off, vI c1, vI dx, vI c2, vJ w0, vS, vJ w1, vS, vR b433, vR b551, vU, vU, vU, vU, vU, vU, vU, vU, vU, vU] [])) t → Steps p.tables e below (s₁.setTop (entryFrame m #[(.int p1), (.int p2), (.int p3), (.long q4), (.long q5), (.int p6)] maxLocals)) t := by
          intro t k
          refine P573 _ ?_
          refine XS.astore X567.here hx rfl (hb hby at_225) rfl rfl (l' := #[vI p1, vI p2, vI p3, vJ q4, vS, vJ q5, vS, vI p6, vI nx, vI mx, vI kx, vI px, vI c0, vI off, vI c1, vI dx, vI c2, vJ w0, vS, vJ w1, vS, vR b433, vR b551, vU, vU, vU, vU, vU, vU, vU, vU, vU, vU]) rfl ?_
          show Steps p.tables e below (T567.setTop (mkF m 227 #[vI p1, vI p2, vI p3, vJ q4, vS, vJ q5, vS, vI p6, vI nx, vI mx, vI kx, vI px, vI c0, vI off, vI c1, vI dx, vI c2, vJ w0, vS, vJ w1, vS, vR b433, vR b551, vU, vU, vU, vU, vU, vU, vU, vU, vU, vU] [])) _
          exact k
        have V575 : own_Af Z h567 b433 kc_b433 .char (3 : Int32) (fun i => Value.int ((own_l3 c0 c1 c2) i)) := (own_convV F569).same (fun i hi => by
          match i, hi with
          | 0, _ => rfl
          | 1, _ => rfl
          | 2, _ => rfl
          | j + 3, hj => exact absurd hj (by show ¬ j + 3 < 3; omega))
        have V576 : own_Af Z h567 b551 kc_b551 .long (2 : Int32) (fun i => Value.long ((own_w2 w0 w1) i)) := (own_convV F570).same (fun i hi => by
          match i, hi with
          | 0, _ => rfl
          | 1, _ => rfl
          | j + 2, hj => exact absurd hj (by show ¬ j + 2 < 2; omega))
        have hnv : nx = (3 : Int32) := (own_n3 hnx hone c129 c149)
        have hmv : mx = (2 : Int32) := (hm12.resolve_left c198)
        have hkm : kk < 2 := by
          rw [hmv] at hkm0
          have e : (2 : Int32).toInt = 2 := rfl
          omega
        have hnn : nx.toInt = ((3 : Nat) : Int) := by rw [hnv]; rfl
        obtain ⟨T577, h577, X577, e577, E577, A577, D577, -, st577⟩ := newO X567 hx hZ hown (hw _ (List.mem_of_getElem? (i := 4) rfl)) (hw _ (List.mem_of_getElem? (i := 5) rfl)) (hw _ (List.mem_of_getElem? (i := 6) rfl)) e567 (g := (mkF m 227 #[vI p1, vI p2, vI p3, vJ q4, vS, vJ q5, vS, vI p6, vI nx, vI mx, vI kx, vI px, vI c0, vI off, vI c1, vI dx, vI c2, vJ w0, vS, vJ w1, vS, vR b433, vR b551, vU, vU, vU, vU, vU, vU, vU, vU, vU, vU] [])) rfl (hb hby at_227) (by decide) (by decide)
        obtain ⟨bA, g577⟩ : ∃ z, z = h567.size := ⟨_, rfl⟩
        rw [← g577] at A577 D577 st577
        have F578 : Old Z n0 h577 := F568.ext E577
        have F579 : own_Af Z h577 b433 kc_b433 .char (3 : Int32) (fun i => Value.int ((own_l3 c0 c1 c2) i)) := V575.ext E577
        have F580 : own_Af Z h577 b551 kc_b551 .long (2 : Int32) (fun i => Value.long ((own_w2 w0 w1) i)) := V576.ext E577
        have F581 : Fld Z h577 bA "com/example/basewright/basewright/Alphabet" "characters" "[B" .null := D577 (Or.inr (hw _ (List.mem_of_getElem? (i := 78) rfl))) (ty := (.array .byte)) (by decide)
        have F582 : Fld Z h577 bA "com/example/basewright/basewright/Alphabet" "values" "[B" .null := D577 (Or.inr (hw _ (List.mem_of_getElem? (i := 80) rfl))) (ty := (.array .byte)) (by decide)
        have Z583 : n0 ≤ h577.size := Nat.le_trans Z571 E577.1
        have K584 : Keep h0 h577 [] := K572.ext E577
        have g_bA : n0 ≤ bA := Nat.le_trans Z571 (Nat.le_of_eq g577.symm)
        have sz_bA : h0.size ≤ bA := Nat.le_trans K572.1 (Nat.le_of_eq g577.symm)
        have ne_b433_bA : b433 ≠ bA := Nat.ne_of_lt (Nat.lt_of_lt_of_le V575.lt (Nat.le_of_eq g577.symm))
        have ne_b551_bA : b551 ≠ bA := Nat.ne_of_lt (Nat.lt_of_lt_of_le V576.lt (Nat.le_of_eq g577.symm))
        have P585 : ∀ t, Steps p.tables e below (T577.setTop (mkF m 230 #[vI p1, vI p2, vI p3, vJ q4, vS, vJ q5, vS, vI p6, vI nx, vI mx, vI kx, vI px, vI c0, vI off, vI c1, vI dx, vI c2, vJ w0, vS, vJ w1, vS, vR b433, vR b551, vU, vU, vU, vU, vU, vU, vU, vU, vU, vU] [(.ref bA)])) t → Steps p.tables e below (s₁.setTop (entryFrame m #[(.int p1), (.int p2), (.int p3), (.long q4), (.long q5), (.int p6)] maxLocals)) t := fun t k => P574 _ (st577 _ k)
        have P586 : ∀ t, Steps p.tables e below (T577.setTop (mkF m 231 #[vI p1, vI p2, vI p3, vJ q4, vS, vJ q5, vS, vI p6, vI nx, vI mx, vI kx, vI px, vI c0, vI off, vI c1, vI dx, vI c2, vJ w0, vS, vJ w1, vS, vR b433, vR b551, vU, vU, vU, vU, vU, vU, vU, vU, vU, vU] [(.ref bA), (.ref bA)])) t → Steps p.tables e below (s₁.setTop (entryFrame m #[(.int p1), (.int p2), (.int p3), (.long q4), (.long q5), (.int p6)] maxLocals)) t := by
          intro t k
          refine P585 _ ?_
          refine XS.dup X577.here hx rfl (hb hby at_230) rfl rfl ?_
          show Steps p.tables e below (T577.setTop (mkF m 231 #[vI p1, vI p2, vI p3, vJ q4, vS, vJ q5, vS, vI p6, vI nx, vI mx, vI kx, vI px, vI c0, vI off, vI c1, vI dx, vI c2, vJ w0, vS, vJ w1, vS, vR b433, vR b551, vU, vU, vU, vU, vU, vU, vU, vU, vU, vU] [(.ref bA), (.ref bA)])) _
          exact k
        obtain ⟨T587, h587, X587, e587, E587, A587, D587, -, st587⟩ := newO X577 hx hZ hown (hw _ (List.mem_of_getElem? (i := 7) rfl)) (hw _ (List.mem_of_getElem? (i := 8) rfl)) (hw _ (List.mem_of_getElem? (i := 9) rfl)) e577 (g := (mkF m 231 #[vI p1, vI p2, vI p3, vJ q4, vS, vJ q5, vS, vI p6, vI nx, vI mx, vI kx, vI px, vI c0, vI off, vI c1, vI dx, vI c2, vJ w0, vS, vJ w1, vS, vR b433, vR b551, vU, vU, vU, vU, vU, vU, vU, vU, vU, vU] [(.ref bA), (.ref bA)])) rfl (hb hby at_231) (by decide) (by decide)
        obtain ⟨b587, g587⟩ : ∃ z, z = h577.size := ⟨_, rfl⟩
        rw [← g587] at A587 D587 st587
        have F588 : Old Z n0 h587 := F578.ext E587
        have F589 : own_Af Z h587 b433 kc_b433 .char (3 : Int32) (fun i => Value.int ((own_l3 c0 c1 c2) i)) := F579.ext E587
        have F590 : own_Af Z h587 b551 kc_b551 .long (2 : Int32) (fun i => Value.long ((own_w2 w0 w1) i)) := F580.ext E587
        have F591 : Exa Z h587 bA "com/example/basewright/basewright/Alphabet" := A577.ext E587
        have F592 : Fld Z h587 bA "com/example/basewright/basewright/Alphabet" "characters" "[B" .null := F581.ext E587
        have F593 : Fld Z h587 bA "com/example/basewright/basewright/Alphabet" "values" "[B" .null := F582.ext E587
        have F594 : Fld Z h587 b587 "java/lang/String" "coder" "B" (.int (0 : Int32)) := D587 (Or.inr (hw _ (List.mem_of_getElem? (i := 33) rfl))) (ty := .byte) (by decide)
        have F595 : Fld Z h587 b587 "java/lang/String" "value" "[B" .null := D587 (Or.inr (hw _ (List.mem_of_getElem? (i := 35) rfl))) (ty := (.array .byte)) (by decide)
        have Z596 : n0 ≤ h587.size := Nat.le_trans Z583 E587.1
        have K597 : Keep h0 h587 [] := K584.ext E587
        have g_b587 : n0 ≤ b587 := Nat.le_trans Z583 (Nat.le_of_eq g587.symm)
        have sz_b587 : h0.size ≤ b587 := Nat.le_trans K584.1 (Nat.le_of_eq g587.symm)
        have ne_b433_b587 : b433 ≠ b587 := Nat.ne_of_lt (Nat.lt_of_lt_of_le F579.lt (Nat.le_of_eq g587.symm))
        have ne_b551_b587 : b551 ≠ b587 := Nat.ne_of_lt (Nat.lt_of_lt_of_le F580.lt (Nat.le_of_eq g587.symm))
        have ne_bA_b587 : bA ≠ b587 := Nat.ne_of_lt (Nat.lt_of_lt_of_le A577.lt (Nat.le_of_eq g587.symm))
        have P598 : ∀ t, Steps p.tables e below (T587.setTop (mkF m 234 #[vI p1, vI p2, vI p3, vJ q4, vS, vJ q5, vS, vI p6, vI nx, vI mx, vI kx, vI px, vI c0, vI off, vI c1, vI dx, vI c2, vJ w0, vS, vJ w1, vS, vR b433, vR b551, vU, vU, vU, vU, vU, vU, vU, vU, vU, vU] [(.ref b587), (.ref bA), (.ref bA)])) t → Steps p.tables e below (s₁.setTop (entryFrame m #[(.int p1), (.int p2), (.int p3), (.long q4), (.long q5), (.int p6)] maxLocals)) t := fun t k => P586 _ (st587 _ k)
        have P599 : ∀ t, Steps p.tables e below (T587.setTop (mkF m 237 #[vI p1, vI p2, vI p3, vJ q4, vS, vJ q5, vS, vI p6, vI nx, vI mx, vI kx, vI px, vI c0, vI off, vI c1, vI dx, vI c2, vJ w0, vS, vJ w1, vS, vR b433, vR b551, vU, vU, vU, vU, vU, vU, vU, vU, vU, vU] [(.ref b433), (.ref b587), (.ref b587), (.ref bA), (.ref bA)])) t → Steps p.tables e below (s₁.setTop (entryFrame m #[(.int p1), (.int p2), (.int p3), (.long q4), (.long q5), (.int p6)] maxLocals)) t := by
          intro t k
          refine P598 _ ?_
          refine XS.dup X587.here hx rfl (hb hby at_234) rfl rfl ?_
          show Steps p.tables e below (T587.setTop (mkF m 235 #[vI p1, vI p2, vI p3, vJ q4, vS, vJ q5, vS, vI p6, vI nx, vI mx, vI kx, vI px, vI c0, vI off, vI c1, vI dx, vI c2, vJ w0, vS, vJ w1, vS, vR b433, vR b551, vU, vU, vU, vU, vU, vU, vU, vU, vU, vU] [(.ref b587), (.ref b587), (.ref bA), (.ref bA)])) _
          refine XS.aload X587.here hx rfl (hb hby at_235) rfl rfl ?_
          show Steps p.tables e below (T587.setTop (mkF m 237 #[vI p1, vI p2, vI p3, vJ q4, vS, vJ q5, vS, vI p6, vI nx, vI mx, vI kx, vI px, vI c0, vI off, vI c1, vI dx, vI c2, vJ w0, vS, vJ w1, vS, vR b433, vR b551, vU, vU, vU, vU, vU, vU, vU, vU, vU, vU] [(.ref b433), (.ref b587), (.ref b587), (.ref bA), (.ref bA)])) _
          exact k
        obtain ⟨_, _, ⟨T600, L600, k600, n600⟩, -, X600, ⟨Lc600, hQ600, l600, y600, z600⟩, st600⟩ := X587.specialBack hx (y := (⟨"java/lang/String", "<init>", "([C)V"⟩ : MethodName)) rfl hown (mvT hZ (hw _ (List.mem_of_getElem? (i := 10) rfl))) (mvT hZ (hw _ (List.mem_of_getElem? (i := 11) rfl))) (mvT hZ (hw _ (List.mem_of_getElem? (i := 12) rfl))) (by decide) (backOf (W := 3) (rm15 l Z a0 hw [] b587 b433 (3 : Int32) kc_b433 .null (.int (0 : Int32)) ccs (own_l3 c0 c1 c2) 3 h587 n0 Z596 A587 F595 F594 g_b587 F589 (S_cs.ext F588.2) hcc rfl (by decide) (by decide) (own_l3s kc0 kc1 kc2 (by decide))) hZ (hw _ (List.mem_of_getElem? (i := 12) rfl)) (hw _ (List.mem_of_getElem? (i := 9) rfl)) (by decide) (by decide)) (g := (mkF m 237 #[vI p1, vI p2, vI p3, vJ q4, vS, vJ q5, vS, vI p6, vI nx, vI mx, vI kx, vI px, vI c0, vI off, vI c1, vI dx, vI c2, vJ w0, vS, vJ w1, vS, vR b433, vR b551, vU, vU, vU, vU, vU, vU, vU, vU, vU, vU] [(.ref b433), (.ref b587), (.ref b587), (.ref bA), (.ref bA)])) rfl (by rw [hml]; rfl) (Steps.refl _) (a := b587) (argsL := [(.ref b433)]) (rest := [(.ref b587), (.ref bA), (.ref bA)]) (lenOf pd_11 rfl) rfl (by show 2 * 0 + _ ≤ _; exact Nat.le_of_eq rfl) (hb hby at_237) (fun _ _ => ⟨rfl, e587, (by decide : 4 + 1 ≤ _), (by decide : 11 + 4 ≤ _)⟩)
        dsimp only [Pt.U, Pt.locs, Pt.cells, Pt.slots] at X600 l600 y600 z600 st600 hQ600
        subst l600 y600 z600
        obtain ⟨b_600, kb_600, rfl, N600q, K600, s600_b, Y600_0, Y600_1, Y600_2, Y600_3, Y600_4⟩ := hQ600
        have F601 : Old Z n0 T600.heap := F588.keep K600 (allS g_b587 all0)
        have F602 : own_Af Z T600.heap b433 kc_b433 .char (3 : Int32) (fun i => Value.int ((own_l3 c0 c1 c2) i)) := F589.keep K600 (ninS ne_b433_b587 nin0)
        have F603 : own_Af Z T600.heap b551 kc_b551 .long (2 : Int32) (fun i => Value.long ((own_w2 w0 w1) i)) := F590.keep K600 (ninS ne_b551_b587 nin0)
        have F604 : Exa Z T600.heap bA "com/example/basewright/basewright/Alphabet" := F591.keep K600
        have F605 : Fld Z T600.heap bA "com/example/basewright/basewright/Alphabet" "characters" "[B" .null := F592.keep K600 (ninS ne_bA_b587 nin0)
        have F606 : Fld Z T600.heap bA "com/example/basewright/basewright/Alphabet" "values" "[B" .null := F593.keep K600 (ninS ne_bA_b587 nin0)
        have F607 : Exa Z T600.heap b587 "java/lang/String" := A587.keep K600
        have Z608 : n0 ≤ T600.heap.size := Nat.le_trans Z596 K600.1
        have K609 : Keep h0 T600.heap [] := K597.trans K600 (allS (Or.inr sz_b587) all0)
        have g_b_600 : n0 ≤ b_600 := Nat.le_trans Z596 s600_b
        have sz_b_600 : h0.size ≤ b_600 := Nat.le_trans K597.1 s600_b
        have ne_b433_b_600 : b433 ≠ b_600 := Nat.ne_of_lt (Nat.lt_of_lt_of_le F589.lt s600_b)
        have ne_b551_b_600 : b551 ≠ b_600 := Nat.ne_of_lt (Nat.lt_of_lt_of_le F590.lt s600_b)
        have ne_bA_b_600 : bA ≠ b_600 := Nat.ne_of_lt (Nat.lt_of_lt_of_le F591.lt s600_b)
        have ne_b587_b_600 : b587 ≠ b_600 := Nat.ne_of_lt (Nat.lt_of_lt_of_le A587.lt s600_b)
        have N600 := Fr.app N567 N600q
        have P610 : ∀ t, Steps p.tables e below (T600.setTop (mkF m 240 #[vI p1, vI p2, vI p3, vJ q4, vS, vJ q5, vS, vI p6, vI nx, vI mx, vI kx, vI px, vI c0, vI off, vI c1, vI dx, vI c2, vJ w0, vS, vJ w1, vS, vR b433, vR b551, vU, vU, vU, vU, vU, vU, vU, vU, vU, vU] [(.ref b587), (.ref bA), (.ref bA)])) t → Steps p.tables e below (s₁.setTop (entryFrame m #[(.int p1), (.int p2), (.int p3), (.long q4), (.long q5), (.int p6)] maxLocals)) t := fun t k => P599 _ (st600.trans k)
        obtain ⟨_, _, ⟨T611, L611, k611, n611⟩, -, X611, ⟨Lc611, hQ611, l611, y611, z611⟩, st611⟩ := X600.specialBack hx (y := (⟨"com/example/basewright/basewright/Alphabet", "<init>", "(Ljava/lang/String;)V"⟩ : MethodName)) rfl hown (mvT hZ (hw _ (List.mem_of_getElem? (i := 36) rfl))) (mvT hZ (hw _ (List.mem_of_getElem? (i := 37) rfl))) (mvT hZ (hw _ (List.mem_of_getElem? (i := 38) rfl))) (by decide) (backOf (W := 1) (rm27 l Z a0 hw [] bA b587 .null .null b_600 (3 : Int32) kb_600 (own_l3 c0 c1 c2) 3 wA wU wI ccs T600.heap n0 Z608 F601 F604 F605 F606 g_bA Y600_0 Y600_1 Y600_2 Y600_3 Y600_4 rfl (by decide) (own_l3s kc0 kc1 kc2 (by decide)) S_H S_wU S_wI S_wA neU neI S_cs hcc) hZ (hw _ (List.mem_of_getElem? (i := 38) rfl)) (hw _ (List.mem_of_getElem? (i := 6) rfl)) (by decide) (by decide)) (g := (mkF m 240 #[vI p1, vI p2, vI p3, vJ q4, vS, vJ q5, vS, vI p6, vI nx, vI mx, vI kx, vI px, vI c0, vI off, vI c1, vI dx, vI c2, vJ w0, vS, vJ w1, vS, vR b433, vR b551, vU, vU, vU, vU, vU, vU, vU, vU, vU, vU] [(.ref b587), (.ref bA), (.ref bA)])) rfl (by rw [hml]; rfl) (Steps.refl _) (a := bA) (argsL := [(.ref b587)]) (rest := [(.ref bA)]) (lenOf pd_12 rfl) rfl (by show 2 * 0 + _ ≤ _; exact Nat.le_of_eq rfl) (hb hby at_240) (fun _ _ => ⟨rfl, rfl, (by decide : 5 + 2 ≤ _), (by decide : 15 + 260 ≤ _)⟩)
        dsimp only [Pt.U, Pt.locs, Pt.cells, Pt.slots] at X611 l611 y611 z611 st611 hQ611
        subst l611 y611 z611
        obtain ⟨bc_611, bz_611, kz_611, rfl, N611q, K611, s611_bc, s611_bz, Y611_0, Y611_1, Y611_2, Y611_3, Y611_4⟩ := hQ611
        have F612 : Old Z n0 T611.heap := F601.keep K611 (allS g_bA all0)
        have F613 : own_Af Z T611.heap b433 kc_b433 .char (3 : Int32) (fun i => Value.int ((own_l3 c0 c1 c2) i)) := F602.keep K611 (ninS ne_b433_bA nin0)
        have F614 : own_Af Z T611.heap b551 kc_b551 .long (2 : Int32) (fun i => Value.long ((own_w2 w0 w1) i)) := F603.keep K611 (ninS ne_b551_bA nin0)
        have F615 : Exa Z T611.heap bA "com/example/basewright/basewright/Alphabet" := F604.keep K611
        have F616 : Exa Z T611.heap b587 "java/lang/String" := Y600_0.keep K611
        have F617 : Fld Z T611.heap b587 "java/lang/String" "value" "[B" (.ref b_600) := Y600_1.keep K611 (ninS (Ne.symm ne_bA_b587) nin0)
        have F618 : Fld Z T611.heap b587 "java/lang/String" "coder" "B" (.int (0 : Int32)) := Y600_2.keep K611 (ninS (Ne.symm ne_bA_b587) nin0)
        have F619 : own_Af Z T611.heap b_600 kb_600 .byte (3 : Int32) (fun i => Value.int ((own_l3 c0 c1 c2) i)) := Y600_3.keep K611 (ninS (Ne.symm ne_bA_b_600) nin0)
        have F620 : Exa Z T611.heap b_600 "[B" := Y600_4.keep K611
        have Z621 : n0 ≤ T611.heap.size := Nat.le_trans Z608 K611.1
        have K622 : Keep h0 T611.heap [] := K609.trans K611 (allS (Or.inr sz_bA) all0)
        have g_bc_611 : n0 ≤ bc_611 := Nat.le_trans Z608 s611_bc
        have sz_bc_611 : h0.size ≤ bc_611 := Nat.le_trans K609.1 s611_bc
        have ne_b433_bc_611 : b433 ≠ bc_611 := Nat.ne_of_lt (Nat.lt_of_lt_of_le F602.lt s611_bc)
        have ne_b551_bc_611 : b551 ≠ bc_611 := Nat.ne_of_lt (Nat.lt_of_lt_of_le F603.lt s611_bc)
        have ne_bA_bc_611 : bA ≠ bc_611 := Nat.ne_of_lt (Nat.lt_of_lt_of_le F604.lt s611_bc)
        have ne_b587_bc_611 : b587 ≠ bc_611 := Nat.ne_of_lt (Nat.lt_of_lt_of_le Y600_0.lt s611_bc)
        have ne_b_600_bc_611 : b_600 ≠ bc_611 := Nat.ne_of_lt (Nat.lt_of_lt_of_le Y600_3.lt s611_bc)
        have g_bz_611 : n0 ≤ bz_611 := Nat.le_trans Z608 s611_bz
        have sz_bz_611 : h0.size ≤ bz_611 := Nat.le_trans K609.1 s611_bz
        have ne_b433_bz_611 : b433 ≠ bz_611 := Nat.ne_of_lt (Nat.lt_of_lt_of_le F602.lt s611_bz)
        have ne_b551_bz_611 : b551 ≠ bz_611 := Nat.ne_of_lt (Nat.lt_of_lt_of_le F603.lt s611_bz)
        have ne_bA_bz_611 : bA ≠ bz_611 := Nat.ne_of_lt (Nat.lt_of_lt_of_le F604.lt s611_bz)
        have ne_b587_bz_611 : b587 ≠ bz_611 := Nat.ne_of_lt (Nat.lt_of_lt_of_le Y600_0.lt s611_bz)
        have ne_b_600_bz_611 : b_600 ≠ bz_611 := Nat.ne_of_lt (Nat.lt_of_lt_of_le Y600_3.lt s611_bz)
        have N611 := Fr.app N600 N611q
        have P623 : ∀ t, Steps p.tables e below (T611.setTop (mkF m 243 #[vI p1, vI p2, vI p3, vJ q4, vS, vJ q5, vS, vI p6, vI nx, vI mx, vI kx, vI px, vI c0, vI off, vI c1, vI dx, vI c2, vJ w0, vS, vJ w1, vS, vR b433, vR b551, vU, vU, vU, vU, vU, vU, vU, vU, vU, vU] [(.ref bA)])) t → Steps p.tables e below (s₁.setTop (entryFrame m #[(.int p1), (.int p2), (.int p3), (.long q4), (.long q5), (.int p6)] maxLocals)) t := fun t k => P610 _ (st611.trans k)
        have P624 : ∀ t, Steps p.tables e below (T611.setTop (mkF m 249 #[vI p1, vI p2, vI p3, vJ q4, vS, vJ q5, vS, vI p6, vI nx, vI mx, vI kx, vI px, vI c0, vI off, vI c1, vI dx, vI c2, vJ w0, vS, vJ w1, vS, vR b433, vR b551, vR bA, vU, vU, vU, vU, vU, vU, vU, vU, vU] [(.ref b551), (.ref bA)])) t → Steps p.tables e below (s₁.setTop (entryFrame m #[(.int p1), (.int p2), (.int p3), (.long q4), (.long q5), (.int p6)] maxLocals)) t := by
          intro t k
          refine P623 _ ?_
          refine XS.astore X611.here hx rfl (hb hby at_243) rfl rfl (l' := #[vI p1, vI p2, vI p3, vJ q4, vS, vJ q5, vS, vI p6, vI nx, vI mx, vI kx, vI px, vI c0, vI off, vI c1, vI dx, vI c2, vJ w0, vS, vJ w1, vS, vR b433, vR b551, vR bA, vU, vU, vU, vU, vU, vU, vU, vU, vU]) rfl ?_
          show Steps p.tables e below (T611.setTop (mkF m 245 #[vI p1, vI p2, vI p3, vJ q4, vS, vJ q5, vS, vI p6, vI nx, vI mx, vI kx, vI px, vI c0, vI off, vI c1, vI dx, vI c2, vJ w0, vS, vJ w1, vS, vR b433, vR b551, vR bA, vU, vU, vU, vU, vU, vU, vU, vU, vU] [])) _
          refine XS.aload X611.here hx rfl (hb hby at_245) rfl rfl ?_
          show Steps p.tables e below (T611.setTop (mkF m 247 #[vI p1, vI p2, vI p3, vJ q4, vS, vJ q5, vS, vI p6, vI nx, vI mx, vI kx, vI px, vI c0, vI off, vI c1, vI dx, vI c2, vJ w0, vS, vJ w1, vS, vR b433, vR b551, vR bA, vU, vU, vU, vU, vU, vU, vU, vU, vU] [(.ref bA)])) _
          refine XS.aload X611.here hx rfl (hb hby at_247) rfl rfl ?_
          show Steps p.tables e below (T611.setTop (mkF m 249 #[vI p1, vI p2, vI p3, vJ q4, vS, vJ q5, vS, vI p6, vI nx, vI mx, vI kx, vI px, vI c0, vI off, vI c1, vI dx, vI c2, vJ w0, vS, vJ w1, vS, vR b433, vR b551, vR bA, vU, vU, vU, vU, vU, vU, vU, vU, vU] [(.ref b551), (.ref bA)])) _
          exact k
        obtain ⟨cq625, kq625, qa625, qb625, qc625⟩ := isOf hZ rfl Y611_0
        obtain ⟨_, _, ⟨T625, L625, k625, n625⟩, -, X625, ⟨Lc625, hQ625, l625, y625, z625⟩, st625⟩ := X611.virtualBack hx (y := (⟨"com/example/basewright/basewright/Alphabet", "weightedValues", "([J)[J"⟩ : MethodName)) (z := (⟨"com/example/basewright/basewright/Alphabet", "weightedValues", "([J)[J"⟩ : MethodName)) hown (mvT hZ (hw _ (List.mem_of_getElem? (i := 85) rfl))) (mvT hZ (hw _ (List.mem_of_getElem? (i := 86) rfl))) (notFace_of_selects (args := #[]) (mvT hZ (hw _ (List.mem_of_getElem? (i := 88) rfl)))) (mvT hZ (hw _ (List.mem_of_getElem? (i := 88) rfl))) (mvT hZ (hw _ (List.mem_of_getElem? (i := 87) rfl))) (by decide) (backOf (W := 0) (rm29 l Z a0 hw [] bA b551 bz_611 (2 : Int32) kz_611 kc_b551 (own_vf (own_l3 c0 c1 c2) 3) (own_w2 w0 w1) 2 T611.heap n0 Z621 Y611_2 Y611_4 F614 rfl (by decide)) hZ (hw _ (List.mem_of_getElem? (i := 89) rfl)) (hw _ (List.mem_of_getElem? (i := 6) rfl)) (by decide) (by decide)) qa625 qc625 (g := (mkF m 249 #[vI p1, vI p2, vI p3, vJ q4, vS, vJ q5, vS, vI p6, vI nx, vI mx, vI kx, vI px, vI c0, vI off, vI c1, vI dx, vI c2, vJ w0, vS, vJ w1, vS, vR b433, vR b551, vR bA, vU, vU, vU, vU, vU, vU, vU, vU, vU] [(.ref b551), (.ref bA)])) rfl (by rw [hml]; rfl) (Steps.refl _) (argsL := [(.ref b551)]) (rest := []) (lenOf pd_13 rfl) rfl (by show 2 * 0 + _ ≤ _; exact Nat.le_of_eq rfl) (hb hby at_249) (fun _ _ => ⟨rfl, rfl, (by decide : 7 + 1 ≤ _), (by decide : 275 + 512 ≤ _)⟩)
        dsimp only [Pt.U, Pt.locs, Pt.cells, Pt.slots] at X625 l625 y625 z625 st625 hQ625
        subst l625 y625 z625
        obtain ⟨b_625, kp_625, nq_625, rfl, N625q, K625, s625_b, Y625_0, Y625_1⟩ := hQ625
        have F626 : Old Z n0 T625.heap := F612.keep K625 all0
        have F627 : own_Af Z T625.heap b433 kc_b433 .char (3 : Int32) (fun i => Value.int ((own_l3 c0 c1 c2) i)) := F613.keep K625 nin0
        have F628 : own_Af Z T625.heap b551 kc_b551 .long (2 : Int32) (fun i => Value.long ((own_w2 w0 w1) i)) := F614.keep K625 nin0
        have F629 : Exa Z T625.heap bA "com/example/basewright/basewright/Alphabet" := Y611_0.keep K625
        have F630 : Exa Z T625.heap b587 "java/lang/String" := F616.keep K625
        have F631 : Fld Z T625.heap b587 "java/lang/String" "value" "[B" (.ref b_600) := F617.keep K625 nin0
        have F632 : Fld Z T625.heap b587 "java/lang/String" "coder" "B" (.int (0 : Int32)) := F618.keep K625 nin0
        have F633 : own_Af Z T625.heap b_600 kb_600 .byte (3 : Int32) (fun i => Value.int ((own_l3 c0 c1 c2) i)) := F619.keep K625 nin0
        have F634 : Exa Z T625.heap b_600 "[B" := F620.keep K625
        have F635 : Fld Z T625.heap bA "com/example/basewright/basewright/Alphabet" "characters" "[B" (.ref bc_611) := Y611_1.keep K625 nin0
        have F636 : Fld Z T625.heap bA "com/example/basewright/basewright/Alphabet" "values" "[B" (.ref bz_611) := Y611_2.keep K625 nin0
        have F637 : own_Af Z T625.heap bc_611 kb_600 .byte (3 : Int32) (fun i => Value.int ((own_l3 c0 c1 c2) i)) := Y611_3.keep K625 nin0
        have F638 : own_Af Z T625.heap bz_611 kz_611 .byte (256 : Int32) (fun j => Value.int (own_vf (own_l3 c0 c1 c2) 3 j)) := Y611_4.keep K625 nin0
        have Z639 : n0 ≤ T625.heap.size := Nat.le_trans Z621 K625.1
        have K640 : Keep h0 T625.heap [] := K622.trans K625 all0
        have g_b_625 : n0 ≤ b_625 := Nat.le_trans Z621 s625_b
        have sz_b_625 : h0.size ≤ b_625 := Nat.le_trans K622.1 s625_b
        have ne_b433_b_625 : b433 ≠ b_625 := Nat.ne_of_lt (Nat.lt_of_lt_of_le F613.lt s625_b)
        have ne_b551_b_625 : b551 ≠ b_625 := Nat.ne_of_lt (Nat.lt_of_lt_of_le F614.lt s625_b)
        have ne_bA_b_625 : bA ≠ b_625 := Nat.ne_of_lt (Nat.lt_of_lt_of_le Y611_0.lt s625_b)
        have ne_b587_b_625 : b587 ≠ b_625 := Nat.ne_of_lt (Nat.lt_of_lt_of_le F616.lt s625_b)
        have ne_b_600_b_625 : b_600 ≠ b_625 := Nat.ne_of_lt (Nat.lt_of_lt_of_le F619.lt s625_b)
        have ne_bc_611_b_625 : bc_611 ≠ b_625 := Nat.ne_of_lt (Nat.lt_of_lt_of_le Y611_3.lt s625_b)
        have ne_bz_611_b_625 : bz_611 ≠ b_625 := Nat.ne_of_lt (Nat.lt_of_lt_of_le Y611_4.lt s625_b)
        have N625 := Fr.app N611 N625q
        have P641 : ∀ t, Steps p.tables e below (T625.setTop (mkF m 252 #[vI p1, vI p2, vI p3, vJ q4, vS, vJ q5, vS, vI p6, vI nx, vI mx, vI kx, vI px, vI c0, vI off, vI c1, vI dx, vI c2, vJ w0, vS, vJ w1, vS, vR b433, vR b551, vR bA, vU, vU, vU, vU, vU, vU, vU, vU, vU] [(.ref b_625)])) t → Steps p.tables e below (s₁.setTop (entryFrame m #[(.int p1), (.int p2), (.int p3), (.long q4), (.long q5), (.int p6)] maxLocals)) t := fun t k => P624 _ (st625.trans k)
        have P642 : ∀ t, Steps p.tables e below (T625.setTop (mkF m 254 #[vI p1, vI p2, vI p3, vJ q4, vS, vJ q5, vS, vI p6, vI nx, vI mx, vI kx, vI px, vI c0, vI off, vI c1, vI dx, vI c2, vJ w0, vS, vJ w1, vS, vR b433, vR b551, vR bA, vR b_625, vU, vU, vU, vU, vU, vU, vU, vU] [])) t → Steps p.tables e below (s₁.setTop (entryFrame m #[(.int p1), (.int p2), (.int p3), (.long q4), (.long q5), (.int p6)] maxLocals)) t := by
          intro t k
          refine P641 _ ?_
          refine XS.astore X625.here hx rfl (hb hby at_252) rfl rfl (l' := #[vI p1, vI p2, vI p3, vJ q4, vS, vJ q5, vS, vI p6, vI nx, vI mx, vI kx, vI px, vI c0, vI off, vI c1, vI dx, vI c2, vJ w0, vS, vJ w1, vS, vR b433, vR b551, vR bA, vR b_625, vU, vU, vU, vU, vU, vU, vU, vU]) rfl ?_
          show Steps p.tables e below (T625.setTop (mkF m 254 #[vI p1, vI p2, vI p3, vJ q4, vS, vJ q5, vS, vI p6, vI nx, vI mx, vI kx, vI px, vI c0, vI off, vI c1, vI dx, vI c2, vJ w0, vS, vJ w1, vS, vR b433, vR b551, vR bA, vR b_625, vU, vU, vU, vU, vU, vU, vU, vU] [])) _
          exact k
        have hq24 := (own_m8 (mm := 2) Y625_1 rfl (by decide)).1
        have hlen : nq_625 = (mx * (256 : Int32)) := by rw [Y625_1, hmv]; rfl
        obtain ⟨T643, h643, lo643, X643, e643, N643, K643, q643, st643⟩ := tlA (by decide) (by decide) p1 p2 p3 q4 q5 p6 nx mx kx px c0 off c1 dx c2 w0 w1 b433 b551 bA b_625 nq_625 kp_625 3 2 kk X625 hx hZ hw hby hml hown rfl N625 Z639 Y625_0 hq24 hlen hnn (by decide) hkk hkm (by decide) hk1 kc0 kc1 kc2 hne3 kpx kp8 kp9
        have P644 : ∀ t, Steps p.tables e below (T643.setTop (mkF m 423 #[vI p1, vI p2, vI p3, vJ q4, vS, vJ q5, vS, vI p6, vI nx, vI mx, vI kx, vI px, vI c0, vI off, vI c1, vI dx, vI c2, vJ w0, vS, vJ w1, vS, vR b433, vR b551, vR bA, vR b_625, .val (.long (if kx = (0 : Int32) then w0 else w1)), vS, .val (.int (kx <<< ((8 : Int32) &&& 31))), .val (.int (1 : Int32)), vU, vU, vU, vU] [])) t → Steps p.tables e below (s₁.setTop (entryFrame m #[(.int p1), (.int p2), (.int p3), (.long q4), (.long q5), (.int p6)] maxLocals)) t := fun t k => P642 _ (st643 _ k)
        have Z645 : n0 ≤ h643.size := Nat.le_trans Z639 K643.1
        have P646 : ∀ t, Steps p.tables e below (T643.setTop (mkF m 429 #[vI p1, vI p2, vI p3, vJ q4, vS, vJ q5, vS, vI p6, vI nx, vI mx, vI kx, vI px, vI c0, vI off, vI c1, vI dx, vI c2, vJ w0, vS, vJ w1, vS, vR b433, vR b551, vR bA, vR b_625, .val (.long (if kx = (0 : Int32) then w0 else w1)), vS, .val (.int (kx <<< ((8 : Int32) &&& 31))), .val (.int (1 : Int32)), vU, vU, vU, vU] [])) t → Steps p.tables e below (s₁.setTop (entryFrame m #[(.int p1), (.int p2), (.int p3), (.long q4), (.long q5), (.int p6)] maxLocals)) t := by
          intro t k
          refine P644 _ ?_
          refine XS.iload X643.here hx rfl (hb hby at_423) rfl ?_
          show Steps p.tables e below (T643.setTop (mkF m 425 #[vI p1, vI p2, vI p3, vJ q4, vS, vJ q5, vS, vI p6, vI nx, vI mx, vI kx, vI px, vI c0, vI off, vI c1, vI dx, vI c2, vJ w0, vS, vJ w1, vS, vR b433, vR b551, vR bA, vR b_625, .val (.long (if kx = (0 : Int32) then w0 else w1)), vS, .val (.int (kx <<< ((8 : Int32) &&& 31))), .val (.int (1 : Int32)), vU, vU, vU, vU] [(.int mx)])) _
          refine XS.iconst X643.here hx rfl (hb hby at_425) ?_
          show Steps p.tables e below (T643.setTop (mkF m 426 #[vI p1, vI p2, vI p3, vJ q4, vS, vJ q5, vS, vI p6, vI nx, vI mx, vI kx, vI px, vI c0, vI off, vI c1, vI dx, vI c2, vJ w0, vS, vJ w1, vS, vR b433, vR b551, vR bA, vR b_625, .val (.long (if kx = (0 : Int32) then w0 else w1)), vS, .val (.int (kx <<< ((8 : Int32) &&& 31))), .val (.int (1 : Int32)), vU, vU, vU, vU] [(.int (2 : Int32)), (.int mx)])) _
          refine XS.icmpNo X643.here hx rfl (hb hby at_426) rfl (XT.ii_ne_f hmv) ?_
          show Steps p.tables e below (T643.setTop (mkF m 429 #[vI p1, vI p2, vI p3, vJ q4, vS, vJ q5, vS, vI p6, vI nx, vI mx, vI kx, vI px, vI c0, vI off, vI c1, vI dx, vI c2, vJ w0, vS, vJ w1, vS, vR b433, vR b551, vR bA, vR b_625, .val (.long (if kx = (0 : Int32) then w0 else w1)), vS, .val (.int (kx <<< ((8 : Int32) &&& 31))), .val (.int (1 : Int32)), vU, vU, vU, vU] [])) _
          exact k
        obtain ⟨T647, h647, lo647, X647, e647, N647, K647, q647, st647⟩ := tlB (by decide) (by decide) p1 p2 p3 q4 q5 p6 nx mx kx px c0 off c1 dx c2 w0 w1 b433 b551 bA b_625 nq_625 kp_625 3 2 kk X643 hx hZ hw hby hml hown e643 N643 Z645 q643 hq24 hlen hnn (by decide) hkk hkm (by decide) hk1 kc0 kc1 kc2 hne3 kpx kp8 kp9 rfl
        have P648 : ∀ t, Steps p.tables e below (T647.setTop (mkF m 576 #[vI p1, vI p2, vI p3, vJ q4, vS, vJ q5, vS, vI p6, vI nx, vI mx, vI kx, vI px, vI c0, vI off, vI c1, vI dx, vI c2, vJ w0, vS, vJ w1, vS, vR b433, vR b551, vR bA, vR b_625, .val (.long (if kx = (0 : Int32) then w0 else w1)), vS, .val (.int (kx <<< ((8 : Int32) &&& 31))), .val (.int (1 : Int32)), .val (.int ((1 : Int32) - kx)), .val (.long (if ((1 : Int32) - kx) = (0 : Int32) then w0 else w1)), vS, .val (.int (((1 : Int32) - kx) <<< ((8 : Int32) &&& 31)))] [])) t → Steps p.tables e below (s₁.setTop (entryFrame m #[(.int p1), (.int p2), (.int p3), (.long q4), (.long q5), (.int p6)] maxLocals)) t := fun t k => P646 _ (st647 _ k)
        have Z649 : n0 ≤ h647.size := Nat.le_trans Z645 K647.1
        have P650 : ∀ t, Steps p.tables e below (T647.setTop (mkF m 578 #[vI p1, vI p2, vI p3, vJ q4, vS, vJ q5, vS, vI p6, vI nx, vI mx, vI kx, vI px, vI c0, vI off, vI c1, vI dx, vI c2, vJ w0, vS, vJ w1, vS, vR b433, vR b551, vR bA, vR b_625, .val (.long (if kx = (0 : Int32) then w0 else w1)), vS, .val (.int (kx <<< ((8 : Int32) &&& 31))), .val (.int (1 : Int32)), .val (.int ((1 : Int32) - kx)), .val (.long (if ((1 : Int32) - kx) = (0 : Int32) then w0 else w1)), vS, .val (.int (((1 : Int32) - kx) <<< ((8 : Int32) &&& 31)))] [(.int (1 : Int32))])) t → Steps p.tables e below (s₁.setTop (entryFrame m #[(.int p1), (.int p2), (.int p3), (.long q4), (.long q5), (.int p6)] maxLocals)) t := by
          intro t k
          refine P648 _ ?_
          refine XS.iload X647.here hx rfl (hb hby at_576) rfl ?_
          show Steps p.tables e below (T647.setTop (mkF m 578 #[vI p1, vI p2, vI p3, vJ q4, vS, vJ q5, vS, vI p6, vI nx, vI mx, vI kx, vI px, vI c0, vI off, vI c1, vI dx, vI c2, vJ w0, vS, vJ w1, vS, vR b433, vR b551, vR bA, vR b_625, .val (.long (if kx = (0 : Int32) then w0 else w1)), vS, .val (.int (kx <<< ((8 : Int32) &&& 31))), .val (.int (1 : Int32)), .val (.int ((1 : Int32) - kx)), .val (.long (if ((1 : Int32) - kx) = (0 : Int32) then w0 else w1)), vS, .val (.int (((1 : Int32) - kx) <<< ((8 : Int32) &&& 31)))] [(.int (1 : Int32))])) _
          exact k
        obtain ⟨fs, hr, hrun, hended, hW, hsame⟩ := X647.leave (v := some (.int (1 : Int32))) (fun h => by rw [Bd.returns] at h; cases h)
        refine ⟨_, _, P650 _ ?_, hrun, hended, _, _, rfl, ?_, ⟨_, rfl⟩, hW, hsame.mono (by decide) (by decide)⟩
        · exact retN X647 hx (t := .boolean) Bd.returns (by simp) (hb hby at_578) hr
        · show Q0 Z p1 p2 p3 q4 q5 p6 ccs wA wU wI h0 n0 _ T647.heap _
          rw [e647]
          exact ⟨rfl, N647⟩
def Q0z (Z : State) (p1 : Int32) (p2 : Int32) (p3 : Int32) (q4 : Int64) (q5 : Int64) (p6 : Int32) (ccs : Int32) (wA : Addr) (wU : Addr) (wI : Addr) (h0 : Heap) (n0 : Nat) (v : Option Value) (h : Heap) (L : List Loc) : Prop := v = some (.int 1) ∧ Fr n0 L
set_option maxRecDepth 65536 in
set_option maxHeartbeats 40000000 in
theorem rm0z (l : Launch) (Z : State) (a0 : Array Value) (hw : ∀ d ∈ tables_1, d.before a0 Z = true) (ws : List Jvm.Cond) (p1 : Int32) (p2 : Int32) (p3 : Int32) (q4 : Int64) (q5 : Int64) (p6 : Int32) (ccs : Int32) (wA : Addr) (wU : Addr) (wI : Addr) (h0 : Heap) (n0 : Nat) (Z0 : n0 ≤ h0.size) (O0 : Old Z n0 h0) (S_H : Sta Z Z.heap "java/nio/charset/StandardCharsets" "US_ASCII" "Ljava/nio/charset/Charset;" (.ref wA)) (S_wU : Sta Z Z.heap "sun/nio/cs/UTF_8" "INSTANCE" "Lsun/nio/cs/UTF_8;" (.ref wU)) (S_wI : Sta Z Z.heap "sun/nio/cs/ISO_8859_1" "INSTANCE" "Lsun/nio/cs/ISO_8859_1;" (.ref wI)) (S_wA : Sta Z Z.heap "sun/nio/cs/US_ASCII" "INSTANCE" "Lsun/nio/cs/US_ASCII;" (.ref wA)) (neU : ¬ wA = wU) (neI : ¬ wA = wI) (S_cs : Sta Z Z.heap "java/lang/String" "COMPACT_STRINGS" "Z" (.int ccs)) (hcc : ¬ ccs = (0 : Int32)) (hfl : (p6 &&& (3 : Int32)) = (0 : Int32)) :
    MetFree l x (head1 (Jvm.Cond.code x code maxLocals ret :: ws) room_1) (fun a U => a = #[(.int p1), (.int p2), (.int p3), (.long q4), (.long q5), (.int p6)] ∧ Z.Warmed39 U.vm ∧ U.heap = h0 ∧ CHv Z consts_1 U.vm h0) (fun _ _ _ _ _ => True) (fun _ U o U' => ∃ v L, o = .returned v ∧ Q0z Z p1 p2 p3 q4 q5 p6 ccs wA wU wI h0 n0 v U'.heap L ∧ ReturnedEndW U o U' L room_1.cells room_1.slots) := by
  refine MetFree.of_bodySF (plainFor_of_name pn_0) hisR ?_
  intro p e s m args below meth c s₁ Bd hml0 hP hK
  obtain ⟨rfl, hZ, hh, hC⟩ := hP
  have hx := Bd.exec
  have hby := Bd.bytes
  have hml : c.maxLocals = 33 := hml0
  have hown : s.vm.findClass "com/example/basewright/basewright/AlphabetWeightedValuesPinLaw" = some m.cls := findClass_of_methodNamed Bd.named
  have hnm := (name_of_methodNamed Bd.named Bd.method).1
  have X0 : Stand p l e room_1 s m #[(.int p1), (.int p2), (.int p3), (.long q4), (.long q5), (.int p6)] below meth c s₁ [] 0 0 := Stand.of_body Bd
  have e0 : s₁.heap = h0 := by rw [← hh, Bd.state]; rfl
  have N0 := Fr.nil n0
  have K0 : Keep h0 h0 [] := Keep.refl _ _
  have P0 : ∀ t, Steps p.tables e below (s₁.setTop (mkF m 0 #[vI p1, vI p2, vI p3, vJ q4, vS, vJ q5, vS, vI p6, vU, vU, vU, vU, vU, vU, vU, vU, vU, vU, vU, vU, vU, vU, vU, vU, vU, vU, vU, vU, vU, vU, vU, vU, vU] [])) t → Steps p.tables e below (s₁.setTop (entryFrame m #[(.int p1), (.int p2), (.int p3), (.long q4), (.long q5), (.int p6)] maxLocals)) t := fun t k => castTop (ef_0 m p1 p2 p3 q4 q5 p6) k
  have P1 : ∀ t, Steps p.tables e below (s₁.setTop (mkF m 6 #[vI p1, vI p2, vI p3, vJ q4, vS, vJ q5, vS, vI p6, .val (.int (p6 &&& (3 : Int32))), vU, vU, vU, vU, vU, vU, vU, vU, vU, vU, vU, vU, vU, vU, vU, vU, vU, vU, vU, vU, vU, vU, vU, vU] [])) t → Steps p.tables e below (s₁.setTop (entryFrame m #[(.int p1), (.int p2), (.int p3), (.long q4), (.long q5), (.int p6)] maxLocals)) t := by
    intro t k
    refine P0 _ ?_
    refine XS.iload X0.here hx rfl (hb hby at_0) rfl ?_
    show Steps p.tables e below (s₁.setTop (mkF m 2 #[vI p1, vI p2, vI p3, vJ q4, vS, vJ q5, vS, vI p6, vU, vU, vU, vU, vU, vU, vU, vU, vU, vU, vU, vU, vU, vU, vU, vU, vU, vU, vU, vU, vU, vU, vU, vU, vU] [(.int p6)])) _
    refine XS.iconst X0.here hx rfl (hb hby at_2) ?_
    show Steps p.tables e below (s₁.setTop (mkF m 3 #[vI p1, vI p2, vI p3, vJ q4, vS, vJ q5, vS, vI p6, vU, vU, vU, vU, vU, vU, vU, vU, vU, vU, vU, vU, vU, vU, vU, vU, vU, vU, vU, vU, vU, vU, vU, vU, vU] [(.int (3 : Int32)), (.int p6)])) _
    refine XS.iand X0.here hx rfl (hb hby at_3) rfl ?_
    show Steps p.tables e below (s₁.setTop (mkF m 4 #[vI p1, vI p2, vI p3, vJ q4, vS, vJ q5, vS, vI p6, vU, vU, vU, vU, vU, vU, vU, vU, vU, vU, vU, vU, vU, vU, vU, vU, vU, vU, vU, vU, vU, vU, vU, vU, vU] [(.int (p6 &&& (3 : Int32)))])) _
    refine XS.istore X0.here hx rfl (hb hby at_4) rfl (l' := #[vI p1, vI p2, vI p3, vJ q4, vS, vJ q5, vS, vI p6, .val (.int (p6 &&& (3 : Int32))), vU, vU, vU, vU, vU, vU, vU, vU, vU, vU, vU, vU, vU, vU, vU, vU, vU, vU, vU, vU, vU, vU, vU, vU]) rfl ?_
    show Steps p.tables e below (s₁.setTop (mkF m 6 #[vI p1, vI p2, vI p3, vJ q4, vS, vJ q5, vS, vI p6, .val (.int (p6 &&& (3 : Int32))), vU, vU, vU, vU, vU, vU, vU, vU, vU, vU, vU, vU, vU, vU, vU, vU, vU, vU, vU, vU, vU, vU, vU, vU] [])) _
    exact k
  obtain ⟨nx, hnx⟩ : ∃ z : Int32, z = (p6 &&& (3 : Int32)) := ⟨_, rfl⟩
  rw [← hnx] at P1
  have hz0 : nx = (0 : Int32) := hnx.trans hfl
  have P2 : ∀ t, Steps p.tables e below (s₁.setTop (mkF m 16 #[vI p1, vI p2, vI p3, vJ q4, vS, vJ q5, vS, vI p6, vI nx, .val (.int ((1 : Int32) + ((p6 >>> ((2 : Int32) &&& 31)) &&& (1 : Int32)))), vU, vU, vU, vU, vU, vU, vU, vU, vU, vU, vU, vU, vU, vU, vU, vU, vU, vU, vU, vU, vU, vU, vU] [])) t → Steps p.tables e below (s₁.setTop (entryFrame m #[(.int p1), (.int p2), (.int p3), (.long q4), (.long q5), (.int p6)] maxLocals)) t := by
    intro t k
    refine P1 _ ?_
    refine XS.iconst X0.here hx rfl (hb hby at_6) ?_
    show Steps p.tables e below (s₁.setTop (mkF m 7 #[vI p1, vI p2, vI p3, vJ q4, vS, vJ q5, vS, vI p6, vI nx, vU, vU, vU, vU, vU, vU, vU, vU, vU, vU, vU, vU, vU, vU, vU, vU, vU, vU, vU, vU, vU, vU, vU, vU] [(.int (1 : Int32))])) _
    refine XS.iload X0.here hx rfl (hb hby at_7) rfl ?_
    show Steps p.tables e below (s₁.setTop (mkF m 9 #[vI p1, vI p2, vI p3, vJ q4, vS, vJ q5, vS, vI p6, vI nx, vU, vU, vU, vU, vU, vU, vU, vU, vU, vU, vU, vU, vU, vU, vU, vU, vU, vU, vU, vU, vU, vU, vU, vU] [(.int p6), (.int (1 : Int32))])) _
    refine XS.iconst X0.here hx rfl (hb hby at_9) ?_
    show Steps p.tables e below (s₁.setTop (mkF m 10 #[vI p1, vI p2, vI p3, vJ q4, vS, vJ q5, vS, vI p6, vI nx, vU, vU, vU, vU, vU, vU, vU, vU, vU, vU, vU, vU, vU, vU, vU, vU, vU, vU, vU, vU, vU, vU, vU, vU] [(.int (2 : Int32)), (.int p6), (.int (1 : Int32))])) _
    refine XT.ishr X0.here hx rfl (hb hby at_10) rfl ?_
    show Steps p.tables e below (s₁.setTop (mkF m 11 #[vI p1, vI p2, vI p3, vJ q4, vS, vJ q5, vS, vI p6, vI nx, vU, vU, vU, vU, vU, vU, vU, vU, vU, vU, vU, vU, vU, vU, vU, vU, vU, vU, vU, vU, vU, vU, vU, vU] [(.int (p6 >>> ((2 : Int32) &&& 31))), (.int (1 : Int32))])) _
    refine XS.iconst X0.here hx rfl (hb hby at_11) ?_
    show Steps p.tables e below (s₁.setTop (mkF m 12 #[vI p1, vI p2, vI p3, vJ q4, vS, vJ q5, vS, vI p6, vI nx, vU, vU, vU, vU, vU, vU, vU, vU, vU, vU, vU, vU, vU, vU, vU, vU, vU, vU, vU, vU, vU, vU, vU, vU] [(.int (1 : Int32)), (.int (p6 >>> ((2 : Int32) &&& 31))), (.int (1 : Int32))])) _
    refine XS.iand X0.here hx rfl (hb hby at_12) rfl ?_
    show Steps p.tables e below (s₁.setTop (mkF m 13 #[vI p1, vI p2, vI p3, vJ q4, vS, vJ q5, vS, vI p6, vI nx, vU, vU, vU, vU, vU, vU, vU, vU, vU, vU, vU, vU, vU, vU, vU, vU, vU, vU, vU, vU, vU, vU, vU, vU] [(.int ((p6 >>> ((2 : Int32) &&& 31)) &&& (1 : Int32))), (.int (1 : Int32))])) _
    refine XS.iadd X0.here hx rfl (hb hby at_13) rfl ?_
    show Steps p.tables e below (s₁.setTop (mkF m 14 #[vI p1, vI p2, vI p3, vJ q4, vS, vJ q5, vS, vI p6, vI nx, vU, vU, vU, vU, vU, vU, vU, vU, vU, vU, vU, vU, vU, vU, vU, vU, vU, vU, vU, vU, vU, vU, vU, vU] [(.int ((1 : Int32) + ((p6 >>> ((2 : Int32) &&& 31)) &&& (1 : Int32))))])) _
    refine XS.istore X0.here hx rfl (hb hby at_14) rfl (l' := #[vI p1, vI p2, vI p3, vJ q4, vS, vJ q5, vS, vI p6, vI nx, .val (.int ((1 : Int32) + ((p6 >>> ((2 : Int32) &&& 31)) &&& (1 : Int32)))), vU, vU, vU, vU, vU, vU, vU, vU, vU, vU, vU, vU, vU, vU, vU, vU, vU, vU, vU, vU, vU, vU, vU]) rfl ?_
    show Steps p.tables e below (s₁.setTop (mkF m 16 #[vI p1, vI p2, vI p3, vJ q4, vS, vJ q5, vS, vI p6, vI nx, .val (.int ((1 : Int32) + ((p6 >>> ((2 : Int32) &&& 31)) &&& (1 : Int32)))), vU, vU, vU, vU, vU, vU, vU, vU, vU, vU, vU, vU, vU, vU, vU, vU, vU, vU, vU, vU, vU, vU, vU] [])) _
    exact k
  obtain ⟨mx, hmx⟩ : ∃ z : Int32, z = ((1 : Int32) + ((p6 >>> ((2 : Int32) &&& 31)) &&& (1 : Int32))) := ⟨_, rfl⟩
  rw [← hmx] at P2
  have hm12 := own_mx hmx
  have hmz := own_mz hm12
  have P3 : ∀ t, Steps p.tables e below (s₁.setTop (mkF m 27 #[vI p1, vI p2, vI p3, vJ q4, vS, vJ q5, vS, vI p6, vI nx, vI mx, .val (.int (((p6 >>> ((3 : Int32) &&& 31)) &&& (1 : Int32)) % mx)), vU, vU, vU, vU, vU, vU, vU, vU, vU, vU, vU, vU, vU, vU, vU, vU, vU, vU, vU, vU, vU, vU] [])) t → Steps p.tables e below (s₁.setTop (entryFrame m #[(.int p1), (.int p2), (.int p3), (.long q4), (.long q5), (.int p6)] maxLocals)) t := by
    intro t k
    refine P2 _ ?_
    refine XS.iload X0.here hx rfl (hb hby at_16) rfl ?_
    show Steps p.tables e below (s₁.setTop (mkF m 18 #[vI p1, vI p2, vI p3, vJ q4, vS, vJ q5, vS, vI p6, vI nx, vI mx, vU, vU, vU, vU, vU, vU, vU, vU, vU, vU, vU, vU, vU, vU, vU, vU, vU, vU, vU, vU, vU, vU, vU] [(.int p6)])) _
    refine XS.iconst X0.here hx rfl (hb hby at_18) ?_
    show Steps p.tables e below (s₁.setTop (mkF m 19 #[vI p1, vI p2, vI p3, vJ q4, vS, vJ q5, vS, vI p6, vI nx, vI mx, vU, vU, vU, vU, vU, vU, vU, vU, vU, vU, vU, vU, vU, vU, vU, vU, vU, vU, vU, vU, vU, vU, vU] [(.int (3 : Int32)), (.int p6)])) _
    refine XT.ishr X0.here hx rfl (hb hby at_19) rfl ?_
    show Steps p.tables e below (s₁.setTop (mkF m 20 #[vI p1, vI p2, vI p3, vJ q4, vS, vJ q5, vS, vI p6, vI nx, vI mx, vU, vU, vU, vU, vU, vU, vU, vU, vU, vU, vU, vU, vU, vU, vU, vU, vU, vU, vU, vU, vU, vU, vU] [(.int (p6 >>> ((3 : Int32) &&& 31)))])) _
    refine XS.iconst X0.here hx rfl (hb hby at_20) ?_
    show Steps p.tables e below (s₁.setTop (mkF m 21 #[vI p1, vI p2, vI p3, vJ q4, vS, vJ q5, vS, vI p6, vI nx, vI mx, vU, vU, vU, vU, vU, vU, vU, vU, vU, vU, vU, vU, vU, vU, vU, vU, vU, vU, vU, vU, vU, vU, vU] [(.int (1 : Int32)), (.int (p6 >>> ((3 : Int32) &&& 31)))])) _
    refine XS.iand X0.here hx rfl (hb hby at_21) rfl ?_
    show Steps p.tables e below (s₁.setTop (mkF m 22 #[vI p1, vI p2, vI p3, vJ q4, vS, vJ q5, vS, vI p6, vI nx, vI mx, vU, vU, vU, vU, vU, vU, vU, vU, vU, vU, vU, vU, vU, vU, vU, vU, vU, vU, vU, vU, vU, vU, vU] [(.int ((p6 >>> ((3 : Int32) &&& 31)) &&& (1 : Int32)))])) _
    refine XS.iload X0.here hx rfl (hb hby at_22) rfl ?_
    show Steps p.tables e below (s₁.setTop (mkF m 24 #[vI p1, vI p2, vI p3, vJ q4, vS, vJ q5, vS, vI p6, vI nx, vI mx, vU, vU, vU, vU, vU, vU, vU, vU, vU, vU, vU, vU, vU, vU, vU, vU, vU, vU, vU, vU, vU, vU, vU] [(.int mx), (.int ((p6 >>> ((3 : Int32) &&& 31)) &&& (1 : Int32)))])) _
    refine iremM X0 hx rfl (hb hby at_24) rfl hmz ?_
    show Steps p.tables e below (s₁.setTop (mkF m 25 #[vI p1, vI p2, vI p3, vJ q4, vS, vJ q5, vS, vI p6, vI nx, vI mx, vU, vU, vU, vU, vU, vU, vU, vU, vU, vU, vU, vU, vU, vU, vU, vU, vU, vU, vU, vU, vU, vU, vU] [(.int (((p6 >>> ((3 : Int32) &&& 31)) &&& (1 : Int32)) % mx))])) _
    refine XS.istore X0.here hx rfl (hb hby at_25) rfl (l' := #[vI p1, vI p2, vI p3, vJ q4, vS, vJ q5, vS, vI p6, vI nx, vI mx, .val (.int (((p6 >>> ((3 : Int32) &&& 31)) &&& (1 : Int32)) % mx)), vU, vU, vU, vU, vU, vU, vU, vU, vU, vU, vU, vU, vU, vU, vU, vU, vU, vU, vU, vU, vU, vU]) rfl ?_
    show Steps p.tables e below (s₁.setTop (mkF m 27 #[vI p1, vI p2, vI p3, vJ q4, vS, vJ q5, vS, vI p6, vI nx, vI mx, .val (.int (((p6 >>> ((3 : Int32) &&& 31)) &&& (1 : Int32)) % mx)), vU, vU, vU, vU, vU, vU, vU, vU, vU, vU, vU, vU, vU, vU, vU, vU, vU, vU, vU, vU, vU, vU] [])) _
    exact k
  obtain ⟨kx, hkx⟩ : ∃ z : Int32, z = (((p6 >>> ((3 : Int32) &&& 31)) &&& (1 : Int32)) % mx) := ⟨_, rfl⟩
  rw [← hkx] at P3
  obtain ⟨kk, hkk, hkm0, hk1⟩ := own_kx hkx hm12
  have P4 : ∀ t, Steps p.tables e below (s₁.setTop (mkF m 37 #[vI p1, vI p2, vI p3, vJ q4, vS, vJ q5, vS, vI p6, vI nx, vI mx, vI kx, .val (.int ((p6 >>> ((4 : Int32) &&& 31)) &&& (255 : Int32))), vU, vU, vU, vU, vU, vU, vU, vU, vU, vU, vU, vU, vU, vU, vU, vU, vU, vU, vU, vU, vU] [])) t → Steps p.tables e below (s₁.setTop (entryFrame m #[(.int p1), (.int p2), (.int p3), (.long q4), (.long q5), (.int p6)] maxLocals)) t := by
    intro t k
    refine P3 _ ?_
    refine XS.iload X0.here hx rfl (hb hby at_27) rfl ?_
    show Steps p.tables e below (s₁.setTop (mkF m 29 #[vI p1, vI p2, vI p3, vJ q4, vS, vJ q5, vS, vI p6, vI nx, vI mx, vI kx, vU, vU, vU, vU, vU, vU, vU, vU, vU, vU, vU, vU, vU, vU, vU, vU, vU, vU, vU, vU, vU, vU] [(.int p6)])) _
    refine XS.iconst X0.here hx rfl (hb hby at_29) ?_
    show Steps p.tables e below (s₁.setTop (mkF m 30 #[vI p1, vI p2, vI p3, vJ q4, vS, vJ q5, vS, vI p6, vI nx, vI mx, vI kx, vU, vU, vU, vU, vU, vU, vU, vU, vU, vU, vU, vU, vU, vU, vU, vU, vU, vU, vU, vU, vU, vU] [(.int (4 : Int32)), (.int p6)])) _
    refine XT.ishr X0.here hx rfl (hb hby at_30) rfl ?_
    show Steps p.tables e below (s₁.setTop (mkF m 31 #[vI p1, vI p2, vI p3, vJ q4, vS, vJ q5, vS, vI p6, vI nx, vI mx, vI kx, vU, vU, vU, vU, vU, vU, vU, vU, vU, vU, vU, vU, vU, vU, vU, vU, vU, vU, vU, vU, vU, vU] [(.int (p6 >>> ((4 : Int32) &&& 31)))])) _
    refine XS.sipush X0.here hx rfl (hb hby at_31) ?_
    show Steps p.tables e below (s₁.setTop (mkF m 34 #[vI p1, vI p2, vI p3, vJ q4, vS, vJ q5, vS, vI p6, vI nx, vI mx, vI kx, vU, vU, vU, vU, vU, vU, vU, vU, vU, vU, vU, vU, vU, vU, vU, vU, vU, vU, vU, vU, vU, vU] [(.int (255 : Int32)), (.int (p6 >>> ((4 : Int32) &&& 31)))])) _
    refine XS.iand X0.here hx rfl (hb hby at_34) rfl ?_
    show Steps p.tables e below (s₁.setTop (mkF m 35 #[vI p1, vI p2, vI p3, vJ q4, vS, vJ q5, vS, vI p6, vI nx, vI mx, vI kx, vU, vU, vU, vU, vU, vU, vU, vU, vU, vU, vU, vU, vU, vU, vU, vU, vU, vU, vU, vU, vU, vU] [(.int ((p6 >>> ((4 : Int32) &&& 31)) &&& (255 : Int32)))])) _
    refine XS.istore X0.here hx rfl (hb hby at_35) rfl (l' := #[vI p1, vI p2, vI p3, vJ q4, vS, vJ q5, vS, vI p6, vI nx, vI mx, vI kx, .val (.int ((p6 >>> ((4 : Int32) &&& 31)) &&& (255 : Int32))), vU, vU, vU, vU, vU, vU, vU, vU, vU, vU, vU, vU, vU, vU, vU, vU, vU, vU, vU, vU, vU]) rfl ?_
    show Steps p.tables e below (s₁.setTop (mkF m 37 #[vI p1, vI p2, vI p3, vJ q4, vS, vJ q5, vS, vI p6, vI nx, vI mx, vI kx, .val (.int ((p6 >>> ((4 : Int32) &&& 31)) &&& (255 : Int32))), vU, vU, vU, vU, vU, vU, vU, vU, vU, vU, vU, vU, vU, vU, vU, vU, vU, vU, vU, vU, vU] [])) _
    exact k
  obtain ⟨px, hpx⟩ : ∃ z : Int32, z = ((p6 >>> ((4 : Int32) &&& 31)) &&& (255 : Int32)) := ⟨_, rfl⟩
  rw [← hpx] at P4
  have kpx := own_h8 hpx
  have kp8 : 0 ≤ (px ||| (128 : Int32)).toInt ∧ (px ||| (128 : Int32)).toInt < 256 := ⟨by have := (own_or8 kpx).1; omega, (own_or8 kpx).2⟩
  have kp9 := (own_or8 kpx).1
  have P5 : ∀ t, Steps p.tables e below (s₁.setTop (mkF m 43 #[vI p1, vI p2, vI p3, vJ q4, vS, vJ q5, vS, vI p6, vI nx, vI mx, vI kx, vI px, .val (.int (p1 &&& (127 : Int32))), vU, vU, vU, vU, vU, vU, vU, vU, vU, vU, vU, vU, vU, vU, vU, vU, vU, vU, vU, vU] [])) t → Steps p.tables e below (s₁.setTop (entryFrame m #[(.int p1), (.int p2), (.int p3), (.long q4), (.long q5), (.int p6)] maxLocals)) t := by
    intro t k
    refine P4 _ ?_
    refine XS.iloadN X0.here hx rfl (hb hby at_37) rfl ?_
    show Steps p.tables e below (s₁.setTop (mkF m 38 #[vI p1, vI p2, vI p3, vJ q4, vS, vJ q5, vS, vI p6, vI nx, vI mx, vI kx, vI px, vU, vU, vU, vU, vU, vU, vU, vU, vU, vU, vU, vU, vU, vU, vU, vU, vU, vU, vU, vU, vU] [(.int p1)])) _
    refine XS.bipush X0.here hx rfl (hb hby at_38) ?_
    show Steps p.tables e below (s₁.setTop (mkF m 40 #[vI p1, vI p2, vI p3, vJ q4, vS, vJ q5, vS, vI p6, vI nx, vI mx, vI kx, vI px, vU, vU, vU, vU, vU, vU, vU, vU, vU, vU, vU, vU, vU, vU, vU, vU, vU, vU, vU, vU, vU] [(.int (127 : Int32)), (.int p1)])) _
    refine XS.iand X0.here hx rfl (hb hby at_40) rfl ?_
    show Steps p.tables e below (s₁.setTop (mkF m 41 #[vI p1, vI p2, vI p3, vJ q4, vS, vJ q5, vS, vI p6, vI nx, vI mx, vI kx, vI px, vU, vU, vU, vU, vU, vU, vU, vU, vU, vU, vU, vU, vU, vU, vU, vU, vU, vU, vU, vU, vU] [(.int (p1 &&& (127 : Int32)))])) _
    refine XS.istore X0.here hx rfl (hb hby at_41) rfl (l' := #[vI p1, vI p2, vI p3, vJ q4, vS, vJ q5, vS, vI p6, vI nx, vI mx, vI kx, vI px, .val (.int (p1 &&& (127 : Int32))), vU, vU, vU, vU, vU, vU, vU, vU, vU, vU, vU, vU, vU, vU, vU, vU, vU, vU, vU, vU]) rfl ?_
    show Steps p.tables e below (s₁.setTop (mkF m 43 #[vI p1, vI p2, vI p3, vJ q4, vS, vJ q5, vS, vI p6, vI nx, vI mx, vI kx, vI px, .val (.int (p1 &&& (127 : Int32))), vU, vU, vU, vU, vU, vU, vU, vU, vU, vU, vU, vU, vU, vU, vU, vU, vU, vU, vU, vU] [])) _
    exact k
  obtain ⟨c0, hc0⟩ : ∃ z : Int32, z = (p1 &&& (127 : Int32)) := ⟨_, rfl⟩
  rw [← hc0] at P5
  have kc0 := own_m7 hc0
  have P6 : ∀ t, Steps p.tables e below (s₁.setTop (mkF m 54 #[vI p1, vI p2, vI p3, vJ q4, vS, vJ q5, vS, vI p6, vI nx, vI mx, vI kx, vI px, vI c0, .val (.int ((1 : Int32) + ((p2 &&& (2147483647 : Int32)) % (127 : Int32)))), vU, vU, vU, vU, vU, vU, vU, vU, vU, vU, vU, vU, vU, vU, vU, vU, vU, vU, vU] [])) t → Steps p.tables e below (s₁.setTop (entryFrame m #[(.int p1), (.int p2), (.int p3), (.long q4), (.long q5), (.int p6)] maxLocals)) t := by
    intro t k
    refine P5 _ ?_
    refine XS.iconst X0.here hx rfl (hb hby at_43) ?_
    show Steps p.tables e below (s₁.setTop (mkF m 44 #[vI p1, vI p2, vI p3, vJ q4, vS, vJ q5, vS, vI p6, vI nx, vI mx, vI kx, vI px, vI c0, vU, vU, vU, vU, vU, vU, vU, vU, vU, vU, vU, vU, vU, vU, vU, vU, vU, vU, vU, vU] [(.int (1 : Int32))])) _
    refine XS.iloadN X0.here hx rfl (hb hby at_44) rfl ?_
    show Steps p.tables e below (s₁.setTop (mkF m 45 #[vI p1, vI p2, vI p3, vJ q4, vS, vJ q5, vS, vI p6, vI nx, vI mx, vI kx, vI px, vI c0, vU, vU, vU, vU, vU, vU, vU, vU, vU, vU, vU, vU, vU, vU, vU, vU, vU, vU, vU, vU] [(.int p2), (.int (1 : Int32))])) _
    refine Jvm.Stand.ldcI X0 hx hown (mvT hZ (hw _ (List.mem_of_getElem? (i := 0) rfl))) rfl (hb hby at_45) ?_
    show Steps p.tables e below (s₁.setTop (mkF m 47 #[vI p1, vI p2, vI p3, vJ q4, vS, vJ q5, vS, vI p6, vI nx, vI mx, vI kx, vI px, vI c0, vU, vU, vU, vU, vU, vU, vU, vU, vU, vU, vU, vU, vU, vU, vU, vU, vU, vU, vU, vU] [(.int (2147483647 : Int32)), (.int p2), (.int (1 : Int32))])) _
    refine XS.iand X0.here hx rfl (hb hby at_47) rfl ?_
    show Steps p.tables e below (s₁.setTop (mkF m 48 #[vI p1, vI p2, vI p3, vJ q4, vS, vJ q5, vS, vI p6, vI nx, vI mx, vI kx, vI px, vI c0, vU, vU, vU, vU, vU, vU, vU, vU, vU, vU, vU, vU, vU, vU, vU, vU, vU, vU, vU, vU] [(.int (p2 &&& (2147483647 : Int32))), (.int (1 : Int32))])) _
    refine XS.bipush X0.here hx rfl (hb hby at_48) ?_
    show Steps p.tables e below (s₁.setTop (mkF m 50 #[vI p1, vI p2, vI p3, vJ q4, vS, vJ q5, vS, vI p6, vI nx, vI mx, vI kx, vI px, vI c0, vU, vU, vU, vU, vU, vU, vU, vU, vU, vU, vU, vU, vU, vU, vU, vU, vU, vU, vU, vU] [(.int (127 : Int32)), (.int (p2 &&& (2147483647 : Int32))), (.int (1 : Int32))])) _
    refine iremM X0 hx rfl (hb hby at_50) rfl (by decide) ?_
    show Steps p.tables e below (s₁.setTop (mkF m 51 #[vI p1, vI p2, vI p3, vJ q4, vS, vJ q5, vS, vI p6, vI nx, vI mx, vI kx, vI px, vI c0, vU, vU, vU, vU, vU, vU, vU, vU, vU, vU, vU, vU, vU, vU, vU, vU, vU, vU, vU, vU] [(.int ((p2 &&& (2147483647 : Int32)) % (127 : Int32))), (.int (1 : Int32))])) _
    refine XS.iadd X0.here hx rfl (hb hby at_51) rfl ?_
    show Steps p.tables e below (s₁.setTop (mkF m 52 #[vI p1, vI p2, vI p3, vJ q4, vS, vJ q5, vS, vI p6, vI nx, vI mx, vI kx, vI px, vI c0, vU, vU, vU, vU, vU, vU, vU, vU, vU, vU, vU, vU, vU, vU, vU, vU, vU, vU, vU, vU] [(.int ((1 : Int32) + ((p2 &&& (2147483647 : Int32)) % (127 : Int32))))])) _
    refine XS.istore X0.here hx rfl (hb hby at_52) rfl (l' := #[vI p1, vI p2, vI p3, vJ q4, vS, vJ q5, vS, vI p6, vI nx, vI mx, vI kx, vI px, vI c0, .val (.int ((1 : Int32) + ((p2 &&& (2147483647 : Int32)) % (127 : Int32)))), vU, vU, vU, vU, vU, vU, vU, vU, vU, vU, vU, vU, vU, vU, vU, vU, vU, vU, vU]) rfl ?_
    show Steps p.tables e below (s₁.setTop (mkF m 54 #[vI p1, vI p2, vI p3, vJ q4, vS, vJ q5, vS, vI p6, vI nx, vI mx, vI kx, vI px, vI c0, .val (.int ((1 : Int32) + ((p2 &&& (2147483647 : Int32)) % (127 : Int32)))), vU, vU, vU, vU, vU, vU, vU, vU, vU, vU, vU, vU, vU, vU, vU, vU, vU, vU, vU] [])) _
    exact k
  obtain ⟨off, hoff⟩ : ∃ z : Int32, z = ((1 : Int32) + ((p2 &&& (2147483647 : Int32)) % (127 : Int32))) := ⟨_, rfl⟩
  rw [← hoff] at P6
  have P7 : ∀ t, Steps p.tables e below (s₁.setTop (mkF m 64 #[vI p1, vI p2, vI p3, vJ q4, vS, vJ q5, vS, vI p6, vI nx, vI mx, vI kx, vI px, vI c0, vI off, .val (.int ((c0 + off) &&& (127 : Int32))), vU, vU, vU, vU, vU, vU, vU, vU, vU, vU, vU, vU, vU, vU, vU, vU, vU, vU] [])) t → Steps p.tables e below (s₁.setTop (entryFrame m #[(.int p1), (.int p2), (.int p3), (.long q4), (.long q5), (.int p6)] maxLocals)) t := by
    intro t k
    refine P6 _ ?_
    refine XS.iload X0.here hx rfl (hb hby at_54) rfl ?_
    show Steps p.tables e below (s₁.setTop (mkF m 56 #[vI p1, vI p2, vI p3, vJ q4, vS, vJ q5, vS, vI p6, vI nx, vI mx, vI kx, vI px, vI c0, vI off, vU, vU, vU, vU, vU, vU, vU, vU, vU, vU, vU, vU, vU, vU, vU, vU, vU, vU, vU] [(.int c0)])) _
    refine XS.iload X0.here hx rfl (hb hby at_56) rfl ?_
    show Steps p.tables e below (s₁.setTop (mkF m 58 #[vI p1, vI p2, vI p3, vJ q4, vS, vJ q5, vS, vI p6, vI nx, vI mx, vI kx, vI px, vI c0, vI off, vU, vU, vU, vU, vU, vU, vU, vU, vU, vU, vU, vU, vU, vU, vU, vU, vU, vU, vU] [(.int off), (.int c0)])) _
    refine XS.iadd X0.here hx rfl (hb hby at_58) rfl ?_
    show Steps p.tables e below (s₁.setTop (mkF m 59 #[vI p1, vI p2, vI p3, vJ q4, vS, vJ q5, vS, vI p6, vI nx, vI mx, vI kx, vI px, vI c0, vI off, vU, vU, vU, vU, vU, vU, vU, vU, vU, vU, vU, vU, vU, vU, vU, vU, vU, vU, vU] [(.int (c0 + off))])) _
    refine XS.bipush X0.here hx rfl (hb hby at_59) ?_
    show Steps p.tables e below (s₁.setTop (mkF m 61 #[vI p1, vI p2, vI p3, vJ q4, vS, vJ q5, vS, vI p6, vI nx, vI mx, vI kx, vI px, vI c0, vI off, vU, vU, vU, vU, vU, vU, vU, vU, vU, vU, vU, vU, vU, vU, vU, vU, vU, vU, vU] [(.int (127 : Int32)), (.int (c0 + off))])) _
    refine XS.iand X0.here hx rfl (hb hby at_61) rfl ?_
    show Steps p.tables e below (s₁.setTop (mkF m 62 #[vI p1, vI p2, vI p3, vJ q4, vS, vJ q5, vS, vI p6, vI nx, vI mx, vI kx, vI px, vI c0, vI off, vU, vU, vU, vU, vU, vU, vU, vU, vU, vU, vU, vU, vU, vU, vU, vU, vU, vU, vU] [(.int ((c0 + off) &&& (127 : Int32)))])) _
    refine XS.istore X0.here hx rfl (hb hby at_62) rfl (l' := #[vI p1, vI p2, vI p3, vJ q4, vS, vJ q5, vS, vI p6, vI nx, vI mx, vI kx, vI px, vI c0, vI off, .val (.int ((c0 + off) &&& (127 : Int32))), vU, vU, vU, vU, vU, vU, vU, vU, vU, vU, vU, vU, vU, vU, vU, vU, vU, vU]) rfl ?_
    show Steps p.tables e below (s₁.setTop (mkF m 64 #[vI p1, vI p2, vI p3, vJ q4, vS, vJ q5, vS, vI p6, vI nx, vI mx, vI kx, vI px, vI c0, vI off, .val (.int ((c0 + off) &&& (127 : Int32))), vU, vU, vU, vU, vU, vU, vU, vU, vU, vU, vU, vU, vU, vU, vU, vU, vU, vU] [])) _
    exact k
  obtain ⟨c1, hc1⟩ : ∃ z : Int32, z = ((c0 + off) &&& (127 : Int32)) := ⟨_, rfl⟩
  rw [← hc1] at P7
  have kc1 := own_m7 hc1
  have P8 : ∀ t, Steps p.tables e below (s₁.setTop (mkF m 75 #[vI p1, vI p2, vI p3, vJ q4, vS, vJ q5, vS, vI p6, vI nx, vI mx, vI kx, vI px, vI c0, vI off, vI c1, .val (.int ((1 : Int32) + ((p3 &&& (2147483647 : Int32)) % (126 : Int32)))), vU, vU, vU, vU, vU, vU, vU, vU, vU, vU, vU, vU, vU, vU, vU, vU, vU] [])) t → Steps p.tables e below (s₁.setTop (entryFrame m #[(.int p1), (.int p2), (.int p3), (.long q4), (.long q5), (.int p6)] maxLocals)) t := by
    intro t k
    refine P7 _ ?_
    refine XS.iconst X0.here hx rfl (hb hby at_64) ?_
    show Steps p.tables e below (s₁.setTop (mkF m 65 #[vI p1, vI p2, vI p3, vJ q4, vS, vJ q5, vS, vI p6, vI nx, vI mx, vI kx, vI px, vI c0, vI off, vI c1, vU, vU, vU, vU, vU, vU, vU, vU, vU, vU, vU, vU, vU, vU, vU, vU, vU, vU] [(.int (1 : Int32))])) _
    refine XS.iloadN X0.here hx rfl (hb hby at_65) rfl ?_
    show Steps p.tables e below (s₁.setTop (mkF m 66 #[vI p1, vI p2, vI p3, vJ q4, vS, vJ q5, vS, vI p6, vI nx, vI mx, vI kx, vI px, vI c0, vI off, vI c1, vU, vU, vU, vU, vU, vU, vU, vU, vU, vU, vU, vU, vU, vU, vU, vU, vU, vU] [(.int p3), (.int (1 : Int32))])) _
    refine Jvm.Stand.ldcI X0 hx hown (mvT hZ (hw _ (List.mem_of_getElem? (i := 0) rfl))) rfl (hb hby at_66) ?_
    show Steps p.tables e below (s₁.setTop (mkF m 68 #[vI p1, vI p2, vI p3, vJ q4, vS, vJ q5, vS, vI p6, vI nx, vI mx, vI kx, vI px, vI c0, vI off, vI c1, vU, vU, vU, vU, vU, vU, vU, vU, vU, vU, vU, vU, vU, vU, vU, vU, vU, vU] [(.int (2147483647 : Int32)), (.int p3), (.int (1 : Int32))])) _
    refine XS.iand X0.here hx rfl (hb hby at_68) rfl ?_
    show Steps p.tables e below (s₁.setTop (mkF m 69 #[vI p1, vI p2, vI p3, vJ q4, vS, vJ q5, vS, vI p6, vI nx, vI mx, vI kx, vI px, vI c0, vI off, vI c1, vU, vU, vU, vU, vU, vU, vU, vU, vU, vU, vU, vU, vU, vU, vU, vU, vU, vU] [(.int (p3 &&& (2147483647 : Int32))), (.int (1 : Int32))])) _
    refine XS.bipush X0.here hx rfl (hb hby at_69) ?_
    show Steps p.tables e below (s₁.setTop (mkF m 71 #[vI p1, vI p2, vI p3, vJ q4, vS, vJ q5, vS, vI p6, vI nx, vI mx, vI kx, vI px, vI c0, vI off, vI c1, vU, vU, vU, vU, vU, vU, vU, vU, vU, vU, vU, vU, vU, vU, vU, vU, vU, vU] [(.int (126 : Int32)), (.int (p3 &&& (2147483647 : Int32))), (.int (1 : Int32))])) _
    refine iremM X0 hx rfl (hb hby at_71) rfl (by decide) ?_
    show Steps p.tables e below (s₁.setTop (mkF m 72 #[vI p1, vI p2, vI p3, vJ q4, vS, vJ q5, vS, vI p6, vI nx, vI mx, vI kx, vI px, vI c0, vI off, vI c1, vU, vU, vU, vU, vU, vU, vU, vU, vU, vU, vU, vU, vU, vU, vU, vU, vU, vU] [(.int ((p3 &&& (2147483647 : Int32)) % (126 : Int32))), (.int (1 : Int32))])) _
    refine XS.iadd X0.here hx rfl (hb hby at_72) rfl ?_
    show Steps p.tables e below (s₁.setTop (mkF m 73 #[vI p1, vI p2, vI p3, vJ q4, vS, vJ q5, vS, vI p6, vI nx, vI mx, vI kx, vI px, vI c0, vI off, vI c1, vU, vU, vU, vU, vU, vU, vU, vU, vU, vU, vU, vU, vU, vU, vU, vU, vU, vU] [(.int ((1 : Int32) + ((p3 &&& (2147483647 : Int32)) % (126 : Int32))))])) _
    refine XS.istore X0.here hx rfl (hb hby at_73) rfl (l' := #[vI p1, vI p2, vI p3, vJ q4, vS, vJ q5, vS, vI p6, vI nx, vI mx, vI kx, vI px, vI c0, vI off, vI c1, .val (.int ((1 : Int32) + ((p3 &&& (2147483647 : Int32)) % (126 : Int32)))), vU, vU, vU, vU, vU, vU, vU, vU, vU, vU, vU, vU, vU, vU, vU, vU, vU]) rfl ?_
    show Steps p.tables e below (s₁.setTop (mkF m 75 #[vI p1, vI p2, vI p3, vJ q4, vS, vJ q5, vS, vI p6, vI nx, vI mx, vI kx, vI px, vI c0, vI off, vI c1, .val (.int ((1 : Int32) + ((p3 &&& (2147483647 : Int32)) % (126 : Int32)))), vU, vU, vU, vU, vU, vU, vU, vU, vU, vU, vU, vU, vU, vU, vU, vU, vU] [])) _
    exact k
  obtain ⟨d0, hd0⟩ : ∃ z : Int32, z = ((1 : Int32) + ((p3 &&& (2147483647 : Int32)) % (126 : Int32))) := ⟨_, rfl⟩
  rw [← hd0] at P8
  have P9 : ∀ t, Steps p.tables e below (s₁.setTop (mkF m 88 #[vI p1, vI p2, vI p3, vJ q4, vS, vJ q5, vS, vI p6, vI nx, vI mx, vI kx, vI px, vI c0, vI off, vI c1, .val (.int (if d0 < off then d0 else (d0 + (1 : Int32)))), vU, vU, vU, vU, vU, vU, vU, vU, vU, vU, vU, vU, vU, vU, vU, vU, vU] [])) t → Steps p.tables e below (s₁.setTop (entryFrame m #[(.int p1), (.int p2), (.int p3), (.long q4), (.long q5), (.int p6)] maxLocals)) t := by
    intro t k
    refine P8 _ ?_
    refine XS.iload X0.here hx rfl (hb hby at_75) rfl ?_
    show Steps p.tables e below (s₁.setTop (mkF m 77 #[vI p1, vI p2, vI p3, vJ q4, vS, vJ q5, vS, vI p6, vI nx, vI mx, vI kx, vI px, vI c0, vI off, vI c1, vI d0, vU, vU, vU, vU, vU, vU, vU, vU, vU, vU, vU, vU, vU, vU, vU, vU, vU] [(.int d0)])) _
    refine XS.iload X0.here hx rfl (hb hby at_77) rfl ?_
    show Steps p.tables e below (s₁.setTop (mkF m 79 #[vI p1, vI p2, vI p3, vJ q4, vS, vJ q5, vS, vI p6, vI nx, vI mx, vI kx, vI px, vI c0, vI off, vI c1, vI d0, vU, vU, vU, vU, vU, vU, vU, vU, vU, vU, vU, vU, vU, vU, vU, vU, vU] [(.int off), (.int d0)])) _
    by_cases c79 : d0 < off
    · try simp only [if_pos c79] at k
      refine XS.icmpYes X0.here hx rfl (pc0 := 79) (pc' := 88) rfl (hb hby at_79) rfl (XT.ii_lt_t c79) (by decide) (by decide) ?_
      show Steps p.tables e below (s₁.setTop (mkF m 88 #[vI p1, vI p2, vI p3, vJ q4, vS, vJ q5, vS, vI p6, vI nx, vI mx, vI kx, vI px, vI c0, vI off, vI c1, vI d0, vU, vU, vU, vU, vU, vU, vU, vU, vU, vU, vU, vU, vU, vU, vU, vU, vU] [])) _
      exact k
    · try simp only [if_neg c79] at k
      refine XS.icmpNo X0.here hx rfl (hb hby at_79) rfl (XT.ii_lt_f c79) ?_
      show Steps p.tables e below (s₁.setTop (mkF m 82 #[vI p1, vI p2, vI p3, vJ q4, vS, vJ q5, vS, vI p6, vI nx, vI mx, vI kx, vI px, vI c0, vI off, vI c1, vI d0, vU, vU, vU, vU, vU, vU, vU, vU, vU, vU, vU, vU, vU, vU, vU, vU, vU] [])) _
      refine XS.iload X0.here hx rfl (hb hby at_82) rfl ?_
      show Steps p.tables e below (s₁.setTop (mkF m 84 #[vI p1, vI p2, vI p3, vJ q4, vS, vJ q5, vS, vI p6, vI nx, vI mx, vI kx, vI px, vI c0, vI off, vI c1, vI d0, vU, vU, vU, vU, vU, vU, vU, vU, vU, vU, vU, vU, vU, vU, vU, vU, vU] [(.int d0)])) _
      refine XS.iconst X0.here hx rfl (hb hby at_84) ?_
      show Steps p.tables e below (s₁.setTop (mkF m 85 #[vI p1, vI p2, vI p3, vJ q4, vS, vJ q5, vS, vI p6, vI nx, vI mx, vI kx, vI px, vI c0, vI off, vI c1, vI d0, vU, vU, vU, vU, vU, vU, vU, vU, vU, vU, vU, vU, vU, vU, vU, vU, vU] [(.int (1 : Int32)), (.int d0)])) _
      refine XS.iadd X0.here hx rfl (hb hby at_85) rfl ?_
      show Steps p.tables e below (s₁.setTop (mkF m 86 #[vI p1, vI p2, vI p3, vJ q4, vS, vJ q5, vS, vI p6, vI nx, vI mx, vI kx, vI px, vI c0, vI off, vI c1, vI d0, vU, vU, vU, vU, vU, vU, vU, vU, vU, vU, vU, vU, vU, vU, vU, vU, vU] [(.int (d0 + (1 : Int32)))])) _
      refine XS.istore X0.here hx rfl (hb hby at_86) rfl (l' := #[vI p1, vI p2, vI p3, vJ q4, vS, vJ q5, vS, vI p6, vI nx, vI mx, vI kx, vI px, vI c0, vI off, vI c1, .val (.int (d0 + (1 : Int32))), vU, vU, vU, vU, vU, vU, vU, vU, vU, vU, vU, vU, vU, vU, vU, vU, vU]) rfl ?_
      show Steps p.tables e below (s₁.setTop (mkF m 88 #[vI p1, vI p2, vI p3, vJ q4, vS, vJ q5, vS, vI p6, vI nx, vI mx, vI kx, vI px, vI c0, vI off, vI c1, .val (.int (d0 + (1 : Int32))), vU, vU, vU, vU, vU, vU, vU, vU, vU, vU, vU, vU, vU, vU, vU, vU, vU] [])) _
      exact k
  obtain ⟨dx, hdx⟩ : ∃ z : Int32, z = (if d0 < off then d0 else (d0 + (1 : Int32))) := ⟨_, rfl⟩
  rw [← hdx] at P9
  have P10 : ∀ t, Steps p.tables e below (s₁.setTop (mkF m 98 #[vI p1, vI p2, vI p3, vJ q4, vS, vJ q5, vS, vI p6, vI nx, vI mx, vI kx, vI px, vI c0, vI off, vI c1, vI dx, .val (.int ((c0 + dx) &&& (127 : Int32))), vU, vU, vU, vU, vU, vU, vU, vU, vU, vU, vU, vU, vU, vU, vU, vU] [])) t → Steps p.tables e below (s₁.setTop (entryFrame m #[(.int p1), (.int p2), (.int p3), (.long q4), (.long q5), (.int p6)] maxLocals)) t := by
    intro t k
    refine P9 _ ?_
    refine XS.iload X0.here hx rfl (hb hby at_88) rfl ?_
    show Steps p.tables e below (s₁.setTop (mkF m 90 #[vI p1, vI p2, vI p3, vJ q4, vS, vJ q5, vS, vI p6, vI nx, vI mx, vI kx, vI px, vI c0, vI off, vI c1, vI dx, vU, vU, vU, vU, vU, vU, vU, vU, vU, vU, vU, vU, vU, vU, vU, vU, vU] [(.int c0)])) _
    refine XS.iload X0.here hx rfl (hb hby at_90) rfl ?_
    show Steps p.tables e below (s₁.setTop (mkF m 92 #[vI p1, vI p2, vI p3, vJ q4, vS, vJ q5, vS, vI p6, vI nx, vI mx, vI kx, vI px, vI c0, vI off, vI c1, vI dx, vU, vU, vU, vU, vU, vU, vU, vU, vU, vU, vU, vU, vU, vU, vU, vU, vU] [(.int dx), (.int c0)])) _
    refine XS.iadd X0.here hx rfl (hb hby at_92) rfl ?_
    show Steps p.tables e below (s₁.setTop (mkF m 93 #[vI p1, vI p2, vI p3, vJ q4, vS, vJ q5, vS, vI p6, vI nx, vI mx, vI kx, vI px, vI c0, vI off, vI c1, vI dx, vU, vU, vU, vU, vU, vU, vU, vU, vU, vU, vU, vU, vU, vU, vU, vU, vU] [(.int (c0 + dx))])) _
    refine XS.bipush X0.here hx rfl (hb hby at_93) ?_
    show Steps p.tables e below (s₁.setTop (mkF m 95 #[vI p1, vI p2, vI p3, vJ q4, vS, vJ q5, vS, vI p6, vI nx, vI mx, vI kx, vI px, vI c0, vI off, vI c1, vI dx, vU, vU, vU, vU, vU, vU, vU, vU, vU, vU, vU, vU, vU, vU, vU, vU, vU] [(.int (127 : Int32)), (.int (c0 + dx))])) _
    refine XS.iand X0.here hx rfl (hb hby at_95) rfl ?_
    show Steps p.tables e below (s₁.setTop (mkF m 96 #[vI p1, vI p2, vI p3, vJ q4, vS, vJ q5, vS, vI p6, vI nx, vI mx, vI kx, vI px, vI c0, vI off, vI c1, vI dx, vU, vU, vU, vU, vU, vU, vU, vU, vU, vU, vU, vU, vU, vU, vU, vU, vU] [(.int ((c0 + dx) &&& (127 : Int32)))])) _
    refine XS.istore X0.here hx rfl (hb hby at_96) rfl (l' := #[vI p1, vI p2, vI p3, vJ q4, vS, vJ q5, vS, vI p6, vI nx, vI mx, vI kx, vI px, vI c0, vI off, vI c1, vI dx, .val (.int ((c0 + dx) &&& (127 : Int32))), vU, vU, vU, vU, vU, vU, vU, vU, vU, vU, vU, vU, vU, vU, vU, vU]) rfl ?_
    show Steps p.tables e below (s₁.setTop (mkF m 98 #[vI p1, vI p2, vI p3, vJ q4, vS, vJ q5, vS, vI p6, vI nx, vI mx, vI kx, vI px, vI c0, vI off, vI c1, vI dx, .val (.int ((c0 + dx) &&& (127 : Int32))), vU, vU, vU, vU, vU, vU, vU, vU, vU, vU, vU, vU, vU, vU, vU, vU] [])) _
    exact k
  obtain ⟨c2, hc2⟩ : ∃ z : Int32, z = ((c0 + dx) &&& (127 : Int32)) := ⟨_, rfl⟩
  rw [← hc2] at P10
  have kc2 := own_m7 hc2
  have hne3 := own_three kc0 (own_ofr hoff) (own_dd hdx (own_dr hd0) (own_ofr hoff)) hc1 hc2
  have P11 : ∀ t, Steps p.tables e below (s₁.setTop (mkF m 105 #[vI p1, vI p2, vI p3, vJ q4, vS, vJ q5, vS, vI p6, vI nx, vI mx, vI kx, vI px, vI c0, vI off, vI c1, vI dx, vI c2, .val (.long (q4 &&& (288230376151711743 : Int64))), vS, vU, vU, vU, vU, vU, vU, vU, vU, vU, vU, vU, vU, vU, vU] [])) t → Steps p.tables e below (s₁.setTop (entryFrame m #[(.int p1), (.int p2), (.int p3), (.long q4), (.long q5), (.int p6)] maxLocals)) t := by
    intro t k
    refine P10 _ ?_
    refine XT.lloadN X0.here hx rfl (hb hby at_98) rfl ?_
    show Steps p.tables e below (s₁.setTop (mkF m 99 #[vI p1, vI p2, vI p3, vJ q4, vS, vJ q5, vS, vI p6, vI nx, vI mx, vI kx, vI px, vI c0, vI off, vI c1, vI dx, vI c2, vU, vU, vU, vU, vU, vU, vU, vU, vU, vU, vU, vU, vU, vU, vU, vU] [(.long q4)])) _
    refine Jvm.Stand.ldc2J X0 hx hown (mvT hZ (hw _ (List.mem_of_getElem? (i := 1) rfl))) rfl (hb hby at_99) ?_
    show Steps p.tables e below (s₁.setTop (mkF m 102 #[vI p1, vI p2, vI p3, vJ q4, vS, vJ q5, vS, vI p6, vI nx, vI mx, vI kx, vI px, vI c0, vI off, vI c1, vI dx, vI c2, vU, vU, vU, vU, vU, vU, vU, vU, vU, vU, vU, vU, vU, vU, vU, vU] [(.long (288230376151711743 : Int64)), (.long q4)])) _
    refine XT.land X0.here hx rfl (hb hby at_102) rfl ?_
    show Steps p.tables e below (s₁.setTop (mkF m 103 #[vI p1, vI p2, vI p3, vJ q4, vS, vJ q5, vS, vI p6, vI nx, vI mx, vI kx, vI px, vI c0, vI off, vI c1, vI dx, vI c2, vU, vU, vU, vU, vU, vU, vU, vU, vU, vU, vU, vU, vU, vU, vU, vU] [(.long (q4 &&& (288230376151711743 : Int64)))])) _
    refine XT.lstore X0.here hx rfl (hb hby at_103) rfl (l' := #[vI p1, vI p2, vI p3, vJ q4, vS, vJ q5, vS, vI p6, vI nx, vI mx, vI kx, vI px, vI c0, vI off, vI c1, vI dx, vI c2, .val (.long (q4 &&& (288230376151711743 : Int64))), vS, vU, vU, vU, vU, vU, vU, vU, vU, vU, vU, vU, vU, vU, vU]) rfl ?_
    show Steps p.tables e below (s₁.setTop (mkF m 105 #[vI p1, vI p2, vI p3, vJ q4, vS, vJ q5, vS, vI p6, vI nx, vI mx, vI kx, vI px, vI c0, vI off, vI c1, vI dx, vI c2, .val (.long (q4 &&& (288230376151711743 : Int64))), vS, vU, vU, vU, vU, vU, vU, vU, vU, vU, vU, vU, vU, vU, vU] [])) _
    exact k
  obtain ⟨w0, hw0⟩ : ∃ z : Int64, z = (q4 &&& (288230376151711743 : Int64)) := ⟨_, rfl⟩
  rw [← hw0] at P11
  have P12 : ∀ t, Steps p.tables e below (s₁.setTop (mkF m 113 #[vI p1, vI p2, vI p3, vJ q4, vS, vJ q5, vS, vI p6, vI nx, vI mx, vI kx, vI px, vI c0, vI off, vI c1, vI dx, vI c2, vJ w0, vS, .val (.long (q5 &&& (288230376151711743 : Int64))), vS, vU, vU, vU, vU, vU, vU, vU, vU, vU, vU, vU, vU] [])) t → Steps p.tables e below (s₁.setTop (entryFrame m #[(.int p1), (.int p2), (.int p3), (.long q4), (.long q5), (.int p6)] maxLocals)) t := by
    intro t k
    refine P11 _ ?_
    refine XT.lload X0.here hx rfl (hb hby at_105) rfl ?_
    show Steps p.tables e below (s₁.setTop (mkF m 107 #[vI p1, vI p2, vI p3, vJ q4, vS, vJ q5, vS, vI p6, vI nx, vI mx, vI kx, vI px, vI c0, vI off, vI c1, vI dx, vI c2, vJ w0, vS, vU, vU, vU, vU, vU, vU, vU, vU, vU, vU, vU, vU, vU, vU] [(.long q5)])) _
    refine Jvm.Stand.ldc2J X0 hx hown (mvT hZ (hw _ (List.mem_of_getElem? (i := 1) rfl))) rfl (hb hby at_107) ?_
    show Steps p.tables e below (s₁.setTop (mkF m 110 #[vI p1, vI p2, vI p3, vJ q4, vS, vJ q5, vS, vI p6, vI nx, vI mx, vI kx, vI px, vI c0, vI off, vI c1, vI dx, vI c2, vJ w0, vS, vU, vU, vU, vU, vU, vU, vU, vU, vU, vU, vU, vU, vU, vU] [(.long (288230376151711743 : Int64)), (.long q5)])) _
    refine XT.land X0.here hx rfl (hb hby at_110) rfl ?_
    show Steps p.tables e below (s₁.setTop (mkF m 111 #[vI p1, vI p2, vI p3, vJ q4, vS, vJ q5, vS, vI p6, vI nx, vI mx, vI kx, vI px, vI c0, vI off, vI c1, vI dx, vI c2, vJ w0, vS, vU, vU, vU, vU, vU, vU, vU, vU, vU, vU, vU, vU, vU, vU] [(.long (q5 &&& (288230376151711743 : Int64)))])) _
    refine XT.lstore X0.here hx rfl (hb hby at_111) rfl (l' := #[vI p1, vI p2, vI p3, vJ q4, vS, vJ q5, vS, vI p6, vI nx, vI mx, vI kx, vI px, vI c0, vI off, vI c1, vI dx, vI c2, vJ w0, vS, .val (.long (q5 &&& (288230376151711743 : Int64))), vS, vU, vU, vU, vU, vU, vU, vU, vU, vU, vU, vU, vU]) rfl ?_
    show Steps p.tables e below (s₁.setTop (mkF m 113 #[vI p1, vI p2, vI p3, vJ q4, vS, vJ q5, vS, vI p6, vI nx, vI mx, vI kx, vI px, vI c0, vI off, vI c1, vI dx, vI c2, vJ w0, vS, .val (.long (q5 &&& (288230376151711743 : Int64))), vS, vU, vU, vU, vU, vU, vU, vU, vU, vU, vU, vU, vU] [])) _
    exact k
  obtain ⟨w1, hw1⟩ : ∃ z : Int64, z = (q5 &&& (288230376151711743 : Int64)) := ⟨_, rfl⟩
  rw [← hw1] at P12
  have P13 : ∀ t, Steps p.tables e below (s₁.setTop (mkF m 119 #[vI p1, vI p2, vI p3, vJ q4, vS, vJ q5, vS, vI p6, vI nx, vI mx, vI kx, vI px, vI c0, vI off, vI c1, vI dx, vI c2, vJ w0, vS, vJ w1, vS, vU, vU, vU, vU, vU, vU, vU, vU, vU, vU, vU, vU] [(.int (0 : Int32))])) t → Steps p.tables e below (s₁.setTop (entryFrame m #[(.int p1), (.int p2), (.int p3), (.long q4), (.long q5), (.int p6)] maxLocals)) t := by
    intro t k
    refine P12 _ ?_
    refine XS.iload X0.here hx rfl (hb hby at_113) rfl ?_
    show Steps p.tables e below (s₁.setTop (mkF m 115 #[vI p1, vI p2, vI p3, vJ q4, vS, vJ q5, vS, vI p6, vI nx, vI mx, vI kx, vI px, vI c0, vI off, vI c1, vI dx, vI c2, vJ w0, vS, vJ w1, vS, vU, vU, vU, vU, vU, vU, vU, vU, vU, vU, vU, vU] [(.int nx)])) _
    refine XS.ifNo X0.here hx rfl (hb hby at_115) rfl (XT.i0_ne_f hz0) ?_
    show Steps p.tables e below (s₁.setTop (mkF m 118 #[vI p1, vI p2, vI p3, vJ q4, vS, vJ q5, vS, vI p6, vI nx, vI mx, vI kx, vI px, vI c0, vI off, vI c1, vI dx, vI c2, vJ w0, vS, vJ w1, vS, vU, vU, vU, vU, vU, vU, vU, vU, vU, vU, vU, vU] [])) _
    refine XS.iconst X0.here hx rfl (hb hby at_118) ?_
    show Steps p.tables e below (s₁.setTop (mkF m 119 #[vI p1, vI p2, vI p3, vJ q4, vS, vJ q5, vS, vI p6, vI nx, vI mx, vI kx, vI px, vI c0, vI off, vI c1, vI dx, vI c2, vJ w0, vS, vJ w1, vS, vU, vU, vU, vU, vU, vU, vU, vU, vU, vU, vU, vU] [(.int (0 : Int32))])) _
    exact k
  obtain ⟨T14, h14, k14, X14, e14, E14, A14, st14⟩ := newP X0 hx hZ (hw _ (List.mem_of_getElem? (i := 2) rfl)) e0 (g := (mkF m 119 #[vI p1, vI p2, vI p3, vJ q4, vS, vJ q5, vS, vI p6, vI nx, vI mx, vI kx, vI px, vI c0, vI off, vI c1, vI dx, vI c2, vJ w0, vS, vJ w1, vS, vU, vU, vU, vU, vU, vU, vU, vU, vU, vU, vU, vU] [(.int (0 : Int32))])) rfl (hb hby at_119) rfl (by decide) (cap := 0) (by decide) (by decide) (by decide) (by decide)
  obtain ⟨b14, g14⟩ : ∃ z, z = h0.size := ⟨_, rfl⟩
  rw [← g14] at A14 st14
  have F15 : Old Z n0 h14 := O0.ext E14
  obtain ⟨kc_b14, hkc_b14⟩ : ∃ z, z = k14 := ⟨_, rfl⟩
  rw [← hkc_b14] at A14
  have F16 : Arv Z h14 b14 kc_b14 .char (0 : Int32) [] (.int (0 : Int32)) := (Arv.new A14 (by decide)).pad (pad_rep [] (.int (0 : Int32)) 0)
  have Z17 : n0 ≤ h14.size := Nat.le_trans Z0 E14.1
  have K18 : Keep h0 h14 [] := K0.ext E14
  have g_b14 : n0 ≤ b14 := Nat.le_trans Z0 (Nat.le_of_eq g14.symm)
  have sz_b14 : h0.size ≤ b14 := Nat.le_trans K0.1 (Nat.le_of_eq g14.symm)
  have P19 : ∀ t, Steps p.tables e below (T14.setTop (mkF m 121 #[vI p1, vI p2, vI p3, vJ q4, vS, vJ q5, vS, vI p6, vI nx, vI mx, vI kx, vI px, vI c0, vI off, vI c1, vI dx, vI c2, vJ w0, vS, vJ w1, vS, vU, vU, vU, vU, vU, vU, vU, vU, vU, vU, vU, vU] [(.ref b14)])) t → Steps p.tables e below (s₁.setTop (entryFrame m #[(.int p1), (.int p2), (.int p3), (.long q4), (.long q5), (.int p6)] maxLocals)) t := fun t k => P13 _ (st14 _ k)
  have P20 : ∀ t, Steps p.tables e below (T14.setTop (mkF m 198 #[vI p1, vI p2, vI p3, vJ q4, vS, vJ q5, vS, vI p6, vI nx, vI mx, vI kx, vI px, vI c0, vI off, vI c1, vI dx, vI c2, vJ w0, vS, vJ w1, vS, vR b14, vU, vU, vU, vU, vU, vU, vU, vU, vU, vU, vU] [(.int (1 : Int32)), (.int mx)])) t → Steps p.tables e below (s₁.setTop (entryFrame m #[(.int p1), (.int p2), (.int p3), (.long q4), (.long q5), (.int p6)] maxLocals)) t := by
    intro t k
    refine P19 _ ?_
    refine XS.astore X14.here hx rfl (hb hby at_121) rfl rfl (l' := #[vI p1, vI p2, vI p3, vJ q4, vS, vJ q5, vS, vI p6, vI nx, vI mx, vI kx, vI px, vI c0, vI off, vI c1, vI dx, vI c2, vJ w0, vS, vJ w1, vS, vR b14, vU, vU, vU, vU, vU, vU, vU, vU, vU, vU, vU]) rfl ?_
    show Steps p.tables e below (T14.setTop (mkF m 123 #[vI p1, vI p2, vI p3, vJ q4, vS, vJ q5, vS, vI p6, vI nx, vI mx, vI kx, vI px, vI c0, vI off, vI c1, vI dx, vI c2, vJ w0, vS, vJ w1, vS, vR b14, vU, vU, vU, vU, vU, vU, vU, vU, vU, vU, vU] [])) _
    refine XS.goto X14.here hx rfl (pc0 := 123) (pc' := 195) rfl (hb hby at_123) (by decide) (by decide) ?_
    show Steps p.tables e below (T14.setTop (mkF m 195 #[vI p1, vI p2, vI p3, vJ q4, vS, vJ q5, vS, vI p6, vI nx, vI mx, vI kx, vI px, vI c0, vI off, vI c1, vI dx, vI c2, vJ w0, vS, vJ w1, vS, vR b14, vU, vU, vU, vU, vU, vU, vU, vU, vU, vU, vU] [])) _
    refine XS.iload X14.here hx rfl (hb hby at_195) rfl ?_
    show Steps p.tables e below (T14.setTop (mkF m 197 #[vI p1, vI p2, vI p3, vJ q4, vS, vJ q5, vS, vI p6, vI nx, vI mx, vI kx, vI px, vI c0, vI off, vI c1, vI dx, vI c2, vJ w0, vS, vJ w1, vS, vR b14, vU, vU, vU, vU, vU, vU, vU, vU, vU, vU, vU] [(.int mx)])) _
    refine XS.iconst X14.here hx rfl (hb hby at_197) ?_
    show Steps p.tables e below (T14.setTop (mkF m 198 #[vI p1, vI p2, vI p3, vJ q4, vS, vJ q5, vS, vI p6, vI nx, vI mx, vI kx, vI px, vI c0, vI off, vI c1, vI dx, vI c2, vJ w0, vS, vJ w1, vS, vR b14, vU, vU, vU, vU, vU, vU, vU, vU, vU, vU, vU] [(.int (1 : Int32)), (.int mx)])) _
    exact k
  by_cases c198 : mx = (1 : Int32)
  · have P21 : ∀ t, Steps p.tables e below (T14.setTop (mkF m 202 #[vI p1, vI p2, vI p3, vJ q4, vS, vJ q5, vS, vI p6, vI nx, vI mx, vI kx, vI px, vI c0, vI off, vI c1, vI dx, vI c2, vJ w0, vS, vJ w1, vS, vR b14, vU, vU, vU, vU, vU, vU, vU, vU, vU, vU, vU] [(.int (1 : Int32))])) t → Steps p.tables e below (s₁.setTop (entryFrame m #[(.int p1), (.int p2), (.int p3), (.long q4), (.long q5), (.int p6)] maxLocals)) t := by
      intro t k
      refine P20 _ ?_
      refine XS.icmpNo X14.here hx rfl (hb hby at_198) rfl (XT.ii_ne_f c198) ?_
      show Steps p.tables e below (T14.setTop (mkF m 201 #[vI p1, vI p2, vI p3, vJ q4, vS, vJ q5, vS, vI p6, vI nx, vI mx, vI kx, vI px, vI c0, vI off, vI c1, vI dx, vI c2, vJ w0, vS, vJ w1, vS, vR b14, vU, vU, vU, vU, vU, vU, vU, vU, vU, vU, vU] [])) _
      refine XS.iconst X14.here hx rfl (hb hby at_201) ?_
      show Steps p.tables e below (T14.setTop (mkF m 202 #[vI p1, vI p2, vI p3, vJ q4, vS, vJ q5, vS, vI p6, vI nx, vI mx, vI kx, vI px, vI c0, vI off, vI c1, vI dx, vI c2, vJ w0, vS, vJ w1, vS, vR b14, vU, vU, vU, vU, vU, vU, vU, vU, vU, vU, vU] [(.int (1 : Int32))])) _
      exact k
    obtain ⟨T22, h22, k22, X22, e22, E22, A22, st22⟩ := newP X14 hx hZ (hw _ (List.mem_of_getElem? (i := 3) rfl)) e14 (g := (mkF m 202 #[vI p1, vI p2, vI p3, vJ q4, vS, vJ q5, vS, vI p6, vI nx, vI mx, vI kx, vI px, vI c0, vI off, vI c1, vI dx, vI c2, vJ w0, vS, vJ w1, vS, vR b14, vU, vU, vU, vU, vU, vU, vU, vU, vU, vU, vU] [(.int (1 : Int32))])) rfl (hb hby at_202) rfl (by decide) (cap := 1) (by decide) (by decide) (by decide) (by decide)
    obtain ⟨b22, g22⟩ : ∃ z, z = h14.size := ⟨_, rfl⟩
    rw [← g22] at A22 st22
    have F23 : Old Z n0 h22 := F15.ext E22
    have F24 : Arv Z h22 b14 kc_b14 .char (0 : Int32) [] (.int (0 : Int32)) := F16.ext E22
    obtain ⟨kc_b22, hkc_b22⟩ : ∃ z, z = k22 := ⟨_, rfl⟩
    rw [← hkc_b22] at A22
    have F25 : Arv Z h22 b22 kc_b22 .long (1 : Int32) [(.long (0 : Int64))] (.long (0 : Int64)) := (Arv.new A22 (by decide)).pad (pad_rep [] (.long (0 : Int64)) 1)
    have Z26 : n0 ≤ h22.size := Nat.le_trans Z17 E22.1
    have K27 : Keep h0 h22 [] := K18.ext E22
    have g_b22 : n0 ≤ b22 := Nat.le_trans Z17 (Nat.le_of_eq g22.symm)
    have sz_b22 : h0.size ≤ b22 := Nat.le_trans K18.1 (Nat.le_of_eq g22.symm)
    have ne_b14_b22 : b14 ≠ b22 := Nat.ne_of_lt (Nat.lt_of_lt_of_le F16.lt (Nat.le_of_eq g22.symm))
    have P28 : ∀ t, Steps p.tables e below (T22.setTop (mkF m 204 #[vI p1, vI p2, vI p3, vJ q4, vS, vJ q5, vS, vI p6, vI nx, vI mx, vI kx, vI px, vI c0, vI off, vI c1, vI dx, vI c2, vJ w0, vS, vJ w1, vS, vR b14, vU, vU, vU, vU, vU, vU, vU, vU, vU, vU, vU] [(.ref b22)])) t → Steps p.tables e below (s₁.setTop (entryFrame m #[(.int p1), (.int p2), (.int p3), (.long q4), (.long q5), (.int p6)] maxLocals)) t := fun t k => P21 _ (st22 _ k)
    have P29 : ∀ t, Steps p.tables e below (T22.setTop (mkF m 208 #[vI p1, vI p2, vI p3, vJ q4, vS, vJ q5, vS, vI p6, vI nx, vI mx, vI kx, vI px, vI c0, vI off, vI c1, vI dx, vI c2, vJ w0, vS, vJ w1, vS, vR b14, vU, vU, vU, vU, vU, vU, vU, vU, vU, vU, vU] [(.long w0), (.int (0 : Int32)), (.ref b22), (.ref b22)])) t → Steps p.tables e below (s₁.setTop (entryFrame m #[(.int p1), (.int p2), (.int p3), (.long q4), (.long q5), (.int p6)] maxLocals)) t := by
      intro t k
      refine P28 _ ?_
      refine XS.dup X22.here hx rfl (hb hby at_204) rfl rfl ?_
      show Steps p.tables e below (T22.setTop (mkF m 205 #[vI p1, vI p2, vI p3, vJ q4, vS, vJ q5, vS, vI p6, vI nx, vI mx, vI kx, vI px, vI c0, vI off, vI c1, vI dx, vI c2, vJ w0, vS, vJ w1, vS, vR b14, vU, vU, vU, vU, vU, vU, vU, vU, vU, vU, vU] [(.ref b22), (.ref b22)])) _
      refine XS.iconst X22.here hx rfl (hb hby at_205) ?_
      show Steps p.tables e below (T22.setTop (mkF m 206 #[vI p1, vI p2, vI p3, vJ q4, vS, vJ q5, vS, vI p6, vI nx, vI mx, vI kx, vI px, vI c0, vI off, vI c1, vI dx, vI c2, vJ w0, vS, vJ w1, vS, vR b14, vU, vU, vU, vU, vU, vU, vU, vU, vU, vU, vU] [(.int (0 : Int32)), (.ref b22), (.ref b22)])) _
      refine XT.lload X22.here hx rfl (hb hby at_206) rfl ?_
      show Steps p.tables e below (T22.setTop (mkF m 208 #[vI p1, vI p2, vI p3, vJ q4, vS, vJ q5, vS, vI p6, vI nx, vI mx, vI kx, vI px, vI c0, vI off, vI c1, vI dx, vI c2, vJ w0, vS, vJ w1, vS, vR b14, vU, vU, vU, vU, vU, vU, vU, vU, vU, vU, vU] [(.long w0), (.int (0 : Int32)), (.ref b22), (.ref b22)])) _
      exact k
    obtain ⟨cl30, Ar30, q30, S30, M30, H30, G30⟩ := F25
    have in30 : ¬ ((0 : Int32) < 0 ∨ cl30.slots.size ≤ ((0 : Int32)).toNatClampNeg) := inb_of S30 ⟨by decide, by decide⟩
    obtain ⟨T30, h30, X30, e30, W30, st30⟩ := stJ X22 hx hZ e22 Ar30 (j := (0 : Int32)) in30 (g := (mkF m 208 #[vI p1, vI p2, vI p3, vJ q4, vS, vJ q5, vS, vI p6, vI nx, vI mx, vI kx, vI px, vI c0, vI off, vI c1, vI dx, vI c2, vJ w0, vS, vJ w1, vS, vR b14, vU, vU, vU, vU, vU, vU, vU, vU, vU, vU, vU] [(.long w0), (.int (0 : Int32)), (.ref b22), (.ref b22)])) rfl rfl (hb hby at_208)
    have F31 : Old Z n0 h30 := F23.wr W30 g_b22
    have F32 : Arv Z h30 b14 kc_b14 .char (0 : Int32) [] (.int (0 : Int32)) := F24.other W30 ne_b14_b22
    have F33 : Arv Z h30 b22 kc_b22 .long (1 : Int32) [(.long w0)] (.long (0 : Int64)) := Arv.set Ar30 q30 S30 M30 H30 G30 rfl W30 0 rfl (Nat.le_of_ble_eq_true rfl)
    have Z34 : n0 ≤ h30.size := Nat.le_trans Z26 (Keep.of_wr W30).1
    have K35 : Keep h0 h30 [] := K27.wr W30 (Or.inr sz_b22)
    have N30 := Fr.snoc X30 N0 g_b22
    have P36 : ∀ t, Steps p.tables e below (T30.setTop (mkF m 209 #[vI p1, vI p2, vI p3, vJ q4, vS, vJ q5, vS, vI p6, vI nx, vI mx, vI kx, vI px, vI c0, vI off, vI c1, vI dx, vI c2, vJ w0, vS, vJ w1, vS, vR b14, vU, vU, vU, vU, vU, vU, vU, vU, vU, vU, vU] [(.ref b22)])) t → Steps p.tables e below (s₁.setTop (entryFrame m #[(.int p1), (.int p2), (.int p3), (.long q4), (.long q5), (.int p6)] maxLocals)) t := fun t k => P29 _ (st30 _ k)
    have P37 : ∀ t, Steps p.tables e below (T30.setTop (mkF m 227 #[vI p1, vI p2, vI p3, vJ q4, vS, vJ q5, vS, vI p6, vI nx, vI mx, vI kx, vI px, vI c0, vI off, vI c1, vI dx, vI c2, vJ w0, vS, vJ w1, vS, vR b14, vR b22, vU, vU, vU, vU, vU, vU, vU, vU, vU, vU] [])) t → Steps p.tables e below (s₁.setTop (entryFrame m #[(.int p1), (.int p2), (.int p3), (.long q4), (.long q5), (.int p6)] maxLocals)) t := by
      intro t k
      refine P36 _ ?_
      refine XS.goto X30.here hx rfl (pc0 := 209) (pc' := 225) rfl (hb hby at_209) (by decide) (by decide) ?_
      show Steps p.tables e below (T30.setTop (mkF m 225 #[vI p1, vI p2, vI p3, vJ q4, vS, vJ q5, vS, vI p6, vI nx, vI mx, vI kx, vI px, vI c0, vI off, vI c1, vI dx, vI c2, vJ w0, vS, vJ w1, vS, vR b14, vU, vU, vU, vU, vU, vU, vU, vU, vU, vU, vU] [(.ref b22)])) _
      refine XS.astore X30.here hx rfl (hb hby at_225) rfl rfl (l' := #[vI p1, vI p2, vI p3, vJ q4, vS, vJ q5, vS, vI p6, vI nx, vI mx, vI kx, vI px, vI c0, vI off, vI c1, vI dx, vI c2, vJ w0, vS, vJ w1, vS, vR b14, vR b22, vU, vU, vU, vU, vU, vU, vU, vU, vU, vU]) rfl ?_
      show Steps p.tables e below (T30.setTop (mkF m 227 #[vI p1, vI p2, vI p3, vJ q4, vS, vJ q5, vS, vI p6, vI nx, vI mx, vI kx, vI px, vI c0, vI off, vI c1, vI dx, vI c2, vJ w0, vS, vJ w1, vS, vR b14, vR b22, vU, vU, vU, vU, vU, vU, vU, vU, vU, vU] [])) _
      exact k
    have V38 : own_Af Z h30 b14 kc_b14 .char (0 : Int32) (fun i => Value.int ((own_l3 c0 c1 c2) i)) := (own_convV F32).same (fun i hi => by
      match i, hi with
      | j + 0, hj => exact absurd hj (by show ¬ j + 0 < 0; omega))
    have V39 : own_Af Z h30 b22 kc_b22 .long (1 : Int32) (fun i => Value.long ((own_w2 w0 w1) i)) := (own_convV F33).same (fun i hi => by
      match i, hi with
      | 0, _ => rfl
      | j + 1, hj => exact absurd hj (by show ¬ j + 1 < 1; omega))
    have hnv : nx = (0 : Int32) := hz0
    have hmv : mx = (1 : Int32) := c198
    have hkm : kk < 1 := by
      rw [hmv] at hkm0
      have e : (1 : Int32).toInt = 1 := rfl
      omega
    have hnn : nx.toInt = ((0 : Nat) : Int) := by rw [hnv]; rfl
    obtain ⟨T40, h40, X40, e40, E40, A40, D40, -, st40⟩ := newO X30 hx hZ hown (hw _ (List.mem_of_getElem? (i := 4) rfl)) (hw _ (List.mem_of_getElem? (i := 5) rfl)) (hw _ (List.mem_of_getElem? (i := 6) rfl)) e30 (g := (mkF m 227 #[vI p1, vI p2, vI p3, vJ q4, vS, vJ q5, vS, vI p6, vI nx, vI mx, vI kx, vI px, vI c0, vI off, vI c1, vI dx, vI c2, vJ w0, vS, vJ w1, vS, vR b14, vR b22, vU, vU, vU, vU, vU, vU, vU, vU, vU, vU] [])) rfl (hb hby at_227) (by decide) (by decide)
    obtain ⟨bA, g40⟩ : ∃ z, z = h30.size := ⟨_, rfl⟩
    rw [← g40] at A40 D40 st40
    have F41 : Old Z n0 h40 := F31.ext E40
    have F42 : own_Af Z h40 b14 kc_b14 .char (0 : Int32) (fun i => Value.int ((own_l3 c0 c1 c2) i)) := V38.ext E40
    have F43 : own_Af Z h40 b22 kc_b22 .long (1 : Int32) (fun i => Value.long ((own_w2 w0 w1) i)) := V39.ext E40
    have F44 : Fld Z h40 bA "com/example/basewright/basewright/Alphabet" "characters" "[B" .null := D40 (Or.inr (hw _ (List.mem_of_getElem? (i := 78) rfl))) (ty := (.array .byte)) (by decide)
    have F45 : Fld Z h40 bA "com/example/basewright/basewright/Alphabet" "values" "[B" .null := D40 (Or.inr (hw _ (List.mem_of_getElem? (i := 80) rfl))) (ty := (.array .byte)) (by decide)
    have Z46 : n0 ≤ h40.size := Nat.le_trans Z34 E40.1
    have K47 : Keep h0 h40 [] := K35.ext E40
    have g_bA : n0 ≤ bA := Nat.le_trans Z34 (Nat.le_of_eq g40.symm)
    have sz_bA : h0.size ≤ bA := Nat.le_trans K35.1 (Nat.le_of_eq g40.symm)
    have ne_b14_bA : b14 ≠ bA := Nat.ne_of_lt (Nat.lt_of_lt_of_le V38.lt (Nat.le_of_eq g40.symm))
    have ne_b22_bA : b22 ≠ bA := Nat.ne_of_lt (Nat.lt_of_lt_of_le V39.lt (Nat.le_of_eq g40.symm))
    have P48 : ∀ t, Steps p.tables e below (T40.setTop (mkF m 230 #[vI p1, vI p2, vI p3, vJ q4, vS, vJ q5, vS, vI p6, vI nx, vI mx, vI kx, vI px, vI c0, vI off, vI c1, vI dx, vI c2, vJ w0, vS, vJ w1, vS, vR b14, vR b22, vU, vU, vU, vU, vU, vU, vU, vU, vU, vU] [(.ref bA)])) t → Steps p.tables e below (s₁.setTop (entryFrame m #[(.int p1), (.int p2), (.int p3), (.long q4), (.long q5), (.int p6)] maxLocals)) t := fun t k => P37 _ (st40 _ k)
    have P49 : ∀ t, Steps p.tables e below (T40.setTop (mkF m 231 #[vI p1, vI p2, vI p3, vJ q4, vS, vJ q5, vS, vI p6, vI nx, vI mx, vI kx, vI px, vI c0, vI off, vI c1, vI dx, vI c2, vJ w0, vS, vJ w1, vS, vR b14, vR b22, vU, vU, vU, vU, vU, vU, vU, vU, vU, vU] [(.ref bA), (.ref bA)])) t → Steps p.tables e below (s₁.setTop (entryFrame m #[(.int p1), (.int p2), (.int p3), (.long q4), (.long q5), (.int p6)] maxLocals)) t := by
      intro t k
      refine P48 _ ?_
      refine XS.dup X40.here hx rfl (hb hby at_230) rfl rfl ?_
      show Steps p.tables e below (T40.setTop (mkF m 231 #[vI p1, vI p2, vI p3, vJ q4, vS, vJ q5, vS, vI p6, vI nx, vI mx, vI kx, vI px, vI c0, vI off, vI c1, vI dx, vI c2, vJ w0, vS, vJ w1, vS, vR b14, vR b22, vU, vU, vU, vU, vU, vU, vU, vU, vU, vU] [(.ref bA), (.ref bA)])) _
      exact k
    obtain ⟨T50, h50, X50, e50, E50, A50, D50, -, st50⟩ := newO X40 hx hZ hown (hw _ (List.mem_of_getElem? (i := 7) rfl)) (hw _ (List.mem_of_getElem? (i := 8) rfl)) (hw _ (List.mem_of_getElem? (i := 9) rfl)) e40 (g := (mkF m 231 #[vI p1, vI p2, vI p3, vJ q4, vS, vJ q5, vS, vI p6, vI nx, vI mx, vI kx, vI px, vI c0, vI off, vI c1, vI dx, vI c2, vJ w0, vS, vJ w1, vS, vR b14, vR b22, vU, vU, vU, vU, vU, vU, vU, vU, vU, vU] [(.ref bA), (.ref bA)])) rfl (hb hby at_231) (by decide) (by decide)
    obtain ⟨b50, g50⟩ : ∃ z, z = h40.size := ⟨_, rfl⟩
    rw [← g50] at A50 D50 st50
    have F51 : Old Z n0 h50 := F41.ext E50
    have F52 : own_Af Z h50 b14 kc_b14 .char (0 : Int32) (fun i => Value.int ((own_l3 c0 c1 c2) i)) := F42.ext E50
    have F53 : own_Af Z h50 b22 kc_b22 .long (1 : Int32) (fun i => Value.long ((own_w2 w0 w1) i)) := F43.ext E50
    have F54 : Exa Z h50 bA "com/example/basewright/basewright/Alphabet" := A40.ext E50
    have F55 : Fld Z h50 bA "com/example/basewright/basewright/Alphabet" "characters" "[B" .null := F44.ext E50
    have F56 : Fld Z h50 bA "com/example/basewright/basewright/Alphabet" "values" "[B" .null := F45.ext E50
    have F57 : Fld Z h50 b50 "java/lang/String" "coder" "B" (.int (0 : Int32)) := D50 (Or.inr (hw _ (List.mem_of_getElem? (i := 33) rfl))) (ty := .byte) (by decide)
    have F58 : Fld Z h50 b50 "java/lang/String" "value" "[B" .null := D50 (Or.inr (hw _ (List.mem_of_getElem? (i := 35) rfl))) (ty := (.array .byte)) (by decide)
    have Z59 : n0 ≤ h50.size := Nat.le_trans Z46 E50.1
    have K60 : Keep h0 h50 [] := K47.ext E50
    have g_b50 : n0 ≤ b50 := Nat.le_trans Z46 (Nat.le_of_eq g50.symm)
    have sz_b50 : h0.size ≤ b50 := Nat.le_trans K47.1 (Nat.le_of_eq g50.symm)
    have ne_b14_b50 : b14 ≠ b50 := Nat.ne_of_lt (Nat.lt_of_lt_of_le F42.lt (Nat.le_of_eq g50.symm))
    have ne_b22_b50 : b22 ≠ b50 := Nat.ne_of_lt (Nat.lt_of_lt_of_le F43.lt (Nat.le_of_eq g50.symm))
    have ne_bA_b50 : bA ≠ b50 := Nat.ne_of_lt (Nat.lt_of_lt_of_le A40.lt (Nat.le_of_eq g50.symm))
    have P61 : ∀ t, Steps p.tables e below (T50.setTop (mkF m 234 #[vI p1, vI p2, vI p3, vJ q4, vS, vJ q5, vS, vI p6, vI nx, vI mx, vI kx, vI px, vI c0, vI off, vI c1, vI dx, vI c2, vJ w0, vS, vJ w1, vS, vR b14, vR b22, vU, vU, vU, vU, vU, vU, vU, vU, vU, vU] [(.ref b50), (.ref bA), (.ref bA)])) t → Steps p.tables e below (s₁.setTop (entryFrame m #[(.int p1), (.int p2), (.int p3), (.long q4), (.long q5), (.int p6)] maxLocals)) t := fun t k => P49 _ (st50 _ k)
    have P62 : ∀ t, Steps p.tables e below (T50.setTop (mkF m 237 #[vI p1, vI p2, vI p3, vJ q4, vS, vJ q5, vS, vI p6, vI nx, vI mx, vI kx, vI px, vI c0, vI off, vI c1, vI dx, vI c2, vJ w0, vS, vJ w1, vS, vR b14, vR b22, vU, vU, vU, vU, vU, vU, vU, vU, vU, vU] [(.ref b14), (.ref b50), (.ref b50), (.ref bA), (.ref bA)])) t → Steps p.tables e below (s₁.setTop (entryFrame m #[(.int p1), (.int p2), (.int p3), (.long q4), (.long q5), (.int p6)] maxLocals)) t := by
      intro t k
      refine P61 _ ?_
      refine XS.dup X50.here hx rfl (hb hby at_234) rfl rfl ?_
      show Steps p.tables e below (T50.setTop (mkF m 235 #[vI p1, vI p2, vI p3, vJ q4, vS, vJ q5, vS, vI p6, vI nx, vI mx, vI kx, vI px, vI c0, vI off, vI c1, vI dx, vI c2, vJ w0, vS, vJ w1, vS, vR b14, vR b22, vU, vU, vU, vU, vU, vU, vU, vU, vU, vU] [(.ref b50), (.ref b50), (.ref bA), (.ref bA)])) _
      refine XS.aload X50.here hx rfl (hb hby at_235) rfl rfl ?_
      show Steps p.tables e below (T50.setTop (mkF m 237 #[vI p1, vI p2, vI p3, vJ q4, vS, vJ q5, vS, vI p6, vI nx, vI mx, vI kx, vI px, vI c0, vI off, vI c1, vI dx, vI c2, vJ w0, vS, vJ w1, vS, vR b14, vR b22, vU, vU, vU, vU, vU, vU, vU, vU, vU, vU] [(.ref b14), (.ref b50), (.ref b50), (.ref bA), (.ref bA)])) _
      exact k
    obtain ⟨_, _, ⟨T63, L63, k63, n63⟩, -, X63, hS, hgr, ⟨Lc63, hQ63, l63, y63, z63⟩, st63⟩ := X50.specialBackS hx (y := (⟨"java/lang/String", "<init>", "([C)V"⟩ : MethodName)) rfl hown (mvT hZ (hw _ (List.mem_of_getElem? (i := 10) rfl))) (mvT hZ (hw _ (List.mem_of_getElem? (i := 11) rfl))) (mvT hZ (hw _ (List.mem_of_getElem? (i := 12) rfl))) (by decide) (own_backC (W := 3) (rm35 l Z a0 hw [] b50 b14 (own_l3 c0 c1 c2) kc_b14 (fun i => Value.int ((own_l3 c0 c1 c2) i)) h50 n0 Z59 A50 F58 F57 g_b50 F52) hZ (hw _ (List.mem_of_getElem? (i := 12) rfl)) (hw _ (List.mem_of_getElem? (i := 9) rfl)) (by decide) (by decide) (own_ew hw) (own_chk hC K60)) (g := (mkF m 237 #[vI p1, vI p2, vI p3, vJ q4, vS, vJ q5, vS, vI p6, vI nx, vI mx, vI kx, vI px, vI c0, vI off, vI c1, vI dx, vI c2, vJ w0, vS, vJ w1, vS, vR b14, vR b22, vU, vU, vU, vU, vU, vU, vU, vU, vU, vU] [(.ref b14), (.ref b50), (.ref b50), (.ref bA), (.ref bA)])) rfl (by rw [hml]; rfl) (Steps.refl _) (a := b50) (argsL := [(.ref b14)]) (rest := [(.ref b50), (.ref bA), (.ref bA)]) (lenOf pd_11 rfl) rfl (by show 2 * 0 + _ ≤ _; exact Nat.le_of_eq rfl) (hb hby at_237) (fun _ _ => ⟨rfl, e50, (by decide : 4 + 2 ≤ _), (by decide : 7 + 4 ≤ _)⟩)
    dsimp only [Pt.U, Pt.locs, Pt.cells, Pt.slots] at X63 l63 y63 z63 st63 hQ63 hS hgr
    subst l63 y63 z63
    have hZ : Z.Warmed39 (s.setVm T63.vm).vm := State.Warmed39.trans (t := s) hZ hS.1
    have hown : (s.setVm T63.vm).vm.findClass "com/example/basewright/basewright/AlphabetWeightedValuesPinLaw" = some m.cls := by rw [show (s.setVm T63.vm).vm = T63.vm from rfl, hS.1.alike.findClass]; exact hown
    obtain ⟨b_63, kb_63, rfl, N63q, K63, Y63_0, Y63_1, Y63_2, Y63_3, Y63_4⟩ := hQ63
    have F64 : Old Z n0 T63.heap := F51.keep K63 (allS g_b50 all0)
    have F65 : own_Af Z T63.heap b14 kc_b14 .char (0 : Int32) (fun i => Value.int ((own_l3 c0 c1 c2) i)) := F52.keep K63 (ninS ne_b14_b50 nin0)
    have F66 : own_Af Z T63.heap b22 kc_b22 .long (1 : Int32) (fun i => Value.long ((own_w2 w0 w1) i)) := F53.keep K63 (ninS ne_b22_b50 nin0)
    have F67 : Exa Z T63.heap bA "com/example/basewright/basewright/Alphabet" := F54.keep K63
    have F68 : Fld Z T63.heap bA "com/example/basewright/basewright/Alphabet" "characters" "[B" .null := F55.keep K63 (ninS ne_bA_b50 nin0)
    have F69 : Fld Z T63.heap bA "com/example/basewright/basewright/Alphabet" "values" "[B" .null := F56.keep K63 (ninS ne_bA_b50 nin0)
    have F70 : Exa Z T63.heap b50 "java/lang/String" := A50.keep K63
    have Z71 : n0 ≤ T63.heap.size := Nat.le_trans Z59 K63.1
    have K72 : Keep h0 T63.heap [] := K60.trans K63 (allS (Or.inr sz_b50) all0)
    have N63 := Fr.app N30 N63q
    have P73 : ∀ t, Steps p.tables e below (T63.setTop (mkF m 240 #[vI p1, vI p2, vI p3, vJ q4, vS, vJ q5, vS, vI p6, vI nx, vI mx, vI kx, vI px, vI c0, vI off, vI c1, vI dx, vI c2, vJ w0, vS, vJ w1, vS, vR b14, vR b22, vU, vU, vU, vU, vU, vU, vU, vU, vU, vU] [(.ref b50), (.ref bA), (.ref bA)])) t → Steps p.tables e below (s₁.setTop (entryFrame m #[(.int p1), (.int p2), (.int p3), (.long q4), (.long q5), (.int p6)] maxLocals)) t := fun t k => P62 _ (st63.trans k)
    have hk74 : T63.heap.size ≤ T63.heap.size := Nat.le_refl _
    have ne_bA_b_63 : bA ≠ b_63 := own_arrne (hw _ (List.mem_of_getElem? (i := 5) rfl)) F67 Y63_3
    obtain ⟨_, _, ⟨T75, L75, k75, n75⟩, -, X75, ⟨Lc75, hQ75, l75, y75, z75⟩, st75⟩ := X63.specialBack hx (y := (⟨"com/example/basewright/basewright/Alphabet", "<init>", "(Ljava/lang/String;)V"⟩ : MethodName)) rfl hown (mvT hZ (hw _ (List.mem_of_getElem? (i := 36) rfl))) (mvT hZ (hw _ (List.mem_of_getElem? (i := 37) rfl))) (mvT hZ (hw _ (List.mem_of_getElem? (i := 38) rfl))) (by decide) (backOf (W := 1) (rm27 l Z a0 hw [] bA b50 .null .null b_63 (0 : Int32) kb_63 (own_l3 c0 c1 c2) 0 wA wU wI ccs T63.heap n0 Z71 F64 F67 F68 F69 g_bA Y63_0 Y63_1 Y63_2 Y63_3 Y63_4 rfl (by decide) (own_l3s kc0 kc1 kc2 (by decide)) S_H S_wU S_wI S_wA neU neI S_cs hcc) hZ (hw _ (List.mem_of_getElem? (i := 38) rfl)) (hw _ (List.mem_of_getElem? (i := 6) rfl)) (by decide) (by decide)) (g := (mkF m 240 #[vI p1, vI p2, vI p3, vJ q4, vS, vJ q5, vS, vI p6, vI nx, vI mx, vI kx, vI px, vI c0, vI off, vI c1, vI dx, vI c2, vJ w0, vS, vJ w1, vS, vR b14, vR b22, vU, vU, vU, vU, vU, vU, vU, vU, vU, vU] [(.ref b50), (.ref bA), (.ref bA)])) rfl (by rw [hml]; rfl) (Steps.refl _) (a := bA) (argsL := [(.ref b50)]) (rest := [(.ref bA)]) (lenOf pd_12 rfl) rfl (by show 2 * 0 + _ ≤ _; exact Nat.le_of_eq rfl) (hb hby at_240) (fun _ _ => ⟨rfl, rfl, (by decide : 6 + 2 ≤ _), (by decide : 11 + 260 ≤ _)⟩)
    dsimp only [Pt.U, Pt.locs, Pt.cells, Pt.slots] at X75 l75 y75 z75 st75 hQ75
    subst l75 y75 z75
    obtain ⟨bc_75, bz_75, kz_75, rfl, N75q, K75, s75_bc, s75_bz, Y75_0, Y75_1, Y75_2, Y75_3, Y75_4⟩ := hQ75
    have F76 : Old Z n0 T75.heap := F64.keep K75 (allS g_bA all0)
    have F77 : own_Af Z T75.heap b14 kc_b14 .char (0 : Int32) (fun i => Value.int ((own_l3 c0 c1 c2) i)) := F65.keep K75 (ninS ne_b14_bA nin0)
    have F78 : own_Af Z T75.heap b22 kc_b22 .long (1 : Int32) (fun i => Value.long ((own_w2 w0 w1) i)) := F66.keep K75 (ninS ne_b22_bA nin0)
    have F79 : Exa Z T75.heap bA "com/example/basewright/basewright/Alphabet" := F67.keep K75
    have F80 : Exa Z T75.heap b50 "java/lang/String" := Y63_0.keep K75
    have F81 : Fld Z T75.heap b50 "java/lang/String" "value" "[B" (.ref b_63) := Y63_1.keep K75 (ninS (Ne.symm ne_bA_b50) nin0)
    have F82 : Fld Z T75.heap b50 "java/lang/String" "coder" "B" (.int (0 : Int32)) := Y63_2.keep K75 (ninS (Ne.symm ne_bA_b50) nin0)
    have F83 : own_Af Z T75.heap b_63 kb_63 .byte (0 : Int32) (fun i => Value.int ((own_l3 c0 c1 c2) i)) := Y63_3.keep K75 (ninS (Ne.symm ne_bA_b_63) nin0)
    have F84 : Exa Z T75.heap b_63 "[B" := Y63_4.keep K75
    have hk85 : T63.heap.size ≤ T75.heap.size := Nat.le_trans hk74 K75.1
    have Z86 : n0 ≤ T75.heap.size := Nat.le_trans Z71 K75.1
    have K87 : Keep h0 T75.heap [] := K72.trans K75 (allS (Or.inr sz_bA) all0)
    have g_bc_75 : n0 ≤ bc_75 := Nat.le_trans Z71 s75_bc
    have sz_bc_75 : h0.size ≤ bc_75 := Nat.le_trans K72.1 s75_bc
    have ne_b14_bc_75 : b14 ≠ bc_75 := Nat.ne_of_lt (Nat.lt_of_lt_of_le F65.lt s75_bc)
    have ne_b22_bc_75 : b22 ≠ bc_75 := Nat.ne_of_lt (Nat.lt_of_lt_of_le F66.lt s75_bc)
    have ne_bA_bc_75 : bA ≠ bc_75 := Nat.ne_of_lt (Nat.lt_of_lt_of_le F67.lt s75_bc)
    have ne_b50_bc_75 : b50 ≠ bc_75 := Nat.ne_of_lt (Nat.lt_of_lt_of_le Y63_0.lt s75_bc)
    have g_bz_75 : n0 ≤ bz_75 := Nat.le_trans Z71 s75_bz
    have sz_bz_75 : h0.size ≤ bz_75 := Nat.le_trans K72.1 s75_bz
    have ne_b14_bz_75 : b14 ≠ bz_75 := Nat.ne_of_lt (Nat.lt_of_lt_of_le F65.lt s75_bz)
    have ne_b22_bz_75 : b22 ≠ bz_75 := Nat.ne_of_lt (Nat.lt_of_lt_of_le F66.lt s75_bz)
    have ne_bA_bz_75 : bA ≠ bz_75 := Nat.ne_of_lt (Nat.lt_of_lt_of_le F67.lt s75_bz)
    have ne_b50_bz_75 : b50 ≠ bz_75 := Nat.ne_of_lt (Nat.lt_of_lt_of_le Y63_0.lt s75_bz)
    have N75 := Fr.app N63 N75q
    have P88 : ∀ t, Steps p.tables e below (T75.setTop (mkF m 243 #[vI p1, vI p2, vI p3, vJ q4, vS, vJ q5, vS, vI p6, vI nx, vI mx, vI kx, vI px, vI c0, vI off, vI c1, vI dx, vI c2, vJ w0, vS, vJ w1, vS, vR b14, vR b22, vU, vU, vU, vU, vU, vU, vU, vU, vU, vU] [(.ref bA)])) t → Steps p.tables e below (s₁.setTop (entryFrame m #[(.int p1), (.int p2), (.int p3), (.long q4), (.long q5), (.int p6)] maxLocals)) t := fun t k => P73 _ (st75.trans k)
    have P89 : ∀ t, Steps p.tables e below (T75.setTop (mkF m 249 #[vI p1, vI p2, vI p3, vJ q4, vS, vJ q5, vS, vI p6, vI nx, vI mx, vI kx, vI px, vI c0, vI off, vI c1, vI dx, vI c2, vJ w0, vS, vJ w1, vS, vR b14, vR b22, vR bA, vU, vU, vU, vU, vU, vU, vU, vU, vU] [(.ref b22), (.ref bA)])) t → Steps p.tables e below (s₁.setTop (entryFrame m #[(.int p1), (.int p2), (.int p3), (.long q4), (.long q5), (.int p6)] maxLocals)) t := by
      intro t k
      refine P88 _ ?_
      refine XS.astore X75.here hx rfl (hb hby at_243) rfl rfl (l' := #[vI p1, vI p2, vI p3, vJ q4, vS, vJ q5, vS, vI p6, vI nx, vI mx, vI kx, vI px, vI c0, vI off, vI c1, vI dx, vI c2, vJ w0, vS, vJ w1, vS, vR b14, vR b22, vR bA, vU, vU, vU, vU, vU, vU, vU, vU, vU]) rfl ?_
      show Steps p.tables e below (T75.setTop (mkF m 245 #[vI p1, vI p2, vI p3, vJ q4, vS, vJ q5, vS, vI p6, vI nx, vI mx, vI kx, vI px, vI c0, vI off, vI c1, vI dx, vI c2, vJ w0, vS, vJ w1, vS, vR b14, vR b22, vR bA, vU, vU, vU, vU, vU, vU, vU, vU, vU] [])) _
      refine XS.aload X75.here hx rfl (hb hby at_245) rfl rfl ?_
      show Steps p.tables e below (T75.setTop (mkF m 247 #[vI p1, vI p2, vI p3, vJ q4, vS, vJ q5, vS, vI p6, vI nx, vI mx, vI kx, vI px, vI c0, vI off, vI c1, vI dx, vI c2, vJ w0, vS, vJ w1, vS, vR b14, vR b22, vR bA, vU, vU, vU, vU, vU, vU, vU, vU, vU] [(.ref bA)])) _
      refine XS.aload X75.here hx rfl (hb hby at_247) rfl rfl ?_
      show Steps p.tables e below (T75.setTop (mkF m 249 #[vI p1, vI p2, vI p3, vJ q4, vS, vJ q5, vS, vI p6, vI nx, vI mx, vI kx, vI px, vI c0, vI off, vI c1, vI dx, vI c2, vJ w0, vS, vJ w1, vS, vR b14, vR b22, vR bA, vU, vU, vU, vU, vU, vU, vU, vU, vU] [(.ref b22), (.ref bA)])) _
      exact k
    obtain ⟨cq90, kq90, qa90, qb90, qc90⟩ := isOf hZ rfl Y75_0
    obtain ⟨_, _, ⟨T90, L90, k90, n90⟩, -, X90, ⟨Lc90, hQ90, l90, y90, z90⟩, st90⟩ := X75.virtualBack hx (y := (⟨"com/example/basewright/basewright/Alphabet", "weightedValues", "([J)[J"⟩ : MethodName)) (z := (⟨"com/example/basewright/basewright/Alphabet", "weightedValues", "([J)[J"⟩ : MethodName)) hown (mvT hZ (hw _ (List.mem_of_getElem? (i := 85) rfl))) (mvT hZ (hw _ (List.mem_of_getElem? (i := 86) rfl))) (notFace_of_selects (args := #[]) (mvT hZ (hw _ (List.mem_of_getElem? (i := 88) rfl)))) (mvT hZ (hw _ (List.mem_of_getElem? (i := 88) rfl))) (mvT hZ (hw _ (List.mem_of_getElem? (i := 87) rfl))) (by decide) (backOf (W := 0) (rm29 l Z a0 hw [] bA b22 bz_75 (1 : Int32) kz_75 kc_b22 (own_vf (own_l3 c0 c1 c2) 0) (own_w2 w0 w1) 1 T75.heap n0 Z86 Y75_2 Y75_4 F78 rfl (by decide)) hZ (hw _ (List.mem_of_getElem? (i := 89) rfl)) (hw _ (List.mem_of_getElem? (i := 6) rfl)) (by decide) (by decide)) qa90 qc90 (g := (mkF m 249 #[vI p1, vI p2, vI p3, vJ q4, vS, vJ q5, vS, vI p6, vI nx, vI mx, vI kx, vI px, vI c0, vI off, vI c1, vI dx, vI c2, vJ w0, vS, vJ w1, vS, vR b14, vR b22, vR bA, vU, vU, vU, vU, vU, vU, vU, vU, vU] [(.ref b22), (.ref bA)])) rfl (by rw [hml]; rfl) (Steps.refl _) (argsL := [(.ref b22)]) (rest := []) (lenOf pd_13 rfl) rfl (by show 2 * 0 + _ ≤ _; exact Nat.le_of_eq rfl) (hb hby at_249) (fun _ _ => ⟨rfl, rfl, (by decide : 8 + 1 ≤ _), (by decide : 271 + 512 ≤ _)⟩)
    dsimp only [Pt.U, Pt.locs, Pt.cells, Pt.slots] at X90 l90 y90 z90 st90 hQ90
    subst l90 y90 z90
    obtain ⟨b_90, kp_90, nq_90, rfl, N90q, K90, s90_b, Y90_0, Y90_1⟩ := hQ90
    have F91 : Old Z n0 T90.heap := F76.keep K90 all0
    have F92 : own_Af Z T90.heap b14 kc_b14 .char (0 : Int32) (fun i => Value.int ((own_l3 c0 c1 c2) i)) := F77.keep K90 nin0
    have F93 : own_Af Z T90.heap b22 kc_b22 .long (1 : Int32) (fun i => Value.long ((own_w2 w0 w1) i)) := F78.keep K90 nin0
    have F94 : Exa Z T90.heap bA "com/example/basewright/basewright/Alphabet" := Y75_0.keep K90
    have F95 : Exa Z T90.heap b50 "java/lang/String" := F80.keep K90
    have F96 : Fld Z T90.heap b50 "java/lang/String" "value" "[B" (.ref b_63) := F81.keep K90 nin0
    have F97 : Fld Z T90.heap b50 "java/lang/String" "coder" "B" (.int (0 : Int32)) := F82.keep K90 nin0
    have F98 : own_Af Z T90.heap b_63 kb_63 .byte (0 : Int32) (fun i => Value.int ((own_l3 c0 c1 c2) i)) := F83.keep K90 nin0
    have F99 : Exa Z T90.heap b_63 "[B" := F84.keep K90
    have F100 : Fld Z T90.heap bA "com/example/basewright/basewright/Alphabet" "characters" "[B" (.ref bc_75) := Y75_1.keep K90 nin0
    have F101 : Fld Z T90.heap bA "com/example/basewright/basewright/Alphabet" "values" "[B" (.ref bz_75) := Y75_2.keep K90 nin0
    have F102 : own_Af Z T90.heap bc_75 kb_63 .byte (0 : Int32) (fun i => Value.int ((own_l3 c0 c1 c2) i)) := Y75_3.keep K90 nin0
    have F103 : own_Af Z T90.heap bz_75 kz_75 .byte (256 : Int32) (fun j => Value.int (own_vf (own_l3 c0 c1 c2) 0 j)) := Y75_4.keep K90 nin0
    have hk104 : T63.heap.size ≤ T90.heap.size := Nat.le_trans hk85 K90.1
    have Z105 : n0 ≤ T90.heap.size := Nat.le_trans Z86 K90.1
    have K106 : Keep h0 T90.heap [] := K87.trans K90 all0
    have g_b_90 : n0 ≤ b_90 := Nat.le_trans Z86 s90_b
    have sz_b_90 : h0.size ≤ b_90 := Nat.le_trans K87.1 s90_b
    have ne_b14_b_90 : b14 ≠ b_90 := Nat.ne_of_lt (Nat.lt_of_lt_of_le F77.lt s90_b)
    have ne_b22_b_90 : b22 ≠ b_90 := Nat.ne_of_lt (Nat.lt_of_lt_of_le F78.lt s90_b)
    have ne_bA_b_90 : bA ≠ b_90 := Nat.ne_of_lt (Nat.lt_of_lt_of_le Y75_0.lt s90_b)
    have ne_b50_b_90 : b50 ≠ b_90 := Nat.ne_of_lt (Nat.lt_of_lt_of_le F80.lt s90_b)
    have ne_bc_75_b_90 : bc_75 ≠ b_90 := Nat.ne_of_lt (Nat.lt_of_lt_of_le Y75_3.lt s90_b)
    have ne_bz_75_b_90 : bz_75 ≠ b_90 := Nat.ne_of_lt (Nat.lt_of_lt_of_le Y75_4.lt s90_b)
    have N90 := Fr.app N75 N90q
    have P107 : ∀ t, Steps p.tables e below (T90.setTop (mkF m 252 #[vI p1, vI p2, vI p3, vJ q4, vS, vJ q5, vS, vI p6, vI nx, vI mx, vI kx, vI px, vI c0, vI off, vI c1, vI dx, vI c2, vJ w0, vS, vJ w1, vS, vR b14, vR b22, vR bA, vU, vU, vU, vU, vU, vU, vU, vU, vU] [(.ref b_90)])) t → Steps p.tables e below (s₁.setTop (entryFrame m #[(.int p1), (.int p2), (.int p3), (.long q4), (.long q5), (.int p6)] maxLocals)) t := fun t k => P89 _ (st90.trans k)
    have P108 : ∀ t, Steps p.tables e below (T90.setTop (mkF m 254 #[vI p1, vI p2, vI p3, vJ q4, vS, vJ q5, vS, vI p6, vI nx, vI mx, vI kx, vI px, vI c0, vI off, vI c1, vI dx, vI c2, vJ w0, vS, vJ w1, vS, vR b14, vR b22, vR bA, vR b_90, vU, vU, vU, vU, vU, vU, vU, vU] [])) t → Steps p.tables e below (s₁.setTop (entryFrame m #[(.int p1), (.int p2), (.int p3), (.long q4), (.long q5), (.int p6)] maxLocals)) t := by
      intro t k
      refine P107 _ ?_
      refine XS.astore X90.here hx rfl (hb hby at_252) rfl rfl (l' := #[vI p1, vI p2, vI p3, vJ q4, vS, vJ q5, vS, vI p6, vI nx, vI mx, vI kx, vI px, vI c0, vI off, vI c1, vI dx, vI c2, vJ w0, vS, vJ w1, vS, vR b14, vR b22, vR bA, vR b_90, vU, vU, vU, vU, vU, vU, vU, vU]) rfl ?_
      show Steps p.tables e below (T90.setTop (mkF m 254 #[vI p1, vI p2, vI p3, vJ q4, vS, vJ q5, vS, vI p6, vI nx, vI mx, vI kx, vI px, vI c0, vI off, vI c1, vI dx, vI c2, vJ w0, vS, vJ w1, vS, vR b14, vR b22, vR bA, vR b_90, vU, vU, vU, vU, vU, vU, vU, vU] [])) _
      exact k
    have hq24 := (own_m8 (mm := 1) Y90_1 rfl (by decide)).1
    have hlen : nq_90 = (mx * (256 : Int32)) := by rw [Y90_1, hmv]; rfl
    obtain ⟨T109, h109, lo109, X109, e109, N109, K109, q109, st109⟩ := tlA (by decide) (by decide) p1 p2 p3 q4 q5 p6 nx mx kx px c0 off c1 dx c2 w0 w1 b14 b22 bA b_90 nq_90 kp_90 0 1 kk X90 hx hZ hw hby hml hown rfl N90 Z105 Y90_0 hq24 hlen hnn (by decide) hkk hkm (by decide) hk1 kc0 kc1 kc2 hne3 kpx kp8 kp9
    have P110 : ∀ t, Steps p.tables e below (T109.setTop (mkF m 423 #[vI p1, vI p2, vI p3, vJ q4, vS, vJ q5, vS, vI p6, vI nx, vI mx, vI kx, vI px, vI c0, vI off, vI c1, vI dx, vI c2, vJ w0, vS, vJ w1, vS, vR b14, vR b22, vR bA, vR b_90, .val (.long (if kx = (0 : Int32) then w0 else w1)), vS, .val (.int (kx <<< ((8 : Int32) &&& 31))), .val (.int (1 : Int32)), vU, vU, vU, vU] [])) t → Steps p.tables e below (s₁.setTop (entryFrame m #[(.int p1), (.int p2), (.int p3), (.long q4), (.long q5), (.int p6)] maxLocals)) t := fun t k => P108 _ (st109 _ k)
    have hk111 : T63.heap.size ≤ h109.size := Nat.le_trans hk104 K109.1
    have Z112 : n0 ≤ h109.size := Nat.le_trans Z105 K109.1
    have P113 : ∀ t, Steps p.tables e below (T109.setTop (mkF m 578 #[vI p1, vI p2, vI p3, vJ q4, vS, vJ q5, vS, vI p6, vI nx, vI mx, vI kx, vI px, vI c0, vI off, vI c1, vI dx, vI c2, vJ w0, vS, vJ w1, vS, vR b14, vR b22, vR bA, vR b_90, .val (.long (if kx = (0 : Int32) then w0 else w1)), vS, .val (.int (kx <<< ((8 : Int32) &&& 31))), .val (.int (1 : Int32)), vU, vU, vU, vU] [(.int (1 : Int32))])) t → Steps p.tables e below (s₁.setTop (entryFrame m #[(.int p1), (.int p2), (.int p3), (.long q4), (.long q5), (.int p6)] maxLocals)) t := by
      intro t k
      refine P110 _ ?_
      refine XS.iload X109.here hx rfl (hb hby at_423) rfl ?_
      show Steps p.tables e below (T109.setTop (mkF m 425 #[vI p1, vI p2, vI p3, vJ q4, vS, vJ q5, vS, vI p6, vI nx, vI mx, vI kx, vI px, vI c0, vI off, vI c1, vI dx, vI c2, vJ w0, vS, vJ w1, vS, vR b14, vR b22, vR bA, vR b_90, .val (.long (if kx = (0 : Int32) then w0 else w1)), vS, .val (.int (kx <<< ((8 : Int32) &&& 31))), .val (.int (1 : Int32)), vU, vU, vU, vU] [(.int mx)])) _
      refine XS.iconst X109.here hx rfl (hb hby at_425) ?_
      show Steps p.tables e below (T109.setTop (mkF m 426 #[vI p1, vI p2, vI p3, vJ q4, vS, vJ q5, vS, vI p6, vI nx, vI mx, vI kx, vI px, vI c0, vI off, vI c1, vI dx, vI c2, vJ w0, vS, vJ w1, vS, vR b14, vR b22, vR bA, vR b_90, .val (.long (if kx = (0 : Int32) then w0 else w1)), vS, .val (.int (kx <<< ((8 : Int32) &&& 31))), .val (.int (1 : Int32)), vU, vU, vU, vU] [(.int (2 : Int32)), (.int mx)])) _
      refine XS.icmpYes X109.here hx rfl (pc0 := 426) (pc' := 576) rfl (hb hby at_426) rfl (XT.ii_ne_t (by rw [hmv]; decide)) (by decide) (by decide) ?_
      show Steps p.tables e below (T109.setTop (mkF m 576 #[vI p1, vI p2, vI p3, vJ q4, vS, vJ q5, vS, vI p6, vI nx, vI mx, vI kx, vI px, vI c0, vI off, vI c1, vI dx, vI c2, vJ w0, vS, vJ w1, vS, vR b14, vR b22, vR bA, vR b_90, .val (.long (if kx = (0 : Int32) then w0 else w1)), vS, .val (.int (kx <<< ((8 : Int32) &&& 31))), .val (.int (1 : Int32)), vU, vU, vU, vU] [])) _
      refine XS.iload X109.here hx rfl (hb hby at_576) rfl ?_
      show Steps p.tables e below (T109.setTop (mkF m 578 #[vI p1, vI p2, vI p3, vJ q4, vS, vJ q5, vS, vI p6, vI nx, vI mx, vI kx, vI px, vI c0, vI off, vI c1, vI dx, vI c2, vJ w0, vS, vJ w1, vS, vR b14, vR b22, vR bA, vR b_90, .val (.long (if kx = (0 : Int32) then w0 else w1)), vS, .val (.int (kx <<< ((8 : Int32) &&& 31))), .val (.int (1 : Int32)), vU, vU, vU, vU] [(.int (1 : Int32))])) _
      exact k
    obtain ⟨fs, hr, hrun, hended, hRW⟩ := X109.leaveW hS (by rw [e109]; exact hk111) (v := some (.int (1 : Int32))) (fun h => by rw [Bd.returns] at h; cases h)
    refine ⟨_, _, P113 _ ?_, hrun, hended, _, _, rfl, ?_, hRW.1, hRW.2.1, hRW.2.2.1, hRW.2.2.2.mono (by decide) (by decide)⟩
    · exact retN X109 hx (t := .boolean) Bd.returns (by simp) (hb hby at_578) hr
    · show Q0z Z p1 p2 p3 q4 q5 p6 ccs wA wU wI h0 n0 _ T109.heap _
      rw [e109]
      exact ⟨rfl, N109⟩
  · have P114 : ∀ t, Steps p.tables e below (T14.setTop (mkF m 213 #[vI p1, vI p2, vI p3, vJ q4, vS, vJ q5, vS, vI p6, vI nx, vI mx, vI kx, vI px, vI c0, vI off, vI c1, vI dx, vI c2, vJ w0, vS, vJ w1, vS, vR b14, vU, vU, vU, vU, vU, vU, vU, vU, vU, vU, vU] [(.int (2 : Int32))])) t → Steps p.tables e below (s₁.setTop (entryFrame m #[(.int p1), (.int p2), (.int p3), (.long q4), (.long q5), (.int p6)] maxLocals)) t := by
      intro t k
      refine P20 _ ?_
      refine XS.icmpYes X14.here hx rfl (pc0 := 198) (pc' := 212) rfl (hb hby at_198) rfl (XT.ii_ne_t c198) (by decide) (by decide) ?_
      show Steps p.tables e below (T14.setTop (mkF m 212 #[vI p1, vI p2, vI p3, vJ q4, vS, vJ q5, vS, vI p6, vI nx, vI mx, vI kx, vI px, vI c0, vI off, vI c1, vI dx, vI c2, vJ w0, vS, vJ w1, vS, vR b14, vU, vU, vU, vU, vU, vU, vU, vU, vU, vU, vU] [])) _
      refine XS.iconst X14.here hx rfl (hb hby at_212) ?_
      show Steps p.tables e below (T14.setTop (mkF m 213 #[vI p1, vI p2, vI p3, vJ q4, vS, vJ q5, vS, vI p6, vI nx, vI mx, vI kx, vI px, vI c0, vI off, vI c1, vI dx, vI c2, vJ w0, vS, vJ w1, vS, vR b14, vU, vU, vU, vU, vU, vU, vU, vU, vU, vU, vU] [(.int (2 : Int32))])) _
      exact k
    obtain ⟨T115, h115, k115, X115, e115, E115, A115, st115⟩ := newP X14 hx hZ (hw _ (List.mem_of_getElem? (i := 3) rfl)) e14 (g := (mkF m 213 #[vI p1, vI p2, vI p3, vJ q4, vS, vJ q5, vS, vI p6, vI nx, vI mx, vI kx, vI px, vI c0, vI off, vI c1, vI dx, vI c2, vJ w0, vS, vJ w1, vS, vR b14, vU, vU, vU, vU, vU, vU, vU, vU, vU, vU, vU] [(.int (2 : Int32))])) rfl (hb hby at_213) rfl (by decide) (cap := 2) (by decide) (by decide) (by decide) (by decide)
    obtain ⟨b115, g115⟩ : ∃ z, z = h14.size := ⟨_, rfl⟩
    rw [← g115] at A115 st115
    have F116 : Old Z n0 h115 := F15.ext E115
    have F117 : Arv Z h115 b14 kc_b14 .char (0 : Int32) [] (.int (0 : Int32)) := F16.ext E115
    obtain ⟨kc_b115, hkc_b115⟩ : ∃ z, z = k115 := ⟨_, rfl⟩
    rw [← hkc_b115] at A115
    have F118 : Arv Z h115 b115 kc_b115 .long (2 : Int32) [(.long (0 : Int64)), (.long (0 : Int64))] (.long (0 : Int64)) := (Arv.new A115 (by decide)).pad (pad_rep [] (.long (0 : Int64)) 2)
    have Z119 : n0 ≤ h115.size := Nat.le_trans Z17 E115.1
    have K120 : Keep h0 h115 [] := K18.ext E115
    have g_b115 : n0 ≤ b115 := Nat.le_trans Z17 (Nat.le_of_eq g115.symm)
    have sz_b115 : h0.size ≤ b115 := Nat.le_trans K18.1 (Nat.le_of_eq g115.symm)
    have ne_b14_b115 : b14 ≠ b115 := Nat.ne_of_lt (Nat.lt_of_lt_of_le F16.lt (Nat.le_of_eq g115.symm))
    have P121 : ∀ t, Steps p.tables e below (T115.setTop (mkF m 215 #[vI p1, vI p2, vI p3, vJ q4, vS, vJ q5, vS, vI p6, vI nx, vI mx, vI kx, vI px, vI c0, vI off, vI c1, vI dx, vI c2, vJ w0, vS, vJ w1, vS, vR b14, vU, vU, vU, vU, vU, vU, vU, vU, vU, vU, vU] [(.ref b115)])) t → Steps p.tables e below (s₁.setTop (entryFrame m #[(.int p1), (.int p2), (.int p3), (.long q4), (.long q5), (.int p6)] maxLocals)) t := fun t k => P114 _ (st115 _ k)
    have P122 : ∀ t, Steps p.tables e below (T115.setTop (mkF m 219 #[vI p1, vI p2, vI p3, vJ q4, vS, vJ q5, vS, vI p6, vI nx, vI mx, vI kx, vI px, vI c0, vI off, vI c1, vI dx, vI c2, vJ w0, vS, vJ w1, vS, vR b14, vU, vU, vU, vU, vU, vU, vU, vU, vU, vU, vU] [(.long w0), (.int (0 : Int32)), (.ref b115), (.ref b115)])) t → Steps p.tables e below (s₁.setTop (entryFrame m #[(.int p1), (.int p2), (.int p3), (.long q4), (.long q5), (.int p6)] maxLocals)) t := by
      intro t k
      refine P121 _ ?_
      refine XS.dup X115.here hx rfl (hb hby at_215) rfl rfl ?_
      show Steps p.tables e below (T115.setTop (mkF m 216 #[vI p1, vI p2, vI p3, vJ q4, vS, vJ q5, vS, vI p6, vI nx, vI mx, vI kx, vI px, vI c0, vI off, vI c1, vI dx, vI c2, vJ w0, vS, vJ w1, vS, vR b14, vU, vU, vU, vU, vU, vU, vU, vU, vU, vU, vU] [(.ref b115), (.ref b115)])) _
      refine XS.iconst X115.here hx rfl (hb hby at_216) ?_
      show Steps p.tables e below (T115.setTop (mkF m 217 #[vI p1, vI p2, vI p3, vJ q4, vS, vJ q5, vS, vI p6, vI nx, vI mx, vI kx, vI px, vI c0, vI off, vI c1, vI dx, vI c2, vJ w0, vS, vJ w1, vS, vR b14, vU, vU, vU, vU, vU, vU, vU, vU, vU, vU, vU] [(.int (0 : Int32)), (.ref b115), (.ref b115)])) _
      refine XT.lload X115.here hx rfl (hb hby at_217) rfl ?_
      show Steps p.tables e below (T115.setTop (mkF m 219 #[vI p1, vI p2, vI p3, vJ q4, vS, vJ q5, vS, vI p6, vI nx, vI mx, vI kx, vI px, vI c0, vI off, vI c1, vI dx, vI c2, vJ w0, vS, vJ w1, vS, vR b14, vU, vU, vU, vU, vU, vU, vU, vU, vU, vU, vU] [(.long w0), (.int (0 : Int32)), (.ref b115), (.ref b115)])) _
      exact k
    obtain ⟨cl123, Ar123, q123, S123, M123, H123, G123⟩ := F118
    have in123 : ¬ ((0 : Int32) < 0 ∨ cl123.slots.size ≤ ((0 : Int32)).toNatClampNeg) := inb_of S123 ⟨by decide, by decide⟩
    obtain ⟨T123, h123, X123, e123, W123, st123⟩ := stJ X115 hx hZ e115 Ar123 (j := (0 : Int32)) in123 (g := (mkF m 219 #[vI p1, vI p2, vI p3, vJ q4, vS, vJ q5, vS, vI p6, vI nx, vI mx, vI kx, vI px, vI c0, vI off, vI c1, vI dx, vI c2, vJ w0, vS, vJ w1, vS, vR b14, vU, vU, vU, vU, vU, vU, vU, vU, vU, vU, vU] [(.long w0), (.int (0 : Int32)), (.ref b115), (.ref b115)])) rfl rfl (hb hby at_219)
    have F124 : Old Z n0 h123 := F116.wr W123 g_b115
    have F125 : Arv Z h123 b14 kc_b14 .char (0 : Int32) [] (.int (0 : Int32)) := F117.other W123 ne_b14_b115
    have F126 : Arv Z h123 b115 kc_b115 .long (2 : Int32) [(.long w0), (.long (0 : Int64))] (.long (0 : Int64)) := Arv.set Ar123 q123 S123 M123 H123 G123 rfl W123 0 rfl (Nat.le_of_ble_eq_true rfl)
    have Z127 : n0 ≤ h123.size := Nat.le_trans Z119 (Keep.of_wr W123).1
    have K128 : Keep h0 h123 [] := K120.wr W123 (Or.inr sz_b115)
    have N123 := Fr.snoc X123 N0 g_b115
    have P129 : ∀ t, Steps p.tables e below (T123.setTop (mkF m 220 #[vI p1, vI p2, vI p3, vJ q4, vS, vJ q5, vS, vI p6, vI nx, vI mx, vI kx, vI px, vI c0, vI off, vI c1, vI dx, vI c2, vJ w0, vS, vJ w1, vS, vR b14, vU, vU, vU, vU, vU, vU, vU, vU, vU, vU, vU] [(.ref b115)])) t → Steps p.tables e below (s₁.setTop (entryFrame m #[(.int p1), (.int p2), (.int p3), (.long q4), (.long q5), (.int p6)] maxLocals)) t := fun t k => P122 _ (st123 _ k)
    have P130 : ∀ t, Steps p.tables e below (T123.setTop (mkF m 224 #[vI p1, vI p2, vI p3, vJ q4, vS, vJ q5, vS, vI p6, vI nx, vI mx, vI kx, vI px, vI c0, vI off, vI c1, vI dx, vI c2, vJ w0, vS, vJ w1, vS, vR b14, vU, vU, vU, vU, vU, vU, vU, vU, vU, vU, vU] [(.long w1), (.int (1 : Int32)), (.ref b115), (.ref b115)])) t → Steps p.tables e below (s₁.setTop (entryFrame m #[(.int p1), (.int p2), (.int p3), (.long q4), (.long q5), (.int p6)] maxLocals)) t := by
      intro t k
      refine P129 _ ?_
      refine XS.dup X123.here hx rfl (hb hby at_220) rfl rfl ?_
      show Steps p.tables e below (T123.setTop (mkF m 221 #[vI p1, vI p2, vI p3, vJ q4, vS, vJ q5, vS, vI p6, vI nx, vI mx, vI kx, vI px, vI c0, vI off, vI c1, vI dx, vI c2, vJ w0, vS, vJ w1, vS, vR b14, vU, vU, vU, vU, vU, vU, vU, vU, vU, vU, vU] [(.ref b115), (.ref b115)])) _
      refine XS.iconst X123.here hx rfl (hb hby at_221) ?_
      show Steps p.tables e below (T123.setTop (mkF m 222 #[vI p1, vI p2, vI p3, vJ q4, vS, vJ q5, vS, vI p6, vI nx, vI mx, vI kx, vI px, vI c0, vI off, vI c1, vI dx, vI c2, vJ w0, vS, vJ w1, vS, vR b14, vU, vU, vU, vU, vU, vU, vU, vU, vU, vU, vU] [(.int (1 : Int32)), (.ref b115), (.ref b115)])) _
      refine XT.lload X123.here hx rfl (hb hby at_222) rfl ?_
      show Steps p.tables e below (T123.setTop (mkF m 224 #[vI p1, vI p2, vI p3, vJ q4, vS, vJ q5, vS, vI p6, vI nx, vI mx, vI kx, vI px, vI c0, vI off, vI c1, vI dx, vI c2, vJ w0, vS, vJ w1, vS, vR b14, vU, vU, vU, vU, vU, vU, vU, vU, vU, vU, vU] [(.long w1), (.int (1 : Int32)), (.ref b115), (.ref b115)])) _
      exact k
    obtain ⟨cl131, Ar131, q131, S131, M131, H131, G131⟩ := F126
    have in131 : ¬ ((1 : Int32) < 0 ∨ cl131.slots.size ≤ ((1 : Int32)).toNatClampNeg) := inb_of S131 ⟨by decide, by decide⟩
    obtain ⟨T131, h131, X131, e131, W131, st131⟩ := stJ X123 hx hZ e123 Ar131 (j := (1 : Int32)) in131 (g := (mkF m 224 #[vI p1, vI p2, vI p3, vJ q4, vS, vJ q5, vS, vI p6, vI nx, vI mx, vI kx, vI px, vI c0, vI off, vI c1, vI dx, vI c2, vJ w0, vS, vJ w1, vS, vR b14, vU, vU, vU, vU, vU, vU, vU, vU, vU, vU, vU] [(.long w1), (.int (1 : Int32)), (.ref b115), (.ref b115)])) rfl rfl (hb hby at_224)
    have F132 : Old Z n0 h131 := F124.wr W131 g_b115
    have F133 : Arv Z h131 b14 kc_b14 .char (0 : Int32) [] (.int (0 : Int32)) := F125.other W131 ne_b14_b115
    have F134 : Arv Z h131 b115 kc_b115 .long (2 : Int32) [(.long w0), (.long w1)] (.long (0 : Int64)) := Arv.set Ar131 q131 S131 M131 H131 G131 rfl W131 1 rfl (Nat.le_of_ble_eq_true rfl)
    have Z135 : n0 ≤ h131.size := Nat.le_trans Z127 (Keep.of_wr W131).1
    have K136 : Keep h0 h131 [] := K128.wr W131 (Or.inr sz_b115)
    have N131 := Fr.snoc X131 N123 g_b115
    have P137 : ∀ t, Steps p.tables e below (T131.setTop (mkF m 225 #[vI p1, vI p2, vI p3, vJ q4, vS, vJ q5, vS, vI p6, vI nx, vI mx, vI kx, vI px, vI c0, vI off, vI c1, vI dx, vI c2, vJ w0, vS, vJ w1, vS, vR b14, vU, vU, vU, vU, vU, vU, vU, vU, vU, vU, vU] [(.ref b115)])) t → Steps p.tables e below (s₁.setTop (entryFrame m #[(.int p1), (.int p2), (.int p3), (.long q4), (.long q5), (.int p6)] maxLocals)) t := fun t k => P130 _ (st131 _ k)
    have P138 : ∀ t, Steps p.tables e below (T131.setTop (mkF m 227 #[vI p1, vI p2, vI p3, vJ q4, vS, vJ q5, vS, vI p6, vI nx, vI mx, vI kx, vI px, vI c0, vI off, vI c1, vI dx, vI c2, vJ w0, vS, vJ w1, vS, vR b14, vR b115, vU, vU, vU, vU, vU, vU, vU, vU, vU, vU] [])) t → Steps p.tables e below (s₁.setTop (entryFrame m #[(.int p1), (.int p2), (.int p3), (.long q4), (.long q5), (.int p6)] maxLocals)) t := by
      intro t k
      refine P137 _ ?_
      refine XS.astore X131.here hx rfl (hb hby at_225) rfl rfl (l' := #[vI p1, vI p2, vI p3, vJ q4, vS, vJ q5, vS, vI p6, vI nx, vI mx, vI kx, vI px, vI c0, vI off, vI c1, vI dx, vI c2, vJ w0, vS, vJ w1, vS, vR b14, vR b115, vU, vU, vU, vU, vU, vU, vU, vU, vU, vU]) rfl ?_
      show Steps p.tables e below (T131.setTop (mkF m 227 #[vI p1, vI p2, vI p3, vJ q4, vS, vJ q5, vS, vI p6, vI nx, vI mx, vI kx, vI px, vI c0, vI off, vI c1, vI dx, vI c2, vJ w0, vS, vJ w1, vS, vR b14, vR b115, vU, vU, vU, vU, vU, vU, vU, vU, vU, vU] [])) _
      exact k
    have V139 : own_Af Z h131 b14 kc_b14 .char (0 : Int32) (fun i => Value.int ((own_l3 c0 c1 c2) i)) := (own_convV F133).same (fun i hi => by
      match i, hi with
      | j + 0, hj => exact absurd hj (by show ¬ j + 0 < 0; omega))
    have V140 : own_Af Z h131 b115 kc_b115 .long (2 : Int32) (fun i => Value.long ((own_w2 w0 w1) i)) := (own_convV F134).same (fun i hi => by
      match i, hi with
      | 0, _ => rfl
      | 1, _ => rfl
      | j + 2, hj => exact absurd hj (by show ¬ j + 2 < 2; omega))
    have hnv : nx = (0 : Int32) := hz0
    have hmv : mx = (2 : Int32) := (hm12.resolve_left c198)
    have hkm : kk < 2 := by
      rw [hmv] at hkm0
      have e : (2 : Int32).toInt = 2 := rfl
      omega
    have hnn : nx.toInt = ((0 : Nat) : Int) := by rw [hnv]; rfl
    obtain ⟨T141, h141, X141, e141, E141, A141, D141, -, st141⟩ := newO X131 hx hZ hown (hw _ (List.mem_of_getElem? (i := 4) rfl)) (hw _ (List.mem_of_getElem? (i := 5) rfl)) (hw _ (List.mem_of_getElem? (i := 6) rfl)) e131 (g := (mkF m 227 #[vI p1, vI p2, vI p3, vJ q4, vS, vJ q5, vS, vI p6, vI nx, vI mx, vI kx, vI px, vI c0, vI off, vI c1, vI dx, vI c2, vJ w0, vS, vJ w1, vS, vR b14, vR b115, vU, vU, vU, vU, vU, vU, vU, vU, vU, vU] [])) rfl (hb hby at_227) (by decide) (by decide)
    obtain ⟨bA, g141⟩ : ∃ z, z = h131.size := ⟨_, rfl⟩
    rw [← g141] at A141 D141 st141
    have F142 : Old Z n0 h141 := F132.ext E141
    have F143 : own_Af Z h141 b14 kc_b14 .char (0 : Int32) (fun i => Value.int ((own_l3 c0 c1 c2) i)) := V139.ext E141
    have F144 : own_Af Z h141 b115 kc_b115 .long (2 : Int32) (fun i => Value.long ((own_w2 w0 w1) i)) := V140.ext E141
    have F145 : Fld Z h141 bA "com/example/basewright/basewright/Alphabet" "characters" "[B" .null := D141 (Or.inr (hw _ (List.mem_of_getElem? (i := 78) rfl))) (ty := (.array .byte)) (by decide)
    have F146 : Fld Z h141 bA "com/example/basewright/basewright/Alphabet" "values" "[B" .null := D141 (Or.inr (hw _ (List.mem_of_getElem? (i := 80) rfl))) (ty := (.array .byte)) (by decide)
    have Z147 : n0 ≤ h141.size := Nat.le_trans Z135 E141.1
    have K148 : Keep h0 h141 [] := K136.ext E141
    have g_bA : n0 ≤ bA := Nat.le_trans Z135 (Nat.le_of_eq g141.symm)
    have sz_bA : h0.size ≤ bA := Nat.le_trans K136.1 (Nat.le_of_eq g141.symm)
    have ne_b14_bA : b14 ≠ bA := Nat.ne_of_lt (Nat.lt_of_lt_of_le V139.lt (Nat.le_of_eq g141.symm))
    have ne_b115_bA : b115 ≠ bA := Nat.ne_of_lt (Nat.lt_of_lt_of_le V140.lt (Nat.le_of_eq g141.symm))
    have P149 : ∀ t, Steps p.tables e below (T141.setTop (mkF m 230 #[vI p1, vI p2, vI p3, vJ q4, vS, vJ q5, vS, vI p6, vI nx, vI mx, vI kx, vI px, vI c0, vI off, vI c1, vI dx, vI c2, vJ w0, vS, vJ w1, vS, vR b14, vR b115, vU, vU, vU, vU, vU, vU, vU, vU, vU, vU] [(.ref bA)])) t → Steps p.tables e below (s₁.setTop (entryFrame m #[(.int p1), (.int p2), (.int p3), (.long q4), (.long q5), (.int p6)] maxLocals)) t := fun t k => P138 _ (st141 _ k)
    have P150 : ∀ t, Steps p.tables e below (T141.setTop (mkF m 231 #[vI p1, vI p2, vI p3, vJ q4, vS, vJ q5, vS, vI p6, vI nx, vI mx, vI kx, vI px, vI c0, vI off, vI c1, vI dx, vI c2, vJ w0, vS, vJ w1, vS, vR b14, vR b115, vU, vU, vU, vU, vU, vU, vU, vU, vU, vU] [(.ref bA), (.ref bA)])) t → Steps p.tables e below (s₁.setTop (entryFrame m #[(.int p1), (.int p2), (.int p3), (.long q4), (.long q5), (.int p6)] maxLocals)) t := by
      intro t k
      refine P149 _ ?_
      refine XS.dup X141.here hx rfl (hb hby at_230) rfl rfl ?_
      show Steps p.tables e below (T141.setTop (mkF m 231 #[vI p1, vI p2, vI p3, vJ q4, vS, vJ q5, vS, vI p6, vI nx, vI mx, vI kx, vI px, vI c0, vI off, vI c1, vI dx, vI c2, vJ w0, vS, vJ w1, vS, vR b14, vR b115, vU, vU, vU, vU, vU, vU, vU, vU, vU, vU] [(.ref bA), (.ref bA)])) _
      exact k
    obtain ⟨T151, h151, X151, e151, E151, A151, D151, -, st151⟩ := newO X141 hx hZ hown (hw _ (List.mem_of_getElem? (i := 7) rfl)) (hw _ (List.mem_of_getElem? (i := 8) rfl)) (hw _ (List.mem_of_getElem? (i := 9) rfl)) e141 (g := (mkF m 231 #[vI p1, vI p2, vI p3, vJ q4, vS, vJ q5, vS, vI p6, vI nx, vI mx, vI kx, vI px, vI c0, vI off, vI c1, vI dx, vI c2, vJ w0, vS, vJ w1, vS, vR b14, vR b115, vU, vU, vU, vU, vU, vU, vU, vU, vU, vU] [(.ref bA), (.ref bA)])) rfl (hb hby at_231) (by decide) (by decide)
    obtain ⟨b151, g151⟩ : ∃ z, z = h141.size := ⟨_, rfl⟩
    rw [← g151] at A151 D151 st151
    have F152 : Old Z n0 h151 := F142.ext E151
    have F153 : own_Af Z h151 b14 kc_b14 .char (0 : Int32) (fun i => Value.int ((own_l3 c0 c1 c2) i)) := F143.ext E151
    have F154 : own_Af Z h151 b115 kc_b115 .long (2 : Int32) (fun i => Value.long ((own_w2 w0 w1) i)) := F144.ext E151
    have F155 : Exa Z h151 bA "com/example/basewright/basewright/Alphabet" := A141.ext E151
    have F156 : Fld Z h151 bA "com/example/basewright/basewright/Alphabet" "characters" "[B" .null := F145.ext E151
    have F157 : Fld Z h151 bA "com/example/basewright/basewright/Alphabet" "values" "[B" .null := F146.ext E151
    have F158 : Fld Z h151 b151 "java/lang/String" "coder" "B" (.int (0 : Int32)) := D151 (Or.inr (hw _ (List.mem_of_getElem? (i := 33) rfl))) (ty := .byte) (by decide)
    have F159 : Fld Z h151 b151 "java/lang/String" "value" "[B" .null := D151 (Or.inr (hw _ (List.mem_of_getElem? (i := 35) rfl))) (ty := (.array .byte)) (by decide)
    have Z160 : n0 ≤ h151.size := Nat.le_trans Z147 E151.1
    have K161 : Keep h0 h151 [] := K148.ext E151
    have g_b151 : n0 ≤ b151 := Nat.le_trans Z147 (Nat.le_of_eq g151.symm)
    have sz_b151 : h0.size ≤ b151 := Nat.le_trans K148.1 (Nat.le_of_eq g151.symm)
    have ne_b14_b151 : b14 ≠ b151 := Nat.ne_of_lt (Nat.lt_of_lt_of_le F143.lt (Nat.le_of_eq g151.symm))
    have ne_b115_b151 : b115 ≠ b151 := Nat.ne_of_lt (Nat.lt_of_lt_of_le F144.lt (Nat.le_of_eq g151.symm))
    have ne_bA_b151 : bA ≠ b151 := Nat.ne_of_lt (Nat.lt_of_lt_of_le A141.lt (Nat.le_of_eq g151.symm))
    have P162 : ∀ t, Steps p.tables e below (T151.setTop (mkF m 234 #[vI p1, vI p2, vI p3, vJ q4, vS, vJ q5, vS, vI p6, vI nx, vI mx, vI kx, vI px, vI c0, vI off, vI c1, vI dx, vI c2, vJ w0, vS, vJ w1, vS, vR b14, vR b115, vU, vU, vU, vU, vU, vU, vU, vU, vU, vU] [(.ref b151), (.ref bA), (.ref bA)])) t → Steps p.tables e below (s₁.setTop (entryFrame m #[(.int p1), (.int p2), (.int p3), (.long q4), (.long q5), (.int p6)] maxLocals)) t := fun t k => P150 _ (st151 _ k)
    have P163 : ∀ t, Steps p.tables e below (T151.setTop (mkF m 237 #[vI p1, vI p2, vI p3, vJ q4, vS, vJ q5, vS, vI p6, vI nx, vI mx, vI kx, vI px, vI c0, vI off, vI c1, vI dx, vI c2, vJ w0, vS, vJ w1, vS, vR b14, vR b115, vU, vU, vU, vU, vU, vU, vU, vU, vU, vU] [(.ref b14), (.ref b151), (.ref b151), (.ref bA), (.ref bA)])) t → Steps p.tables e below (s₁.setTop (entryFrame m #[(.int p1), (.int p2), (.int p3), (.long q4), (.long q5), (.int p6)] maxLocals)) t := by
      intro t k
      refine P162 _ ?_
      refine XS.dup X151.here hx rfl (hb hby at_234) rfl rfl ?_
      show Steps p.tables e below (T151.setTop (mkF m 235 #[vI p1, vI p2, vI p3, vJ q4, vS, vJ q5, vS, vI p6, vI nx, vI mx, vI kx, vI px, vI c0, vI off, vI c1, vI dx, vI c2, vJ w0, vS, vJ w1, vS, vR b14, vR b115, vU, vU, vU, vU, vU, vU, vU, vU, vU, vU] [(.ref b151), (.ref b151), (.ref bA), (.ref bA)])) _
      refine XS.aload X151.here hx rfl (hb hby at_235) rfl rfl ?_
      show Steps p.tables e below (T151.setTop (mkF m 237 #[vI p1, vI p2, vI p3, vJ q4, vS, vJ q5, vS, vI p6, vI nx, vI mx, vI kx, vI px, vI c0, vI off, vI c1, vI dx, vI c2, vJ w0, vS, vJ w1, vS, vR b14, vR b115, vU, vU, vU, vU, vU, vU, vU, vU, vU, vU] [(.ref b14), (.ref b151), (.ref b151), (.ref bA), (.ref bA)])) _
      exact k
    obtain ⟨_, _, ⟨T164, L164, k164, n164⟩, -, X164, hS, hgr, ⟨Lc164, hQ164, l164, y164, z164⟩, st164⟩ := X151.specialBackS hx (y := (⟨"java/lang/String", "<init>", "([C)V"⟩ : MethodName)) rfl hown (mvT hZ (hw _ (List.mem_of_getElem? (i := 10) rfl))) (mvT hZ (hw _ (List.mem_of_getElem? (i := 11) rfl))) (mvT hZ (hw _ (List.mem_of_getElem? (i := 12) rfl))) (by decide) (own_backC (W := 3) (rm35 l Z a0 hw [] b151 b14 (own_l3 c0 c1 c2) kc_b14 (fun i => Value.int ((own_l3 c0 c1 c2) i)) h151 n0 Z160 A151 F159 F158 g_b151 F153) hZ (hw _ (List.mem_of_getElem? (i := 12) rfl)) (hw _ (List.mem_of_getElem? (i := 9) rfl)) (by decide) (by decide) (own_ew hw) (own_chk hC K161)) (g := (mkF m 237 #[vI p1, vI p2, vI p3, vJ q4, vS, vJ q5, vS, vI p6, vI nx, vI mx, vI kx, vI px, vI c0, vI off, vI c1, vI dx, vI c2, vJ w0, vS, vJ w1, vS, vR b14, vR b115, vU, vU, vU, vU, vU, vU, vU, vU, vU, vU] [(.ref b14), (.ref b151), (.ref b151), (.ref bA), (.ref bA)])) rfl (by rw [hml]; rfl) (Steps.refl _) (a := b151) (argsL := [(.ref b14)]) (rest := [(.ref b151), (.ref bA), (.ref bA)]) (lenOf pd_11 rfl) rfl (by show 2 * 0 + _ ≤ _; exact Nat.le_of_eq rfl) (hb hby at_237) (fun _ _ => ⟨rfl, e151, (by decide : 4 + 2 ≤ _), (by decide : 8 + 4 ≤ _)⟩)
    dsimp only [Pt.U, Pt.locs, Pt.cells, Pt.slots] at X164 l164 y164 z164 st164 hQ164 hS hgr
    subst l164 y164 z164
    have hZ : Z.Warmed39 (s.setVm T164.vm).vm := State.Warmed39.trans (t := s) hZ hS.1
    have hown : (s.setVm T164.vm).vm.findClass "com/example/basewright/basewright/AlphabetWeightedValuesPinLaw" = some m.cls := by rw [show (s.setVm T164.vm).vm = T164.vm from rfl, hS.1.alike.findClass]; exact hown
    obtain ⟨b_164, kb_164, rfl, N164q, K164, Y164_0, Y164_1, Y164_2, Y164_3, Y164_4⟩ := hQ164
    have F165 : Old Z n0 T164.heap := F152.keep K164 (allS g_b151 all0)
    have F166 : own_Af Z T164.heap b14 kc_b14 .char (0 : Int32) (fun i => Value.int ((own_l3 c0 c1 c2) i)) := F153.keep K164 (ninS ne_b14_b151 nin0)
    have F167 : own_Af Z T164.heap b115 kc_b115 .long (2 : Int32) (fun i => Value.long ((own_w2 w0 w1) i)) := F154.keep K164 (ninS ne_b115_b151 nin0)
    have F168 : Exa Z T164.heap bA "com/example/basewright/basewright/Alphabet" := F155.keep K164
    have F169 : Fld Z T164.heap bA "com/example/basewright/basewright/Alphabet" "characters" "[B" .null := F156.keep K164 (ninS ne_bA_b151 nin0)
    have F170 : Fld Z T164.heap bA "com/example/basewright/basewright/Alphabet" "values" "[B" .null := F157.keep K164 (ninS ne_bA_b151 nin0)
    have F171 : Exa Z T164.heap b151 "java/lang/String" := A151.keep K164
    have Z172 : n0 ≤ T164.heap.size := Nat.le_trans Z160 K164.1
    have K173 : Keep h0 T164.heap [] := K161.trans K164 (allS (Or.inr sz_b151) all0)
    have N164 := Fr.app N131 N164q
    have P174 : ∀ t, Steps p.tables e below (T164.setTop (mkF m 240 #[vI p1, vI p2, vI p3, vJ q4, vS, vJ q5, vS, vI p6, vI nx, vI mx, vI kx, vI px, vI c0, vI off, vI c1, vI dx, vI c2, vJ w0, vS, vJ w1, vS, vR b14, vR b115, vU, vU, vU, vU, vU, vU, vU, vU, vU, vU] [(.ref b151), (.ref bA), (.ref bA)])) t → Steps p.tables e below (s₁.setTop (entryFrame m #[(.int p1), (.int p2), (.int p3), (.long q4), (.long q5), (.int p6)] maxLocals)) t := fun t k => P163 _ (st164.trans k)
    have hk175 : T164.heap.size ≤ T164.heap.size := Nat.le_refl _
    have ne_bA_b_164 : bA ≠ b_164 := own_arrne (hw _ (List.mem_of_getElem? (i := 5) rfl)) F168 Y164_3
    obtain ⟨_, _, ⟨T176, L176, k176, n176⟩, -, X176, ⟨Lc176, hQ176, l176, y176, z176⟩, st176⟩ := X164.specialBack hx (y := (⟨"com/example/basewright/basewright/Alphabet", "<init>", "(Ljava/lang/String;)V"⟩ : MethodName)) rfl hown (mvT hZ (hw _ (List.mem_of_getElem? (i := 36) rfl))) (mvT hZ (hw _ (List.mem_of_getElem? (i := 37) rfl))) (mvT hZ (hw _ (List.mem_of_getElem? (i := 38) rfl))) (by decide) (backOf (W := 1) (rm27 l Z a0 hw [] bA b151 .null .null b_164 (0 : Int32) kb_164 (own_l3 c0 c1 c2) 0 wA wU wI ccs T164.heap n0 Z172 F165 F168 F169 F170 g_bA Y164_0 Y164_1 Y164_2 Y164_3 Y164_4 rfl (by decide) (own_l3s kc0 kc1 kc2 (by decide)) S_H S_wU S_wI S_wA neU neI S_cs hcc) hZ (hw _ (List.mem_of_getElem? (i := 38) rfl)) (hw _ (List.mem_of_getElem? (i := 6) rfl)) (by decide) (by decide)) (g := (mkF m 240 #[vI p1, vI p2, vI p3, vJ q4, vS, vJ q5, vS, vI p6, vI nx, vI mx, vI kx, vI px, vI c0, vI off, vI c1, vI dx, vI c2, vJ w0, vS, vJ w1, vS, vR b14, vR b115, vU, vU, vU, vU, vU, vU, vU, vU, vU, vU] [(.ref b151), (.ref bA), (.ref bA)])) rfl (by rw [hml]; rfl) (Steps.refl _) (a := bA) (argsL := [(.ref b151)]) (rest := [(.ref bA)]) (lenOf pd_12 rfl) rfl (by show 2 * 0 + _ ≤ _; exact Nat.le_of_eq rfl) (hb hby at_240) (fun _ _ => ⟨rfl, rfl, (by decide : 6 + 2 ≤ _), (by decide : 12 + 260 ≤ _)⟩)
    dsimp only [Pt.U, Pt.locs, Pt.cells, Pt.slots] at X176 l176 y176 z176 st176 hQ176
    subst l176 y176 z176
    obtain ⟨bc_176, bz_176, kz_176, rfl, N176q, K176, s176_bc, s176_bz, Y176_0, Y176_1, Y176_2, Y176_3, Y176_4⟩ := hQ176
    have F177 : Old Z n0 T176.heap := F165.keep K176 (allS g_bA all0)
    have F178 : own_Af Z T176.heap b14 kc_b14 .char (0 : Int32) (fun i => Value.int ((own_l3 c0 c1 c2) i)) := F166.keep K176 (ninS ne_b14_bA nin0)
    have F179 : own_Af Z T176.heap b115 kc_b115 .long (2 : Int32) (fun i => Value.long ((own_w2 w0 w1) i)) := F167.keep K176 (ninS ne_b115_bA nin0)
    have F180 : Exa Z T176.heap bA "com/example/basewright/basewright/Alphabet" := F168.keep K176
    have F181 : Exa Z T176.heap b151 "java/lang/String" := Y164_0.keep K176
    have F182 : Fld Z T176.heap b151 "java/lang/String" "value" "[B" (.ref b_164) := Y164_1.keep K176 (ninS (Ne.symm ne_bA_b151) nin0)
    have F183 : Fld Z T176.heap b151 "java/lang/String" "coder" "B" (.int (0 : Int32)) := Y164_2.keep K176 (ninS (Ne.symm ne_bA_b151) nin0)
    have F184 : own_Af Z T176.heap b_164 kb_164 .byte (0 : Int32) (fun i => Value.int ((own_l3 c0 c1 c2) i)) := Y164_3.keep K176 (ninS (Ne.symm ne_bA_b_164) nin0)
    have F185 : Exa Z T176.heap b_164 "[B" := Y164_4.keep K176
    have hk186 : T164.heap.size ≤ T176.heap.size := Nat.le_trans hk175 K176.1
    have Z187 : n0 ≤ T176.heap.size := Nat.le_trans Z172 K176.1
    have K188 : Keep h0 T176.heap [] := K173.trans K176 (allS (Or.inr sz_bA) all0)
    have g_bc_176 : n0 ≤ bc_176 := Nat.le_trans Z172 s176_bc
    have sz_bc_176 : h0.size ≤ bc_176 := Nat.le_trans K173.1 s176_bc
    have ne_b14_bc_176 : b14 ≠ bc_176 := Nat.ne_of_lt (Nat.lt_of_lt_of_le F166.lt s176_bc)
    have ne_b115_bc_176 : b115 ≠ bc_176 := Nat.ne_of_lt (Nat.lt_of_lt_of_le F167.lt s176_bc)
    have ne_bA_bc_176 : bA ≠ bc_176 := Nat.ne_of_lt (Nat.lt_of_lt_of_le F168.lt s176_bc)
    have ne_b151_bc_176 : b151 ≠ bc_176 := Nat.ne_of_lt (Nat.lt_of_lt_of_le Y164_0.lt s176_bc)
    have g_bz_176 : n0 ≤ bz_176 := Nat.le_trans Z172 s176_bz
    have sz_bz_176 : h0.size ≤ bz_176 := Nat.le_trans K173.1 s176_bz
    have ne_b14_bz_176 : b14 ≠ bz_176 := Nat.ne_of_lt (Nat.lt_of_lt_of_le F166.lt s176_bz)
    have ne_b115_bz_176 : b115 ≠ bz_176 := Nat.ne_of_lt (Nat.lt_of_lt_of_le F167.lt s176_bz)
    have ne_bA_bz_176 : bA ≠ bz_176 := Nat.ne_of_lt (Nat.lt_of_lt_of_le F168.lt s176_bz)
    have ne_b151_bz_176 : b151 ≠ bz_176 := Nat.ne_of_lt (Nat.lt_of_lt_of_le Y164_0.lt s176_bz)
    have N176 := Fr.app N164 N176q
    have P189 : ∀ t, Steps p.tables e below (T176.setTop (mkF m 243 #[vI p1, vI p2, vI p3, vJ q4, vS, vJ q5, vS, vI p6, vI nx, vI mx, vI kx, vI px, vI c0, vI off, vI c1, vI dx, vI c2, vJ w0, vS, vJ w1, vS, vR b14, vR b115, vU, vU, vU, vU, vU, vU, vU, vU, vU, vU] [(.ref bA)])) t → Steps p.tables e below (s₁.setTop (entryFrame m #[(.int p1), (.int p2), (.int p3), (.long q4), (.long q5), (.int p6)] maxLocals)) t := fun t k => P174 _ (st176.trans k)
    have P190 : ∀ t, Steps p.tables e below (T176.setTop (mkF m 249 #[vI p1, vI p2, vI p3, vJ q4, vS, vJ q5, vS, vI p6, vI nx, vI mx, vI kx, vI px, vI c0, vI off, vI c1, vI dx, vI c2, vJ w0, vS, vJ w1, vS, vR b14, vR b115, vR bA, vU, vU, vU, vU, vU, vU, vU, vU, vU] [(.ref b115), (.ref bA)])) t → Steps p.tables e below (s₁.setTop (entryFrame m #[(.int p1), (.int p2), (.int p3), (.long q4), (.long q5), (.int p6)] maxLocals)) t := by
      intro t k
      refine P189 _ ?_
      refine XS.astore X176.here hx rfl (hb hby at_243) rfl rfl (l' := #[vI p1, vI p2, vI p3, vJ q4, vS, vJ q5, vS, vI p6, vI nx, vI mx, vI kx, vI px, vI c0, vI off, vI c1, vI dx, vI c2, vJ w0, vS, vJ w1, vS, vR b14, vR b115, vR bA, vU, vU, vU, vU, vU, vU, vU, vU, vU]) rfl ?_
      show Steps p.tables e below (T176.setTop (mkF m 245 #[vI p1, vI p2, vI p3, vJ q4, vS, vJ q5, vS, vI p6, vI nx, vI mx, vI kx, vI px, vI c0, vI off, vI c1, vI dx, vI c2, vJ w0, vS, vJ w1, vS, vR b14, vR b115, vR bA, vU, vU, vU, vU, vU, vU, vU, vU, vU] [])) _
      refine XS.aload X176.here hx rfl (hb hby at_245) rfl rfl ?_
      show Steps p.tables e below (T176.setTop (mkF m 247 #[vI p1, vI p2, vI p3, vJ q4, vS, vJ q5, vS, vI p6, vI nx, vI mx, vI kx, vI px, vI c0, vI off, vI c1, vI dx, vI c2, vJ w0, vS, vJ w1, vS, vR b14, vR b115, vR bA, vU, vU, vU, vU, vU, vU, vU, vU, vU] [(.ref bA)])) _
      refine XS.aload X176.here hx rfl (hb hby at_247) rfl rfl ?_
      show Steps p.tables e below (T176.setTop (mkF m 249 #[vI p1, vI p2, vI p3, vJ q4, vS, vJ q5, vS, vI p6, vI nx, vI mx, vI kx, vI px, vI c0, vI off, vI c1, vI dx, vI c2, vJ w0, vS, vJ w1, vS, vR b14, vR b115, vR bA, vU, vU, vU, vU, vU, vU, vU, vU, vU] [(.ref b115), (.ref bA)])) _
      exact k
    obtain ⟨cq191, kq191, qa191, qb191, qc191⟩ := isOf hZ rfl Y176_0
    obtain ⟨_, _, ⟨T191, L191, k191, n191⟩, -, X191, ⟨Lc191, hQ191, l191, y191, z191⟩, st191⟩ := X176.virtualBack hx (y := (⟨"com/example/basewright/basewright/Alphabet", "weightedValues", "([J)[J"⟩ : MethodName)) (z := (⟨"com/example/basewright/basewright/Alphabet", "weightedValues", "([J)[J"⟩ : MethodName)) hown (mvT hZ (hw _ (List.mem_of_getElem? (i := 85) rfl))) (mvT hZ (hw _ (List.mem_of_getElem? (i := 86) rfl))) (notFace_of_selects (args := #[]) (mvT hZ (hw _ (List.mem_of_getElem? (i := 88) rfl)))) (mvT hZ (hw _ (List.mem_of_getElem? (i := 88) rfl))) (mvT hZ (hw _ (List.mem_of_getElem? (i := 87) rfl))) (by decide) (backOf (W := 0) (rm29 l Z a0 hw [] bA b115 bz_176 (2 : Int32) kz_176 kc_b115 (own_vf (own_l3 c0 c1 c2) 0) (own_w2 w0 w1) 2 T176.heap n0 Z187 Y176_2 Y176_4 F179 rfl (by decide)) hZ (hw _ (List.mem_of_getElem? (i := 89) rfl)) (hw _ (List.mem_of_getElem? (i := 6) rfl)) (by decide) (by decide)) qa191 qc191 (g := (mkF m 249 #[vI p1, vI p2, vI p3, vJ q4, vS, vJ q5, vS, vI p6, vI nx, vI mx, vI kx, vI px, vI c0, vI off, vI c1, vI dx, vI c2, vJ w0, vS, vJ w1, vS, vR b14, vR b115, vR bA, vU, vU, vU, vU, vU, vU, vU, vU, vU] [(.ref b115), (.ref bA)])) rfl (by rw [hml]; rfl) (Steps.refl _) (argsL := [(.ref b115)]) (rest := []) (lenOf pd_13 rfl) rfl (by show 2 * 0 + _ ≤ _; exact Nat.le_of_eq rfl) (hb hby at_249) (fun _ _ => ⟨rfl, rfl, (by decide : 8 + 1 ≤ _), (by decide : 272 + 512 ≤ _)⟩)
    dsimp only [Pt.U, Pt.locs, Pt.cells, Pt.slots] at X191 l191 y191 z191 st191 hQ191
    subst l191 y191 z191
    obtain ⟨b_191, kp_191, nq_191, rfl, N191q, K191, s191_b, Y191_0, Y191_1⟩ := hQ191
    have F192 : Old Z n0 T191.heap := F177.keep K191 all0
    have F193 : own_Af Z T191.heap b14 kc_b14 .char (0 : Int32) (fun i => Value.int ((own_l3 c0 c1 c2) i)) := F178.keep K191 nin0
    have F194 : own_Af Z T191.heap b115 kc_b115 .long (2 : Int32) (fun i => Value.long ((own_w2 w0 w1) i)) := F179.keep K191 nin0
    have F195 : Exa Z T191.heap bA "com/example/basewright/basewright/Alphabet" := Y176_0.keep K191
    have F196 : Exa Z T191.heap b151 "java/lang/String" := F181.keep K191
    have F197 : Fld Z T191.heap b151 "java/lang/String" "value" "[B" (.ref b_164) := F182.keep K191 nin0
    have F198 : Fld Z T191.heap b151 "java/lang/String" "coder" "B" (.int (0 : Int32)) := F183.keep K191 nin0
    have F199 : own_Af Z T191.heap b_164 kb_164 .byte (0 : Int32) (fun i => Value.int ((own_l3 c0 c1 c2) i)) := F184.keep K191 nin0
    have F200 : Exa Z T191.heap b_164 "[B" := F185.keep K191
    have F201 : Fld Z T191.heap bA "com/example/basewright/basewright/Alphabet" "characters" "[B" (.ref bc_176) := Y176_1.keep K191 nin0
    have F202 : Fld Z T191.heap bA "com/example/basewright/basewright/Alphabet" "values" "[B" (.ref bz_176) := Y176_2.keep K191 nin0
    have F203 : own_Af Z T191.heap bc_176 kb_164 .byte (0 : Int32) (fun i => Value.int ((own_l3 c0 c1 c2) i)) := Y176_3.keep K191 nin0
    have F204 : own_Af Z T191.heap bz_176 kz_176 .byte (256 : Int32) (fun j => Value.int (own_vf (own_l3 c0 c1 c2) 0 j)) := Y176_4.keep K191 nin0
    have hk205 : T164.heap.size ≤ T191.heap.size := Nat.le_trans hk186 K191.1
    have Z206 : n0 ≤ T191.heap.size := Nat.le_trans Z187 K191.1
    have K207 : Keep h0 T191.heap [] := K188.trans K191 all0
    have g_b_191 : n0 ≤ b_191 := Nat.le_trans Z187 s191_b
    have sz_b_191 : h0.size ≤ b_191 := Nat.le_trans K188.1 s191_b
    have ne_b14_b_191 : b14 ≠ b_191 := Nat.ne_of_lt (Nat.lt_of_lt_of_le F178.lt s191_b)
    have ne_b115_b_191 : b115 ≠ b_191 := Nat.ne_of_lt (Nat.lt_of_lt_of_le F179.lt s191_b)
    have ne_bA_b_191 : bA ≠ b_191 := Nat.ne_of_lt (Nat.lt_of_lt_of_le Y176_0.lt s191_b)
    have ne_b151_b_191 : b151 ≠ b_191 := Nat.ne_of_lt (Nat.lt_of_lt_of_le F181.lt s191_b)
    have ne_bc_176_b_191 : bc_176 ≠ b_191 := Nat.ne_of_lt (Nat.lt_of_lt_of_le Y176_3.lt s191_b)
    have ne_bz_176_b_191 : bz_176 ≠ b_191 := Nat.ne_of_lt (Nat.lt_of_lt_of_le Y176_4.lt s191_b)
    have N191 := Fr.app N176 N191q
    have P208 : ∀ t, Steps p.tables e below (T191.setTop (mkF m 252 #[vI p1, vI p2, vI p3, vJ q4, vS, vJ q5, vS, vI p6, vI nx, vI mx, vI kx, vI px, vI c0, vI off, vI c1, vI dx, vI c2, vJ w0, vS, vJ w1, vS, vR b14, vR b115, vR bA, vU, vU, vU, vU, vU, vU, vU, vU, vU] [(.ref b_191)])) t → Steps p.tables e below (s₁.setTop (entryFrame m #[(.int p1), (.int p2), (.int p3), (.long q4), (.long q5), (.int p6)] maxLocals)) t := fun t k => P190 _ (st191.trans k)
    have P209 : ∀ t, Steps p.tables e below (T191.setTop (mkF m 254 #[vI p1, vI p2, vI p3, vJ q4, vS, vJ q5, vS, vI p6, vI nx, vI mx, vI kx, vI px, vI c0, vI off, vI c1, vI dx, vI c2, vJ w0, vS, vJ w1, vS, vR b14, vR b115, vR bA, vR b_191, vU, vU, vU, vU, vU, vU, vU, vU] [])) t → Steps p.tables e below (s₁.setTop (entryFrame m #[(.int p1), (.int p2), (.int p3), (.long q4), (.long q5), (.int p6)] maxLocals)) t := by
      intro t k
      refine P208 _ ?_
      refine XS.astore X191.here hx rfl (hb hby at_252) rfl rfl (l' := #[vI p1, vI p2, vI p3, vJ q4, vS, vJ q5, vS, vI p6, vI nx, vI mx, vI kx, vI px, vI c0, vI off, vI c1, vI dx, vI c2, vJ w0, vS, vJ w1, vS, vR b14, vR b115, vR bA, vR b_191, vU, vU, vU, vU, vU, vU, vU, vU]) rfl ?_
      show Steps p.tables e below (T191.setTop (mkF m 254 #[vI p1, vI p2, vI p3, vJ q4, vS, vJ q5, vS, vI p6, vI nx, vI mx, vI kx, vI px, vI c0, vI off, vI c1, vI dx, vI c2, vJ w0, vS, vJ w1, vS, vR b14, vR b115, vR bA, vR b_191, vU, vU, vU, vU, vU, vU, vU, vU] [])) _
      exact k
    have hq24 := (own_m8 (mm := 2) Y191_1 rfl (by decide)).1
    have hlen : nq_191 = (mx * (256 : Int32)) := by rw [Y191_1, hmv]; rfl
    obtain ⟨T210, h210, lo210, X210, e210, N210, K210, q210, st210⟩ := tlA (by decide) (by decide) p1 p2 p3 q4 q5 p6 nx mx kx px c0 off c1 dx c2 w0 w1 b14 b115 bA b_191 nq_191 kp_191 0 2 kk X191 hx hZ hw hby hml hown rfl N191 Z206 Y191_0 hq24 hlen hnn (by decide) hkk hkm (by decide) hk1 kc0 kc1 kc2 hne3 kpx kp8 kp9
    have P211 : ∀ t, Steps p.tables e below (T210.setTop (mkF m 423 #[vI p1, vI p2, vI p3, vJ q4, vS, vJ q5, vS, vI p6, vI nx, vI mx, vI kx, vI px, vI c0, vI off, vI c1, vI dx, vI c2, vJ w0, vS, vJ w1, vS, vR b14, vR b115, vR bA, vR b_191, .val (.long (if kx = (0 : Int32) then w0 else w1)), vS, .val (.int (kx <<< ((8 : Int32) &&& 31))), .val (.int (1 : Int32)), vU, vU, vU, vU] [])) t → Steps p.tables e below (s₁.setTop (entryFrame m #[(.int p1), (.int p2), (.int p3), (.long q4), (.long q5), (.int p6)] maxLocals)) t := fun t k => P209 _ (st210 _ k)
    have hk212 : T164.heap.size ≤ h210.size := Nat.le_trans hk205 K210.1
    have Z213 : n0 ≤ h210.size := Nat.le_trans Z206 K210.1
    have P214 : ∀ t, Steps p.tables e below (T210.setTop (mkF m 429 #[vI p1, vI p2, vI p3, vJ q4, vS, vJ q5, vS, vI p6, vI nx, vI mx, vI kx, vI px, vI c0, vI off, vI c1, vI dx, vI c2, vJ w0, vS, vJ w1, vS, vR b14, vR b115, vR bA, vR b_191, .val (.long (if kx = (0 : Int32) then w0 else w1)), vS, .val (.int (kx <<< ((8 : Int32) &&& 31))), .val (.int (1 : Int32)), vU, vU, vU, vU] [])) t → Steps p.tables e below (s₁.setTop (entryFrame m #[(.int p1), (.int p2), (.int p3), (.long q4), (.long q5), (.int p6)] maxLocals)) t := by
      intro t k
      refine P211 _ ?_
      refine XS.iload X210.here hx rfl (hb hby at_423) rfl ?_
      show Steps p.tables e below (T210.setTop (mkF m 425 #[vI p1, vI p2, vI p3, vJ q4, vS, vJ q5, vS, vI p6, vI nx, vI mx, vI kx, vI px, vI c0, vI off, vI c1, vI dx, vI c2, vJ w0, vS, vJ w1, vS, vR b14, vR b115, vR bA, vR b_191, .val (.long (if kx = (0 : Int32) then w0 else w1)), vS, .val (.int (kx <<< ((8 : Int32) &&& 31))), .val (.int (1 : Int32)), vU, vU, vU, vU] [(.int mx)])) _
      refine XS.iconst X210.here hx rfl (hb hby at_425) ?_
      show Steps p.tables e below (T210.setTop (mkF m 426 #[vI p1, vI p2, vI p3, vJ q4, vS, vJ q5, vS, vI p6, vI nx, vI mx, vI kx, vI px, vI c0, vI off, vI c1, vI dx, vI c2, vJ w0, vS, vJ w1, vS, vR b14, vR b115, vR bA, vR b_191, .val (.long (if kx = (0 : Int32) then w0 else w1)), vS, .val (.int (kx <<< ((8 : Int32) &&& 31))), .val (.int (1 : Int32)), vU, vU, vU, vU] [(.int (2 : Int32)), (.int mx)])) _
      refine XS.icmpNo X210.here hx rfl (hb hby at_426) rfl (XT.ii_ne_f hmv) ?_
      show Steps p.tables e below (T210.setTop (mkF m 429 #[vI p1, vI p2, vI p3, vJ q4, vS, vJ q5, vS, vI p6, vI nx, vI mx, vI kx, vI px, vI c0, vI off, vI c1, vI dx, vI c2, vJ w0, vS, vJ w1, vS, vR b14, vR b115, vR bA, vR b_191, .val (.long (if kx = (0 : Int32) then w0 else w1)), vS, .val (.int (kx <<< ((8 : Int32) &&& 31))), .val (.int (1 : Int32)), vU, vU, vU, vU] [])) _
      exact k
    obtain ⟨T215, h215, lo215, X215, e215, N215, K215, q215, st215⟩ := tlB (by decide) (by decide) p1 p2 p3 q4 q5 p6 nx mx kx px c0 off c1 dx c2 w0 w1 b14 b115 bA b_191 nq_191 kp_191 0 2 kk X210 hx hZ hw hby hml hown e210 N210 Z213 q210 hq24 hlen hnn (by decide) hkk hkm (by decide) hk1 kc0 kc1 kc2 hne3 kpx kp8 kp9 rfl
    have P216 : ∀ t, Steps p.tables e below (T215.setTop (mkF m 576 #[vI p1, vI p2, vI p3, vJ q4, vS, vJ q5, vS, vI p6, vI nx, vI mx, vI kx, vI px, vI c0, vI off, vI c1, vI dx, vI c2, vJ w0, vS, vJ w1, vS, vR b14, vR b115, vR bA, vR b_191, .val (.long (if kx = (0 : Int32) then w0 else w1)), vS, .val (.int (kx <<< ((8 : Int32) &&& 31))), .val (.int (1 : Int32)), .val (.int ((1 : Int32) - kx)), .val (.long (if ((1 : Int32) - kx) = (0 : Int32) then w0 else w1)), vS, .val (.int (((1 : Int32) - kx) <<< ((8 : Int32) &&& 31)))] [])) t → Steps p.tables e below (s₁.setTop (entryFrame m #[(.int p1), (.int p2), (.int p3), (.long q4), (.long q5), (.int p6)] maxLocals)) t := fun t k => P214 _ (st215 _ k)
    have hk217 : T164.heap.size ≤ h215.size := Nat.le_trans hk212 K215.1
    have Z218 : n0 ≤ h215.size := Nat.le_trans Z213 K215.1
    have P219 : ∀ t, Steps p.tables e below (T215.setTop (mkF m 578 #[vI p1, vI p2, vI p3, vJ q4, vS, vJ q5, vS, vI p6, vI nx, vI mx, vI kx, vI px, vI c0, vI off, vI c1, vI dx, vI c2, vJ w0, vS, vJ w1, vS, vR b14, vR b115, vR bA, vR b_191, .val (.long (if kx = (0 : Int32) then w0 else w1)), vS, .val (.int (kx <<< ((8 : Int32) &&& 31))), .val (.int (1 : Int32)), .val (.int ((1 : Int32) - kx)), .val (.long (if ((1 : Int32) - kx) = (0 : Int32) then w0 else w1)), vS, .val (.int (((1 : Int32) - kx) <<< ((8 : Int32) &&& 31)))] [(.int (1 : Int32))])) t → Steps p.tables e below (s₁.setTop (entryFrame m #[(.int p1), (.int p2), (.int p3), (.long q4), (.long q5), (.int p6)] maxLocals)) t := by
      intro t k
      refine P216 _ ?_
      refine XS.iload X215.here hx rfl (hb hby at_576) rfl ?_
      show Steps p.tables e below (T215.setTop (mkF m 578 #[vI p1, vI p2, vI p3, vJ q4, vS, vJ q5, vS, vI p6, vI nx, vI mx, vI kx, vI px, vI c0, vI off, vI c1, vI dx, vI c2, vJ w0, vS, vJ w1, vS, vR b14, vR b115, vR bA, vR b_191, .val (.long (if kx = (0 : Int32) then w0 else w1)), vS, .val (.int (kx <<< ((8 : Int32) &&& 31))), .val (.int (1 : Int32)), .val (.int ((1 : Int32) - kx)), .val (.long (if ((1 : Int32) - kx) = (0 : Int32) then w0 else w1)), vS, .val (.int (((1 : Int32) - kx) <<< ((8 : Int32) &&& 31)))] [(.int (1 : Int32))])) _
      exact k
    obtain ⟨fs, hr, hrun, hended, hRW⟩ := X215.leaveW hS (by rw [e215]; exact hk217) (v := some (.int (1 : Int32))) (fun h => by rw [Bd.returns] at h; cases h)
    refine ⟨_, _, P219 _ ?_, hrun, hended, _, _, rfl, ?_, hRW.1, hRW.2.1, hRW.2.2.1, hRW.2.2.2.mono (by decide) (by decide)⟩
    · exact retN X215 hx (t := .boolean) Bd.returns (by simp) (hb hby at_578) hr
    · show Q0z Z p1 p2 p3 q4 q5 p6 ccs wA wU wI h0 n0 _ T215.heap _
      rw [e215]
      exact ⟨rfl, N215⟩
set_option maxRecDepth 65536 in
set_option maxHeartbeats 40000000 in
theorem comes_1 {Post : Tables → Env → Array Value → State → Outcome → State → Prop} (hpost : ∀ tb e args s v u, (limb_1_1.after args s (.returned v) u = true ∧ limb_1_2.after args s (.returned v) u = true ∧ True) → ReturnedEndW s (.returned v) u (Jvm.fieldLocs frame_1_writes args s ++ Jvm.arrayLocs frame_1_arrays args s ++ Jvm.staticLocs frame_1_statics s) 32 2688 → Post tb e args s (.returned v) u) :
    ArmFor flags0 classFile x code maxLocals ret World_1 tables_1 room_1 Calls_1 rest_1 Pre_1 Post := by
  intro l hfl _ _ p e ha hc hk s m args below hf hA hF happ hP
  obtain ⟨hcalls, hrest, hpre⟩ := hP
  obtain ⟨-, -, -, hnamed, -, -, -, hat⟩ := (Spec.applies_iff hf).mp happ
  obtain ⟨hg, hn⟩ := and_e (Cond.before_iff.mp (show (Jvm.Cond.and given_1 narrow_1).before args s = true from hpre))
  obtain ⟨g1, g2⟩ := and_e hg
  obtain ⟨g3, g4⟩ := and_e g2
  obtain ⟨g5, g6⟩ := and_e g4
  obtain ⟨g7, g8⟩ := and_e g6
  obtain ⟨g9, g10⟩ := and_e g8
  obtain ⟨g11, g12⟩ := and_e g10
  obtain ⟨w0, w1, w2, w3, w4, w5, rfl⟩ : ∃ w0 w1 w2 w3 w4 w5 : Value, args = #[w0, w1, w2, w3, w4, w5] := by
    have hs : args.size = 6 := by simpa [Cond.value, given_1] using g1
    obtain ⟨L⟩ := args
    match L, hs with
    | [w0, w1, w2, w3, w4, w5], _ => exact ⟨w0, w1, w2, w3, w4, w5, rfl⟩
  have hw := fun d (hd : d ∈ tables_1) => atoms_spec (ws := Jvm.Cond.code x code maxLocals ret :: tables_1) hat d (List.mem_cons_of_mem _ hd)
  have hfit : Fit s := fun {y c} hc i hi => by
    obtain ⟨ha, rfl⟩ := Array.getElem?_eq_some_iff.mp hc
    have q := List.all_eq_true.mp ((Array.all_eq_true_iff_forall_mem.mp hF) _ (Array.getElem_mem ha)) i (List.mem_range.mpr hi)
    simpa [Array.getElem?_eq_getElem hi] using q
  obtain ⟨hsets, hown0⟩ := atoms_of _ (rest_1_c_eq ▸ (show rest_1_c.before _ s = true from hrest))
  have hr0 := Cond.before_iff.mp hown0
  obtain ⟨i0, ei0⟩ := is_v g3
  obtain rfl : w0 = (.int i0) := Option.some.inj ei0
  obtain ⟨i1, ei1⟩ := is_v g5
  obtain rfl : w1 = (.int i1) := Option.some.inj ei1
  obtain ⟨i2, ei2⟩ := is_v g7
  obtain rfl : w2 = (.int i2) := Option.some.inj ei2
  obtain ⟨i3, ei3⟩ := isL_v g9
  obtain rfl : w3 = (.long i3) := Option.some.inj ei3
  obtain ⟨i4, ei4⟩ := isL_v g11
  obtain rfl : w4 = (.long i4) := Option.some.inj ei4
  obtain ⟨i5, ei5⟩ := is_v g12
  obtain rfl : w5 = (.int i5) := Option.some.inj ei5
  obtain ⟨ccs, evc⟩ := is_v (Cond.before_iff.mp (hsets _ (List.mem_of_getElem? (i := 1) rfl)))
  have S_cs := Sta.start evc (Or.inl (hsets _ (List.mem_of_getElem? (i := 0) rfl)))
  have hcc := own_notz (hsets _ (List.mem_of_getElem? (i := 2) rfl)) evc
  obtain ⟨wA, evA⟩ := exa_v (Cond.before_iff.mp (hsets _ (List.mem_of_getElem? (i := 14) rfl)))
  have S_H := Sta.start evA (Or.inl (hsets _ (List.mem_of_getElem? (i := 10) rfl)))
  have EA := Exa.start evA (Cond.before_iff.mp (hsets _ (List.mem_of_getElem? (i := 14) rfl)))
  obtain ⟨wA2, evA2⟩ := exa_v (Cond.before_iff.mp (hsets _ (List.mem_of_getElem? (i := 23) rfl)))
  have S_A := Sta.start evA2 (Or.inl (hsets _ (List.mem_of_getElem? (i := 12) rfl)))
  obtain rfl := own_eqr (hsets _ (List.mem_of_getElem? (i := 13) rfl)) evA evA2
  obtain ⟨wU, evU⟩ := exa_v (Cond.before_iff.mp (hsets _ (List.mem_of_getElem? (i := 17) rfl)))
  have S_U := Sta.start evU (Or.inl (hsets _ (List.mem_of_getElem? (i := 16) rfl)))
  have EU := Exa.start evU (Cond.before_iff.mp (hsets _ (List.mem_of_getElem? (i := 17) rfl)))
  obtain ⟨wI, evI⟩ := exa_v (Cond.before_iff.mp (hsets _ (List.mem_of_getElem? (i := 20) rfl)))
  have S_I := Sta.start evI (Or.inl (hsets _ (List.mem_of_getElem? (i := 19) rfl)))
  have EI := Exa.start evI (Cond.before_iff.mp (hsets _ (List.mem_of_getElem? (i := 20) rfl)))
  have neU := Exa.ne EA EU (by decide)
  have neI := Exa.ne EA EI (by decide)
  have hCH : CHv s consts_1 s.vm s.heap := CHv.start (own_ew hw) hcalls.1 (hsets _ (List.mem_of_getElem? (i := 2) rfl)) (hw _ (List.mem_of_getElem? (i := 25) rfl)) (hw _ (List.mem_of_getElem? (i := 8) rfl))
  by_cases hz : (i5 &&& (3 : Int32)) = (0 : Int32)
  · obtain ⟨n, o, h1, h2, h3, _, L, rfl, ⟨rfl, N⟩, hq⟩ := rm0z l s _ hw tables_1 i0 i1 i2 i3 i4 i5 ccs wA wU wI s.heap s.heap.size (Nat.le_refl _) (Old.start s) S_H S_U S_I S_A neU neI S_cs hcc hz p e ha hc hk s m _ below hf ((Spec.applies_iff_loose hf).mp happ).1 ⟨rfl, State.Warmed39.refl s, rfl, hCH⟩ trivial
    refine ⟨n, _, h1, h2, h3, hpost _ _ _ _ _ _ ⟨Cond.after_iff.mpr rfl, Cond.after_iff.mpr (eq_i res_at (Term.int_eval (1)) rfl), trivial⟩ ⟨hq.1, hq.2.1, hq.2.2.1, (hq.2.2.2.sift fun y hy => Or.inr (N y hy)).mono (by decide) (by decide)⟩⟩
  · obtain ⟨n, o, h1, h2, h3, _, L, rfl, ⟨rfl, N⟩, hq⟩ := rm0 l s _ hw tables_1 i0 i1 i2 i3 i4 i5 ccs wA wU wI s.heap s.heap.size (Nat.le_refl _) (Old.start s) S_H S_U S_I S_A neU neI S_cs hcc hz p e ha hc hk s m _ below hf ((Spec.applies_iff_loose hf).mp happ).1 ⟨rfl, State.Warmed39.refl s, rfl⟩ trivial
    refine ⟨n, _, h1, h2, h3, hpost _ _ _ _ _ _ ⟨Cond.after_iff.mpr rfl, Cond.after_iff.mpr (eq_i res_at (Term.int_eval (1)) rfl), trivial⟩ (ReturnedEndW.of_narrow hq.1 hq.2.1 ((hq.2.2.sift fun y hy => Or.inr (N y hy)).mono (by decide) (by decide)))⟩
theorem main_1_1 : Claimed_1_1 := comes_1 fun _ _ _ _ _ _ h hF => ⟨h.1, hF⟩
theorem main_1_2 : Claimed_1_2 := comes_1 fun _ _ _ _ _ _ h hF => ⟨h.2.1, hF⟩
end Jvm.Pilot.@@N@@
namespace Jvm.Pilot.@@N@@
open Jvm Jvm.ClassFile Sem Op Lib Jvm.Free Jvm.Stand Jvm.Pilot.@@N@@.Jvm.D
/-! MADE BY PROGRAM (witnessworld.py) out of the Statement's table words and the real class files: 31 classes; the members and pool entries that the words name. The judged class is class 1, her method 2. -/
namespace start1
open Jvm.ClassFile
def u (s : String) : CpInfo := .utf8 (stringToUtf16 s)
/-- a pool by its gaps: so many unusable entries, then the entry; so many at the end -/
def gap : Nat → List CpInfo → List CpInfo
  | 0, r => r
  | n + 1, r => .unusable :: gap n r
def poolList (es : List (Nat × CpInfo)) (last : Nat) : List CpInfo := es.foldr (fun e r => gap e.1 (e.2 :: r)) (gap last [])
def pool (es : List (Nat × CpInfo)) (last : Nat) : Array CpInfo := ⟨poolList es last⟩
def fileOf (pool : Array CpInfo) (this : Nat) (attrs : Array Attribute := #[]) (ms : Array MethodInfo := #[]) (fl : Nat := 33) (sup : Nat := 0) (ifs : Array Nat := #[]) (fds : Array FieldInfo := #[]) : ClassFile where
  minorVersion := 0
  majorVersion := 65
  constantPool := pool
  accessFlags := fl
  thisClass := this
  superClass := sup
  interfaces := ifs
  fields := fds
  methods := ms
  attributes := attrs
def plain (name : String) (sup : Option ClassId) : Class where
  name := name
  kind := .ordinary
  loader := none
  accessFlags := 33
  super := sup
  interfaces := #[]
  cf := none
  fields := #[]
  methods := #[]
  instanceTypes := #[]
  staticTypes := #[]
  resolved := #[]
  callSites := []
  init := .initialized
  statics := none
  mirror := none

def pool0 : Array CpInfo := pool [(5, u "<init>"), (0, u "()V"), (1, .class_ 10), (1, u "java/lang/Object"), (85, u "clone"), (0, u "()Ljava/lang/Object;")] 26

def k0c0 : Code := { maxStack := 0, maxLocals := 1, code := object_method_1_code, exceptionTable := #[], attributes := #[] }
def k0m0 : Method := { name := "<init>", desc := "()V", sig := { parameters := [], returnType := none }, accessFlags := 1, code := some k0c0 }
def k0m1 : Method := { name := "clone", desc := "()Ljava/lang/Object;", sig := { parameters := [], returnType := some (.object "java/lang/Object") }, accessFlags := 260, code := none }
/-- java/lang/Object -/
def k0 : Class := { plain "java/lang/Object" none with
  accessFlags := 33
  interfaces := #[]
  cf := some (fileOf pool0 8 #[] #[{ accessFlags := 1, nameIndex := 5, descriptorIndex := 6, attributes := #[] }, { accessFlags := 260, nameIndex := 96, descriptorIndex := 97, attributes := #[] }] 33 0 #[] #[])
  fields := #[]
  methods := #[k0m0, k0m1]
  instanceTypes := #[]
  staticTypes := #[]
  resolved := Array.replicate 124 none
  statics := none }

def pool1 : Array CpInfo := pool [(2, .class_ 4), (1, u "java/lang/Object"), (0, u "<init>"), (0, u "()V"), (0, .long 2), (1, .long 17293822569102704640), (1, .integer 2147483647), (0, .long 288230376151711743), (1, .class_ 15), (0, u "com/example/basewright/basewright/Alphabet"), (0, .class_ 17), (0, u "java/lang/String"), (0, .methodref 16 19), (0, .nameAndType 5 20), (0, u "([C)V"), (0, .methodref 14 22), (0, .nameAndType 5 23), (0, u "(Ljava/lang/String;)V"), (0, .methodref 14 25), (0, .nameAndType 26 27), (0, u "weightedValues"), (0, u "([J)[J"), (0, .methodref 29 30), (0, .class_ 31), (0, .nameAndType 32 33), (0, u "com/example/basewright/basewright/AlphabetWeightedValuesPinLaw"), (0, u "exp"), (0, u "(IIIIIJ)J"), (3, u "law"), (0, u "(IIIJJI)Z")] 6

def k1m0 : Method := { name := "<init>", desc := "()V", sig := { parameters := [], returnType := none }, accessFlags := 1, code := none }
def k1c1 : Code := { maxStack := 4, maxLocals := 7, code := method_2_code, exceptionTable := #[], attributes := #[] }
def k1m1 : Method := { name := "exp", desc := "(IIIIIJ)J", sig := { parameters := [.int, .int, .int, .int, .int, .long], returnType := some .long }, accessFlags := 10, code := some k1c1 }
def k1c2 : Code := { maxStack := 9, maxLocals := 33, code := code, exceptionTable := #[], attributes := #[] }
def k1m2 : Method := { name := "law", desc := "(IIIJJI)Z", sig := { parameters := [.int, .int, .int, .long, .long, .int], returnType := some .boolean }, accessFlags := 9, code := some k1c2 }
/-- com/example/basewright/basewright/AlphabetWeightedValuesPinLaw -/
def k1 : Class := { plain "com/example/basewright/basewright/AlphabetWeightedValuesPinLaw" (some 0) with
  accessFlags := 49
  interfaces := #[]
  cf := some (fileOf pool1 29 #[] #[{ accessFlags := 1, nameIndex := 5, descriptorIndex := 6, attributes := #[] }, { accessFlags := 10, nameIndex := 32, descriptorIndex := 33, attributes := #[] }, { accessFlags := 9, nameIndex := 37, descriptorIndex := 38, attributes := #[] }] 49 2 #[] #[])
  fields := #[]
  methods := #[k1m0, k1m1, k1m2]
  instanceTypes := #[]
  staticTypes := #[]
  resolved := Array.replicate 45 none
  statics := none }

def pool2 : Array CpInfo := pool [(3, .methodref 4 5), (0, .class_ 6), (0, .nameAndType 7 8), (0, u "java/lang/Object"), (0, u "<init>"), (0, u "()V"), (0, .fieldref 10 11), (0, .class_ 12), (0, .nameAndType 13 14), (0, u "java/nio/charset/StandardCharsets"), (0, u "US_ASCII"), (0, u "Ljava/nio/charset/Charset;"), (0, .methodref 16 17), (0, .class_ 18), (0, .nameAndType 19 20), (0, u "java/lang/String"), (0, u "getBytes"), (0, u "(Ljava/nio/charset/Charset;)[B"), (0, .fieldref 22 23), (0, .class_ 24), (0, .nameAndType 25 26), (0, u "com/example/basewright/basewright/Alphabet"), (0, u "characters"), (0, u "[B"), (0, .fieldref 22 28), (0, .nameAndType 29 26), (0, u "values"), (0, .methodref 31 32), (0, .class_ 33), (0, .nameAndType 34 35), (0, u "java/util/Arrays"), (0, u "fill"), (0, u "([BB)V"), (0, .long 17293822569102704640), (20, u "(Ljava/lang/String;)V"), (34, u "BOTH_CASES"), (0, u "Ljava/lang/String;"), (1, u "OUTSIDE"), (0, u "J"), (13, u "weightedValues"), (0, u "([J)[J")] 9

def k2c0 : Code := { maxStack := 3, maxLocals := 3, code := prog_1_method_1_code, exceptionTable := #[], attributes := #[] }
def k2m0 : Method := { name := "<init>", desc := "(Ljava/lang/String;)V", sig := { parameters := [(.object "java/lang/String")], returnType := none }, accessFlags := 0, code := some k2c0 }
def k2c1 : Code := { maxStack := 6, maxLocals := 5, code := prog_1_method_7_code, exceptionTable := #[], attributes := #[] }
def k2m1 : Method := { name := "weightedValues", desc := "([J)[J", sig := { parameters := [(.array .long)], returnType := some (.array .long) }, accessFlags := 128, code := some k2c1 }
/-- com/example/basewright/basewright/Alphabet -/
def k2 : Class := { plain "com/example/basewright/basewright/Alphabet" (some 0) with
  accessFlags := 48
  interfaces := #[]
  cf := some (fileOf pool2 22 #[] #[{ accessFlags := 0, nameIndex := 7, descriptorIndex := 57, attributes := #[] }, { accessFlags := 128, nameIndex := 110, descriptorIndex := 111, attributes := #[] }] 48 4 #[] #[{ accessFlags := 24, nameIndex := 92, descriptorIndex := 93, attributes := #[] }, { accessFlags := 24, nameIndex := 95, descriptorIndex := 96, attributes := #[] }, { accessFlags := 18, nameIndex := 25, descriptorIndex := 26, attributes := #[] }, { accessFlags := 18, nameIndex := 29, descriptorIndex := 26, attributes := #[] }])
  fields := #[{ name := "BOTH_CASES", type := (.object "java/lang/String"), accessFlags := 24, slot := 0, constantValue := 0 }, { name := "OUTSIDE", type := .long, accessFlags := 24, slot := 1, constantValue := 0 }, { name := "characters", type := (.array .byte), accessFlags := 18, slot := 0, constantValue := 0 }, { name := "values", type := (.array .byte), accessFlags := 18, slot := 1, constantValue := 0 }]
  methods := #[k2m0, k2m1]
  instanceTypes := #[(.array .byte), (.array .byte)]
  staticTypes := #[(.object "java/lang/String"), .long]
  resolved := Array.replicate 121 none
  statics := none }

def pool3 : Array CpInfo := pool [(1, .class_ 2), (0, u "java/io/Serializable"), (0, .class_ 4), (0, u "java/lang/Object")] 2

/-- java/io/Serializable -/
def k3 : Class := { plain "java/io/Serializable" (some 0) with
  accessFlags := 1537
  interfaces := #[]
  cf := some (fileOf pool3 1 #[] #[] 1537 3 #[] #[])
  fields := #[]
  methods := #[]
  instanceTypes := #[]
  staticTypes := #[]
  resolved := Array.replicate 7 none
  statics := none }

def pool4 : Array CpInfo := pool [(1, .class_ 2), (0, u "java/lang/Comparable"), (0, .class_ 4), (0, u "java/lang/Object")] 7

/-- java/lang/Comparable -/
def k4 : Class := { plain "java/lang/Comparable" (some 0) with
  accessFlags := 1537
  interfaces := #[]
  cf := some (fileOf pool4 1 #[] #[] 1537 3 #[] #[])
  fields := #[]
  methods := #[]
  instanceTypes := #[]
  staticTypes := #[]
  resolved := Array.replicate 12 none
  statics := none }

def pool5 : Array CpInfo := pool [(2, .class_ 4), (1, u "java/lang/CharSequence"), (42, .class_ 48), (0, u "java/lang/CharSequence$1CodePointIterator"), (10, .class_ 60), (0, u "java/lang/CharSequence$1CharIterator"), (5, .class_ 67), (0, u "java/lang/Object")] 63

/-- java/lang/CharSequence -/
def k5 : Class := { plain "java/lang/CharSequence" (some 0) with
  accessFlags := 1537
  interfaces := #[]
  cf := some (fileOf pool5 2 #[.nestMembers #[47, 59]] #[] 1537 66 #[] #[])
  fields := #[]
  methods := #[]
  instanceTypes := #[]
  staticTypes := #[]
  resolved := Array.replicate 131 none
  statics := none }

def pool6 : Array CpInfo := pool [(1, .class_ 2), (0, u "java/lang/constant/Constable"), (0, .class_ 4), (0, u "java/lang/Object")] 6

/-- java/lang/constant/Constable -/
def k6 : Class := { plain "java/lang/constant/Constable" (some 0) with
  accessFlags := 1537
  interfaces := #[]
  cf := some (fileOf pool6 1 #[] #[] 1537 3 #[] #[])
  fields := #[]
  methods := #[]
  instanceTypes := #[]
  staticTypes := #[]
  resolved := Array.replicate 11 none
  statics := none }

def pool7 : Array CpInfo := pool [(1, .class_ 2), (0, u "java/lang/constant/ConstantDesc"), (0, .class_ 4), (0, u "java/lang/Object")] 32

/-- java/lang/constant/ConstantDesc -/
def k7 : Class := { plain "java/lang/constant/ConstantDesc" (some 0) with
  accessFlags := 1537
  interfaces := #[]
  cf := some (fileOf pool7 1 #[] #[] 1537 3 #[] #[])
  fields := #[]
  methods := #[]
  instanceTypes := #[]
  staticTypes := #[]
  resolved := Array.replicate 37 none
  statics := none }

def pool8 : Array CpInfo := pool [(1, .methodref 2 3), (0, .class_ 4), (0, .nameAndType 5 6), (0, u "java/lang/Object"), (0, u "<init>"), (0, u "()V"), (0, .string 8), (0, u ""), (0, .fieldref 10 11), (0, .class_ 12), (0, .nameAndType 13 14), (0, u "java/lang/String"), (0, u "value"), (0, u "[B"), (0, .fieldref 10 16), (0, .nameAndType 17 18), (0, u "coder"), (0, u "B"), (2, u "hash"), (0, u "I"), (2, u "hashIsZero"), (0, u "Z"), (0, .methodref 10 28), (0, .nameAndType 5 29), (0, u "([CIILjava/lang/Void;)V"), (8, .fieldref 10 39), (0, .nameAndType 40 26), (0, u "COMPACT_STRINGS"), (1, .class_ 44), (1, u "java/lang/StringUTF16"), (0, u "compress"), (1, .methodref 42 48), (0, .nameAndType 49 50), (0, u "coderFromArrayLen"), (0, u "([BI)B"), (35, .fieldref 87 88), (0, .class_ 89), (0, .nameAndType 90 91), (0, u "sun/nio/cs/UTF_8"), (0, u "INSTANCE"), (0, u "Lsun/nio/cs/UTF_8;"), (0, .methodref 93 94), (0, .class_ 95), (0, .nameAndType 96 97), (0, u "java/lang/StringCoding"), (0, u "countPositives"), (0, u "([BII)I"), (18, .fieldref 117 118), (0, .class_ 119), (0, .nameAndType 90 120), (0, u "sun/nio/cs/ISO_8859_1"), (0, u "Lsun/nio/cs/ISO_8859_1;"), (2, .fieldref 124 125), (0, .class_ 126), (0, .nameAndType 90 127), (0, u "sun/nio/cs/US_ASCII"), (0, u "Lsun/nio/cs/US_ASCII;"), (49, .methodref 42 178), (0, .nameAndType 45 179), (0, u "([CII)[B"), (79, u "(B[B)[B"), (0, .methodref 10 261), (0, .nameAndType 262 259), (0, u "encodeASCII"), (16, .methodref 280 281), (0, .class_ 14), (0, .nameAndType 282 283), (0, u "clone"), (0, u "()Ljava/lang/Object;"), (33, u "encode"), (17, .methodref 10 336), (0, .nameAndType 17 337), (0, u "()B"), (194, u "getBytes"), (2, .methodref 10 536), (0, .nameAndType 317 537), (0, u "(Ljava/nio/charset/Charset;B[B)[B"), (37, .class_ 576), (0, u "java/lang/CharSequence"), (22, u "CASE_INSENSITIVE_ORDER"), (0, u "Ljava/util/Comparator;"), (409, u "([C)V"), (90, u "serialPersistentFields"), (0, u "[Ljava/io/ObjectStreamField;"), (0, .class_ 1104), (0, u "java/lang/String$CaseInsensitiveComparator"), (1, .class_ 1107), (0, u "java/io/Serializable"), (0, .class_ 1109), (0, u "java/lang/Comparable"), (0, .class_ 1111), (0, u "java/lang/constant/Constable"), (0, .class_ 1113), (0, u "java/lang/constant/ConstantDesc"), (2, u "serialVersionUID"), (0, u "J"), (3, u "REPL"), (0, u "C"), (2, u "LATIN1"), (1, u "UTF16"), (117, u "(Ljava/nio/charset/Charset;)[B")] 205

def k8m0 : Method := { name := "<init>", desc := "()V", sig := { parameters := [], returnType := none }, accessFlags := 1, code := none }
def k8c1 : Code := { maxStack := 5, maxLocals := 2, code := jdk_42_method_3_code, exceptionTable := #[], attributes := #[] }
def k8m1 : Method := { name := "<init>", desc := "([C)V", sig := { parameters := [(.array .char)], returnType := none }, accessFlags := 1, code := some k8c1 }
def k8c2 : Code := { maxStack := 4, maxLocals := 3, code := jdk_42_method_18_code, exceptionTable := #[], attributes := #[] }
def k8m2 : Method := { name := "encode", desc := "(Ljava/nio/charset/Charset;B[B)[B", sig := { parameters := [(.object "java/nio/charset/Charset"), .byte, (.array .byte)], returnType := some (.array .byte) }, accessFlags := 10, code := some k8c2 }
def k8c3 : Code := { maxStack := 3, maxLocals := 7, code := jdk_42_method_24_code, exceptionTable := #[], attributes := #[] }
def k8m3 : Method := { name := "encodeASCII", desc := "(B[B)[B", sig := { parameters := [.byte, (.array .byte)], returnType := some (.array .byte) }, accessFlags := 10, code := some k8c3 }
def k8c4 : Code := { maxStack := 3, maxLocals := 2, code := jdk_42_method_64_code, exceptionTable := #[], attributes := #[] }
def k8m4 : Method := { name := "getBytes", desc := "(Ljava/nio/charset/Charset;)[B", sig := { parameters := [(.object "java/nio/charset/Charset")], returnType := some (.array .byte) }, accessFlags := 1, code := some k8c4 }
def k8c5 : Code := { maxStack := 4, maxLocals := 6, code := jdk_42_method_149_code, exceptionTable := #[], attributes := #[] }
def k8m5 : Method := { name := "<init>", desc := "([CIILjava/lang/Void;)V", sig := { parameters := [(.array .char), .int, .int, (.object "java/lang/Void")], returnType := none }, accessFlags := 2, code := some k8c5 }
def k8c6 : Code := { maxStack := 1, maxLocals := 1, code := jdk_42_method_152_code, exceptionTable := #[], attributes := #[] }
def k8m6 : Method := { name := "coder", desc := "()B", sig := { parameters := [], returnType := some .byte }, accessFlags := 0, code := some k8c6 }
/-- java/lang/String -/
def k8 : Class := { plain "java/lang/String" (some 0) with
  accessFlags := 49
  interfaces := #[3, 4, 5, 6, 7]
  cf := some (fileOf pool8 10 #[.nestMembers #[1103]] #[{ accessFlags := 1, nameIndex := 5, descriptorIndex := 6, attributes := #[] }, { accessFlags := 1, nameIndex := 5, descriptorIndex := 1010, attributes := #[] }, { accessFlags := 10, nameIndex := 317, descriptorIndex := 537, attributes := #[] }, { accessFlags := 10, nameIndex := 262, descriptorIndex := 259, attributes := #[] }, { accessFlags := 1, nameIndex := 532, descriptorIndex := 1245, attributes := #[] }, { accessFlags := 2, nameIndex := 5, descriptorIndex := 29, attributes := #[] }, { accessFlags := 0, nameIndex := 17, descriptorIndex := 337, attributes := #[] }] 49 2 #[1106, 1108, 575, 1110, 1112] #[{ accessFlags := 18, nameIndex := 13, descriptorIndex := 14, attributes := #[] }, { accessFlags := 18, nameIndex := 17, descriptorIndex := 18, attributes := #[] }, { accessFlags := 2, nameIndex := 21, descriptorIndex := 22, attributes := #[] }, { accessFlags := 2, nameIndex := 25, descriptorIndex := 26, attributes := #[] }, { accessFlags := 26, nameIndex := 1116, descriptorIndex := 1117, attributes := #[] }, { accessFlags := 24, nameIndex := 40, descriptorIndex := 26, attributes := #[] }, { accessFlags := 26, nameIndex := 1101, descriptorIndex := 1102, attributes := #[] }, { accessFlags := 26, nameIndex := 1121, descriptorIndex := 1122, attributes := #[] }, { accessFlags := 25, nameIndex := 599, descriptorIndex := 600, attributes := #[] }, { accessFlags := 24, nameIndex := 1125, descriptorIndex := 18, attributes := #[] }, { accessFlags := 24, nameIndex := 1127, descriptorIndex := 18, attributes := #[] }])
  fields := #[{ name := "value", type := (.array .byte), accessFlags := 18, slot := 0, constantValue := 0 }, { name := "coder", type := .byte, accessFlags := 18, slot := 1, constantValue := 0 }, { name := "hash", type := .int, accessFlags := 2, slot := 2, constantValue := 0 }, { name := "hashIsZero", type := .boolean, accessFlags := 2, slot := 3, constantValue := 0 }, { name := "serialVersionUID", type := .long, accessFlags := 26, slot := 0, constantValue := 0 }, { name := "COMPACT_STRINGS", type := .boolean, accessFlags := 24, slot := 1, constantValue := 0 }, { name := "serialPersistentFields", type := (.array (.object "java/io/ObjectStreamField")), accessFlags := 26, slot := 2, constantValue := 0 }, { name := "REPL", type := .char, accessFlags := 26, slot := 3, constantValue := 0 }, { name := "CASE_INSENSITIVE_ORDER", type := (.object "java/util/Comparator"), accessFlags := 25, slot := 4, constantValue := 0 }, { name := "LATIN1", type := .byte, accessFlags := 24, slot := 5, constantValue := 0 }, { name := "UTF16", type := .byte, accessFlags := 24, slot := 6, constantValue := 0 }]
  methods := #[k8m0, k8m1, k8m2, k8m3, k8m4, k8m5, k8m6]
  instanceTypes := #[(.array .byte), .byte, .int, .boolean]
  staticTypes := #[.long, .boolean, (.array (.object "java/io/ObjectStreamField")), .char, (.object "java/util/Comparator"), .byte, .byte]
  resolved := Array.replicate 1451 none
  statics := some 0 }

def pool9 : Array CpInfo := pool [(6, .class_ 8), (1, u "java/lang/Object"), (0, u "<init>"), (0, u "()V"), (1, .class_ 14), (1, u "java/lang/StringUTF16"), (31, u "$assertionsDisabled"), (0, u "Z"), (13, u "HI_BYTE_SHIFT"), (0, u "I"), (2, u "LO_BYTE_SHIFT"), (49, .methodref 12 116), (0, .nameAndType 117 118), (0, u "compress"), (0, u "([CI[BII)I"), (3, u "([CII)[B"), (138, u "coderFromArrayLen"), (0, u "([BI)B"), (106, .class_ 371), (1, u "java/lang/StringUTF16$LinesSpliterator"), (58, u "MAX_LENGTH"), (196, .class_ 628), (0, u "java/lang/StringUTF16$CodePointsSpliterator"), (0, .class_ 630), (0, u "java/lang/StringUTF16$CharsSpliterator")] 4

def k9m0 : Method := { name := "<init>", desc := "()V", sig := { parameters := [], returnType := none }, accessFlags := 0, code := none }
def k9c1 : Code := { maxStack := 2, maxLocals := 2, code := jdk_52_method_15_code, exceptionTable := #[], attributes := #[] }
def k9m1 : Method := { name := "coderFromArrayLen", desc := "([BI)B", sig := { parameters := [(.array .byte), .int], returnType := some .byte }, accessFlags := 8, code := some k9c1 }
def k9c2 : Code := { maxStack := 5, maxLocals := 6, code := jdk_52_method_16_code, exceptionTable := #[], attributes := #[] }
def k9m2 : Method := { name := "compress", desc := "([CII)[B", sig := { parameters := [(.array .char), .int, .int], returnType := some (.array .byte) }, accessFlags := 9, code := some k9c2 }
def k9c3 : Code := { maxStack := 3, maxLocals := 7, code := jdk_52_method_21_code, exceptionTable := #[], attributes := #[] }
def k9m3 : Method := { name := "compress", desc := "([CI[BII)I", sig := { parameters := [(.array .char), .int, (.array .byte), .int, .int], returnType := some .int }, accessFlags := 9, code := some k9c3 }
/-- java/lang/StringUTF16 -/
def k9 : Class := { plain "java/lang/StringUTF16" (some 0) with
  accessFlags := 48
  interfaces := #[]
  cf := some (fileOf pool9 12 #[.nestMembers #[627, 629, 369]] #[{ accessFlags := 0, nameIndex := 9, descriptorIndex := 10, attributes := #[] }, { accessFlags := 8, nameIndex := 261, descriptorIndex := 262, attributes := #[] }, { accessFlags := 9, nameIndex := 117, descriptorIndex := 122, attributes := #[] }, { accessFlags := 9, nameIndex := 117, descriptorIndex := 118, attributes := #[] }] 48 6 #[] #[{ accessFlags := 26, nameIndex := 61, descriptorIndex := 62, attributes := #[] }, { accessFlags := 26, nameIndex := 65, descriptorIndex := 62, attributes := #[] }, { accessFlags := 24, nameIndex := 430, descriptorIndex := 62, attributes := #[] }, { accessFlags := 4120, nameIndex := 46, descriptorIndex := 47, attributes := #[] }])
  fields := #[{ name := "HI_BYTE_SHIFT", type := .int, accessFlags := 26, slot := 0, constantValue := 0 }, { name := "LO_BYTE_SHIFT", type := .int, accessFlags := 26, slot := 1, constantValue := 0 }, { name := "MAX_LENGTH", type := .int, accessFlags := 24, slot := 2, constantValue := 0 }, { name := "$assertionsDisabled", type := .boolean, accessFlags := 4120, slot := 3, constantValue := 0 }]
  methods := #[k9m0, k9m1, k9m2, k9m3]
  instanceTypes := #[]
  staticTypes := #[.int, .int, .int, .boolean]
  resolved := Array.replicate 635 none
  statics := none }

def pool10 : Array CpInfo := pool [(2, .class_ 4), (1, u "java/lang/Object"), (0, u "<init>"), (0, u "()V"), (14, .class_ 23), (1, u "java/nio/charset/StandardCharsets"), (0, u "US_ASCII"), (0, u "Ljava/nio/charset/Charset;"), (7, u "ISO_8859_1"), (7, u "UTF_8"), (5, u "UTF_16BE"), (5, u "UTF_16LE"), (5, u "UTF_16")] 8

def k10m0 : Method := { name := "<init>", desc := "()V", sig := { parameters := [], returnType := none }, accessFlags := 2, code := none }
/-- java/nio/charset/StandardCharsets -/
def k10 : Class := { plain "java/nio/charset/StandardCharsets" (some 0) with
  accessFlags := 49
  interfaces := #[]
  cf := some (fileOf pool10 21 #[] #[{ accessFlags := 2, nameIndex := 5, descriptorIndex := 6, attributes := #[] }] 49 2 #[] #[{ accessFlags := 25, nameIndex := 24, descriptorIndex := 25, attributes := #[] }, { accessFlags := 25, nameIndex := 33, descriptorIndex := 25, attributes := #[] }, { accessFlags := 25, nameIndex := 41, descriptorIndex := 25, attributes := #[] }, { accessFlags := 25, nameIndex := 47, descriptorIndex := 25, attributes := #[] }, { accessFlags := 25, nameIndex := 53, descriptorIndex := 25, attributes := #[] }, { accessFlags := 25, nameIndex := 59, descriptorIndex := 25, attributes := #[] }])
  fields := #[{ name := "US_ASCII", type := (.object "java/nio/charset/Charset"), accessFlags := 25, slot := 0, constantValue := 0 }, { name := "ISO_8859_1", type := (.object "java/nio/charset/Charset"), accessFlags := 25, slot := 1, constantValue := 0 }, { name := "UTF_8", type := (.object "java/nio/charset/Charset"), accessFlags := 25, slot := 2, constantValue := 0 }, { name := "UTF_16BE", type := (.object "java/nio/charset/Charset"), accessFlags := 25, slot := 3, constantValue := 0 }, { name := "UTF_16LE", type := (.object "java/nio/charset/Charset"), accessFlags := 25, slot := 4, constantValue := 0 }, { name := "UTF_16", type := (.object "java/nio/charset/Charset"), accessFlags := 25, slot := 5, constantValue := 0 }]
  methods := #[k10m0]
  instanceTypes := #[]
  staticTypes := #[(.object "java/nio/charset/Charset"), (.object "java/nio/charset/Charset"), (.object "java/nio/charset/Charset"), (.object "java/nio/charset/Charset"), (.object "java/nio/charset/Charset"), (.object "java/nio/charset/Charset")]
  resolved := Array.replicate 68 none
  statics := some 1 }

def pool11 : Array CpInfo := pool [(18, .class_ 20), (1, u "java/nio/charset/Charset"), (0, u "cache1"), (0, u "[Ljava/lang/Object;"), (2, u "cache2"), (0, .class_ 27), (0, u "java/lang/Object"), (0, .class_ 29), (0, u "java/nio/charset/Charset$1"), (4, .class_ 36), (1, u "java/nio/charset/Charset$ThreadTrackHolder"), (21, .class_ 59), (0, u "java/nio/charset/Charset$2"), (11, .class_ 73), (1, u "java/nio/charset/Charset$ExtendedProviderHolder"), (22, u "standardProvider"), (0, u "Ljava/nio/charset/spi/CharsetProvider;"), (29, u "name"), (7, .class_ 136), (0, u "java/nio/charset/Charset$3"), (5, u "defaultCharset"), (0, u "Ljava/nio/charset/Charset;"), (14, u "zeroAliases"), (0, u "[Ljava/lang/String;"), (29, u "Ljava/lang/String;"), (2, u "aliases"), (2, u "aliasSet"), (0, u "Ljava/util/Set;"), (82, .class_ 280), (0, u "java/lang/Comparable"), (84, .class_ 366), (0, u "java/nio/charset/Charset$ExtendedProviderHolder$1")] 3

/-- java/nio/charset/Charset -/
def k11 : Class := { plain "java/nio/charset/Charset" (some 0) with
  accessFlags := 1057
  interfaces := #[4]
  cf := some (fileOf pool11 18 #[.nestMembers #[71, 365, 34, 135, 58, 28]] #[] 1057 26 #[279] #[{ accessFlags := 26, nameIndex := 96, descriptorIndex := 97, attributes := #[] }, { accessFlags := 26, nameIndex := 158, descriptorIndex := 159, attributes := #[] }, { accessFlags := 74, nameIndex := 21, descriptorIndex := 22, attributes := #[] }, { accessFlags := 74, nameIndex := 25, descriptorIndex := 22, attributes := #[] }, { accessFlags := 10, nameIndex := 142, descriptorIndex := 143, attributes := #[] }, { accessFlags := 18, nameIndex := 127, descriptorIndex := 189, attributes := #[] }, { accessFlags := 18, nameIndex := 192, descriptorIndex := 159, attributes := #[] }, { accessFlags := 2, nameIndex := 195, descriptorIndex := 196, attributes := #[] }])
  fields := #[{ name := "standardProvider", type := (.object "java/nio/charset/spi/CharsetProvider"), accessFlags := 26, slot := 0, constantValue := 0 }, { name := "zeroAliases", type := (.array (.object "java/lang/String")), accessFlags := 26, slot := 1, constantValue := 0 }, { name := "cache1", type := (.array (.object "java/lang/Object")), accessFlags := 74, slot := 2, constantValue := 0 }, { name := "cache2", type := (.array (.object "java/lang/Object")), accessFlags := 74, slot := 3, constantValue := 0 }, { name := "defaultCharset", type := (.object "java/nio/charset/Charset"), accessFlags := 10, slot := 4, constantValue := 0 }, { name := "name", type := (.object "java/lang/String"), accessFlags := 18, slot := 0, constantValue := 0 }, { name := "aliases", type := (.array (.object "java/lang/String")), accessFlags := 18, slot := 1, constantValue := 0 }, { name := "aliasSet", type := (.object "java/util/Set"), accessFlags := 2, slot := 2, constantValue := 0 }]
  methods := #[]
  instanceTypes := #[(.object "java/lang/String"), (.array (.object "java/lang/String")), (.object "java/util/Set")]
  staticTypes := #[(.object "java/nio/charset/spi/CharsetProvider"), (.array (.object "java/lang/String")), (.array (.object "java/lang/Object")), (.array (.object "java/lang/Object")), (.object "java/nio/charset/Charset")]
  resolved := Array.replicate 370 none
  statics := none }

def pool12 : Array CpInfo := pool [(1, .class_ 2), (0, u "sun/nio/cs/HistoricallyNamedCharset"), (0, .class_ 4), (0, u "java/lang/Object")] 4

/-- sun/nio/cs/HistoricallyNamedCharset -/
def k12 : Class := { plain "sun/nio/cs/HistoricallyNamedCharset" (some 0) with
  accessFlags := 1537
  interfaces := #[]
  cf := some (fileOf pool12 1 #[] #[] 1537 3 #[] #[])
  fields := #[]
  methods := #[]
  instanceTypes := #[]
  staticTypes := #[]
  resolved := Array.replicate 9 none
  statics := none }

def pool13 : Array CpInfo := pool [(2, .class_ 4), (1, u "java/nio/charset/Charset"), (130, .class_ 136), (0, u "sun/nio/cs/Unicode"), (0, .class_ 138), (0, u "sun/nio/cs/HistoricallyNamedCharset")] 15

/-- sun/nio/cs/Unicode -/
def k13 : Class := { plain "sun/nio/cs/Unicode" (some 11) with
  accessFlags := 1056
  interfaces := #[12]
  cf := some (fileOf pool13 135 #[] #[] 1056 2 #[137] #[])
  fields := #[]
  methods := #[]
  instanceTypes := #[(.object "java/lang/String"), (.array (.object "java/lang/String")), (.object "java/util/Set")]
  staticTypes := #[]
  resolved := Array.replicate 154 none
  statics := none }

def pool14 : Array CpInfo := pool [(10, .class_ 12), (1, u "sun/nio/cs/Unicode"), (0, u "<init>"), (3, .class_ 18), (0, u "sun/nio/cs/UTF_8$Decoder"), (3, .class_ 23), (0, u "sun/nio/cs/UTF_8$Encoder"), (15, .class_ 40), (0, u "sun/nio/cs/UTF_8"), (2, u "()V"), (2, u "INSTANCE"), (0, u "Lsun/nio/cs/UTF_8;"), (8, u "JLA"), (0, u "Ljdk/internal/access/JavaLangAccess;")] 26

def k14m0 : Method := { name := "<init>", desc := "()V", sig := { parameters := [], returnType := none }, accessFlags := 1, code := none }
/-- sun/nio/cs/UTF_8 -/
def k14 : Class := { plain "sun/nio/cs/UTF_8" (some 13) with
  accessFlags := 49
  interfaces := #[]
  cf := some (fileOf pool14 39 #[.nestMembers #[22, 17]] #[{ accessFlags := 1, nameIndex := 13, descriptorIndex := 43, attributes := #[] }] 49 10 #[] #[{ accessFlags := 25, nameIndex := 46, descriptorIndex := 47, attributes := #[] }, { accessFlags := 26, nameIndex := 56, descriptorIndex := 57, attributes := #[] }])
  fields := #[{ name := "INSTANCE", type := (.object "sun/nio/cs/UTF_8"), accessFlags := 25, slot := 0, constantValue := 0 }, { name := "JLA", type := (.object "jdk/internal/access/JavaLangAccess"), accessFlags := 26, slot := 1, constantValue := 0 }]
  methods := #[k14m0]
  instanceTypes := #[(.object "java/lang/String"), (.array (.object "java/lang/String")), (.object "java/util/Set")]
  staticTypes := #[(.object "sun/nio/cs/UTF_8"), (.object "jdk/internal/access/JavaLangAccess")]
  resolved := Array.replicate 84 none
  statics := some 2 }

def pool15 : Array CpInfo := pool [(10, .class_ 12), (1, u "java/nio/charset/Charset"), (0, u "<init>"), (5, .class_ 20), (0, u "sun/nio/cs/ISO_8859_1"), (0, .class_ 22), (0, u "sun/nio/cs/ISO_8859_1$Decoder"), (3, .class_ 27), (0, u "sun/nio/cs/ISO_8859_1$Encoder"), (3, u "()V"), (2, u "INSTANCE"), (0, u "Lsun/nio/cs/ISO_8859_1;"), (0, .class_ 37), (0, u "sun/nio/cs/HistoricallyNamedCharset")] 22

def k15m0 : Method := { name := "<init>", desc := "()V", sig := { parameters := [], returnType := none }, accessFlags := 1, code := none }
/-- sun/nio/cs/ISO_8859_1 -/
def k15 : Class := { plain "sun/nio/cs/ISO_8859_1" (some 11) with
  accessFlags := 33
  interfaces := #[12]
  cf := some (fileOf pool15 19 #[.nestMembers #[26, 21]] #[{ accessFlags := 1, nameIndex := 13, descriptorIndex := 31, attributes := #[] }] 33 10 #[36] #[{ accessFlags := 25, nameIndex := 34, descriptorIndex := 35, attributes := #[] }])
  fields := #[{ name := "INSTANCE", type := (.object "sun/nio/cs/ISO_8859_1"), accessFlags := 25, slot := 0, constantValue := 0 }]
  methods := #[k15m0]
  instanceTypes := #[(.object "java/lang/String"), (.array (.object "java/lang/String")), (.object "java/util/Set")]
  staticTypes := #[(.object "sun/nio/cs/ISO_8859_1")]
  resolved := Array.replicate 60 none
  statics := some 3 }

def pool16 : Array CpInfo := pool [(10, .class_ 12), (1, u "java/nio/charset/Charset"), (0, u "<init>"), (3, .class_ 18), (0, u "sun/nio/cs/US_ASCII"), (0, .class_ 20), (0, u "sun/nio/cs/US_ASCII$Decoder"), (3, .class_ 25), (0, u "sun/nio/cs/US_ASCII$Encoder"), (3, u "()V"), (2, u "INSTANCE"), (0, u "Lsun/nio/cs/US_ASCII;"), (8, u "JLA"), (0, u "Ljdk/internal/access/JavaLangAccess;"), (0, .class_ 45), (0, u "sun/nio/cs/HistoricallyNamedCharset")] 21

def k16m0 : Method := { name := "<init>", desc := "()V", sig := { parameters := [], returnType := none }, accessFlags := 1, code := none }
/-- sun/nio/cs/US_ASCII -/
def k16 : Class := { plain "sun/nio/cs/US_ASCII" (some 11) with
  accessFlags := 33
  interfaces := #[12]
  cf := some (fileOf pool16 17 #[.nestMembers #[24, 19]] #[{ accessFlags := 1, nameIndex := 13, descriptorIndex := 29, attributes := #[] }] 33 10 #[44] #[{ accessFlags := 25, nameIndex := 32, descriptorIndex := 33, attributes := #[] }, { accessFlags := 26, nameIndex := 42, descriptorIndex := 43, attributes := #[] }])
  fields := #[{ name := "INSTANCE", type := (.object "sun/nio/cs/US_ASCII"), accessFlags := 25, slot := 0, constantValue := 0 }, { name := "JLA", type := (.object "jdk/internal/access/JavaLangAccess"), accessFlags := 26, slot := 1, constantValue := 0 }]
  methods := #[k16m0]
  instanceTypes := #[(.object "java/lang/String"), (.array (.object "java/lang/String")), (.object "java/util/Set")]
  staticTypes := #[(.object "sun/nio/cs/US_ASCII"), (.object "jdk/internal/access/JavaLangAccess")]
  resolved := Array.replicate 67 none
  statics := some 4 }

def pool17 : Array CpInfo := pool [(2, .class_ 4), (1, u "java/lang/Object"), (0, u "<init>"), (0, u "()V"), (1, .class_ 10), (1, u "java/lang/StringCoding"), (0, u "countPositives"), (0, u "([BII)I")] 36

def k17m0 : Method := { name := "<init>", desc := "()V", sig := { parameters := [], returnType := none }, accessFlags := 2, code := none }
def k17c1 : Code := { maxStack := 2, maxLocals := 5, code := jdk_123_method_3_code, exceptionTable := #[], attributes := #[] }
def k17m1 : Method := { name := "countPositives", desc := "([BII)I", sig := { parameters := [(.array .byte), .int, .int], returnType := some .int }, accessFlags := 9, code := some k17c1 }
/-- java/lang/StringCoding -/
def k17 : Class := { plain "java/lang/StringCoding" (some 0) with
  accessFlags := 32
  interfaces := #[]
  cf := some (fileOf pool17 8 #[] #[{ accessFlags := 2, nameIndex := 5, descriptorIndex := 6, attributes := #[] }, { accessFlags := 9, nameIndex := 11, descriptorIndex := 12, attributes := #[] }] 32 2 #[] #[])
  fields := #[]
  methods := #[k17m0, k17m1]
  instanceTypes := #[]
  staticTypes := #[]
  resolved := Array.replicate 49 none
  statics := none }

def pool18 : Array CpInfo := pool [(1, .class_ 2), (0, u "java/lang/Cloneable"), (0, .class_ 4), (0, u "java/lang/Object")] 2

/-- java/lang/Cloneable -/
def k18 : Class := { plain "java/lang/Cloneable" (some 0) with
  accessFlags := 1537
  interfaces := #[]
  cf := some (fileOf pool18 1 #[] #[] 1537 3 #[] #[])
  fields := #[]
  methods := #[]
  instanceTypes := #[]
  staticTypes := #[]
  resolved := Array.replicate 7 none
  statics := none }

def pool19 : Array CpInfo := pool [(2, .class_ 4), (1, u "java/lang/Object"), (0, u "<init>"), (0, u "()V"), (7, .class_ 16), (1, u "java/util/Arrays"), (57, .class_ 76), (1, u "java/util/Arrays$NaturalOrder"), (36, .class_ 115), (1, u "java/util/Arrays$LegacyMergeSort"), (1, u "Z"), (257, .class_ 376), (0, u "java/util/Arrays$ArrayList"), (68, u "$assertionsDisabled"), (269, u "MIN_ARRAY_SORT_GRAN"), (0, u "I"), (2, u "INSERTIONSORT_THRESHOLD"), (120, u "fill"), (9, u "([BB)V"), (124, .class_ 976), (0, u "java/util/Arrays$ArrayItr")] 52

def k19m0 : Method := { name := "<init>", desc := "()V", sig := { parameters := [], returnType := none }, accessFlags := 2, code := none }
def k19c1 : Code := { maxStack := 3, maxLocals := 4, code := jdk_65_method_109_code, exceptionTable := #[], attributes := #[] }
def k19m1 : Method := { name := "fill", desc := "([BB)V", sig := { parameters := [(.array .byte), .byte], returnType := none }, accessFlags := 9, code := some k19c1 }
/-- java/util/Arrays -/
def k19 : Class := { plain "java/util/Arrays" (some 0) with
  accessFlags := 49
  interfaces := #[]
  cf := some (fileOf pool19 14 #[.nestMembers #[975, 375, 113, 74]] #[{ accessFlags := 2, nameIndex := 5, descriptorIndex := 6, attributes := #[] }, { accessFlags := 9, nameIndex := 840, descriptorIndex := 850, attributes := #[] }] 49 2 #[] #[{ accessFlags := 26, nameIndex := 715, descriptorIndex := 716, attributes := #[] }, { accessFlags := 26, nameIndex := 719, descriptorIndex := 716, attributes := #[] }, { accessFlags := 4120, nameIndex := 445, descriptorIndex := 117, attributes := #[] }])
  fields := #[{ name := "MIN_ARRAY_SORT_GRAN", type := .int, accessFlags := 26, slot := 0, constantValue := 0 }, { name := "INSERTIONSORT_THRESHOLD", type := .int, accessFlags := 26, slot := 1, constantValue := 0 }, { name := "$assertionsDisabled", type := .boolean, accessFlags := 4120, slot := 2, constantValue := 0 }]
  methods := #[k19m0, k19m1]
  instanceTypes := #[]
  staticTypes := #[.int, .int, .boolean]
  resolved := Array.replicate 1029 none
  statics := none }

def pool20 : Array CpInfo := pool [(4, .class_ 6), (1, u "java/lang/Object"), (0, u "<init>"), (0, u "()V"), (5, .class_ 16), (1, u "java/lang/StringLatin1"), (104, u "$assertionsDisabled"), (0, u "Z"), (98, .class_ 223), (1, u "java/lang/StringLatin1$LinesSpliterator"), (166, .class_ 391), (0, u "java/lang/StringLatin1$CharsSpliterator")] 3

def k20m0 : Method := { name := "<init>", desc := "()V", sig := { parameters := [], returnType := none }, accessFlags := 0, code := none }
/-- java/lang/StringLatin1 -/
def k20 : Class := { plain "java/lang/StringLatin1" (some 0) with
  accessFlags := 48
  interfaces := #[]
  cf := some (fileOf pool20 14 #[.nestMembers #[390, 221]] #[{ accessFlags := 0, nameIndex := 7, descriptorIndex := 8, attributes := #[] }] 48 4 #[] #[{ accessFlags := 4120, nameIndex := 121, descriptorIndex := 122, attributes := #[] }])
  fields := #[{ name := "$assertionsDisabled", type := .boolean, accessFlags := 4120, slot := 0, constantValue := 0 }]
  methods := #[k20m0]
  instanceTypes := #[]
  staticTypes := #[.boolean]
  resolved := Array.replicate 395 none
  statics := none }

def pool21 : Array CpInfo := pool [(2, .class_ 4), (1, u "java/lang/Object"), (0, u "<init>"), (0, u "()V"), (17, .class_ 26), (1, u "jdk/internal/util/Preconditions"), (28, .class_ 56), (0, u "jdk/internal/util/Preconditions$4"), (57, .class_ 115), (0, u "jdk/internal/util/Preconditions$1"), (7, u "SIOOBE_FORMATTER"), (0, u "Ljava/util/function/BiFunction;"), (0, .class_ 126), (0, u "jdk/internal/util/Preconditions$2"), (3, u "AIOOBE_FORMATTER"), (0, .class_ 132), (0, u "jdk/internal/util/Preconditions$3"), (3, u "IOOBE_FORMATTER")] 57

def k21m0 : Method := { name := "<init>", desc := "()V", sig := { parameters := [], returnType := none }, accessFlags := 1, code := none }
/-- jdk/internal/util/Preconditions -/
def k21 : Class := { plain "jdk/internal/util/Preconditions" (some 0) with
  accessFlags := 33
  interfaces := #[]
  cf := some (fileOf pool21 24 #[.nestMembers #[55, 131, 125, 114]] #[{ accessFlags := 1, nameIndex := 5, descriptorIndex := 6, attributes := #[] }] 33 2 #[] #[{ accessFlags := 25, nameIndex := 123, descriptorIndex := 124, attributes := #[] }, { accessFlags := 25, nameIndex := 130, descriptorIndex := 124, attributes := #[] }, { accessFlags := 25, nameIndex := 136, descriptorIndex := 124, attributes := #[] }])
  fields := #[{ name := "SIOOBE_FORMATTER", type := (.object "java/util/function/BiFunction"), accessFlags := 25, slot := 0, constantValue := 0 }, { name := "AIOOBE_FORMATTER", type := (.object "java/util/function/BiFunction"), accessFlags := 25, slot := 1, constantValue := 0 }, { name := "IOOBE_FORMATTER", type := (.object "java/util/function/BiFunction"), accessFlags := 25, slot := 2, constantValue := 0 }]
  methods := #[k21m0]
  instanceTypes := #[]
  staticTypes := #[(.object "java/util/function/BiFunction"), (.object "java/util/function/BiFunction"), (.object "java/util/function/BiFunction")]
  resolved := Array.replicate 194 none
  statics := some 5 }

def pool22 : Array CpInfo := pool [(9, u "<init>"), (6, .class_ 18), (1, u "java/lang/Object"), (0, u "()V"), (1, .class_ 23), (1, u "jdk/internal/util/ArraysSupport"), (0, u "LOG2_ARRAY_LONG_INDEX_SCALE"), (0, u "I"), (2, u "U"), (0, u "Ljdk/internal/misc/Unsafe;"), (8, u "BIG_ENDIAN"), (0, u "Z"), (8, u "LOG2_BYTE_BIT_SIZE"), (4, u "LOG2_ARRAY_INT_INDEX_SCALE"), (54, u "JLA"), (0, u "Ljdk/internal/access/JavaLangAccess;"), (11, u "LOG2_ARRAY_BOOLEAN_INDEX_SCALE"), (9, u "LOG2_ARRAY_BYTE_INDEX_SCALE"), (5, u "LOG2_ARRAY_CHAR_INDEX_SCALE"), (5, u "LOG2_ARRAY_SHORT_INDEX_SCALE"), (18, u "LOG2_ARRAY_FLOAT_INDEX_SCALE"), (24, u "LOG2_ARRAY_DOUBLE_INDEX_SCALE"), (89, u "T_BOOLEAN"), (2, u "T_CHAR"), (1, u "T_FLOAT"), (1, u "T_DOUBLE"), (1, u "T_BYTE"), (1, u "T_SHORT"), (1, u "T_INT"), (1, u "T_LONG"), (1, u "SOFT_MAX_ARRAY_LENGTH")] 83

def k22m0 : Method := { name := "<init>", desc := "()V", sig := { parameters := [], returnType := none }, accessFlags := 2, code := none }
/-- jdk/internal/util/ArraysSupport -/
def k22 : Class := { plain "jdk/internal/util/ArraysSupport" (some 0) with
  accessFlags := 33
  interfaces := #[]
  cf := some (fileOf pool22 21 #[] #[{ accessFlags := 2, nameIndex := 9, descriptorIndex := 19, attributes := #[] }] 33 16 #[] #[{ accessFlags := 24, nameIndex := 28, descriptorIndex := 29, attributes := #[] }, { accessFlags := 26, nameIndex := 38, descriptorIndex := 39, attributes := #[] }, { accessFlags := 25, nameIndex := 121, descriptorIndex := 25, attributes := #[] }, { accessFlags := 25, nameIndex := 131, descriptorIndex := 25, attributes := #[] }, { accessFlags := 25, nameIndex := 137, descriptorIndex := 25, attributes := #[] }, { accessFlags := 25, nameIndex := 143, descriptorIndex := 25, attributes := #[] }, { accessFlags := 25, nameIndex := 53, descriptorIndex := 25, attributes := #[] }, { accessFlags := 25, nameIndex := 24, descriptorIndex := 25, attributes := #[] }, { accessFlags := 25, nameIndex := 162, descriptorIndex := 25, attributes := #[] }, { accessFlags := 25, nameIndex := 187, descriptorIndex := 25, attributes := #[] }, { accessFlags := 26, nameIndex := 48, descriptorIndex := 25, attributes := #[] }, { accessFlags := 25, nameIndex := 277, descriptorIndex := 25, attributes := #[] }, { accessFlags := 25, nameIndex := 280, descriptorIndex := 25, attributes := #[] }, { accessFlags := 25, nameIndex := 282, descriptorIndex := 25, attributes := #[] }, { accessFlags := 25, nameIndex := 284, descriptorIndex := 25, attributes := #[] }, { accessFlags := 25, nameIndex := 286, descriptorIndex := 25, attributes := #[] }, { accessFlags := 25, nameIndex := 288, descriptorIndex := 25, attributes := #[] }, { accessFlags := 25, nameIndex := 290, descriptorIndex := 25, attributes := #[] }, { accessFlags := 25, nameIndex := 292, descriptorIndex := 25, attributes := #[] }, { accessFlags := 26, nameIndex := 108, descriptorIndex := 109, attributes := #[] }, { accessFlags := 25, nameIndex := 294, descriptorIndex := 25, attributes := #[] }])
  fields := #[{ name := "U", type := (.object "jdk/internal/misc/Unsafe"), accessFlags := 24, slot := 0, constantValue := 0 }, { name := "BIG_ENDIAN", type := .boolean, accessFlags := 26, slot := 1, constantValue := 0 }, { name := "LOG2_ARRAY_BOOLEAN_INDEX_SCALE", type := .int, accessFlags := 25, slot := 2, constantValue := 0 }, { name := "LOG2_ARRAY_BYTE_INDEX_SCALE", type := .int, accessFlags := 25, slot := 3, constantValue := 0 }, { name := "LOG2_ARRAY_CHAR_INDEX_SCALE", type := .int, accessFlags := 25, slot := 4, constantValue := 0 }, { name := "LOG2_ARRAY_SHORT_INDEX_SCALE", type := .int, accessFlags := 25, slot := 5, constantValue := 0 }, { name := "LOG2_ARRAY_INT_INDEX_SCALE", type := .int, accessFlags := 25, slot := 6, constantValue := 0 }, { name := "LOG2_ARRAY_LONG_INDEX_SCALE", type := .int, accessFlags := 25, slot := 7, constantValue := 0 }, { name := "LOG2_ARRAY_FLOAT_INDEX_SCALE", type := .int, accessFlags := 25, slot := 8, constantValue := 0 }, { name := "LOG2_ARRAY_DOUBLE_INDEX_SCALE", type := .int, accessFlags := 25, slot := 9, constantValue := 0 }, { name := "LOG2_BYTE_BIT_SIZE", type := .int, accessFlags := 26, slot := 10, constantValue := 0 }, { name := "T_BOOLEAN", type := .int, accessFlags := 25, slot := 11, constantValue := 0 }, { name := "T_CHAR", type := .int, accessFlags := 25, slot := 12, constantValue := 0 }, { name := "T_FLOAT", type := .int, accessFlags := 25, slot := 13, constantValue := 0 }, { name := "T_DOUBLE", type := .int, accessFlags := 25, slot := 14, constantValue := 0 }, { name := "T_BYTE", type := .int, accessFlags := 25, slot := 15, constantValue := 0 }, { name := "T_SHORT", type := .int, accessFlags := 25, slot := 16, constantValue := 0 }, { name := "T_INT", type := .int, accessFlags := 25, slot := 17, constantValue := 0 }, { name := "T_LONG", type := .int, accessFlags := 25, slot := 18, constantValue := 0 }, { name := "JLA", type := (.object "jdk/internal/access/JavaLangAccess"), accessFlags := 26, slot := 19, constantValue := 0 }, { name := "SOFT_MAX_ARRAY_LENGTH", type := .int, accessFlags := 25, slot := 20, constantValue := 0 }]
  methods := #[k22m0]
  instanceTypes := #[]
  staticTypes := #[(.object "jdk/internal/misc/Unsafe"), .boolean, .int, .int, .int, .int, .int, .int, .int, .int, .int, .int, .int, .int, .int, .int, .int, .int, .int, (.object "jdk/internal/access/JavaLangAccess"), .int]
  resolved := Array.replicate 378 none
  statics := none }

/-- the primitive byte -/
def k23 : Class := { plain "byte" none with kind := .primitive 'B', accessFlags := 0x411 }
/-- [B -/
def k24 : Class := { plain "[B" (some 0) with kind := .array 23 .byte, interfaces := #[18, 3], accessFlags := 1041 }

/-- the primitive char -/
def k25 : Class := { plain "char" none with kind := .primitive 'C', accessFlags := 0x411 }
/-- [C -/
def k26 : Class := { plain "[C" (some 0) with kind := .array 25 .char, interfaces := #[18, 3], accessFlags := 1041 }

/-- the primitive int -/
def k27 : Class := { plain "int" none with kind := .primitive 'I', accessFlags := 0x411 }
/-- [I -/
def k28 : Class := { plain "[I" (some 0) with kind := .array 27 .int, interfaces := #[18, 3], accessFlags := 1041 }

/-- the primitive long -/
def k29 : Class := { plain "long" none with kind := .primitive 'J', accessFlags := 0x411 }
/-- [J -/
def k30 : Class := { plain "[J" (some 0) with kind := .array 29 .long, interfaces := #[18, 3], accessFlags := 1041 }

def heap : Heap := #[{ cls := 8, slots := #[.long 0, .int 1, .null, .int 0, .null, .int 0, .int 0], vm := .statics 8 },
  { cls := 10, slots := #[.ref 6, .null, .null, .null, .null, .null], vm := .statics 10 },
  { cls := 14, slots := #[.ref 7, .null], vm := .statics 14 },
  { cls := 15, slots := #[.ref 8], vm := .statics 15 },
  { cls := 16, slots := #[.ref 6, .null], vm := .statics 16 },
  { cls := 21, slots := #[.null, .null, .null], vm := .statics 21 },
  { cls := 16, slots := #[.null, .null, .null], vm := .none },
  { cls := 14, slots := #[.null, .null, .null], vm := .none },
  { cls := 15, slots := #[.null, .null, .null], vm := .none }]
def classes : Array Class := #[k0, k1, k2, k3, k4, k5, k6, k7, k8, k9, k10, k11, k12, k13, k14, k15, k16, k17, k18, k19, k20, k21, k22, k23, k24, k25, k26, k27, k28, k29, k30]
def interned : List (Array UInt16 × Addr) := []
def slotsUsed : Nat := 30
def theMethod : MethodId := ⟨1, 2⟩
def args0 : Array Value := #[.int 1, .int 2, .int 3, .long 4, .long 5, .int 6]
def aboutOver (below : List Frame) : State where
  vm := { classes := classes, interned := interned.toArray }
  heap := heap
  slotsUsed := slotsUsed
  threads := #[{ frames := .invoking theMethod args0 :: below }]
def below0 : List Frame := [.native { method := ⟨0, 0⟩, args := #[] }]
def about1 : State := aboutOver below0
def p0 : Program := .bare "" "" ""
def e0 : Env := launch0.env 0 0 0
theorem w_frames : about1.frames = Frame.invoking theMethod args0 :: below0 := rfl
set_option maxRecDepth 65536 in
theorem w_args : argsFit about1.vm theMethod args0 = true := by decide +kernel
set_option maxRecDepth 65536 in
theorem w_heap : heapFits about1 = true := by decide +kernel
set_option maxRecDepth 65536 in
theorem w_runnable : about1.curStatus? = some .runnable := by decide +kernel
set_option maxRecDepth 65536 in
theorem w_alone : about1.alone = true := by decide +kernel
set_option maxRecDepth 65536 in
theorem w_named : about1.methodNamed? x = some theMethod := by decide +kernel
set_option maxRecDepth 65536 in
theorem w_hears : about1.hears theMethod below0 = true := by decide +kernel
set_option maxRecDepth 65536 in
theorem w_ripe : about1.ripe theMethod args0 below0 = true := by decide +kernel
theorem w_running : about1.status = .running := rfl
set_option maxRecDepth 65536 in
theorem w_room : about1.hasRoom e0.platform room_1 = true :=
  launch0.hasRoom_least _ room_1 (by decide +kernel) (by decide +kernel) (by decide +kernel) (by decide +kernel) (by decide +kernel) (by decide +kernel)
theorem allAtoms_all (ts : List Jvm.Cond) (a : Array Jvm.Value) (st : Jvm.State) : (allAtoms ts).before a st = ts.all (fun c => c.before a st) := by
  induction ts with
  | nil => rfl
  | cons c t ih =>
    show (Jvm.Cond.and c (allAtoms t)).before a st = _
    rw [Jvm.Cond.before_and, ih, List.all_cons]
def words1 : List Jvm.Cond := Jvm.Cond.code x code maxLocals ret :: tables_1
/-- a 'code' word, met by the world's own term for the bytes: nothing is compared byte by byte -/
theorem code_word {y : MethodName} {bytes : ByteArray} {mx : Nat} {rt : Option FieldType} {a : Array Value} {s : State} {m : MethodId} {meth : Method} {c : Code} (h1 : s.methodNamed? y = some m) (h2 : s.vm.method? m = some meth) (h3 : meth.code = some c) (h4 : c.code = bytes)
    (h5 : (c.maxLocals == mx && c.exceptionTable.isEmpty && decide (c.maxStack ≤ mostOperands) && decide (meth.sig.returnType = rt) && !meth.locks && decide (parseMethodDescriptor y.desc = some meth.sig)) = true) : (Jvm.Cond.code y bytes mx rt).before a s = true := by
  simp only [Bool.and_eq_true, beq_iff_eq, Bool.not_eq_true', decide_eq_true_eq] at h5
  obtain ⟨⟨⟨⟨⟨g1, g2⟩, g3⟩, g4⟩, g5⟩, g6⟩ := h5
  simp [Cond.before, Cond.holds, Cond.value, h1, h2, h3, h4, g1, g2, g3, g4, g5, g6]
def isCode : Jvm.Cond → Bool
  | .code _ _ _ _ => true
  | _ => false
theorem all_split {L : List Jvm.Cond} {P : Jvm.Cond → Bool} (h1 : L.all (fun c => isCode c || P c) = true) (h2 : ∀ c ∈ L.filter isCode, P c = true) : L.all P = true := by
  refine List.all_eq_true.mpr fun c hc => ?_
  have h := List.all_eq_true.mp h1 c hc
  rcases Bool.eq_false_or_eq_true (isCode c) with hi | hi
  · exact h2 c (List.mem_filter.mpr ⟨hc, hi⟩)
  · simpa [hi] using h
set_option maxRecDepth 65536 in
theorem w_c0 : (Jvm.Cond.code x code maxLocals ret).before args0 about1 = true := code_word (m := ⟨1, 2⟩) (meth := k1m2) (c := k1c2) (by decide +kernel) rfl rfl rfl (by decide +kernel)
set_option maxRecDepth 65536 in
theorem w_c1 : (Jvm.Cond.code ({ cls := "java/lang/String", name := "<init>", desc := "([C)V" } : Jvm.MethodName) jdk_42_method_3_code (2 : Nat) (Option.none : Option Jvm.ClassFile.FieldType)).before args0 about1 = true := code_word (m := ⟨8, 1⟩) (meth := k8m1) (c := k8c1) (by decide +kernel) rfl rfl rfl (by decide +kernel)
set_option maxRecDepth 65536 in
theorem w_c2 : (Jvm.Cond.code ({ cls := "java/lang/String", name := "<init>", desc := "([CIILjava/lang/Void;)V" } : Jvm.MethodName) jdk_42_method_149_code (6 : Nat) (Option.none : Option Jvm.ClassFile.FieldType)).before args0 about1 = true := code_word (m := ⟨8, 5⟩) (meth := k8m5) (c := k8c5) (by decide +kernel) rfl rfl rfl (by decide +kernel)
set_option maxRecDepth 65536 in
theorem w_c3 : (Jvm.Cond.code ({ cls := "java/lang/Object", name := "<init>", desc := "()V" } : Jvm.MethodName) object_method_1_code (1 : Nat) (Option.none : Option Jvm.ClassFile.FieldType)).before args0 about1 = true := code_word (m := ⟨0, 0⟩) (meth := k0m0) (c := k0c0) (by decide +kernel) rfl rfl rfl (by decide +kernel)
set_option maxRecDepth 65536 in
theorem w_c4 : (Jvm.Cond.code ({ cls := "java/lang/StringUTF16", name := "compress", desc := "([CII)[B" } : Jvm.MethodName) jdk_52_method_16_code (6 : Nat) (Option.some (Jvm.ClassFile.FieldType.array Jvm.ClassFile.FieldType.byte))).before args0 about1 = true := code_word (m := ⟨9, 2⟩) (meth := k9m2) (c := k9c2) (by decide +kernel) rfl rfl rfl (by decide +kernel)
set_option maxRecDepth 65536 in
theorem w_c5 : (Jvm.Cond.code ({ cls := "java/lang/StringUTF16", name := "compress", desc := "([CI[BII)I" } : Jvm.MethodName) jdk_52_method_21_code (7 : Nat) (Option.some Jvm.ClassFile.FieldType.int)).before args0 about1 = true := code_word (m := ⟨9, 3⟩) (meth := k9m3) (c := k9c3) (by decide +kernel) rfl rfl rfl (by decide +kernel)
set_option maxRecDepth 65536 in
theorem w_c6 : (Jvm.Cond.code ({ cls := "java/lang/StringUTF16", name := "coderFromArrayLen", desc := "([BI)B" } : Jvm.MethodName) jdk_52_method_15_code (2 : Nat) (Option.some Jvm.ClassFile.FieldType.byte)).before args0 about1 = true := code_word (m := ⟨9, 1⟩) (meth := k9m1) (c := k9c1) (by decide +kernel) rfl rfl rfl (by decide +kernel)
set_option maxRecDepth 65536 in
theorem w_c7 : (Jvm.Cond.code ({ cls := "com/example/basewright/basewright/Alphabet", name := "<init>", desc := "(Ljava/lang/String;)V" } : Jvm.MethodName) prog_1_method_1_code (3 : Nat) (Option.none : Option Jvm.ClassFile.FieldType)).before args0 about1 = true := code_word (m := ⟨2, 0⟩) (meth := k2m0) (c := k2c0) (by decide +kernel) rfl rfl rfl (by decide +kernel)
set_option maxRecDepth 65536 in
theorem w_c8 : (Jvm.Cond.code ({ cls := "java/lang/String", name := "getBytes", desc := "(Ljava/nio/charset/Charset;)[B" } : Jvm.MethodName) jdk_42_method_64_code (2 : Nat) (Option.some (Jvm.ClassFile.FieldType.array Jvm.ClassFile.FieldType.byte))).before args0 about1 = true := code_word (m := ⟨8, 4⟩) (meth := k8m4) (c := k8c4) (by decide +kernel) rfl rfl rfl (by decide +kernel)
set_option maxRecDepth 65536 in
theorem w_c9 : (Jvm.Cond.code ({ cls := "java/lang/String", name := "coder", desc := "()B" } : Jvm.MethodName) jdk_42_method_152_code (1 : Nat) (Option.some Jvm.ClassFile.FieldType.byte)).before args0 about1 = true := code_word (m := ⟨8, 6⟩) (meth := k8m6) (c := k8c6) (by decide +kernel) rfl rfl rfl (by decide +kernel)
set_option maxRecDepth 65536 in
theorem w_c10 : (Jvm.Cond.code ({ cls := "java/lang/String", name := "encode", desc := "(Ljava/nio/charset/Charset;B[B)[B" } : Jvm.MethodName) jdk_42_method_18_code (3 : Nat) (Option.some (Jvm.ClassFile.FieldType.array Jvm.ClassFile.FieldType.byte))).before args0 about1 = true := code_word (m := ⟨8, 2⟩) (meth := k8m2) (c := k8c2) (by decide +kernel) rfl rfl rfl (by decide +kernel)
set_option maxRecDepth 65536 in
theorem w_c11 : (Jvm.Cond.code ({ cls := "java/lang/String", name := "encodeASCII", desc := "(B[B)[B" } : Jvm.MethodName) jdk_42_method_24_code (7 : Nat) (Option.some (Jvm.ClassFile.FieldType.array Jvm.ClassFile.FieldType.byte))).before args0 about1 = true := code_word (m := ⟨8, 3⟩) (meth := k8m3) (c := k8c3) (by decide +kernel) rfl rfl rfl (by decide +kernel)
set_option maxRecDepth 65536 in
theorem w_c12 : (Jvm.Cond.code ({ cls := "java/lang/StringCoding", name := "countPositives", desc := "([BII)I" } : Jvm.MethodName) jdk_123_method_3_code (5 : Nat) (Option.some Jvm.ClassFile.FieldType.int)).before args0 about1 = true := code_word (m := ⟨17, 1⟩) (meth := k17m1) (c := k17c1) (by decide +kernel) rfl rfl rfl (by decide +kernel)
set_option maxRecDepth 65536 in
theorem w_c13 : (Jvm.Cond.code ({ cls := "java/util/Arrays", name := "fill", desc := "([BB)V" } : Jvm.MethodName) jdk_65_method_109_code (4 : Nat) (Option.none : Option Jvm.ClassFile.FieldType)).before args0 about1 = true := code_word (m := ⟨19, 1⟩) (meth := k19m1) (c := k19c1) (by decide +kernel) rfl rfl rfl (by decide +kernel)
set_option maxRecDepth 65536 in
theorem w_c14 : (Jvm.Cond.code ({ cls := "com/example/basewright/basewright/Alphabet", name := "weightedValues", desc := "([J)[J" } : Jvm.MethodName) prog_1_method_7_code (5 : Nat) (Option.some (Jvm.ClassFile.FieldType.array Jvm.ClassFile.FieldType.long))).before args0 about1 = true := code_word (m := ⟨2, 1⟩) (meth := k2m1) (c := k2c1) (by decide +kernel) rfl rfl rfl (by decide +kernel)
set_option maxRecDepth 65536 in
theorem w_c15 : (Jvm.Cond.code ({ cls := "com/example/basewright/basewright/AlphabetWeightedValuesPinLaw", name := "exp", desc := "(IIIIIJ)J" } : Jvm.MethodName) method_2_code (7 : Nat) (Option.some Jvm.ClassFile.FieldType.long)).before args0 about1 = true := code_word (m := ⟨1, 1⟩) (meth := k1m1) (c := k1c1) (by decide +kernel) rfl rfl rfl (by decide +kernel)
def codes1 : List Jvm.Cond := [Jvm.Cond.code x code maxLocals ret, Jvm.Cond.code ({ cls := "java/lang/String", name := "<init>", desc := "([C)V" } : Jvm.MethodName) jdk_42_method_3_code (2 : Nat) (Option.none : Option Jvm.ClassFile.FieldType), Jvm.Cond.code ({ cls := "java/lang/String", name := "<init>", desc := "([CIILjava/lang/Void;)V" } : Jvm.MethodName) jdk_42_method_149_code (6 : Nat) (Option.none : Option Jvm.ClassFile.FieldType), Jvm.Cond.code ({ cls := "java/lang/Object", name := "<init>", desc := "()V" } : Jvm.MethodName) object_method_1_code (1 : Nat) (Option.none : Option Jvm.ClassFile.FieldType), Jvm.Cond.code ({ cls := "java/lang/StringUTF16", name := "compress", desc := "([CII)[B" } : Jvm.MethodName) jdk_52_method_16_code (6 : Nat) (Option.some (Jvm.ClassFile.FieldType.array Jvm.ClassFile.FieldType.byte)), Jvm.Cond.code ({ cls := "java/lang/StringUTF16", name := "compress", desc := "([CI[BII)I" } : Jvm.MethodName) jdk_52_method_21_code (7 : Nat) (Option.some Jvm.ClassFile.FieldType.int), Jvm.Cond.code ({ cls := "java/lang/StringUTF16", name := "coderFromArrayLen", desc := "([BI)B" } : Jvm.MethodName) jdk_52_method_15_code (2 : Nat) (Option.some Jvm.ClassFile.FieldType.byte), Jvm.Cond.code ({ cls := "com/example/basewright/basewright/Alphabet", name := "<init>", desc := "(Ljava/lang/String;)V" } : Jvm.MethodName) prog_1_method_1_code (3 : Nat) (Option.none : Option Jvm.ClassFile.FieldType), Jvm.Cond.code ({ cls := "java/lang/String", name := "getBytes", desc := "(Ljava/nio/charset/Charset;)[B" } : Jvm.MethodName) jdk_42_method_64_code (2 : Nat) (Option.some (Jvm.ClassFile.FieldType.array Jvm.ClassFile.FieldType.byte)), Jvm.Cond.code ({ cls := "java/lang/String", name := "coder", desc := "()B" } : Jvm.MethodName) jdk_42_method_152_code (1 : Nat) (Option.some Jvm.ClassFile.FieldType.byte), Jvm.Cond.code ({ cls := "java/lang/String", name := "encode", desc := "(Ljava/nio/charset/Charset;B[B)[B" } : Jvm.MethodName) jdk_42_method_18_code (3 : Nat) (Option.some (Jvm.ClassFile.FieldType.array Jvm.ClassFile.FieldType.byte)), Jvm.Cond.code ({ cls := "java/lang/String", name := "encodeASCII", desc := "(B[B)[B" } : Jvm.MethodName) jdk_42_method_24_code (7 : Nat) (Option.some (Jvm.ClassFile.FieldType.array Jvm.ClassFile.FieldType.byte)), Jvm.Cond.code ({ cls := "java/lang/StringCoding", name := "countPositives", desc := "([BII)I" } : Jvm.MethodName) jdk_123_method_3_code (5 : Nat) (Option.some Jvm.ClassFile.FieldType.int), Jvm.Cond.code ({ cls := "java/util/Arrays", name := "fill", desc := "([BB)V" } : Jvm.MethodName) jdk_65_method_109_code (4 : Nat) (Option.none : Option Jvm.ClassFile.FieldType), Jvm.Cond.code ({ cls := "com/example/basewright/basewright/Alphabet", name := "weightedValues", desc := "([J)[J" } : Jvm.MethodName) prog_1_method_7_code (5 : Nat) (Option.some (Jvm.ClassFile.FieldType.array Jvm.ClassFile.FieldType.long)), Jvm.Cond.code ({ cls := "com/example/basewright/basewright/AlphabetWeightedValuesPinLaw", name := "exp", desc := "(IIIIIJ)J" } : Jvm.MethodName) method_2_code (7 : Nat) (Option.some Jvm.ClassFile.FieldType.long)]
set_option maxRecDepth 65536 in
theorem codes_eq : words1.filter isCode = codes1 := rfl
theorem w_codes : ∀ c ∈ words1.filter isCode, c.before args0 about1 = true := by
  rw [codes_eq]
  intro c hc
  simp only [codes1, List.mem_cons, List.not_mem_nil, or_false] at hc
  rcases hc with rfl | rfl | rfl | rfl | rfl | rfl | rfl | rfl | rfl | rfl | rfl | rfl | rfl | rfl | rfl | rfl
  · exact w_c0
  · exact w_c1
  · exact w_c2
  · exact w_c3
  · exact w_c4
  · exact w_c5
  · exact w_c6
  · exact w_c7
  · exact w_c8
  · exact w_c9
  · exact w_c10
  · exact w_c11
  · exact w_c12
  · exact w_c13
  · exact w_c14
  · exact w_c15
set_option maxRecDepth 65536 in
theorem w_t1 : (words1.take 24).all (fun c => isCode c || c.before args0 about1) = true := by decide +kernel
set_option maxRecDepth 65536 in
theorem w_t2 : ((words1.drop 24).take 24).all (fun c => isCode c || c.before args0 about1) = true := by decide +kernel
set_option maxRecDepth 65536 in
theorem w_t3 : (((words1.drop 24).drop 24).take 24).all (fun c => isCode c || c.before args0 about1) = true := by decide +kernel
set_option maxRecDepth 65536 in
theorem w_t4 : ((((words1.drop 24).drop 24).drop 24).take 24).all (fun c => isCode c || c.before args0 about1) = true := by decide +kernel
set_option maxRecDepth 65536 in
theorem w_t5 : ((((words1.drop 24).drop 24).drop 24).drop 24).all (fun c => isCode c || c.before args0 about1) = true := by decide +kernel
theorem w_tables : (allAtoms (Jvm.Cond.code x code maxLocals ret :: tables_1)).before args0 about1 = true := by
  rw [allAtoms_all]
  show words1.all (fun c => c.before args0 about1) = true
  refine all_split ?_ w_codes
  rw [← List.take_append_drop 24 words1, List.all_append, w_t1, ← List.take_append_drop 24 (words1.drop 24), List.all_append, w_t2, ← List.take_append_drop 24 ((words1.drop 24).drop 24), List.all_append, w_t3, ← List.take_append_drop 24 (((words1.drop 24).drop 24).drop 24), List.all_append, w_t4, w_t5]
  rfl
set_option maxRecDepth 65536 in
theorem w_rest : rest_1_c.before args0 about1 = true := by decide +kernel
set_option maxRecDepth 65536 in
theorem w_case : (Jvm.Cond.and given_1 narrow_1).before args0 about1 = true := by decide +kernel
set_option maxRecDepth 65536 in
theorem w_consts : constsHeld consts_1 about1 := Jvm.Lit.constsHeldB_iff.mp (by decide +kernel)
theorem w_applies : (headSpec (Jvm.Cond.code x code maxLocals ret :: tables_1) room_1).applies x e0.platform about1 = true :=
  (Spec.applies_iff w_frames).mpr ⟨w_running, w_runnable, w_alone, w_named, w_hears, w_ripe, w_room, w_tables⟩
theorem atStart : AtStart classFile x code maxLocals ret World_1 tables_1 room_1 Calls_1 rest_1 Pre_1 launch0 p0 e0 about1 theMethod args0 below0 :=
  ⟨lists_1, trivial, launch0.admits_env _ _ _, launch0.least_env, fairChoices_fair.cas, fairChoices_fair.clock, w_frames, w_args, w_heap, w_applies, ⟨w_consts, trivial⟩, w_rest, w_case⟩
end start1
theorem witness_1 : WitnessClaimed_1 := ⟨start1.p0, start1.e0, start1.about1, start1.theMethod, start1.args0, start1.below0, start1.atStart⟩
end Jvm.Pilot.@@N@@

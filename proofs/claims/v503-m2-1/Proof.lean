import JvmDerived
import JvmDerived.Pilot.@@N@@Statement
import JvmDerived.Pilot.@@N@@Code
set_option linter.unusedVariables false
set_option linter.unusedSimpArgs false
namespace Jvm.RoadKit
open Sem ClassFile Op Lib Jvm.Stand Jvm.Free Jvm.LawKit
section New
variable {p : Program} {l : Launch} {e : Env} {R : Room} {s : State} {m : MethodId} {args : Array Value} {below : List Frame} {meth : Method} {c : Code} {T : State} {locs : List Loc} {cells slots : Nat}
theorem retI (X : Stand p l e R s m args below meth c T locs cells slots) (hx : p.tables.exec = Jvm.exec) {pc : Nat} {Ls : Array Slot} {z : Int32} {rest : List Value} (hret : meth.sig.returnType = some .int) (hd : decode c.code pc = .ok (.ireturn, 1)) {fs : List Frame}
    (hl : ∀ (f : JFrame) (acts : List Action), f.method = m → f.locked = none → f.entered = [] → (doReturn e (T.setTop f) acts (some (.int z))).1 = T.setFrames fs) : Steps p.tables e below (T.setTop (mkF m pc Ls (.int z :: rest))) (T.setFrames fs) := by
  have hm' : T.vm.method? m = some meth := X.method'
  have hn : narrow .int (.int z) = .int z := rfl
  show Steps p.tables e below (T.setTop { method := m, pc := pc, locals := Ls, stack := _ :: rest, locked := none }) _
  jvm_step X.here [X.here.top, hx, hd, hm', hret, hn]
  first | (intro acts; rw [hl _ acts rfl rfl rfl]) | rw [hl _ _ rfl rfl rfl]
  exact Steps.refl _
end New
end Jvm.RoadKit
namespace Jvm.Pilot.@@N@@
open Jvm Jvm.ClassFile Sem Op Lib Jvm.Free Jvm.Stand Jvm.LawKit Jvm.RoadKit Bundle Jvm.Pilot.@@N@@.Jvm.D

theorem own_nb {c : Prop} [Decidable c] : nar .boolean (if c then (1 : Int32) else (0 : Int32)) = (if c then (1 : Int32) else (0 : Int32)) := by
  by_cases h : c
  · rw [if_pos h]; rfl
  · rw [if_neg h]; rfl
theorem own_n1 : nar .boolean (1 : Int32) = (1 : Int32) := rfl
theorem own_n0 : nar .boolean (0 : Int32) = (0 : Int32) := rfl

theorem own_pos {x y : Int32} (h : x = y &&& (2147483647 : Int32)) : ¬ x < (0 : Int32) := by
  have := c_mask y 2147483647 31 (by decide) (by decide)
  rw [← h] at this
  rw [Int32.lt_iff_toInt_lt]
  show ¬ x.toInt < 0
  omega
theorem own_rem {x y d : Int32} {D : Int} (h : x = (y &&& (2147483647 : Int32)) % d) (hd : d.toInt = D) (hD : 0 < D) : 0 ≤ x.toInt ∧ x.toInt < D := by
  have h1 := c_mask y 2147483647 31 (by decide) (by decide)
  have h2 := c_iremV (y &&& 2147483647) d
  rw [← h, hd] at h2
  have h3 := h2.1 (by omega) hD
  omega

def own_cache (Z : State) (h : Heap) : Prop := ∃ (wc : Addr) (cl : Cell), Sta Z h "java/lang/Long$LongCache" "cache" "[Ljava/lang/Long;" (.ref wc) ∧ Arr Z h wc cl (.object "java/lang/Long") ∧ cl.slots.size = 256 ∧ ∀ j, j < 256 → ∃ b : Addr, cl.slots[j]? = some (.ref b) ∧ Exa Z h b "java/lang/Long"
theorem own_cache_ext {Z : State} {h h' : Heap} (E : Ext h h') (F : own_cache Z h) : own_cache Z h' := by
  obtain ⟨wc, cl, h1, h2, h3, h4⟩ := F
  exact ⟨wc, cl, h1.ext E, h2.ext E, h3, fun j hj => by obtain ⟨b, q1, q2⟩ := h4 j hj; exact ⟨b, q1, q2.ext E⟩⟩
theorem own_slot {q : Int64} (h1 : ¬ q < (-128 : Int64)) (h2 : ¬ (127 : Int64) < q) : ∃ j : Nat, j < 256 ∧ ((q.toInt32) + (128 : Int32)).toInt = j := by
  rw [Int64.lt_iff_toInt_lt] at h1 h2
  have h1 : ¬ q.toInt < -128 := h1
  have h2 : ¬ 127 < q.toInt := h2
  have e1 : (q.toInt32).toInt = q.toInt := XT.narrowInt ⟨by omega, by omega⟩
  have e2 : ((q.toInt32) + (128 : Int32)).toInt = q.toInt + 128 := by
    rw [XT.add32 (y := 128) ⟨by show -2 ^ 31 ≤ (q.toInt32).toInt + 128; omega, by show (q.toInt32).toInt + 128 < 2 ^ 31; omega⟩]
    show (q.toInt32).toInt + 128 = _; omega
  exact ⟨(q.toInt + 128).toNat, by omega, by omega⟩
theorem own_nat {j : Int32} {n : Nat} (h : j.toInt = n) : ¬ j < (0 : Int32) ∧ j.toNatClampNeg = n := by
  have h0 : ¬ j < (0 : Int32) := by rw [Int32.lt_iff_toInt_lt]; show ¬ j.toInt < 0; omega
  have := nat_of h0
  exact ⟨h0, by omega⟩
theorem own_root {Z : State} {a0 : Array Value} {O N : String} {n : Nat} (w : (Jvm.Cond.noSuperclass O).before a0 Z = true) (wk : (Jvm.Cond.instantiable N n).before a0 Z = true) (hn : O ≠ N) : NS Z O N := by
  obtain ⟨c, k, h1, h2, h3, -, -⟩ := Jvm.Cond.noSuperclass_spec w
  obtain ⟨t, k', g1, -⟩ := Jvm.Cond.instantiable_spec wk
  have ne := ids_ne h1 g1 hn
  refine ⟨c, t, h1, g1, fun fuel => ?_⟩
  cases fuel with
  | zero => rfl
  | succ f => simp [Vm.isSubclassAux, ne, h2, h3]
theorem own_no {Z : State} {a0 : Array Value} {A S N : String} {n : Nat} (w : (Jvm.Cond.superclass A S).before a0 Z = true) (wk : (Jvm.Cond.instantiable N n).before a0 Z = true) (u : NS Z A N) (hn : A ≠ N) : ∃ c t, Z.vm.findClass A = some c ∧ Z.vm.findClass N = some t ∧ Z.vm.assignable c t = false := by
  obtain ⟨c, t, h0, g0, n3⟩ := u
  obtain ⟨p, k, kp, h1, h2, h3, h4, h5, -, h7⟩ := Jvm.Cond.superclass_spec h0 w
  obtain ⟨t', k', g1, g2, g3, g4, -⟩ := Jvm.Cond.instantiable_spec wk
  cases g0.symm.trans g1
  have ne := ids_ne h0 g0 hn
  have g5 : k'.isInterface = false := by
    cases hi : k'.isInterface with
    | false => rfl
    | true => rw [hi] at g4; simp at g4
  refine ⟨c, t, h0, g0, ?_⟩
  show Z.vm.assignableAux (255 + 1) c t = false
  simp [Vm.assignableAux, ne, h2, g2, h5, g3, g5, Vm.isSubclass, n3]

theorem own_len256 {args : Array Value} {s : State} {t : Jvm.Term} {wc : Addr} {cl : Cell} (ev : t.eval args s none [] s = some (.ref wc)) (hA : s.arrayAt? wc = some cl) (h : (Jvm.Cond.eq (Jvm.Term.length t) (Jvm.Term.int (256 : Int32))).value args s none s [] = some true) : cl.slots.size = 256 := by
  by_cases hl : cl.slots.size < 2 ^ 31
  · have e1 := len_f ev hA hl
    have e2 : (Jvm.Term.int (256 : Int32)).eval args s none [] s = some (.int 256) := rfl
    simp only [Jvm.Cond.value, e1, e2] at h
    have h' : cl.slots.size.toInt32 = (256 : Int32) := by simpa using h
    have h3 := len_toInt hl
    rw [h'] at h3
    have : (256 : Int32).toInt = 256 := rfl
    omega
  · exfalso
    simp [Jvm.Cond.value, Jvm.Term.eval, ev, hA, hl] at h
theorem own_elem {args : Array Value} {s : State} {t : Jvm.Term} {wc b : Addr} {cl : Cell} {j : Nat} (ev : ∀ idx, t.eval args s none idx s = some (.ref wc)) (hA : s.arrayAt? wc = some cl) (hj : j < 256) (h : (Jvm.Term.elem t (Jvm.Term.index 0)).eval args s none [j] s = some (.ref b)) : cl.slots[j]? = some (.ref b) := by
  have e1 : (Jvm.Term.index 0).eval args s none [j] s = some (.int j.toInt32) := Jvm.Term.index_eval _
  have h0 : (j.toInt32).toInt = j := len_toInt (by omega)
  have hn : ¬ j.toInt32 < 0 := by rw [Int32.lt_iff_toInt_lt]; show ¬ (j.toInt32).toInt < 0; omega
  have h1 := nat_of hn
  rw [elem_f (ev _) e1 hA hn] at h
  have h2 : (j.toInt32).toNatClampNeg = j := by omega
  rw [h2] at h
  exact h
theorem own_sw {a b : Int64} : (if b = a then (1 : Int32) else (0 : Int32)) = (if a = b then (1 : Int32) else (0 : Int32)) := by
  by_cases h : a = b
  · rw [if_pos h, if_pos h.symm]
  · rw [if_neg h, if_neg (fun z => h z.symm)]
theorem own_cache_start {s : State} {args : Array Value} (hs : ∀ w ∈ jdkStatics_1, w.before args s = true) : own_cache s s.heap := by
  have h2 := Cond.before_iff.mp (hs _ (List.mem_of_getElem? (i := 2) rfl))
  have h4 := Cond.before_iff.mp (hs _ (List.mem_of_getElem? (i := 4) rfl))
  have h5 := Cond.before_iff.mp (hs _ (List.mem_of_getElem? (i := 5) rfl))
  obtain ⟨wc, ev⟩ := arr_v h2
  obtain ⟨cl, Ar⟩ := Arr.start ev h2
  have hA : s.arrayAt? wc = some cl := Arr.fin (Vm.Alike.refl _) Ar
  have hsz : cl.slots.size = 256 := own_len256 ev hA h4
  refine ⟨wc, cl, Sta.start ev (Or.inl (hs _ (List.mem_of_getElem? (i := 1) rfl))), Ar, hsz, fun j hj => ?_⟩
  have q := (and_e (Jvm.Cond.all_elim ev hA h5 j (by omega))).1
  obtain ⟨b, eb⟩ := exa_v q
  have hE := exa_at eb q
  refine ⟨b, ?_, hE⟩
  exact own_elem (fun _ => ev) hA hj eb

theorem pd_0 : parseMethodDescriptor "()V" = some ⟨[], none⟩ := by decide +kernel
theorem pd_1 : parseMethodDescriptor "(J)V" = some ⟨[.long], none⟩ := by decide +kernel
theorem pd_2 : parseMethodDescriptor "(J)Ljava/lang/Long;" = some ⟨[.long], some (.object "java/lang/Long")⟩ := by decide +kernel
theorem pd_3 : parseMethodDescriptor "(Ljava/lang/Object;)Z" = some ⟨[(.object "java/lang/Object")], some .boolean⟩ := by decide +kernel
theorem d1_0 : decode prog_31_method_1_code 0 = .ok (.aload_n 0, 1) := by decide +kernel
theorem d1_1 : decode prog_31_method_1_code 1 = .ok (.invokespecial 1, 3) := by decide +kernel
theorem d1_4 : decode prog_31_method_1_code 4 = .ok (.aload_n 0, 1) := by decide +kernel
theorem d1_5 : decode prog_31_method_1_code 5 = .ok (.lload_n 1, 1) := by decide +kernel
theorem d1_6 : decode prog_31_method_1_code 6 = .ok (.putfield 7, 3) := by decide +kernel
theorem d1_9 : decode prog_31_method_1_code 9 = .ok (.return_, 1) := by decide +kernel
theorem pn_1 : plainName "com/example/watchful_controller/watchfulcontroller/model/MacAddress" = true := by first | (simp [plainName, overriddenIn]; done) | decide +kernel
theorem ef_1 (m : MethodId) (x0 : Addr) (x1 : Int64) : entryFrame m #[(.ref x0), (.long x1)] 3 = mkF m 0 #[.val (.ref x0), .val (.long x1), .second] [] := by first | (simp [entryFrame, mkF, argsToLocals, Value.category]; done) | rfl
def Q1 (Z : State) (a1 : Addr) (q2 : Int64) (u_value : Value) (h0 : Heap) (n0 : Nat) (v : Option Value) (h : Heap) (L : List Loc) : Prop := v = none ∧ Fr n0 L ∧ Keep h0 h [a1] ∧ Exa Z h a1 "com/example/watchful_controller/watchfulcontroller/model/MacAddress" ∧ Fld Z h a1 "com/example/watchful_controller/watchfulcontroller/model/MacAddress" "value" "J" (.long q2)
set_option maxRecDepth 65536 in
set_option maxHeartbeats 40000000 in
theorem rm1 (l : Launch) (Z : State) (a0 : Array Value) (hw : ∀ d ∈ tables_1, d.before a0 Z = true) (ws : List Jvm.Cond) (a1 : Addr) (q2 : Int64) (u_value : Value) (h0 : Heap) (n0 : Nat) (Z0 : n0 ≤ h0.size) (E_a : Exa Z h0 a1 "com/example/watchful_controller/watchfulcontroller/model/MacAddress") (F_value : Fld Z h0 a1 "com/example/watchful_controller/watchfulcontroller/model/MacAddress" "value" "J" u_value) (g_a : n0 ≤ a1) :
    MetFree l (⟨"com/example/watchful_controller/watchfulcontroller/model/MacAddress", "<init>", "(J)V"⟩ : MethodName) (head1 (Jvm.Cond.code (⟨"com/example/watchful_controller/watchfulcontroller/model/MacAddress", "<init>", "(J)V"⟩ : MethodName) prog_31_method_1_code 3 none :: ws) ({ frames := 1, cells := 0, slots := 0, locals := 12 } : Room)) (fun a U => a = #[(.ref a1), (.long q2)] ∧ Z.Warmed39 U.vm ∧ U.heap = h0) (fun _ _ _ _ _ => True) (fun _ U o U' => ∃ v L, o = .returned v ∧ Q1 Z a1 q2 u_value h0 n0 v U'.heap L ∧ FrameEnd U o U' L ({ frames := 1, cells := 0, slots := 0, locals := 12 } : Room).cells ({ frames := 1, cells := 0, slots := 0, locals := 12 } : Room).slots) := by
  refine MetFree.of_bodySF (plainFor_of_name pn_1) hisR ?_
  intro p e s m args below meth c s₁ Bd hml0 hP hK
  obtain ⟨rfl, hZ, hh⟩ := hP
  have hx := Bd.exec
  have hby := Bd.bytes
  have hml : c.maxLocals = 3 := hml0
  have hown : s.vm.findClass "com/example/watchful_controller/watchfulcontroller/model/MacAddress" = some m.cls := findClass_of_methodNamed Bd.named
  have hnm := (name_of_methodNamed Bd.named Bd.method).1
  have X0 : Stand p l e ({ frames := 1, cells := 0, slots := 0, locals := 12 } : Room) s m #[(.ref a1), (.long q2)] below meth c s₁ [] 0 0 := Stand.of_body Bd
  have e0 : s₁.heap = h0 := by rw [← hh, Bd.state]; rfl
  have N0 := Fr.nil n0
  have K0 : Keep h0 h0 [a1] := Keep.refl _ _
  have P0 : ∀ t, Steps p.tables e below (s₁.setTop (mkF m 0 #[.val (.ref a1), .val (.long q2), .second] [])) t → Steps p.tables e below (s₁.setTop (entryFrame m #[(.ref a1), (.long q2)] 3)) t := fun t k => castTop (ef_1 m a1 q2) k
  have P1 : ∀ t, Steps p.tables e below (s₁.setTop (mkF m 1 #[.val (.ref a1), .val (.long q2), .second] [(.ref a1)])) t → Steps p.tables e below (s₁.setTop (entryFrame m #[(.ref a1), (.long q2)] 3)) t := by
    intro t k
    refine P0 _ ?_
    refine XS.aloadN X0.here hx rfl (hb hby d1_0) rfl rfl ?_
    show Steps p.tables e below (s₁.setTop (mkF m 1 #[.val (.ref a1), .val (.long q2), .second] [(.ref a1)])) _
    exact k
  obtain ⟨T2, X2, e2, st2⟩ := initO X0 hx hZ hown (hw _ (List.mem_of_getElem? (i := 6) rfl)) (hw _ (List.mem_of_getElem? (i := 7) rfl)) (hw _ (List.mem_of_getElem? (i := 8) rfl)) e0 (g := (mkF m 1 #[.val (.ref a1), .val (.long q2), .second] [(.ref a1)])) rfl (by rw [hml]; rfl) rfl (hb hby d1_1) (by decide) (W := 0) (by show 2 * 0 + _ ≤ _; exact Nat.le_of_eq rfl) (by decide)
  have P3 : ∀ t, Steps p.tables e below (T2.setTop (mkF m 4 #[.val (.ref a1), .val (.long q2), .second] [])) t → Steps p.tables e below (s₁.setTop (entryFrame m #[(.ref a1), (.long q2)] 3)) t := fun t k => P1 _ (st2 _ k)
  have P4 : ∀ t, Steps p.tables e below (T2.setTop (mkF m 6 #[.val (.ref a1), .val (.long q2), .second] [(.long q2), (.ref a1)])) t → Steps p.tables e below (s₁.setTop (entryFrame m #[(.ref a1), (.long q2)] 3)) t := by
    intro t k
    refine P3 _ ?_
    refine XS.aloadN X2.here hx rfl (hb hby d1_4) rfl rfl ?_
    show Steps p.tables e below (T2.setTop (mkF m 5 #[.val (.ref a1), .val (.long q2), .second] [(.ref a1)])) _
    refine XT.lloadN X2.here hx rfl (hb hby d1_5) rfl ?_
    show Steps p.tables e below (T2.setTop (mkF m 6 #[.val (.ref a1), .val (.long q2), .second] [(.long q2), (.ref a1)])) _
    exact k
  obtain ⟨T5, h5, X5, e5, W5, st5⟩ := putF X2 hx hZ hown (host := "") (Or.inl (hw _ (List.mem_of_getElem? (i := 9) rfl))) Via.refl e2 F_value E_a (Or.inr ⟨(hw _ (List.mem_of_getElem? (i := 10) rfl)), rfl, hnm⟩) (hw _ (List.mem_of_getElem? (i := 1) rfl)) (ty := .long) (by decide) rfl rfl (g := (mkF m 6 #[.val (.ref a1), .val (.long q2), .second] [(.long q2), (.ref a1)])) rfl rfl (hb hby d1_6)
  have F6 : Exa Z h5 a1 "com/example/watchful_controller/watchfulcontroller/model/MacAddress" := E_a.wr W5
  have F7 : Fld Z h5 a1 "com/example/watchful_controller/watchfulcontroller/model/MacAddress" "value" "J" (.long q2) := F_value.same W5
  have Z8 : n0 ≤ h5.size := Nat.le_trans Z0 (Keep.of_wr W5).1
  have K9 : Keep h0 h5 [a1] := K0.wr W5 (Or.inl (List.mem_of_getElem? (i := 0) rfl))
  have N5 := Fr.snoc X5 N0 g_a
  have P10 : ∀ t, Steps p.tables e below (T5.setTop (mkF m 9 #[.val (.ref a1), .val (.long q2), .second] [])) t → Steps p.tables e below (s₁.setTop (entryFrame m #[(.ref a1), (.long q2)] 3)) t := fun t k => P4 _ (st5 _ k)
  obtain ⟨fs, hr, hrun, hended, hW, hsame⟩ := X5.leave (v := none) (fun _ => rfl)
  refine ⟨_, _, P10 _ ?_, hrun, hended, _, _, rfl, ?_, ⟨_, rfl⟩, hW, hsame.mono (by decide) (by decide)⟩
  · exact X5.returnOut hx Bd.returns (hb hby d1_9) hr
  · show Q1 Z a1 q2 u_value h0 n0 _ T5.heap _
    rw [e5]
    exact ⟨rfl, N5, K9, F6, F7⟩
theorem d2_0 : decode jdk_18_method_1_code 0 = .ok (.aload_n 0, 1) := by decide +kernel
theorem d2_1 : decode jdk_18_method_1_code 1 = .ok (.invokespecial 1, 3) := by decide +kernel
theorem d2_4 : decode jdk_18_method_1_code 4 = .ok (.return_, 1) := by decide +kernel
theorem pn_2 : plainName "java/lang/Number" = true := by first | (simp [plainName, overriddenIn]; done) | decide +kernel
theorem ef_2 (m : MethodId) (x0 : Addr) : entryFrame m #[(.ref x0)] 1 = mkF m 0 #[.val (.ref x0)] [] := by first | (simp [entryFrame, mkF, argsToLocals, Value.category]; done) | rfl
def Q2 (Z : State) (a1 : Addr) (h0 : Heap) (n0 : Nat) (v : Option Value) (h : Heap) (L : List Loc) : Prop := v = none ∧ Fr n0 L ∧ h = h0
set_option maxRecDepth 65536 in
set_option maxHeartbeats 40000000 in
theorem rm2 (l : Launch) (Z : State) (a0 : Array Value) (hw : ∀ d ∈ tables_1, d.before a0 Z = true) (ws : List Jvm.Cond) (a1 : Addr) (h0 : Heap) (n0 : Nat) (Z0 : n0 ≤ h0.size) :
    MetFree l (⟨"java/lang/Number", "<init>", "()V"⟩ : MethodName) (head1 (Jvm.Cond.code (⟨"java/lang/Number", "<init>", "()V"⟩ : MethodName) jdk_18_method_1_code 1 none :: ws) ({ frames := 1, cells := 0, slots := 0, locals := 12 } : Room)) (fun a U => a = #[(.ref a1)] ∧ Z.Warmed39 U.vm ∧ U.heap = h0) (fun _ _ _ _ _ => True) (fun _ U o U' => ∃ v L, o = .returned v ∧ Q2 Z a1 h0 n0 v U'.heap L ∧ FrameEnd U o U' L ({ frames := 1, cells := 0, slots := 0, locals := 12 } : Room).cells ({ frames := 1, cells := 0, slots := 0, locals := 12 } : Room).slots) := by
  refine MetFree.of_bodySF (plainFor_of_name pn_2) hisR ?_
  intro p e s m args below meth c s₁ Bd hml0 hP hK
  obtain ⟨rfl, hZ, hh⟩ := hP
  have hx := Bd.exec
  have hby := Bd.bytes
  have hml : c.maxLocals = 1 := hml0
  have hown : s.vm.findClass "java/lang/Number" = some m.cls := findClass_of_methodNamed Bd.named
  have hnm := (name_of_methodNamed Bd.named Bd.method).1
  have X0 : Stand p l e ({ frames := 1, cells := 0, slots := 0, locals := 12 } : Room) s m #[(.ref a1)] below meth c s₁ [] 0 0 := Stand.of_body Bd
  have e0 : s₁.heap = h0 := by rw [← hh, Bd.state]; rfl
  have N0 := Fr.nil n0
  have K0 : Keep h0 h0 [] := Keep.refl _ _
  have P0 : ∀ t, Steps p.tables e below (s₁.setTop (mkF m 0 #[.val (.ref a1)] [])) t → Steps p.tables e below (s₁.setTop (entryFrame m #[(.ref a1)] 1)) t := fun t k => castTop (ef_2 m a1) k
  have P1 : ∀ t, Steps p.tables e below (s₁.setTop (mkF m 1 #[.val (.ref a1)] [(.ref a1)])) t → Steps p.tables e below (s₁.setTop (entryFrame m #[(.ref a1)] 1)) t := by
    intro t k
    refine P0 _ ?_
    refine XS.aloadN X0.here hx rfl (hb hby d2_0) rfl rfl ?_
    show Steps p.tables e below (s₁.setTop (mkF m 1 #[.val (.ref a1)] [(.ref a1)])) _
    exact k
  obtain ⟨T2, X2, e2, st2⟩ := initO X0 hx hZ hown (hw _ (List.mem_of_getElem? (i := 38) rfl)) (hw _ (List.mem_of_getElem? (i := 7) rfl)) (hw _ (List.mem_of_getElem? (i := 8) rfl)) e0 (g := (mkF m 1 #[.val (.ref a1)] [(.ref a1)])) rfl (by rw [hml]; rfl) rfl (hb hby d2_1) (by decide) (W := 0) (by show 2 * 0 + _ ≤ _; exact Nat.le_of_eq rfl) (by decide)
  have P3 : ∀ t, Steps p.tables e below (T2.setTop (mkF m 4 #[.val (.ref a1)] [])) t → Steps p.tables e below (s₁.setTop (entryFrame m #[(.ref a1)] 1)) t := fun t k => P1 _ (st2 _ k)
  obtain ⟨fs, hr, hrun, hended, hW, hsame⟩ := X2.leave (v := none) (fun _ => rfl)
  refine ⟨_, _, P3 _ ?_, hrun, hended, _, _, rfl, ?_, ⟨_, rfl⟩, hW, hsame.mono (by decide) (by decide)⟩
  · exact X2.returnOut hx Bd.returns (hb hby d2_4) hr
  · show Q2 Z a1 h0 n0 _ T2.heap _
    rw [e2]
    exact ⟨rfl, N0, rfl⟩
theorem d3_0 : decode jdk_35_method_26_code 0 = .ok (.aload_n 0, 1) := by decide +kernel
theorem d3_1 : decode jdk_35_method_26_code 1 = .ok (.invokespecial 270, 3) := by decide +kernel
theorem d3_4 : decode jdk_35_method_26_code 4 = .ok (.aload_n 0, 1) := by decide +kernel
theorem d3_5 : decode jdk_35_method_26_code 5 = .ok (.lload_n 1, 1) := by decide +kernel
theorem d3_6 : decode jdk_35_method_26_code 6 = .ok (.putfield 273, 3) := by decide +kernel
theorem d3_9 : decode jdk_35_method_26_code 9 = .ok (.return_, 1) := by decide +kernel
theorem pn_3 : plainName "java/lang/Long" = true := by first | (simp [plainName, overriddenIn]; done) | decide +kernel
theorem ef_3 (m : MethodId) (x0 : Addr) (x1 : Int64) : entryFrame m #[(.ref x0), (.long x1)] 3 = mkF m 0 #[.val (.ref x0), .val (.long x1), .second] [] := by first | (simp [entryFrame, mkF, argsToLocals, Value.category]; done) | rfl
def Q3 (Z : State) (a1 : Addr) (q2 : Int64) (u_value : Value) (h0 : Heap) (n0 : Nat) (v : Option Value) (h : Heap) (L : List Loc) : Prop := v = none ∧ Fr n0 L ∧ Keep h0 h [a1] ∧ Exa Z h a1 "java/lang/Long" ∧ Fld Z h a1 "java/lang/Long" "value" "J" (.long q2)
set_option maxRecDepth 65536 in
set_option maxHeartbeats 40000000 in
theorem rm3 (l : Launch) (Z : State) (a0 : Array Value) (hw : ∀ d ∈ tables_1, d.before a0 Z = true) (ws : List Jvm.Cond) (a1 : Addr) (q2 : Int64) (u_value : Value) (h0 : Heap) (n0 : Nat) (Z0 : n0 ≤ h0.size) (E_a : Exa Z h0 a1 "java/lang/Long") (F_value : Fld Z h0 a1 "java/lang/Long" "value" "J" u_value) (g_a : n0 ≤ a1) :
    MetFree l (⟨"java/lang/Long", "<init>", "(J)V"⟩ : MethodName) (head1 (Jvm.Cond.code (⟨"java/lang/Long", "<init>", "(J)V"⟩ : MethodName) jdk_35_method_26_code 3 none :: ws) ({ frames := 2, cells := 0, slots := 0, locals := 24 } : Room)) (fun a U => a = #[(.ref a1), (.long q2)] ∧ Z.Warmed39 U.vm ∧ U.heap = h0) (fun _ _ _ _ _ => True) (fun _ U o U' => ∃ v L, o = .returned v ∧ Q3 Z a1 q2 u_value h0 n0 v U'.heap L ∧ FrameEnd U o U' L ({ frames := 2, cells := 0, slots := 0, locals := 24 } : Room).cells ({ frames := 2, cells := 0, slots := 0, locals := 24 } : Room).slots) := by
  refine MetFree.of_bodySF (plainFor_of_name pn_3) hisR ?_
  intro p e s m args below meth c s₁ Bd hml0 hP hK
  obtain ⟨rfl, hZ, hh⟩ := hP
  have hx := Bd.exec
  have hby := Bd.bytes
  have hml : c.maxLocals = 3 := hml0
  have hown : s.vm.findClass "java/lang/Long" = some m.cls := findClass_of_methodNamed Bd.named
  have hnm := (name_of_methodNamed Bd.named Bd.method).1
  have X0 : Stand p l e ({ frames := 2, cells := 0, slots := 0, locals := 24 } : Room) s m #[(.ref a1), (.long q2)] below meth c s₁ [] 0 0 := Stand.of_body Bd
  have e0 : s₁.heap = h0 := by rw [← hh, Bd.state]; rfl
  have N0 := Fr.nil n0
  have K0 : Keep h0 h0 [a1] := Keep.refl _ _
  have P0 : ∀ t, Steps p.tables e below (s₁.setTop (mkF m 0 #[.val (.ref a1), .val (.long q2), .second] [])) t → Steps p.tables e below (s₁.setTop (entryFrame m #[(.ref a1), (.long q2)] 3)) t := fun t k => castTop (ef_3 m a1 q2) k
  have P1 : ∀ t, Steps p.tables e below (s₁.setTop (mkF m 1 #[.val (.ref a1), .val (.long q2), .second] [(.ref a1)])) t → Steps p.tables e below (s₁.setTop (entryFrame m #[(.ref a1), (.long q2)] 3)) t := by
    intro t k
    refine P0 _ ?_
    refine XS.aloadN X0.here hx rfl (hb hby d3_0) rfl rfl ?_
    show Steps p.tables e below (s₁.setTop (mkF m 1 #[.val (.ref a1), .val (.long q2), .second] [(.ref a1)])) _
    exact k
  obtain ⟨_, _, ⟨T2, L2, k2, n2⟩, -, X2, ⟨Lc2, hQ2, l2, y2, z2⟩, st2⟩ := X0.specialBack hx (y := (⟨"java/lang/Number", "<init>", "()V"⟩ : MethodName)) rfl hown (mvT hZ (hw _ (List.mem_of_getElem? (i := 32) rfl))) (mvT hZ (hw _ (List.mem_of_getElem? (i := 33) rfl))) (mvT hZ (hw _ (List.mem_of_getElem? (i := 37) rfl))) (by decide) (backOf (W := 0) (rm2 l Z a0 hw [] a1  h0 n0 Z0 ) hZ (hw _ (List.mem_of_getElem? (i := 37) rfl)) (hw _ (List.mem_of_getElem? (i := 36) rfl)) (by decide) (by decide)) (g := (mkF m 1 #[.val (.ref a1), .val (.long q2), .second] [(.ref a1)])) rfl (by rw [hml]; rfl) (Steps.refl _) (a := a1) (argsL := []) (rest := []) (lenOf pd_0 rfl) rfl (by show 2 * 0 + _ ≤ _; exact Nat.le_of_eq rfl) (hb hby d3_1) (fun _ _ => ⟨rfl, e0, (by decide : 0 + 0 ≤ _), (by decide : 0 + 0 ≤ _)⟩)
  dsimp only [Pt.U, Pt.locs, Pt.cells, Pt.slots] at X2 l2 y2 z2 st2 hQ2
  subst l2 y2 z2
  obtain ⟨rfl, N2q, e2⟩ := hQ2
  have N2 := Fr.app N0 N2q
  have P3 : ∀ t, Steps p.tables e below (T2.setTop (mkF m 4 #[.val (.ref a1), .val (.long q2), .second] [])) t → Steps p.tables e below (s₁.setTop (entryFrame m #[(.ref a1), (.long q2)] 3)) t := fun t k => P1 _ (st2.trans k)
  have P4 : ∀ t, Steps p.tables e below (T2.setTop (mkF m 6 #[.val (.ref a1), .val (.long q2), .second] [(.long q2), (.ref a1)])) t → Steps p.tables e below (s₁.setTop (entryFrame m #[(.ref a1), (.long q2)] 3)) t := by
    intro t k
    refine P3 _ ?_
    refine XS.aloadN X2.here hx rfl (hb hby d3_4) rfl rfl ?_
    show Steps p.tables e below (T2.setTop (mkF m 5 #[.val (.ref a1), .val (.long q2), .second] [(.ref a1)])) _
    refine XT.lloadN X2.here hx rfl (hb hby d3_5) rfl ?_
    show Steps p.tables e below (T2.setTop (mkF m 6 #[.val (.ref a1), .val (.long q2), .second] [(.long q2), (.ref a1)])) _
    exact k
  obtain ⟨T5, h5, X5, e5, W5, st5⟩ := putF X2 hx hZ hown (host := "") (Or.inl (hw _ (List.mem_of_getElem? (i := 39) rfl))) Via.refl e2 F_value E_a (Or.inr ⟨(hw _ (List.mem_of_getElem? (i := 40) rfl)), rfl, hnm⟩) (hw _ (List.mem_of_getElem? (i := 27) rfl)) (ty := .long) (by decide) rfl rfl (g := (mkF m 6 #[.val (.ref a1), .val (.long q2), .second] [(.long q2), (.ref a1)])) rfl rfl (hb hby d3_6)
  have F6 : Exa Z h5 a1 "java/lang/Long" := E_a.wr W5
  have F7 : Fld Z h5 a1 "java/lang/Long" "value" "J" (.long q2) := F_value.same W5
  have Z8 : n0 ≤ h5.size := Nat.le_trans Z0 (Keep.of_wr W5).1
  have K9 : Keep h0 h5 [a1] := K0.wr W5 (Or.inl (List.mem_of_getElem? (i := 0) rfl))
  have N5 := Fr.snoc X5 N2 g_a
  have P10 : ∀ t, Steps p.tables e below (T5.setTop (mkF m 9 #[.val (.ref a1), .val (.long q2), .second] [])) t → Steps p.tables e below (s₁.setTop (entryFrame m #[(.ref a1), (.long q2)] 3)) t := fun t k => P4 _ (st5 _ k)
  obtain ⟨fs, hr, hrun, hended, hW, hsame⟩ := X5.leave (v := none) (fun _ => rfl)
  refine ⟨_, _, P10 _ ?_, hrun, hended, _, _, rfl, ?_, ⟨_, rfl⟩, hW, hsame.mono (by decide) (by decide)⟩
  · exact X5.returnOut hx Bd.returns (hb hby d3_9) hr
  · show Q3 Z a1 q2 u_value h0 n0 _ T5.heap _
    rw [e5]
    exact ⟨rfl, N5, K9, F6, F7⟩
theorem d4_0 : decode jdk_35_method_24_code 0 = .ok (.sipush 128, 3) := by decide +kernel
theorem d4_3 : decode jdk_35_method_24_code 3 = .ok (.istore_n 2, 1) := by decide +kernel
theorem d4_4 : decode jdk_35_method_24_code 4 = .ok (.lload_n 0, 1) := by decide +kernel
theorem d4_5 : decode jdk_35_method_24_code 5 = .ok (.ldc2_w 230, 3) := by decide +kernel
theorem d4_8 : decode jdk_35_method_24_code 8 = .ok (.lcmp, 1) := by decide +kernel
theorem d4_9 : decode jdk_35_method_24_code 9 = .ok (.ifCond .lt 22, 3) := by decide +kernel
theorem d4_12 : decode jdk_35_method_24_code 12 = .ok (.lload_n 0, 1) := by decide +kernel
theorem d4_13 : decode jdk_35_method_24_code 13 = .ok (.ldc2_w 232, 3) := by decide +kernel
theorem d4_16 : decode jdk_35_method_24_code 16 = .ok (.lcmp, 1) := by decide +kernel
theorem d4_17 : decode jdk_35_method_24_code 17 = .ok (.ifCond .gt 14, 3) := by decide +kernel
theorem d4_20 : decode jdk_35_method_24_code 20 = .ok (.getstatic 234, 3) := by decide +kernel
theorem d4_23 : decode jdk_35_method_24_code 23 = .ok (.lload_n 0, 1) := by decide +kernel
theorem d4_24 : decode jdk_35_method_24_code 24 = .ok (.l2i, 1) := by decide +kernel
theorem d4_25 : decode jdk_35_method_24_code 25 = .ok (.sipush 128, 3) := by decide +kernel
theorem d4_28 : decode jdk_35_method_24_code 28 = .ok (.iadd, 1) := by decide +kernel
theorem d4_29 : decode jdk_35_method_24_code 29 = .ok (.aaload, 1) := by decide +kernel
theorem d4_30 : decode jdk_35_method_24_code 30 = .ok (.areturn, 1) := by decide +kernel
theorem d4_31 : decode jdk_35_method_24_code 31 = .ok (.new 1, 3) := by decide +kernel
theorem d4_34 : decode jdk_35_method_24_code 34 = .ok (.dup, 1) := by decide +kernel
theorem d4_35 : decode jdk_35_method_24_code 35 = .ok (.lload_n 0, 1) := by decide +kernel
theorem d4_36 : decode jdk_35_method_24_code 36 = .ok (.invokespecial 240, 3) := by decide +kernel
theorem d4_39 : decode jdk_35_method_24_code 39 = .ok (.areturn, 1) := by decide +kernel
theorem pn_4 : plainName "java/lang/Long" = true := by first | (simp [plainName, overriddenIn]; done) | decide +kernel
theorem ef_4 (m : MethodId) (x0 : Int64) : entryFrame m #[(.long x0)] 3 = mkF m 0 #[.val (.long x0), .second, .unset] [] := by first | (simp [entryFrame, mkF, argsToLocals, Value.category]; done) | rfl
def Q4 (Z : State) (q1 : Int64) (h0 : Heap) (n0 : Nat) (v : Option Value) (h : Heap) (L : List Loc) : Prop := ∃ b : Addr, v = some (.ref b) ∧ Fr n0 L ∧ Keep h0 h [] ∧ Exa Z h b "java/lang/Long"
set_option maxRecDepth 65536 in
set_option maxHeartbeats 40000000 in
theorem rm4 (l : Launch) (Z : State) (a0 : Array Value) (hw : ∀ d ∈ tables_1, d.before a0 Z = true) (ws : List Jvm.Cond) (q1 : Int64) (h0 : Heap) (n0 : Nat) (Z0 : n0 ≤ h0.size) (hC : own_cache Z h0) :
    MetFree l (⟨"java/lang/Long", "valueOf", "(J)Ljava/lang/Long;"⟩ : MethodName) (head1 (Jvm.Cond.code (⟨"java/lang/Long", "valueOf", "(J)Ljava/lang/Long;"⟩ : MethodName) jdk_35_method_24_code 3 (some (.object "java/lang/Long")) :: ws) ({ frames := 3, cells := 1, slots := 1, locals := 39 } : Room)) (fun a U => a = #[(.long q1)] ∧ Z.Warmed39 U.vm ∧ U.heap = h0) (fun _ _ _ _ _ => True) (fun _ U o U' => ∃ v L, o = .returned v ∧ Q4 Z q1 h0 n0 v U'.heap L ∧ FrameEnd U o U' L ({ frames := 3, cells := 1, slots := 1, locals := 39 } : Room).cells ({ frames := 3, cells := 1, slots := 1, locals := 39 } : Room).slots) := by
  refine MetFree.of_bodySF (plainFor_of_name pn_4) hisR ?_
  intro p e s m args below meth c s₁ Bd hml0 hP hK
  obtain ⟨rfl, hZ, hh⟩ := hP
  have hx := Bd.exec
  have hby := Bd.bytes
  have hml : c.maxLocals = 3 := hml0
  have hown : s.vm.findClass "java/lang/Long" = some m.cls := findClass_of_methodNamed Bd.named
  have hnm := (name_of_methodNamed Bd.named Bd.method).1
  have X0 : Stand p l e ({ frames := 3, cells := 1, slots := 1, locals := 39 } : Room) s m #[(.long q1)] below meth c s₁ [] 0 0 := Stand.of_body Bd
  have e0 : s₁.heap = h0 := by rw [← hh, Bd.state]; rfl
  have N0 := Fr.nil n0
  have K0 : Keep h0 h0 [] := Keep.refl _ _
  have P0 : ∀ t, Steps p.tables e below (s₁.setTop (mkF m 0 #[.val (.long q1), .second, .unset] [])) t → Steps p.tables e below (s₁.setTop (entryFrame m #[(.long q1)] 3)) t := fun t k => castTop (ef_4 m q1) k
  obtain ⟨wc, clc, S_c, Ar_c, sz_c, el_c⟩ := hC
  have P1 : ∀ t, Steps p.tables e below (s₁.setTop (mkF m 9 #[.val (.long q1), .second, .val (.int (128 : Int32))] [(.int (XT.cmpL q1 (-128 : Int64)))])) t → Steps p.tables e below (s₁.setTop (entryFrame m #[(.long q1)] 3)) t := by
    intro t k
    refine P0 _ ?_
    refine XS.sipush X0.here hx rfl (hb hby d4_0) ?_
    show Steps p.tables e below (s₁.setTop (mkF m 3 #[.val (.long q1), .second, .unset] [(.int (128 : Int32))])) _
    refine XS.istoreN X0.here hx rfl (hb hby d4_3) rfl (l' := #[.val (.long q1), .second, .val (.int (128 : Int32))]) rfl ?_
    show Steps p.tables e below (s₁.setTop (mkF m 4 #[.val (.long q1), .second, .val (.int (128 : Int32))] [])) _
    refine XT.lloadN X0.here hx rfl (hb hby d4_4) rfl ?_
    show Steps p.tables e below (s₁.setTop (mkF m 5 #[.val (.long q1), .second, .val (.int (128 : Int32))] [(.long q1)])) _
    refine Jvm.Stand.ldc2J X0 hx hown (mvT hZ (hw _ (List.mem_of_getElem? (i := 15) rfl))) rfl (hb hby d4_5) ?_
    show Steps p.tables e below (s₁.setTop (mkF m 8 #[.val (.long q1), .second, .val (.int (128 : Int32))] [(.long (-128 : Int64)), (.long q1)])) _
    refine XT.lcmp X0.here hx rfl (hb hby d4_8) rfl ?_
    show Steps p.tables e below (s₁.setTop (mkF m 9 #[.val (.long q1), .second, .val (.int (128 : Int32))] [(.int (XT.cmpL q1 (-128 : Int64)))])) _
    exact k
  by_cases c9 : q1 < (-128 : Int64)
  · have P2 : ∀ t, Steps p.tables e below (s₁.setTop (mkF m 31 #[.val (.long q1), .second, .val (.int (128 : Int32))] [])) t → Steps p.tables e below (s₁.setTop (entryFrame m #[(.long q1)] 3)) t := by
      intro t k
      refine P1 _ ?_
      refine XS.ifYes X0.here hx rfl (pc0 := 9) (pc' := 31) rfl (hb hby d4_9) rfl (XT.ll_lt_t c9) (by decide) (by decide) ?_
      show Steps p.tables e below (s₁.setTop (mkF m 31 #[.val (.long q1), .second, .val (.int (128 : Int32))] [])) _
      exact k
    obtain ⟨T3, h3, X3, e3, E3, A3, D3, -, st3⟩ := newO X0 hx hZ hown (hw _ (List.mem_of_getElem? (i := 26) rfl)) (hw _ (List.mem_of_getElem? (i := 27) rfl)) (hw _ (List.mem_of_getElem? (i := 13) rfl)) e0 (g := (mkF m 31 #[.val (.long q1), .second, .val (.int (128 : Int32))] [])) rfl (hb hby d4_31) (by decide) (by decide)
    obtain ⟨b3, g3⟩ : ∃ z, z = h0.size := ⟨_, rfl⟩
    rw [← g3] at A3 D3 st3
    have F4 : Fld Z h3 b3 "java/lang/Long" "value" "J" (.long (0 : Int64)) := D3 (Or.inr (hw _ (List.mem_of_getElem? (i := 40) rfl))) (ty := .long) (by decide)
    have Z5 : n0 ≤ h3.size := Nat.le_trans Z0 E3.1
    have K6 : Keep h0 h3 [] := K0.ext E3
    have g_b3 : n0 ≤ b3 := Nat.le_trans Z0 (Nat.le_of_eq g3.symm)
    have sz_b3 : h0.size ≤ b3 := Nat.le_trans K0.1 (Nat.le_of_eq g3.symm)
    have P7 : ∀ t, Steps p.tables e below (T3.setTop (mkF m 34 #[.val (.long q1), .second, .val (.int (128 : Int32))] [(.ref b3)])) t → Steps p.tables e below (s₁.setTop (entryFrame m #[(.long q1)] 3)) t := fun t k => P2 _ (st3 _ k)
    have P8 : ∀ t, Steps p.tables e below (T3.setTop (mkF m 36 #[.val (.long q1), .second, .val (.int (128 : Int32))] [(.long q1), (.ref b3), (.ref b3)])) t → Steps p.tables e below (s₁.setTop (entryFrame m #[(.long q1)] 3)) t := by
      intro t k
      refine P7 _ ?_
      refine XS.dup X3.here hx rfl (hb hby d4_34) rfl rfl ?_
      show Steps p.tables e below (T3.setTop (mkF m 35 #[.val (.long q1), .second, .val (.int (128 : Int32))] [(.ref b3), (.ref b3)])) _
      refine XT.lloadN X3.here hx rfl (hb hby d4_35) rfl ?_
      show Steps p.tables e below (T3.setTop (mkF m 36 #[.val (.long q1), .second, .val (.int (128 : Int32))] [(.long q1), (.ref b3), (.ref b3)])) _
      exact k
    obtain ⟨_, _, ⟨T9, L9, k9, n9⟩, -, X9, ⟨Lc9, hQ9, l9, y9, z9⟩, st9⟩ := X3.specialBack hx (y := (⟨"java/lang/Long", "<init>", "(J)V"⟩ : MethodName)) rfl hown (mvT hZ (hw _ (List.mem_of_getElem? (i := 28) rfl))) (mvT hZ (hw _ (List.mem_of_getElem? (i := 29) rfl))) (mvT hZ (hw _ (List.mem_of_getElem? (i := 31) rfl))) (by decide) (backOf (W := 1) (rm3 l Z a0 hw [] b3 q1 (.long (0 : Int64)) h3 n0 Z5 A3 F4 g_b3) hZ (hw _ (List.mem_of_getElem? (i := 31) rfl)) (hw _ (List.mem_of_getElem? (i := 13) rfl)) (by decide) (by decide)) (g := (mkF m 36 #[.val (.long q1), .second, .val (.int (128 : Int32))] [(.long q1), (.ref b3), (.ref b3)])) rfl (by rw [hml]; rfl) (Steps.refl _) (a := b3) (argsL := [(.long q1)]) (rest := [(.ref b3)]) (lenOf pd_1 rfl) rfl (by show 2 * 0 + _ ≤ _; exact Nat.le_of_eq rfl) (hb hby d4_36) (fun _ _ => ⟨rfl, e3, (by decide : 1 + 0 ≤ _), (by decide : 1 + 0 ≤ _)⟩)
    dsimp only [Pt.U, Pt.locs, Pt.cells, Pt.slots] at X9 l9 y9 z9 st9 hQ9
    subst l9 y9 z9
    obtain ⟨rfl, N9q, K9, E9, Q9_value⟩ := hQ9
    have F10 : Exa Z T9.heap b3 "java/lang/Long" := A3.keep K9
    have Z11 : n0 ≤ T9.heap.size := Nat.le_trans Z5 K9.1
    have K12 : Keep h0 T9.heap [] := K6.trans K9 (allS (Or.inr sz_b3) all0)
    have N9 := Fr.app N0 N9q
    have P13 : ∀ t, Steps p.tables e below (T9.setTop (mkF m 39 #[.val (.long q1), .second, .val (.int (128 : Int32))] [(.ref b3)])) t → Steps p.tables e below (s₁.setTop (entryFrame m #[(.long q1)] 3)) t := fun t k => P8 _ (st9.trans k)
    obtain ⟨fs, hr, hrun, hended, hW, hsame⟩ := X9.leave (v := some (.ref b3)) (fun h => by rw [Bd.returns] at h; cases h)
    refine ⟨_, _, P13 _ ?_, hrun, hended, _, _, rfl, ?_, ⟨_, rfl⟩, hW, hsame.mono (by decide) (by decide)⟩
    · jvm_step X9.here [X9.here.top, hx, (hb hby d4_39), X9.method', Bd.returns, Value.isRef, FieldType.isReference]
      first | (intro acts; rw [hr _ acts rfl rfl rfl]) | rw [hr _ _ rfl rfl rfl]
      exact Steps.refl _
    · show Q4 Z q1 h0 n0 _ T9.heap _
      exact ⟨b3, rfl, N9, K12, E9⟩
  · have P14 : ∀ t, Steps p.tables e below (s₁.setTop (mkF m 17 #[.val (.long q1), .second, .val (.int (128 : Int32))] [(.int (XT.cmpL q1 (127 : Int64)))])) t → Steps p.tables e below (s₁.setTop (entryFrame m #[(.long q1)] 3)) t := by
      intro t k
      refine P1 _ ?_
      refine XS.ifNo X0.here hx rfl (hb hby d4_9) rfl (XT.ll_lt_f c9) ?_
      show Steps p.tables e below (s₁.setTop (mkF m 12 #[.val (.long q1), .second, .val (.int (128 : Int32))] [])) _
      refine XT.lloadN X0.here hx rfl (hb hby d4_12) rfl ?_
      show Steps p.tables e below (s₁.setTop (mkF m 13 #[.val (.long q1), .second, .val (.int (128 : Int32))] [(.long q1)])) _
      refine Jvm.Stand.ldc2J X0 hx hown (mvT hZ (hw _ (List.mem_of_getElem? (i := 16) rfl))) rfl (hb hby d4_13) ?_
      show Steps p.tables e below (s₁.setTop (mkF m 16 #[.val (.long q1), .second, .val (.int (128 : Int32))] [(.long (127 : Int64)), (.long q1)])) _
      refine XT.lcmp X0.here hx rfl (hb hby d4_16) rfl ?_
      show Steps p.tables e below (s₁.setTop (mkF m 17 #[.val (.long q1), .second, .val (.int (128 : Int32))] [(.int (XT.cmpL q1 (127 : Int64)))])) _
      exact k
    by_cases c17 : (127 : Int64) < q1
    · have P15 : ∀ t, Steps p.tables e below (s₁.setTop (mkF m 31 #[.val (.long q1), .second, .val (.int (128 : Int32))] [])) t → Steps p.tables e below (s₁.setTop (entryFrame m #[(.long q1)] 3)) t := by
        intro t k
        refine P14 _ ?_
        refine XS.ifYes X0.here hx rfl (pc0 := 17) (pc' := 31) rfl (hb hby d4_17) rfl (XT.ll_gt_t c17) (by decide) (by decide) ?_
        show Steps p.tables e below (s₁.setTop (mkF m 31 #[.val (.long q1), .second, .val (.int (128 : Int32))] [])) _
        exact k
      obtain ⟨T16, h16, X16, e16, E16, A16, D16, -, st16⟩ := newO X0 hx hZ hown (hw _ (List.mem_of_getElem? (i := 26) rfl)) (hw _ (List.mem_of_getElem? (i := 27) rfl)) (hw _ (List.mem_of_getElem? (i := 13) rfl)) e0 (g := (mkF m 31 #[.val (.long q1), .second, .val (.int (128 : Int32))] [])) rfl (hb hby d4_31) (by decide) (by decide)
      obtain ⟨b16, g16⟩ : ∃ z, z = h0.size := ⟨_, rfl⟩
      rw [← g16] at A16 D16 st16
      have F17 : Fld Z h16 b16 "java/lang/Long" "value" "J" (.long (0 : Int64)) := D16 (Or.inr (hw _ (List.mem_of_getElem? (i := 40) rfl))) (ty := .long) (by decide)
      have Z18 : n0 ≤ h16.size := Nat.le_trans Z0 E16.1
      have K19 : Keep h0 h16 [] := K0.ext E16
      have g_b16 : n0 ≤ b16 := Nat.le_trans Z0 (Nat.le_of_eq g16.symm)
      have sz_b16 : h0.size ≤ b16 := Nat.le_trans K0.1 (Nat.le_of_eq g16.symm)
      have P20 : ∀ t, Steps p.tables e below (T16.setTop (mkF m 34 #[.val (.long q1), .second, .val (.int (128 : Int32))] [(.ref b16)])) t → Steps p.tables e below (s₁.setTop (entryFrame m #[(.long q1)] 3)) t := fun t k => P15 _ (st16 _ k)
      have P21 : ∀ t, Steps p.tables e below (T16.setTop (mkF m 36 #[.val (.long q1), .second, .val (.int (128 : Int32))] [(.long q1), (.ref b16), (.ref b16)])) t → Steps p.tables e below (s₁.setTop (entryFrame m #[(.long q1)] 3)) t := by
        intro t k
        refine P20 _ ?_
        refine XS.dup X16.here hx rfl (hb hby d4_34) rfl rfl ?_
        show Steps p.tables e below (T16.setTop (mkF m 35 #[.val (.long q1), .second, .val (.int (128 : Int32))] [(.ref b16), (.ref b16)])) _
        refine XT.lloadN X16.here hx rfl (hb hby d4_35) rfl ?_
        show Steps p.tables e below (T16.setTop (mkF m 36 #[.val (.long q1), .second, .val (.int (128 : Int32))] [(.long q1), (.ref b16), (.ref b16)])) _
        exact k
      obtain ⟨_, _, ⟨T22, L22, k22, n22⟩, -, X22, ⟨Lc22, hQ22, l22, y22, z22⟩, st22⟩ := X16.specialBack hx (y := (⟨"java/lang/Long", "<init>", "(J)V"⟩ : MethodName)) rfl hown (mvT hZ (hw _ (List.mem_of_getElem? (i := 28) rfl))) (mvT hZ (hw _ (List.mem_of_getElem? (i := 29) rfl))) (mvT hZ (hw _ (List.mem_of_getElem? (i := 31) rfl))) (by decide) (backOf (W := 1) (rm3 l Z a0 hw [] b16 q1 (.long (0 : Int64)) h16 n0 Z18 A16 F17 g_b16) hZ (hw _ (List.mem_of_getElem? (i := 31) rfl)) (hw _ (List.mem_of_getElem? (i := 13) rfl)) (by decide) (by decide)) (g := (mkF m 36 #[.val (.long q1), .second, .val (.int (128 : Int32))] [(.long q1), (.ref b16), (.ref b16)])) rfl (by rw [hml]; rfl) (Steps.refl _) (a := b16) (argsL := [(.long q1)]) (rest := [(.ref b16)]) (lenOf pd_1 rfl) rfl (by show 2 * 0 + _ ≤ _; exact Nat.le_of_eq rfl) (hb hby d4_36) (fun _ _ => ⟨rfl, e16, (by decide : 1 + 0 ≤ _), (by decide : 1 + 0 ≤ _)⟩)
      dsimp only [Pt.U, Pt.locs, Pt.cells, Pt.slots] at X22 l22 y22 z22 st22 hQ22
      subst l22 y22 z22
      obtain ⟨rfl, N22q, K22, E22, Q22_value⟩ := hQ22
      have F23 : Exa Z T22.heap b16 "java/lang/Long" := A16.keep K22
      have Z24 : n0 ≤ T22.heap.size := Nat.le_trans Z18 K22.1
      have K25 : Keep h0 T22.heap [] := K19.trans K22 (allS (Or.inr sz_b16) all0)
      have N22 := Fr.app N0 N22q
      have P26 : ∀ t, Steps p.tables e below (T22.setTop (mkF m 39 #[.val (.long q1), .second, .val (.int (128 : Int32))] [(.ref b16)])) t → Steps p.tables e below (s₁.setTop (entryFrame m #[(.long q1)] 3)) t := fun t k => P21 _ (st22.trans k)
      obtain ⟨fs, hr, hrun, hended, hW, hsame⟩ := X22.leave (v := some (.ref b16)) (fun h => by rw [Bd.returns] at h; cases h)
      refine ⟨_, _, P26 _ ?_, hrun, hended, _, _, rfl, ?_, ⟨_, rfl⟩, hW, hsame.mono (by decide) (by decide)⟩
      · jvm_step X22.here [X22.here.top, hx, (hb hby d4_39), X22.method', Bd.returns, Value.isRef, FieldType.isReference]
        first | (intro acts; rw [hr _ acts rfl rfl rfl]) | rw [hr _ _ rfl rfl rfl]
        exact Steps.refl _
      · show Q4 Z q1 h0 n0 _ T22.heap _
        exact ⟨b16, rfl, N22, K25, E22⟩
    · have P27 : ∀ t, Steps p.tables e below (s₁.setTop (mkF m 20 #[.val (.long q1), .second, .val (.int (128 : Int32))] [])) t → Steps p.tables e below (s₁.setTop (entryFrame m #[(.long q1)] 3)) t := by
        intro t k
        refine P14 _ ?_
        refine XS.ifNo X0.here hx rfl (hb hby d4_17) rfl (XT.ll_gt_f c17) ?_
        show Steps p.tables e below (s₁.setTop (mkF m 20 #[.val (.long q1), .second, .val (.int (128 : Int32))] [])) _
        exact k
      obtain ⟨T28, X28, e28, st28⟩ := getS2 X0 hx hZ hown (host := "") (Or.inl (hw _ (List.mem_of_getElem? (i := 17) rfl))) Via.refl e0 S_c (g := (mkF m 20 #[.val (.long q1), .second, .val (.int (128 : Int32))] [])) rfl (hb hby d4_20)
      have P29 : ∀ t, Steps p.tables e below (T28.setTop (mkF m 23 #[.val (.long q1), .second, .val (.int (128 : Int32))] [(.ref wc)])) t → Steps p.tables e below (s₁.setTop (entryFrame m #[(.long q1)] 3)) t := fun t k => P27 _ (st28 _ k)
      have P30 : ∀ t, Steps p.tables e below (T28.setTop (mkF m 29 #[.val (.long q1), .second, .val (.int (128 : Int32))] [(.int ((q1.toInt32) + (128 : Int32))), (.ref wc)])) t → Steps p.tables e below (s₁.setTop (entryFrame m #[(.long q1)] 3)) t := by
        intro t k
        refine P29 _ ?_
        refine XT.lloadN X28.here hx rfl (hb hby d4_23) rfl ?_
        show Steps p.tables e below (T28.setTop (mkF m 24 #[.val (.long q1), .second, .val (.int (128 : Int32))] [(.long q1), (.ref wc)])) _
        refine XT.l2i X28.here hx rfl (hb hby d4_24) rfl ?_
        show Steps p.tables e below (T28.setTop (mkF m 25 #[.val (.long q1), .second, .val (.int (128 : Int32))] [(.int (q1.toInt32)), (.ref wc)])) _
        refine XS.sipush X28.here hx rfl (hb hby d4_25) ?_
        show Steps p.tables e below (T28.setTop (mkF m 28 #[.val (.long q1), .second, .val (.int (128 : Int32))] [(.int (128 : Int32)), (.int (q1.toInt32)), (.ref wc)])) _
        refine XS.iadd X28.here hx rfl (hb hby d4_28) rfl ?_
        show Steps p.tables e below (T28.setTop (mkF m 29 #[.val (.long q1), .second, .val (.int (128 : Int32))] [(.int ((q1.toInt32) + (128 : Int32))), (.ref wc)])) _
        exact k
      obtain ⟨jn, hjn, ej⟩ := own_slot c9 c17
      obtain ⟨bL, at_c, E_bL⟩ := el_c jn hjn
      obtain ⟨ej0, ejn⟩ := own_nat ej
      have hin : ¬ ((q1.toInt32) + (128 : Int32) < 0 ∨ clc.slots.size ≤ ((q1.toInt32) + (128 : Int32)).toNatClampNeg) := by
        rw [ejn, sz_c]; rintro (q | q)
        · exact ej0 q
        · omega
      have P31 : ∀ t, Steps p.tables e below (T28.setTop (mkF m 30 #[.val (.long q1), .second, .val (.int (128 : Int32))] [(.ref bL)])) t → Steps p.tables e below (s₁.setTop (entryFrame m #[(.long q1)] 3)) t := by
        intro t k
        refine P30 _ ?_
        refine X28.aaload hx (j := (q1.toInt32) + (128 : Int32)) (v := .ref bL) (by rw [e28]; exact Ar_c.1) (State.isArrayOf_alike hZ.alike Ar_c.2.1) rfl Ar_c.2.2 hin (by rw [ejn]; exact at_c) (g := (mkF m 29 #[.val (.long q1), .second, .val (.int (128 : Int32))] [(.int ((q1.toInt32) + (128 : Int32))), (.ref wc)])) rfl rfl (hb hby d4_29) _ ?_
        show Steps p.tables e below (T28.setTop (mkF m 30 #[.val (.long q1), .second, .val (.int (128 : Int32))] [(.ref bL)])) _
        exact k
      obtain ⟨fs, hr, hrun, hended, hW, hsame⟩ := X28.leave (v := some (.ref bL)) (fun h => by rw [Bd.returns] at h; cases h)
      refine ⟨_, _, P31 _ ?_, hrun, hended, _, _, rfl, ?_, ⟨_, rfl⟩, hW, hsame.mono (by decide) (by decide)⟩
      · jvm_step X28.here [X28.here.top, hx, (hb hby d4_30), X28.method', Bd.returns, Value.isRef, FieldType.isReference]
        first | (intro acts; rw [hr _ acts rfl rfl rfl]) | rw [hr _ _ rfl rfl rfl]
        exact Steps.refl _
      · show Q4 Z q1 h0 n0 _ T28.heap _
        rw [e28]
        exact ⟨bL, rfl, N0, K0, E_bL⟩
theorem d5_0 : decode prog_31_method_7_code 0 = .ok (.aload_n 1, 1) := by decide +kernel
theorem d5_1 : decode prog_31_method_7_code 1 = .ok (.instanceof 8, 3) := by decide +kernel
theorem d5_4 : decode prog_31_method_7_code 4 = .ok (.ifCond .eq 22, 3) := by decide +kernel
theorem d5_7 : decode prog_31_method_7_code 7 = .ok (.aload_n 1, 1) := by decide +kernel
theorem d5_8 : decode prog_31_method_7_code 8 = .ok (.checkcast 8, 3) := by decide +kernel
theorem d5_11 : decode prog_31_method_7_code 11 = .ok (.getfield 7, 3) := by decide +kernel
theorem d5_14 : decode prog_31_method_7_code 14 = .ok (.aload_n 0, 1) := by decide +kernel
theorem d5_15 : decode prog_31_method_7_code 15 = .ok (.getfield 7, 3) := by decide +kernel
theorem d5_18 : decode prog_31_method_7_code 18 = .ok (.lcmp, 1) := by decide +kernel
theorem d5_19 : decode prog_31_method_7_code 19 = .ok (.ifCond .ne 7, 3) := by decide +kernel
theorem d5_22 : decode prog_31_method_7_code 22 = .ok (.iconst 1, 1) := by decide +kernel
theorem d5_23 : decode prog_31_method_7_code 23 = .ok (.goto 4, 3) := by decide +kernel
theorem d5_26 : decode prog_31_method_7_code 26 = .ok (.iconst 0, 1) := by decide +kernel
theorem d5_27 : decode prog_31_method_7_code 27 = .ok (.ireturn, 1) := by decide +kernel
theorem pn_5 : plainName "com/example/watchful_controller/watchfulcontroller/model/MacAddress" = true := by first | (simp [plainName, overriddenIn]; done) | decide +kernel
theorem ef_5 (m : MethodId) (x0 : Addr) (x1 : Addr) : entryFrame m #[(.ref x0), (.ref x1)] 2 = mkF m 0 #[.val (.ref x0), .val (.ref x1)] [] := by first | (simp [entryFrame, mkF, argsToLocals, Value.category]; done) | rfl
def Q5 (Z : State) (a1 : Addr) (a2 : Addr) (w1 : Int64) (w2 : Int64) (h0 : Heap) (n0 : Nat) (v : Option Value) (h : Heap) (L : List Loc) : Prop := v = some (.int (if w2 = w1 then (1 : Int32) else (0 : Int32))) ∧ Fr n0 L ∧ h = h0
set_option maxRecDepth 65536 in
set_option maxHeartbeats 40000000 in
theorem rm5 (l : Launch) (Z : State) (a0 : Array Value) (hw : ∀ d ∈ tables_1, d.before a0 Z = true) (ws : List Jvm.Cond) (a1 : Addr) (a2 : Addr) (w1 : Int64) (w2 : Int64) (h0 : Heap) (n0 : Nat) (Z0 : n0 ≤ h0.size) (F1 : Fld Z h0 a1 "com/example/watchful_controller/watchfulcontroller/model/MacAddress" "value" "J" (.long w1)) (F2 : Fld Z h0 a2 "com/example/watchful_controller/watchfulcontroller/model/MacAddress" "value" "J" (.long w2)) (E2 : Exa Z h0 a2 "com/example/watchful_controller/watchfulcontroller/model/MacAddress") :
    MetFree l (⟨"com/example/watchful_controller/watchfulcontroller/model/MacAddress", "equals", "(Ljava/lang/Object;)Z"⟩ : MethodName) (head1 (Jvm.Cond.code (⟨"com/example/watchful_controller/watchfulcontroller/model/MacAddress", "equals", "(Ljava/lang/Object;)Z"⟩ : MethodName) prog_31_method_7_code 2 (some .boolean) :: ws) ({ frames := 0, cells := 0, slots := 0, locals := 0 } : Room)) (fun a U => a = #[(.ref a1), (.ref a2)] ∧ Z.Warmed39 U.vm ∧ U.heap = h0) (fun _ _ _ _ _ => True) (fun _ U o U' => ∃ v L, o = .returned v ∧ Q5 Z a1 a2 w1 w2 h0 n0 v U'.heap L ∧ FrameEnd U o U' L ({ frames := 0, cells := 0, slots := 0, locals := 0 } : Room).cells ({ frames := 0, cells := 0, slots := 0, locals := 0 } : Room).slots) := by
  refine MetFree.of_bodySF (plainFor_of_name pn_5) hisR ?_
  intro p e s m args below meth c s₁ Bd hml0 hP hK
  obtain ⟨rfl, hZ, hh⟩ := hP
  have hx := Bd.exec
  have hby := Bd.bytes
  have hml : c.maxLocals = 2 := hml0
  have hown : s.vm.findClass "com/example/watchful_controller/watchfulcontroller/model/MacAddress" = some m.cls := findClass_of_methodNamed Bd.named
  have hnm := (name_of_methodNamed Bd.named Bd.method).1
  have X0 : Stand p l e ({ frames := 0, cells := 0, slots := 0, locals := 0 } : Room) s m #[(.ref a1), (.ref a2)] below meth c s₁ [] 0 0 := Stand.of_body Bd
  have e0 : s₁.heap = h0 := by rw [← hh, Bd.state]; rfl
  have N0 := Fr.nil n0
  have K0 : Keep h0 h0 [] := Keep.refl _ _
  have P0 : ∀ t, Steps p.tables e below (s₁.setTop (mkF m 0 #[.val (.ref a1), .val (.ref a2)] [])) t → Steps p.tables e below (s₁.setTop (entryFrame m #[(.ref a1), (.ref a2)] 2)) t := fun t k => castTop (ef_5 m a1 a2) k
  have P1 : ∀ t, Steps p.tables e below (s₁.setTop (mkF m 1 #[.val (.ref a1), .val (.ref a2)] [(.ref a2)])) t → Steps p.tables e below (s₁.setTop (entryFrame m #[(.ref a1), (.ref a2)] 2)) t := by
    intro t k
    refine P0 _ ?_
    refine XS.aloadN X0.here hx rfl (hb hby d5_0) rfl rfl ?_
    show Steps p.tables e below (s₁.setTop (mkF m 1 #[.val (.ref a1), .val (.ref a2)] [(.ref a2)])) _
    exact k
  obtain ⟨T2, X2, e2, st2⟩ := instY X0 hx hZ hown (hw _ (List.mem_of_getElem? (i := 24) rfl)) e0 (Ins.self E2) (g := (mkF m 1 #[.val (.ref a1), .val (.ref a2)] [(.ref a2)])) rfl rfl (hb hby d5_1)
  have P3 : ∀ t, Steps p.tables e below (T2.setTop (mkF m 4 #[.val (.ref a1), .val (.ref a2)] [(.int (1 : Int32))])) t → Steps p.tables e below (s₁.setTop (entryFrame m #[(.ref a1), (.ref a2)] 2)) t := fun t k => P1 _ (st2 _ k)
  have P4 : ∀ t, Steps p.tables e below (T2.setTop (mkF m 8 #[.val (.ref a1), .val (.ref a2)] [(.ref a2)])) t → Steps p.tables e below (s₁.setTop (entryFrame m #[(.ref a1), (.ref a2)] 2)) t := by
    intro t k
    refine P3 _ ?_
    refine XS.ifNo X2.here hx rfl (hb hby d5_4) rfl (XT.i0_eq_f (by decide)) ?_
    show Steps p.tables e below (T2.setTop (mkF m 7 #[.val (.ref a1), .val (.ref a2)] [])) _
    refine XS.aloadN X2.here hx rfl (hb hby d5_7) rfl rfl ?_
    show Steps p.tables e below (T2.setTop (mkF m 8 #[.val (.ref a1), .val (.ref a2)] [(.ref a2)])) _
    exact k
  obtain ⟨T5, X5, e5, st5⟩ := castY X2 hx hZ hown (hw _ (List.mem_of_getElem? (i := 24) rfl)) e2 (Ins.self E2) (g := (mkF m 8 #[.val (.ref a1), .val (.ref a2)] [(.ref a2)])) rfl rfl (hb hby d5_8)
  have P6 : ∀ t, Steps p.tables e below (T5.setTop (mkF m 11 #[.val (.ref a1), .val (.ref a2)] [(.ref a2)])) t → Steps p.tables e below (s₁.setTop (entryFrame m #[(.ref a1), (.ref a2)] 2)) t := fun t k => P4 _ (st5 _ k)
  obtain ⟨T7, X7, e7, st7⟩ := getF X5 hx hZ hown (host := "") (Or.inl (hw _ (List.mem_of_getElem? (i := 9) rfl))) Via.refl e5 F2 (g := (mkF m 11 #[.val (.ref a1), .val (.ref a2)] [(.ref a2)])) rfl rfl (hb hby d5_11)
  have P8 : ∀ t, Steps p.tables e below (T7.setTop (mkF m 14 #[.val (.ref a1), .val (.ref a2)] [(.long w2)])) t → Steps p.tables e below (s₁.setTop (entryFrame m #[(.ref a1), (.ref a2)] 2)) t := fun t k => P6 _ (st7 _ k)
  have P9 : ∀ t, Steps p.tables e below (T7.setTop (mkF m 15 #[.val (.ref a1), .val (.ref a2)] [(.ref a1), (.long w2)])) t → Steps p.tables e below (s₁.setTop (entryFrame m #[(.ref a1), (.ref a2)] 2)) t := by
    intro t k
    refine P8 _ ?_
    refine XS.aloadN X7.here hx rfl (hb hby d5_14) rfl rfl ?_
    show Steps p.tables e below (T7.setTop (mkF m 15 #[.val (.ref a1), .val (.ref a2)] [(.ref a1), (.long w2)])) _
    exact k
  obtain ⟨T10, X10, e10, st10⟩ := getF X7 hx hZ hown (host := "") (Or.inl (hw _ (List.mem_of_getElem? (i := 9) rfl))) Via.refl e7 F1 (g := (mkF m 15 #[.val (.ref a1), .val (.ref a2)] [(.ref a1), (.long w2)])) rfl rfl (hb hby d5_15)
  have P11 : ∀ t, Steps p.tables e below (T10.setTop (mkF m 18 #[.val (.ref a1), .val (.ref a2)] [(.long w1), (.long w2)])) t → Steps p.tables e below (s₁.setTop (entryFrame m #[(.ref a1), (.ref a2)] 2)) t := fun t k => P9 _ (st10 _ k)
  have P12 : ∀ t, Steps p.tables e below (T10.setTop (mkF m 27 #[.val (.ref a1), .val (.ref a2)] [(.int (if w2 = w1 then (1 : Int32) else (0 : Int32)))])) t → Steps p.tables e below (s₁.setTop (entryFrame m #[(.ref a1), (.ref a2)] 2)) t := by
    intro t k
    refine P11 _ ?_
    refine XT.lcmp X10.here hx rfl (hb hby d5_18) rfl ?_
    show Steps p.tables e below (T10.setTop (mkF m 19 #[.val (.ref a1), .val (.ref a2)] [(.int (XT.cmpL w2 w1))])) _
    by_cases c19 : w2 = w1
    · try simp only [if_pos c19] at k
      refine XS.ifNo X10.here hx rfl (hb hby d5_19) rfl (XT.ll_ne_f c19) ?_
      show Steps p.tables e below (T10.setTop (mkF m 22 #[.val (.ref a1), .val (.ref a2)] [])) _
      refine XS.iconst X10.here hx rfl (hb hby d5_22) ?_
      show Steps p.tables e below (T10.setTop (mkF m 23 #[.val (.ref a1), .val (.ref a2)] [(.int (1 : Int32))])) _
      refine XS.goto X10.here hx rfl (pc0 := 23) (pc' := 27) rfl (hb hby d5_23) (by decide) (by decide) ?_
      show Steps p.tables e below (T10.setTop (mkF m 27 #[.val (.ref a1), .val (.ref a2)] [(.int (1 : Int32))])) _
      exact k
    · try simp only [if_neg c19] at k
      refine XS.ifYes X10.here hx rfl (pc0 := 19) (pc' := 26) rfl (hb hby d5_19) rfl (XT.ll_ne_t c19) (by decide) (by decide) ?_
      show Steps p.tables e below (T10.setTop (mkF m 26 #[.val (.ref a1), .val (.ref a2)] [])) _
      refine XS.iconst X10.here hx rfl (hb hby d5_26) ?_
      show Steps p.tables e below (T10.setTop (mkF m 27 #[.val (.ref a1), .val (.ref a2)] [(.int (0 : Int32))])) _
      exact k
  obtain ⟨y19, hy19⟩ : ∃ z : Int32, z = (if w2 = w1 then (1 : Int32) else (0 : Int32)) := ⟨_, rfl⟩
  rw [← hy19] at P12
  obtain ⟨fs, hr, hrun, hended, hW, hsame⟩ := X10.leave (v := some (.int (nar .boolean y19))) (fun h => by rw [Bd.returns] at h; cases h)
  refine ⟨_, _, P12 _ ?_, hrun, hended, _, _, rfl, ?_, ⟨_, rfl⟩, hW, hsame.mono (by decide) (by decide)⟩
  · exact retN X10 hx (t := .boolean) Bd.returns (by simp) (hb hby d5_27) hr
  · show Q5 Z a1 a2 w1 w2 h0 n0 _ T10.heap _
    rw [e10]
    exact ⟨by rw [hy19, own_nb], N0, rfl⟩
theorem d6_0 : decode prog_31_method_7_code 0 = .ok (.aload_n 1, 1) := by decide +kernel
theorem d6_1 : decode prog_31_method_7_code 1 = .ok (.instanceof 8, 3) := by decide +kernel
theorem d6_4 : decode prog_31_method_7_code 4 = .ok (.ifCond .eq 22, 3) := by decide +kernel
theorem d6_26 : decode prog_31_method_7_code 26 = .ok (.iconst 0, 1) := by decide +kernel
theorem d6_27 : decode prog_31_method_7_code 27 = .ok (.ireturn, 1) := by decide +kernel
theorem pn_6 : plainName "com/example/watchful_controller/watchfulcontroller/model/MacAddress" = true := by first | (simp [plainName, overriddenIn]; done) | decide +kernel
theorem ef_6 (m : MethodId) (x0 : Addr) : entryFrame m #[(.ref x0), .null] 2 = mkF m 0 #[.val (.ref x0), .val .null] [] := by first | (simp [entryFrame, mkF, argsToLocals, Value.category]; done) | rfl
def Q6 (Z : State) (a1 : Addr) (h0 : Heap) (n0 : Nat) (v : Option Value) (h : Heap) (L : List Loc) : Prop := v = some (.int 0) ∧ Fr n0 L ∧ h = h0
set_option maxRecDepth 65536 in
set_option maxHeartbeats 40000000 in
theorem rm6 (l : Launch) (Z : State) (a0 : Array Value) (hw : ∀ d ∈ tables_1, d.before a0 Z = true) (ws : List Jvm.Cond) (a1 : Addr) (h0 : Heap) (n0 : Nat) (Z0 : n0 ≤ h0.size) :
    MetFree l (⟨"com/example/watchful_controller/watchfulcontroller/model/MacAddress", "equals", "(Ljava/lang/Object;)Z"⟩ : MethodName) (head1 (Jvm.Cond.code (⟨"com/example/watchful_controller/watchfulcontroller/model/MacAddress", "equals", "(Ljava/lang/Object;)Z"⟩ : MethodName) prog_31_method_7_code 2 (some .boolean) :: ws) ({ frames := 0, cells := 0, slots := 0, locals := 0 } : Room)) (fun a U => a = #[(.ref a1), .null] ∧ Z.Warmed39 U.vm ∧ U.heap = h0) (fun _ _ _ _ _ => True) (fun _ U o U' => ∃ v L, o = .returned v ∧ Q6 Z a1 h0 n0 v U'.heap L ∧ FrameEnd U o U' L ({ frames := 0, cells := 0, slots := 0, locals := 0 } : Room).cells ({ frames := 0, cells := 0, slots := 0, locals := 0 } : Room).slots) := by
  refine MetFree.of_bodySF (plainFor_of_name pn_6) hisR ?_
  intro p e s m args below meth c s₁ Bd hml0 hP hK
  obtain ⟨rfl, hZ, hh⟩ := hP
  have hx := Bd.exec
  have hby := Bd.bytes
  have hml : c.maxLocals = 2 := hml0
  have hown : s.vm.findClass "com/example/watchful_controller/watchfulcontroller/model/MacAddress" = some m.cls := findClass_of_methodNamed Bd.named
  have hnm := (name_of_methodNamed Bd.named Bd.method).1
  have X0 : Stand p l e ({ frames := 0, cells := 0, slots := 0, locals := 0 } : Room) s m #[(.ref a1), .null] below meth c s₁ [] 0 0 := Stand.of_body Bd
  have e0 : s₁.heap = h0 := by rw [← hh, Bd.state]; rfl
  have N0 := Fr.nil n0
  have K0 : Keep h0 h0 [] := Keep.refl _ _
  have P0 : ∀ t, Steps p.tables e below (s₁.setTop (mkF m 0 #[.val (.ref a1), .val .null] [])) t → Steps p.tables e below (s₁.setTop (entryFrame m #[(.ref a1), .null] 2)) t := fun t k => castTop (ef_6 m a1) k
  have P1 : ∀ t, Steps p.tables e below (s₁.setTop (mkF m 27 #[.val (.ref a1), .val .null] [(.int (0 : Int32))])) t → Steps p.tables e below (s₁.setTop (entryFrame m #[(.ref a1), .null] 2)) t := by
    intro t k
    refine P0 _ ?_
    refine XS.aloadN X0.here hx rfl (hb hby d6_0) rfl rfl ?_
    show Steps p.tables e below (s₁.setTop (mkF m 1 #[.val (.ref a1), .val .null] [.null])) _
    refine X0.instanceofNull hx (g := (mkF m 1 #[.val (.ref a1), .val .null] [.null])) rfl rfl (hb hby d6_1) _ ?_
    show Steps p.tables e below (s₁.setTop (mkF m 4 #[.val (.ref a1), .val .null] [(.int (0 : Int32))])) _
    refine XS.ifYes X0.here hx rfl (pc0 := 4) (pc' := 26) rfl (hb hby d6_4) rfl (XT.i0_eq_t (by decide)) (by decide) (by decide) ?_
    show Steps p.tables e below (s₁.setTop (mkF m 26 #[.val (.ref a1), .val .null] [])) _
    refine XS.iconst X0.here hx rfl (hb hby d6_26) ?_
    show Steps p.tables e below (s₁.setTop (mkF m 27 #[.val (.ref a1), .val .null] [(.int (0 : Int32))])) _
    exact k
  obtain ⟨fs, hr, hrun, hended, hW, hsame⟩ := X0.leave (v := some (.int (0 : Int32))) (fun h => by rw [Bd.returns] at h; cases h)
  refine ⟨_, _, P1 _ ?_, hrun, hended, _, _, rfl, ?_, ⟨_, rfl⟩, hW, hsame.mono (by decide) (by decide)⟩
  · exact retN X0 hx (t := .boolean) Bd.returns (by simp) (hb hby d6_27) hr
  · show Q6 Z a1 h0 n0 _ s₁.heap _
    rw [e0]
    exact ⟨rfl, N0, rfl⟩
theorem d7_0 : decode prog_31_method_7_code 0 = .ok (.aload_n 1, 1) := by decide +kernel
theorem d7_1 : decode prog_31_method_7_code 1 = .ok (.instanceof 8, 3) := by decide +kernel
theorem d7_4 : decode prog_31_method_7_code 4 = .ok (.ifCond .eq 22, 3) := by decide +kernel
theorem d7_26 : decode prog_31_method_7_code 26 = .ok (.iconst 0, 1) := by decide +kernel
theorem d7_27 : decode prog_31_method_7_code 27 = .ok (.ireturn, 1) := by decide +kernel
theorem pn_7 : plainName "com/example/watchful_controller/watchfulcontroller/model/MacAddress" = true := by first | (simp [plainName, overriddenIn]; done) | decide +kernel
theorem ef_7 (m : MethodId) (x0 : Addr) (x1 : Addr) : entryFrame m #[(.ref x0), (.ref x1)] 2 = mkF m 0 #[.val (.ref x0), .val (.ref x1)] [] := by first | (simp [entryFrame, mkF, argsToLocals, Value.category]; done) | rfl
def Q7 (Z : State) (a1 : Addr) (a2 : Addr) (h0 : Heap) (n0 : Nat) (v : Option Value) (h : Heap) (L : List Loc) : Prop := v = some (.int 0) ∧ Fr n0 L ∧ h = h0
set_option maxRecDepth 65536 in
set_option maxHeartbeats 40000000 in
theorem rm7 (l : Launch) (Z : State) (a0 : Array Value) (hw : ∀ d ∈ tables_1, d.before a0 Z = true) (ws : List Jvm.Cond) (a1 : Addr) (a2 : Addr) (h0 : Heap) (n0 : Nat) (Z0 : n0 ≤ h0.size) (E2 : Exa Z h0 a2 "java/lang/Long") :
    MetFree l (⟨"com/example/watchful_controller/watchfulcontroller/model/MacAddress", "equals", "(Ljava/lang/Object;)Z"⟩ : MethodName) (head1 (Jvm.Cond.code (⟨"com/example/watchful_controller/watchfulcontroller/model/MacAddress", "equals", "(Ljava/lang/Object;)Z"⟩ : MethodName) prog_31_method_7_code 2 (some .boolean) :: ws) ({ frames := 0, cells := 0, slots := 0, locals := 0 } : Room)) (fun a U => a = #[(.ref a1), (.ref a2)] ∧ Z.Warmed39 U.vm ∧ U.heap = h0) (fun _ _ _ _ _ => True) (fun _ U o U' => ∃ v L, o = .returned v ∧ Q7 Z a1 a2 h0 n0 v U'.heap L ∧ FrameEnd U o U' L ({ frames := 0, cells := 0, slots := 0, locals := 0 } : Room).cells ({ frames := 0, cells := 0, slots := 0, locals := 0 } : Room).slots) := by
  refine MetFree.of_bodySF (plainFor_of_name pn_7) hisR ?_
  intro p e s m args below meth c s₁ Bd hml0 hP hK
  obtain ⟨rfl, hZ, hh⟩ := hP
  have hx := Bd.exec
  have hby := Bd.bytes
  have hml : c.maxLocals = 2 := hml0
  have hown : s.vm.findClass "com/example/watchful_controller/watchfulcontroller/model/MacAddress" = some m.cls := findClass_of_methodNamed Bd.named
  have hnm := (name_of_methodNamed Bd.named Bd.method).1
  have X0 : Stand p l e ({ frames := 0, cells := 0, slots := 0, locals := 0 } : Room) s m #[(.ref a1), (.ref a2)] below meth c s₁ [] 0 0 := Stand.of_body Bd
  have e0 : s₁.heap = h0 := by rw [← hh, Bd.state]; rfl
  have N0 := Fr.nil n0
  have K0 : Keep h0 h0 [] := Keep.refl _ _
  have P0 : ∀ t, Steps p.tables e below (s₁.setTop (mkF m 0 #[.val (.ref a1), .val (.ref a2)] [])) t → Steps p.tables e below (s₁.setTop (entryFrame m #[(.ref a1), (.ref a2)] 2)) t := fun t k => castTop (ef_7 m a1 a2) k
  have P1 : ∀ t, Steps p.tables e below (s₁.setTop (mkF m 1 #[.val (.ref a1), .val (.ref a2)] [(.ref a2)])) t → Steps p.tables e below (s₁.setTop (entryFrame m #[(.ref a1), (.ref a2)] 2)) t := by
    intro t k
    refine P0 _ ?_
    refine XS.aloadN X0.here hx rfl (hb hby d7_0) rfl rfl ?_
    show Steps p.tables e below (s₁.setTop (mkF m 1 #[.val (.ref a1), .val (.ref a2)] [(.ref a2)])) _
    exact k
  obtain ⟨T2, X2, e2, st2⟩ := instNo X0 hx hZ hown (hw _ (List.mem_of_getElem? (i := 24) rfl)) e0 E2 (own_no (hw _ (List.mem_of_getElem? (i := 41) rfl)) (hw _ (List.mem_of_getElem? (i := 1) rfl)) (NS.step (hw _ (List.mem_of_getElem? (i := 41) rfl)) (NS.step (hw _ (List.mem_of_getElem? (i := 42) rfl)) (own_root (hw _ (List.mem_of_getElem? (i := 43) rfl)) (hw _ (List.mem_of_getElem? (i := 1) rfl)) (by decide)) (by decide)) (by decide)) (by decide)) (g := (mkF m 1 #[.val (.ref a1), .val (.ref a2)] [(.ref a2)])) rfl rfl (hb hby d7_1)
  have P3 : ∀ t, Steps p.tables e below (T2.setTop (mkF m 4 #[.val (.ref a1), .val (.ref a2)] [(.int (0 : Int32))])) t → Steps p.tables e below (s₁.setTop (entryFrame m #[(.ref a1), (.ref a2)] 2)) t := fun t k => P1 _ (st2 _ k)
  have P4 : ∀ t, Steps p.tables e below (T2.setTop (mkF m 27 #[.val (.ref a1), .val (.ref a2)] [(.int (0 : Int32))])) t → Steps p.tables e below (s₁.setTop (entryFrame m #[(.ref a1), (.ref a2)] 2)) t := by
    intro t k
    refine P3 _ ?_
    refine XS.ifYes X2.here hx rfl (pc0 := 4) (pc' := 26) rfl (hb hby d7_4) rfl (XT.i0_eq_t (by decide)) (by decide) (by decide) ?_
    show Steps p.tables e below (T2.setTop (mkF m 26 #[.val (.ref a1), .val (.ref a2)] [])) _
    refine XS.iconst X2.here hx rfl (hb hby d7_26) ?_
    show Steps p.tables e below (T2.setTop (mkF m 27 #[.val (.ref a1), .val (.ref a2)] [(.int (0 : Int32))])) _
    exact k
  obtain ⟨fs, hr, hrun, hended, hW, hsame⟩ := X2.leave (v := some (.int (0 : Int32))) (fun h => by rw [Bd.returns] at h; cases h)
  refine ⟨_, _, P4 _ ?_, hrun, hended, _, _, rfl, ?_, ⟨_, rfl⟩, hW, hsame.mono (by decide) (by decide)⟩
  · exact retN X2 hx (t := .boolean) Bd.returns (by simp) (hb hby d7_27) hr
  · show Q7 Z a1 a2 h0 n0 _ T2.heap _
    rw [e2]
    exact ⟨rfl, N0, rfl⟩
theorem pn_0 : plainName "com/example/watchful_controller/watchfulcontroller/model/MacAddressEqualsPinLaw" = true := by first | (simp [plainName, overriddenIn]; done) | decide +kernel
theorem ef_0 (m : MethodId) (x0 : Int64) (x1 : Int64) (x2 : Int32) : entryFrame m #[(.long x0), (.long x1), (.int x2)] maxLocals = mkF m 0 #[.val (.long x0), .second, .val (.long x1), .second, .val (.int x2), .unset, .unset, .unset, .unset, .unset, .unset, .unset, .unset] [] := by first | (simp [entryFrame, mkF, argsToLocals, Value.category, maxLocals]; done) | rfl
def Q0 (Z : State) (q1 : Int64) (q2 : Int64) (p3 : Int32) (h0 : Heap) (n0 : Nat) (v : Option Value) (h : Heap) (L : List Loc) : Prop := v = some (.int 1) ∧ Fr n0 L
set_option maxRecDepth 65536 in
set_option maxHeartbeats 40000000 in
theorem rm0 (l : Launch) (Z : State) (a0 : Array Value) (hw : ∀ d ∈ tables_1, d.before a0 Z = true) (ws : List Jvm.Cond) (q1 : Int64) (q2 : Int64) (p3 : Int32) (h0 : Heap) (n0 : Nat) (Z0 : n0 ≤ h0.size) (O0 : Old Z n0 h0) (hC : own_cache Z Z.heap) :
    MetFree l x (head1 (Jvm.Cond.code x code maxLocals ret :: ws) room_1) (fun a U => a = #[(.long q1), (.long q2), (.int p3)] ∧ Z.Warmed39 U.vm ∧ U.heap = h0) (fun _ _ _ _ _ => True) (fun _ U o U' => ∃ v L, o = .returned v ∧ Q0 Z q1 q2 p3 h0 n0 v U'.heap L ∧ FrameEnd U o U' L room_1.cells room_1.slots) := by
  refine MetFree.of_bodySF (plainFor_of_name pn_0) hisR ?_
  intro p e s m args below meth c s₁ Bd hml0 hP hK
  obtain ⟨rfl, hZ, hh⟩ := hP
  have hx := Bd.exec
  have hby := Bd.bytes
  have hml : c.maxLocals = 13 := hml0
  have hown : s.vm.findClass "com/example/watchful_controller/watchfulcontroller/model/MacAddressEqualsPinLaw" = some m.cls := findClass_of_methodNamed Bd.named
  have hnm := (name_of_methodNamed Bd.named Bd.method).1
  have X0 : Stand p l e room_1 s m #[(.long q1), (.long q2), (.int p3)] below meth c s₁ [] 0 0 := Stand.of_body Bd
  have e0 : s₁.heap = h0 := by rw [← hh, Bd.state]; rfl
  have N0 := Fr.nil n0
  have K0 : Keep h0 h0 [] := Keep.refl _ _
  have P0 : ∀ t, Steps p.tables e below (s₁.setTop (mkF m 0 #[.val (.long q1), .second, .val (.long q2), .second, .val (.int p3), .unset, .unset, .unset, .unset, .unset, .unset, .unset, .unset] [])) t → Steps p.tables e below (s₁.setTop (entryFrame m #[(.long q1), (.long q2), (.int p3)] maxLocals)) t := fun t k => castTop (ef_0 m q1 q2 p3) k
  have P1 : ∀ t, Steps p.tables e below (s₁.setTop (mkF m 6 #[.val (.long q1), .second, .val (.long q2), .second, .val (.int p3), .val (.int (p3 &&& (3 : Int32))), .unset, .unset, .unset, .unset, .unset, .unset, .unset] [])) t → Steps p.tables e below (s₁.setTop (entryFrame m #[(.long q1), (.long q2), (.int p3)] maxLocals)) t := by
    intro t k
    refine P0 _ ?_
    refine XS.iload X0.here hx rfl (hb hby at_0) rfl ?_
    show Steps p.tables e below (s₁.setTop (mkF m 2 #[.val (.long q1), .second, .val (.long q2), .second, .val (.int p3), .unset, .unset, .unset, .unset, .unset, .unset, .unset, .unset] [(.int p3)])) _
    refine XS.iconst X0.here hx rfl (hb hby at_2) ?_
    show Steps p.tables e below (s₁.setTop (mkF m 3 #[.val (.long q1), .second, .val (.long q2), .second, .val (.int p3), .unset, .unset, .unset, .unset, .unset, .unset, .unset, .unset] [(.int (3 : Int32)), (.int p3)])) _
    refine XS.iand X0.here hx rfl (hb hby at_3) rfl ?_
    show Steps p.tables e below (s₁.setTop (mkF m 4 #[.val (.long q1), .second, .val (.long q2), .second, .val (.int p3), .unset, .unset, .unset, .unset, .unset, .unset, .unset, .unset] [(.int (p3 &&& (3 : Int32)))])) _
    refine XS.istore X0.here hx rfl (hb hby at_4) rfl (l' := #[.val (.long q1), .second, .val (.long q2), .second, .val (.int p3), .val (.int (p3 &&& (3 : Int32))), .unset, .unset, .unset, .unset, .unset, .unset, .unset]) rfl ?_
    show Steps p.tables e below (s₁.setTop (mkF m 6 #[.val (.long q1), .second, .val (.long q2), .second, .val (.int p3), .val (.int (p3 &&& (3 : Int32))), .unset, .unset, .unset, .unset, .unset, .unset, .unset] [])) _
    exact k
  obtain ⟨mode, hmode⟩ : ∃ z : Int32, z = (p3 &&& (3 : Int32)) := ⟨_, rfl⟩
  rw [← hmode] at P1
  have P2 : ∀ t, Steps p.tables e below (s₁.setTop (mkF m 40 #[.val (.long q1), .second, .val (.long q2), .second, .val (.int p3), .val (.int mode), .val (.long (if mode = (1 : Int32) then q1 else (if mode = (2 : Int32) then (q1 ^^^ ((1 : Int64) <<< (((XT.ushr p3 (2 : Int32)) &&& (63 : Int32)).toInt64 &&& 63))) else q2))), .second, .unset, .unset, .unset, .unset, .unset] [])) t → Steps p.tables e below (s₁.setTop (entryFrame m #[(.long q1), (.long q2), (.int p3)] maxLocals)) t := by
    intro t k
    refine P1 _ ?_
    refine XT.lloadN X0.here hx rfl (hb hby at_6) rfl ?_
    show Steps p.tables e below (s₁.setTop (mkF m 7 #[.val (.long q1), .second, .val (.long q2), .second, .val (.int p3), .val (.int mode), .unset, .unset, .unset, .unset, .unset, .unset, .unset] [(.long q2)])) _
    refine XT.lstore X0.here hx rfl (hb hby at_7) rfl (l' := #[.val (.long q1), .second, .val (.long q2), .second, .val (.int p3), .val (.int mode), .val (.long q2), .second, .unset, .unset, .unset, .unset, .unset]) rfl ?_
    show Steps p.tables e below (s₁.setTop (mkF m 9 #[.val (.long q1), .second, .val (.long q2), .second, .val (.int p3), .val (.int mode), .val (.long q2), .second, .unset, .unset, .unset, .unset, .unset] [])) _
    refine XS.iload X0.here hx rfl (hb hby at_9) rfl ?_
    show Steps p.tables e below (s₁.setTop (mkF m 11 #[.val (.long q1), .second, .val (.long q2), .second, .val (.int p3), .val (.int mode), .val (.long q2), .second, .unset, .unset, .unset, .unset, .unset] [(.int mode)])) _
    refine XS.iconst X0.here hx rfl (hb hby at_11) ?_
    show Steps p.tables e below (s₁.setTop (mkF m 12 #[.val (.long q1), .second, .val (.long q2), .second, .val (.int p3), .val (.int mode), .val (.long q2), .second, .unset, .unset, .unset, .unset, .unset] [(.int (1 : Int32)), (.int mode)])) _
    by_cases c12 : mode = (1 : Int32)
    · try simp only [if_pos c12] at k
      refine XS.icmpNo X0.here hx rfl (hb hby at_12) rfl (XT.ii_ne_f c12) ?_
      show Steps p.tables e below (s₁.setTop (mkF m 15 #[.val (.long q1), .second, .val (.long q2), .second, .val (.int p3), .val (.int mode), .val (.long q2), .second, .unset, .unset, .unset, .unset, .unset] [])) _
      refine XT.lloadN X0.here hx rfl (hb hby at_15) rfl ?_
      show Steps p.tables e below (s₁.setTop (mkF m 16 #[.val (.long q1), .second, .val (.long q2), .second, .val (.int p3), .val (.int mode), .val (.long q2), .second, .unset, .unset, .unset, .unset, .unset] [(.long q1)])) _
      refine XT.lstore X0.here hx rfl (hb hby at_16) rfl (l' := #[.val (.long q1), .second, .val (.long q2), .second, .val (.int p3), .val (.int mode), .val (.long q1), .second, .unset, .unset, .unset, .unset, .unset]) rfl ?_
      show Steps p.tables e below (s₁.setTop (mkF m 18 #[.val (.long q1), .second, .val (.long q2), .second, .val (.int p3), .val (.int mode), .val (.long q1), .second, .unset, .unset, .unset, .unset, .unset] [])) _
      refine XS.goto X0.here hx rfl (pc0 := 18) (pc' := 40) rfl (hb hby at_18) (by decide) (by decide) ?_
      show Steps p.tables e below (s₁.setTop (mkF m 40 #[.val (.long q1), .second, .val (.long q2), .second, .val (.int p3), .val (.int mode), .val (.long q1), .second, .unset, .unset, .unset, .unset, .unset] [])) _
      exact k
    · try simp only [if_neg c12] at k
      refine XS.icmpYes X0.here hx rfl (pc0 := 12) (pc' := 21) rfl (hb hby at_12) rfl (XT.ii_ne_t c12) (by decide) (by decide) ?_
      show Steps p.tables e below (s₁.setTop (mkF m 21 #[.val (.long q1), .second, .val (.long q2), .second, .val (.int p3), .val (.int mode), .val (.long q2), .second, .unset, .unset, .unset, .unset, .unset] [])) _
      refine XS.iload X0.here hx rfl (hb hby at_21) rfl ?_
      show Steps p.tables e below (s₁.setTop (mkF m 23 #[.val (.long q1), .second, .val (.long q2), .second, .val (.int p3), .val (.int mode), .val (.long q2), .second, .unset, .unset, .unset, .unset, .unset] [(.int mode)])) _
      refine XS.iconst X0.here hx rfl (hb hby at_23) ?_
      show Steps p.tables e below (s₁.setTop (mkF m 24 #[.val (.long q1), .second, .val (.long q2), .second, .val (.int p3), .val (.int mode), .val (.long q2), .second, .unset, .unset, .unset, .unset, .unset] [(.int (2 : Int32)), (.int mode)])) _
      by_cases c24 : mode = (2 : Int32)
      · try simp only [if_pos c24] at k
        refine XS.icmpNo X0.here hx rfl (hb hby at_24) rfl (XT.ii_ne_f c24) ?_
        show Steps p.tables e below (s₁.setTop (mkF m 27 #[.val (.long q1), .second, .val (.long q2), .second, .val (.int p3), .val (.int mode), .val (.long q2), .second, .unset, .unset, .unset, .unset, .unset] [])) _
        refine XT.lloadN X0.here hx rfl (hb hby at_27) rfl ?_
        show Steps p.tables e below (s₁.setTop (mkF m 28 #[.val (.long q1), .second, .val (.long q2), .second, .val (.int p3), .val (.int mode), .val (.long q2), .second, .unset, .unset, .unset, .unset, .unset] [(.long q1)])) _
        refine XT.lconst X0.here hx rfl (hb hby at_28) ?_
        show Steps p.tables e below (s₁.setTop (mkF m 29 #[.val (.long q1), .second, .val (.long q2), .second, .val (.int p3), .val (.int mode), .val (.long q2), .second, .unset, .unset, .unset, .unset, .unset] [(.long (1 : Int64)), (.long q1)])) _
        refine XS.iload X0.here hx rfl (hb hby at_29) rfl ?_
        show Steps p.tables e below (s₁.setTop (mkF m 31 #[.val (.long q1), .second, .val (.long q2), .second, .val (.int p3), .val (.int mode), .val (.long q2), .second, .unset, .unset, .unset, .unset, .unset] [(.int p3), (.long (1 : Int64)), (.long q1)])) _
        refine XS.iconst X0.here hx rfl (hb hby at_31) ?_
        show Steps p.tables e below (s₁.setTop (mkF m 32 #[.val (.long q1), .second, .val (.long q2), .second, .val (.int p3), .val (.int mode), .val (.long q2), .second, .unset, .unset, .unset, .unset, .unset] [(.int (2 : Int32)), (.int p3), (.long (1 : Int64)), (.long q1)])) _
        refine XT.iushr X0.here hx rfl (hb hby at_32) rfl ?_
        show Steps p.tables e below (s₁.setTop (mkF m 33 #[.val (.long q1), .second, .val (.long q2), .second, .val (.int p3), .val (.int mode), .val (.long q2), .second, .unset, .unset, .unset, .unset, .unset] [(.int (XT.ushr p3 (2 : Int32))), (.long (1 : Int64)), (.long q1)])) _
        refine XS.bipush X0.here hx rfl (hb hby at_33) ?_
        show Steps p.tables e below (s₁.setTop (mkF m 35 #[.val (.long q1), .second, .val (.long q2), .second, .val (.int p3), .val (.int mode), .val (.long q2), .second, .unset, .unset, .unset, .unset, .unset] [(.int (63 : Int32)), (.int (XT.ushr p3 (2 : Int32))), (.long (1 : Int64)), (.long q1)])) _
        refine XS.iand X0.here hx rfl (hb hby at_35) rfl ?_
        show Steps p.tables e below (s₁.setTop (mkF m 36 #[.val (.long q1), .second, .val (.long q2), .second, .val (.int p3), .val (.int mode), .val (.long q2), .second, .unset, .unset, .unset, .unset, .unset] [(.int ((XT.ushr p3 (2 : Int32)) &&& (63 : Int32))), (.long (1 : Int64)), (.long q1)])) _
        refine XT.lshl X0.here hx rfl (hb hby at_36) rfl ?_
        show Steps p.tables e below (s₁.setTop (mkF m 37 #[.val (.long q1), .second, .val (.long q2), .second, .val (.int p3), .val (.int mode), .val (.long q2), .second, .unset, .unset, .unset, .unset, .unset] [(.long ((1 : Int64) <<< (((XT.ushr p3 (2 : Int32)) &&& (63 : Int32)).toInt64 &&& 63))), (.long q1)])) _
        refine XT.lxor X0.here hx rfl (hb hby at_37) rfl ?_
        show Steps p.tables e below (s₁.setTop (mkF m 38 #[.val (.long q1), .second, .val (.long q2), .second, .val (.int p3), .val (.int mode), .val (.long q2), .second, .unset, .unset, .unset, .unset, .unset] [(.long (q1 ^^^ ((1 : Int64) <<< (((XT.ushr p3 (2 : Int32)) &&& (63 : Int32)).toInt64 &&& 63))))])) _
        refine XT.lstore X0.here hx rfl (hb hby at_38) rfl (l' := #[.val (.long q1), .second, .val (.long q2), .second, .val (.int p3), .val (.int mode), .val (.long (q1 ^^^ ((1 : Int64) <<< (((XT.ushr p3 (2 : Int32)) &&& (63 : Int32)).toInt64 &&& 63)))), .second, .unset, .unset, .unset, .unset, .unset]) rfl ?_
        show Steps p.tables e below (s₁.setTop (mkF m 40 #[.val (.long q1), .second, .val (.long q2), .second, .val (.int p3), .val (.int mode), .val (.long (q1 ^^^ ((1 : Int64) <<< (((XT.ushr p3 (2 : Int32)) &&& (63 : Int32)).toInt64 &&& 63)))), .second, .unset, .unset, .unset, .unset, .unset] [])) _
        exact k
      · try simp only [if_neg c24] at k
        refine XS.icmpYes X0.here hx rfl (pc0 := 24) (pc' := 40) rfl (hb hby at_24) rfl (XT.ii_ne_t c24) (by decide) (by decide) ?_
        show Steps p.tables e below (s₁.setTop (mkF m 40 #[.val (.long q1), .second, .val (.long q2), .second, .val (.int p3), .val (.int mode), .val (.long q2), .second, .unset, .unset, .unset, .unset, .unset] [])) _
        exact k
  obtain ⟨cx, hcx⟩ : ∃ z : Int64, z = (if mode = (1 : Int32) then q1 else (if mode = (2 : Int32) then (q1 ^^^ ((1 : Int64) <<< (((XT.ushr p3 (2 : Int32)) &&& (63 : Int32)).toInt64 &&& 63))) else q2)) := ⟨_, rfl⟩
  rw [← hcx] at P2
  have P3 : ∀ t, Steps p.tables e below (s₁.setTop (mkF m 49 #[.val (.long q1), .second, .val (.long q2), .second, .val (.int p3), .val (.int mode), .val (.long cx), .second, .val (.int ((XT.ushr p3 (8 : Int32)) &&& (3 : Int32))), .unset, .unset, .unset, .unset] [])) t → Steps p.tables e below (s₁.setTop (entryFrame m #[(.long q1), (.long q2), (.int p3)] maxLocals)) t := by
    intro t k
    refine P2 _ ?_
    refine XS.iload X0.here hx rfl (hb hby at_40) rfl ?_
    show Steps p.tables e below (s₁.setTop (mkF m 42 #[.val (.long q1), .second, .val (.long q2), .second, .val (.int p3), .val (.int mode), .val (.long cx), .second, .unset, .unset, .unset, .unset, .unset] [(.int p3)])) _
    refine XS.bipush X0.here hx rfl (hb hby at_42) ?_
    show Steps p.tables e below (s₁.setTop (mkF m 44 #[.val (.long q1), .second, .val (.long q2), .second, .val (.int p3), .val (.int mode), .val (.long cx), .second, .unset, .unset, .unset, .unset, .unset] [(.int (8 : Int32)), (.int p3)])) _
    refine XT.iushr X0.here hx rfl (hb hby at_44) rfl ?_
    show Steps p.tables e below (s₁.setTop (mkF m 45 #[.val (.long q1), .second, .val (.long q2), .second, .val (.int p3), .val (.int mode), .val (.long cx), .second, .unset, .unset, .unset, .unset, .unset] [(.int (XT.ushr p3 (8 : Int32)))])) _
    refine XS.iconst X0.here hx rfl (hb hby at_45) ?_
    show Steps p.tables e below (s₁.setTop (mkF m 46 #[.val (.long q1), .second, .val (.long q2), .second, .val (.int p3), .val (.int mode), .val (.long cx), .second, .unset, .unset, .unset, .unset, .unset] [(.int (3 : Int32)), (.int (XT.ushr p3 (8 : Int32)))])) _
    refine XS.iand X0.here hx rfl (hb hby at_46) rfl ?_
    show Steps p.tables e below (s₁.setTop (mkF m 47 #[.val (.long q1), .second, .val (.long q2), .second, .val (.int p3), .val (.int mode), .val (.long cx), .second, .unset, .unset, .unset, .unset, .unset] [(.int ((XT.ushr p3 (8 : Int32)) &&& (3 : Int32)))])) _
    refine XS.istore X0.here hx rfl (hb hby at_47) rfl (l' := #[.val (.long q1), .second, .val (.long q2), .second, .val (.int p3), .val (.int mode), .val (.long cx), .second, .val (.int ((XT.ushr p3 (8 : Int32)) &&& (3 : Int32))), .unset, .unset, .unset, .unset]) rfl ?_
    show Steps p.tables e below (s₁.setTop (mkF m 49 #[.val (.long q1), .second, .val (.long q2), .second, .val (.int p3), .val (.int mode), .val (.long cx), .second, .val (.int ((XT.ushr p3 (8 : Int32)) &&& (3 : Int32))), .unset, .unset, .unset, .unset] [])) _
    exact k
  obtain ⟨kind, hkind⟩ : ∃ z : Int32, z = ((XT.ushr p3 (8 : Int32)) &&& (3 : Int32)) := ⟨_, rfl⟩
  rw [← hkind] at P3
  obtain ⟨T4, h4, X4, e4, E4, A4, D4, -, st4⟩ := newO X0 hx hZ hown (hw _ (List.mem_of_getElem? (i := 0) rfl)) (hw _ (List.mem_of_getElem? (i := 1) rfl)) (hw _ (List.mem_of_getElem? (i := 2) rfl)) e0 (g := (mkF m 49 #[.val (.long q1), .second, .val (.long q2), .second, .val (.int p3), .val (.int mode), .val (.long cx), .second, .val (.int kind), .unset, .unset, .unset, .unset] [])) rfl (hb hby at_49) (by decide) (by decide)
  obtain ⟨bX, g4⟩ : ∃ z, z = h0.size := ⟨_, rfl⟩
  rw [← g4] at A4 D4 st4
  have F5 : Old Z n0 h4 := O0.ext E4
  have F6 : Fld Z h4 bX "com/example/watchful_controller/watchfulcontroller/model/MacAddress" "value" "J" (.long (0 : Int64)) := D4 (Or.inr (hw _ (List.mem_of_getElem? (i := 10) rfl))) (ty := .long) (by decide)
  have Z7 : n0 ≤ h4.size := Nat.le_trans Z0 E4.1
  have K8 : Keep h0 h4 [] := K0.ext E4
  have g_bX : n0 ≤ bX := Nat.le_trans Z0 (Nat.le_of_eq g4.symm)
  have sz_bX : h0.size ≤ bX := Nat.le_trans K0.1 (Nat.le_of_eq g4.symm)
  have P9 : ∀ t, Steps p.tables e below (T4.setTop (mkF m 52 #[.val (.long q1), .second, .val (.long q2), .second, .val (.int p3), .val (.int mode), .val (.long cx), .second, .val (.int kind), .unset, .unset, .unset, .unset] [(.ref bX)])) t → Steps p.tables e below (s₁.setTop (entryFrame m #[(.long q1), (.long q2), (.int p3)] maxLocals)) t := fun t k => P3 _ (st4 _ k)
  have P10 : ∀ t, Steps p.tables e below (T4.setTop (mkF m 54 #[.val (.long q1), .second, .val (.long q2), .second, .val (.int p3), .val (.int mode), .val (.long cx), .second, .val (.int kind), .unset, .unset, .unset, .unset] [(.long q1), (.ref bX), (.ref bX)])) t → Steps p.tables e below (s₁.setTop (entryFrame m #[(.long q1), (.long q2), (.int p3)] maxLocals)) t := by
    intro t k
    refine P9 _ ?_
    refine XS.dup X4.here hx rfl (hb hby at_52) rfl rfl ?_
    show Steps p.tables e below (T4.setTop (mkF m 53 #[.val (.long q1), .second, .val (.long q2), .second, .val (.int p3), .val (.int mode), .val (.long cx), .second, .val (.int kind), .unset, .unset, .unset, .unset] [(.ref bX), (.ref bX)])) _
    refine XT.lloadN X4.here hx rfl (hb hby at_53) rfl ?_
    show Steps p.tables e below (T4.setTop (mkF m 54 #[.val (.long q1), .second, .val (.long q2), .second, .val (.int p3), .val (.int mode), .val (.long cx), .second, .val (.int kind), .unset, .unset, .unset, .unset] [(.long q1), (.ref bX), (.ref bX)])) _
    exact k
  obtain ⟨_, _, ⟨T11, L11, k11, n11⟩, -, X11, ⟨Lc11, hQ11, l11, y11, z11⟩, st11⟩ := X4.specialBack hx (y := (⟨"com/example/watchful_controller/watchfulcontroller/model/MacAddress", "<init>", "(J)V"⟩ : MethodName)) rfl hown (mvT hZ (hw _ (List.mem_of_getElem? (i := 3) rfl))) (mvT hZ (hw _ (List.mem_of_getElem? (i := 4) rfl))) (mvT hZ (hw _ (List.mem_of_getElem? (i := 5) rfl))) (by decide) (backOf (W := 1) (rm1 l Z a0 hw [] bX q1 (.long (0 : Int64)) h4 n0 Z7 A4 F6 g_bX) hZ (hw _ (List.mem_of_getElem? (i := 5) rfl)) (hw _ (List.mem_of_getElem? (i := 2) rfl)) (by decide) (by decide)) (g := (mkF m 54 #[.val (.long q1), .second, .val (.long q2), .second, .val (.int p3), .val (.int mode), .val (.long cx), .second, .val (.int kind), .unset, .unset, .unset, .unset] [(.long q1), (.ref bX), (.ref bX)])) rfl (by rw [hml]; rfl) (Steps.refl _) (a := bX) (argsL := [(.long q1)]) (rest := [(.ref bX)]) (lenOf pd_1 rfl) rfl (by show 2 * 0 + _ ≤ _; exact Nat.le_of_eq rfl) (hb hby at_54) (fun _ _ => ⟨rfl, e4, (by decide : 1 + 0 ≤ _), (by decide : 1 + 0 ≤ _)⟩)
  dsimp only [Pt.U, Pt.locs, Pt.cells, Pt.slots] at X11 l11 y11 z11 st11 hQ11
  subst l11 y11 z11
  obtain ⟨rfl, N11q, K11, E11, Q11_value⟩ := hQ11
  have F12 : Old Z n0 T11.heap := F5.keep K11 (allS g_bX all0)
  have F13 : Exa Z T11.heap bX "com/example/watchful_controller/watchfulcontroller/model/MacAddress" := A4.keep K11
  have Z14 : n0 ≤ T11.heap.size := Nat.le_trans Z7 K11.1
  have K15 : Keep h0 T11.heap [] := K8.trans K11 (allS (Or.inr sz_bX) all0)
  have N11 := Fr.app N0 N11q
  have P16 : ∀ t, Steps p.tables e below (T11.setTop (mkF m 57 #[.val (.long q1), .second, .val (.long q2), .second, .val (.int p3), .val (.int mode), .val (.long cx), .second, .val (.int kind), .unset, .unset, .unset, .unset] [(.ref bX)])) t → Steps p.tables e below (s₁.setTop (entryFrame m #[(.long q1), (.long q2), (.int p3)] maxLocals)) t := fun t k => P10 _ (st11.trans k)
  have P17 : ∀ t, Steps p.tables e below (T11.setTop (mkF m 59 #[.val (.long q1), .second, .val (.long q2), .second, .val (.int p3), .val (.int mode), .val (.long cx), .second, .val (.int kind), .val (.ref bX), .unset, .unset, .unset] [])) t → Steps p.tables e below (s₁.setTop (entryFrame m #[(.long q1), (.long q2), (.int p3)] maxLocals)) t := by
    intro t k
    refine P16 _ ?_
    refine XS.astore X11.here hx rfl (hb hby at_57) rfl rfl (l' := #[.val (.long q1), .second, .val (.long q2), .second, .val (.int p3), .val (.int mode), .val (.long cx), .second, .val (.int kind), .val (.ref bX), .unset, .unset, .unset]) rfl ?_
    show Steps p.tables e below (T11.setTop (mkF m 59 #[.val (.long q1), .second, .val (.long q2), .second, .val (.int p3), .val (.int mode), .val (.long cx), .second, .val (.int kind), .val (.ref bX), .unset, .unset, .unset] [])) _
    exact k
  obtain ⟨T18, h18, X18, e18, E18, A18, D18, -, st18⟩ := newO X11 hx hZ hown (hw _ (List.mem_of_getElem? (i := 0) rfl)) (hw _ (List.mem_of_getElem? (i := 1) rfl)) (hw _ (List.mem_of_getElem? (i := 2) rfl)) rfl (g := (mkF m 59 #[.val (.long q1), .second, .val (.long q2), .second, .val (.int p3), .val (.int mode), .val (.long cx), .second, .val (.int kind), .val (.ref bX), .unset, .unset, .unset] [])) rfl (hb hby at_59) (by decide) (by decide)
  obtain ⟨bY, g18⟩ : ∃ z, z = T11.heap.size := ⟨_, rfl⟩
  rw [← g18] at A18 D18 st18
  have F19 : Old Z n0 h18 := F12.ext E18
  have F20 : Exa Z h18 bX "com/example/watchful_controller/watchfulcontroller/model/MacAddress" := E11.ext E18
  have F21 : Fld Z h18 bX "com/example/watchful_controller/watchfulcontroller/model/MacAddress" "value" "J" (.long q1) := Q11_value.ext E18
  have F22 : Fld Z h18 bY "com/example/watchful_controller/watchfulcontroller/model/MacAddress" "value" "J" (.long (0 : Int64)) := D18 (Or.inr (hw _ (List.mem_of_getElem? (i := 10) rfl))) (ty := .long) (by decide)
  have Z23 : n0 ≤ h18.size := Nat.le_trans Z14 E18.1
  have K24 : Keep h0 h18 [] := K15.ext E18
  have g_bY : n0 ≤ bY := Nat.le_trans Z14 (Nat.le_of_eq g18.symm)
  have sz_bY : h0.size ≤ bY := Nat.le_trans K15.1 (Nat.le_of_eq g18.symm)
  have ne_bX_bY : bX ≠ bY := Nat.ne_of_lt (Nat.lt_of_lt_of_le E11.lt (Nat.le_of_eq g18.symm))
  have P25 : ∀ t, Steps p.tables e below (T18.setTop (mkF m 62 #[.val (.long q1), .second, .val (.long q2), .second, .val (.int p3), .val (.int mode), .val (.long cx), .second, .val (.int kind), .val (.ref bX), .unset, .unset, .unset] [(.ref bY)])) t → Steps p.tables e below (s₁.setTop (entryFrame m #[(.long q1), (.long q2), (.int p3)] maxLocals)) t := fun t k => P17 _ (st18 _ k)
  have P26 : ∀ t, Steps p.tables e below (T18.setTop (mkF m 65 #[.val (.long q1), .second, .val (.long q2), .second, .val (.int p3), .val (.int mode), .val (.long cx), .second, .val (.int kind), .val (.ref bX), .unset, .unset, .unset] [(.long cx), (.ref bY), (.ref bY)])) t → Steps p.tables e below (s₁.setTop (entryFrame m #[(.long q1), (.long q2), (.int p3)] maxLocals)) t := by
    intro t k
    refine P25 _ ?_
    refine XS.dup X18.here hx rfl (hb hby at_62) rfl rfl ?_
    show Steps p.tables e below (T18.setTop (mkF m 63 #[.val (.long q1), .second, .val (.long q2), .second, .val (.int p3), .val (.int mode), .val (.long cx), .second, .val (.int kind), .val (.ref bX), .unset, .unset, .unset] [(.ref bY), (.ref bY)])) _
    refine XT.lload X18.here hx rfl (hb hby at_63) rfl ?_
    show Steps p.tables e below (T18.setTop (mkF m 65 #[.val (.long q1), .second, .val (.long q2), .second, .val (.int p3), .val (.int mode), .val (.long cx), .second, .val (.int kind), .val (.ref bX), .unset, .unset, .unset] [(.long cx), (.ref bY), (.ref bY)])) _
    exact k
  obtain ⟨_, _, ⟨T27, L27, k27, n27⟩, -, X27, ⟨Lc27, hQ27, l27, y27, z27⟩, st27⟩ := X18.specialBack hx (y := (⟨"com/example/watchful_controller/watchfulcontroller/model/MacAddress", "<init>", "(J)V"⟩ : MethodName)) rfl hown (mvT hZ (hw _ (List.mem_of_getElem? (i := 3) rfl))) (mvT hZ (hw _ (List.mem_of_getElem? (i := 4) rfl))) (mvT hZ (hw _ (List.mem_of_getElem? (i := 5) rfl))) (by decide) (backOf (W := 1) (rm1 l Z a0 hw [] bY cx (.long (0 : Int64)) h18 n0 Z23 A18 F22 g_bY) hZ (hw _ (List.mem_of_getElem? (i := 5) rfl)) (hw _ (List.mem_of_getElem? (i := 2) rfl)) (by decide) (by decide)) (g := (mkF m 65 #[.val (.long q1), .second, .val (.long q2), .second, .val (.int p3), .val (.int mode), .val (.long cx), .second, .val (.int kind), .val (.ref bX), .unset, .unset, .unset] [(.long cx), (.ref bY), (.ref bY)])) rfl (by rw [hml]; rfl) (Steps.refl _) (a := bY) (argsL := [(.long cx)]) (rest := [(.ref bY)]) (lenOf pd_1 rfl) rfl (by show 2 * 0 + _ ≤ _; exact Nat.le_of_eq rfl) (hb hby at_65) (fun _ _ => ⟨rfl, e18, (by decide : 2 + 0 ≤ _), (by decide : 2 + 0 ≤ _)⟩)
  dsimp only [Pt.U, Pt.locs, Pt.cells, Pt.slots] at X27 l27 y27 z27 st27 hQ27
  subst l27 y27 z27
  obtain ⟨rfl, N27q, K27, E27, Q27_value⟩ := hQ27
  have F28 : Old Z n0 T27.heap := F19.keep K27 (allS g_bY all0)
  have F29 : Exa Z T27.heap bX "com/example/watchful_controller/watchfulcontroller/model/MacAddress" := F20.keep K27
  have F30 : Fld Z T27.heap bX "com/example/watchful_controller/watchfulcontroller/model/MacAddress" "value" "J" (.long q1) := F21.keep K27 (ninS ne_bX_bY nin0)
  have F31 : Exa Z T27.heap bY "com/example/watchful_controller/watchfulcontroller/model/MacAddress" := A18.keep K27
  have Z32 : n0 ≤ T27.heap.size := Nat.le_trans Z23 K27.1
  have K33 : Keep h0 T27.heap [] := K24.trans K27 (allS (Or.inr sz_bY) all0)
  have N27 := Fr.app N11 N27q
  have P34 : ∀ t, Steps p.tables e below (T27.setTop (mkF m 68 #[.val (.long q1), .second, .val (.long q2), .second, .val (.int p3), .val (.int mode), .val (.long cx), .second, .val (.int kind), .val (.ref bX), .unset, .unset, .unset] [(.ref bY)])) t → Steps p.tables e below (s₁.setTop (entryFrame m #[(.long q1), (.long q2), (.int p3)] maxLocals)) t := fun t k => P26 _ (st27.trans k)
  have P35 : ∀ t, Steps p.tables e below (T27.setTop (mkF m 71 #[.val (.long q1), .second, .val (.long q2), .second, .val (.int p3), .val (.int mode), .val (.long cx), .second, .val (.int kind), .val (.ref bX), .val (.ref bY), .unset, .unset] [(.long q1)])) t → Steps p.tables e below (s₁.setTop (entryFrame m #[(.long q1), (.long q2), (.int p3)] maxLocals)) t := by
    intro t k
    refine P34 _ ?_
    refine XS.astore X27.here hx rfl (hb hby at_68) rfl rfl (l' := #[.val (.long q1), .second, .val (.long q2), .second, .val (.int p3), .val (.int mode), .val (.long cx), .second, .val (.int kind), .val (.ref bX), .val (.ref bY), .unset, .unset]) rfl ?_
    show Steps p.tables e below (T27.setTop (mkF m 70 #[.val (.long q1), .second, .val (.long q2), .second, .val (.int p3), .val (.int mode), .val (.long cx), .second, .val (.int kind), .val (.ref bX), .val (.ref bY), .unset, .unset] [])) _
    refine XT.lloadN X27.here hx rfl (hb hby at_70) rfl ?_
    show Steps p.tables e below (T27.setTop (mkF m 71 #[.val (.long q1), .second, .val (.long q2), .second, .val (.int p3), .val (.int mode), .val (.long cx), .second, .val (.int kind), .val (.ref bX), .val (.ref bY), .unset, .unset] [(.long q1)])) _
    exact k
  obtain ⟨_, _, ⟨T36, L36, k36, n36⟩, -, X36, ⟨Lc36, hQ36, l36, y36, z36⟩, st36⟩ := Jvm.LawKit.callS X27 hx (y := (⟨"java/lang/Long", "valueOf", "(J)Ljava/lang/Long;"⟩ : MethodName)) hown (mvT hZ (hw _ (List.mem_of_getElem? (i := 11) rfl))) (mvT hZ (hw _ (List.mem_of_getElem? (i := 12) rfl))) (mvT hZ (hw _ (List.mem_of_getElem? (i := 13) rfl))) (mvT hZ (hw _ (List.mem_of_getElem? (i := 14) rfl))) (by decide) (backOf (W := 0) (rm4 l Z a0 hw [] q1  T27.heap n0 Z32 (own_cache_ext F28.2 hC)) hZ (hw _ (List.mem_of_getElem? (i := 14) rfl)) (hw _ (List.mem_of_getElem? (i := 13) rfl)) (by decide) (by decide)) (g := (mkF m 71 #[.val (.long q1), .second, .val (.long q2), .second, .val (.int p3), .val (.int mode), .val (.long cx), .second, .val (.int kind), .val (.ref bX), .val (.ref bY), .unset, .unset] [(.long q1)])) rfl (by rw [hml]; rfl) (argsL := [(.long q1)]) (rest := []) (lenOf pd_2 rfl) rfl (by show 2 * 0 + _ ≤ _; exact Nat.le_of_eq rfl) (hb hby at_71) (fun _ _ => ⟨rfl, rfl, (by decide : 2 + 1 ≤ _), (by decide : 2 + 1 ≤ _)⟩)
  dsimp only [Pt.U, Pt.locs, Pt.cells, Pt.slots] at X36 l36 y36 z36 st36 hQ36
  subst l36 y36 z36
  obtain ⟨bx, rfl, N36q, K36, Ebx⟩ := hQ36
  have F37 : Old Z n0 T36.heap := F28.keep K36 all0
  have F38 : Exa Z T36.heap bX "com/example/watchful_controller/watchfulcontroller/model/MacAddress" := F29.keep K36
  have F39 : Fld Z T36.heap bX "com/example/watchful_controller/watchfulcontroller/model/MacAddress" "value" "J" (.long q1) := F30.keep K36 nin0
  have F40 : Exa Z T36.heap bY "com/example/watchful_controller/watchfulcontroller/model/MacAddress" := E27.keep K36
  have F41 : Fld Z T36.heap bY "com/example/watchful_controller/watchfulcontroller/model/MacAddress" "value" "J" (.long cx) := Q27_value.keep K36 nin0
  have Z42 : n0 ≤ T36.heap.size := Nat.le_trans Z32 K36.1
  have K43 : Keep h0 T36.heap [] := K33.trans K36 all0
  have N36 := Fr.app N27 N36q
  have P44 : ∀ t, Steps p.tables e below (T36.setTop (mkF m 74 #[.val (.long q1), .second, .val (.long q2), .second, .val (.int p3), .val (.int mode), .val (.long cx), .second, .val (.int kind), .val (.ref bX), .val (.ref bY), .unset, .unset] [(.ref bx)])) t → Steps p.tables e below (s₁.setTop (entryFrame m #[(.long q1), (.long q2), (.int p3)] maxLocals)) t := fun t k => P35 _ (st36 _ k)
  have P45 : ∀ t, Steps p.tables e below (T36.setTop (mkF m 78 #[.val (.long q1), .second, .val (.long q2), .second, .val (.int p3), .val (.int mode), .val (.long cx), .second, .val (.int kind), .val (.ref bX), .val (.ref bY), .val (.ref bx), .unset] [(.int kind)])) t → Steps p.tables e below (s₁.setTop (entryFrame m #[(.long q1), (.long q2), (.int p3)] maxLocals)) t := by
    intro t k
    refine P44 _ ?_
    refine XS.astore X36.here hx rfl (hb hby at_74) rfl rfl (l' := #[.val (.long q1), .second, .val (.long q2), .second, .val (.int p3), .val (.int mode), .val (.long cx), .second, .val (.int kind), .val (.ref bX), .val (.ref bY), .val (.ref bx), .unset]) rfl ?_
    show Steps p.tables e below (T36.setTop (mkF m 76 #[.val (.long q1), .second, .val (.long q2), .second, .val (.int p3), .val (.int mode), .val (.long cx), .second, .val (.int kind), .val (.ref bX), .val (.ref bY), .val (.ref bx), .unset] [])) _
    refine XS.iload X36.here hx rfl (hb hby at_76) rfl ?_
    show Steps p.tables e below (T36.setTop (mkF m 78 #[.val (.long q1), .second, .val (.long q2), .second, .val (.int p3), .val (.int mode), .val (.long cx), .second, .val (.int kind), .val (.ref bX), .val (.ref bY), .val (.ref bx), .unset] [(.int kind)])) _
    exact k
  by_cases c78 : kind = (0 : Int32)
  · have P46 : ∀ t, Steps p.tables e below (T36.setTop (mkF m 93 #[.val (.long q1), .second, .val (.long q2), .second, .val (.int p3), .val (.int mode), .val (.long cx), .second, .val (.int kind), .val (.ref bX), .val (.ref bY), .val (.ref bx), .unset] [(.int (if q1 = cx then (1 : Int32) else (0 : Int32)))])) t → Steps p.tables e below (s₁.setTop (entryFrame m #[(.long q1), (.long q2), (.int p3)] maxLocals)) t := by
      intro t k
      refine P45 _ ?_
      refine XS.ifNo X36.here hx rfl (hb hby at_78) rfl (XT.i0_ne_f c78) ?_
      show Steps p.tables e below (T36.setTop (mkF m 81 #[.val (.long q1), .second, .val (.long q2), .second, .val (.int p3), .val (.int mode), .val (.long cx), .second, .val (.int kind), .val (.ref bX), .val (.ref bY), .val (.ref bx), .unset] [])) _
      refine XT.lloadN X36.here hx rfl (hb hby at_81) rfl ?_
      show Steps p.tables e below (T36.setTop (mkF m 82 #[.val (.long q1), .second, .val (.long q2), .second, .val (.int p3), .val (.int mode), .val (.long cx), .second, .val (.int kind), .val (.ref bX), .val (.ref bY), .val (.ref bx), .unset] [(.long q1)])) _
      refine XT.lload X36.here hx rfl (hb hby at_82) rfl ?_
      show Steps p.tables e below (T36.setTop (mkF m 84 #[.val (.long q1), .second, .val (.long q2), .second, .val (.int p3), .val (.int mode), .val (.long cx), .second, .val (.int kind), .val (.ref bX), .val (.ref bY), .val (.ref bx), .unset] [(.long cx), (.long q1)])) _
      refine XT.lcmp X36.here hx rfl (hb hby at_84) rfl ?_
      show Steps p.tables e below (T36.setTop (mkF m 85 #[.val (.long q1), .second, .val (.long q2), .second, .val (.int p3), .val (.int mode), .val (.long cx), .second, .val (.int kind), .val (.ref bX), .val (.ref bY), .val (.ref bx), .unset] [(.int (XT.cmpL q1 cx))])) _
      by_cases c85 : q1 = cx
      · try simp only [if_pos c85] at k
        refine XS.ifNo X36.here hx rfl (hb hby at_85) rfl (XT.ll_ne_f c85) ?_
        show Steps p.tables e below (T36.setTop (mkF m 88 #[.val (.long q1), .second, .val (.long q2), .second, .val (.int p3), .val (.int mode), .val (.long cx), .second, .val (.int kind), .val (.ref bX), .val (.ref bY), .val (.ref bx), .unset] [])) _
        refine XS.iconst X36.here hx rfl (hb hby at_88) ?_
        show Steps p.tables e below (T36.setTop (mkF m 89 #[.val (.long q1), .second, .val (.long q2), .second, .val (.int p3), .val (.int mode), .val (.long cx), .second, .val (.int kind), .val (.ref bX), .val (.ref bY), .val (.ref bx), .unset] [(.int (1 : Int32))])) _
        refine XS.goto X36.here hx rfl (pc0 := 89) (pc' := 93) rfl (hb hby at_89) (by decide) (by decide) ?_
        show Steps p.tables e below (T36.setTop (mkF m 93 #[.val (.long q1), .second, .val (.long q2), .second, .val (.int p3), .val (.int mode), .val (.long cx), .second, .val (.int kind), .val (.ref bX), .val (.ref bY), .val (.ref bx), .unset] [(.int (1 : Int32))])) _
        exact k
      · try simp only [if_neg c85] at k
        refine XS.ifYes X36.here hx rfl (pc0 := 85) (pc' := 92) rfl (hb hby at_85) rfl (XT.ll_ne_t c85) (by decide) (by decide) ?_
        show Steps p.tables e below (T36.setTop (mkF m 92 #[.val (.long q1), .second, .val (.long q2), .second, .val (.int p3), .val (.int mode), .val (.long cx), .second, .val (.int kind), .val (.ref bX), .val (.ref bY), .val (.ref bx), .unset] [])) _
        refine XS.iconst X36.here hx rfl (hb hby at_92) ?_
        show Steps p.tables e below (T36.setTop (mkF m 93 #[.val (.long q1), .second, .val (.long q2), .second, .val (.int p3), .val (.int mode), .val (.long cx), .second, .val (.int kind), .val (.ref bX), .val (.ref bY), .val (.ref bx), .unset] [(.int (0 : Int32))])) _
        exact k
    obtain ⟨ex, hex⟩ : ∃ z : Int32, z = (if q1 = cx then (1 : Int32) else (0 : Int32)) := ⟨_, rfl⟩
    rw [← hex] at P46
    have P47 : ∀ t, Steps p.tables e below (T36.setTop (mkF m 99 #[.val (.long q1), .second, .val (.long q2), .second, .val (.int p3), .val (.int mode), .val (.long cx), .second, .val (.int kind), .val (.ref bX), .val (.ref bY), .val (.ref bx), .val (.int ex)] [(.ref bY), (.ref bX)])) t → Steps p.tables e below (s₁.setTop (entryFrame m #[(.long q1), (.long q2), (.int p3)] maxLocals)) t := by
      intro t k
      refine P46 _ ?_
      refine XS.istore X36.here hx rfl (hb hby at_93) rfl (l' := #[.val (.long q1), .second, .val (.long q2), .second, .val (.int p3), .val (.int mode), .val (.long cx), .second, .val (.int kind), .val (.ref bX), .val (.ref bY), .val (.ref bx), .val (.int ex)]) rfl ?_
      show Steps p.tables e below (T36.setTop (mkF m 95 #[.val (.long q1), .second, .val (.long q2), .second, .val (.int p3), .val (.int mode), .val (.long cx), .second, .val (.int kind), .val (.ref bX), .val (.ref bY), .val (.ref bx), .val (.int ex)] [])) _
      refine XS.aload X36.here hx rfl (hb hby at_95) rfl rfl ?_
      show Steps p.tables e below (T36.setTop (mkF m 97 #[.val (.long q1), .second, .val (.long q2), .second, .val (.int p3), .val (.int mode), .val (.long cx), .second, .val (.int kind), .val (.ref bX), .val (.ref bY), .val (.ref bx), .val (.int ex)] [(.ref bX)])) _
      refine XS.aload X36.here hx rfl (hb hby at_97) rfl rfl ?_
      show Steps p.tables e below (T36.setTop (mkF m 99 #[.val (.long q1), .second, .val (.long q2), .second, .val (.int p3), .val (.int mode), .val (.long cx), .second, .val (.int kind), .val (.ref bX), .val (.ref bY), .val (.ref bx), .val (.int ex)] [(.ref bY), (.ref bX)])) _
      exact k
    obtain ⟨cq48, kq48, qa48, qb48, qc48⟩ := isOf hZ rfl F38
    obtain ⟨_, _, ⟨T48, L48, k48, n48⟩, -, X48, ⟨Lc48, hQ48, l48, y48, z48⟩, st48⟩ := X36.virtualBack hx (y := (⟨"com/example/watchful_controller/watchfulcontroller/model/MacAddress", "equals", "(Ljava/lang/Object;)Z"⟩ : MethodName)) (z := (⟨"com/example/watchful_controller/watchfulcontroller/model/MacAddress", "equals", "(Ljava/lang/Object;)Z"⟩ : MethodName)) hown (mvT hZ (hw _ (List.mem_of_getElem? (i := 19) rfl))) (mvT hZ (hw _ (List.mem_of_getElem? (i := 20) rfl))) (notFace_of_selects (args := #[]) (mvT hZ (hw _ (List.mem_of_getElem? (i := 22) rfl)))) (mvT hZ (hw _ (List.mem_of_getElem? (i := 22) rfl))) (mvT hZ (hw _ (List.mem_of_getElem? (i := 21) rfl))) (by decide) (backOf (W := 0) (rm5 l Z a0 hw [] bX bY q1 cx T36.heap n0 Z42 F39 F41 F40) hZ (hw _ (List.mem_of_getElem? (i := 23) rfl)) (hw _ (List.mem_of_getElem? (i := 2) rfl)) (by decide) (by decide)) qa48 qc48 (g := (mkF m 99 #[.val (.long q1), .second, .val (.long q2), .second, .val (.int p3), .val (.int mode), .val (.long cx), .second, .val (.int kind), .val (.ref bX), .val (.ref bY), .val (.ref bx), .val (.int ex)] [(.ref bY), (.ref bX)])) rfl (by rw [hml]; rfl) (Steps.refl _) (argsL := [(.ref bY)]) (rest := []) (lenOf pd_3 rfl) rfl (by show 2 * 0 + _ ≤ _; exact Nat.le_of_eq rfl) (hb hby at_99) (fun _ _ => ⟨rfl, rfl, (by decide : 3 + 0 ≤ _), (by decide : 3 + 0 ≤ _)⟩)
    dsimp only [Pt.U, Pt.locs, Pt.cells, Pt.slots] at X48 l48 y48 z48 st48 hQ48
    subst l48 y48 z48
    obtain ⟨rfl, N48q, e48⟩ := hQ48
    have N48 := Fr.app N36 N48q
    have P49 : ∀ t, Steps p.tables e below (T48.setTop (mkF m 102 #[.val (.long q1), .second, .val (.long q2), .second, .val (.int p3), .val (.int mode), .val (.long cx), .second, .val (.int kind), .val (.ref bX), .val (.ref bY), .val (.ref bx), .val (.int ex)] [(.int (if cx = q1 then (1 : Int32) else (0 : Int32)))])) t → Steps p.tables e below (s₁.setTop (entryFrame m #[(.long q1), (.long q2), (.int p3)] maxLocals)) t := fun t k => P47 _ (st48.trans k)
    obtain ⟨r1, hr1⟩ : ∃ z : Int32, z = (if cx = q1 then (1 : Int32) else (0 : Int32)) := ⟨_, rfl⟩
    rw [← hr1] at P49
    have r1e : r1 = ex := by rw [hr1, hex]; exact own_sw
    have P50 : ∀ t, Steps p.tables e below (T48.setTop (mkF m 111 #[.val (.long q1), .second, .val (.long q2), .second, .val (.int p3), .val (.int mode), .val (.long cx), .second, .val (.int kind), .val (.ref bX), .val (.ref bY), .val (.ref bx), .val (.int ex)] [(.ref bX), (.ref bY)])) t → Steps p.tables e below (s₁.setTop (entryFrame m #[(.long q1), (.long q2), (.int p3)] maxLocals)) t := by
      intro t k
      refine P49 _ ?_
      refine XS.iload X48.here hx rfl (hb hby at_102) rfl ?_
      show Steps p.tables e below (T48.setTop (mkF m 104 #[.val (.long q1), .second, .val (.long q2), .second, .val (.int p3), .val (.int mode), .val (.long cx), .second, .val (.int kind), .val (.ref bX), .val (.ref bY), .val (.ref bx), .val (.int ex)] [(.int ex), (.int r1)])) _
      refine XS.icmpNo X48.here hx rfl (hb hby at_104) rfl (XT.ii_ne_f r1e) ?_
      show Steps p.tables e below (T48.setTop (mkF m 107 #[.val (.long q1), .second, .val (.long q2), .second, .val (.int p3), .val (.int mode), .val (.long cx), .second, .val (.int kind), .val (.ref bX), .val (.ref bY), .val (.ref bx), .val (.int ex)] [])) _
      refine XS.aload X48.here hx rfl (hb hby at_107) rfl rfl ?_
      show Steps p.tables e below (T48.setTop (mkF m 109 #[.val (.long q1), .second, .val (.long q2), .second, .val (.int p3), .val (.int mode), .val (.long cx), .second, .val (.int kind), .val (.ref bX), .val (.ref bY), .val (.ref bx), .val (.int ex)] [(.ref bY)])) _
      refine XS.aload X48.here hx rfl (hb hby at_109) rfl rfl ?_
      show Steps p.tables e below (T48.setTop (mkF m 111 #[.val (.long q1), .second, .val (.long q2), .second, .val (.int p3), .val (.int mode), .val (.long cx), .second, .val (.int kind), .val (.ref bX), .val (.ref bY), .val (.ref bx), .val (.int ex)] [(.ref bX), (.ref bY)])) _
      exact k
    obtain ⟨cq51, kq51, qa51, qb51, qc51⟩ := isOf hZ e48 F40
    obtain ⟨_, _, ⟨T51, L51, k51, n51⟩, -, X51, ⟨Lc51, hQ51, l51, y51, z51⟩, st51⟩ := X48.virtualBack hx (y := (⟨"com/example/watchful_controller/watchfulcontroller/model/MacAddress", "equals", "(Ljava/lang/Object;)Z"⟩ : MethodName)) (z := (⟨"com/example/watchful_controller/watchfulcontroller/model/MacAddress", "equals", "(Ljava/lang/Object;)Z"⟩ : MethodName)) hown (mvT hZ (hw _ (List.mem_of_getElem? (i := 19) rfl))) (mvT hZ (hw _ (List.mem_of_getElem? (i := 20) rfl))) (notFace_of_selects (args := #[]) (mvT hZ (hw _ (List.mem_of_getElem? (i := 22) rfl)))) (mvT hZ (hw _ (List.mem_of_getElem? (i := 22) rfl))) (mvT hZ (hw _ (List.mem_of_getElem? (i := 21) rfl))) (by decide) (backOf (W := 0) (rm5 l Z a0 hw [] bY bX cx q1 T36.heap n0 Z42 F41 F39 F38) hZ (hw _ (List.mem_of_getElem? (i := 23) rfl)) (hw _ (List.mem_of_getElem? (i := 2) rfl)) (by decide) (by decide)) qa51 qc51 (g := (mkF m 111 #[.val (.long q1), .second, .val (.long q2), .second, .val (.int p3), .val (.int mode), .val (.long cx), .second, .val (.int kind), .val (.ref bX), .val (.ref bY), .val (.ref bx), .val (.int ex)] [(.ref bX), (.ref bY)])) rfl (by rw [hml]; rfl) (Steps.refl _) (argsL := [(.ref bX)]) (rest := []) (lenOf pd_3 rfl) rfl (by show 2 * 0 + _ ≤ _; exact Nat.le_of_eq rfl) (hb hby at_111) (fun _ _ => ⟨rfl, e48, (by decide : 3 + 0 ≤ _), (by decide : 3 + 0 ≤ _)⟩)
    dsimp only [Pt.U, Pt.locs, Pt.cells, Pt.slots] at X51 l51 y51 z51 st51 hQ51
    subst l51 y51 z51
    obtain ⟨rfl, N51q, e51⟩ := hQ51
    have N51 := Fr.app N48 N51q
    have P52 : ∀ t, Steps p.tables e below (T51.setTop (mkF m 114 #[.val (.long q1), .second, .val (.long q2), .second, .val (.int p3), .val (.int mode), .val (.long cx), .second, .val (.int kind), .val (.ref bX), .val (.ref bY), .val (.ref bx), .val (.int ex)] [(.int (if q1 = cx then (1 : Int32) else (0 : Int32)))])) t → Steps p.tables e below (s₁.setTop (entryFrame m #[(.long q1), (.long q2), (.int p3)] maxLocals)) t := fun t k => P50 _ (st51.trans k)
    obtain ⟨r2, hr2⟩ : ∃ z : Int32, z = (if q1 = cx then (1 : Int32) else (0 : Int32)) := ⟨_, rfl⟩
    rw [← hr2] at P52
    have r2e : r2 = ex := by rw [hr2, hex]
    have P53 : ∀ t, Steps p.tables e below (T51.setTop (mkF m 124 #[.val (.long q1), .second, .val (.long q2), .second, .val (.int p3), .val (.int mode), .val (.long cx), .second, .val (.int kind), .val (.ref bX), .val (.ref bY), .val (.ref bx), .val (.int ex)] [(.int (1 : Int32))])) t → Steps p.tables e below (s₁.setTop (entryFrame m #[(.long q1), (.long q2), (.int p3)] maxLocals)) t := by
      intro t k
      refine P52 _ ?_
      refine XS.iload X51.here hx rfl (hb hby at_114) rfl ?_
      show Steps p.tables e below (T51.setTop (mkF m 116 #[.val (.long q1), .second, .val (.long q2), .second, .val (.int p3), .val (.int mode), .val (.long cx), .second, .val (.int kind), .val (.ref bX), .val (.ref bY), .val (.ref bx), .val (.int ex)] [(.int ex), (.int r2)])) _
      refine XS.icmpNo X51.here hx rfl (hb hby at_116) rfl (XT.ii_ne_f r2e) ?_
      show Steps p.tables e below (T51.setTop (mkF m 119 #[.val (.long q1), .second, .val (.long q2), .second, .val (.int p3), .val (.int mode), .val (.long cx), .second, .val (.int kind), .val (.ref bX), .val (.ref bY), .val (.ref bx), .val (.int ex)] [])) _
      refine XS.iconst X51.here hx rfl (hb hby at_119) ?_
      show Steps p.tables e below (T51.setTop (mkF m 120 #[.val (.long q1), .second, .val (.long q2), .second, .val (.int p3), .val (.int mode), .val (.long cx), .second, .val (.int kind), .val (.ref bX), .val (.ref bY), .val (.ref bx), .val (.int ex)] [(.int (1 : Int32))])) _
      refine XS.goto X51.here hx rfl (pc0 := 120) (pc' := 124) rfl (hb hby at_120) (by decide) (by decide) ?_
      show Steps p.tables e below (T51.setTop (mkF m 124 #[.val (.long q1), .second, .val (.long q2), .second, .val (.int p3), .val (.int mode), .val (.long cx), .second, .val (.int kind), .val (.ref bX), .val (.ref bY), .val (.ref bx), .val (.int ex)] [(.int (1 : Int32))])) _
      exact k
    obtain ⟨fs, hr, hrun, hended, hW, hsame⟩ := X51.leave (v := some (.int (1 : Int32))) (fun h => by rw [Bd.returns] at h; cases h)
    refine ⟨_, _, P53 _ ?_, hrun, hended, _, _, rfl, ?_, ⟨_, rfl⟩, hW, hsame.mono (by decide) (by decide)⟩
    · exact retN X51 hx (t := .boolean) Bd.returns (by simp) (hb hby at_124) hr
    · show Q0 Z q1 q2 p3 h0 n0 _ T51.heap _
      rw [e51]
      exact ⟨rfl, N51⟩
  · have P54 : ∀ t, Steps p.tables e below (T36.setTop (mkF m 128 #[.val (.long q1), .second, .val (.long q2), .second, .val (.int p3), .val (.int mode), .val (.long cx), .second, .val (.int kind), .val (.ref bX), .val (.ref bY), .val (.ref bx), .unset] [(.int (1 : Int32)), (.int kind)])) t → Steps p.tables e below (s₁.setTop (entryFrame m #[(.long q1), (.long q2), (.int p3)] maxLocals)) t := by
      intro t k
      refine P45 _ ?_
      refine XS.ifYes X36.here hx rfl (pc0 := 78) (pc' := 125) rfl (hb hby at_78) rfl (XT.i0_ne_t c78) (by decide) (by decide) ?_
      show Steps p.tables e below (T36.setTop (mkF m 125 #[.val (.long q1), .second, .val (.long q2), .second, .val (.int p3), .val (.int mode), .val (.long cx), .second, .val (.int kind), .val (.ref bX), .val (.ref bY), .val (.ref bx), .unset] [])) _
      refine XS.iload X36.here hx rfl (hb hby at_125) rfl ?_
      show Steps p.tables e below (T36.setTop (mkF m 127 #[.val (.long q1), .second, .val (.long q2), .second, .val (.int p3), .val (.int mode), .val (.long cx), .second, .val (.int kind), .val (.ref bX), .val (.ref bY), .val (.ref bx), .unset] [(.int kind)])) _
      refine XS.iconst X36.here hx rfl (hb hby at_127) ?_
      show Steps p.tables e below (T36.setTop (mkF m 128 #[.val (.long q1), .second, .val (.long q2), .second, .val (.int p3), .val (.int mode), .val (.long cx), .second, .val (.int kind), .val (.ref bX), .val (.ref bY), .val (.ref bx), .unset] [(.int (1 : Int32)), (.int kind)])) _
      exact k
    by_cases c128 : kind = (1 : Int32)
    · have P55 : ∀ t, Steps p.tables e below (T36.setTop (mkF m 135 #[.val (.long q1), .second, .val (.long q2), .second, .val (.int p3), .val (.int mode), .val (.long cx), .second, .val (.int kind), .val (.ref bX), .val (.ref bY), .val (.ref bx), .unset] [(.ref bX), (.ref bX)])) t → Steps p.tables e below (s₁.setTop (entryFrame m #[(.long q1), (.long q2), (.int p3)] maxLocals)) t := by
        intro t k
        refine P54 _ ?_
        refine XS.icmpNo X36.here hx rfl (hb hby at_128) rfl (XT.ii_ne_f c128) ?_
        show Steps p.tables e below (T36.setTop (mkF m 131 #[.val (.long q1), .second, .val (.long q2), .second, .val (.int p3), .val (.int mode), .val (.long cx), .second, .val (.int kind), .val (.ref bX), .val (.ref bY), .val (.ref bx), .unset] [])) _
        refine XS.aload X36.here hx rfl (hb hby at_131) rfl rfl ?_
        show Steps p.tables e below (T36.setTop (mkF m 133 #[.val (.long q1), .second, .val (.long q2), .second, .val (.int p3), .val (.int mode), .val (.long cx), .second, .val (.int kind), .val (.ref bX), .val (.ref bY), .val (.ref bx), .unset] [(.ref bX)])) _
        refine XS.aload X36.here hx rfl (hb hby at_133) rfl rfl ?_
        show Steps p.tables e below (T36.setTop (mkF m 135 #[.val (.long q1), .second, .val (.long q2), .second, .val (.int p3), .val (.int mode), .val (.long cx), .second, .val (.int kind), .val (.ref bX), .val (.ref bY), .val (.ref bx), .unset] [(.ref bX), (.ref bX)])) _
        exact k
      obtain ⟨cq56, kq56, qa56, qb56, qc56⟩ := isOf hZ rfl F38
      obtain ⟨_, _, ⟨T56, L56, k56, n56⟩, -, X56, ⟨Lc56, hQ56, l56, y56, z56⟩, st56⟩ := X36.virtualBack hx (y := (⟨"com/example/watchful_controller/watchfulcontroller/model/MacAddress", "equals", "(Ljava/lang/Object;)Z"⟩ : MethodName)) (z := (⟨"com/example/watchful_controller/watchfulcontroller/model/MacAddress", "equals", "(Ljava/lang/Object;)Z"⟩ : MethodName)) hown (mvT hZ (hw _ (List.mem_of_getElem? (i := 19) rfl))) (mvT hZ (hw _ (List.mem_of_getElem? (i := 20) rfl))) (notFace_of_selects (args := #[]) (mvT hZ (hw _ (List.mem_of_getElem? (i := 22) rfl)))) (mvT hZ (hw _ (List.mem_of_getElem? (i := 22) rfl))) (mvT hZ (hw _ (List.mem_of_getElem? (i := 21) rfl))) (by decide) (backOf (W := 0) (rm5 l Z a0 hw [] bX bX q1 q1 T36.heap n0 Z42 F39 F39 F38) hZ (hw _ (List.mem_of_getElem? (i := 23) rfl)) (hw _ (List.mem_of_getElem? (i := 2) rfl)) (by decide) (by decide)) qa56 qc56 (g := (mkF m 135 #[.val (.long q1), .second, .val (.long q2), .second, .val (.int p3), .val (.int mode), .val (.long cx), .second, .val (.int kind), .val (.ref bX), .val (.ref bY), .val (.ref bx), .unset] [(.ref bX), (.ref bX)])) rfl (by rw [hml]; rfl) (Steps.refl _) (argsL := [(.ref bX)]) (rest := []) (lenOf pd_3 rfl) rfl (by show 2 * 0 + _ ≤ _; exact Nat.le_of_eq rfl) (hb hby at_135) (fun _ _ => ⟨rfl, rfl, (by decide : 3 + 0 ≤ _), (by decide : 3 + 0 ≤ _)⟩)
      dsimp only [Pt.U, Pt.locs, Pt.cells, Pt.slots] at X56 l56 y56 z56 st56 hQ56
      subst l56 y56 z56
      obtain ⟨rfl, N56q, e56⟩ := hQ56
      have N56 := Fr.app N36 N56q
      have P57 : ∀ t, Steps p.tables e below (T56.setTop (mkF m 138 #[.val (.long q1), .second, .val (.long q2), .second, .val (.int p3), .val (.int mode), .val (.long cx), .second, .val (.int kind), .val (.ref bX), .val (.ref bY), .val (.ref bx), .unset] [(.int (if q1 = q1 then (1 : Int32) else (0 : Int32)))])) t → Steps p.tables e below (s₁.setTop (entryFrame m #[(.long q1), (.long q2), (.int p3)] maxLocals)) t := fun t k => P55 _ (st56.trans k)
      obtain ⟨r3, hr3⟩ : ∃ z : Int32, z = (if q1 = q1 then (1 : Int32) else (0 : Int32)) := ⟨_, rfl⟩
      rw [← hr3] at P57
      obtain ⟨fs, hr, hrun, hended, hW, hsame⟩ := X56.leave (v := some (.int (nar .boolean r3))) (fun h => by rw [Bd.returns] at h; cases h)
      refine ⟨_, _, P57 _ ?_, hrun, hended, _, _, rfl, ?_, ⟨_, rfl⟩, hW, hsame.mono (by decide) (by decide)⟩
      · exact retN X56 hx (t := .boolean) Bd.returns (by simp) (hb hby at_138) hr
      · show Q0 Z q1 q2 p3 h0 n0 _ T56.heap _
        rw [e56]
        exact ⟨by rw [hr3, if_pos rfl]; rfl, N56⟩
    · have P58 : ∀ t, Steps p.tables e below (T36.setTop (mkF m 142 #[.val (.long q1), .second, .val (.long q2), .second, .val (.int p3), .val (.int mode), .val (.long cx), .second, .val (.int kind), .val (.ref bX), .val (.ref bY), .val (.ref bx), .unset] [(.int (2 : Int32)), (.int kind)])) t → Steps p.tables e below (s₁.setTop (entryFrame m #[(.long q1), (.long q2), (.int p3)] maxLocals)) t := by
        intro t k
        refine P54 _ ?_
        refine XS.icmpYes X36.here hx rfl (pc0 := 128) (pc' := 139) rfl (hb hby at_128) rfl (XT.ii_ne_t c128) (by decide) (by decide) ?_
        show Steps p.tables e below (T36.setTop (mkF m 139 #[.val (.long q1), .second, .val (.long q2), .second, .val (.int p3), .val (.int mode), .val (.long cx), .second, .val (.int kind), .val (.ref bX), .val (.ref bY), .val (.ref bx), .unset] [])) _
        refine XS.iload X36.here hx rfl (hb hby at_139) rfl ?_
        show Steps p.tables e below (T36.setTop (mkF m 141 #[.val (.long q1), .second, .val (.long q2), .second, .val (.int p3), .val (.int mode), .val (.long cx), .second, .val (.int kind), .val (.ref bX), .val (.ref bY), .val (.ref bx), .unset] [(.int kind)])) _
        refine XS.iconst X36.here hx rfl (hb hby at_141) ?_
        show Steps p.tables e below (T36.setTop (mkF m 142 #[.val (.long q1), .second, .val (.long q2), .second, .val (.int p3), .val (.int mode), .val (.long cx), .second, .val (.int kind), .val (.ref bX), .val (.ref bY), .val (.ref bx), .unset] [(.int (2 : Int32)), (.int kind)])) _
        exact k
      by_cases c142 : kind = (2 : Int32)
      · have P59 : ∀ t, Steps p.tables e below (T36.setTop (mkF m 148 #[.val (.long q1), .second, .val (.long q2), .second, .val (.int p3), .val (.int mode), .val (.long cx), .second, .val (.int kind), .val (.ref bX), .val (.ref bY), .val (.ref bx), .unset] [.null, (.ref bX)])) t → Steps p.tables e below (s₁.setTop (entryFrame m #[(.long q1), (.long q2), (.int p3)] maxLocals)) t := by
          intro t k
          refine P58 _ ?_
          refine XS.icmpNo X36.here hx rfl (hb hby at_142) rfl (XT.ii_ne_f c142) ?_
          show Steps p.tables e below (T36.setTop (mkF m 145 #[.val (.long q1), .second, .val (.long q2), .second, .val (.int p3), .val (.int mode), .val (.long cx), .second, .val (.int kind), .val (.ref bX), .val (.ref bY), .val (.ref bx), .unset] [])) _
          refine XS.aload X36.here hx rfl (hb hby at_145) rfl rfl ?_
          show Steps p.tables e below (T36.setTop (mkF m 147 #[.val (.long q1), .second, .val (.long q2), .second, .val (.int p3), .val (.int mode), .val (.long cx), .second, .val (.int kind), .val (.ref bX), .val (.ref bY), .val (.ref bx), .unset] [(.ref bX)])) _
          refine XS.aconstNull X36.here hx rfl (hb hby at_147) ?_
          show Steps p.tables e below (T36.setTop (mkF m 148 #[.val (.long q1), .second, .val (.long q2), .second, .val (.int p3), .val (.int mode), .val (.long cx), .second, .val (.int kind), .val (.ref bX), .val (.ref bY), .val (.ref bx), .unset] [.null, (.ref bX)])) _
          exact k
        obtain ⟨cq60, kq60, qa60, qb60, qc60⟩ := isOf hZ rfl F38
        obtain ⟨_, _, ⟨T60, L60, k60, n60⟩, -, X60, ⟨Lc60, hQ60, l60, y60, z60⟩, st60⟩ := X36.virtualBack hx (y := (⟨"com/example/watchful_controller/watchfulcontroller/model/MacAddress", "equals", "(Ljava/lang/Object;)Z"⟩ : MethodName)) (z := (⟨"com/example/watchful_controller/watchfulcontroller/model/MacAddress", "equals", "(Ljava/lang/Object;)Z"⟩ : MethodName)) hown (mvT hZ (hw _ (List.mem_of_getElem? (i := 19) rfl))) (mvT hZ (hw _ (List.mem_of_getElem? (i := 20) rfl))) (notFace_of_selects (args := #[]) (mvT hZ (hw _ (List.mem_of_getElem? (i := 22) rfl)))) (mvT hZ (hw _ (List.mem_of_getElem? (i := 22) rfl))) (mvT hZ (hw _ (List.mem_of_getElem? (i := 21) rfl))) (by decide) (backOf (W := 0) (rm6 l Z a0 hw [] bX  T36.heap n0 Z42 ) hZ (hw _ (List.mem_of_getElem? (i := 23) rfl)) (hw _ (List.mem_of_getElem? (i := 2) rfl)) (by decide) (by decide)) qa60 qc60 (g := (mkF m 148 #[.val (.long q1), .second, .val (.long q2), .second, .val (.int p3), .val (.int mode), .val (.long cx), .second, .val (.int kind), .val (.ref bX), .val (.ref bY), .val (.ref bx), .unset] [.null, (.ref bX)])) rfl (by rw [hml]; rfl) (Steps.refl _) (argsL := [.null]) (rest := []) (lenOf pd_3 rfl) rfl (by show 2 * 0 + _ ≤ _; exact Nat.le_of_eq rfl) (hb hby at_148) (fun _ _ => ⟨rfl, rfl, (by decide : 3 + 0 ≤ _), (by decide : 3 + 0 ≤ _)⟩)
        dsimp only [Pt.U, Pt.locs, Pt.cells, Pt.slots] at X60 l60 y60 z60 st60 hQ60
        subst l60 y60 z60
        obtain ⟨rfl, N60q, e60⟩ := hQ60
        have N60 := Fr.app N36 N60q
        have P61 : ∀ t, Steps p.tables e below (T60.setTop (mkF m 151 #[.val (.long q1), .second, .val (.long q2), .second, .val (.int p3), .val (.int mode), .val (.long cx), .second, .val (.int kind), .val (.ref bX), .val (.ref bY), .val (.ref bx), .unset] [(.int (0 : Int32))])) t → Steps p.tables e below (s₁.setTop (entryFrame m #[(.long q1), (.long q2), (.int p3)] maxLocals)) t := fun t k => P59 _ (st60.trans k)
        have P62 : ∀ t, Steps p.tables e below (T60.setTop (mkF m 159 #[.val (.long q1), .second, .val (.long q2), .second, .val (.int p3), .val (.int mode), .val (.long cx), .second, .val (.int kind), .val (.ref bX), .val (.ref bY), .val (.ref bx), .unset] [(.int (1 : Int32))])) t → Steps p.tables e below (s₁.setTop (entryFrame m #[(.long q1), (.long q2), (.int p3)] maxLocals)) t := by
          intro t k
          refine P61 _ ?_
          refine XS.ifNo X60.here hx rfl (hb hby at_151) rfl (XT.i0_ne_f (by decide)) ?_
          show Steps p.tables e below (T60.setTop (mkF m 154 #[.val (.long q1), .second, .val (.long q2), .second, .val (.int p3), .val (.int mode), .val (.long cx), .second, .val (.int kind), .val (.ref bX), .val (.ref bY), .val (.ref bx), .unset] [])) _
          refine XS.iconst X60.here hx rfl (hb hby at_154) ?_
          show Steps p.tables e below (T60.setTop (mkF m 155 #[.val (.long q1), .second, .val (.long q2), .second, .val (.int p3), .val (.int mode), .val (.long cx), .second, .val (.int kind), .val (.ref bX), .val (.ref bY), .val (.ref bx), .unset] [(.int (1 : Int32))])) _
          refine XS.goto X60.here hx rfl (pc0 := 155) (pc' := 159) rfl (hb hby at_155) (by decide) (by decide) ?_
          show Steps p.tables e below (T60.setTop (mkF m 159 #[.val (.long q1), .second, .val (.long q2), .second, .val (.int p3), .val (.int mode), .val (.long cx), .second, .val (.int kind), .val (.ref bX), .val (.ref bY), .val (.ref bx), .unset] [(.int (1 : Int32))])) _
          exact k
        obtain ⟨fs, hr, hrun, hended, hW, hsame⟩ := X60.leave (v := some (.int (1 : Int32))) (fun h => by rw [Bd.returns] at h; cases h)
        refine ⟨_, _, P62 _ ?_, hrun, hended, _, _, rfl, ?_, ⟨_, rfl⟩, hW, hsame.mono (by decide) (by decide)⟩
        · exact retN X60 hx (t := .boolean) Bd.returns (by simp) (hb hby at_159) hr
        · show Q0 Z q1 q2 p3 h0 n0 _ T60.heap _
          rw [e60]
          exact ⟨rfl, N60⟩
      · have P63 : ∀ t, Steps p.tables e below (T36.setTop (mkF m 164 #[.val (.long q1), .second, .val (.long q2), .second, .val (.int p3), .val (.int mode), .val (.long cx), .second, .val (.int kind), .val (.ref bX), .val (.ref bY), .val (.ref bx), .unset] [(.ref bx), (.ref bX)])) t → Steps p.tables e below (s₁.setTop (entryFrame m #[(.long q1), (.long q2), (.int p3)] maxLocals)) t := by
          intro t k
          refine P58 _ ?_
          refine XS.icmpYes X36.here hx rfl (pc0 := 142) (pc' := 160) rfl (hb hby at_142) rfl (XT.ii_ne_t c142) (by decide) (by decide) ?_
          show Steps p.tables e below (T36.setTop (mkF m 160 #[.val (.long q1), .second, .val (.long q2), .second, .val (.int p3), .val (.int mode), .val (.long cx), .second, .val (.int kind), .val (.ref bX), .val (.ref bY), .val (.ref bx), .unset] [])) _
          refine XS.aload X36.here hx rfl (hb hby at_160) rfl rfl ?_
          show Steps p.tables e below (T36.setTop (mkF m 162 #[.val (.long q1), .second, .val (.long q2), .second, .val (.int p3), .val (.int mode), .val (.long cx), .second, .val (.int kind), .val (.ref bX), .val (.ref bY), .val (.ref bx), .unset] [(.ref bX)])) _
          refine XS.aload X36.here hx rfl (hb hby at_162) rfl rfl ?_
          show Steps p.tables e below (T36.setTop (mkF m 164 #[.val (.long q1), .second, .val (.long q2), .second, .val (.int p3), .val (.int mode), .val (.long cx), .second, .val (.int kind), .val (.ref bX), .val (.ref bY), .val (.ref bx), .unset] [(.ref bx), (.ref bX)])) _
          exact k
        obtain ⟨cq64, kq64, qa64, qb64, qc64⟩ := isOf hZ rfl F38
        obtain ⟨_, _, ⟨T64, L64, k64, n64⟩, -, X64, ⟨Lc64, hQ64, l64, y64, z64⟩, st64⟩ := X36.virtualBack hx (y := (⟨"com/example/watchful_controller/watchfulcontroller/model/MacAddress", "equals", "(Ljava/lang/Object;)Z"⟩ : MethodName)) (z := (⟨"com/example/watchful_controller/watchfulcontroller/model/MacAddress", "equals", "(Ljava/lang/Object;)Z"⟩ : MethodName)) hown (mvT hZ (hw _ (List.mem_of_getElem? (i := 19) rfl))) (mvT hZ (hw _ (List.mem_of_getElem? (i := 20) rfl))) (notFace_of_selects (args := #[]) (mvT hZ (hw _ (List.mem_of_getElem? (i := 22) rfl)))) (mvT hZ (hw _ (List.mem_of_getElem? (i := 22) rfl))) (mvT hZ (hw _ (List.mem_of_getElem? (i := 21) rfl))) (by decide) (backOf (W := 0) (rm7 l Z a0 hw [] bX bx  T36.heap n0 Z42 Ebx) hZ (hw _ (List.mem_of_getElem? (i := 23) rfl)) (hw _ (List.mem_of_getElem? (i := 2) rfl)) (by decide) (by decide)) qa64 qc64 (g := (mkF m 164 #[.val (.long q1), .second, .val (.long q2), .second, .val (.int p3), .val (.int mode), .val (.long cx), .second, .val (.int kind), .val (.ref bX), .val (.ref bY), .val (.ref bx), .unset] [(.ref bx), (.ref bX)])) rfl (by rw [hml]; rfl) (Steps.refl _) (argsL := [(.ref bx)]) (rest := []) (lenOf pd_3 rfl) rfl (by show 2 * 0 + _ ≤ _; exact Nat.le_of_eq rfl) (hb hby at_164) (fun _ _ => ⟨rfl, rfl, (by decide : 3 + 0 ≤ _), (by decide : 3 + 0 ≤ _)⟩)
        dsimp only [Pt.U, Pt.locs, Pt.cells, Pt.slots] at X64 l64 y64 z64 st64 hQ64
        subst l64 y64 z64
        obtain ⟨rfl, N64q, e64⟩ := hQ64
        have N64 := Fr.app N36 N64q
        have P65 : ∀ t, Steps p.tables e below (T64.setTop (mkF m 167 #[.val (.long q1), .second, .val (.long q2), .second, .val (.int p3), .val (.int mode), .val (.long cx), .second, .val (.int kind), .val (.ref bX), .val (.ref bY), .val (.ref bx), .unset] [(.int (0 : Int32))])) t → Steps p.tables e below (s₁.setTop (entryFrame m #[(.long q1), (.long q2), (.int p3)] maxLocals)) t := fun t k => P63 _ (st64.trans k)
        have P66 : ∀ t, Steps p.tables e below (T64.setTop (mkF m 175 #[.val (.long q1), .second, .val (.long q2), .second, .val (.int p3), .val (.int mode), .val (.long cx), .second, .val (.int kind), .val (.ref bX), .val (.ref bY), .val (.ref bx), .unset] [(.int (1 : Int32))])) t → Steps p.tables e below (s₁.setTop (entryFrame m #[(.long q1), (.long q2), (.int p3)] maxLocals)) t := by
          intro t k
          refine P65 _ ?_
          refine XS.ifNo X64.here hx rfl (hb hby at_167) rfl (XT.i0_ne_f (by decide)) ?_
          show Steps p.tables e below (T64.setTop (mkF m 170 #[.val (.long q1), .second, .val (.long q2), .second, .val (.int p3), .val (.int mode), .val (.long cx), .second, .val (.int kind), .val (.ref bX), .val (.ref bY), .val (.ref bx), .unset] [])) _
          refine XS.iconst X64.here hx rfl (hb hby at_170) ?_
          show Steps p.tables e below (T64.setTop (mkF m 171 #[.val (.long q1), .second, .val (.long q2), .second, .val (.int p3), .val (.int mode), .val (.long cx), .second, .val (.int kind), .val (.ref bX), .val (.ref bY), .val (.ref bx), .unset] [(.int (1 : Int32))])) _
          refine XS.goto X64.here hx rfl (pc0 := 171) (pc' := 175) rfl (hb hby at_171) (by decide) (by decide) ?_
          show Steps p.tables e below (T64.setTop (mkF m 175 #[.val (.long q1), .second, .val (.long q2), .second, .val (.int p3), .val (.int mode), .val (.long cx), .second, .val (.int kind), .val (.ref bX), .val (.ref bY), .val (.ref bx), .unset] [(.int (1 : Int32))])) _
          exact k
        obtain ⟨fs, hr, hrun, hended, hW, hsame⟩ := X64.leave (v := some (.int (1 : Int32))) (fun h => by rw [Bd.returns] at h; cases h)
        refine ⟨_, _, P66 _ ?_, hrun, hended, _, _, rfl, ?_, ⟨_, rfl⟩, hW, hsame.mono (by decide) (by decide)⟩
        · exact retN X64 hx (t := .boolean) Bd.returns (by simp) (hb hby at_175) hr
        · show Q0 Z q1 q2 p3 h0 n0 _ T64.heap _
          rw [e64]
          exact ⟨rfl, N64⟩
set_option maxRecDepth 65536 in
set_option maxHeartbeats 40000000 in
theorem comes_1 {Post : Tables → Env → Array Value → State → Outcome → State → Prop} (hpost : ∀ tb e args s v u, (limb_1_1.after args s (.returned v) u = true ∧ limb_1_2.after args s (.returned v) u = true ∧ True) → FrameEnd s (.returned v) u (Jvm.fieldLocs frame_1_writes args s ++ Jvm.arrayLocs frame_1_arrays args s ++ Jvm.staticLocs frame_1_statics s) 16 128 → Post tb e args s (.returned v) u) :
    ArmFor flags0 classFile x code maxLocals ret World_1 tables_1 room_1 Calls_1 rest_1 Pre_1 Post := by
  intro l hfl _ _ p e ha hc hk s m args below hf hA hF happ hP
  obtain ⟨hcalls, hrest, hpre⟩ := hP
  obtain ⟨-, -, -, hnamed, -, -, -, hat⟩ := (Spec.applies_iff hf).mp happ
  obtain ⟨hg, hn⟩ := and_e (Cond.before_iff.mp (show (Jvm.Cond.and given_1 narrow_1).before args s = true from hpre))
  obtain ⟨g1, g2⟩ := and_e hg
  obtain ⟨g3, g4⟩ := and_e g2
  obtain ⟨g5, g6⟩ := and_e g4
  obtain ⟨w0, w1, w2, rfl⟩ : ∃ w0 w1 w2 : Value, args = #[w0, w1, w2] := by
    have hs : args.size = 3 := by simpa [Cond.value, given_1] using g1
    obtain ⟨L⟩ := args
    match L, hs with
    | [w0, w1, w2], _ => exact ⟨w0, w1, w2, rfl⟩
  have hw := fun d (hd : d ∈ tables_1) => atoms_spec (ws := Jvm.Cond.code x code maxLocals ret :: tables_1) hat d (List.mem_cons_of_mem _ hd)
  have hfit : Fit s := fun {y c} hc i hi => by
    obtain ⟨ha, rfl⟩ := Array.getElem?_eq_some_iff.mp hc
    have q := List.all_eq_true.mp ((Array.all_eq_true_iff_forall_mem.mp hF) _ (Array.getElem_mem ha)) i (List.mem_range.mpr hi)
    simpa [Array.getElem?_eq_getElem hi] using q
  obtain ⟨hsets, hown0⟩ := atoms_of _ (rest_1_c_eq ▸ (show rest_1_c.before _ s = true from hrest))
  have hr0 := Cond.before_iff.mp hown0
  obtain ⟨i0, ei0⟩ := isL_v g3
  obtain rfl : w0 = (.long i0) := Option.some.inj ei0
  obtain ⟨i1, ei1⟩ := isL_v g5
  obtain rfl : w1 = (.long i1) := Option.some.inj ei1
  obtain ⟨i2, ei2⟩ := is_v g6
  obtain rfl : w2 = (.int i2) := Option.some.inj ei2
  obtain ⟨n, o, h1, h2, h3, _, L, rfl, ⟨rfl, N⟩, hq⟩ := rm0 l s _ hw tables_1 i0 i1 i2  s.heap s.heap.size (Nat.le_refl _) (Old.start s) (own_cache_start hsets) p e ha hc hk s m _ below hf ((Spec.applies_iff_loose hf).mp happ).1 ⟨rfl, State.Warmed39.refl s, rfl⟩ trivial
  refine ⟨n, _, h1, h2, h3, hpost _ _ _ _ _ _ ⟨Cond.after_iff.mpr rfl, Cond.after_iff.mpr (eq_i res_at (Term.int_eval (1)) rfl), trivial⟩ ⟨hq.1, hq.2.1, (hq.2.2.sift fun y hy => Or.inr (N y hy)).mono (by decide) (by decide)⟩⟩
theorem main_1_1 : Claimed_1_1 := comes_1 fun _ _ _ _ _ _ h hF => ⟨h.1, hF⟩
theorem main_1_2 : Claimed_1_2 := comes_1 fun _ _ _ _ _ _ h hF => ⟨h.2.1, hF⟩
end Jvm.Pilot.@@N@@
namespace Jvm.Pilot.@@N@@
open Jvm Jvm.ClassFile Sem Op Lib Jvm.Free Jvm.Stand Jvm.Pilot.@@N@@.Jvm.D
/-! MADE BY PROGRAM (witnessworld.py) out of the Statement's table words and the real class files: 16 classes; the members and pool entries that the words name. The judged class is class 1, her method 1. -/
namespace start1
open Jvm.ClassFile
def u (s : String) : CpInfo := .utf8 (stringToUtf16 s)
/-- a pool by its gaps: so many unusable entries, then the entry; so many at the end -/
def gap : Nat → List CpInfo → List CpInfo
  | 0, r => r
  | n + 1, r => .unusable :: gap n r
def poolList (es : List (Nat × CpInfo)) (last : Nat) : List CpInfo := es.foldr (fun e r => gap e.1 (e.2 :: r)) (gap last [])
def pool (es : List (Nat × CpInfo)) (last : Nat) : Array CpInfo := ⟨poolList es last⟩
def fileOf (pool : Array CpInfo) (this : Nat) (attrs : Array Attribute := #[]) (ms : Array MethodInfo := #[]) (fl : Nat := 33) (sup : Nat := 0) (ifs : Array Nat := #[]) (fds : Array FieldInfo := #[]) : ClassFile where
  minorVersion := 0
  majorVersion := 65
  constantPool := pool
  accessFlags := fl
  thisClass := this
  superClass := sup
  interfaces := ifs
  fields := fds
  methods := ms
  attributes := attrs
def plain (name : String) (sup : Option ClassId) : Class where
  name := name
  kind := .ordinary
  loader := none
  accessFlags := 33
  super := sup
  interfaces := #[]
  cf := none
  fields := #[]
  methods := #[]
  instanceTypes := #[]
  staticTypes := #[]
  resolved := #[]
  callSites := []
  init := .initialized
  statics := none
  mirror := none

def pool0 : Array CpInfo := pool [(5, u "<init>"), (0, u "()V"), (1, .class_ 10), (1, u "java/lang/Object")] 113

def k0c0 : Code := { maxStack := 0, maxLocals := 1, code := object_method_1_code, exceptionTable := #[], attributes := #[] }
def k0m0 : Method := { name := "<init>", desc := "()V", sig := { parameters := [], returnType := none }, accessFlags := 1, code := some k0c0 }
/-- java/lang/Object -/
def k0 : Class := { plain "java/lang/Object" none with
  accessFlags := 33
  interfaces := #[]
  cf := some (fileOf pool0 8 #[] #[{ accessFlags := 1, nameIndex := 5, descriptorIndex := 6, attributes := #[] }] 33 0 #[] #[])
  fields := #[]
  methods := #[k0m0]
  instanceTypes := #[]
  staticTypes := #[]
  resolved := Array.replicate 124 none
  statics := none }

def pool1 : Array CpInfo := pool [(2, .class_ 4), (1, u "java/lang/Object"), (0, u "<init>"), (0, u "()V"), (0, .class_ 8), (0, u "com/example/watchful_controller/watchfulcontroller/model/MacAddress"), (0, .methodref 7 10), (0, .nameAndType 5 11), (0, u "(J)V"), (0, .methodref 13 14), (0, .class_ 15), (0, .nameAndType 16 17), (0, u "java/lang/Long"), (0, u "valueOf"), (0, u "(J)Ljava/lang/Long;"), (0, .methodref 7 19), (0, .nameAndType 20 21), (0, u "equals"), (0, u "(Ljava/lang/Object;)Z"), (0, .class_ 23), (0, u "com/example/watchful_controller/watchfulcontroller/model/MacAddressEqualsPinLaw"), (2, u "law"), (0, u "(JJI)Z")] 3

def k1m0 : Method := { name := "<init>", desc := "()V", sig := { parameters := [], returnType := none }, accessFlags := 1, code := none }
def k1c1 : Code := { maxStack := 6, maxLocals := 13, code := code, exceptionTable := #[], attributes := #[] }
def k1m1 : Method := { name := "law", desc := "(JJI)Z", sig := { parameters := [.long, .long, .int], returnType := some .boolean }, accessFlags := 9, code := some k1c1 }
/-- com/example/watchful_controller/watchfulcontroller/model/MacAddressEqualsPinLaw -/
def k1 : Class := { plain "com/example/watchful_controller/watchfulcontroller/model/MacAddressEqualsPinLaw" (some 0) with
  accessFlags := 49
  interfaces := #[]
  cf := some (fileOf pool1 22 #[] #[{ accessFlags := 1, nameIndex := 5, descriptorIndex := 6, attributes := #[] }, { accessFlags := 9, nameIndex := 26, descriptorIndex := 27, attributes := #[] }] 49 2 #[] #[])
  fields := #[]
  methods := #[k1m0, k1m1]
  instanceTypes := #[]
  staticTypes := #[]
  resolved := Array.replicate 31 none
  statics := none }

def pool2 : Array CpInfo := pool [(1, .methodref 2 3), (0, .class_ 4), (0, .nameAndType 5 6), (0, u "java/lang/Object"), (0, u "<init>"), (0, u "()V"), (0, .fieldref 8 9), (0, .class_ 10), (0, .nameAndType 11 12), (0, u "com/example/watchful_controller/watchfulcontroller/model/MacAddress"), (0, u "value"), (0, u "J"), (8, u "(J)V"), (38, u "OCTETS"), (0, u "I"), (2, u "HEX_DIGITS"), (0, u "Ljava/lang/String;"), (10, u "equals"), (0, u "(Ljava/lang/Object;)Z")] 21

def k2c0 : Code := { maxStack := 3, maxLocals := 3, code := prog_31_method_1_code, exceptionTable := #[], attributes := #[] }
def k2m0 : Method := { name := "<init>", desc := "(J)V", sig := { parameters := [.long], returnType := none }, accessFlags := 0, code := some k2c0 }
def k2c1 : Code := { maxStack := 4, maxLocals := 2, code := prog_31_method_7_code, exceptionTable := #[], attributes := #[] }
def k2m1 : Method := { name := "equals", desc := "(Ljava/lang/Object;)Z", sig := { parameters := [(.object "java/lang/Object")], returnType := some .boolean }, accessFlags := 1, code := some k2c1 }
/-- com/example/watchful_controller/watchfulcontroller/model/MacAddress -/
def k2 : Class := { plain "com/example/watchful_controller/watchfulcontroller/model/MacAddress" (some 0) with
  accessFlags := 49
  interfaces := #[]
  cf := some (fileOf pool2 8 #[] #[{ accessFlags := 0, nameIndex := 5, descriptorIndex := 21, attributes := #[] }, { accessFlags := 1, nameIndex := 76, descriptorIndex := 77, attributes := #[] }] 49 2 #[] #[{ accessFlags := 24, nameIndex := 60, descriptorIndex := 61, attributes := #[] }, { accessFlags := 26, nameIndex := 64, descriptorIndex := 65, attributes := #[] }, { accessFlags := 18, nameIndex := 11, descriptorIndex := 12, attributes := #[] }])
  fields := #[{ name := "OCTETS", type := .int, accessFlags := 24, slot := 0, constantValue := 0 }, { name := "HEX_DIGITS", type := (.object "java/lang/String"), accessFlags := 26, slot := 1, constantValue := 0 }, { name := "value", type := .long, accessFlags := 18, slot := 0, constantValue := 0 }]
  methods := #[k2m0, k2m1]
  instanceTypes := #[.long]
  staticTypes := #[.int, (.object "java/lang/String")]
  resolved := Array.replicate 99 none
  statics := none }

def pool3 : Array CpInfo := pool [(1, .class_ 2), (0, u "java/io/Serializable"), (0, .class_ 4), (0, u "java/lang/Object")] 2

/-- java/io/Serializable -/
def k3 : Class := { plain "java/io/Serializable" (some 0) with
  accessFlags := 1537
  interfaces := #[]
  cf := some (fileOf pool3 1 #[] #[] 1537 3 #[] #[])
  fields := #[]
  methods := #[]
  instanceTypes := #[]
  staticTypes := #[]
  resolved := Array.replicate 7 none
  statics := none }

def pool4 : Array CpInfo := pool [(1, .methodref 2 3), (0, .class_ 4), (0, .nameAndType 5 6), (0, u "java/lang/Object"), (0, u "<init>"), (0, u "()V"), (1, .class_ 10), (1, u "java/lang/Number"), (2, .class_ 14), (0, u "java/io/Serializable"), (0, u "serialVersionUID"), (0, u "J")] 20

def k4c0 : Code := { maxStack := 1, maxLocals := 1, code := jdk_18_method_1_code, exceptionTable := #[], attributes := #[] }
def k4m0 : Method := { name := "<init>", desc := "()V", sig := { parameters := [], returnType := none }, accessFlags := 1, code := some k4c0 }
/-- java/lang/Number -/
def k4 : Class := { plain "java/lang/Number" (some 0) with
  accessFlags := 1057
  interfaces := #[3]
  cf := some (fileOf pool4 8 #[] #[{ accessFlags := 1, nameIndex := 5, descriptorIndex := 6, attributes := #[] }] 1057 2 #[13] #[{ accessFlags := 26, nameIndex := 15, descriptorIndex := 16, attributes := #[] }])
  fields := #[{ name := "serialVersionUID", type := .long, accessFlags := 26, slot := 0, constantValue := 0 }]
  methods := #[k4m0]
  instanceTypes := #[]
  staticTypes := #[.long]
  resolved := Array.replicate 37 none
  statics := none }

def pool5 : Array CpInfo := pool [(1, .class_ 2), (0, u "java/lang/Comparable"), (0, .class_ 4), (0, u "java/lang/Object")] 7

/-- java/lang/Comparable -/
def k5 : Class := { plain "java/lang/Comparable" (some 0) with
  accessFlags := 1537
  interfaces := #[]
  cf := some (fileOf pool5 1 #[] #[] 1537 3 #[] #[])
  fields := #[]
  methods := #[]
  instanceTypes := #[]
  staticTypes := #[]
  resolved := Array.replicate 12 none
  statics := none }

def pool6 : Array CpInfo := pool [(1, .class_ 2), (0, u "java/lang/constant/Constable"), (0, .class_ 4), (0, u "java/lang/Object")] 6

/-- java/lang/constant/Constable -/
def k6 : Class := { plain "java/lang/constant/Constable" (some 0) with
  accessFlags := 1537
  interfaces := #[]
  cf := some (fileOf pool6 1 #[] #[] 1537 3 #[] #[])
  fields := #[]
  methods := #[]
  instanceTypes := #[]
  staticTypes := #[]
  resolved := Array.replicate 11 none
  statics := none }

def pool7 : Array CpInfo := pool [(1, .class_ 2), (0, u "java/lang/constant/ConstantDesc"), (0, .class_ 4), (0, u "java/lang/Object")] 32

/-- java/lang/constant/ConstantDesc -/
def k7 : Class := { plain "java/lang/constant/ConstantDesc" (some 0) with
  accessFlags := 1537
  interfaces := #[]
  cf := some (fileOf pool7 1 #[] #[] 1537 3 #[] #[])
  fields := #[]
  methods := #[]
  instanceTypes := #[]
  staticTypes := #[]
  resolved := Array.replicate 37 none
  statics := none }

def pool8 : Array CpInfo := pool [(1, .class_ 2), (0, u "java/lang/Long"), (55, .nameAndType 59 60), (0, u "<init>"), (0, u "()V"), (24, u "valueOf"), (143, u "(J)Ljava/lang/Long;"), (0, .long 18446744073709551488), (1, .long 127), (1, .fieldref 235 236), (0, .class_ 237), (0, .nameAndType 238 239), (0, u "java/lang/Long$LongCache"), (0, u "cache"), (0, u "[Ljava/lang/Long;"), (0, .methodref 1 241), (0, .nameAndType 59 242), (0, u "(J)V"), (27, .methodref 271 58), (0, .class_ 272), (0, u "java/lang/Number"), (0, .fieldref 1 274), (0, .nameAndType 275 276), (0, u "value"), (0, u "J"), (84, u "TYPE"), (0, u "Ljava/lang/Class;"), (0, .class_ 364), (0, u "java/lang/Comparable"), (0, .class_ 366), (0, u "java/lang/constant/Constable"), (0, .class_ 368), (0, u "java/lang/constant/ConstantDesc"), (0, u "MIN_VALUE"), (1, u "MAX_VALUE"), (4, u "SIZE"), (0, u "I"), (1, u "BYTES"), (1, u "serialVersionUID")] 142

def k8c0 : Code := { maxStack := 4, maxLocals := 3, code := jdk_35_method_24_code, exceptionTable := #[], attributes := #[] }
def k8m0 : Method := { name := "valueOf", desc := "(J)Ljava/lang/Long;", sig := { parameters := [.long], returnType := some (.object "java/lang/Long") }, accessFlags := 9, code := some k8c0 }
def k8c1 : Code := { maxStack := 3, maxLocals := 3, code := jdk_35_method_26_code, exceptionTable := #[], attributes := #[] }
def k8m1 : Method := { name := "<init>", desc := "(J)V", sig := { parameters := [.long], returnType := none }, accessFlags := 1, code := some k8c1 }
/-- java/lang/Long -/
def k8 : Class := { plain "java/lang/Long" (some 4) with
  accessFlags := 49
  interfaces := #[5, 6, 7]
  cf := some (fileOf pool8 1 #[.nestMembers #[235]] #[{ accessFlags := 9, nameIndex := 85, descriptorIndex := 229, attributes := #[] }, { accessFlags := 1, nameIndex := 59, descriptorIndex := 242, attributes := #[] }] 49 271 #[363, 365, 367] #[{ accessFlags := 25, nameIndex := 369, descriptorIndex := 276, attributes := #[] }, { accessFlags := 25, nameIndex := 371, descriptorIndex := 276, attributes := #[] }, { accessFlags := 25, nameIndex := 361, descriptorIndex := 362, attributes := #[] }, { accessFlags := 18, nameIndex := 275, descriptorIndex := 276, attributes := #[] }, { accessFlags := 25, nameIndex := 376, descriptorIndex := 377, attributes := #[] }, { accessFlags := 25, nameIndex := 379, descriptorIndex := 377, attributes := #[] }, { accessFlags := 26, nameIndex := 381, descriptorIndex := 276, attributes := #[] }])
  fields := #[{ name := "MIN_VALUE", type := .long, accessFlags := 25, slot := 0, constantValue := 0 }, { name := "MAX_VALUE", type := .long, accessFlags := 25, slot := 1, constantValue := 0 }, { name := "TYPE", type := (.object "java/lang/Class"), accessFlags := 25, slot := 2, constantValue := 0 }, { name := "value", type := .long, accessFlags := 18, slot := 0, constantValue := 0 }, { name := "SIZE", type := .int, accessFlags := 25, slot := 3, constantValue := 0 }, { name := "BYTES", type := .int, accessFlags := 25, slot := 4, constantValue := 0 }, { name := "serialVersionUID", type := .long, accessFlags := 26, slot := 5, constantValue := 0 }]
  methods := #[k8m0, k8m1]
  instanceTypes := #[.long]
  staticTypes := #[.long, .long, (.object "java/lang/Class"), .int, .int, .long]
  resolved := Array.replicate 524 none
  statics := none }

def pool9 : Array CpInfo := pool [(2, .class_ 4), (1, u "java/lang/Object"), (0, u "<init>"), (0, u "()V"), (0, .class_ 8), (0, u "java/lang/Long"), (7, .class_ 18), (1, u "java/lang/Long$LongCache"), (0, u "$assertionsDisabled"), (0, u "Z"), (8, u "archivedCache"), (0, u "[Ljava/lang/Long;"), (7, u "cache")] 24

def k9m0 : Method := { name := "<init>", desc := "()V", sig := { parameters := [], returnType := none }, accessFlags := 2, code := none }
/-- java/lang/Long$LongCache -/
def k9 : Class := { plain "java/lang/Long$LongCache" (some 0) with
  accessFlags := 48
  interfaces := #[]
  cf := some (fileOf pool9 16 #[.nestHost 7] #[{ accessFlags := 2, nameIndex := 5, descriptorIndex := 6, attributes := #[] }] 48 2 #[] #[{ accessFlags := 24, nameIndex := 38, descriptorIndex := 30, attributes := #[] }, { accessFlags := 8, nameIndex := 29, descriptorIndex := 30, attributes := #[] }, { accessFlags := 4120, nameIndex := 19, descriptorIndex := 20, attributes := #[] }])
  fields := #[{ name := "cache", type := (.array (.object "java/lang/Long")), accessFlags := 24, slot := 0, constantValue := 0 }, { name := "archivedCache", type := (.array (.object "java/lang/Long")), accessFlags := 8, slot := 1, constantValue := 0 }, { name := "$assertionsDisabled", type := .boolean, accessFlags := 4120, slot := 2, constantValue := 0 }]
  methods := #[k9m0]
  instanceTypes := #[]
  staticTypes := #[(.array (.object "java/lang/Long")), (.array (.object "java/lang/Long")), .boolean]
  resolved := Array.replicate 63 none
  statics := some 0 }

def pool10 : Array CpInfo := pool [(1, u "java/lang/Cloneable"), (0, .class_ 1), (0, u "java/lang/Object"), (0, .class_ 3)] 3

/-- java/lang/Cloneable -/
def k10 : Class := { plain "java/lang/Cloneable" (some 0) with
  accessFlags := 1537
  interfaces := #[]
  cf := some (fileOf pool10 2 #[] #[] 1537 4 #[] #[])
  fields := #[]
  methods := #[]
  instanceTypes := #[]
  staticTypes := #[]
  resolved := Array.replicate 8 none
  statics := none }

/-- the primitive byte -/
def k11 : Class := { plain "byte" none with kind := .primitive 'B', accessFlags := 0x411 }
/-- [B -/
def k12 : Class := { plain "[B" (some 0) with kind := .array 11 .byte, interfaces := #[10, 3], accessFlags := 1041 }

/-- the primitive int -/
def k13 : Class := { plain "int" none with kind := .primitive 'I', accessFlags := 0x411 }
/-- [I -/
def k14 : Class := { plain "[I" (some 0) with kind := .array 13 .int, interfaces := #[10, 3], accessFlags := 1041 }

/-- [Ljava/lang/Long; -/
def k15 : Class := { plain "[Ljava/lang/Long;" (some 0) with kind := .array 8 (.object "java/lang/Long"), interfaces := #[10, 3], accessFlags := 1041 }

def heap : Heap := #[{ cls := 9, slots := #[.ref 1, .null, .int 0], vm := .statics 9 },
  { cls := 15, slots := #[.ref 2, .ref 3, .ref 4, .ref 5, .ref 6, .ref 7, .ref 8, .ref 9, .ref 10, .ref 11, .ref 12, .ref 13, .ref 14, .ref 15, .ref 16, .ref 17, .ref 18, .ref 19, .ref 20, .ref 21, .ref 22, .ref 23, .ref 24, .ref 25, .ref 26, .ref 27, .ref 28, .ref 29, .ref 30, .ref 31, .ref 32, .ref 33, .ref 34, .ref 35, .ref 36, .ref 37, .ref 38, .ref 39, .ref 40, .ref 41, .ref 42, .ref 43, .ref 44, .ref 45, .ref 46, .ref 47, .ref 48, .ref 49, .ref 50, .ref 51, .ref 52, .ref 53, .ref 54, .ref 55, .ref 56, .ref 57, .ref 58, .ref 59, .ref 60, .ref 61, .ref 62, .ref 63, .ref 64, .ref 65, .ref 66, .ref 67, .ref 68, .ref 69, .ref 70, .ref 71, .ref 72, .ref 73, .ref 74, .ref 75, .ref 76, .ref 77, .ref 78, .ref 79, .ref 80, .ref 81, .ref 82, .ref 83, .ref 84, .ref 85, .ref 86, .ref 87, .ref 88, .ref 89, .ref 90, .ref 91, .ref 92, .ref 93, .ref 94, .ref 95, .ref 96, .ref 97, .ref 98, .ref 99, .ref 100, .ref 101, .ref 102, .ref 103, .ref 104, .ref 105, .ref 106, .ref 107, .ref 108, .ref 109, .ref 110, .ref 111, .ref 112, .ref 113, .ref 114, .ref 115, .ref 116, .ref 117, .ref 118, .ref 119, .ref 120, .ref 121, .ref 122, .ref 123, .ref 124, .ref 125, .ref 126, .ref 127, .ref 128, .ref 129, .ref 130, .ref 131, .ref 132, .ref 133, .ref 134, .ref 135, .ref 136, .ref 137, .ref 138, .ref 139, .ref 140, .ref 141, .ref 142, .ref 143, .ref 144, .ref 145, .ref 146, .ref 147, .ref 148, .ref 149, .ref 150, .ref 151, .ref 152, .ref 153, .ref 154, .ref 155, .ref 156, .ref 157, .ref 158, .ref 159, .ref 160, .ref 161, .ref 162, .ref 163, .ref 164, .ref 165, .ref 166, .ref 167, .ref 168, .ref 169, .ref 170, .ref 171, .ref 172, .ref 173, .ref 174, .ref 175, .ref 176, .ref 177, .ref 178, .ref 179, .ref 180, .ref 181, .ref 182, .ref 183, .ref 184, .ref 185, .ref 186, .ref 187, .ref 188, .ref 189, .ref 190, .ref 191, .ref 192, .ref 193, .ref 194, .ref 195, .ref 196, .ref 197, .ref 198, .ref 199, .ref 200, .ref 201, .ref 202, .ref 203, .ref 204, .ref 205, .ref 206, .ref 207, .ref 208, .ref 209, .ref 210, .ref 211, .ref 212, .ref 213, .ref 214, .ref 215, .ref 216, .ref 217, .ref 218, .ref 219, .ref 220, .ref 221, .ref 222, .ref 223, .ref 224, .ref 225, .ref 226, .ref 227, .ref 228, .ref 229, .ref 230, .ref 231, .ref 232, .ref 233, .ref 234, .ref 235, .ref 236, .ref 237, .ref 238, .ref 239, .ref 240, .ref 241, .ref 242, .ref 243, .ref 244, .ref 245, .ref 246, .ref 247, .ref 248, .ref 249, .ref 250, .ref 251, .ref 252, .ref 253, .ref 254, .ref 255, .ref 256, .ref 257], vm := .none },
  { cls := 8, slots := #[.long (-128)], vm := .none },
  { cls := 8, slots := #[.long (-127)], vm := .none },
  { cls := 8, slots := #[.long (-126)], vm := .none },
  { cls := 8, slots := #[.long (-125)], vm := .none },
  { cls := 8, slots := #[.long (-124)], vm := .none },
  { cls := 8, slots := #[.long (-123)], vm := .none },
  { cls := 8, slots := #[.long (-122)], vm := .none },
  { cls := 8, slots := #[.long (-121)], vm := .none },
  { cls := 8, slots := #[.long (-120)], vm := .none },
  { cls := 8, slots := #[.long (-119)], vm := .none },
  { cls := 8, slots := #[.long (-118)], vm := .none },
  { cls := 8, slots := #[.long (-117)], vm := .none },
  { cls := 8, slots := #[.long (-116)], vm := .none },
  { cls := 8, slots := #[.long (-115)], vm := .none },
  { cls := 8, slots := #[.long (-114)], vm := .none },
  { cls := 8, slots := #[.long (-113)], vm := .none },
  { cls := 8, slots := #[.long (-112)], vm := .none },
  { cls := 8, slots := #[.long (-111)], vm := .none },
  { cls := 8, slots := #[.long (-110)], vm := .none },
  { cls := 8, slots := #[.long (-109)], vm := .none },
  { cls := 8, slots := #[.long (-108)], vm := .none },
  { cls := 8, slots := #[.long (-107)], vm := .none },
  { cls := 8, slots := #[.long (-106)], vm := .none },
  { cls := 8, slots := #[.long (-105)], vm := .none },
  { cls := 8, slots := #[.long (-104)], vm := .none },
  { cls := 8, slots := #[.long (-103)], vm := .none },
  { cls := 8, slots := #[.long (-102)], vm := .none },
  { cls := 8, slots := #[.long (-101)], vm := .none },
  { cls := 8, slots := #[.long (-100)], vm := .none },
  { cls := 8, slots := #[.long (-99)], vm := .none },
  { cls := 8, slots := #[.long (-98)], vm := .none },
  { cls := 8, slots := #[.long (-97)], vm := .none },
  { cls := 8, slots := #[.long (-96)], vm := .none },
  { cls := 8, slots := #[.long (-95)], vm := .none },
  { cls := 8, slots := #[.long (-94)], vm := .none },
  { cls := 8, slots := #[.long (-93)], vm := .none },
  { cls := 8, slots := #[.long (-92)], vm := .none },
  { cls := 8, slots := #[.long (-91)], vm := .none },
  { cls := 8, slots := #[.long (-90)], vm := .none },
  { cls := 8, slots := #[.long (-89)], vm := .none },
  { cls := 8, slots := #[.long (-88)], vm := .none },
  { cls := 8, slots := #[.long (-87)], vm := .none },
  { cls := 8, slots := #[.long (-86)], vm := .none },
  { cls := 8, slots := #[.long (-85)], vm := .none },
  { cls := 8, slots := #[.long (-84)], vm := .none },
  { cls := 8, slots := #[.long (-83)], vm := .none },
  { cls := 8, slots := #[.long (-82)], vm := .none },
  { cls := 8, slots := #[.long (-81)], vm := .none },
  { cls := 8, slots := #[.long (-80)], vm := .none },
  { cls := 8, slots := #[.long (-79)], vm := .none },
  { cls := 8, slots := #[.long (-78)], vm := .none },
  { cls := 8, slots := #[.long (-77)], vm := .none },
  { cls := 8, slots := #[.long (-76)], vm := .none },
  { cls := 8, slots := #[.long (-75)], vm := .none },
  { cls := 8, slots := #[.long (-74)], vm := .none },
  { cls := 8, slots := #[.long (-73)], vm := .none },
  { cls := 8, slots := #[.long (-72)], vm := .none },
  { cls := 8, slots := #[.long (-71)], vm := .none },
  { cls := 8, slots := #[.long (-70)], vm := .none },
  { cls := 8, slots := #[.long (-69)], vm := .none },
  { cls := 8, slots := #[.long (-68)], vm := .none },
  { cls := 8, slots := #[.long (-67)], vm := .none },
  { cls := 8, slots := #[.long (-66)], vm := .none },
  { cls := 8, slots := #[.long (-65)], vm := .none },
  { cls := 8, slots := #[.long (-64)], vm := .none },
  { cls := 8, slots := #[.long (-63)], vm := .none },
  { cls := 8, slots := #[.long (-62)], vm := .none },
  { cls := 8, slots := #[.long (-61)], vm := .none },
  { cls := 8, slots := #[.long (-60)], vm := .none },
  { cls := 8, slots := #[.long (-59)], vm := .none },
  { cls := 8, slots := #[.long (-58)], vm := .none },
  { cls := 8, slots := #[.long (-57)], vm := .none },
  { cls := 8, slots := #[.long (-56)], vm := .none },
  { cls := 8, slots := #[.long (-55)], vm := .none },
  { cls := 8, slots := #[.long (-54)], vm := .none },
  { cls := 8, slots := #[.long (-53)], vm := .none },
  { cls := 8, slots := #[.long (-52)], vm := .none },
  { cls := 8, slots := #[.long (-51)], vm := .none },
  { cls := 8, slots := #[.long (-50)], vm := .none },
  { cls := 8, slots := #[.long (-49)], vm := .none },
  { cls := 8, slots := #[.long (-48)], vm := .none },
  { cls := 8, slots := #[.long (-47)], vm := .none },
  { cls := 8, slots := #[.long (-46)], vm := .none },
  { cls := 8, slots := #[.long (-45)], vm := .none },
  { cls := 8, slots := #[.long (-44)], vm := .none },
  { cls := 8, slots := #[.long (-43)], vm := .none },
  { cls := 8, slots := #[.long (-42)], vm := .none },
  { cls := 8, slots := #[.long (-41)], vm := .none },
  { cls := 8, slots := #[.long (-40)], vm := .none },
  { cls := 8, slots := #[.long (-39)], vm := .none },
  { cls := 8, slots := #[.long (-38)], vm := .none },
  { cls := 8, slots := #[.long (-37)], vm := .none },
  { cls := 8, slots := #[.long (-36)], vm := .none },
  { cls := 8, slots := #[.long (-35)], vm := .none },
  { cls := 8, slots := #[.long (-34)], vm := .none },
  { cls := 8, slots := #[.long (-33)], vm := .none },
  { cls := 8, slots := #[.long (-32)], vm := .none },
  { cls := 8, slots := #[.long (-31)], vm := .none },
  { cls := 8, slots := #[.long (-30)], vm := .none },
  { cls := 8, slots := #[.long (-29)], vm := .none },
  { cls := 8, slots := #[.long (-28)], vm := .none },
  { cls := 8, slots := #[.long (-27)], vm := .none },
  { cls := 8, slots := #[.long (-26)], vm := .none },
  { cls := 8, slots := #[.long (-25)], vm := .none },
  { cls := 8, slots := #[.long (-24)], vm := .none },
  { cls := 8, slots := #[.long (-23)], vm := .none },
  { cls := 8, slots := #[.long (-22)], vm := .none },
  { cls := 8, slots := #[.long (-21)], vm := .none },
  { cls := 8, slots := #[.long (-20)], vm := .none },
  { cls := 8, slots := #[.long (-19)], vm := .none },
  { cls := 8, slots := #[.long (-18)], vm := .none },
  { cls := 8, slots := #[.long (-17)], vm := .none },
  { cls := 8, slots := #[.long (-16)], vm := .none },
  { cls := 8, slots := #[.long (-15)], vm := .none },
  { cls := 8, slots := #[.long (-14)], vm := .none },
  { cls := 8, slots := #[.long (-13)], vm := .none },
  { cls := 8, slots := #[.long (-12)], vm := .none },
  { cls := 8, slots := #[.long (-11)], vm := .none },
  { cls := 8, slots := #[.long (-10)], vm := .none },
  { cls := 8, slots := #[.long (-9)], vm := .none },
  { cls := 8, slots := #[.long (-8)], vm := .none },
  { cls := 8, slots := #[.long (-7)], vm := .none },
  { cls := 8, slots := #[.long (-6)], vm := .none },
  { cls := 8, slots := #[.long (-5)], vm := .none },
  { cls := 8, slots := #[.long (-4)], vm := .none },
  { cls := 8, slots := #[.long (-3)], vm := .none },
  { cls := 8, slots := #[.long (-2)], vm := .none },
  { cls := 8, slots := #[.long (-1)], vm := .none },
  { cls := 8, slots := #[.long (0)], vm := .none },
  { cls := 8, slots := #[.long (1)], vm := .none },
  { cls := 8, slots := #[.long (2)], vm := .none },
  { cls := 8, slots := #[.long (3)], vm := .none },
  { cls := 8, slots := #[.long (4)], vm := .none },
  { cls := 8, slots := #[.long (5)], vm := .none },
  { cls := 8, slots := #[.long (6)], vm := .none },
  { cls := 8, slots := #[.long (7)], vm := .none },
  { cls := 8, slots := #[.long (8)], vm := .none },
  { cls := 8, slots := #[.long (9)], vm := .none },
  { cls := 8, slots := #[.long (10)], vm := .none },
  { cls := 8, slots := #[.long (11)], vm := .none },
  { cls := 8, slots := #[.long (12)], vm := .none },
  { cls := 8, slots := #[.long (13)], vm := .none },
  { cls := 8, slots := #[.long (14)], vm := .none },
  { cls := 8, slots := #[.long (15)], vm := .none },
  { cls := 8, slots := #[.long (16)], vm := .none },
  { cls := 8, slots := #[.long (17)], vm := .none },
  { cls := 8, slots := #[.long (18)], vm := .none },
  { cls := 8, slots := #[.long (19)], vm := .none },
  { cls := 8, slots := #[.long (20)], vm := .none },
  { cls := 8, slots := #[.long (21)], vm := .none },
  { cls := 8, slots := #[.long (22)], vm := .none },
  { cls := 8, slots := #[.long (23)], vm := .none },
  { cls := 8, slots := #[.long (24)], vm := .none },
  { cls := 8, slots := #[.long (25)], vm := .none },
  { cls := 8, slots := #[.long (26)], vm := .none },
  { cls := 8, slots := #[.long (27)], vm := .none },
  { cls := 8, slots := #[.long (28)], vm := .none },
  { cls := 8, slots := #[.long (29)], vm := .none },
  { cls := 8, slots := #[.long (30)], vm := .none },
  { cls := 8, slots := #[.long (31)], vm := .none },
  { cls := 8, slots := #[.long (32)], vm := .none },
  { cls := 8, slots := #[.long (33)], vm := .none },
  { cls := 8, slots := #[.long (34)], vm := .none },
  { cls := 8, slots := #[.long (35)], vm := .none },
  { cls := 8, slots := #[.long (36)], vm := .none },
  { cls := 8, slots := #[.long (37)], vm := .none },
  { cls := 8, slots := #[.long (38)], vm := .none },
  { cls := 8, slots := #[.long (39)], vm := .none },
  { cls := 8, slots := #[.long (40)], vm := .none },
  { cls := 8, slots := #[.long (41)], vm := .none },
  { cls := 8, slots := #[.long (42)], vm := .none },
  { cls := 8, slots := #[.long (43)], vm := .none },
  { cls := 8, slots := #[.long (44)], vm := .none },
  { cls := 8, slots := #[.long (45)], vm := .none },
  { cls := 8, slots := #[.long (46)], vm := .none },
  { cls := 8, slots := #[.long (47)], vm := .none },
  { cls := 8, slots := #[.long (48)], vm := .none },
  { cls := 8, slots := #[.long (49)], vm := .none },
  { cls := 8, slots := #[.long (50)], vm := .none },
  { cls := 8, slots := #[.long (51)], vm := .none },
  { cls := 8, slots := #[.long (52)], vm := .none },
  { cls := 8, slots := #[.long (53)], vm := .none },
  { cls := 8, slots := #[.long (54)], vm := .none },
  { cls := 8, slots := #[.long (55)], vm := .none },
  { cls := 8, slots := #[.long (56)], vm := .none },
  { cls := 8, slots := #[.long (57)], vm := .none },
  { cls := 8, slots := #[.long (58)], vm := .none },
  { cls := 8, slots := #[.long (59)], vm := .none },
  { cls := 8, slots := #[.long (60)], vm := .none },
  { cls := 8, slots := #[.long (61)], vm := .none },
  { cls := 8, slots := #[.long (62)], vm := .none },
  { cls := 8, slots := #[.long (63)], vm := .none },
  { cls := 8, slots := #[.long (64)], vm := .none },
  { cls := 8, slots := #[.long (65)], vm := .none },
  { cls := 8, slots := #[.long (66)], vm := .none },
  { cls := 8, slots := #[.long (67)], vm := .none },
  { cls := 8, slots := #[.long (68)], vm := .none },
  { cls := 8, slots := #[.long (69)], vm := .none },
  { cls := 8, slots := #[.long (70)], vm := .none },
  { cls := 8, slots := #[.long (71)], vm := .none },
  { cls := 8, slots := #[.long (72)], vm := .none },
  { cls := 8, slots := #[.long (73)], vm := .none },
  { cls := 8, slots := #[.long (74)], vm := .none },
  { cls := 8, slots := #[.long (75)], vm := .none },
  { cls := 8, slots := #[.long (76)], vm := .none },
  { cls := 8, slots := #[.long (77)], vm := .none },
  { cls := 8, slots := #[.long (78)], vm := .none },
  { cls := 8, slots := #[.long (79)], vm := .none },
  { cls := 8, slots := #[.long (80)], vm := .none },
  { cls := 8, slots := #[.long (81)], vm := .none },
  { cls := 8, slots := #[.long (82)], vm := .none },
  { cls := 8, slots := #[.long (83)], vm := .none },
  { cls := 8, slots := #[.long (84)], vm := .none },
  { cls := 8, slots := #[.long (85)], vm := .none },
  { cls := 8, slots := #[.long (86)], vm := .none },
  { cls := 8, slots := #[.long (87)], vm := .none },
  { cls := 8, slots := #[.long (88)], vm := .none },
  { cls := 8, slots := #[.long (89)], vm := .none },
  { cls := 8, slots := #[.long (90)], vm := .none },
  { cls := 8, slots := #[.long (91)], vm := .none },
  { cls := 8, slots := #[.long (92)], vm := .none },
  { cls := 8, slots := #[.long (93)], vm := .none },
  { cls := 8, slots := #[.long (94)], vm := .none },
  { cls := 8, slots := #[.long (95)], vm := .none },
  { cls := 8, slots := #[.long (96)], vm := .none },
  { cls := 8, slots := #[.long (97)], vm := .none },
  { cls := 8, slots := #[.long (98)], vm := .none },
  { cls := 8, slots := #[.long (99)], vm := .none },
  { cls := 8, slots := #[.long (100)], vm := .none },
  { cls := 8, slots := #[.long (101)], vm := .none },
  { cls := 8, slots := #[.long (102)], vm := .none },
  { cls := 8, slots := #[.long (103)], vm := .none },
  { cls := 8, slots := #[.long (104)], vm := .none },
  { cls := 8, slots := #[.long (105)], vm := .none },
  { cls := 8, slots := #[.long (106)], vm := .none },
  { cls := 8, slots := #[.long (107)], vm := .none },
  { cls := 8, slots := #[.long (108)], vm := .none },
  { cls := 8, slots := #[.long (109)], vm := .none },
  { cls := 8, slots := #[.long (110)], vm := .none },
  { cls := 8, slots := #[.long (111)], vm := .none },
  { cls := 8, slots := #[.long (112)], vm := .none },
  { cls := 8, slots := #[.long (113)], vm := .none },
  { cls := 8, slots := #[.long (114)], vm := .none },
  { cls := 8, slots := #[.long (115)], vm := .none },
  { cls := 8, slots := #[.long (116)], vm := .none },
  { cls := 8, slots := #[.long (117)], vm := .none },
  { cls := 8, slots := #[.long (118)], vm := .none },
  { cls := 8, slots := #[.long (119)], vm := .none },
  { cls := 8, slots := #[.long (120)], vm := .none },
  { cls := 8, slots := #[.long (121)], vm := .none },
  { cls := 8, slots := #[.long (122)], vm := .none },
  { cls := 8, slots := #[.long (123)], vm := .none },
  { cls := 8, slots := #[.long (124)], vm := .none },
  { cls := 8, slots := #[.long (125)], vm := .none },
  { cls := 8, slots := #[.long (126)], vm := .none },
  { cls := 8, slots := #[.long (127)], vm := .none }]
def classes : Array Class := #[k0, k1, k2, k3, k4, k5, k6, k7, k8, k9, k10, k11, k12, k13, k14, k15]
def interned : List (Array UInt16 × Addr) := []
def slotsUsed : Nat := 515
def theMethod : MethodId := ⟨1, 1⟩
def args0 : Array Value := #[.long 1, .long 2, .int 3]
def aboutOver (below : List Frame) : State where
  vm := { classes := classes, interned := interned.toArray }
  heap := heap
  slotsUsed := slotsUsed
  threads := #[{ frames := .invoking theMethod args0 :: below }]
def below0 : List Frame := [.native { method := ⟨0, 0⟩, args := #[] }]
def about1 : State := aboutOver below0
def p0 : Program := .bare "" "" ""
def e0 : Env := launch0.env 0 0 0
theorem w_frames : about1.frames = Frame.invoking theMethod args0 :: below0 := rfl
set_option maxRecDepth 65536 in
theorem w_args : argsFit about1.vm theMethod args0 = true := by decide +kernel
set_option maxRecDepth 65536 in
theorem w_heap : heapFits about1 = true := by decide +kernel
set_option maxRecDepth 65536 in
theorem w_runnable : about1.curStatus? = some .runnable := by decide +kernel
set_option maxRecDepth 65536 in
theorem w_alone : about1.alone = true := by decide +kernel
set_option maxRecDepth 65536 in
theorem w_named : about1.methodNamed? x = some theMethod := by decide +kernel
set_option maxRecDepth 65536 in
theorem w_hears : about1.hears theMethod below0 = true := by decide +kernel
set_option maxRecDepth 65536 in
theorem w_ripe : about1.ripe theMethod args0 below0 = true := by decide +kernel
theorem w_running : about1.status = .running := rfl
set_option maxRecDepth 65536 in
theorem w_room : about1.hasRoom e0.platform room_1 = true :=
  launch0.hasRoom_least _ room_1 (by decide +kernel) (by decide +kernel) (by decide +kernel) (by decide +kernel) (by decide +kernel) (by decide +kernel)
theorem allAtoms_all (ts : List Jvm.Cond) (a : Array Jvm.Value) (st : Jvm.State) : (allAtoms ts).before a st = ts.all (fun c => c.before a st) := by
  induction ts with
  | nil => rfl
  | cons c t ih =>
    show (Jvm.Cond.and c (allAtoms t)).before a st = _
    rw [Jvm.Cond.before_and, ih, List.all_cons]
def words1 : List Jvm.Cond := Jvm.Cond.code x code maxLocals ret :: tables_1
/-- a 'code' word, met by the world's own term for the bytes: nothing is compared byte by byte -/
theorem code_word {y : MethodName} {bytes : ByteArray} {mx : Nat} {rt : Option FieldType} {a : Array Value} {s : State} {m : MethodId} {meth : Method} {c : Code} (h1 : s.methodNamed? y = some m) (h2 : s.vm.method? m = some meth) (h3 : meth.code = some c) (h4 : c.code = bytes)
    (h5 : (c.maxLocals == mx && c.exceptionTable.isEmpty && decide (c.maxStack ≤ mostOperands) && decide (meth.sig.returnType = rt) && !meth.locks && decide (parseMethodDescriptor y.desc = some meth.sig)) = true) : (Jvm.Cond.code y bytes mx rt).before a s = true := by
  simp only [Bool.and_eq_true, beq_iff_eq, Bool.not_eq_true', decide_eq_true_eq] at h5
  obtain ⟨⟨⟨⟨⟨g1, g2⟩, g3⟩, g4⟩, g5⟩, g6⟩ := h5
  simp [Cond.before, Cond.holds, Cond.value, h1, h2, h3, h4, g1, g2, g3, g4, g5, g6]
def isCode : Jvm.Cond → Bool
  | .code _ _ _ _ => true
  | _ => false
theorem all_split {L : List Jvm.Cond} {P : Jvm.Cond → Bool} (h1 : L.all (fun c => isCode c || P c) = true) (h2 : ∀ c ∈ L.filter isCode, P c = true) : L.all P = true := by
  refine List.all_eq_true.mpr fun c hc => ?_
  have h := List.all_eq_true.mp h1 c hc
  rcases Bool.eq_false_or_eq_true (isCode c) with hi | hi
  · exact h2 c (List.mem_filter.mpr ⟨hc, hi⟩)
  · simpa [hi] using h
set_option maxRecDepth 65536 in
theorem w_c0 : (Jvm.Cond.code x code maxLocals ret).before args0 about1 = true := code_word (m := ⟨1, 1⟩) (meth := k1m1) (c := k1c1) (by decide +kernel) rfl rfl rfl (by decide +kernel)
set_option maxRecDepth 65536 in
theorem w_c1 : (Jvm.Cond.code ({ cls := "com/example/watchful_controller/watchfulcontroller/model/MacAddress", name := "<init>", desc := "(J)V" } : Jvm.MethodName) prog_31_method_1_code (3 : Nat) (Option.none : Option Jvm.ClassFile.FieldType)).before args0 about1 = true := code_word (m := ⟨2, 0⟩) (meth := k2m0) (c := k2c0) (by decide +kernel) rfl rfl rfl (by decide +kernel)
set_option maxRecDepth 65536 in
theorem w_c2 : (Jvm.Cond.code ({ cls := "java/lang/Object", name := "<init>", desc := "()V" } : Jvm.MethodName) object_method_1_code (1 : Nat) (Option.none : Option Jvm.ClassFile.FieldType)).before args0 about1 = true := code_word (m := ⟨0, 0⟩) (meth := k0m0) (c := k0c0) (by decide +kernel) rfl rfl rfl (by decide +kernel)
set_option maxRecDepth 65536 in
theorem w_c3 : (Jvm.Cond.code ({ cls := "java/lang/Long", name := "valueOf", desc := "(J)Ljava/lang/Long;" } : Jvm.MethodName) jdk_35_method_24_code (3 : Nat) (Option.some (Jvm.ClassFile.FieldType.object "java/lang/Long"))).before args0 about1 = true := code_word (m := ⟨8, 0⟩) (meth := k8m0) (c := k8c0) (by decide +kernel) rfl rfl rfl (by decide +kernel)
set_option maxRecDepth 65536 in
theorem w_c4 : (Jvm.Cond.code ({ cls := "com/example/watchful_controller/watchfulcontroller/model/MacAddress", name := "equals", desc := "(Ljava/lang/Object;)Z" } : Jvm.MethodName) prog_31_method_7_code (2 : Nat) (Option.some Jvm.ClassFile.FieldType.boolean)).before args0 about1 = true := code_word (m := ⟨2, 1⟩) (meth := k2m1) (c := k2c1) (by decide +kernel) rfl rfl rfl (by decide +kernel)
set_option maxRecDepth 65536 in
theorem w_c5 : (Jvm.Cond.code ({ cls := "java/lang/Long", name := "<init>", desc := "(J)V" } : Jvm.MethodName) jdk_35_method_26_code (3 : Nat) (Option.none : Option Jvm.ClassFile.FieldType)).before args0 about1 = true := code_word (m := ⟨8, 1⟩) (meth := k8m1) (c := k8c1) (by decide +kernel) rfl rfl rfl (by decide +kernel)
set_option maxRecDepth 65536 in
theorem w_c6 : (Jvm.Cond.code ({ cls := "java/lang/Number", name := "<init>", desc := "()V" } : Jvm.MethodName) jdk_18_method_1_code (1 : Nat) (Option.none : Option Jvm.ClassFile.FieldType)).before args0 about1 = true := code_word (m := ⟨4, 0⟩) (meth := k4m0) (c := k4c0) (by decide +kernel) rfl rfl rfl (by decide +kernel)
def codes1 : List Jvm.Cond := [Jvm.Cond.code x code maxLocals ret, Jvm.Cond.code ({ cls := "com/example/watchful_controller/watchfulcontroller/model/MacAddress", name := "<init>", desc := "(J)V" } : Jvm.MethodName) prog_31_method_1_code (3 : Nat) (Option.none : Option Jvm.ClassFile.FieldType), Jvm.Cond.code ({ cls := "java/lang/Object", name := "<init>", desc := "()V" } : Jvm.MethodName) object_method_1_code (1 : Nat) (Option.none : Option Jvm.ClassFile.FieldType), Jvm.Cond.code ({ cls := "java/lang/Long", name := "valueOf", desc := "(J)Ljava/lang/Long;" } : Jvm.MethodName) jdk_35_method_24_code (3 : Nat) (Option.some (Jvm.ClassFile.FieldType.object "java/lang/Long")), Jvm.Cond.code ({ cls := "com/example/watchful_controller/watchfulcontroller/model/MacAddress", name := "equals", desc := "(Ljava/lang/Object;)Z" } : Jvm.MethodName) prog_31_method_7_code (2 : Nat) (Option.some Jvm.ClassFile.FieldType.boolean), Jvm.Cond.code ({ cls := "java/lang/Long", name := "<init>", desc := "(J)V" } : Jvm.MethodName) jdk_35_method_26_code (3 : Nat) (Option.none : Option Jvm.ClassFile.FieldType), Jvm.Cond.code ({ cls := "java/lang/Number", name := "<init>", desc := "()V" } : Jvm.MethodName) jdk_18_method_1_code (1 : Nat) (Option.none : Option Jvm.ClassFile.FieldType)]
set_option maxRecDepth 65536 in
theorem codes_eq : words1.filter isCode = codes1 := rfl
theorem w_codes : ∀ c ∈ words1.filter isCode, c.before args0 about1 = true := by
  rw [codes_eq]
  intro c hc
  simp only [codes1, List.mem_cons, List.not_mem_nil, or_false] at hc
  rcases hc with rfl | rfl | rfl | rfl | rfl | rfl | rfl
  · exact w_c0
  · exact w_c1
  · exact w_c2
  · exact w_c3
  · exact w_c4
  · exact w_c5
  · exact w_c6
set_option maxRecDepth 65536 in
theorem w_t1 : (words1.take 24).all (fun c => isCode c || c.before args0 about1) = true := by decide +kernel
set_option maxRecDepth 65536 in
theorem w_t2 : (words1.drop 24).all (fun c => isCode c || c.before args0 about1) = true := by decide +kernel
theorem w_tables : (allAtoms (Jvm.Cond.code x code maxLocals ret :: tables_1)).before args0 about1 = true := by
  rw [allAtoms_all]
  show words1.all (fun c => c.before args0 about1) = true
  refine all_split ?_ w_codes
  rw [← List.take_append_drop 24 words1, List.all_append, w_t1, w_t2]
  rfl
set_option maxRecDepth 65536 in
theorem w_rest : rest_1_c.before args0 about1 = true := by decide +kernel
set_option maxRecDepth 65536 in
theorem w_case : (Jvm.Cond.and given_1 narrow_1).before args0 about1 = true := by decide +kernel
theorem w_applies : (headSpec (Jvm.Cond.code x code maxLocals ret :: tables_1) room_1).applies x e0.platform about1 = true :=
  (Spec.applies_iff w_frames).mpr ⟨w_running, w_runnable, w_alone, w_named, w_hears, w_ripe, w_room, w_tables⟩
theorem atStart : AtStart classFile x code maxLocals ret World_1 tables_1 room_1 Calls_1 rest_1 Pre_1 launch0 p0 e0 about1 theMethod args0 below0 :=
  ⟨lists_1, trivial, launch0.admits_env _ _ _, launch0.least_env, fairChoices_fair.cas, fairChoices_fair.clock, w_frames, w_args, w_heap, w_applies, trivial, w_rest, w_case⟩
end start1
theorem witness_1 : WitnessClaimed_1 := ⟨start1.p0, start1.e0, start1.about1, start1.theMethod, start1.args0, start1.below0, start1.atStart⟩
end Jvm.Pilot.@@N@@

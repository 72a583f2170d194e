import JvmDerived
import JvmDerived.Pilot.@@N@@Statement
import JvmDerived.Pilot.@@N@@Code
set_option linter.unusedVariables false
set_option linter.unusedSimpArgs false
namespace Jvm.RoadKit
open Sem ClassFile Op Lib Jvm.Stand Jvm.Free Jvm.LawKit
section New
variable {p : Program} {l : Launch} {e : Env} {R : Room} {s : State} {m : MethodId} {args : Array Value} {below : List Frame} {meth : Method} {c : Code} {T : State} {locs : List Loc} {cells slots : Nat}
theorem retI (X : Stand p l e R s m args below meth c T locs cells slots) (hx : p.tables.exec = Jvm.exec) {pc : Nat} {Ls : Array Slot} {z : Int32} {rest : List Value} (hret : meth.sig.returnType = some .int) (hd : decode c.code pc = .ok (.ireturn, 1)) {fs : List Frame}
    (hl : ∀ (f : JFrame) (acts : List Action), f.method = m → f.locked = none → f.entered = [] → (doReturn e (T.setTop f) acts (some (.int z))).1 = T.setFrames fs) : Steps p.tables e below (T.setTop (mkF m pc Ls (.int z :: rest))) (T.setFrames fs) := by
  have hm' : T.vm.method? m = some meth := X.method'
  have hn : narrow .int (.int z) = .int z := rfl
  show Steps p.tables e below (T.setTop { method := m, pc := pc, locals := Ls, stack := _ :: rest, locked := none }) _
  jvm_step X.here [X.here.top, hx, hd, hm', hret, hn]
  first | (intro acts; rw [hl _ acts rfl rfl rfl]) | rw [hl _ _ rfl rfl rfl]
  exact Steps.refl _
end New
end Jvm.RoadKit
namespace Jvm.Pilot.@@N@@
open Jvm Jvm.ClassFile Sem Op Lib Jvm.Free Jvm.Stand Jvm.LawKit Jvm.RoadKit Bundle Jvm.Pilot.@@N@@.Jvm.D

section OwnArr
variable {p : Program} {l : Launch} {e : Env} {R : Room} {s : State} {m : MethodId} {args : Array Value} {below : List Frame} {meth : Method} {c : Code} {T : State} {locs : List Loc} {cells slots : Nat} {Z : State} {h : Heap} {a : Addr} {k : ClassId} {n : Int32} {vs : List Value} {d : Value}
theorem own_len {ty : FieldType} {g : JFrame} {target : State} (X : Stand p l e R s m args below meth c T locs cells slots) (hx : p.tables.exec = Jvm.exec) (hZ : Z.Warmed39 s.vm) (eT : T.heap = h) (A : Arv Z h a k ty n vs d) (hg : g.method = m) {rest : List Value} (hs : g.stack = .ref a :: rest) (hd : decode c.code g.pc = .ok (.arraylength, 1))
    (hr : Steps p.tables e below (T.setTop { g with pc := g.pc + 1, stack := .int n :: rest }) target) : Steps p.tables e below (T.setTop g) target := by
  obtain ⟨cl, Ar, -, S, M, -, -⟩ := A
  refine X.arraylength hx (by rw [eT]; exact Ar.1) (State.isArrayOf_alike hZ.alike Ar.2.1) hg hs hd _ ?_
  rw [len_of S M]
  exact hr
theorem own_bal {g : JFrame} {target : State} (X : Stand p l e R s m args below meth c T locs cells slots) (hx : p.tables.exec = Jvm.exec) (hZ : Z.Warmed39 s.vm) (eT : T.heap = h) (A : Arv Z h a k .byte n vs d) {j : Int32} (hj : ¬ j < 0 ∧ j < n) {v : Value} (hv : vs.getD j.toNatClampNeg d = v) (hg : g.method = m) {rest : List Value} (hs : g.stack = .int j :: .ref a :: rest) (hd : decode c.code g.pc = .ok (.baload, 1))
    (hr : Steps p.tables e below (T.setTop { g with pc := g.pc + 1, stack := v :: rest }) target) : Steps p.tables e below (T.setTop g) target := by
  obtain ⟨cl, Ar, -, S, M, H, -⟩ := A
  have hin := inb_of S hj
  exact X.baloadBytes hx (by rw [eT]; exact Ar.1) (State.isArrayOf_alike hZ.alike Ar.2.1) Ar.2.2 hin (Has.at H hin hv) hg hs hd _ hr
end OwnArr
theorem own_rng {mv v : Int64} (h : mv = (v &&& (281474976710655 : Int64))) : 0 ≤ mv.toInt ∧ mv.toInt < 281474976710656 := by
  have h1 := c_maskL v 281474976710655 48 (by decide) (by decide)
  rw [← h] at h1
  omega
theorem own_shl (x : Int64) (k : Int32) (n : Nat) (hk : k.toBitVec.toNat % 64 = n) (h0 : (k.toInt64 &&& 63) = (k &&& 0x3f).toInt64) : ((x <<< (k.toInt64 &&& 63)).toInt - x.toInt * (2 ^ n : Nat)) % 18446744073709551616 = 0 := by
  rw [h0]; exact c_lshl x k n hk

theorem own_us0 (x : Int64) : (XT.ushrL x (40 : Int32)).toInt = (x.toInt % 18446744073709551616) / 1099511627776 := by
  have h0 : ((40 : Int32).toInt64.toUInt64 &&& Int64.toUInt64 63) = ((40 : Int32) &&& 0x3f).toInt64.toUInt64 := by decide
  unfold XT.ushrL
  rw [h0]
  exact c_lushr x 40 40 (by decide) (by decide)
theorem own_us1 (x : Int64) : (XT.ushrL x (32 : Int32)).toInt = (x.toInt % 18446744073709551616) / 4294967296 := by
  have h0 : ((32 : Int32).toInt64.toUInt64 &&& Int64.toUInt64 63) = ((32 : Int32) &&& 0x3f).toInt64.toUInt64 := by decide
  unfold XT.ushrL
  rw [h0]
  exact c_lushr x 32 32 (by decide) (by decide)
theorem own_us2 (x : Int64) : (XT.ushrL x (24 : Int32)).toInt = (x.toInt % 18446744073709551616) / 16777216 := by
  have h0 : ((24 : Int32).toInt64.toUInt64 &&& Int64.toUInt64 63) = ((24 : Int32) &&& 0x3f).toInt64.toUInt64 := by decide
  unfold XT.ushrL
  rw [h0]
  exact c_lushr x 24 24 (by decide) (by decide)
theorem own_us3 (x : Int64) : (XT.ushrL x (16 : Int32)).toInt = (x.toInt % 18446744073709551616) / 65536 := by
  have h0 : ((16 : Int32).toInt64.toUInt64 &&& Int64.toUInt64 63) = ((16 : Int32) &&& 0x3f).toInt64.toUInt64 := by decide
  unfold XT.ushrL
  rw [h0]
  exact c_lushr x 16 16 (by decide) (by decide)
theorem own_us4 (x : Int64) : (XT.ushrL x (8 : Int32)).toInt = (x.toInt % 18446744073709551616) / 256 := by
  have h0 : ((8 : Int32).toInt64.toUInt64 &&& Int64.toUInt64 63) = ((8 : Int32) &&& 0x3f).toInt64.toUInt64 := by decide
  unfold XT.ushrL
  rw [h0]
  exact c_lushr x 8 8 (by decide) (by decide)
theorem own_us5 (x : Int64) : (XT.ushrL x (0 : Int32)).toInt = x.toInt := by
  have h0 : ((0 : Int32).toInt64.toUInt64 &&& Int64.toUInt64 63) = 0 := by decide
  unfold XT.ushrL
  rw [h0]
  have : (x.toUInt64 >>> (0 : UInt64)) = x.toUInt64 := by simp
  rw [this]; rfl
theorem own_b0 {mv v : Int64} {o : Int32} (hm : mv = (v &&& (281474976710655 : Int64))) (h : o = (nar .byte ((XT.ushrL mv (40 : Int32)).toInt32).toInt8.toInt32)) : ((o &&& (255 : Int32)).toInt64).toInt = mv.toInt / 1099511627776 % 256 := by
  have hr := own_rng hm
  have h1 := own_us0 mv
  have h2 := c_l2i (XT.ushrL mv (40 : Int32))
  have h3 := c_i2b ((XT.ushrL mv (40 : Int32)).toInt32)
  have h4 := c_i2b (((XT.ushrL mv (40 : Int32)).toInt32).toInt8.toInt32)
  have h5 : o.toInt = ((((XT.ushrL mv (40 : Int32)).toInt32).toInt8.toInt32).toInt8.toInt32).toInt := by rw [h]; rfl
  have h6 := c_mask o 255 8 (by decide) (by decide)
  have h7 := c_i2l (o &&& (255 : Int32))
  omega
theorem own_b1 {mv v : Int64} {o : Int32} (hm : mv = (v &&& (281474976710655 : Int64))) (h : o = (nar .byte ((XT.ushrL mv (32 : Int32)).toInt32).toInt8.toInt32)) : ((o &&& (255 : Int32)).toInt64).toInt = mv.toInt / 4294967296 % 256 := by
  have hr := own_rng hm
  have h1 := own_us1 mv
  have h2 := c_l2i (XT.ushrL mv (32 : Int32))
  have h3 := c_i2b ((XT.ushrL mv (32 : Int32)).toInt32)
  have h4 := c_i2b (((XT.ushrL mv (32 : Int32)).toInt32).toInt8.toInt32)
  have h5 : o.toInt = ((((XT.ushrL mv (32 : Int32)).toInt32).toInt8.toInt32).toInt8.toInt32).toInt := by rw [h]; rfl
  have h6 := c_mask o 255 8 (by decide) (by decide)
  have h7 := c_i2l (o &&& (255 : Int32))
  omega
theorem own_b2 {mv v : Int64} {o : Int32} (hm : mv = (v &&& (281474976710655 : Int64))) (h : o = (nar .byte ((XT.ushrL mv (24 : Int32)).toInt32).toInt8.toInt32)) : ((o &&& (255 : Int32)).toInt64).toInt = mv.toInt / 16777216 % 256 := by
  have hr := own_rng hm
  have h1 := own_us2 mv
  have h2 := c_l2i (XT.ushrL mv (24 : Int32))
  have h3 := c_i2b ((XT.ushrL mv (24 : Int32)).toInt32)
  have h4 := c_i2b (((XT.ushrL mv (24 : Int32)).toInt32).toInt8.toInt32)
  have h5 : o.toInt = ((((XT.ushrL mv (24 : Int32)).toInt32).toInt8.toInt32).toInt8.toInt32).toInt := by rw [h]; rfl
  have h6 := c_mask o 255 8 (by decide) (by decide)
  have h7 := c_i2l (o &&& (255 : Int32))
  omega
theorem own_b3 {mv v : Int64} {o : Int32} (hm : mv = (v &&& (281474976710655 : Int64))) (h : o = (nar .byte ((XT.ushrL mv (16 : Int32)).toInt32).toInt8.toInt32)) : ((o &&& (255 : Int32)).toInt64).toInt = mv.toInt / 65536 % 256 := by
  have hr := own_rng hm
  have h1 := own_us3 mv
  have h2 := c_l2i (XT.ushrL mv (16 : Int32))
  have h3 := c_i2b ((XT.ushrL mv (16 : Int32)).toInt32)
  have h4 := c_i2b (((XT.ushrL mv (16 : Int32)).toInt32).toInt8.toInt32)
  have h5 : o.toInt = ((((XT.ushrL mv (16 : Int32)).toInt32).toInt8.toInt32).toInt8.toInt32).toInt := by rw [h]; rfl
  have h6 := c_mask o 255 8 (by decide) (by decide)
  have h7 := c_i2l (o &&& (255 : Int32))
  omega
theorem own_b4 {mv v : Int64} {o : Int32} (hm : mv = (v &&& (281474976710655 : Int64))) (h : o = (nar .byte ((XT.ushrL mv (8 : Int32)).toInt32).toInt8.toInt32)) : ((o &&& (255 : Int32)).toInt64).toInt = mv.toInt / 256 % 256 := by
  have hr := own_rng hm
  have h1 := own_us4 mv
  have h2 := c_l2i (XT.ushrL mv (8 : Int32))
  have h3 := c_i2b ((XT.ushrL mv (8 : Int32)).toInt32)
  have h4 := c_i2b (((XT.ushrL mv (8 : Int32)).toInt32).toInt8.toInt32)
  have h5 : o.toInt = ((((XT.ushrL mv (8 : Int32)).toInt32).toInt8.toInt32).toInt8.toInt32).toInt := by rw [h]; rfl
  have h6 := c_mask o 255 8 (by decide) (by decide)
  have h7 := c_i2l (o &&& (255 : Int32))
  omega
theorem own_b5 {mv v : Int64} {o : Int32} (hm : mv = (v &&& (281474976710655 : Int64))) (h : o = (nar .byte ((XT.ushrL mv (0 : Int32)).toInt32).toInt8.toInt32)) : ((o &&& (255 : Int32)).toInt64).toInt = mv.toInt / 1 % 256 := by
  have hr := own_rng hm
  have h1 := own_us5 mv
  have h2 := c_l2i (XT.ushrL mv (0 : Int32))
  have h3 := c_i2b ((XT.ushrL mv (0 : Int32)).toInt32)
  have h4 := c_i2b (((XT.ushrL mv (0 : Int32)).toInt32).toInt8.toInt32)
  have h5 : o.toInt = ((((XT.ushrL mv (0 : Int32)).toInt32).toInt8.toInt32).toInt8.toInt32).toInt := by rw [h]; rfl
  have h6 := c_mask o 255 8 (by decide) (by decide)
  have h7 := c_i2l (o &&& (255 : Int32))
  omega
set_option maxHeartbeats 4000000 in
theorem own_plain {v mm rr : Int64} {o0 o1 o2 o3 o4 o5 : Int32} (hm : mm = (v &&& (281474976710655 : Int64))) (h0 : o0 = (nar .byte ((XT.ushrL mm (40 : Int32)).toInt32).toInt8.toInt32)) (h1 : o1 = (nar .byte ((XT.ushrL mm (32 : Int32)).toInt32).toInt8.toInt32)) (h2 : o2 = (nar .byte ((XT.ushrL mm (24 : Int32)).toInt32).toInt8.toInt32)) (h3 : o3 = (nar .byte ((XT.ushrL mm (16 : Int32)).toInt32).toInt8.toInt32)) (h4 : o4 = (nar .byte ((XT.ushrL mm (8 : Int32)).toInt32).toInt8.toInt32)) (h5 : o5 = (nar .byte ((XT.ushrL mm (0 : Int32)).toInt32).toInt8.toInt32)) (hr : rr = ((((((((o0 &&& (255 : Int32)).toInt64) <<< ((40 : Int32).toInt64 &&& 63)) ||| (((o1 &&& (255 : Int32)).toInt64) <<< ((32 : Int32).toInt64 &&& 63))) ||| (((o2 &&& (255 : Int32)).toInt64) <<< ((24 : Int32).toInt64 &&& 63))) ||| (((o3 &&& (255 : Int32)).toInt64) <<< ((16 : Int32).toInt64 &&& 63))) ||| (((o4 &&& (255 : Int32)).toInt64) <<< ((8 : Int32).toInt64 &&& 63))) ||| ((o5 &&& (255 : Int32)).toInt64))) : rr = mm := by
  have hg := own_rng hm
  have b0 := own_b0 hm h0
  have b1 := own_b1 hm h1
  have b2 := own_b2 hm h2
  have b3 := own_b3 hm h3
  have b4 := own_b4 hm h4
  have b5 := own_b5 hm h5
  have s0 := own_shl ((o0 &&& (255 : Int32)).toInt64) 40 40 (by decide) (by decide)
  have s1 := own_shl ((o1 &&& (255 : Int32)).toInt64) 32 32 (by decide) (by decide)
  have s2 := own_shl ((o2 &&& (255 : Int32)).toInt64) 24 24 (by decide) (by decide)
  have s3 := own_shl ((o3 &&& (255 : Int32)).toInt64) 16 16 (by decide) (by decide)
  have s4 := own_shl ((o4 &&& (255 : Int32)).toInt64) 8 8 (by decide) (by decide)
  obtain ⟨z0, hz0⟩ : ∃ z, z = ((o0 &&& (255 : Int32)).toInt64) := ⟨_, rfl⟩
  rw [← hz0] at hr b0 s0
  obtain ⟨z1, hz1⟩ : ∃ z, z = ((o1 &&& (255 : Int32)).toInt64) := ⟨_, rfl⟩
  rw [← hz1] at hr b1 s1
  obtain ⟨z2, hz2⟩ : ∃ z, z = ((o2 &&& (255 : Int32)).toInt64) := ⟨_, rfl⟩
  rw [← hz2] at hr b2 s2
  obtain ⟨z3, hz3⟩ : ∃ z, z = ((o3 &&& (255 : Int32)).toInt64) := ⟨_, rfl⟩
  rw [← hz3] at hr b3 s3
  obtain ⟨z4, hz4⟩ : ∃ z, z = ((o4 &&& (255 : Int32)).toInt64) := ⟨_, rfl⟩
  rw [← hz4] at hr b4 s4
  obtain ⟨z5, hz5⟩ : ∃ z, z = ((o5 &&& (255 : Int32)).toInt64) := ⟨_, rfl⟩
  rw [← hz5] at hr b5
  obtain ⟨t0, ht0⟩ : ∃ z, z = (z0 <<< ((40 : Int32).toInt64 &&& 63)) := ⟨_, rfl⟩
  rw [← ht0] at hr s0
  have u0 := rng64 t0
  obtain ⟨t1, ht1⟩ : ∃ z, z = (z1 <<< ((32 : Int32).toInt64 &&& 63)) := ⟨_, rfl⟩
  rw [← ht1] at hr s1
  have u1 := rng64 t1
  obtain ⟨t2, ht2⟩ : ∃ z, z = (z2 <<< ((24 : Int32).toInt64 &&& 63)) := ⟨_, rfl⟩
  rw [← ht2] at hr s2
  have u2 := rng64 t2
  obtain ⟨t3, ht3⟩ : ∃ z, z = (z3 <<< ((16 : Int32).toInt64 &&& 63)) := ⟨_, rfl⟩
  rw [← ht3] at hr s3
  have u3 := rng64 t3
  obtain ⟨t4, ht4⟩ : ∃ z, z = (z4 <<< ((8 : Int32).toInt64 &&& 63)) := ⟨_, rfl⟩
  rw [← ht4] at hr s4
  have u4 := rng64 t4
  have q1 := c_orL t0 t1 40 (by decide) 1099511627776 (by decide) (by omega) (by omega) (by omega)
  obtain ⟨a1, ha1⟩ : ∃ z, z = t0 ||| t1 := ⟨_, rfl⟩
  rw [← ha1] at hr q1
  have v1 := rng64 a1
  have q2 := c_orL a1 t2 32 (by decide) 4294967296 (by decide) (by omega) (by omega) (by omega)
  obtain ⟨a2, ha2⟩ : ∃ z, z = a1 ||| t2 := ⟨_, rfl⟩
  rw [← ha2] at hr q2
  have v2 := rng64 a2
  have q3 := c_orL a2 t3 24 (by decide) 16777216 (by decide) (by omega) (by omega) (by omega)
  obtain ⟨a3, ha3⟩ : ∃ z, z = a2 ||| t3 := ⟨_, rfl⟩
  rw [← ha3] at hr q3
  have v3 := rng64 a3
  have q4 := c_orL a3 t4 16 (by decide) 65536 (by decide) (by omega) (by omega) (by omega)
  obtain ⟨a4, ha4⟩ : ∃ z, z = a3 ||| t4 := ⟨_, rfl⟩
  rw [← ha4] at hr q4
  have v4 := rng64 a4
  have q5 := c_orL a4 z5 8 (by decide) 256 (by decide) (by omega) (by omega) (by omega)
  obtain ⟨a5, ha5⟩ : ∃ z, z = a4 ||| z5 := ⟨_, rfl⟩
  rw [← ha5] at hr q5
  have v5 := rng64 a5
  apply Int64.toInt_inj.mp
  rw [hr]
  omega

theorem pd_0 : parseMethodDescriptor "(J)V" = some ⟨[.long], none⟩ := by decide +kernel
theorem pd_1 : parseMethodDescriptor "()[B" = some ⟨[], some (.array .byte)⟩ := by decide +kernel
theorem d1_0 : decode prog_31_method_1_code 0 = .ok (.aload_n 0, 1) := by decide +kernel
theorem d1_1 : decode prog_31_method_1_code 1 = .ok (.invokespecial 1, 3) := by decide +kernel
theorem d1_4 : decode prog_31_method_1_code 4 = .ok (.aload_n 0, 1) := by decide +kernel
theorem d1_5 : decode prog_31_method_1_code 5 = .ok (.lload_n 1, 1) := by decide +kernel
theorem d1_6 : decode prog_31_method_1_code 6 = .ok (.putfield 7, 3) := by decide +kernel
theorem d1_9 : decode prog_31_method_1_code 9 = .ok (.return_, 1) := by decide +kernel
theorem pn_1 : plainName "com/example/watchful_controller/watchfulcontroller/model/MacAddress" = true := by first | (simp [plainName, overriddenIn]; done) | decide +kernel
theorem ef_1 (m : MethodId) (x0 : Addr) (x1 : Int64) : entryFrame m #[(.ref x0), (.long x1)] 3 = mkF m 0 #[.val (.ref x0), .val (.long x1), .second] [] := by first | (simp [entryFrame, mkF, argsToLocals, Value.category]; done) | rfl
def Q1 (Z : State) (a1 : Addr) (q2 : Int64) (u_value : Value) (h0 : Heap) (n0 : Nat) (v : Option Value) (h : Heap) (L : List Loc) : Prop := v = none ∧ Fr n0 L ∧ Keep h0 h [a1] ∧ Exa Z h a1 "com/example/watchful_controller/watchfulcontroller/model/MacAddress" ∧ Fld Z h a1 "com/example/watchful_controller/watchfulcontroller/model/MacAddress" "value" "J" (.long q2)
set_option maxRecDepth 65536 in
set_option maxHeartbeats 40000000 in
theorem rm1 (l : Launch) (Z : State) (a0 : Array Value) (hw : ∀ d ∈ tables_1, d.before a0 Z = true) (ws : List Jvm.Cond) (a1 : Addr) (q2 : Int64) (u_value : Value) (h0 : Heap) (n0 : Nat) (Z0 : n0 ≤ h0.size) (E_a : Exa Z h0 a1 "com/example/watchful_controller/watchfulcontroller/model/MacAddress") (F_value : Fld Z h0 a1 "com/example/watchful_controller/watchfulcontroller/model/MacAddress" "value" "J" u_value) (g_a : n0 ≤ a1) :
    MetFree l (⟨"com/example/watchful_controller/watchfulcontroller/model/MacAddress", "<init>", "(J)V"⟩ : MethodName) (head1 (Jvm.Cond.code (⟨"com/example/watchful_controller/watchfulcontroller/model/MacAddress", "<init>", "(J)V"⟩ : MethodName) prog_31_method_1_code 3 none :: ws) ({ frames := 1, cells := 0, slots := 0, locals := 12 } : Room)) (fun a U => a = #[(.ref a1), (.long q2)] ∧ Z.Warmed39 U.vm ∧ U.heap = h0) (fun _ _ _ _ _ => True) (fun _ U o U' => ∃ v L, o = .returned v ∧ Q1 Z a1 q2 u_value h0 n0 v U'.heap L ∧ FrameEnd U o U' L ({ frames := 1, cells := 0, slots := 0, locals := 12 } : Room).cells ({ frames := 1, cells := 0, slots := 0, locals := 12 } : Room).slots) := by
  refine MetFree.of_bodySF (plainFor_of_name pn_1) hisR ?_
  intro p e s m args below meth c s₁ Bd hml0 hP hK
  obtain ⟨rfl, hZ, hh⟩ := hP
  have hx := Bd.exec
  have hby := Bd.bytes
  have hml : c.maxLocals = 3 := hml0
  have hown : s.vm.findClass "com/example/watchful_controller/watchfulcontroller/model/MacAddress" = some m.cls := findClass_of_methodNamed Bd.named
  have hnm := (name_of_methodNamed Bd.named Bd.method).1
  have X0 : Stand p l e ({ frames := 1, cells := 0, slots := 0, locals := 12 } : Room) s m #[(.ref a1), (.long q2)] below meth c s₁ [] 0 0 := Stand.of_body Bd
  have e0 : s₁.heap = h0 := by rw [← hh, Bd.state]; rfl
  have N0 := Fr.nil n0
  have K0 : Keep h0 h0 [a1] := Keep.refl _ _
  have P0 : ∀ t, Steps p.tables e below (s₁.setTop (mkF m 0 #[.val (.ref a1), .val (.long q2), .second] [])) t → Steps p.tables e below (s₁.setTop (entryFrame m #[(.ref a1), (.long q2)] 3)) t := fun t k => castTop (ef_1 m a1 q2) k
  have P1 : ∀ t, Steps p.tables e below (s₁.setTop (mkF m 1 #[.val (.ref a1), .val (.long q2), .second] [(.ref a1)])) t → Steps p.tables e below (s₁.setTop (entryFrame m #[(.ref a1), (.long q2)] 3)) t := by
    intro t k
    refine P0 _ ?_
    refine XS.aloadN X0.here hx rfl (hb hby d1_0) rfl rfl ?_
    show Steps p.tables e below (s₁.setTop (mkF m 1 #[.val (.ref a1), .val (.long q2), .second] [(.ref a1)])) _
    exact k
  obtain ⟨T2, X2, e2, st2⟩ := initO X0 hx hZ hown (hw _ (List.mem_of_getElem? (i := 7) rfl)) (hw _ (List.mem_of_getElem? (i := 8) rfl)) (hw _ (List.mem_of_getElem? (i := 9) rfl)) e0 (g := (mkF m 1 #[.val (.ref a1), .val (.long q2), .second] [(.ref a1)])) rfl (by rw [hml]; rfl) rfl (hb hby d1_1) (by decide) (W := 0) (by show 2 * 0 + _ ≤ _; exact Nat.le_of_eq rfl) (by decide)
  have P3 : ∀ t, Steps p.tables e below (T2.setTop (mkF m 4 #[.val (.ref a1), .val (.long q2), .second] [])) t → Steps p.tables e below (s₁.setTop (entryFrame m #[(.ref a1), (.long q2)] 3)) t := fun t k => P1 _ (st2 _ k)
  have P4 : ∀ t, Steps p.tables e below (T2.setTop (mkF m 6 #[.val (.ref a1), .val (.long q2), .second] [(.long q2), (.ref a1)])) t → Steps p.tables e below (s₁.setTop (entryFrame m #[(.ref a1), (.long q2)] 3)) t := by
    intro t k
    refine P3 _ ?_
    refine XS.aloadN X2.here hx rfl (hb hby d1_4) rfl rfl ?_
    show Steps p.tables e below (T2.setTop (mkF m 5 #[.val (.ref a1), .val (.long q2), .second] [(.ref a1)])) _
    refine XT.lloadN X2.here hx rfl (hb hby d1_5) rfl ?_
    show Steps p.tables e below (T2.setTop (mkF m 6 #[.val (.ref a1), .val (.long q2), .second] [(.long q2), (.ref a1)])) _
    exact k
  obtain ⟨T5, h5, X5, e5, W5, st5⟩ := putF X2 hx hZ hown (host := "") (Or.inl (hw _ (List.mem_of_getElem? (i := 10) rfl))) Via.refl e2 F_value E_a (Or.inr ⟨(hw _ (List.mem_of_getElem? (i := 11) rfl)), rfl, hnm⟩) (hw _ (List.mem_of_getElem? (i := 2) rfl)) (ty := .long) (by decide) rfl rfl (g := (mkF m 6 #[.val (.ref a1), .val (.long q2), .second] [(.long q2), (.ref a1)])) rfl rfl (hb hby d1_6)
  have F6 : Exa Z h5 a1 "com/example/watchful_controller/watchfulcontroller/model/MacAddress" := E_a.wr W5
  have F7 : Fld Z h5 a1 "com/example/watchful_controller/watchfulcontroller/model/MacAddress" "value" "J" (.long q2) := F_value.same W5
  have Z8 : n0 ≤ h5.size := Nat.le_trans Z0 (Keep.of_wr W5).1
  have K9 : Keep h0 h5 [a1] := K0.wr W5 (Or.inl (List.mem_of_getElem? (i := 0) rfl))
  have N5 := Fr.snoc X5 N0 g_a
  have P10 : ∀ t, Steps p.tables e below (T5.setTop (mkF m 9 #[.val (.ref a1), .val (.long q2), .second] [])) t → Steps p.tables e below (s₁.setTop (entryFrame m #[(.ref a1), (.long q2)] 3)) t := fun t k => P4 _ (st5 _ k)
  obtain ⟨fs, hr, hrun, hended, hW, hsame⟩ := X5.leave (v := none) (fun _ => rfl)
  refine ⟨_, _, P10 _ ?_, hrun, hended, _, _, rfl, ?_, ⟨_, rfl⟩, hW, hsame.mono (by decide) (by decide)⟩
  · exact X5.returnOut hx Bd.returns (hb hby d1_9) hr
  · show Q1 Z a1 q2 u_value h0 n0 _ T5.heap _
    rw [e5]
    exact ⟨rfl, N5, K9, F6, F7⟩
theorem d2_0 : decode prog_31_method_6_code 0 = .ok (.bipush 6, 2) := by decide +kernel
theorem d2_2 : decode prog_31_method_6_code 2 = .ok (.newarray .byte, 2) := by decide +kernel
theorem d2_4 : decode prog_31_method_6_code 4 = .ok (.astore_n 1, 1) := by decide +kernel
theorem d2_5 : decode prog_31_method_6_code 5 = .ok (.iconst 0, 1) := by decide +kernel
theorem d2_6 : decode prog_31_method_6_code 6 = .ok (.istore_n 2, 1) := by decide +kernel
theorem d2_7 : decode prog_31_method_6_code 7 = .ok (.iload_n 2, 1) := by decide +kernel
theorem d2_8 : decode prog_31_method_6_code 8 = .ok (.bipush 6, 2) := by decide +kernel
theorem d2_10 : decode prog_31_method_6_code 10 = .ok (.if_icmp .ge 25, 3) := by decide +kernel
theorem d2_13 : decode prog_31_method_6_code 13 = .ok (.aload_n 1, 1) := by decide +kernel
theorem d2_14 : decode prog_31_method_6_code 14 = .ok (.iload_n 2, 1) := by decide +kernel
theorem d2_15 : decode prog_31_method_6_code 15 = .ok (.aload_n 0, 1) := by decide +kernel
theorem d2_16 : decode prog_31_method_6_code 16 = .ok (.getfield 7, 3) := by decide +kernel
theorem d2_19 : decode prog_31_method_6_code 19 = .ok (.bipush 8, 2) := by decide +kernel
theorem d2_21 : decode prog_31_method_6_code 21 = .ok (.iconst 5, 1) := by decide +kernel
theorem d2_22 : decode prog_31_method_6_code 22 = .ok (.iload_n 2, 1) := by decide +kernel
theorem d2_23 : decode prog_31_method_6_code 23 = .ok (.isub, 1) := by decide +kernel
theorem d2_24 : decode prog_31_method_6_code 24 = .ok (.imul, 1) := by decide +kernel
theorem d2_25 : decode prog_31_method_6_code 25 = .ok (.lushr, 1) := by decide +kernel
theorem d2_26 : decode prog_31_method_6_code 26 = .ok (.l2i, 1) := by decide +kernel
theorem d2_27 : decode prog_31_method_6_code 27 = .ok (.i2b, 1) := by decide +kernel
theorem d2_28 : decode prog_31_method_6_code 28 = .ok (.bastore, 1) := by decide +kernel
theorem d2_29 : decode prog_31_method_6_code 29 = .ok (.iinc 2 1, 3) := by decide +kernel
theorem d2_32 : decode prog_31_method_6_code 32 = .ok (.goto (-25), 3) := by decide +kernel
theorem d2_35 : decode prog_31_method_6_code 35 = .ok (.aload_n 1, 1) := by decide +kernel
theorem d2_36 : decode prog_31_method_6_code 36 = .ok (.areturn, 1) := by decide +kernel
theorem pn_2 : plainName "com/example/watchful_controller/watchfulcontroller/model/MacAddress" = true := by first | (simp [plainName, overriddenIn]; done) | decide +kernel
theorem ef_2 (m : MethodId) (x0 : Addr) : entryFrame m #[(.ref x0)] 3 = mkF m 0 #[.val (.ref x0), .unset, .unset] [] := by first | (simp [entryFrame, mkF, argsToLocals, Value.category]; done) | rfl
def Q2 (Z : State) (a1 : Addr) (w1 : Int64) (h0 : Heap) (n0 : Nat) (v : Option Value) (h : Heap) (L : List Loc) : Prop := ∃ (b : Addr) (kc : ClassId), v = some (.ref b) ∧ Fr n0 L ∧ Keep h0 h [] ∧ h0.size ≤ b ∧ Arv Z h b kc .byte (6 : Int32) [(.int (nar .byte ((XT.ushrL w1 (40 : Int32)).toInt32).toInt8.toInt32)), (.int (nar .byte ((XT.ushrL w1 (32 : Int32)).toInt32).toInt8.toInt32)), (.int (nar .byte ((XT.ushrL w1 (24 : Int32)).toInt32).toInt8.toInt32)), (.int (nar .byte ((XT.ushrL w1 (16 : Int32)).toInt32).toInt8.toInt32)), (.int (nar .byte ((XT.ushrL w1 (8 : Int32)).toInt32).toInt8.toInt32)), (.int (nar .byte ((XT.ushrL w1 (0 : Int32)).toInt32).toInt8.toInt32))] (.int (0 : Int32))
set_option maxRecDepth 65536 in
set_option maxHeartbeats 40000000 in
theorem rm2 (l : Launch) (Z : State) (a0 : Array Value) (hw : ∀ d ∈ tables_1, d.before a0 Z = true) (ws : List Jvm.Cond) (a1 : Addr) (w1 : Int64) (h0 : Heap) (n0 : Nat) (Z0 : n0 ≤ h0.size) (F_v : Fld Z h0 a1 "com/example/watchful_controller/watchfulcontroller/model/MacAddress" "value" "J" (.long w1)) :
    MetFree l (⟨"com/example/watchful_controller/watchfulcontroller/model/MacAddress", "octets", "()[B"⟩ : MethodName) (head1 (Jvm.Cond.code (⟨"com/example/watchful_controller/watchfulcontroller/model/MacAddress", "octets", "()[B"⟩ : MethodName) prog_31_method_6_code 3 (some (.array .byte)) :: ws) ({ frames := 0, cells := 1, slots := 6, locals := 0 } : Room)) (fun a U => a = #[(.ref a1)] ∧ Z.Warmed39 U.vm ∧ U.heap = h0) (fun _ _ _ _ _ => True) (fun _ U o U' => ∃ v L, o = .returned v ∧ Q2 Z a1 w1 h0 n0 v U'.heap L ∧ FrameEnd U o U' L ({ frames := 0, cells := 1, slots := 6, locals := 0 } : Room).cells ({ frames := 0, cells := 1, slots := 6, locals := 0 } : Room).slots) := by
  refine MetFree.of_bodySF (plainFor_of_name pn_2) hisR ?_
  intro p e s m args below meth c s₁ Bd hml0 hP hK
  obtain ⟨rfl, hZ, hh⟩ := hP
  have hx := Bd.exec
  have hby := Bd.bytes
  have hml : c.maxLocals = 3 := hml0
  have hown : s.vm.findClass "com/example/watchful_controller/watchfulcontroller/model/MacAddress" = some m.cls := findClass_of_methodNamed Bd.named
  have hnm := (name_of_methodNamed Bd.named Bd.method).1
  have X0 : Stand p l e ({ frames := 0, cells := 1, slots := 6, locals := 0 } : Room) s m #[(.ref a1)] below meth c s₁ [] 0 0 := Stand.of_body Bd
  have e0 : s₁.heap = h0 := by rw [← hh, Bd.state]; rfl
  have N0 := Fr.nil n0
  have K0 : Keep h0 h0 [] := Keep.refl _ _
  have P0 : ∀ t, Steps p.tables e below (s₁.setTop (mkF m 0 #[.val (.ref a1), .unset, .unset] [])) t → Steps p.tables e below (s₁.setTop (entryFrame m #[(.ref a1)] 3)) t := fun t k => castTop (ef_2 m a1) k
  have P1 : ∀ t, Steps p.tables e below (s₁.setTop (mkF m 2 #[.val (.ref a1), .unset, .unset] [(.int (6 : Int32))])) t → Steps p.tables e below (s₁.setTop (entryFrame m #[(.ref a1)] 3)) t := by
    intro t k
    refine P0 _ ?_
    refine XS.bipush X0.here hx rfl (hb hby d2_0) ?_
    show Steps p.tables e below (s₁.setTop (mkF m 2 #[.val (.ref a1), .unset, .unset] [(.int (6 : Int32))])) _
    exact k
  obtain ⟨T2, h2, k2, X2, e2, E2, A2, st2⟩ := newP X0 hx hZ (hw _ (List.mem_of_getElem? (i := 17) rfl)) e0 (g := (mkF m 2 #[.val (.ref a1), .unset, .unset] [(.int (6 : Int32))])) rfl (hb hby d2_2) rfl (by decide) (cap := 6) (by decide) (by decide) (by decide) (by decide)
  obtain ⟨b2, g2⟩ : ∃ z, z = h0.size := ⟨_, rfl⟩
  rw [← g2] at A2 st2
  have F3 : Fld Z h2 a1 "com/example/watchful_controller/watchfulcontroller/model/MacAddress" "value" "J" (.long w1) := F_v.ext E2
  obtain ⟨kc_b2, hkc_b2⟩ : ∃ z, z = k2 := ⟨_, rfl⟩
  rw [← hkc_b2] at A2
  have F4 : Arv Z h2 b2 kc_b2 .byte (6 : Int32) [(.int (0 : Int32)), (.int (0 : Int32)), (.int (0 : Int32)), (.int (0 : Int32)), (.int (0 : Int32)), (.int (0 : Int32))] (.int (0 : Int32)) := (Arv.new A2 (by decide)).pad (pad_rep [] (.int (0 : Int32)) 6)
  have Z5 : n0 ≤ h2.size := Nat.le_trans Z0 E2.1
  have K6 : Keep h0 h2 [] := K0.ext E2
  have g_b2 : n0 ≤ b2 := Nat.le_trans Z0 (Nat.le_of_eq g2.symm)
  have sz_b2 : h0.size ≤ b2 := Nat.le_trans K0.1 (Nat.le_of_eq g2.symm)
  have ne_a1_b2 : a1 ≠ b2 := Nat.ne_of_lt (Nat.lt_of_lt_of_le F_v.lt (Nat.le_of_eq g2.symm))
  have P7 : ∀ t, Steps p.tables e below (T2.setTop (mkF m 4 #[.val (.ref a1), .unset, .unset] [(.ref b2)])) t → Steps p.tables e below (s₁.setTop (entryFrame m #[(.ref a1)] 3)) t := fun t k => P1 _ (st2 _ k)
  have P8 : ∀ t, Steps p.tables e below (T2.setTop (mkF m 16 #[.val (.ref a1), .val (.ref b2), .val (.int (0 : Int32))] [(.ref a1), (.int (0 : Int32)), (.ref b2)])) t → Steps p.tables e below (s₁.setTop (entryFrame m #[(.ref a1)] 3)) t := by
    intro t k
    refine P7 _ ?_
    refine XS.astoreN X2.here hx rfl (hb hby d2_4) rfl rfl (l' := #[.val (.ref a1), .val (.ref b2), .unset]) rfl ?_
    show Steps p.tables e below (T2.setTop (mkF m 5 #[.val (.ref a1), .val (.ref b2), .unset] [])) _
    refine XS.iconst X2.here hx rfl (hb hby d2_5) ?_
    show Steps p.tables e below (T2.setTop (mkF m 6 #[.val (.ref a1), .val (.ref b2), .unset] [(.int (0 : Int32))])) _
    refine XS.istoreN X2.here hx rfl (hb hby d2_6) rfl (l' := #[.val (.ref a1), .val (.ref b2), .val (.int (0 : Int32))]) rfl ?_
    show Steps p.tables e below (T2.setTop (mkF m 7 #[.val (.ref a1), .val (.ref b2), .val (.int (0 : Int32))] [])) _
    refine XS.iloadN X2.here hx rfl (hb hby d2_7) rfl ?_
    show Steps p.tables e below (T2.setTop (mkF m 8 #[.val (.ref a1), .val (.ref b2), .val (.int (0 : Int32))] [(.int (0 : Int32))])) _
    refine XS.bipush X2.here hx rfl (hb hby d2_8) ?_
    show Steps p.tables e below (T2.setTop (mkF m 10 #[.val (.ref a1), .val (.ref b2), .val (.int (0 : Int32))] [(.int (6 : Int32)), (.int (0 : Int32))])) _
    refine XS.icmpNo X2.here hx rfl (hb hby d2_10) rfl (XT.ii_ge_f (by decide)) ?_
    show Steps p.tables e below (T2.setTop (mkF m 13 #[.val (.ref a1), .val (.ref b2), .val (.int (0 : Int32))] [])) _
    refine XS.aloadN X2.here hx rfl (hb hby d2_13) rfl rfl ?_
    show Steps p.tables e below (T2.setTop (mkF m 14 #[.val (.ref a1), .val (.ref b2), .val (.int (0 : Int32))] [(.ref b2)])) _
    refine XS.iloadN X2.here hx rfl (hb hby d2_14) rfl ?_
    show Steps p.tables e below (T2.setTop (mkF m 15 #[.val (.ref a1), .val (.ref b2), .val (.int (0 : Int32))] [(.int (0 : Int32)), (.ref b2)])) _
    refine XS.aloadN X2.here hx rfl (hb hby d2_15) rfl rfl ?_
    show Steps p.tables e below (T2.setTop (mkF m 16 #[.val (.ref a1), .val (.ref b2), .val (.int (0 : Int32))] [(.ref a1), (.int (0 : Int32)), (.ref b2)])) _
    exact k
  obtain ⟨T9, X9, e9, st9⟩ := getF X2 hx hZ hown (host := "") (Or.inl (hw _ (List.mem_of_getElem? (i := 10) rfl))) Via.refl e2 F3 (g := (mkF m 16 #[.val (.ref a1), .val (.ref b2), .val (.int (0 : Int32))] [(.ref a1), (.int (0 : Int32)), (.ref b2)])) rfl rfl (hb hby d2_16)
  have P10 : ∀ t, Steps p.tables e below (T9.setTop (mkF m 19 #[.val (.ref a1), .val (.ref b2), .val (.int (0 : Int32))] [(.long w1), (.int (0 : Int32)), (.ref b2)])) t → Steps p.tables e below (s₁.setTop (entryFrame m #[(.ref a1)] 3)) t := fun t k => P8 _ (st9 _ k)
  have P11 : ∀ t, Steps p.tables e below (T9.setTop (mkF m 28 #[.val (.ref a1), .val (.ref b2), .val (.int (0 : Int32))] [(.int (((XT.ushrL w1 (40 : Int32)).toInt32).toInt8.toInt32)), (.int (0 : Int32)), (.ref b2)])) t → Steps p.tables e below (s₁.setTop (entryFrame m #[(.ref a1)] 3)) t := by
    intro t k
    refine P10 _ ?_
    refine XS.bipush X9.here hx rfl (hb hby d2_19) ?_
    show Steps p.tables e below (T9.setTop (mkF m 21 #[.val (.ref a1), .val (.ref b2), .val (.int (0 : Int32))] [(.int (8 : Int32)), (.long w1), (.int (0 : Int32)), (.ref b2)])) _
    refine XS.iconst X9.here hx rfl (hb hby d2_21) ?_
    show Steps p.tables e below (T9.setTop (mkF m 22 #[.val (.ref a1), .val (.ref b2), .val (.int (0 : Int32))] [(.int (5 : Int32)), (.int (8 : Int32)), (.long w1), (.int (0 : Int32)), (.ref b2)])) _
    refine XS.iloadN X9.here hx rfl (hb hby d2_22) rfl ?_
    show Steps p.tables e below (T9.setTop (mkF m 23 #[.val (.ref a1), .val (.ref b2), .val (.int (0 : Int32))] [(.int (0 : Int32)), (.int (5 : Int32)), (.int (8 : Int32)), (.long w1), (.int (0 : Int32)), (.ref b2)])) _
    refine XS.isub X9.here hx rfl (hb hby d2_23) rfl ?_
    show Steps p.tables e below (T9.setTop (mkF m 24 #[.val (.ref a1), .val (.ref b2), .val (.int (0 : Int32))] [(.int (5 : Int32)), (.int (8 : Int32)), (.long w1), (.int (0 : Int32)), (.ref b2)])) _
    refine XS.imul X9.here hx rfl (hb hby d2_24) rfl ?_
    show Steps p.tables e below (T9.setTop (mkF m 25 #[.val (.ref a1), .val (.ref b2), .val (.int (0 : Int32))] [(.int (40 : Int32)), (.long w1), (.int (0 : Int32)), (.ref b2)])) _
    refine XT.lushr X9.here hx rfl (hb hby d2_25) rfl ?_
    show Steps p.tables e below (T9.setTop (mkF m 26 #[.val (.ref a1), .val (.ref b2), .val (.int (0 : Int32))] [(.long (XT.ushrL w1 (40 : Int32))), (.int (0 : Int32)), (.ref b2)])) _
    refine XT.l2i X9.here hx rfl (hb hby d2_26) rfl ?_
    show Steps p.tables e below (T9.setTop (mkF m 27 #[.val (.ref a1), .val (.ref b2), .val (.int (0 : Int32))] [(.int ((XT.ushrL w1 (40 : Int32)).toInt32)), (.int (0 : Int32)), (.ref b2)])) _
    refine XT.i2b X9.here hx rfl (hb hby d2_27) rfl ?_
    show Steps p.tables e below (T9.setTop (mkF m 28 #[.val (.ref a1), .val (.ref b2), .val (.int (0 : Int32))] [(.int (((XT.ushrL w1 (40 : Int32)).toInt32).toInt8.toInt32)), (.int (0 : Int32)), (.ref b2)])) _
    exact k
  obtain ⟨cl12, Ar12, q12, S12, M12, H12, G12⟩ := F4
  have in12 : ¬ ((0 : Int32) < 0 ∨ cl12.slots.size ≤ ((0 : Int32)).toNatClampNeg) := inb_of S12 ⟨by decide, by decide⟩
  obtain ⟨T12, h12, X12, e12, W12, st12⟩ := stB X9 hx hZ e9 Ar12 (j := (0 : Int32)) in12 (g := (mkF m 28 #[.val (.ref a1), .val (.ref b2), .val (.int (0 : Int32))] [(.int (((XT.ushrL w1 (40 : Int32)).toInt32).toInt8.toInt32)), (.int (0 : Int32)), (.ref b2)])) rfl rfl (hb hby d2_28)
  have F13 : Fld Z h12 a1 "com/example/watchful_controller/watchfulcontroller/model/MacAddress" "value" "J" (.long w1) := F3.other W12 (Or.inl ne_a1_b2)
  have F14 : Arv Z h12 b2 kc_b2 .byte (6 : Int32) [(.int (nar .byte (((XT.ushrL w1 (40 : Int32)).toInt32).toInt8.toInt32))), (.int (0 : Int32)), (.int (0 : Int32)), (.int (0 : Int32)), (.int (0 : Int32)), (.int (0 : Int32))] (.int (0 : Int32)) := Arv.set Ar12 q12 S12 M12 H12 G12 (fits_nar_byte _) W12 0 rfl (Nat.le_of_ble_eq_true rfl)
  have Z15 : n0 ≤ h12.size := Nat.le_trans Z5 (Keep.of_wr W12).1
  have K16 : Keep h0 h12 [] := K6.wr W12 (Or.inr sz_b2)
  have N12 := Fr.snoc X12 N0 g_b2
  have P17 : ∀ t, Steps p.tables e below (T12.setTop (mkF m 29 #[.val (.ref a1), .val (.ref b2), .val (.int (0 : Int32))] [])) t → Steps p.tables e below (s₁.setTop (entryFrame m #[(.ref a1)] 3)) t := fun t k => P11 _ (st12 _ k)
  have P18 : ∀ t, Steps p.tables e below (T12.setTop (mkF m 16 #[.val (.ref a1), .val (.ref b2), .val (.int (1 : Int32))] [(.ref a1), (.int (1 : Int32)), (.ref b2)])) t → Steps p.tables e below (s₁.setTop (entryFrame m #[(.ref a1)] 3)) t := by
    intro t k
    refine P17 _ ?_
    refine XS.iinc X12.here hx rfl (hb hby d2_29) rfl (l' := #[.val (.ref a1), .val (.ref b2), .val (.int (1 : Int32))]) rfl ?_
    show Steps p.tables e below (T12.setTop (mkF m 32 #[.val (.ref a1), .val (.ref b2), .val (.int (1 : Int32))] [])) _
    refine XS.goto X12.here hx rfl (pc0 := 32) (pc' := 7) rfl (hb hby d2_32) (by decide) (by decide) ?_
    show Steps p.tables e below (T12.setTop (mkF m 7 #[.val (.ref a1), .val (.ref b2), .val (.int (1 : Int32))] [])) _
    refine XS.iloadN X12.here hx rfl (hb hby d2_7) rfl ?_
    show Steps p.tables e below (T12.setTop (mkF m 8 #[.val (.ref a1), .val (.ref b2), .val (.int (1 : Int32))] [(.int (1 : Int32))])) _
    refine XS.bipush X12.here hx rfl (hb hby d2_8) ?_
    show Steps p.tables e below (T12.setTop (mkF m 10 #[.val (.ref a1), .val (.ref b2), .val (.int (1 : Int32))] [(.int (6 : Int32)), (.int (1 : Int32))])) _
    refine XS.icmpNo X12.here hx rfl (hb hby d2_10) rfl (XT.ii_ge_f (by decide)) ?_
    show Steps p.tables e below (T12.setTop (mkF m 13 #[.val (.ref a1), .val (.ref b2), .val (.int (1 : Int32))] [])) _
    refine XS.aloadN X12.here hx rfl (hb hby d2_13) rfl rfl ?_
    show Steps p.tables e below (T12.setTop (mkF m 14 #[.val (.ref a1), .val (.ref b2), .val (.int (1 : Int32))] [(.ref b2)])) _
    refine XS.iloadN X12.here hx rfl (hb hby d2_14) rfl ?_
    show Steps p.tables e below (T12.setTop (mkF m 15 #[.val (.ref a1), .val (.ref b2), .val (.int (1 : Int32))] [(.int (1 : Int32)), (.ref b2)])) _
    refine XS.aloadN X12.here hx rfl (hb hby d2_15) rfl rfl ?_
    show Steps p.tables e below (T12.setTop (mkF m 16 #[.val (.ref a1), .val (.ref b2), .val (.int (1 : Int32))] [(.ref a1), (.int (1 : Int32)), (.ref b2)])) _
    exact k
  obtain ⟨T19, X19, e19, st19⟩ := getF X12 hx hZ hown (host := "") (Or.inl (hw _ (List.mem_of_getElem? (i := 10) rfl))) Via.refl e12 F13 (g := (mkF m 16 #[.val (.ref a1), .val (.ref b2), .val (.int (1 : Int32))] [(.ref a1), (.int (1 : Int32)), (.ref b2)])) rfl rfl (hb hby d2_16)
  have P20 : ∀ t, Steps p.tables e below (T19.setTop (mkF m 19 #[.val (.ref a1), .val (.ref b2), .val (.int (1 : Int32))] [(.long w1), (.int (1 : Int32)), (.ref b2)])) t → Steps p.tables e below (s₁.setTop (entryFrame m #[(.ref a1)] 3)) t := fun t k => P18 _ (st19 _ k)
  have P21 : ∀ t, Steps p.tables e below (T19.setTop (mkF m 28 #[.val (.ref a1), .val (.ref b2), .val (.int (1 : Int32))] [(.int (((XT.ushrL w1 (32 : Int32)).toInt32).toInt8.toInt32)), (.int (1 : Int32)), (.ref b2)])) t → Steps p.tables e below (s₁.setTop (entryFrame m #[(.ref a1)] 3)) t := by
    intro t k
    refine P20 _ ?_
    refine XS.bipush X19.here hx rfl (hb hby d2_19) ?_
    show Steps p.tables e below (T19.setTop (mkF m 21 #[.val (.ref a1), .val (.ref b2), .val (.int (1 : Int32))] [(.int (8 : Int32)), (.long w1), (.int (1 : Int32)), (.ref b2)])) _
    refine XS.iconst X19.here hx rfl (hb hby d2_21) ?_
    show Steps p.tables e below (T19.setTop (mkF m 22 #[.val (.ref a1), .val (.ref b2), .val (.int (1 : Int32))] [(.int (5 : Int32)), (.int (8 : Int32)), (.long w1), (.int (1 : Int32)), (.ref b2)])) _
    refine XS.iloadN X19.here hx rfl (hb hby d2_22) rfl ?_
    show Steps p.tables e below (T19.setTop (mkF m 23 #[.val (.ref a1), .val (.ref b2), .val (.int (1 : Int32))] [(.int (1 : Int32)), (.int (5 : Int32)), (.int (8 : Int32)), (.long w1), (.int (1 : Int32)), (.ref b2)])) _
    refine XS.isub X19.here hx rfl (hb hby d2_23) rfl ?_
    show Steps p.tables e below (T19.setTop (mkF m 24 #[.val (.ref a1), .val (.ref b2), .val (.int (1 : Int32))] [(.int (4 : Int32)), (.int (8 : Int32)), (.long w1), (.int (1 : Int32)), (.ref b2)])) _
    refine XS.imul X19.here hx rfl (hb hby d2_24) rfl ?_
    show Steps p.tables e below (T19.setTop (mkF m 25 #[.val (.ref a1), .val (.ref b2), .val (.int (1 : Int32))] [(.int (32 : Int32)), (.long w1), (.int (1 : Int32)), (.ref b2)])) _
    refine XT.lushr X19.here hx rfl (hb hby d2_25) rfl ?_
    show Steps p.tables e below (T19.setTop (mkF m 26 #[.val (.ref a1), .val (.ref b2), .val (.int (1 : Int32))] [(.long (XT.ushrL w1 (32 : Int32))), (.int (1 : Int32)), (.ref b2)])) _
    refine XT.l2i X19.here hx rfl (hb hby d2_26) rfl ?_
    show Steps p.tables e below (T19.setTop (mkF m 27 #[.val (.ref a1), .val (.ref b2), .val (.int (1 : Int32))] [(.int ((XT.ushrL w1 (32 : Int32)).toInt32)), (.int (1 : Int32)), (.ref b2)])) _
    refine XT.i2b X19.here hx rfl (hb hby d2_27) rfl ?_
    show Steps p.tables e below (T19.setTop (mkF m 28 #[.val (.ref a1), .val (.ref b2), .val (.int (1 : Int32))] [(.int (((XT.ushrL w1 (32 : Int32)).toInt32).toInt8.toInt32)), (.int (1 : Int32)), (.ref b2)])) _
    exact k
  obtain ⟨cl22, Ar22, q22, S22, M22, H22, G22⟩ := F14
  have in22 : ¬ ((1 : Int32) < 0 ∨ cl22.slots.size ≤ ((1 : Int32)).toNatClampNeg) := inb_of S22 ⟨by decide, by decide⟩
  obtain ⟨T22, h22, X22, e22, W22, st22⟩ := stB X19 hx hZ e19 Ar22 (j := (1 : Int32)) in22 (g := (mkF m 28 #[.val (.ref a1), .val (.ref b2), .val (.int (1 : Int32))] [(.int (((XT.ushrL w1 (32 : Int32)).toInt32).toInt8.toInt32)), (.int (1 : Int32)), (.ref b2)])) rfl rfl (hb hby d2_28)
  have F23 : Fld Z h22 a1 "com/example/watchful_controller/watchfulcontroller/model/MacAddress" "value" "J" (.long w1) := F13.other W22 (Or.inl ne_a1_b2)
  have F24 : Arv Z h22 b2 kc_b2 .byte (6 : Int32) [(.int (nar .byte (((XT.ushrL w1 (40 : Int32)).toInt32).toInt8.toInt32))), (.int (nar .byte (((XT.ushrL w1 (32 : Int32)).toInt32).toInt8.toInt32))), (.int (0 : Int32)), (.int (0 : Int32)), (.int (0 : Int32)), (.int (0 : Int32))] (.int (0 : Int32)) := Arv.set Ar22 q22 S22 M22 H22 G22 (fits_nar_byte _) W22 1 rfl (Nat.le_of_ble_eq_true rfl)
  have Z25 : n0 ≤ h22.size := Nat.le_trans Z15 (Keep.of_wr W22).1
  have K26 : Keep h0 h22 [] := K16.wr W22 (Or.inr sz_b2)
  have N22 := Fr.snoc X22 N12 g_b2
  have P27 : ∀ t, Steps p.tables e below (T22.setTop (mkF m 29 #[.val (.ref a1), .val (.ref b2), .val (.int (1 : Int32))] [])) t → Steps p.tables e below (s₁.setTop (entryFrame m #[(.ref a1)] 3)) t := fun t k => P21 _ (st22 _ k)
  have P28 : ∀ t, Steps p.tables e below (T22.setTop (mkF m 16 #[.val (.ref a1), .val (.ref b2), .val (.int (2 : Int32))] [(.ref a1), (.int (2 : Int32)), (.ref b2)])) t → Steps p.tables e below (s₁.setTop (entryFrame m #[(.ref a1)] 3)) t := by
    intro t k
    refine P27 _ ?_
    refine XS.iinc X22.here hx rfl (hb hby d2_29) rfl (l' := #[.val (.ref a1), .val (.ref b2), .val (.int (2 : Int32))]) rfl ?_
    show Steps p.tables e below (T22.setTop (mkF m 32 #[.val (.ref a1), .val (.ref b2), .val (.int (2 : Int32))] [])) _
    refine XS.goto X22.here hx rfl (pc0 := 32) (pc' := 7) rfl (hb hby d2_32) (by decide) (by decide) ?_
    show Steps p.tables e below (T22.setTop (mkF m 7 #[.val (.ref a1), .val (.ref b2), .val (.int (2 : Int32))] [])) _
    refine XS.iloadN X22.here hx rfl (hb hby d2_7) rfl ?_
    show Steps p.tables e below (T22.setTop (mkF m 8 #[.val (.ref a1), .val (.ref b2), .val (.int (2 : Int32))] [(.int (2 : Int32))])) _
    refine XS.bipush X22.here hx rfl (hb hby d2_8) ?_
    show Steps p.tables e below (T22.setTop (mkF m 10 #[.val (.ref a1), .val (.ref b2), .val (.int (2 : Int32))] [(.int (6 : Int32)), (.int (2 : Int32))])) _
    refine XS.icmpNo X22.here hx rfl (hb hby d2_10) rfl (XT.ii_ge_f (by decide)) ?_
    show Steps p.tables e below (T22.setTop (mkF m 13 #[.val (.ref a1), .val (.ref b2), .val (.int (2 : Int32))] [])) _
    refine XS.aloadN X22.here hx rfl (hb hby d2_13) rfl rfl ?_
    show Steps p.tables e below (T22.setTop (mkF m 14 #[.val (.ref a1), .val (.ref b2), .val (.int (2 : Int32))] [(.ref b2)])) _
    refine XS.iloadN X22.here hx rfl (hb hby d2_14) rfl ?_
    show Steps p.tables e below (T22.setTop (mkF m 15 #[.val (.ref a1), .val (.ref b2), .val (.int (2 : Int32))] [(.int (2 : Int32)), (.ref b2)])) _
    refine XS.aloadN X22.here hx rfl (hb hby d2_15) rfl rfl ?_
    show Steps p.tables e below (T22.setTop (mkF m 16 #[.val (.ref a1), .val (.ref b2), .val (.int (2 : Int32))] [(.ref a1), (.int (2 : Int32)), (.ref b2)])) _
    exact k
  obtain ⟨T29, X29, e29, st29⟩ := getF X22 hx hZ hown (host := "") (Or.inl (hw _ (List.mem_of_getElem? (i := 10) rfl))) Via.refl e22 F23 (g := (mkF m 16 #[.val (.ref a1), .val (.ref b2), .val (.int (2 : Int32))] [(.ref a1), (.int (2 : Int32)), (.ref b2)])) rfl rfl (hb hby d2_16)
  have P30 : ∀ t, Steps p.tables e below (T29.setTop (mkF m 19 #[.val (.ref a1), .val (.ref b2), .val (.int (2 : Int32))] [(.long w1), (.int (2 : Int32)), (.ref b2)])) t → Steps p.tables e below (s₁.setTop (entryFrame m #[(.ref a1)] 3)) t := fun t k => P28 _ (st29 _ k)
  have P31 : ∀ t, Steps p.tables e below (T29.setTop (mkF m 28 #[.val (.ref a1), .val (.ref b2), .val (.int (2 : Int32))] [(.int (((XT.ushrL w1 (24 : Int32)).toInt32).toInt8.toInt32)), (.int (2 : Int32)), (.ref b2)])) t → Steps p.tables e below (s₁.setTop (entryFrame m #[(.ref a1)] 3)) t := by
    intro t k
    refine P30 _ ?_
    refine XS.bipush X29.here hx rfl (hb hby d2_19) ?_
    show Steps p.tables e below (T29.setTop (mkF m 21 #[.val (.ref a1), .val (.ref b2), .val (.int (2 : Int32))] [(.int (8 : Int32)), (.long w1), (.int (2 : Int32)), (.ref b2)])) _
    refine XS.iconst X29.here hx rfl (hb hby d2_21) ?_
    show Steps p.tables e below (T29.setTop (mkF m 22 #[.val (.ref a1), .val (.ref b2), .val (.int (2 : Int32))] [(.int (5 : Int32)), (.int (8 : Int32)), (.long w1), (.int (2 : Int32)), (.ref b2)])) _
    refine XS.iloadN X29.here hx rfl (hb hby d2_22) rfl ?_
    show Steps p.tables e below (T29.setTop (mkF m 23 #[.val (.ref a1), .val (.ref b2), .val (.int (2 : Int32))] [(.int (2 : Int32)), (.int (5 : Int32)), (.int (8 : Int32)), (.long w1), (.int (2 : Int32)), (.ref b2)])) _
    refine XS.isub X29.here hx rfl (hb hby d2_23) rfl ?_
    show Steps p.tables e below (T29.setTop (mkF m 24 #[.val (.ref a1), .val (.ref b2), .val (.int (2 : Int32))] [(.int (3 : Int32)), (.int (8 : Int32)), (.long w1), (.int (2 : Int32)), (.ref b2)])) _
    refine XS.imul X29.here hx rfl (hb hby d2_24) rfl ?_
    show Steps p.tables e below (T29.setTop (mkF m 25 #[.val (.ref a1), .val (.ref b2), .val (.int (2 : Int32))] [(.int (24 : Int32)), (.long w1), (.int (2 : Int32)), (.ref b2)])) _
    refine XT.lushr X29.here hx rfl (hb hby d2_25) rfl ?_
    show Steps p.tables e below (T29.setTop (mkF m 26 #[.val (.ref a1), .val (.ref b2), .val (.int (2 : Int32))] [(.long (XT.ushrL w1 (24 : Int32))), (.int (2 : Int32)), (.ref b2)])) _
    refine XT.l2i X29.here hx rfl (hb hby d2_26) rfl ?_
    show Steps p.tables e below (T29.setTop (mkF m 27 #[.val (.ref a1), .val (.ref b2), .val (.int (2 : Int32))] [(.int ((XT.ushrL w1 (24 : Int32)).toInt32)), (.int (2 : Int32)), (.ref b2)])) _
    refine XT.i2b X29.here hx rfl (hb hby d2_27) rfl ?_
    show Steps p.tables e below (T29.setTop (mkF m 28 #[.val (.ref a1), .val (.ref b2), .val (.int (2 : Int32))] [(.int (((XT.ushrL w1 (24 : Int32)).toInt32).toInt8.toInt32)), (.int (2 : Int32)), (.ref b2)])) _
    exact k
  obtain ⟨cl32, Ar32, q32, S32, M32, H32, G32⟩ := F24
  have in32 : ¬ ((2 : Int32) < 0 ∨ cl32.slots.size ≤ ((2 : Int32)).toNatClampNeg) := inb_of S32 ⟨by decide, by decide⟩
  obtain ⟨T32, h32, X32, e32, W32, st32⟩ := stB X29 hx hZ e29 Ar32 (j := (2 : Int32)) in32 (g := (mkF m 28 #[.val (.ref a1), .val (.ref b2), .val (.int (2 : Int32))] [(.int (((XT.ushrL w1 (24 : Int32)).toInt32).toInt8.toInt32)), (.int (2 : Int32)), (.ref b2)])) rfl rfl (hb hby d2_28)
  have F33 : Fld Z h32 a1 "com/example/watchful_controller/watchfulcontroller/model/MacAddress" "value" "J" (.long w1) := F23.other W32 (Or.inl ne_a1_b2)
  have F34 : Arv Z h32 b2 kc_b2 .byte (6 : Int32) [(.int (nar .byte (((XT.ushrL w1 (40 : Int32)).toInt32).toInt8.toInt32))), (.int (nar .byte (((XT.ushrL w1 (32 : Int32)).toInt32).toInt8.toInt32))), (.int (nar .byte (((XT.ushrL w1 (24 : Int32)).toInt32).toInt8.toInt32))), (.int (0 : Int32)), (.int (0 : Int32)), (.int (0 : Int32))] (.int (0 : Int32)) := Arv.set Ar32 q32 S32 M32 H32 G32 (fits_nar_byte _) W32 2 rfl (Nat.le_of_ble_eq_true rfl)
  have Z35 : n0 ≤ h32.size := Nat.le_trans Z25 (Keep.of_wr W32).1
  have K36 : Keep h0 h32 [] := K26.wr W32 (Or.inr sz_b2)
  have N32 := Fr.snoc X32 N22 g_b2
  have P37 : ∀ t, Steps p.tables e below (T32.setTop (mkF m 29 #[.val (.ref a1), .val (.ref b2), .val (.int (2 : Int32))] [])) t → Steps p.tables e below (s₁.setTop (entryFrame m #[(.ref a1)] 3)) t := fun t k => P31 _ (st32 _ k)
  have P38 : ∀ t, Steps p.tables e below (T32.setTop (mkF m 16 #[.val (.ref a1), .val (.ref b2), .val (.int (3 : Int32))] [(.ref a1), (.int (3 : Int32)), (.ref b2)])) t → Steps p.tables e below (s₁.setTop (entryFrame m #[(.ref a1)] 3)) t := by
    intro t k
    refine P37 _ ?_
    refine XS.iinc X32.here hx rfl (hb hby d2_29) rfl (l' := #[.val (.ref a1), .val (.ref b2), .val (.int (3 : Int32))]) rfl ?_
    show Steps p.tables e below (T32.setTop (mkF m 32 #[.val (.ref a1), .val (.ref b2), .val (.int (3 : Int32))] [])) _
    refine XS.goto X32.here hx rfl (pc0 := 32) (pc' := 7) rfl (hb hby d2_32) (by decide) (by decide) ?_
    show Steps p.tables e below (T32.setTop (mkF m 7 #[.val (.ref a1), .val (.ref b2), .val (.int (3 : Int32))] [])) _
    refine XS.iloadN X32.here hx rfl (hb hby d2_7) rfl ?_
    show Steps p.tables e below (T32.setTop (mkF m 8 #[.val (.ref a1), .val (.ref b2), .val (.int (3 : Int32))] [(.int (3 : Int32))])) _
    refine XS.bipush X32.here hx rfl (hb hby d2_8) ?_
    show Steps p.tables e below (T32.setTop (mkF m 10 #[.val (.ref a1), .val (.ref b2), .val (.int (3 : Int32))] [(.int (6 : Int32)), (.int (3 : Int32))])) _
    refine XS.icmpNo X32.here hx rfl (hb hby d2_10) rfl (XT.ii_ge_f (by decide)) ?_
    show Steps p.tables e below (T32.setTop (mkF m 13 #[.val (.ref a1), .val (.ref b2), .val (.int (3 : Int32))] [])) _
    refine XS.aloadN X32.here hx rfl (hb hby d2_13) rfl rfl ?_
    show Steps p.tables e below (T32.setTop (mkF m 14 #[.val (.ref a1), .val (.ref b2), .val (.int (3 : Int32))] [(.ref b2)])) _
    refine XS.iloadN X32.here hx rfl (hb hby d2_14) rfl ?_
    show Steps p.tables e below (T32.setTop (mkF m 15 #[.val (.ref a1), .val (.ref b2), .val (.int (3 : Int32))] [(.int (3 : Int32)), (.ref b2)])) _
    refine XS.aloadN X32.here hx rfl (hb hby d2_15) rfl rfl ?_
    show Steps p.tables e below (T32.setTop (mkF m 16 #[.val (.ref a1), .val (.ref b2), .val (.int (3 : Int32))] [(.ref a1), (.int (3 : Int32)), (.ref b2)])) _
    exact k
  obtain ⟨T39, X39, e39, st39⟩ := getF X32 hx hZ hown (host := "") (Or.inl (hw _ (List.mem_of_getElem? (i := 10) rfl))) Via.refl e32 F33 (g := (mkF m 16 #[.val (.ref a1), .val (.ref b2), .val (.int (3 : Int32))] [(.ref a1), (.int (3 : Int32)), (.ref b2)])) rfl rfl (hb hby d2_16)
  have P40 : ∀ t, Steps p.tables e below (T39.setTop (mkF m 19 #[.val (.ref a1), .val (.ref b2), .val (.int (3 : Int32))] [(.long w1), (.int (3 : Int32)), (.ref b2)])) t → Steps p.tables e below (s₁.setTop (entryFrame m #[(.ref a1)] 3)) t := fun t k => P38 _ (st39 _ k)
  have P41 : ∀ t, Steps p.tables e below (T39.setTop (mkF m 28 #[.val (.ref a1), .val (.ref b2), .val (.int (3 : Int32))] [(.int (((XT.ushrL w1 (16 : Int32)).toInt32).toInt8.toInt32)), (.int (3 : Int32)), (.ref b2)])) t → Steps p.tables e below (s₁.setTop (entryFrame m #[(.ref a1)] 3)) t := by
    intro t k
    refine P40 _ ?_
    refine XS.bipush X39.here hx rfl (hb hby d2_19) ?_
    show Steps p.tables e below (T39.setTop (mkF m 21 #[.val (.ref a1), .val (.ref b2), .val (.int (3 : Int32))] [(.int (8 : Int32)), (.long w1), (.int (3 : Int32)), (.ref b2)])) _
    refine XS.iconst X39.here hx rfl (hb hby d2_21) ?_
    show Steps p.tables e below (T39.setTop (mkF m 22 #[.val (.ref a1), .val (.ref b2), .val (.int (3 : Int32))] [(.int (5 : Int32)), (.int (8 : Int32)), (.long w1), (.int (3 : Int32)), (.ref b2)])) _
    refine XS.iloadN X39.here hx rfl (hb hby d2_22) rfl ?_
    show Steps p.tables e below (T39.setTop (mkF m 23 #[.val (.ref a1), .val (.ref b2), .val (.int (3 : Int32))] [(.int (3 : Int32)), (.int (5 : Int32)), (.int (8 : Int32)), (.long w1), (.int (3 : Int32)), (.ref b2)])) _
    refine XS.isub X39.here hx rfl (hb hby d2_23) rfl ?_
    show Steps p.tables e below (T39.setTop (mkF m 24 #[.val (.ref a1), .val (.ref b2), .val (.int (3 : Int32))] [(.int (2 : Int32)), (.int (8 : Int32)), (.long w1), (.int (3 : Int32)), (.ref b2)])) _
    refine XS.imul X39.here hx rfl (hb hby d2_24) rfl ?_
    show Steps p.tables e below (T39.setTop (mkF m 25 #[.val (.ref a1), .val (.ref b2), .val (.int (3 : Int32))] [(.int (16 : Int32)), (.long w1), (.int (3 : Int32)), (.ref b2)])) _
    refine XT.lushr X39.here hx rfl (hb hby d2_25) rfl ?_
    show Steps p.tables e below (T39.setTop (mkF m 26 #[.val (.ref a1), .val (.ref b2), .val (.int (3 : Int32))] [(.long (XT.ushrL w1 (16 : Int32))), (.int (3 : Int32)), (.ref b2)])) _
    refine XT.l2i X39.here hx rfl (hb hby d2_26) rfl ?_
    show Steps p.tables e below (T39.setTop (mkF m 27 #[.val (.ref a1), .val (.ref b2), .val (.int (3 : Int32))] [(.int ((XT.ushrL w1 (16 : Int32)).toInt32)), (.int (3 : Int32)), (.ref b2)])) _
    refine XT.i2b X39.here hx rfl (hb hby d2_27) rfl ?_
    show Steps p.tables e below (T39.setTop (mkF m 28 #[.val (.ref a1), .val (.ref b2), .val (.int (3 : Int32))] [(.int (((XT.ushrL w1 (16 : Int32)).toInt32).toInt8.toInt32)), (.int (3 : Int32)), (.ref b2)])) _
    exact k
  obtain ⟨cl42, Ar42, q42, S42, M42, H42, G42⟩ := F34
  have in42 : ¬ ((3 : Int32) < 0 ∨ cl42.slots.size ≤ ((3 : Int32)).toNatClampNeg) := inb_of S42 ⟨by decide, by decide⟩
  obtain ⟨T42, h42, X42, e42, W42, st42⟩ := stB X39 hx hZ e39 Ar42 (j := (3 : Int32)) in42 (g := (mkF m 28 #[.val (.ref a1), .val (.ref b2), .val (.int (3 : Int32))] [(.int (((XT.ushrL w1 (16 : Int32)).toInt32).toInt8.toInt32)), (.int (3 : Int32)), (.ref b2)])) rfl rfl (hb hby d2_28)
  have F43 : Fld Z h42 a1 "com/example/watchful_controller/watchfulcontroller/model/MacAddress" "value" "J" (.long w1) := F33.other W42 (Or.inl ne_a1_b2)
  have F44 : Arv Z h42 b2 kc_b2 .byte (6 : Int32) [(.int (nar .byte (((XT.ushrL w1 (40 : Int32)).toInt32).toInt8.toInt32))), (.int (nar .byte (((XT.ushrL w1 (32 : Int32)).toInt32).toInt8.toInt32))), (.int (nar .byte (((XT.ushrL w1 (24 : Int32)).toInt32).toInt8.toInt32))), (.int (nar .byte (((XT.ushrL w1 (16 : Int32)).toInt32).toInt8.toInt32))), (.int (0 : Int32)), (.int (0 : Int32))] (.int (0 : Int32)) := Arv.set Ar42 q42 S42 M42 H42 G42 (fits_nar_byte _) W42 3 rfl (Nat.le_of_ble_eq_true rfl)
  have Z45 : n0 ≤ h42.size := Nat.le_trans Z35 (Keep.of_wr W42).1
  have K46 : Keep h0 h42 [] := K36.wr W42 (Or.inr sz_b2)
  have N42 := Fr.snoc X42 N32 g_b2
  have P47 : ∀ t, Steps p.tables e below (T42.setTop (mkF m 29 #[.val (.ref a1), .val (.ref b2), .val (.int (3 : Int32))] [])) t → Steps p.tables e below (s₁.setTop (entryFrame m #[(.ref a1)] 3)) t := fun t k => P41 _ (st42 _ k)
  have P48 : ∀ t, Steps p.tables e below (T42.setTop (mkF m 16 #[.val (.ref a1), .val (.ref b2), .val (.int (4 : Int32))] [(.ref a1), (.int (4 : Int32)), (.ref b2)])) t → Steps p.tables e below (s₁.setTop (entryFrame m #[(.ref a1)] 3)) t := by
    intro t k
    refine P47 _ ?_
    refine XS.iinc X42.here hx rfl (hb hby d2_29) rfl (l' := #[.val (.ref a1), .val (.ref b2), .val (.int (4 : Int32))]) rfl ?_
    show Steps p.tables e below (T42.setTop (mkF m 32 #[.val (.ref a1), .val (.ref b2), .val (.int (4 : Int32))] [])) _
    refine XS.goto X42.here hx rfl (pc0 := 32) (pc' := 7) rfl (hb hby d2_32) (by decide) (by decide) ?_
    show Steps p.tables e below (T42.setTop (mkF m 7 #[.val (.ref a1), .val (.ref b2), .val (.int (4 : Int32))] [])) _
    refine XS.iloadN X42.here hx rfl (hb hby d2_7) rfl ?_
    show Steps p.tables e below (T42.setTop (mkF m 8 #[.val (.ref a1), .val (.ref b2), .val (.int (4 : Int32))] [(.int (4 : Int32))])) _
    refine XS.bipush X42.here hx rfl (hb hby d2_8) ?_
    show Steps p.tables e below (T42.setTop (mkF m 10 #[.val (.ref a1), .val (.ref b2), .val (.int (4 : Int32))] [(.int (6 : Int32)), (.int (4 : Int32))])) _
    refine XS.icmpNo X42.here hx rfl (hb hby d2_10) rfl (XT.ii_ge_f (by decide)) ?_
    show Steps p.tables e below (T42.setTop (mkF m 13 #[.val (.ref a1), .val (.ref b2), .val (.int (4 : Int32))] [])) _
    refine XS.aloadN X42.here hx rfl (hb hby d2_13) rfl rfl ?_
    show Steps p.tables e below (T42.setTop (mkF m 14 #[.val (.ref a1), .val (.ref b2), .val (.int (4 : Int32))] [(.ref b2)])) _
    refine XS.iloadN X42.here hx rfl (hb hby d2_14) rfl ?_
    show Steps p.tables e below (T42.setTop (mkF m 15 #[.val (.ref a1), .val (.ref b2), .val (.int (4 : Int32))] [(.int (4 : Int32)), (.ref b2)])) _
    refine XS.aloadN X42.here hx rfl (hb hby d2_15) rfl rfl ?_
    show Steps p.tables e below (T42.setTop (mkF m 16 #[.val (.ref a1), .val (.ref b2), .val (.int (4 : Int32))] [(.ref a1), (.int (4 : Int32)), (.ref b2)])) _
    exact k
  obtain ⟨T49, X49, e49, st49⟩ := getF X42 hx hZ hown (host := "") (Or.inl (hw _ (List.mem_of_getElem? (i := 10) rfl))) Via.refl e42 F43 (g := (mkF m 16 #[.val (.ref a1), .val (.ref b2), .val (.int (4 : Int32))] [(.ref a1), (.int (4 : Int32)), (.ref b2)])) rfl rfl (hb hby d2_16)
  have P50 : ∀ t, Steps p.tables e below (T49.setTop (mkF m 19 #[.val (.ref a1), .val (.ref b2), .val (.int (4 : Int32))] [(.long w1), (.int (4 : Int32)), (.ref b2)])) t → Steps p.tables e below (s₁.setTop (entryFrame m #[(.ref a1)] 3)) t := fun t k => P48 _ (st49 _ k)
  have P51 : ∀ t, Steps p.tables e below (T49.setTop (mkF m 28 #[.val (.ref a1), .val (.ref b2), .val (.int (4 : Int32))] [(.int (((XT.ushrL w1 (8 : Int32)).toInt32).toInt8.toInt32)), (.int (4 : Int32)), (.ref b2)])) t → Steps p.tables e below (s₁.setTop (entryFrame m #[(.ref a1)] 3)) t := by
    intro t k
    refine P50 _ ?_
    refine XS.bipush X49.here hx rfl (hb hby d2_19) ?_
    show Steps p.tables e below (T49.setTop (mkF m 21 #[.val (.ref a1), .val (.ref b2), .val (.int (4 : Int32))] [(.int (8 : Int32)), (.long w1), (.int (4 : Int32)), (.ref b2)])) _
    refine XS.iconst X49.here hx rfl (hb hby d2_21) ?_
    show Steps p.tables e below (T49.setTop (mkF m 22 #[.val (.ref a1), .val (.ref b2), .val (.int (4 : Int32))] [(.int (5 : Int32)), (.int (8 : Int32)), (.long w1), (.int (4 : Int32)), (.ref b2)])) _
    refine XS.iloadN X49.here hx rfl (hb hby d2_22) rfl ?_
    show Steps p.tables e below (T49.setTop (mkF m 23 #[.val (.ref a1), .val (.ref b2), .val (.int (4 : Int32))] [(.int (4 : Int32)), (.int (5 : Int32)), (.int (8 : Int32)), (.long w1), (.int (4 : Int32)), (.ref b2)])) _
    refine XS.isub X49.here hx rfl (hb hby d2_23) rfl ?_
    show Steps p.tables e below (T49.setTop (mkF m 24 #[.val (.ref a1), .val (.ref b2), .val (.int (4 : Int32))] [(.int (1 : Int32)), (.int (8 : Int32)), (.long w1), (.int (4 : Int32)), (.ref b2)])) _
    refine XS.imul X49.here hx rfl (hb hby d2_24) rfl ?_
    show Steps p.tables e below (T49.setTop (mkF m 25 #[.val (.ref a1), .val (.ref b2), .val (.int (4 : Int32))] [(.int (8 : Int32)), (.long w1), (.int (4 : Int32)), (.ref b2)])) _
    refine XT.lushr X49.here hx rfl (hb hby d2_25) rfl ?_
    show Steps p.tables e below (T49.setTop (mkF m 26 #[.val (.ref a1), .val (.ref b2), .val (.int (4 : Int32))] [(.long (XT.ushrL w1 (8 : Int32))), (.int (4 : Int32)), (.ref b2)])) _
    refine XT.l2i X49.here hx rfl (hb hby d2_26) rfl ?_
    show Steps p.tables e below (T49.setTop (mkF m 27 #[.val (.ref a1), .val (.ref b2), .val (.int (4 : Int32))] [(.int ((XT.ushrL w1 (8 : Int32)).toInt32)), (.int (4 : Int32)), (.ref b2)])) _
    refine XT.i2b X49.here hx rfl (hb hby d2_27) rfl ?_
    show Steps p.tables e below (T49.setTop (mkF m 28 #[.val (.ref a1), .val (.ref b2), .val (.int (4 : Int32))] [(.int (((XT.ushrL w1 (8 : Int32)).toInt32).toInt8.toInt32)), (.int (4 : Int32)), (.ref b2)])) _
    exact k
  obtain ⟨cl52, Ar52, q52, S52, M52, H52, G52⟩ := F44
  have in52 : ¬ ((4 : Int32) < 0 ∨ cl52.slots.size ≤ ((4 : Int32)).toNatClampNeg) := inb_of S52 ⟨by decide, by decide⟩
  obtain ⟨T52, h52, X52, e52, W52, st52⟩ := stB X49 hx hZ e49 Ar52 (j := (4 : Int32)) in52 (g := (mkF m 28 #[.val (.ref a1), .val (.ref b2), .val (.int (4 : Int32))] [(.int (((XT.ushrL w1 (8 : Int32)).toInt32).toInt8.toInt32)), (.int (4 : Int32)), (.ref b2)])) rfl rfl (hb hby d2_28)
  have F53 : Fld Z h52 a1 "com/example/watchful_controller/watchfulcontroller/model/MacAddress" "value" "J" (.long w1) := F43.other W52 (Or.inl ne_a1_b2)
  have F54 : Arv Z h52 b2 kc_b2 .byte (6 : Int32) [(.int (nar .byte (((XT.ushrL w1 (40 : Int32)).toInt32).toInt8.toInt32))), (.int (nar .byte (((XT.ushrL w1 (32 : Int32)).toInt32).toInt8.toInt32))), (.int (nar .byte (((XT.ushrL w1 (24 : Int32)).toInt32).toInt8.toInt32))), (.int (nar .byte (((XT.ushrL w1 (16 : Int32)).toInt32).toInt8.toInt32))), (.int (nar .byte (((XT.ushrL w1 (8 : Int32)).toInt32).toInt8.toInt32))), (.int (0 : Int32))] (.int (0 : Int32)) := Arv.set Ar52 q52 S52 M52 H52 G52 (fits_nar_byte _) W52 4 rfl (Nat.le_of_ble_eq_true rfl)
  have Z55 : n0 ≤ h52.size := Nat.le_trans Z45 (Keep.of_wr W52).1
  have K56 : Keep h0 h52 [] := K46.wr W52 (Or.inr sz_b2)
  have N52 := Fr.snoc X52 N42 g_b2
  have P57 : ∀ t, Steps p.tables e below (T52.setTop (mkF m 29 #[.val (.ref a1), .val (.ref b2), .val (.int (4 : Int32))] [])) t → Steps p.tables e below (s₁.setTop (entryFrame m #[(.ref a1)] 3)) t := fun t k => P51 _ (st52 _ k)
  have P58 : ∀ t, Steps p.tables e below (T52.setTop (mkF m 16 #[.val (.ref a1), .val (.ref b2), .val (.int (5 : Int32))] [(.ref a1), (.int (5 : Int32)), (.ref b2)])) t → Steps p.tables e below (s₁.setTop (entryFrame m #[(.ref a1)] 3)) t := by
    intro t k
    refine P57 _ ?_
    refine XS.iinc X52.here hx rfl (hb hby d2_29) rfl (l' := #[.val (.ref a1), .val (.ref b2), .val (.int (5 : Int32))]) rfl ?_
    show Steps p.tables e below (T52.setTop (mkF m 32 #[.val (.ref a1), .val (.ref b2), .val (.int (5 : Int32))] [])) _
    refine XS.goto X52.here hx rfl (pc0 := 32) (pc' := 7) rfl (hb hby d2_32) (by decide) (by decide) ?_
    show Steps p.tables e below (T52.setTop (mkF m 7 #[.val (.ref a1), .val (.ref b2), .val (.int (5 : Int32))] [])) _
    refine XS.iloadN X52.here hx rfl (hb hby d2_7) rfl ?_
    show Steps p.tables e below (T52.setTop (mkF m 8 #[.val (.ref a1), .val (.ref b2), .val (.int (5 : Int32))] [(.int (5 : Int32))])) _
    refine XS.bipush X52.here hx rfl (hb hby d2_8) ?_
    show Steps p.tables e below (T52.setTop (mkF m 10 #[.val (.ref a1), .val (.ref b2), .val (.int (5 : Int32))] [(.int (6 : Int32)), (.int (5 : Int32))])) _
    refine XS.icmpNo X52.here hx rfl (hb hby d2_10) rfl (XT.ii_ge_f (by decide)) ?_
    show Steps p.tables e below (T52.setTop (mkF m 13 #[.val (.ref a1), .val (.ref b2), .val (.int (5 : Int32))] [])) _
    refine XS.aloadN X52.here hx rfl (hb hby d2_13) rfl rfl ?_
    show Steps p.tables e below (T52.setTop (mkF m 14 #[.val (.ref a1), .val (.ref b2), .val (.int (5 : Int32))] [(.ref b2)])) _
    refine XS.iloadN X52.here hx rfl (hb hby d2_14) rfl ?_
    show Steps p.tables e below (T52.setTop (mkF m 15 #[.val (.ref a1), .val (.ref b2), .val (.int (5 : Int32))] [(.int (5 : Int32)), (.ref b2)])) _
    refine XS.aloadN X52.here hx rfl (hb hby d2_15) rfl rfl ?_
    show Steps p.tables e below (T52.setTop (mkF m 16 #[.val (.ref a1), .val (.ref b2), .val (.int (5 : Int32))] [(.ref a1), (.int (5 : Int32)), (.ref b2)])) _
    exact k
  obtain ⟨T59, X59, e59, st59⟩ := getF X52 hx hZ hown (host := "") (Or.inl (hw _ (List.mem_of_getElem? (i := 10) rfl))) Via.refl e52 F53 (g := (mkF m 16 #[.val (.ref a1), .val (.ref b2), .val (.int (5 : Int32))] [(.ref a1), (.int (5 : Int32)), (.ref b2)])) rfl rfl (hb hby d2_16)
  have P60 : ∀ t, Steps p.tables e below (T59.setTop (mkF m 19 #[.val (.ref a1), .val (.ref b2), .val (.int (5 : Int32))] [(.long w1), (.int (5 : Int32)), (.ref b2)])) t → Steps p.tables e below (s₁.setTop (entryFrame m #[(.ref a1)] 3)) t := fun t k => P58 _ (st59 _ k)
  have P61 : ∀ t, Steps p.tables e below (T59.setTop (mkF m 28 #[.val (.ref a1), .val (.ref b2), .val (.int (5 : Int32))] [(.int (((XT.ushrL w1 (0 : Int32)).toInt32).toInt8.toInt32)), (.int (5 : Int32)), (.ref b2)])) t → Steps p.tables e below (s₁.setTop (entryFrame m #[(.ref a1)] 3)) t := by
    intro t k
    refine P60 _ ?_
    refine XS.bipush X59.here hx rfl (hb hby d2_19) ?_
    show Steps p.tables e below (T59.setTop (mkF m 21 #[.val (.ref a1), .val (.ref b2), .val (.int (5 : Int32))] [(.int (8 : Int32)), (.long w1), (.int (5 : Int32)), (.ref b2)])) _
    refine XS.iconst X59.here hx rfl (hb hby d2_21) ?_
    show Steps p.tables e below (T59.setTop (mkF m 22 #[.val (.ref a1), .val (.ref b2), .val (.int (5 : Int32))] [(.int (5 : Int32)), (.int (8 : Int32)), (.long w1), (.int (5 : Int32)), (.ref b2)])) _
    refine XS.iloadN X59.here hx rfl (hb hby d2_22) rfl ?_
    show Steps p.tables e below (T59.setTop (mkF m 23 #[.val (.ref a1), .val (.ref b2), .val (.int (5 : Int32))] [(.int (5 : Int32)), (.int (5 : Int32)), (.int (8 : Int32)), (.long w1), (.int (5 : Int32)), (.ref b2)])) _
    refine XS.isub X59.here hx rfl (hb hby d2_23) rfl ?_
    show Steps p.tables e below (T59.setTop (mkF m 24 #[.val (.ref a1), .val (.ref b2), .val (.int (5 : Int32))] [(.int (0 : Int32)), (.int (8 : Int32)), (.long w1), (.int (5 : Int32)), (.ref b2)])) _
    refine XS.imul X59.here hx rfl (hb hby d2_24) rfl ?_
    show Steps p.tables e below (T59.setTop (mkF m 25 #[.val (.ref a1), .val (.ref b2), .val (.int (5 : Int32))] [(.int (0 : Int32)), (.long w1), (.int (5 : Int32)), (.ref b2)])) _
    refine XT.lushr X59.here hx rfl (hb hby d2_25) rfl ?_
    show Steps p.tables e below (T59.setTop (mkF m 26 #[.val (.ref a1), .val (.ref b2), .val (.int (5 : Int32))] [(.long (XT.ushrL w1 (0 : Int32))), (.int (5 : Int32)), (.ref b2)])) _
    refine XT.l2i X59.here hx rfl (hb hby d2_26) rfl ?_
    show Steps p.tables e below (T59.setTop (mkF m 27 #[.val (.ref a1), .val (.ref b2), .val (.int (5 : Int32))] [(.int ((XT.ushrL w1 (0 : Int32)).toInt32)), (.int (5 : Int32)), (.ref b2)])) _
    refine XT.i2b X59.here hx rfl (hb hby d2_27) rfl ?_
    show Steps p.tables e below (T59.setTop (mkF m 28 #[.val (.ref a1), .val (.ref b2), .val (.int (5 : Int32))] [(.int (((XT.ushrL w1 (0 : Int32)).toInt32).toInt8.toInt32)), (.int (5 : Int32)), (.ref b2)])) _
    exact k
  obtain ⟨cl62, Ar62, q62, S62, M62, H62, G62⟩ := F54
  have in62 : ¬ ((5 : Int32) < 0 ∨ cl62.slots.size ≤ ((5 : Int32)).toNatClampNeg) := inb_of S62 ⟨by decide, by decide⟩
  obtain ⟨T62, h62, X62, e62, W62, st62⟩ := stB X59 hx hZ e59 Ar62 (j := (5 : Int32)) in62 (g := (mkF m 28 #[.val (.ref a1), .val (.ref b2), .val (.int (5 : Int32))] [(.int (((XT.ushrL w1 (0 : Int32)).toInt32).toInt8.toInt32)), (.int (5 : Int32)), (.ref b2)])) rfl rfl (hb hby d2_28)
  have F63 : Fld Z h62 a1 "com/example/watchful_controller/watchfulcontroller/model/MacAddress" "value" "J" (.long w1) := F53.other W62 (Or.inl ne_a1_b2)
  have F64 : Arv Z h62 b2 kc_b2 .byte (6 : Int32) [(.int (nar .byte (((XT.ushrL w1 (40 : Int32)).toInt32).toInt8.toInt32))), (.int (nar .byte (((XT.ushrL w1 (32 : Int32)).toInt32).toInt8.toInt32))), (.int (nar .byte (((XT.ushrL w1 (24 : Int32)).toInt32).toInt8.toInt32))), (.int (nar .byte (((XT.ushrL w1 (16 : Int32)).toInt32).toInt8.toInt32))), (.int (nar .byte (((XT.ushrL w1 (8 : Int32)).toInt32).toInt8.toInt32))), (.int (nar .byte (((XT.ushrL w1 (0 : Int32)).toInt32).toInt8.toInt32)))] (.int (0 : Int32)) := Arv.set Ar62 q62 S62 M62 H62 G62 (fits_nar_byte _) W62 5 rfl (Nat.le_of_ble_eq_true rfl)
  have Z65 : n0 ≤ h62.size := Nat.le_trans Z55 (Keep.of_wr W62).1
  have K66 : Keep h0 h62 [] := K56.wr W62 (Or.inr sz_b2)
  have N62 := Fr.snoc X62 N52 g_b2
  have P67 : ∀ t, Steps p.tables e below (T62.setTop (mkF m 29 #[.val (.ref a1), .val (.ref b2), .val (.int (5 : Int32))] [])) t → Steps p.tables e below (s₁.setTop (entryFrame m #[(.ref a1)] 3)) t := fun t k => P61 _ (st62 _ k)
  have P68 : ∀ t, Steps p.tables e below (T62.setTop (mkF m 36 #[.val (.ref a1), .val (.ref b2), .val (.int (6 : Int32))] [(.ref b2)])) t → Steps p.tables e below (s₁.setTop (entryFrame m #[(.ref a1)] 3)) t := by
    intro t k
    refine P67 _ ?_
    refine XS.iinc X62.here hx rfl (hb hby d2_29) rfl (l' := #[.val (.ref a1), .val (.ref b2), .val (.int (6 : Int32))]) rfl ?_
    show Steps p.tables e below (T62.setTop (mkF m 32 #[.val (.ref a1), .val (.ref b2), .val (.int (6 : Int32))] [])) _
    refine XS.goto X62.here hx rfl (pc0 := 32) (pc' := 7) rfl (hb hby d2_32) (by decide) (by decide) ?_
    show Steps p.tables e below (T62.setTop (mkF m 7 #[.val (.ref a1), .val (.ref b2), .val (.int (6 : Int32))] [])) _
    refine XS.iloadN X62.here hx rfl (hb hby d2_7) rfl ?_
    show Steps p.tables e below (T62.setTop (mkF m 8 #[.val (.ref a1), .val (.ref b2), .val (.int (6 : Int32))] [(.int (6 : Int32))])) _
    refine XS.bipush X62.here hx rfl (hb hby d2_8) ?_
    show Steps p.tables e below (T62.setTop (mkF m 10 #[.val (.ref a1), .val (.ref b2), .val (.int (6 : Int32))] [(.int (6 : Int32)), (.int (6 : Int32))])) _
    refine XS.icmpYes X62.here hx rfl (pc0 := 10) (pc' := 35) rfl (hb hby d2_10) rfl (XT.ii_ge_t (by decide)) (by decide) (by decide) ?_
    show Steps p.tables e below (T62.setTop (mkF m 35 #[.val (.ref a1), .val (.ref b2), .val (.int (6 : Int32))] [])) _
    refine XS.aloadN X62.here hx rfl (hb hby d2_35) rfl rfl ?_
    show Steps p.tables e below (T62.setTop (mkF m 36 #[.val (.ref a1), .val (.ref b2), .val (.int (6 : Int32))] [(.ref b2)])) _
    exact k
  obtain ⟨fs, hr, hrun, hended, hW, hsame⟩ := X62.leave (v := some (.ref b2)) (fun h => by rw [Bd.returns] at h; cases h)
  refine ⟨_, _, P68 _ ?_, hrun, hended, _, _, rfl, ?_, ⟨_, rfl⟩, hW, hsame.mono (by decide) (by decide)⟩
  · jvm_step X62.here [X62.here.top, hx, (hb hby d2_36), X62.method', Bd.returns, Value.isRef, FieldType.isReference]
    first | (intro acts; rw [hr _ acts rfl rfl rfl]) | rw [hr _ _ rfl rfl rfl]
    exact Steps.refl _
  · show Q2 Z a1 w1 h0 n0 _ T62.heap _
    rw [e62]
    exact ⟨b2, kc_b2, rfl, N62, K66, sz_b2, F64⟩
theorem pn_0 : plainName "com/example/watchful_controller/watchfulcontroller/model/MacAddressOctetsPinLaw" = true := by first | (simp [plainName, overriddenIn]; done) | decide +kernel
theorem ef_0 (m : MethodId) (x0 : Int64) : entryFrame m #[(.long x0)] maxLocals = mkF m 0 #[.val (.long x0), .second, .unset, .unset, .unset, .unset, .unset] [] := by first | (simp [entryFrame, mkF, argsToLocals, Value.category, maxLocals]; done) | rfl
def Q0 (Z : State) (q1 : Int64) (h0 : Heap) (n0 : Nat) (v : Option Value) (h : Heap) (L : List Loc) : Prop := v = some (.int 1) ∧ Fr n0 L
set_option maxRecDepth 65536 in
set_option maxHeartbeats 40000000 in
theorem rm0 (l : Launch) (Z : State) (a0 : Array Value) (hw : ∀ d ∈ tables_1, d.before a0 Z = true) (ws : List Jvm.Cond) (q1 : Int64) (h0 : Heap) (n0 : Nat) (Z0 : n0 ≤ h0.size) :
    MetFree l x (head1 (Jvm.Cond.code x code maxLocals ret :: ws) room_1) (fun a U => a = #[(.long q1)] ∧ Z.Warmed39 U.vm ∧ U.heap = h0) (fun _ _ _ _ _ => True) (fun _ U o U' => ∃ v L, o = .returned v ∧ Q0 Z q1 h0 n0 v U'.heap L ∧ FrameEnd U o U' L room_1.cells room_1.slots) := by
  refine MetFree.of_bodySF (plainFor_of_name pn_0) hisR ?_
  intro p e s m args below meth c s₁ Bd hml0 hP hK
  obtain ⟨rfl, hZ, hh⟩ := hP
  have hx := Bd.exec
  have hby := Bd.bytes
  have hml : c.maxLocals = 7 := hml0
  have hown : s.vm.findClass "com/example/watchful_controller/watchfulcontroller/model/MacAddressOctetsPinLaw" = some m.cls := findClass_of_methodNamed Bd.named
  have hnm := (name_of_methodNamed Bd.named Bd.method).1
  have X0 : Stand p l e room_1 s m #[(.long q1)] below meth c s₁ [] 0 0 := Stand.of_body Bd
  have e0 : s₁.heap = h0 := by rw [← hh, Bd.state]; rfl
  have N0 := Fr.nil n0
  have K0 : Keep h0 h0 [] := Keep.refl _ _
  have P0 : ∀ t, Steps p.tables e below (s₁.setTop (mkF m 0 #[.val (.long q1), .second, .unset, .unset, .unset, .unset, .unset] [])) t → Steps p.tables e below (s₁.setTop (entryFrame m #[(.long q1)] maxLocals)) t := fun t k => castTop (ef_0 m q1) k
  have P1 : ∀ t, Steps p.tables e below (s₁.setTop (mkF m 6 #[.val (.long q1), .second, .val (.long (q1 &&& (281474976710655 : Int64))), .second, .unset, .unset, .unset] [])) t → Steps p.tables e below (s₁.setTop (entryFrame m #[(.long q1)] maxLocals)) t := by
    intro t k
    refine P0 _ ?_
    refine XT.lloadN X0.here hx rfl (hb hby at_0) rfl ?_
    show Steps p.tables e below (s₁.setTop (mkF m 1 #[.val (.long q1), .second, .unset, .unset, .unset, .unset, .unset] [(.long q1)])) _
    refine Jvm.Stand.ldc2J X0 hx hown (mvT hZ (hw _ (List.mem_of_getElem? (i := 0) rfl))) rfl (hb hby at_1) ?_
    show Steps p.tables e below (s₁.setTop (mkF m 4 #[.val (.long q1), .second, .unset, .unset, .unset, .unset, .unset] [(.long (281474976710655 : Int64)), (.long q1)])) _
    refine XT.land X0.here hx rfl (hb hby at_4) rfl ?_
    show Steps p.tables e below (s₁.setTop (mkF m 5 #[.val (.long q1), .second, .unset, .unset, .unset, .unset, .unset] [(.long (q1 &&& (281474976710655 : Int64)))])) _
    refine XT.lstoreN X0.here hx rfl (hb hby at_5) rfl (l' := #[.val (.long q1), .second, .val (.long (q1 &&& (281474976710655 : Int64))), .second, .unset, .unset, .unset]) rfl ?_
    show Steps p.tables e below (s₁.setTop (mkF m 6 #[.val (.long q1), .second, .val (.long (q1 &&& (281474976710655 : Int64))), .second, .unset, .unset, .unset] [])) _
    exact k
  obtain ⟨mm, hmm⟩ : ∃ z : Int64, z = (q1 &&& (281474976710655 : Int64)) := ⟨_, rfl⟩
  rw [← hmm] at P1
  obtain ⟨T2, h2, X2, e2, E2, A2, D2, -, st2⟩ := newO X0 hx hZ hown (hw _ (List.mem_of_getElem? (i := 1) rfl)) (hw _ (List.mem_of_getElem? (i := 2) rfl)) (hw _ (List.mem_of_getElem? (i := 3) rfl)) e0 (g := (mkF m 6 #[.val (.long q1), .second, .val (.long mm), .second, .unset, .unset, .unset] [])) rfl (hb hby at_6) (by decide) (by decide)
  obtain ⟨b2, g2⟩ : ∃ z, z = h0.size := ⟨_, rfl⟩
  rw [← g2] at A2 D2 st2
  have F3 : Fld Z h2 b2 "com/example/watchful_controller/watchfulcontroller/model/MacAddress" "value" "J" (.long (0 : Int64)) := D2 (Or.inr (hw _ (List.mem_of_getElem? (i := 11) rfl))) (ty := .long) (by decide)
  have Z4 : n0 ≤ h2.size := Nat.le_trans Z0 E2.1
  have K5 : Keep h0 h2 [] := K0.ext E2
  have g_b2 : n0 ≤ b2 := Nat.le_trans Z0 (Nat.le_of_eq g2.symm)
  have sz_b2 : h0.size ≤ b2 := Nat.le_trans K0.1 (Nat.le_of_eq g2.symm)
  have P6 : ∀ t, Steps p.tables e below (T2.setTop (mkF m 9 #[.val (.long q1), .second, .val (.long mm), .second, .unset, .unset, .unset] [(.ref b2)])) t → Steps p.tables e below (s₁.setTop (entryFrame m #[(.long q1)] maxLocals)) t := fun t k => P1 _ (st2 _ k)
  have P7 : ∀ t, Steps p.tables e below (T2.setTop (mkF m 11 #[.val (.long q1), .second, .val (.long mm), .second, .unset, .unset, .unset] [(.long mm), (.ref b2), (.ref b2)])) t → Steps p.tables e below (s₁.setTop (entryFrame m #[(.long q1)] maxLocals)) t := by
    intro t k
    refine P6 _ ?_
    refine XS.dup X2.here hx rfl (hb hby at_9) rfl rfl ?_
    show Steps p.tables e below (T2.setTop (mkF m 10 #[.val (.long q1), .second, .val (.long mm), .second, .unset, .unset, .unset] [(.ref b2), (.ref b2)])) _
    refine XT.lloadN X2.here hx rfl (hb hby at_10) rfl ?_
    show Steps p.tables e below (T2.setTop (mkF m 11 #[.val (.long q1), .second, .val (.long mm), .second, .unset, .unset, .unset] [(.long mm), (.ref b2), (.ref b2)])) _
    exact k
  obtain ⟨_, _, ⟨T8, L8, k8, n8⟩, -, X8, ⟨Lc8, hQ8, l8, y8, z8⟩, st8⟩ := X2.specialBack hx (y := (⟨"com/example/watchful_controller/watchfulcontroller/model/MacAddress", "<init>", "(J)V"⟩ : MethodName)) rfl hown (mvT hZ (hw _ (List.mem_of_getElem? (i := 4) rfl))) (mvT hZ (hw _ (List.mem_of_getElem? (i := 5) rfl))) (mvT hZ (hw _ (List.mem_of_getElem? (i := 6) rfl))) (by decide) (backOf (W := 1) (rm1 l Z a0 hw [] b2 mm (.long (0 : Int64)) h2 n0 Z4 A2 F3 g_b2) hZ (hw _ (List.mem_of_getElem? (i := 6) rfl)) (hw _ (List.mem_of_getElem? (i := 3) rfl)) (by decide) (by decide)) (g := (mkF m 11 #[.val (.long q1), .second, .val (.long mm), .second, .unset, .unset, .unset] [(.long mm), (.ref b2), (.ref b2)])) rfl (by rw [hml]; rfl) (Steps.refl _) (a := b2) (argsL := [(.long mm)]) (rest := [(.ref b2)]) (lenOf pd_0 rfl) rfl (by show 2 * 0 + _ ≤ _; exact Nat.le_of_eq rfl) (hb hby at_11) (fun _ _ => ⟨rfl, e2, (by decide : 1 + 0 ≤ _), (by decide : 1 + 0 ≤ _)⟩)
  dsimp only [Pt.U, Pt.locs, Pt.cells, Pt.slots] at X8 l8 y8 z8 st8 hQ8
  subst l8 y8 z8
  obtain ⟨rfl, N8q, K8, E8, Q8_value⟩ := hQ8
  have F9 : Exa Z T8.heap b2 "com/example/watchful_controller/watchfulcontroller/model/MacAddress" := A2.keep K8
  have Z10 : n0 ≤ T8.heap.size := Nat.le_trans Z4 K8.1
  have K11 : Keep h0 T8.heap [] := K5.trans K8 (allS (Or.inr sz_b2) all0)
  have N8 := Fr.app N0 N8q
  have P12 : ∀ t, Steps p.tables e below (T8.setTop (mkF m 14 #[.val (.long q1), .second, .val (.long mm), .second, .unset, .unset, .unset] [(.ref b2)])) t → Steps p.tables e below (s₁.setTop (entryFrame m #[(.long q1)] maxLocals)) t := fun t k => P7 _ (st8.trans k)
  obtain ⟨cq13, kq13, qa13, qb13, qc13⟩ := isOf hZ rfl E8
  obtain ⟨_, _, ⟨T13, L13, k13, n13⟩, -, X13, ⟨Lc13, hQ13, l13, y13, z13⟩, st13⟩ := X8.virtualBack hx (y := (⟨"com/example/watchful_controller/watchfulcontroller/model/MacAddress", "octets", "()[B"⟩ : MethodName)) (z := (⟨"com/example/watchful_controller/watchfulcontroller/model/MacAddress", "octets", "()[B"⟩ : MethodName)) hown (mvT hZ (hw _ (List.mem_of_getElem? (i := 12) rfl))) (mvT hZ (hw _ (List.mem_of_getElem? (i := 13) rfl))) (notFace_of_selects (args := #[]) (mvT hZ (hw _ (List.mem_of_getElem? (i := 15) rfl)))) (mvT hZ (hw _ (List.mem_of_getElem? (i := 15) rfl))) (mvT hZ (hw _ (List.mem_of_getElem? (i := 14) rfl))) (by decide) (backOf (W := 0) (rm2 l Z a0 hw [] b2 mm T8.heap n0 Z10 Q8_value) hZ (hw _ (List.mem_of_getElem? (i := 16) rfl)) (hw _ (List.mem_of_getElem? (i := 3) rfl)) (by decide) (by decide)) qa13 qc13 (g := (mkF m 14 #[.val (.long q1), .second, .val (.long mm), .second, .unset, .unset, .unset] [(.ref b2)])) rfl (by rw [hml]; rfl) (Steps.refl _) (argsL := []) (rest := []) (lenOf pd_1 rfl) rfl (by show 2 * 0 + _ ≤ _; exact Nat.le_of_eq rfl) (hb hby at_14) (fun _ _ => ⟨rfl, rfl, (by decide : 1 + 1 ≤ _), (by decide : 1 + 6 ≤ _)⟩)
  dsimp only [Pt.U, Pt.locs, Pt.cells, Pt.slots] at X13 l13 y13 z13 st13 hQ13
  subst l13 y13 z13
  obtain ⟨bo, kc_bo, rfl, N13q, K13, s13, V13⟩ := hQ13
  have F14 : Exa Z T13.heap b2 "com/example/watchful_controller/watchfulcontroller/model/MacAddress" := E8.keep K13
  have F15 : Fld Z T13.heap b2 "com/example/watchful_controller/watchfulcontroller/model/MacAddress" "value" "J" (.long mm) := Q8_value.keep K13 nin0
  have Z16 : n0 ≤ T13.heap.size := Nat.le_trans Z10 K13.1
  have K17 : Keep h0 T13.heap [] := K11.trans K13 all0
  have N13 := Fr.app N8 N13q
  have P18 : ∀ t, Steps p.tables e below (T13.setTop (mkF m 17 #[.val (.long q1), .second, .val (.long mm), .second, .unset, .unset, .unset] [(.ref bo)])) t → Steps p.tables e below (s₁.setTop (entryFrame m #[(.long q1)] maxLocals)) t := fun t k => P12 _ (st13.trans k)
  have P19 : ∀ t, Steps p.tables e below (T13.setTop (mkF m 38 #[.val (.long q1), .second, .val (.long mm), .second, .val (.ref bo), .unset, .unset] [(.int (nar .byte ((XT.ushrL mm (40 : Int32)).toInt32).toInt8.toInt32))])) t → Steps p.tables e below (s₁.setTop (entryFrame m #[(.long q1)] maxLocals)) t := by
    intro t k
    refine P18 _ ?_
    refine XS.astore X13.here hx rfl (hb hby at_17) rfl rfl (l' := #[.val (.long q1), .second, .val (.long mm), .second, .val (.ref bo), .unset, .unset]) rfl ?_
    show Steps p.tables e below (T13.setTop (mkF m 19 #[.val (.long q1), .second, .val (.long mm), .second, .val (.ref bo), .unset, .unset] [])) _
    refine XS.aload X13.here hx rfl (hb hby at_19) rfl rfl ?_
    show Steps p.tables e below (T13.setTop (mkF m 21 #[.val (.long q1), .second, .val (.long mm), .second, .val (.ref bo), .unset, .unset] [(.ref bo)])) _
    refine XS.ifnullNo X13.here hx rfl (hb hby at_21) rfl ?_
    show Steps p.tables e below (T13.setTop (mkF m 24 #[.val (.long q1), .second, .val (.long mm), .second, .val (.ref bo), .unset, .unset] [])) _
    refine XS.aload X13.here hx rfl (hb hby at_24) rfl rfl ?_
    show Steps p.tables e below (T13.setTop (mkF m 26 #[.val (.long q1), .second, .val (.long mm), .second, .val (.ref bo), .unset, .unset] [(.ref bo)])) _
    refine own_len X13 hx hZ rfl V13 rfl rfl (hb hby at_26) ?_
    show Steps p.tables e below (T13.setTop (mkF m 27 #[.val (.long q1), .second, .val (.long mm), .second, .val (.ref bo), .unset, .unset] [(.int (6 : Int32))])) _
    refine XS.bipush X13.here hx rfl (hb hby at_27) ?_
    show Steps p.tables e below (T13.setTop (mkF m 29 #[.val (.long q1), .second, .val (.long mm), .second, .val (.ref bo), .unset, .unset] [(.int (6 : Int32)), (.int (6 : Int32))])) _
    refine XS.icmpYes X13.here hx rfl (pc0 := 29) (pc' := 34) rfl (hb hby at_29) rfl (XT.ii_eq_t (by decide)) (by decide) (by decide) ?_
    show Steps p.tables e below (T13.setTop (mkF m 34 #[.val (.long q1), .second, .val (.long mm), .second, .val (.ref bo), .unset, .unset] [])) _
    refine XS.aload X13.here hx rfl (hb hby at_34) rfl rfl ?_
    show Steps p.tables e below (T13.setTop (mkF m 36 #[.val (.long q1), .second, .val (.long mm), .second, .val (.ref bo), .unset, .unset] [(.ref bo)])) _
    refine XS.iconst X13.here hx rfl (hb hby at_36) ?_
    show Steps p.tables e below (T13.setTop (mkF m 37 #[.val (.long q1), .second, .val (.long mm), .second, .val (.ref bo), .unset, .unset] [(.int (0 : Int32)), (.ref bo)])) _
    refine own_bal X13 hx hZ rfl V13 ⟨by decide, by decide⟩ (v := (.int (nar .byte ((XT.ushrL mm (40 : Int32)).toInt32).toInt8.toInt32))) rfl rfl rfl (hb hby at_37) ?_
    show Steps p.tables e below (T13.setTop (mkF m 38 #[.val (.long q1), .second, .val (.long mm), .second, .val (.ref bo), .unset, .unset] [(.int (nar .byte ((XT.ushrL mm (40 : Int32)).toInt32).toInt8.toInt32))])) _
    exact k
  obtain ⟨o0, ho0⟩ : ∃ z : Int32, z = (nar .byte ((XT.ushrL mm (40 : Int32)).toInt32).toInt8.toInt32) := ⟨_, rfl⟩
  rw [← ho0] at P19
  have P20 : ∀ t, Steps p.tables e below (T13.setTop (mkF m 50 #[.val (.long q1), .second, .val (.long mm), .second, .val (.ref bo), .unset, .unset] [(.int (nar .byte ((XT.ushrL mm (32 : Int32)).toInt32).toInt8.toInt32)), (.long (((o0 &&& (255 : Int32)).toInt64) <<< ((40 : Int32).toInt64 &&& 63)))])) t → Steps p.tables e below (s₁.setTop (entryFrame m #[(.long q1)] maxLocals)) t := by
    intro t k
    refine P19 _ ?_
    refine XS.sipush X13.here hx rfl (hb hby at_38) ?_
    show Steps p.tables e below (T13.setTop (mkF m 41 #[.val (.long q1), .second, .val (.long mm), .second, .val (.ref bo), .unset, .unset] [(.int (255 : Int32)), (.int o0)])) _
    refine XS.iand X13.here hx rfl (hb hby at_41) rfl ?_
    show Steps p.tables e below (T13.setTop (mkF m 42 #[.val (.long q1), .second, .val (.long mm), .second, .val (.ref bo), .unset, .unset] [(.int (o0 &&& (255 : Int32)))])) _
    refine XT.i2l X13.here hx rfl (hb hby at_42) rfl ?_
    show Steps p.tables e below (T13.setTop (mkF m 43 #[.val (.long q1), .second, .val (.long mm), .second, .val (.ref bo), .unset, .unset] [(.long ((o0 &&& (255 : Int32)).toInt64))])) _
    refine XS.bipush X13.here hx rfl (hb hby at_43) ?_
    show Steps p.tables e below (T13.setTop (mkF m 45 #[.val (.long q1), .second, .val (.long mm), .second, .val (.ref bo), .unset, .unset] [(.int (40 : Int32)), (.long ((o0 &&& (255 : Int32)).toInt64))])) _
    refine XT.lshl X13.here hx rfl (hb hby at_45) rfl ?_
    show Steps p.tables e below (T13.setTop (mkF m 46 #[.val (.long q1), .second, .val (.long mm), .second, .val (.ref bo), .unset, .unset] [(.long (((o0 &&& (255 : Int32)).toInt64) <<< ((40 : Int32).toInt64 &&& 63)))])) _
    refine XS.aload X13.here hx rfl (hb hby at_46) rfl rfl ?_
    show Steps p.tables e below (T13.setTop (mkF m 48 #[.val (.long q1), .second, .val (.long mm), .second, .val (.ref bo), .unset, .unset] [(.ref bo), (.long (((o0 &&& (255 : Int32)).toInt64) <<< ((40 : Int32).toInt64 &&& 63)))])) _
    refine XS.iconst X13.here hx rfl (hb hby at_48) ?_
    show Steps p.tables e below (T13.setTop (mkF m 49 #[.val (.long q1), .second, .val (.long mm), .second, .val (.ref bo), .unset, .unset] [(.int (1 : Int32)), (.ref bo), (.long (((o0 &&& (255 : Int32)).toInt64) <<< ((40 : Int32).toInt64 &&& 63)))])) _
    refine own_bal X13 hx hZ rfl V13 ⟨by decide, by decide⟩ (v := (.int (nar .byte ((XT.ushrL mm (32 : Int32)).toInt32).toInt8.toInt32))) rfl rfl rfl (hb hby at_49) ?_
    show Steps p.tables e below (T13.setTop (mkF m 50 #[.val (.long q1), .second, .val (.long mm), .second, .val (.ref bo), .unset, .unset] [(.int (nar .byte ((XT.ushrL mm (32 : Int32)).toInt32).toInt8.toInt32)), (.long (((o0 &&& (255 : Int32)).toInt64) <<< ((40 : Int32).toInt64 &&& 63)))])) _
    exact k
  obtain ⟨o1, ho1⟩ : ∃ z : Int32, z = (nar .byte ((XT.ushrL mm (32 : Int32)).toInt32).toInt8.toInt32) := ⟨_, rfl⟩
  rw [← ho1] at P20
  have P21 : ∀ t, Steps p.tables e below (T13.setTop (mkF m 63 #[.val (.long q1), .second, .val (.long mm), .second, .val (.ref bo), .unset, .unset] [(.int (nar .byte ((XT.ushrL mm (24 : Int32)).toInt32).toInt8.toInt32)), (.long ((((o0 &&& (255 : Int32)).toInt64) <<< ((40 : Int32).toInt64 &&& 63)) ||| (((o1 &&& (255 : Int32)).toInt64) <<< ((32 : Int32).toInt64 &&& 63))))])) t → Steps p.tables e below (s₁.setTop (entryFrame m #[(.long q1)] maxLocals)) t := by
    intro t k
    refine P20 _ ?_
    refine XS.sipush X13.here hx rfl (hb hby at_50) ?_
    show Steps p.tables e below (T13.setTop (mkF m 53 #[.val (.long q1), .second, .val (.long mm), .second, .val (.ref bo), .unset, .unset] [(.int (255 : Int32)), (.int o1), (.long (((o0 &&& (255 : Int32)).toInt64) <<< ((40 : Int32).toInt64 &&& 63)))])) _
    refine XS.iand X13.here hx rfl (hb hby at_53) rfl ?_
    show Steps p.tables e below (T13.setTop (mkF m 54 #[.val (.long q1), .second, .val (.long mm), .second, .val (.ref bo), .unset, .unset] [(.int (o1 &&& (255 : Int32))), (.long (((o0 &&& (255 : Int32)).toInt64) <<< ((40 : Int32).toInt64 &&& 63)))])) _
    refine XT.i2l X13.here hx rfl (hb hby at_54) rfl ?_
    show Steps p.tables e below (T13.setTop (mkF m 55 #[.val (.long q1), .second, .val (.long mm), .second, .val (.ref bo), .unset, .unset] [(.long ((o1 &&& (255 : Int32)).toInt64)), (.long (((o0 &&& (255 : Int32)).toInt64) <<< ((40 : Int32).toInt64 &&& 63)))])) _
    refine XS.bipush X13.here hx rfl (hb hby at_55) ?_
    show Steps p.tables e below (T13.setTop (mkF m 57 #[.val (.long q1), .second, .val (.long mm), .second, .val (.ref bo), .unset, .unset] [(.int (32 : Int32)), (.long ((o1 &&& (255 : Int32)).toInt64)), (.long (((o0 &&& (255 : Int32)).toInt64) <<< ((40 : Int32).toInt64 &&& 63)))])) _
    refine XT.lshl X13.here hx rfl (hb hby at_57) rfl ?_
    show Steps p.tables e below (T13.setTop (mkF m 58 #[.val (.long q1), .second, .val (.long mm), .second, .val (.ref bo), .unset, .unset] [(.long (((o1 &&& (255 : Int32)).toInt64) <<< ((32 : Int32).toInt64 &&& 63))), (.long (((o0 &&& (255 : Int32)).toInt64) <<< ((40 : Int32).toInt64 &&& 63)))])) _
    refine XT.lor X13.here hx rfl (hb hby at_58) rfl ?_
    show Steps p.tables e below (T13.setTop (mkF m 59 #[.val (.long q1), .second, .val (.long mm), .second, .val (.ref bo), .unset, .unset] [(.long ((((o0 &&& (255 : Int32)).toInt64) <<< ((40 : Int32).toInt64 &&& 63)) ||| (((o1 &&& (255 : Int32)).toInt64) <<< ((32 : Int32).toInt64 &&& 63))))])) _
    refine XS.aload X13.here hx rfl (hb hby at_59) rfl rfl ?_
    show Steps p.tables e below (T13.setTop (mkF m 61 #[.val (.long q1), .second, .val (.long mm), .second, .val (.ref bo), .unset, .unset] [(.ref bo), (.long ((((o0 &&& (255 : Int32)).toInt64) <<< ((40 : Int32).toInt64 &&& 63)) ||| (((o1 &&& (255 : Int32)).toInt64) <<< ((32 : Int32).toInt64 &&& 63))))])) _
    refine XS.iconst X13.here hx rfl (hb hby at_61) ?_
    show Steps p.tables e below (T13.setTop (mkF m 62 #[.val (.long q1), .second, .val (.long mm), .second, .val (.ref bo), .unset, .unset] [(.int (2 : Int32)), (.ref bo), (.long ((((o0 &&& (255 : Int32)).toInt64) <<< ((40 : Int32).toInt64 &&& 63)) ||| (((o1 &&& (255 : Int32)).toInt64) <<< ((32 : Int32).toInt64 &&& 63))))])) _
    refine own_bal X13 hx hZ rfl V13 ⟨by decide, by decide⟩ (v := (.int (nar .byte ((XT.ushrL mm (24 : Int32)).toInt32).toInt8.toInt32))) rfl rfl rfl (hb hby at_62) ?_
    show Steps p.tables e below (T13.setTop (mkF m 63 #[.val (.long q1), .second, .val (.long mm), .second, .val (.ref bo), .unset, .unset] [(.int (nar .byte ((XT.ushrL mm (24 : Int32)).toInt32).toInt8.toInt32)), (.long ((((o0 &&& (255 : Int32)).toInt64) <<< ((40 : Int32).toInt64 &&& 63)) ||| (((o1 &&& (255 : Int32)).toInt64) <<< ((32 : Int32).toInt64 &&& 63))))])) _
    exact k
  obtain ⟨o2, ho2⟩ : ∃ z : Int32, z = (nar .byte ((XT.ushrL mm (24 : Int32)).toInt32).toInt8.toInt32) := ⟨_, rfl⟩
  rw [← ho2] at P21
  have P22 : ∀ t, Steps p.tables e below (T13.setTop (mkF m 76 #[.val (.long q1), .second, .val (.long mm), .second, .val (.ref bo), .unset, .unset] [(.int (nar .byte ((XT.ushrL mm (16 : Int32)).toInt32).toInt8.toInt32)), (.long (((((o0 &&& (255 : Int32)).toInt64) <<< ((40 : Int32).toInt64 &&& 63)) ||| (((o1 &&& (255 : Int32)).toInt64) <<< ((32 : Int32).toInt64 &&& 63))) ||| (((o2 &&& (255 : Int32)).toInt64) <<< ((24 : Int32).toInt64 &&& 63))))])) t → Steps p.tables e below (s₁.setTop (entryFrame m #[(.long q1)] maxLocals)) t := by
    intro t k
    refine P21 _ ?_
    refine XS.sipush X13.here hx rfl (hb hby at_63) ?_
    show Steps p.tables e below (T13.setTop (mkF m 66 #[.val (.long q1), .second, .val (.long mm), .second, .val (.ref bo), .unset, .unset] [(.int (255 : Int32)), (.int o2), (.long ((((o0 &&& (255 : Int32)).toInt64) <<< ((40 : Int32).toInt64 &&& 63)) ||| (((o1 &&& (255 : Int32)).toInt64) <<< ((32 : Int32).toInt64 &&& 63))))])) _
    refine XS.iand X13.here hx rfl (hb hby at_66) rfl ?_
    show Steps p.tables e below (T13.setTop (mkF m 67 #[.val (.long q1), .second, .val (.long mm), .second, .val (.ref bo), .unset, .unset] [(.int (o2 &&& (255 : Int32))), (.long ((((o0 &&& (255 : Int32)).toInt64) <<< ((40 : Int32).toInt64 &&& 63)) ||| (((o1 &&& (255 : Int32)).toInt64) <<< ((32 : Int32).toInt64 &&& 63))))])) _
    refine XT.i2l X13.here hx rfl (hb hby at_67) rfl ?_
    show Steps p.tables e below (T13.setTop (mkF m 68 #[.val (.long q1), .second, .val (.long mm), .second, .val (.ref bo), .unset, .unset] [(.long ((o2 &&& (255 : Int32)).toInt64)), (.long ((((o0 &&& (255 : Int32)).toInt64) <<< ((40 : Int32).toInt64 &&& 63)) ||| (((o1 &&& (255 : Int32)).toInt64) <<< ((32 : Int32).toInt64 &&& 63))))])) _
    refine XS.bipush X13.here hx rfl (hb hby at_68) ?_
    show Steps p.tables e below (T13.setTop (mkF m 70 #[.val (.long q1), .second, .val (.long mm), .second, .val (.ref bo), .unset, .unset] [(.int (24 : Int32)), (.long ((o2 &&& (255 : Int32)).toInt64)), (.long ((((o0 &&& (255 : Int32)).toInt64) <<< ((40 : Int32).toInt64 &&& 63)) ||| (((o1 &&& (255 : Int32)).toInt64) <<< ((32 : Int32).toInt64 &&& 63))))])) _
    refine XT.lshl X13.here hx rfl (hb hby at_70) rfl ?_
    show Steps p.tables e below (T13.setTop (mkF m 71 #[.val (.long q1), .second, .val (.long mm), .second, .val (.ref bo), .unset, .unset] [(.long (((o2 &&& (255 : Int32)).toInt64) <<< ((24 : Int32).toInt64 &&& 63))), (.long ((((o0 &&& (255 : Int32)).toInt64) <<< ((40 : Int32).toInt64 &&& 63)) ||| (((o1 &&& (255 : Int32)).toInt64) <<< ((32 : Int32).toInt64 &&& 63))))])) _
    refine XT.lor X13.here hx rfl (hb hby at_71) rfl ?_
    show Steps p.tables e below (T13.setTop (mkF m 72 #[.val (.long q1), .second, .val (.long mm), .second, .val (.ref bo), .unset, .unset] [(.long (((((o0 &&& (255 : Int32)).toInt64) <<< ((40 : Int32).toInt64 &&& 63)) ||| (((o1 &&& (255 : Int32)).toInt64) <<< ((32 : Int32).toInt64 &&& 63))) ||| (((o2 &&& (255 : Int32)).toInt64) <<< ((24 : Int32).toInt64 &&& 63))))])) _
    refine XS.aload X13.here hx rfl (hb hby at_72) rfl rfl ?_
    show Steps p.tables e below (T13.setTop (mkF m 74 #[.val (.long q1), .second, .val (.long mm), .second, .val (.ref bo), .unset, .unset] [(.ref bo), (.long (((((o0 &&& (255 : Int32)).toInt64) <<< ((40 : Int32).toInt64 &&& 63)) ||| (((o1 &&& (255 : Int32)).toInt64) <<< ((32 : Int32).toInt64 &&& 63))) ||| (((o2 &&& (255 : Int32)).toInt64) <<< ((24 : Int32).toInt64 &&& 63))))])) _
    refine XS.iconst X13.here hx rfl (hb hby at_74) ?_
    show Steps p.tables e below (T13.setTop (mkF m 75 #[.val (.long q1), .second, .val (.long mm), .second, .val (.ref bo), .unset, .unset] [(.int (3 : Int32)), (.ref bo), (.long (((((o0 &&& (255 : Int32)).toInt64) <<< ((40 : Int32).toInt64 &&& 63)) ||| (((o1 &&& (255 : Int32)).toInt64) <<< ((32 : Int32).toInt64 &&& 63))) ||| (((o2 &&& (255 : Int32)).toInt64) <<< ((24 : Int32).toInt64 &&& 63))))])) _
    refine own_bal X13 hx hZ rfl V13 ⟨by decide, by decide⟩ (v := (.int (nar .byte ((XT.ushrL mm (16 : Int32)).toInt32).toInt8.toInt32))) rfl rfl rfl (hb hby at_75) ?_
    show Steps p.tables e below (T13.setTop (mkF m 76 #[.val (.long q1), .second, .val (.long mm), .second, .val (.ref bo), .unset, .unset] [(.int (nar .byte ((XT.ushrL mm (16 : Int32)).toInt32).toInt8.toInt32)), (.long (((((o0 &&& (255 : Int32)).toInt64) <<< ((40 : Int32).toInt64 &&& 63)) ||| (((o1 &&& (255 : Int32)).toInt64) <<< ((32 : Int32).toInt64 &&& 63))) ||| (((o2 &&& (255 : Int32)).toInt64) <<< ((24 : Int32).toInt64 &&& 63))))])) _
    exact k
  obtain ⟨o3, ho3⟩ : ∃ z : Int32, z = (nar .byte ((XT.ushrL mm (16 : Int32)).toInt32).toInt8.toInt32) := ⟨_, rfl⟩
  rw [← ho3] at P22
  have P23 : ∀ t, Steps p.tables e below (T13.setTop (mkF m 89 #[.val (.long q1), .second, .val (.long mm), .second, .val (.ref bo), .unset, .unset] [(.int (nar .byte ((XT.ushrL mm (8 : Int32)).toInt32).toInt8.toInt32)), (.long ((((((o0 &&& (255 : Int32)).toInt64) <<< ((40 : Int32).toInt64 &&& 63)) ||| (((o1 &&& (255 : Int32)).toInt64) <<< ((32 : Int32).toInt64 &&& 63))) ||| (((o2 &&& (255 : Int32)).toInt64) <<< ((24 : Int32).toInt64 &&& 63))) ||| (((o3 &&& (255 : Int32)).toInt64) <<< ((16 : Int32).toInt64 &&& 63))))])) t → Steps p.tables e below (s₁.setTop (entryFrame m #[(.long q1)] maxLocals)) t := by
    intro t k
    refine P22 _ ?_
    refine XS.sipush X13.here hx rfl (hb hby at_76) ?_
    show Steps p.tables e below (T13.setTop (mkF m 79 #[.val (.long q1), .second, .val (.long mm), .second, .val (.ref bo), .unset, .unset] [(.int (255 : Int32)), (.int o3), (.long (((((o0 &&& (255 : Int32)).toInt64) <<< ((40 : Int32).toInt64 &&& 63)) ||| (((o1 &&& (255 : Int32)).toInt64) <<< ((32 : Int32).toInt64 &&& 63))) ||| (((o2 &&& (255 : Int32)).toInt64) <<< ((24 : Int32).toInt64 &&& 63))))])) _
    refine XS.iand X13.here hx rfl (hb hby at_79) rfl ?_
    show Steps p.tables e below (T13.setTop (mkF m 80 #[.val (.long q1), .second, .val (.long mm), .second, .val (.ref bo), .unset, .unset] [(.int (o3 &&& (255 : Int32))), (.long (((((o0 &&& (255 : Int32)).toInt64) <<< ((40 : Int32).toInt64 &&& 63)) ||| (((o1 &&& (255 : Int32)).toInt64) <<< ((32 : Int32).toInt64 &&& 63))) ||| (((o2 &&& (255 : Int32)).toInt64) <<< ((24 : Int32).toInt64 &&& 63))))])) _
    refine XT.i2l X13.here hx rfl (hb hby at_80) rfl ?_
    show Steps p.tables e below (T13.setTop (mkF m 81 #[.val (.long q1), .second, .val (.long mm), .second, .val (.ref bo), .unset, .unset] [(.long ((o3 &&& (255 : Int32)).toInt64)), (.long (((((o0 &&& (255 : Int32)).toInt64) <<< ((40 : Int32).toInt64 &&& 63)) ||| (((o1 &&& (255 : Int32)).toInt64) <<< ((32 : Int32).toInt64 &&& 63))) ||| (((o2 &&& (255 : Int32)).toInt64) <<< ((24 : Int32).toInt64 &&& 63))))])) _
    refine XS.bipush X13.here hx rfl (hb hby at_81) ?_
    show Steps p.tables e below (T13.setTop (mkF m 83 #[.val (.long q1), .second, .val (.long mm), .second, .val (.ref bo), .unset, .unset] [(.int (16 : Int32)), (.long ((o3 &&& (255 : Int32)).toInt64)), (.long (((((o0 &&& (255 : Int32)).toInt64) <<< ((40 : Int32).toInt64 &&& 63)) ||| (((o1 &&& (255 : Int32)).toInt64) <<< ((32 : Int32).toInt64 &&& 63))) ||| (((o2 &&& (255 : Int32)).toInt64) <<< ((24 : Int32).toInt64 &&& 63))))])) _
    refine XT.lshl X13.here hx rfl (hb hby at_83) rfl ?_
    show Steps p.tables e below (T13.setTop (mkF m 84 #[.val (.long q1), .second, .val (.long mm), .second, .val (.ref bo), .unset, .unset] [(.long (((o3 &&& (255 : Int32)).toInt64) <<< ((16 : Int32).toInt64 &&& 63))), (.long (((((o0 &&& (255 : Int32)).toInt64) <<< ((40 : Int32).toInt64 &&& 63)) ||| (((o1 &&& (255 : Int32)).toInt64) <<< ((32 : Int32).toInt64 &&& 63))) ||| (((o2 &&& (255 : Int32)).toInt64) <<< ((24 : Int32).toInt64 &&& 63))))])) _
    refine XT.lor X13.here hx rfl (hb hby at_84) rfl ?_
    show Steps p.tables e below (T13.setTop (mkF m 85 #[.val (.long q1), .second, .val (.long mm), .second, .val (.ref bo), .unset, .unset] [(.long ((((((o0 &&& (255 : Int32)).toInt64) <<< ((40 : Int32).toInt64 &&& 63)) ||| (((o1 &&& (255 : Int32)).toInt64) <<< ((32 : Int32).toInt64 &&& 63))) ||| (((o2 &&& (255 : Int32)).toInt64) <<< ((24 : Int32).toInt64 &&& 63))) ||| (((o3 &&& (255 : Int32)).toInt64) <<< ((16 : Int32).toInt64 &&& 63))))])) _
    refine XS.aload X13.here hx rfl (hb hby at_85) rfl rfl ?_
    show Steps p.tables e below (T13.setTop (mkF m 87 #[.val (.long q1), .second, .val (.long mm), .second, .val (.ref bo), .unset, .unset] [(.ref bo), (.long ((((((o0 &&& (255 : Int32)).toInt64) <<< ((40 : Int32).toInt64 &&& 63)) ||| (((o1 &&& (255 : Int32)).toInt64) <<< ((32 : Int32).toInt64 &&& 63))) ||| (((o2 &&& (255 : Int32)).toInt64) <<< ((24 : Int32).toInt64 &&& 63))) ||| (((o3 &&& (255 : Int32)).toInt64) <<< ((16 : Int32).toInt64 &&& 63))))])) _
    refine XS.iconst X13.here hx rfl (hb hby at_87) ?_
    show Steps p.tables e below (T13.setTop (mkF m 88 #[.val (.long q1), .second, .val (.long mm), .second, .val (.ref bo), .unset, .unset] [(.int (4 : Int32)), (.ref bo), (.long ((((((o0 &&& (255 : Int32)).toInt64) <<< ((40 : Int32).toInt64 &&& 63)) ||| (((o1 &&& (255 : Int32)).toInt64) <<< ((32 : Int32).toInt64 &&& 63))) ||| (((o2 &&& (255 : Int32)).toInt64) <<< ((24 : Int32).toInt64 &&& 63))) ||| (((o3 &&& (255 : Int32)).toInt64) <<< ((16 : Int32).toInt64 &&& 63))))])) _
    refine own_bal X13 hx hZ rfl V13 ⟨by decide, by decide⟩ (v := (.int (nar .byte ((XT.ushrL mm (8 : Int32)).toInt32).toInt8.toInt32))) rfl rfl rfl (hb hby at_88) ?_
    show Steps p.tables e below (T13.setTop (mkF m 89 #[.val (.long q1), .second, .val (.long mm), .second, .val (.ref bo), .unset, .unset] [(.int (nar .byte ((XT.ushrL mm (8 : Int32)).toInt32).toInt8.toInt32)), (.long ((((((o0 &&& (255 : Int32)).toInt64) <<< ((40 : Int32).toInt64 &&& 63)) ||| (((o1 &&& (255 : Int32)).toInt64) <<< ((32 : Int32).toInt64 &&& 63))) ||| (((o2 &&& (255 : Int32)).toInt64) <<< ((24 : Int32).toInt64 &&& 63))) ||| (((o3 &&& (255 : Int32)).toInt64) <<< ((16 : Int32).toInt64 &&& 63))))])) _
    exact k
  obtain ⟨o4, ho4⟩ : ∃ z : Int32, z = (nar .byte ((XT.ushrL mm (8 : Int32)).toInt32).toInt8.toInt32) := ⟨_, rfl⟩
  rw [← ho4] at P23
  have P24 : ∀ t, Steps p.tables e below (T13.setTop (mkF m 102 #[.val (.long q1), .second, .val (.long mm), .second, .val (.ref bo), .unset, .unset] [(.int (nar .byte ((XT.ushrL mm (0 : Int32)).toInt32).toInt8.toInt32)), (.long (((((((o0 &&& (255 : Int32)).toInt64) <<< ((40 : Int32).toInt64 &&& 63)) ||| (((o1 &&& (255 : Int32)).toInt64) <<< ((32 : Int32).toInt64 &&& 63))) ||| (((o2 &&& (255 : Int32)).toInt64) <<< ((24 : Int32).toInt64 &&& 63))) ||| (((o3 &&& (255 : Int32)).toInt64) <<< ((16 : Int32).toInt64 &&& 63))) ||| (((o4 &&& (255 : Int32)).toInt64) <<< ((8 : Int32).toInt64 &&& 63))))])) t → Steps p.tables e below (s₁.setTop (entryFrame m #[(.long q1)] maxLocals)) t := by
    intro t k
    refine P23 _ ?_
    refine XS.sipush X13.here hx rfl (hb hby at_89) ?_
    show Steps p.tables e below (T13.setTop (mkF m 92 #[.val (.long q1), .second, .val (.long mm), .second, .val (.ref bo), .unset, .unset] [(.int (255 : Int32)), (.int o4), (.long ((((((o0 &&& (255 : Int32)).toInt64) <<< ((40 : Int32).toInt64 &&& 63)) ||| (((o1 &&& (255 : Int32)).toInt64) <<< ((32 : Int32).toInt64 &&& 63))) ||| (((o2 &&& (255 : Int32)).toInt64) <<< ((24 : Int32).toInt64 &&& 63))) ||| (((o3 &&& (255 : Int32)).toInt64) <<< ((16 : Int32).toInt64 &&& 63))))])) _
    refine XS.iand X13.here hx rfl (hb hby at_92) rfl ?_
    show Steps p.tables e below (T13.setTop (mkF m 93 #[.val (.long q1), .second, .val (.long mm), .second, .val (.ref bo), .unset, .unset] [(.int (o4 &&& (255 : Int32))), (.long ((((((o0 &&& (255 : Int32)).toInt64) <<< ((40 : Int32).toInt64 &&& 63)) ||| (((o1 &&& (255 : Int32)).toInt64) <<< ((32 : Int32).toInt64 &&& 63))) ||| (((o2 &&& (255 : Int32)).toInt64) <<< ((24 : Int32).toInt64 &&& 63))) ||| (((o3 &&& (255 : Int32)).toInt64) <<< ((16 : Int32).toInt64 &&& 63))))])) _
    refine XT.i2l X13.here hx rfl (hb hby at_93) rfl ?_
    show Steps p.tables e below (T13.setTop (mkF m 94 #[.val (.long q1), .second, .val (.long mm), .second, .val (.ref bo), .unset, .unset] [(.long ((o4 &&& (255 : Int32)).toInt64)), (.long ((((((o0 &&& (255 : Int32)).toInt64) <<< ((40 : Int32).toInt64 &&& 63)) ||| (((o1 &&& (255 : Int32)).toInt64) <<< ((32 : Int32).toInt64 &&& 63))) ||| (((o2 &&& (255 : Int32)).toInt64) <<< ((24 : Int32).toInt64 &&& 63))) ||| (((o3 &&& (255 : Int32)).toInt64) <<< ((16 : Int32).toInt64 &&& 63))))])) _
    refine XS.bipush X13.here hx rfl (hb hby at_94) ?_
    show Steps p.tables e below (T13.setTop (mkF m 96 #[.val (.long q1), .second, .val (.long mm), .second, .val (.ref bo), .unset, .unset] [(.int (8 : Int32)), (.long ((o4 &&& (255 : Int32)).toInt64)), (.long ((((((o0 &&& (255 : Int32)).toInt64) <<< ((40 : Int32).toInt64 &&& 63)) ||| (((o1 &&& (255 : Int32)).toInt64) <<< ((32 : Int32).toInt64 &&& 63))) ||| (((o2 &&& (255 : Int32)).toInt64) <<< ((24 : Int32).toInt64 &&& 63))) ||| (((o3 &&& (255 : Int32)).toInt64) <<< ((16 : Int32).toInt64 &&& 63))))])) _
    refine XT.lshl X13.here hx rfl (hb hby at_96) rfl ?_
    show Steps p.tables e below (T13.setTop (mkF m 97 #[.val (.long q1), .second, .val (.long mm), .second, .val (.ref bo), .unset, .unset] [(.long (((o4 &&& (255 : Int32)).toInt64) <<< ((8 : Int32).toInt64 &&& 63))), (.long ((((((o0 &&& (255 : Int32)).toInt64) <<< ((40 : Int32).toInt64 &&& 63)) ||| (((o1 &&& (255 : Int32)).toInt64) <<< ((32 : Int32).toInt64 &&& 63))) ||| (((o2 &&& (255 : Int32)).toInt64) <<< ((24 : Int32).toInt64 &&& 63))) ||| (((o3 &&& (255 : Int32)).toInt64) <<< ((16 : Int32).toInt64 &&& 63))))])) _
    refine XT.lor X13.here hx rfl (hb hby at_97) rfl ?_
    show Steps p.tables e below (T13.setTop (mkF m 98 #[.val (.long q1), .second, .val (.long mm), .second, .val (.ref bo), .unset, .unset] [(.long (((((((o0 &&& (255 : Int32)).toInt64) <<< ((40 : Int32).toInt64 &&& 63)) ||| (((o1 &&& (255 : Int32)).toInt64) <<< ((32 : Int32).toInt64 &&& 63))) ||| (((o2 &&& (255 : Int32)).toInt64) <<< ((24 : Int32).toInt64 &&& 63))) ||| (((o3 &&& (255 : Int32)).toInt64) <<< ((16 : Int32).toInt64 &&& 63))) ||| (((o4 &&& (255 : Int32)).toInt64) <<< ((8 : Int32).toInt64 &&& 63))))])) _
    refine XS.aload X13.here hx rfl (hb hby at_98) rfl rfl ?_
    show Steps p.tables e below (T13.setTop (mkF m 100 #[.val (.long q1), .second, .val (.long mm), .second, .val (.ref bo), .unset, .unset] [(.ref bo), (.long (((((((o0 &&& (255 : Int32)).toInt64) <<< ((40 : Int32).toInt64 &&& 63)) ||| (((o1 &&& (255 : Int32)).toInt64) <<< ((32 : Int32).toInt64 &&& 63))) ||| (((o2 &&& (255 : Int32)).toInt64) <<< ((24 : Int32).toInt64 &&& 63))) ||| (((o3 &&& (255 : Int32)).toInt64) <<< ((16 : Int32).toInt64 &&& 63))) ||| (((o4 &&& (255 : Int32)).toInt64) <<< ((8 : Int32).toInt64 &&& 63))))])) _
    refine XS.iconst X13.here hx rfl (hb hby at_100) ?_
    show Steps p.tables e below (T13.setTop (mkF m 101 #[.val (.long q1), .second, .val (.long mm), .second, .val (.ref bo), .unset, .unset] [(.int (5 : Int32)), (.ref bo), (.long (((((((o0 &&& (255 : Int32)).toInt64) <<< ((40 : Int32).toInt64 &&& 63)) ||| (((o1 &&& (255 : Int32)).toInt64) <<< ((32 : Int32).toInt64 &&& 63))) ||| (((o2 &&& (255 : Int32)).toInt64) <<< ((24 : Int32).toInt64 &&& 63))) ||| (((o3 &&& (255 : Int32)).toInt64) <<< ((16 : Int32).toInt64 &&& 63))) ||| (((o4 &&& (255 : Int32)).toInt64) <<< ((8 : Int32).toInt64 &&& 63))))])) _
    refine own_bal X13 hx hZ rfl V13 ⟨by decide, by decide⟩ (v := (.int (nar .byte ((XT.ushrL mm (0 : Int32)).toInt32).toInt8.toInt32))) rfl rfl rfl (hb hby at_101) ?_
    show Steps p.tables e below (T13.setTop (mkF m 102 #[.val (.long q1), .second, .val (.long mm), .second, .val (.ref bo), .unset, .unset] [(.int (nar .byte ((XT.ushrL mm (0 : Int32)).toInt32).toInt8.toInt32)), (.long (((((((o0 &&& (255 : Int32)).toInt64) <<< ((40 : Int32).toInt64 &&& 63)) ||| (((o1 &&& (255 : Int32)).toInt64) <<< ((32 : Int32).toInt64 &&& 63))) ||| (((o2 &&& (255 : Int32)).toInt64) <<< ((24 : Int32).toInt64 &&& 63))) ||| (((o3 &&& (255 : Int32)).toInt64) <<< ((16 : Int32).toInt64 &&& 63))) ||| (((o4 &&& (255 : Int32)).toInt64) <<< ((8 : Int32).toInt64 &&& 63))))])) _
    exact k
  obtain ⟨o5, ho5⟩ : ∃ z : Int32, z = (nar .byte ((XT.ushrL mm (0 : Int32)).toInt32).toInt8.toInt32) := ⟨_, rfl⟩
  rw [← ho5] at P24
  have P25 : ∀ t, Steps p.tables e below (T13.setTop (mkF m 110 #[.val (.long q1), .second, .val (.long mm), .second, .val (.ref bo), .val (.long ((((((((o0 &&& (255 : Int32)).toInt64) <<< ((40 : Int32).toInt64 &&& 63)) ||| (((o1 &&& (255 : Int32)).toInt64) <<< ((32 : Int32).toInt64 &&& 63))) ||| (((o2 &&& (255 : Int32)).toInt64) <<< ((24 : Int32).toInt64 &&& 63))) ||| (((o3 &&& (255 : Int32)).toInt64) <<< ((16 : Int32).toInt64 &&& 63))) ||| (((o4 &&& (255 : Int32)).toInt64) <<< ((8 : Int32).toInt64 &&& 63))) ||| ((o5 &&& (255 : Int32)).toInt64))), .second] [])) t → Steps p.tables e below (s₁.setTop (entryFrame m #[(.long q1)] maxLocals)) t := by
    intro t k
    refine P24 _ ?_
    refine XS.sipush X13.here hx rfl (hb hby at_102) ?_
    show Steps p.tables e below (T13.setTop (mkF m 105 #[.val (.long q1), .second, .val (.long mm), .second, .val (.ref bo), .unset, .unset] [(.int (255 : Int32)), (.int o5), (.long (((((((o0 &&& (255 : Int32)).toInt64) <<< ((40 : Int32).toInt64 &&& 63)) ||| (((o1 &&& (255 : Int32)).toInt64) <<< ((32 : Int32).toInt64 &&& 63))) ||| (((o2 &&& (255 : Int32)).toInt64) <<< ((24 : Int32).toInt64 &&& 63))) ||| (((o3 &&& (255 : Int32)).toInt64) <<< ((16 : Int32).toInt64 &&& 63))) ||| (((o4 &&& (255 : Int32)).toInt64) <<< ((8 : Int32).toInt64 &&& 63))))])) _
    refine XS.iand X13.here hx rfl (hb hby at_105) rfl ?_
    show Steps p.tables e below (T13.setTop (mkF m 106 #[.val (.long q1), .second, .val (.long mm), .second, .val (.ref bo), .unset, .unset] [(.int (o5 &&& (255 : Int32))), (.long (((((((o0 &&& (255 : Int32)).toInt64) <<< ((40 : Int32).toInt64 &&& 63)) ||| (((o1 &&& (255 : Int32)).toInt64) <<< ((32 : Int32).toInt64 &&& 63))) ||| (((o2 &&& (255 : Int32)).toInt64) <<< ((24 : Int32).toInt64 &&& 63))) ||| (((o3 &&& (255 : Int32)).toInt64) <<< ((16 : Int32).toInt64 &&& 63))) ||| (((o4 &&& (255 : Int32)).toInt64) <<< ((8 : Int32).toInt64 &&& 63))))])) _
    refine XT.i2l X13.here hx rfl (hb hby at_106) rfl ?_
    show Steps p.tables e below (T13.setTop (mkF m 107 #[.val (.long q1), .second, .val (.long mm), .second, .val (.ref bo), .unset, .unset] [(.long ((o5 &&& (255 : Int32)).toInt64)), (.long (((((((o0 &&& (255 : Int32)).toInt64) <<< ((40 : Int32).toInt64 &&& 63)) ||| (((o1 &&& (255 : Int32)).toInt64) <<< ((32 : Int32).toInt64 &&& 63))) ||| (((o2 &&& (255 : Int32)).toInt64) <<< ((24 : Int32).toInt64 &&& 63))) ||| (((o3 &&& (255 : Int32)).toInt64) <<< ((16 : Int32).toInt64 &&& 63))) ||| (((o4 &&& (255 : Int32)).toInt64) <<< ((8 : Int32).toInt64 &&& 63))))])) _
    refine XT.lor X13.here hx rfl (hb hby at_107) rfl ?_
    show Steps p.tables e below (T13.setTop (mkF m 108 #[.val (.long q1), .second, .val (.long mm), .second, .val (.ref bo), .unset, .unset] [(.long ((((((((o0 &&& (255 : Int32)).toInt64) <<< ((40 : Int32).toInt64 &&& 63)) ||| (((o1 &&& (255 : Int32)).toInt64) <<< ((32 : Int32).toInt64 &&& 63))) ||| (((o2 &&& (255 : Int32)).toInt64) <<< ((24 : Int32).toInt64 &&& 63))) ||| (((o3 &&& (255 : Int32)).toInt64) <<< ((16 : Int32).toInt64 &&& 63))) ||| (((o4 &&& (255 : Int32)).toInt64) <<< ((8 : Int32).toInt64 &&& 63))) ||| ((o5 &&& (255 : Int32)).toInt64)))])) _
    refine XT.lstore X13.here hx rfl (hb hby at_108) rfl (l' := #[.val (.long q1), .second, .val (.long mm), .second, .val (.ref bo), .val (.long ((((((((o0 &&& (255 : Int32)).toInt64) <<< ((40 : Int32).toInt64 &&& 63)) ||| (((o1 &&& (255 : Int32)).toInt64) <<< ((32 : Int32).toInt64 &&& 63))) ||| (((o2 &&& (255 : Int32)).toInt64) <<< ((24 : Int32).toInt64 &&& 63))) ||| (((o3 &&& (255 : Int32)).toInt64) <<< ((16 : Int32).toInt64 &&& 63))) ||| (((o4 &&& (255 : Int32)).toInt64) <<< ((8 : Int32).toInt64 &&& 63))) ||| ((o5 &&& (255 : Int32)).toInt64))), .second]) rfl ?_
    show Steps p.tables e below (T13.setTop (mkF m 110 #[.val (.long q1), .second, .val (.long mm), .second, .val (.ref bo), .val (.long ((((((((o0 &&& (255 : Int32)).toInt64) <<< ((40 : Int32).toInt64 &&& 63)) ||| (((o1 &&& (255 : Int32)).toInt64) <<< ((32 : Int32).toInt64 &&& 63))) ||| (((o2 &&& (255 : Int32)).toInt64) <<< ((24 : Int32).toInt64 &&& 63))) ||| (((o3 &&& (255 : Int32)).toInt64) <<< ((16 : Int32).toInt64 &&& 63))) ||| (((o4 &&& (255 : Int32)).toInt64) <<< ((8 : Int32).toInt64 &&& 63))) ||| ((o5 &&& (255 : Int32)).toInt64))), .second] [])) _
    exact k
  obtain ⟨rr, hrr⟩ : ∃ z : Int64, z = ((((((((o0 &&& (255 : Int32)).toInt64) <<< ((40 : Int32).toInt64 &&& 63)) ||| (((o1 &&& (255 : Int32)).toInt64) <<< ((32 : Int32).toInt64 &&& 63))) ||| (((o2 &&& (255 : Int32)).toInt64) <<< ((24 : Int32).toInt64 &&& 63))) ||| (((o3 &&& (255 : Int32)).toInt64) <<< ((16 : Int32).toInt64 &&& 63))) ||| (((o4 &&& (255 : Int32)).toInt64) <<< ((8 : Int32).toInt64 &&& 63))) ||| ((o5 &&& (255 : Int32)).toInt64)) := ⟨_, rfl⟩
  rw [← hrr] at P25
  have re : rr = mm := own_plain hmm ho0 ho1 ho2 ho3 ho4 ho5 hrr
  have P26 : ∀ t, Steps p.tables e below (T13.setTop (mkF m 122 #[.val (.long q1), .second, .val (.long mm), .second, .val (.ref bo), .val (.long rr), .second] [(.int (1 : Int32))])) t → Steps p.tables e below (s₁.setTop (entryFrame m #[(.long q1)] maxLocals)) t := by
    intro t k
    refine P25 _ ?_
    refine XT.lload X13.here hx rfl (hb hby at_110) rfl ?_
    show Steps p.tables e below (T13.setTop (mkF m 112 #[.val (.long q1), .second, .val (.long mm), .second, .val (.ref bo), .val (.long rr), .second] [(.long rr)])) _
    refine XT.lloadN X13.here hx rfl (hb hby at_112) rfl ?_
    show Steps p.tables e below (T13.setTop (mkF m 113 #[.val (.long q1), .second, .val (.long mm), .second, .val (.ref bo), .val (.long rr), .second] [(.long mm), (.long rr)])) _
    refine XT.lcmp X13.here hx rfl (hb hby at_113) rfl ?_
    show Steps p.tables e below (T13.setTop (mkF m 114 #[.val (.long q1), .second, .val (.long mm), .second, .val (.ref bo), .val (.long rr), .second] [(.int (XT.cmpL rr mm))])) _
    refine XS.ifNo X13.here hx rfl (hb hby at_114) rfl (XT.ll_ne_f re) ?_
    show Steps p.tables e below (T13.setTop (mkF m 117 #[.val (.long q1), .second, .val (.long mm), .second, .val (.ref bo), .val (.long rr), .second] [])) _
    refine XS.iconst X13.here hx rfl (hb hby at_117) ?_
    show Steps p.tables e below (T13.setTop (mkF m 118 #[.val (.long q1), .second, .val (.long mm), .second, .val (.ref bo), .val (.long rr), .second] [(.int (1 : Int32))])) _
    refine XS.goto X13.here hx rfl (pc0 := 118) (pc' := 122) rfl (hb hby at_118) (by decide) (by decide) ?_
    show Steps p.tables e below (T13.setTop (mkF m 122 #[.val (.long q1), .second, .val (.long mm), .second, .val (.ref bo), .val (.long rr), .second] [(.int (1 : Int32))])) _
    exact k
  obtain ⟨fs, hr, hrun, hended, hW, hsame⟩ := X13.leave (v := some (.int (1 : Int32))) (fun h => by rw [Bd.returns] at h; cases h)
  refine ⟨_, _, P26 _ ?_, hrun, hended, _, _, rfl, ?_, ⟨_, rfl⟩, hW, hsame.mono (by decide) (by decide)⟩
  · exact retN X13 hx (t := .boolean) Bd.returns (by simp) (hb hby at_122) hr
  · show Q0 Z q1 h0 n0 _ T13.heap _
    exact ⟨rfl, N13⟩
set_option maxRecDepth 65536 in
set_option maxHeartbeats 40000000 in
theorem comes_1 {Post : Tables → Env → Array Value → State → Outcome → State → Prop} (hpost : ∀ tb e args s v u, (limb_1_1.after args s (.returned v) u = true ∧ limb_1_2.after args s (.returned v) u = true ∧ True) → FrameEnd s (.returned v) u (Jvm.fieldLocs frame_1_writes args s ++ Jvm.arrayLocs frame_1_arrays args s ++ Jvm.staticLocs frame_1_statics s) 16 128 → Post tb e args s (.returned v) u) :
    ArmFor flags0 classFile x code maxLocals ret World_1 tables_1 room_1 Calls_1 rest_1 Pre_1 Post := by
  intro l hfl _ _ p e ha hc hk s m args below hf hA hF happ hP
  obtain ⟨hcalls, hrest, hpre⟩ := hP
  obtain ⟨-, -, -, hnamed, -, -, -, hat⟩ := (Spec.applies_iff hf).mp happ
  obtain ⟨hg, hn⟩ := and_e (Cond.before_iff.mp (show (Jvm.Cond.and given_1 narrow_1).before args s = true from hpre))
  obtain ⟨g1, g2⟩ := and_e hg
  obtain ⟨w0, rfl⟩ : ∃ w0 : Value, args = #[w0] := by
    have hs : args.size = 1 := by simpa [Cond.value, given_1] using g1
    obtain ⟨L⟩ := args
    match L, hs with
    | [w0], _ => exact ⟨w0, rfl⟩
  have hw := fun d (hd : d ∈ tables_1) => atoms_spec (ws := Jvm.Cond.code x code maxLocals ret :: tables_1) hat d (List.mem_cons_of_mem _ hd)
  have hfit : Fit s := fun {y c} hc i hi => by
    obtain ⟨ha, rfl⟩ := Array.getElem?_eq_some_iff.mp hc
    have q := List.all_eq_true.mp ((Array.all_eq_true_iff_forall_mem.mp hF) _ (Array.getElem_mem ha)) i (List.mem_range.mpr hi)
    simpa [Array.getElem?_eq_getElem hi] using q
  obtain ⟨i0, ei0⟩ := isL_v g2
  obtain rfl : w0 = (.long i0) := Option.some.inj ei0
  obtain ⟨n, o, h1, h2, h3, _, L, rfl, ⟨rfl, N⟩, hq⟩ := rm0 l s _ hw tables_1 i0  s.heap s.heap.size (Nat.le_refl _)  p e ha hc hk s m _ below hf ((Spec.applies_iff_loose hf).mp happ).1 ⟨rfl, State.Warmed39.refl s, rfl⟩ trivial
  refine ⟨n, _, h1, h2, h3, hpost _ _ _ _ _ _ ⟨Cond.after_iff.mpr rfl, Cond.after_iff.mpr (eq_i res_at (Term.int_eval (1)) rfl), trivial⟩ ⟨hq.1, hq.2.1, (hq.2.2.sift fun y hy => Or.inr (N y hy)).mono (by decide) (by decide)⟩⟩
theorem main_1_1 : Claimed_1_1 := comes_1 fun _ _ _ _ _ _ h hF => ⟨h.1, hF⟩
theorem main_1_2 : Claimed_1_2 := comes_1 fun _ _ _ _ _ _ h hF => ⟨h.2.1, hF⟩
end Jvm.Pilot.@@N@@
namespace Jvm.Pilot.@@N@@
open Jvm Jvm.ClassFile Sem Op Lib Jvm.Free Jvm.Stand Jvm.Pilot.@@N@@.Jvm.D
/-! MADE BY PROGRAM (witnessworld.py) out of the Statement's table words and the real class files: 9 classes; the members and pool entries that the words name. The judged class is class 1, her method 1. -/
namespace start1
open Jvm.ClassFile
def u (s : String) : CpInfo := .utf8 (stringToUtf16 s)
/-- a pool by its gaps: so many unusable entries, then the entry; so many at the end -/
def gap : Nat → List CpInfo → List CpInfo
  | 0, r => r
  | n + 1, r => .unusable :: gap n r
def poolList (es : List (Nat × CpInfo)) (last : Nat) : List CpInfo := es.foldr (fun e r => gap e.1 (e.2 :: r)) (gap last [])
def pool (es : List (Nat × CpInfo)) (last : Nat) : Array CpInfo := ⟨poolList es last⟩
def fileOf (pool : Array CpInfo) (this : Nat) (attrs : Array Attribute := #[]) (ms : Array MethodInfo := #[]) (fl : Nat := 33) (sup : Nat := 0) (ifs : Array Nat := #[]) (fds : Array FieldInfo := #[]) : ClassFile where
  minorVersion := 0
  majorVersion := 65
  constantPool := pool
  accessFlags := fl
  thisClass := this
  superClass := sup
  interfaces := ifs
  fields := fds
  methods := ms
  attributes := attrs
def plain (name : String) (sup : Option ClassId) : Class where
  name := name
  kind := .ordinary
  loader := none
  accessFlags := 33
  super := sup
  interfaces := #[]
  cf := none
  fields := #[]
  methods := #[]
  instanceTypes := #[]
  staticTypes := #[]
  resolved := #[]
  callSites := []
  init := .initialized
  statics := none
  mirror := none

def pool0 : Array CpInfo := pool [(5, u "<init>"), (0, u "()V"), (1, .class_ 10), (1, u "java/lang/Object")] 113

def k0c0 : Code := { maxStack := 0, maxLocals := 1, code := object_method_1_code, exceptionTable := #[], attributes := #[] }
def k0m0 : Method := { name := "<init>", desc := "()V", sig := { parameters := [], returnType := none }, accessFlags := 1, code := some k0c0 }
/-- java/lang/Object -/
def k0 : Class := { plain "java/lang/Object" none with
  accessFlags := 33
  interfaces := #[]
  cf := some (fileOf pool0 8 #[] #[{ accessFlags := 1, nameIndex := 5, descriptorIndex := 6, attributes := #[] }] 33 0 #[] #[])
  fields := #[]
  methods := #[k0m0]
  instanceTypes := #[]
  staticTypes := #[]
  resolved := Array.replicate 124 none
  statics := none }

def pool1 : Array CpInfo := pool [(2, .class_ 4), (1, u "java/lang/Object"), (0, u "<init>"), (0, u "()V"), (0, .long 281474976710655), (1, .class_ 10), (0, u "com/example/watchful_controller/watchfulcontroller/model/MacAddress"), (0, .methodref 9 12), (0, .nameAndType 5 13), (0, u "(J)V"), (0, .methodref 9 15), (0, .nameAndType 16 17), (0, u "octets"), (0, u "()[B"), (0, .class_ 19), (0, u "com/example/watchful_controller/watchfulcontroller/model/MacAddressOctetsPinLaw"), (2, u "law"), (0, u "(J)Z")] 5

def k1m0 : Method := { name := "<init>", desc := "()V", sig := { parameters := [], returnType := none }, accessFlags := 1, code := none }
def k1c1 : Code := { maxStack := 5, maxLocals := 7, code := code, exceptionTable := #[], attributes := #[] }
def k1m1 : Method := { name := "law", desc := "(J)Z", sig := { parameters := [.long], returnType := some .boolean }, accessFlags := 9, code := some k1c1 }
/-- com/example/watchful_controller/watchfulcontroller/model/MacAddressOctetsPinLaw -/
def k1 : Class := { plain "com/example/watchful_controller/watchfulcontroller/model/MacAddressOctetsPinLaw" (some 0) with
  accessFlags := 49
  interfaces := #[]
  cf := some (fileOf pool1 18 #[] #[{ accessFlags := 1, nameIndex := 5, descriptorIndex := 6, attributes := #[] }, { accessFlags := 9, nameIndex := 22, descriptorIndex := 23, attributes := #[] }] 49 2 #[] #[])
  fields := #[]
  methods := #[k1m0, k1m1]
  instanceTypes := #[]
  staticTypes := #[]
  resolved := Array.replicate 29 none
  statics := none }

def pool2 : Array CpInfo := pool [(1, .methodref 2 3), (0, .class_ 4), (0, .nameAndType 5 6), (0, u "java/lang/Object"), (0, u "<init>"), (0, u "()V"), (0, .fieldref 8 9), (0, .class_ 10), (0, .nameAndType 11 12), (0, u "com/example/watchful_controller/watchfulcontroller/model/MacAddress"), (0, u "value"), (0, u "J"), (8, u "(J)V"), (38, u "OCTETS"), (0, u "I"), (2, u "HEX_DIGITS"), (0, u "Ljava/lang/String;"), (6, u "octets"), (0, u "()[B")] 25

def k2c0 : Code := { maxStack := 3, maxLocals := 3, code := prog_31_method_1_code, exceptionTable := #[], attributes := #[] }
def k2m0 : Method := { name := "<init>", desc := "(J)V", sig := { parameters := [.long], returnType := none }, accessFlags := 0, code := some k2c0 }
def k2c1 : Code := { maxStack := 7, maxLocals := 3, code := prog_31_method_6_code, exceptionTable := #[], attributes := #[] }
def k2m1 : Method := { name := "octets", desc := "()[B", sig := { parameters := [], returnType := some (.array .byte) }, accessFlags := 1, code := some k2c1 }
/-- com/example/watchful_controller/watchfulcontroller/model/MacAddress -/
def k2 : Class := { plain "com/example/watchful_controller/watchfulcontroller/model/MacAddress" (some 0) with
  accessFlags := 49
  interfaces := #[]
  cf := some (fileOf pool2 8 #[] #[{ accessFlags := 0, nameIndex := 5, descriptorIndex := 21, attributes := #[] }, { accessFlags := 1, nameIndex := 72, descriptorIndex := 73, attributes := #[] }] 49 2 #[] #[{ accessFlags := 24, nameIndex := 60, descriptorIndex := 61, attributes := #[] }, { accessFlags := 26, nameIndex := 64, descriptorIndex := 65, attributes := #[] }, { accessFlags := 18, nameIndex := 11, descriptorIndex := 12, attributes := #[] }])
  fields := #[{ name := "OCTETS", type := .int, accessFlags := 24, slot := 0, constantValue := 0 }, { name := "HEX_DIGITS", type := (.object "java/lang/String"), accessFlags := 26, slot := 1, constantValue := 0 }, { name := "value", type := .long, accessFlags := 18, slot := 0, constantValue := 0 }]
  methods := #[k2m0, k2m1]
  instanceTypes := #[.long]
  staticTypes := #[.int, (.object "java/lang/String")]
  resolved := Array.replicate 99 none
  statics := none }

def pool3 : Array CpInfo := pool [(1, u "java/lang/Cloneable"), (0, .class_ 1), (0, u "java/lang/Object"), (0, .class_ 3)] 3

/-- java/lang/Cloneable -/
def k3 : Class := { plain "java/lang/Cloneable" (some 0) with
  accessFlags := 1537
  interfaces := #[]
  cf := some (fileOf pool3 2 #[] #[] 1537 4 #[] #[])
  fields := #[]
  methods := #[]
  instanceTypes := #[]
  staticTypes := #[]
  resolved := Array.replicate 8 none
  statics := none }

def pool4 : Array CpInfo := pool [(1, u "java/io/Serializable"), (0, .class_ 1), (0, u "java/lang/Object"), (0, .class_ 3)] 3

/-- java/io/Serializable -/
def k4 : Class := { plain "java/io/Serializable" (some 0) with
  accessFlags := 1537
  interfaces := #[]
  cf := some (fileOf pool4 2 #[] #[] 1537 4 #[] #[])
  fields := #[]
  methods := #[]
  instanceTypes := #[]
  staticTypes := #[]
  resolved := Array.replicate 8 none
  statics := none }

/-- the primitive byte -/
def k5 : Class := { plain "byte" none with kind := .primitive 'B', accessFlags := 0x411 }
/-- [B -/
def k6 : Class := { plain "[B" (some 0) with kind := .array 5 .byte, interfaces := #[3, 4], accessFlags := 1041 }

/-- the primitive int -/
def k7 : Class := { plain "int" none with kind := .primitive 'I', accessFlags := 0x411 }
/-- [I -/
def k8 : Class := { plain "[I" (some 0) with kind := .array 7 .int, interfaces := #[3, 4], accessFlags := 1041 }

def heap : Heap := #[]
def classes : Array Class := #[k0, k1, k2, k3, k4, k5, k6, k7, k8]
def interned : List (Array UInt16 × Addr) := []
def slotsUsed : Nat := 0
def theMethod : MethodId := ⟨1, 1⟩
def args0 : Array Value := #[.long 5]
def aboutOver (below : List Frame) : State where
  vm := { classes := classes, interned := interned.toArray }
  heap := heap
  slotsUsed := slotsUsed
  threads := #[{ frames := .invoking theMethod args0 :: below }]
def below0 : List Frame := [.native { method := ⟨0, 0⟩, args := #[] }]
def about1 : State := aboutOver below0
def p0 : Program := .bare "" "" ""
def e0 : Env := launch0.env 0 0 0
theorem w_frames : about1.frames = Frame.invoking theMethod args0 :: below0 := rfl
set_option maxRecDepth 65536 in
theorem w_args : argsFit about1.vm theMethod args0 = true := by decide +kernel
set_option maxRecDepth 65536 in
theorem w_heap : heapFits about1 = true := by decide +kernel
set_option maxRecDepth 65536 in
theorem w_runnable : about1.curStatus? = some .runnable := by decide +kernel
set_option maxRecDepth 65536 in
theorem w_alone : about1.alone = true := by decide +kernel
set_option maxRecDepth 65536 in
theorem w_named : about1.methodNamed? x = some theMethod := by decide +kernel
set_option maxRecDepth 65536 in
theorem w_hears : about1.hears theMethod below0 = true := by decide +kernel
set_option maxRecDepth 65536 in
theorem w_ripe : about1.ripe theMethod args0 below0 = true := by decide +kernel
theorem w_running : about1.status = .running := rfl
set_option maxRecDepth 65536 in
theorem w_room : about1.hasRoom e0.platform room_1 = true :=
  launch0.hasRoom_least _ room_1 (by decide +kernel) (by decide +kernel) (by decide +kernel) (by decide +kernel) (by decide +kernel) (by decide +kernel)
theorem allAtoms_all (ts : List Jvm.Cond) (a : Array Jvm.Value) (st : Jvm.State) : (allAtoms ts).before a st = ts.all (fun c => c.before a st) := by
  induction ts with
  | nil => rfl
  | cons c t ih =>
    show (Jvm.Cond.and c (allAtoms t)).before a st = _
    rw [Jvm.Cond.before_and, ih, List.all_cons]
def words1 : List Jvm.Cond := Jvm.Cond.code x code maxLocals ret :: tables_1
/-- a 'code' word, met by the world's own term for the bytes: nothing is compared byte by byte -/
theorem code_word {y : MethodName} {bytes : ByteArray} {mx : Nat} {rt : Option FieldType} {a : Array Value} {s : State} {m : MethodId} {meth : Method} {c : Code} (h1 : s.methodNamed? y = some m) (h2 : s.vm.method? m = some meth) (h3 : meth.code = some c) (h4 : c.code = bytes)
    (h5 : (c.maxLocals == mx && c.exceptionTable.isEmpty && decide (c.maxStack ≤ mostOperands) && decide (meth.sig.returnType = rt) && !meth.locks && decide (parseMethodDescriptor y.desc = some meth.sig)) = true) : (Jvm.Cond.code y bytes mx rt).before a s = true := by
  simp only [Bool.and_eq_true, beq_iff_eq, Bool.not_eq_true', decide_eq_true_eq] at h5
  obtain ⟨⟨⟨⟨⟨g1, g2⟩, g3⟩, g4⟩, g5⟩, g6⟩ := h5
  simp [Cond.before, Cond.holds, Cond.value, h1, h2, h3, h4, g1, g2, g3, g4, g5, g6]
def isCode : Jvm.Cond → Bool
  | .code _ _ _ _ => true
  | _ => false
theorem all_split {L : List Jvm.Cond} {P : Jvm.Cond → Bool} (h1 : L.all (fun c => isCode c || P c) = true) (h2 : ∀ c ∈ L.filter isCode, P c = true) : L.all P = true := by
  refine List.all_eq_true.mpr fun c hc => ?_
  have h := List.all_eq_true.mp h1 c hc
  rcases Bool.eq_false_or_eq_true (isCode c) with hi | hi
  · exact h2 c (List.mem_filter.mpr ⟨hc, hi⟩)
  · simpa [hi] using h
set_option maxRecDepth 65536 in
theorem w_c0 : (Jvm.Cond.code x code maxLocals ret).before args0 about1 = true := code_word (m := ⟨1, 1⟩) (meth := k1m1) (c := k1c1) (by decide +kernel) rfl rfl rfl (by decide +kernel)
set_option maxRecDepth 65536 in
theorem w_c1 : (Jvm.Cond.code ({ cls := "com/example/watchful_controller/watchfulcontroller/model/MacAddress", name := "<init>", desc := "(J)V" } : Jvm.MethodName) prog_31_method_1_code (3 : Nat) (Option.none : Option Jvm.ClassFile.FieldType)).before args0 about1 = true := code_word (m := ⟨2, 0⟩) (meth := k2m0) (c := k2c0) (by decide +kernel) rfl rfl rfl (by decide +kernel)
set_option maxRecDepth 65536 in
theorem w_c2 : (Jvm.Cond.code ({ cls := "java/lang/Object", name := "<init>", desc := "()V" } : Jvm.MethodName) object_method_1_code (1 : Nat) (Option.none : Option Jvm.ClassFile.FieldType)).before args0 about1 = true := code_word (m := ⟨0, 0⟩) (meth := k0m0) (c := k0c0) (by decide +kernel) rfl rfl rfl (by decide +kernel)
set_option maxRecDepth 65536 in
theorem w_c3 : (Jvm.Cond.code ({ cls := "com/example/watchful_controller/watchfulcontroller/model/MacAddress", name := "octets", desc := "()[B" } : Jvm.MethodName) prog_31_method_6_code (3 : Nat) (Option.some (Jvm.ClassFile.FieldType.array Jvm.ClassFile.FieldType.byte))).before args0 about1 = true := code_word (m := ⟨2, 1⟩) (meth := k2m1) (c := k2c1) (by decide +kernel) rfl rfl rfl (by decide +kernel)
def codes1 : List Jvm.Cond := [Jvm.Cond.code x code maxLocals ret, Jvm.Cond.code ({ cls := "com/example/watchful_controller/watchfulcontroller/model/MacAddress", name := "<init>", desc := "(J)V" } : Jvm.MethodName) prog_31_method_1_code (3 : Nat) (Option.none : Option Jvm.ClassFile.FieldType), Jvm.Cond.code ({ cls := "java/lang/Object", name := "<init>", desc := "()V" } : Jvm.MethodName) object_method_1_code (1 : Nat) (Option.none : Option Jvm.ClassFile.FieldType), Jvm.Cond.code ({ cls := "com/example/watchful_controller/watchfulcontroller/model/MacAddress", name := "octets", desc := "()[B" } : Jvm.MethodName) prog_31_method_6_code (3 : Nat) (Option.some (Jvm.ClassFile.FieldType.array Jvm.ClassFile.FieldType.byte))]
set_option maxRecDepth 65536 in
theorem codes_eq : words1.filter isCode = codes1 := rfl
theorem w_codes : ∀ c ∈ words1.filter isCode, c.before args0 about1 = true := by
  rw [codes_eq]
  intro c hc
  simp only [codes1, List.mem_cons, List.not_mem_nil, or_false] at hc
  rcases hc with rfl | rfl | rfl | rfl
  · exact w_c0
  · exact w_c1
  · exact w_c2
  · exact w_c3
set_option maxRecDepth 65536 in
theorem w_t1 : words1.all (fun c => isCode c || c.before args0 about1) = true := by decide +kernel
theorem w_tables : (allAtoms (Jvm.Cond.code x code maxLocals ret :: tables_1)).before args0 about1 = true := by
  rw [allAtoms_all]
  show words1.all (fun c => c.before args0 about1) = true
  refine all_split ?_ w_codes
  rw [w_t1]
set_option maxRecDepth 65536 in
theorem w_case : (Jvm.Cond.and given_1 narrow_1).before args0 about1 = true := by decide +kernel
theorem w_applies : (headSpec (Jvm.Cond.code x code maxLocals ret :: tables_1) room_1).applies x e0.platform about1 = true :=
  (Spec.applies_iff w_frames).mpr ⟨w_running, w_runnable, w_alone, w_named, w_hears, w_ripe, w_room, w_tables⟩
theorem atStart : AtStart classFile x code maxLocals ret World_1 tables_1 room_1 Calls_1 rest_1 Pre_1 launch0 p0 e0 about1 theMethod args0 below0 :=
  ⟨lists_1, trivial, launch0.admits_env _ _ _, launch0.least_env, fairChoices_fair.cas, fairChoices_fair.clock, w_frames, w_args, w_heap, w_applies, trivial, trivial, w_case⟩
end start1
theorem witness_1 : WitnessClaimed_1 := ⟨start1.p0, start1.e0, start1.about1, start1.theMethod, start1.args0, start1.below0, start1.atStart⟩
end Jvm.Pilot.@@N@@

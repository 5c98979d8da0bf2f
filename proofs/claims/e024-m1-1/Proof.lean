import JvmDerived
import JvmDerived.Pilot.@@N@@Statement
import JvmDerived.Pilot.@@N@@Code
set_option linter.unusedVariables false
set_option linter.unusedSimpArgs false
namespace Jvm.RoadKit
open Sem ClassFile Op Lib Jvm.Stand Jvm.Free Jvm.LawKit
section New
variable {p : Program} {l : Launch} {e : Env} {R : Room} {s : State} {m : MethodId} {args : Array Value} {below : List Frame} {meth : Method} {c : Code} {T : State} {locs : List Loc} {cells slots : Nat}
theorem retI (X : Stand p l e R s m args below meth c T locs cells slots) (hx : p.tables.exec = Jvm.exec) {pc : Nat} {Ls : Array Slot} {z : Int32} {rest : List Value} (hret : meth.sig.returnType = some .int) (hd : decode c.code pc = .ok (.ireturn, 1)) {fs : List Frame}
    (hl : ∀ (f : JFrame) (acts : List Action), f.method = m → f.locked = none → f.entered = [] → (doReturn e (T.setTop f) acts (some (.int z))).1 = T.setFrames fs) : Steps p.tables e below (T.setTop (mkF m pc Ls (.int z :: rest))) (T.setFrames fs) := by
  have hm' : T.vm.method? m = some meth := X.method'
  have hn : narrow .int (.int z) = .int z := rfl
  show Steps p.tables e below (T.setTop { method := m, pc := pc, locals := Ls, stack := _ :: rest, locked := none }) _
  jvm_step X.here [X.here.top, hx, hd, hm', hret, hn]
  first | (intro acts; rw [hl _ acts rfl rfl rfl]) | rw [hl _ _ rfl rfl rfl]
  exact Steps.refl _
end New
end Jvm.RoadKit
namespace Jvm.Pilot.@@N@@
open Jvm Jvm.ClassFile Sem Op Lib Jvm.Free Jvm.Stand Jvm.LawKit Jvm.RoadKit Bundle Jvm.Pilot.@@N@@.Jvm.D
abbrev own_md (a b : Int32) : Int32 := a % b
def own_px (y k : Int32) : Int32 := own_md (((y.toUInt32 >>> (k &&& 31).toUInt32).toInt32) &&& (3 : Int32)) (3 : Int32)
def own_max (a b : Int32) : Int32 := if a < b then b else a
def own_p3 (a b d : Int32) : Nat → Int32
  | 0 => a
  | 1 => b
  | _ => d
def own_ht (t : Int64) (f : Nat → Int32) : Nat → Nat → Int64 → Int64
  | 0, _, S => S
  | k + 1, i, S => own_ht t f k (i + 1) ((S + (f i).toInt64) * t)
theorem own_hts (t : Int64) (f : Nat → Int32) (k i : Nat) (S : Int64) : own_ht t f (k + 1) i S = own_ht t f k (i + 1) ((S + (f i).toInt64) * t) := rfl
theorem own_ht0 (t : Int64) (f : Nat → Int32) (i : Nat) (S : Int64) : own_ht t f 0 i S = S := rfl
def own_h (f : Nat → Int32) (k i : Nat) (S : Int64) : Int64 := own_ht (-7046029254386353131 : Int64) f k i S
theorem own_h0 (f : Nat → Int32) (i : Nat) (S : Int64) : own_h f 0 i S = S := own_ht0 _ f i S
def own_shard (H : Int64) (n : Int32) : Int32 := ((((((H.toUInt64 >>> ((32 : Int32) &&& 0x3f).toInt64.toUInt64).toInt64) * (n.toInt64)).toUInt64 >>> ((32 : Int32) &&& 0x3f).toInt64.toUInt64).toInt64).toInt32)
theorem own_hs (f : Nat → Int32) (k i : Nat) (S : Int64) : own_h f (k + 1) i S = own_h f k (i + 1) ((S + (f i).toInt64) * (-7046029254386353131 : Int64)) := own_hts _ f k i S
theorem own_px_in (y k : Int32) : ¬ own_px y k < 0 ∧ own_px y k < (3 : Int32) := by
  have h1 := c_mask ((y.toUInt32 >>> (k &&& 31).toUInt32).toInt32) (3 : Int32) 2 (by decide) (by decide)
  have h2 := (c_irem (((y.toUInt32 >>> (k &&& 31).toUInt32).toInt32) &&& (3 : Int32)) (3 : Int32) 3 (by decide)).1 (by rw [h1]; omega)
  have e0 : (0 : Int32).toInt = 0 := by decide
  have e3 : (3 : Int32).toInt = 3 := by decide
  unfold own_px
  rw [Int32.lt_iff_toInt_lt, Int32.lt_iff_toInt_lt, e0, e3, h2]
  omega
theorem own_max1 (y : Int32) : 1 ≤ (own_max (1 : Int32) y).toInt := by
  have e1 : (1 : Int32).toInt = 1 := by decide
  unfold own_max
  split
  · rename_i h
    rw [Int32.lt_iff_toInt_lt, e1] at h
    omega
  · rw [e1]; decide
theorem own_lt {i n : Nat} (h : i < n) (hn : n ≤ 255) : Int32.ofNat i < Int32.ofNat n := by
  rw [Int32.lt_iff_toInt_lt, Int32.toInt_ofNat_of_lt (by omega), Int32.toInt_ofNat_of_lt (by omega)]
  omega
theorem own_nn {n : Nat} (hn : n ≤ 255) : ¬ Int32.ofNat n < 0 := by
  rw [Int32.lt_iff_toInt_lt, Int32.toInt_ofNat_of_lt (by omega), show (0 : Int32).toInt = 0 from rfl]
  omega
theorem own_n32 {n : Nat} (hn : n ≤ 255) : (Int32.ofNat n).toNatClampNeg = n := by
  rw [Int32.toNatClampNeg, Int32.toInt_ofNat_of_lt (by omega)]; rfl
theorem own_one (i : Nat) : Int32.ofNat i + (1 : Int32) = Int32.ofNat (i + 1) := (Int32.ofNat_add i 1).symm
theorem own_fit {v : Value} (h : fits .int v = true) : ∃ w, v = .int w := by cases v <;> first | exact ⟨_, rfl⟩ | (simp [fits] at h)
theorem own_akeep {Z : State} {h h' : Heap} {a : Addr} {cl : Cell} {ty : FieldType} {ws : List Addr} (A : Arr Z h a cl ty) (K : Keep h h' ws) (q : a ∉ ws) : Arr Z h' a cl ty := ⟨K.2.1 a cl A.1 q, A.2⟩
theorem own_s2 : (-2358710677322311239 : Int64) = (-7046029254386353131 : Int64) * (-7046029254386353131 : Int64) := by decide +kernel
theorem own_s3 : (6938460308862072877 : Int64) = (-7046029254386353131 : Int64) * ((-7046029254386353131 : Int64) * (-7046029254386353131 : Int64)) := by decide +kernel
theorem own_h1 (f : Nat → Int32) (S : Int64) : (S * (-7046029254386353131 : Int64)) + ((f 0).toInt64 * (-7046029254386353131 : Int64)) = own_h f 1 0 S := by
  rw [own_hs, own_h0, Int64.add_mul]
theorem own_h2 (f : Nat → Int32) (S : Int64) : ((S * (-2358710677322311239 : Int64)) + ((f 0).toInt64 * (-2358710677322311239 : Int64))) + ((f 1).toInt64 * (-7046029254386353131 : Int64)) = own_h f 2 0 S := by
  rw [own_hs, own_hs, own_h0, own_s2]
  generalize (-7046029254386353131 : Int64) = t
  simp only [Int64.add_mul, Int64.mul_assoc]
theorem own_h3 (f : Nat → Int32) (S : Int64) : (((S * (6938460308862072877 : Int64)) + ((f 0).toInt64 * (6938460308862072877 : Int64))) + ((f 1).toInt64 * (-2358710677322311239 : Int64))) + ((f 2).toInt64 * (-7046029254386353131 : Int64)) = own_h f 3 0 S := by
  rw [own_hs, own_hs, own_hs, own_h0, own_s2, own_s3]
  generalize (-7046029254386353131 : Int64) = t
  simp only [Int64.add_mul, Int64.mul_assoc]
theorem own_up (H : Int64) : 0 ≤ ((H.toUInt64 >>> ((32 : Int32) &&& 0x3f).toInt64.toUInt64).toInt64).toInt ∧ ((H.toUInt64 >>> ((32 : Int32) &&& 0x3f).toInt64.toUInt64).toInt64).toInt < 4294967296 := by
  rw [c_lushr H (32 : Int32) 32 (by decide) (by decide)]
  omega
theorem own_prod (H : Int64) (n : Int32) (hn : 1 ≤ n.toInt) : ∃ P : Int, ((((H.toUInt64 >>> ((32 : Int32) &&& 0x3f).toInt64.toUInt64).toInt64) * (n.toInt64))).toInt = P ∧ 0 ≤ P ∧ P < 4294967296 * n.toInt := by
  have h1 := own_up H
  have h2 := c_lmul ((H.toUInt64 >>> ((32 : Int32) &&& 0x3f).toInt64.toUInt64).toInt64) (n.toInt64)
  have h3 := rng64 (((H.toUInt64 >>> ((32 : Int32) &&& 0x3f).toInt64.toUInt64).toInt64) * (n.toInt64))
  have h4 := rng32 n
  rw [c_i2l] at h2
  generalize ((H.toUInt64 >>> ((32 : Int32) &&& 0x3f).toInt64.toUInt64).toInt64) = u at *
  have h5 : 0 ≤ u.toInt * n.toInt := Int.mul_nonneg h1.1 (by omega)
  have h6 : u.toInt * n.toInt < 4294967296 * n.toInt := Int.mul_lt_mul_of_pos_right h1.2 (by omega)
  refine ⟨u.toInt * n.toInt, ?_, h5, h6⟩
  omega
theorem own_shI (H : Int64) (n : Int32) (hn : 1 ≤ n.toInt) : ∃ P : Int, ((((H.toUInt64 >>> ((32 : Int32) &&& 0x3f).toInt64.toUInt64).toInt64) * (n.toInt64))).toInt = P ∧ 0 ≤ P ∧ P < 4294967296 * n.toInt ∧ (own_shard H n).toInt = P / 4294967296 := by
  obtain ⟨P, h1, h2, h3⟩ := own_prod H n hn
  refine ⟨P, h1, h2, h3, ?_⟩
  have h4 := rng32 n
  unfold own_shard
  generalize ((((H.toUInt64 >>> ((32 : Int32) &&& 0x3f).toInt64.toUInt64).toInt64) * (n.toInt64))) = q at *
  have h5 := c_l2i ((q.toUInt64 >>> ((32 : Int32) &&& 0x3f).toInt64.toUInt64).toInt64)
  have h6 := rng32 (((q.toUInt64 >>> ((32 : Int32) &&& 0x3f).toInt64.toUInt64).toInt64).toInt32)
  rw [c_lushr q (32 : Int32) 32 (by decide) (by decide), h1] at h5
  omega
theorem own_r0 (H : Int64) (n : Int32) (hn : 1 ≤ n.toInt) : ¬ (own_shard H n < (0 : Int32)) := by
  obtain ⟨P, h1, h2, h3, h4⟩ := own_shI H n hn
  rw [Int32.lt_iff_toInt_lt, h4, show (0 : Int32).toInt = 0 by decide]
  omega
theorem own_r1 (H : Int64) (n : Int32) (hn : 1 ≤ n.toInt) : own_shard H n < n := by
  obtain ⟨P, h1, h2, h3, h4⟩ := own_shI H n hn
  rw [Int32.lt_iff_toInt_lt, h4]
  omega
theorem own_lo (H : Int64) (n : Int32) (hn : 1 ≤ n.toInt) : ¬ ((0 : Int32) < lcmpW (((own_shard H n).toInt64) <<< ((32 : Int32) &&& 0x3f).toInt64) (((H.toUInt64 >>> ((32 : Int32) &&& 0x3f).toInt64.toUInt64).toInt64) * (n.toInt64))) := by
  obtain ⟨P, h1, h2, h3, h4⟩ := own_shI H n hn
  have h5 := rng32 n
  rw [lw_gt, Int64.lt_iff_toInt_lt, h1]
  have h6 := c_lshl ((own_shard H n).toInt64) (32 : Int32) 32 (by decide)
  have h7 := rng64 (((own_shard H n).toInt64) <<< ((32 : Int32) &&& 0x3f).toInt64)
  rw [c_i2l, h4] at h6
  omega
theorem own_hi (H : Int64) (n : Int32) (hn : 1 ≤ n.toInt) : lcmpW (((H.toUInt64 >>> ((32 : Int32) &&& 0x3f).toInt64.toUInt64).toInt64) * (n.toInt64)) ((((own_shard H n).toInt64) + (1 : Int64)) <<< ((32 : Int32) &&& 0x3f).toInt64) < (0 : Int32) := by
  obtain ⟨P, h1, h2, h3, h4⟩ := own_shI H n hn
  have h5 := rng32 n
  rw [lw_lt, Int64.lt_iff_toInt_lt, h1]
  have h6 := c_lshl (((own_shard H n).toInt64) + (1 : Int64)) (32 : Int32) 32 (by decide)
  have h7 := rng64 ((((own_shard H n).toInt64) + (1 : Int64)) <<< ((32 : Int32) &&& 0x3f).toInt64)
  have h8 := c_ladd ((own_shard H n).toInt64) (1 : Int64)
  have h9 := rng64 (((own_shard H n).toInt64) + (1 : Int64))
  rw [c_i2l, h4, show (1 : Int64).toInt = 1 by decide] at h8
  omega
theorem d1_0 : decode jdk_29_method_65_code 0 = .ok (.iload_n 0, 1) := by decide +kernel
theorem d1_1 : decode jdk_29_method_65_code 1 = .ok (.iload_n 1, 1) := by decide +kernel
theorem d1_2 : decode jdk_29_method_65_code 2 = .ok (.if_icmp .lt 7, 3) := by decide +kernel
theorem d1_9 : decode jdk_29_method_65_code 9 = .ok (.iload_n 1, 1) := by decide +kernel
theorem d1_10 : decode jdk_29_method_65_code 10 = .ok (.ireturn, 1) := by decide +kernel
theorem ef_1 (m : MethodId) (x0 : Int32) (x1 : Int32) : entryFrame m #[(.int x0), (.int x1)] 2 = mkF m 0 #[.val (.int x0), .val (.int x1)] [] := by first | (simp [entryFrame, mkF, argsToLocals, Value.category]; done) | rfl
def Q1 (Z : State) (p1 : Int32) (p2 : Int32) (h0 : Heap) (n0 : Nat) (v : Option Value) (h : Heap) (L : List Loc) : Prop := v = some (.int (own_max p1 p2)) ∧ Fr n0 L ∧ h = h0
set_option maxRecDepth 65536 in
set_option maxHeartbeats 40000000 in
theorem rm1t (l : Launch) (Z : State) (a0 : Array Value) (hw : ∀ d ∈ tables_1, d.before a0 Z = true) (ws : List Jvm.Cond) (p1 : Int32) (p2 : Int32) (h0 : Heap) (n0 : Nat) (Z0 : n0 ≤ h0.size) (hc2 : p1 < p2) :
    MetFree l (⟨"java/lang/Math", "max", "(II)I"⟩ : MethodName) (head1 (Jvm.Cond.code (⟨"java/lang/Math", "max", "(II)I"⟩ : MethodName) jdk_29_method_65_code 2 (some .int) :: ws) ({ frames := 0, cells := 0, slots := 0, locals := 0 } : Room)) (fun a U => a = #[(.int p1), (.int p2)] ∧ Z.Warmed39 U.vm ∧ U.heap = h0) (fun _ _ _ _ _ => True) (fun _ U o U' => ∃ v L, o = .returned v ∧ Q1 Z p1 p2 h0 n0 v U'.heap L ∧ FrameEnd U o U' L ({ frames := 0, cells := 0, slots := 0, locals := 0 } : Room).cells ({ frames := 0, cells := 0, slots := 0, locals := 0 } : Room).slots) := by
  refine MetFree.of_bodySF (Jvm.Free.JP.mathPlain rfl (by decide +kernel)) hisR ?_
  intro p e s m args below meth c s₁ Bd hml0 hP hK
  obtain ⟨rfl, hZ, hh⟩ := hP
  have hx := Bd.exec
  have hby := Bd.bytes
  have hml : c.maxLocals = 2 := hml0
  have hown : s.vm.findClass "java/lang/Math" = some m.cls := findClass_of_methodNamed Bd.named
  have hnm := (name_of_methodNamed Bd.named Bd.method).1
  have X0 : Stand p l e ({ frames := 0, cells := 0, slots := 0, locals := 0 } : Room) s m #[(.int p1), (.int p2)] below meth c s₁ [] 0 0 := Stand.of_body Bd
  have e0 : s₁.heap = h0 := by rw [← hh, Bd.state]; rfl
  have N0 := Fr.nil n0
  have pre0 : ∀ t, Steps p.tables e below (s₁.setTop (mkF m 0 #[.val (.int p1), .val (.int p2)] [])) t → Steps p.tables e below (s₁.setTop (entryFrame m #[(.int p1), (.int p2)] 2)) t := fun t k => castTop (ef_1 m p1 p2) k
  obtain ⟨fs, hr, hrun, hended, hW, hsame⟩ := X0.leave (v := some (.int p2)) (fun h => by rw [Bd.returns] at h; cases h)
  refine ⟨_, _, pre0 _ ?_, hrun, hended, _, _, rfl, ?_, ⟨_, rfl⟩, hW, hsame.mono (by decide) (by decide)⟩
  · show Steps p.tables e below (s₁.setTop (mkF m 0 #[.val (.int p1), .val (.int p2)] [])) _
    refine XS.iloadN X0.here hx rfl (hb hby d1_0) rfl ?_
    show Steps p.tables e below (s₁.setTop (mkF m 1 #[.val (.int p1), .val (.int p2)] [(.int p1)])) _
    refine XS.iloadN X0.here hx rfl (hb hby d1_1) rfl ?_
    show Steps p.tables e below (s₁.setTop (mkF m 2 #[.val (.int p1), .val (.int p2)] [(.int p2), (.int p1)])) _
    refine XS.icmpYes X0.here hx rfl (pc0 := 2) (pc' := 9) rfl (hb hby d1_2) rfl (tlt hc2).1 (by decide) (by decide) ?_
    show Steps p.tables e below (s₁.setTop (mkF m 9 #[.val (.int p1), .val (.int p2)] [])) _
    refine XS.iloadN X0.here hx rfl (hb hby d1_9) rfl ?_
    show Steps p.tables e below (s₁.setTop (mkF m 10 #[.val (.int p1), .val (.int p2)] [(.int p2)])) _
    exact retI X0 hx Bd.returns (hb hby d1_10) hr
  · show Q1 Z p1 p2 h0 n0 _ s₁.heap _
    rw [e0]
    exact ⟨by rw [show own_max p1 p2 = p2 from if_pos hc2], N0, rfl⟩
theorem d1_5 : decode jdk_29_method_65_code 5 = .ok (.iload_n 0, 1) := by decide +kernel
theorem d1_6 : decode jdk_29_method_65_code 6 = .ok (.goto 4, 3) := by decide +kernel
set_option maxRecDepth 65536 in
set_option maxHeartbeats 40000000 in
theorem rm1f (l : Launch) (Z : State) (a0 : Array Value) (hw : ∀ d ∈ tables_1, d.before a0 Z = true) (ws : List Jvm.Cond) (p1 : Int32) (p2 : Int32) (h0 : Heap) (n0 : Nat) (Z0 : n0 ≤ h0.size) (hc2 : ¬ (p1 < p2)) :
    MetFree l (⟨"java/lang/Math", "max", "(II)I"⟩ : MethodName) (head1 (Jvm.Cond.code (⟨"java/lang/Math", "max", "(II)I"⟩ : MethodName) jdk_29_method_65_code 2 (some .int) :: ws) ({ frames := 0, cells := 0, slots := 0, locals := 0 } : Room)) (fun a U => a = #[(.int p1), (.int p2)] ∧ Z.Warmed39 U.vm ∧ U.heap = h0) (fun _ _ _ _ _ => True) (fun _ U o U' => ∃ v L, o = .returned v ∧ Q1 Z p1 p2 h0 n0 v U'.heap L ∧ FrameEnd U o U' L ({ frames := 0, cells := 0, slots := 0, locals := 0 } : Room).cells ({ frames := 0, cells := 0, slots := 0, locals := 0 } : Room).slots) := by
  refine MetFree.of_bodySF (Jvm.Free.JP.mathPlain rfl (by decide +kernel)) hisR ?_
  intro p e s m args below meth c s₁ Bd hml0 hP hK
  obtain ⟨rfl, hZ, hh⟩ := hP
  have hx := Bd.exec
  have hby := Bd.bytes
  have hml : c.maxLocals = 2 := hml0
  have hown : s.vm.findClass "java/lang/Math" = some m.cls := findClass_of_methodNamed Bd.named
  have hnm := (name_of_methodNamed Bd.named Bd.method).1
  have X0 : Stand p l e ({ frames := 0, cells := 0, slots := 0, locals := 0 } : Room) s m #[(.int p1), (.int p2)] below meth c s₁ [] 0 0 := Stand.of_body Bd
  have e0 : s₁.heap = h0 := by rw [← hh, Bd.state]; rfl
  have N0 := Fr.nil n0
  have pre0 : ∀ t, Steps p.tables e below (s₁.setTop (mkF m 0 #[.val (.int p1), .val (.int p2)] [])) t → Steps p.tables e below (s₁.setTop (entryFrame m #[(.int p1), (.int p2)] 2)) t := fun t k => castTop (ef_1 m p1 p2) k
  obtain ⟨fs, hr, hrun, hended, hW, hsame⟩ := X0.leave (v := some (.int p1)) (fun h => by rw [Bd.returns] at h; cases h)
  refine ⟨_, _, pre0 _ ?_, hrun, hended, _, _, rfl, ?_, ⟨_, rfl⟩, hW, hsame.mono (by decide) (by decide)⟩
  · show Steps p.tables e below (s₁.setTop (mkF m 0 #[.val (.int p1), .val (.int p2)] [])) _
    refine XS.iloadN X0.here hx rfl (hb hby d1_0) rfl ?_
    show Steps p.tables e below (s₁.setTop (mkF m 1 #[.val (.int p1), .val (.int p2)] [(.int p1)])) _
    refine XS.iloadN X0.here hx rfl (hb hby d1_1) rfl ?_
    show Steps p.tables e below (s₁.setTop (mkF m 2 #[.val (.int p1), .val (.int p2)] [(.int p2), (.int p1)])) _
    refine XS.icmpNo X0.here hx rfl (hb hby d1_2) rfl (flt hc2).1 ?_
    show Steps p.tables e below (s₁.setTop (mkF m 5 #[.val (.int p1), .val (.int p2)] [])) _
    refine XS.iloadN X0.here hx rfl (hb hby d1_5) rfl ?_
    show Steps p.tables e below (s₁.setTop (mkF m 6 #[.val (.int p1), .val (.int p2)] [(.int p1)])) _
    refine XS.goto X0.here hx rfl (pc0 := 6) (pc' := 10) rfl (hb hby d1_6) (by decide) (by decide) ?_
    show Steps p.tables e below (s₁.setTop (mkF m 10 #[.val (.int p1), .val (.int p2)] [(.int p1)])) _
    exact retI X0 hx Bd.returns (hb hby d1_10) hr
  · show Q1 Z p1 p2 h0 n0 _ s₁.heap _
    rw [e0]
    exact ⟨by rw [show own_max p1 p2 = p1 from if_neg hc2], N0, rfl⟩
set_option maxRecDepth 65536 in
set_option maxHeartbeats 40000000 in
theorem rm1 (l : Launch) (Z : State) (a0 : Array Value) (hw : ∀ d ∈ tables_1, d.before a0 Z = true) (ws : List Jvm.Cond) (p1 : Int32) (p2 : Int32) (h0 : Heap) (n0 : Nat) (Z0 : n0 ≤ h0.size) :
    MetFree l (⟨"java/lang/Math", "max", "(II)I"⟩ : MethodName) (head1 (Jvm.Cond.code (⟨"java/lang/Math", "max", "(II)I"⟩ : MethodName) jdk_29_method_65_code 2 (some .int) :: ws) ({ frames := 0, cells := 0, slots := 0, locals := 0 } : Room)) (fun a U => a = #[(.int p1), (.int p2)] ∧ Z.Warmed39 U.vm ∧ U.heap = h0) (fun _ _ _ _ _ => True) (fun _ U o U' => ∃ v L, o = .returned v ∧ Q1 Z p1 p2 h0 n0 v U'.heap L ∧ FrameEnd U o U' L ({ frames := 0, cells := 0, slots := 0, locals := 0 } : Room).cells ({ frames := 0, cells := 0, slots := 0, locals := 0 } : Room).slots) := by
  by_cases hc2 : p1 < p2
  · exact rm1t l Z a0 hw ws p1 p2 h0 n0 Z0 hc2
  · exact rm1f l Z a0 hw ws p1 p2 h0 n0 Z0 hc2
theorem d2_0 : decode prog_96_method_1_code 0 = .ok (.aload_n 0, 1) := by decide +kernel
theorem d2_1 : decode prog_96_method_1_code 1 = .ok (.invokespecial 3, 3) := by decide +kernel
theorem d2_4 : decode prog_96_method_1_code 4 = .ok (.aload_n 0, 1) := by decide +kernel
theorem d2_5 : decode prog_96_method_1_code 5 = .ok (.iload_n 1, 1) := by decide +kernel
theorem d2_6 : decode prog_96_method_1_code 6 = .ok (.putfield 9, 3) := by decide +kernel
theorem d2_9 : decode prog_96_method_1_code 9 = .ok (.aload_n 0, 1) := by decide +kernel
theorem d2_10 : decode prog_96_method_1_code 10 = .ok (.iload_n 2, 1) := by decide +kernel
theorem d2_11 : decode prog_96_method_1_code 11 = .ok (.putfield 15, 3) := by decide +kernel
theorem d2_14 : decode prog_96_method_1_code 14 = .ok (.aload_n 0, 1) := by decide +kernel
theorem d2_15 : decode prog_96_method_1_code 15 = .ok (.aload_n 3, 1) := by decide +kernel
theorem d2_16 : decode prog_96_method_1_code 16 = .ok (.putfield 18, 3) := by decide +kernel
theorem d2_19 : decode prog_96_method_1_code 19 = .ok (.return_, 1) := by decide +kernel
theorem pn_2 : plainName "org/stratalog/internal/engine/ShardedRelation$Picker" = true := by first | (simp [plainName, overriddenIn]; done) | decide +kernel
theorem ef_2 (m : MethodId) (x0 : Addr) (x1 : Int32) (x2 : Int32) (x3 : Addr) : entryFrame m #[(.ref x0), (.int x1), (.int x2), (.ref x3)] 4 = mkF m 0 #[.val (.ref x0), .val (.int x1), .val (.int x2), .val (.ref x3)] [] := by first | (simp [entryFrame, mkF, argsToLocals, Value.category]; done) | rfl
def Q2 (Z : State) (a1 : Addr) (p2 : Int32) (p3 : Int32) (a4 : Addr) (u_seed_a1 : Value) (u_count_a1 : Value) (u_places_a1 : Value) (h0 : Heap) (n0 : Nat) (v : Option Value) (h : Heap) (L : List Loc) : Prop := v = none ∧ Fr n0 L ∧ Keep h0 h [a1] ∧ Exa Z h a1 "org/stratalog/internal/engine/ShardedRelation$Picker" ∧ Fld Z h a1 "org/stratalog/internal/engine/ShardedRelation$Picker" "seed" "I" (.int p2) ∧ Fld Z h a1 "org/stratalog/internal/engine/ShardedRelation$Picker" "count" "I" (.int p3) ∧ Fld Z h a1 "org/stratalog/internal/engine/ShardedRelation$Picker" "places" "[I" (.ref a4)
set_option maxRecDepth 65536 in
set_option maxHeartbeats 40000000 in
theorem rm2 (l : Launch) (Z : State) (a0 : Array Value) (hw : ∀ d ∈ tables_1, d.before a0 Z = true) (ws : List Jvm.Cond) (a1 : Addr) (p2 : Int32) (p3 : Int32) (a4 : Addr) (u_seed_a1 : Value) (u_count_a1 : Value) (u_places_a1 : Value) (h0 : Heap) (n0 : Nat) (Z0 : n0 ≤ h0.size) (E_a1 : Exa Z h0 a1 "org/stratalog/internal/engine/ShardedRelation$Picker") (F_seed_a1 : Fld Z h0 a1 "org/stratalog/internal/engine/ShardedRelation$Picker" "seed" "I" u_seed_a1) (g_a1 : n0 ≤ a1) (F_count_a1 : Fld Z h0 a1 "org/stratalog/internal/engine/ShardedRelation$Picker" "count" "I" u_count_a1) (F_places_a1 : Fld Z h0 a1 "org/stratalog/internal/engine/ShardedRelation$Picker" "places" "[I" u_places_a1) :
    MetFree l (⟨"org/stratalog/internal/engine/ShardedRelation$Picker", "<init>", "(II[I)V"⟩ : MethodName) (head1 (Jvm.Cond.code (⟨"org/stratalog/internal/engine/ShardedRelation$Picker", "<init>", "(II[I)V"⟩ : MethodName) prog_96_method_1_code 4 none :: ws) ({ frames := 1, cells := 0, slots := 0, locals := 12 } : Room)) (fun a U => a = #[(.ref a1), (.int p2), (.int p3), (.ref a4)] ∧ Z.Warmed39 U.vm ∧ U.heap = h0) (fun _ _ _ _ _ => True) (fun _ U o U' => ∃ v L, o = .returned v ∧ Q2 Z a1 p2 p3 a4 u_seed_a1 u_count_a1 u_places_a1 h0 n0 v U'.heap L ∧ FrameEnd U o U' L ({ frames := 1, cells := 0, slots := 0, locals := 12 } : Room).cells ({ frames := 1, cells := 0, slots := 0, locals := 12 } : Room).slots) := by
  refine MetFree.of_bodySF (plainFor_of_name pn_2) hisR ?_
  intro p e s m args below meth c s₁ Bd hml0 hP hK
  obtain ⟨rfl, hZ, hh⟩ := hP
  have hx := Bd.exec
  have hby := Bd.bytes
  have hml : c.maxLocals = 4 := hml0
  have hown : s.vm.findClass "org/stratalog/internal/engine/ShardedRelation$Picker" = some m.cls := findClass_of_methodNamed Bd.named
  have hnm := (name_of_methodNamed Bd.named Bd.method).1
  have X0 : Stand p l e ({ frames := 1, cells := 0, slots := 0, locals := 12 } : Room) s m #[(.ref a1), (.int p2), (.int p3), (.ref a4)] below meth c s₁ [] 0 0 := Stand.of_body Bd
  have e0 : s₁.heap = h0 := by rw [← hh, Bd.state]; rfl
  have N0 := Fr.nil n0
  have pre0 : ∀ t, Steps p.tables e below (s₁.setTop (mkF m 0 #[.val (.ref a1), .val (.int p2), .val (.int p3), .val (.ref a4)] [])) t → Steps p.tables e below (s₁.setTop (entryFrame m #[(.ref a1), (.int p2), (.int p3), (.ref a4)] 4)) t := fun t k => castTop (ef_2 m a1 p2 p3 a4) k
  obtain ⟨T5, X5, e5, st5⟩ := initO X0 hx hZ hown (hw _ (List.mem_of_getElem? (i := 15) rfl)) (hw _ (List.mem_of_getElem? (i := 16) rfl)) (hw _ (List.mem_of_getElem? (i := 17) rfl)) e0 (g := (mkF m 1 #[.val (.ref a1), .val (.int p2), .val (.int p3), .val (.ref a4)] [(.ref a1)])) rfl (by rw [hml]; rfl) rfl (hb hby d2_1) (by decide) (W := 0) (by show 2 * 0 + _ ≤ _; exact Nat.le_of_eq rfl) (by decide)
  obtain ⟨T6, h6, X6, e6, W6, st6⟩ := putF X5 hx hZ hown (host := "") (Or.inl (hw _ (List.mem_of_getElem? (i := 18) rfl))) Via.refl e5 F_seed_a1 E_a1 (Or.inr ⟨(hw _ (List.mem_of_getElem? (i := 19) rfl)), rfl, hnm⟩) (hw _ (List.mem_of_getElem? (i := 10) rfl)) (ty := .int) (by decide) rfl rfl (g := (mkF m 6 #[.val (.ref a1), .val (.int p2), .val (.int p3), .val (.ref a4)] [(.int p2), (.ref a1)])) rfl rfl (hb hby d2_6)
  have Fw6 := F_seed_a1.same W6
  have K6 : Keep h0 h6 [a1] := (Keep.refl h0 [a1]).wr W6 (Or.inl (List.mem_of_getElem? (i := 0) rfl))
  have N6 := Fr.snoc X6 N0 g_a1
  obtain ⟨T7, h7, X7, e7, W7, st7⟩ := putF X6 hx hZ hown (host := "") (Or.inl (hw _ (List.mem_of_getElem? (i := 20) rfl))) Via.refl e6 (F_count_a1.other W6 (Or.inr (slot_ne (Or.inr (hw _ (List.mem_of_getElem? (i := 21) rfl))) (Or.inr (hw _ (List.mem_of_getElem? (i := 19) rfl))) (by decide) (t := .int) (t' := .int) (by decide) (by decide)))) (E_a1.wr W6) (Or.inr ⟨(hw _ (List.mem_of_getElem? (i := 21) rfl)), rfl, hnm⟩) (hw _ (List.mem_of_getElem? (i := 10) rfl)) (ty := .int) (by decide) rfl rfl (g := (mkF m 11 #[.val (.ref a1), .val (.int p2), .val (.int p3), .val (.ref a4)] [(.int p3), (.ref a1)])) rfl rfl (hb hby d2_11)
  have Fw7 := (F_count_a1.other W6 (Or.inr (slot_ne (Or.inr (hw _ (List.mem_of_getElem? (i := 21) rfl))) (Or.inr (hw _ (List.mem_of_getElem? (i := 19) rfl))) (by decide) (t := .int) (t' := .int) (by decide) (by decide)))).same W7
  have K7 : Keep h0 h7 [a1] := K6.wr W7 (Or.inl (List.mem_of_getElem? (i := 0) rfl))
  have N7 := Fr.snoc X7 N6 g_a1
  obtain ⟨T8, h8, X8, e8, W8, st8⟩ := putF X7 hx hZ hown (host := "") (Or.inl (hw _ (List.mem_of_getElem? (i := 22) rfl))) Via.refl e7 ((F_places_a1.other W6 (Or.inr (slot_ne (Or.inr (hw _ (List.mem_of_getElem? (i := 23) rfl))) (Or.inr (hw _ (List.mem_of_getElem? (i := 19) rfl))) (by decide) (t := (.array .int)) (t' := .int) (by decide) (by decide)))).other W7 (Or.inr (slot_ne (Or.inr (hw _ (List.mem_of_getElem? (i := 23) rfl))) (Or.inr (hw _ (List.mem_of_getElem? (i := 21) rfl))) (by decide) (t := (.array .int)) (t' := .int) (by decide) (by decide)))) ((E_a1.wr W6).wr W7) (Or.inr ⟨(hw _ (List.mem_of_getElem? (i := 23) rfl)), rfl, hnm⟩) (hw _ (List.mem_of_getElem? (i := 10) rfl)) (ty := (.array .int)) (by decide) rfl rfl (g := (mkF m 16 #[.val (.ref a1), .val (.int p2), .val (.int p3), .val (.ref a4)] [(.ref a4), (.ref a1)])) rfl rfl (hb hby d2_16)
  have Fw8 := ((F_places_a1.other W6 (Or.inr (slot_ne (Or.inr (hw _ (List.mem_of_getElem? (i := 23) rfl))) (Or.inr (hw _ (List.mem_of_getElem? (i := 19) rfl))) (by decide) (t := (.array .int)) (t' := .int) (by decide) (by decide)))).other W7 (Or.inr (slot_ne (Or.inr (hw _ (List.mem_of_getElem? (i := 23) rfl))) (Or.inr (hw _ (List.mem_of_getElem? (i := 21) rfl))) (by decide) (t := (.array .int)) (t' := .int) (by decide) (by decide)))).same W8
  have K8 : Keep h0 h8 [a1] := K7.wr W8 (Or.inl (List.mem_of_getElem? (i := 0) rfl))
  have N8 := Fr.snoc X8 N7 g_a1
  obtain ⟨fs, hr, hrun, hended, hW, hsame⟩ := X8.leave (v := none) (fun _ => rfl)
  refine ⟨_, _, pre0 _ ?_, hrun, hended, _, _, rfl, ?_, ⟨_, rfl⟩, hW, hsame.mono (by decide) (by decide)⟩
  · show Steps p.tables e below (s₁.setTop (mkF m 0 #[.val (.ref a1), .val (.int p2), .val (.int p3), .val (.ref a4)] [])) _
    refine XS.aloadN X0.here hx rfl (hb hby d2_0) rfl rfl ?_
    show Steps p.tables e below (s₁.setTop (mkF m 1 #[.val (.ref a1), .val (.int p2), .val (.int p3), .val (.ref a4)] [(.ref a1)])) _
    refine st5 _ ?_
    show Steps p.tables e below (T5.setTop (mkF m 4 #[.val (.ref a1), .val (.int p2), .val (.int p3), .val (.ref a4)] [])) _
    refine XS.aloadN X5.here hx rfl (hb hby d2_4) rfl rfl ?_
    show Steps p.tables e below (T5.setTop (mkF m 5 #[.val (.ref a1), .val (.int p2), .val (.int p3), .val (.ref a4)] [(.ref a1)])) _
    refine XS.iloadN X5.here hx rfl (hb hby d2_5) rfl ?_
    show Steps p.tables e below (T5.setTop (mkF m 6 #[.val (.ref a1), .val (.int p2), .val (.int p3), .val (.ref a4)] [(.int p2), (.ref a1)])) _
    refine st6 _ ?_
    show Steps p.tables e below (T6.setTop (mkF m 9 #[.val (.ref a1), .val (.int p2), .val (.int p3), .val (.ref a4)] [])) _
    refine XS.aloadN X6.here hx rfl (hb hby d2_9) rfl rfl ?_
    show Steps p.tables e below (T6.setTop (mkF m 10 #[.val (.ref a1), .val (.int p2), .val (.int p3), .val (.ref a4)] [(.ref a1)])) _
    refine XS.iloadN X6.here hx rfl (hb hby d2_10) rfl ?_
    show Steps p.tables e below (T6.setTop (mkF m 11 #[.val (.ref a1), .val (.int p2), .val (.int p3), .val (.ref a4)] [(.int p3), (.ref a1)])) _
    refine st7 _ ?_
    show Steps p.tables e below (T7.setTop (mkF m 14 #[.val (.ref a1), .val (.int p2), .val (.int p3), .val (.ref a4)] [])) _
    refine XS.aloadN X7.here hx rfl (hb hby d2_14) rfl rfl ?_
    show Steps p.tables e below (T7.setTop (mkF m 15 #[.val (.ref a1), .val (.int p2), .val (.int p3), .val (.ref a4)] [(.ref a1)])) _
    refine XS.aloadN X7.here hx rfl (hb hby d2_15) rfl rfl ?_
    show Steps p.tables e below (T7.setTop (mkF m 16 #[.val (.ref a1), .val (.int p2), .val (.int p3), .val (.ref a4)] [(.ref a4), (.ref a1)])) _
    refine st8 _ ?_
    show Steps p.tables e below (T8.setTop (mkF m 19 #[.val (.ref a1), .val (.int p2), .val (.int p3), .val (.ref a4)] [])) _
    exact X8.returnOut hx Bd.returns (hb hby d2_19) hr
  · show Q2 Z a1 p2 p3 a4 u_seed_a1 u_count_a1 u_places_a1 h0 n0 _ T8.heap _
    rw [e8]
    exact ⟨rfl, N8, K8, (((E_a1.wr W6).wr W7).wr W8), ((Fw6.other W7 (Or.inr (slot_ne (Or.inr (hw _ (List.mem_of_getElem? (i := 19) rfl))) (Or.inr (hw _ (List.mem_of_getElem? (i := 21) rfl))) (by decide) (t := .int) (t' := .int) (by decide) (by decide)))).other W8 (Or.inr (slot_ne (Or.inr (hw _ (List.mem_of_getElem? (i := 19) rfl))) (Or.inr (hw _ (List.mem_of_getElem? (i := 23) rfl))) (by decide) (t := .int) (t' := (.array .int)) (by decide) (by decide)))), (Fw7.other W8 (Or.inr (slot_ne (Or.inr (hw _ (List.mem_of_getElem? (i := 21) rfl))) (Or.inr (hw _ (List.mem_of_getElem? (i := 23) rfl))) (by decide) (t := .int) (t' := (.array .int)) (by decide) (by decide)))), Fw8⟩
theorem d4_20 : decode prog_96_method_2_code 20 = .ok (.iload 6, 2) := by decide +kernel
theorem d4_22 : decode prog_96_method_2_code 22 = .ok (.iload 5, 2) := by decide +kernel
theorem d4_24 : decode prog_96_method_2_code 24 = .ok (.if_icmp .ge 28, 3) := by decide +kernel
theorem d4_27 : decode prog_96_method_2_code 27 = .ok (.aload 4, 2) := by decide +kernel
theorem d4_29 : decode prog_96_method_2_code 29 = .ok (.iload 6, 2) := by decide +kernel
theorem d4_31 : decode prog_96_method_2_code 31 = .ok (.iaload, 1) := by decide +kernel
theorem d4_32 : decode prog_96_method_2_code 32 = .ok (.istore 7, 2) := by decide +kernel
theorem d4_34 : decode prog_96_method_2_code 34 = .ok (.lload_n 2, 1) := by decide +kernel
theorem d4_35 : decode prog_96_method_2_code 35 = .ok (.aload_n 1, 1) := by decide +kernel
theorem d4_36 : decode prog_96_method_2_code 36 = .ok (.iload 7, 2) := by decide +kernel
theorem d4_38 : decode prog_96_method_2_code 38 = .ok (.iaload, 1) := by decide +kernel
theorem d4_39 : decode prog_96_method_2_code 39 = .ok (.i2l, 1) := by decide +kernel
theorem d4_40 : decode prog_96_method_2_code 40 = .ok (.ladd, 1) := by decide +kernel
theorem d4_41 : decode prog_96_method_2_code 41 = .ok (.ldc2_w 22, 3) := by decide +kernel
theorem d4_44 : decode prog_96_method_2_code 44 = .ok (.lmul, 1) := by decide +kernel
theorem d4_45 : decode prog_96_method_2_code 45 = .ok (.lstore_n 2, 1) := by decide +kernel
theorem d4_46 : decode prog_96_method_2_code 46 = .ok (.iinc 6 1, 3) := by decide +kernel
theorem d4_49 : decode prog_96_method_2_code 49 = .ok (.goto (-29), 3) := by decide +kernel
theorem os4_32 {s0 : Slot} {z1 : Value} {z2 : Value} {z4 : Value} {z5 : Value} {z6 : Value} {s7 : Slot} {v : Int32} (h : One s7) : storeLocals #[s0, .val z1, .val z2, .second, .val z4, .val z5, .val z6, s7] 7 (.int v) = some #[s0, .val z1, .val z2, .second, .val z4, .val z5, .val z6, .val (.int v)] := by
  rcases h with rfl | ⟨w, rfl, hw⟩
  · rfl
  · cases w <;> first | rfl | (simp [Value.category] at hw)
set_option maxRecDepth 65536 in
set_option maxHeartbeats 40000000 in
theorem tn4_20_20 {p : Program} {l : Launch} {e : Env} {R : Room} {s : State} {m : MethodId} {args : Array Value} {below : List Frame} {meth : Method} {c : Code} {T0 : State} {locs : List Loc} {cells slots : Nat} {Z : State} {a0 : Array Value} {h0 : Heap} (s0 : Slot) (o1 : Addr) (j2 : Int64) (o4 : Addr) (i5 : Int32) (i6 : Int32) (s7 : Slot) (w3 : Int32) (cl_o4 : Cell) (w4 : Int32) (cl_o1 : Cell)
    (X0 : Stand p l e R s m args below meth c T0 locs cells slots) (hx : p.tables.exec = Jvm.exec) (hZ : Z.Warmed39 s.vm) (hw : ∀ d ∈ tables_1, d.before a0 Z = true) (hby : c.code = prog_96_method_2_code) (hml : c.maxLocals = 8) (hown : s.vm.findClass "org/stratalog/internal/engine/ShardedRelation$Picker" = some m.cls) (e0 : T0.heap = h0) (Ar_o4 : Arr Z h0 o4 cl_o4 .int) (hin31 : ¬ (i6 < 0 ∨ cl_o4.slots.size ≤ (i6).toNatClampNeg)) (hat31 : cl_o4.slots[(i6).toNatClampNeg]? = some (.int w3)) (hs7 : One s7) (Ar_o1 : Arr Z h0 o1 cl_o1 .int) (hin38 : ¬ (w3 < 0 ∨ cl_o1.slots.size ≤ (w3).toNatClampNeg)) (hat38 : cl_o1.slots[(w3).toNatClampNeg]? = some (.int w4)) (hc24 : i6 < i5) :
    ∃ (T' : State), Stand p l e R s m args below meth c T' locs cells slots ∧ T'.heap = h0 ∧
      ∀ target, Steps p.tables e below (T'.setTop (mkF m 20 #[s0, .val (.ref o1), .val (.long ((j2 + (w4.toInt64)) * (-7046029254386353131 : Int64))), .second, .val (.ref o4), .val (.int i5), .val (.int (i6 + (1 : Int32))), .val (.int w3)] [])) target → Steps p.tables e below (T0.setTop (mkF m 20 #[s0, .val (.ref o1), .val (.long j2), .second, .val (.ref o4), .val (.int i5), .val (.int i6), s7] [])) target := by
  refine ⟨T0, X0, e0, fun target kt => ?_⟩
  show Steps p.tables e below (T0.setTop (mkF m 20 #[s0, .val (.ref o1), .val (.long j2), .second, .val (.ref o4), .val (.int i5), .val (.int i6), s7] [])) _
  refine XS.iload X0.here hx rfl (hb hby d4_20) rfl ?_
  show Steps p.tables e below (T0.setTop (mkF m 22 #[s0, .val (.ref o1), .val (.long j2), .second, .val (.ref o4), .val (.int i5), .val (.int i6), s7] [(.int i6)])) _
  refine XS.iload X0.here hx rfl (hb hby d4_22) rfl ?_
  show Steps p.tables e below (T0.setTop (mkF m 24 #[s0, .val (.ref o1), .val (.long j2), .second, .val (.ref o4), .val (.int i5), .val (.int i6), s7] [(.int i5), (.int i6)])) _
  refine XS.icmpNo X0.here hx rfl (hb hby d4_24) rfl (tlt hc24).2.1 ?_
  show Steps p.tables e below (T0.setTop (mkF m 27 #[s0, .val (.ref o1), .val (.long j2), .second, .val (.ref o4), .val (.int i5), .val (.int i6), s7] [])) _
  refine XS.aload X0.here hx rfl (hb hby d4_27) rfl rfl ?_
  show Steps p.tables e below (T0.setTop (mkF m 29 #[s0, .val (.ref o1), .val (.long j2), .second, .val (.ref o4), .val (.int i5), .val (.int i6), s7] [(.ref o4)])) _
  refine XS.iload X0.here hx rfl (hb hby d4_29) rfl ?_
  show Steps p.tables e below (T0.setTop (mkF m 31 #[s0, .val (.ref o1), .val (.long j2), .second, .val (.ref o4), .val (.int i5), .val (.int i6), s7] [(.int i6), (.ref o4)])) _
  refine X0.iaload hx (j := i6) (v := (.int w3)) (by rw [e0]; exact Ar_o4.1) (State.isArrayOf_alike hZ.alike Ar_o4.2.1) Ar_o4.2.2 hin31 hat31 (g := (mkF m 31 #[s0, .val (.ref o1), .val (.long j2), .second, .val (.ref o4), .val (.int i5), .val (.int i6), s7] [(.int i6), (.ref o4)])) rfl rfl (hb hby d4_31) _ ?_
  show Steps p.tables e below (T0.setTop (mkF m 32 #[s0, .val (.ref o1), .val (.long j2), .second, .val (.ref o4), .val (.int i5), .val (.int i6), s7] [(.int w3)])) _
  refine XS.istore X0.here hx rfl (hb hby d4_32) rfl (l' := #[s0, .val (.ref o1), .val (.long j2), .second, .val (.ref o4), .val (.int i5), .val (.int i6), .val (.int w3)]) (os4_32 hs7) ?_
  show Steps p.tables e below (T0.setTop (mkF m 34 #[s0, .val (.ref o1), .val (.long j2), .second, .val (.ref o4), .val (.int i5), .val (.int i6), .val (.int w3)] [])) _
  refine XS.lloadN X0.here hx rfl (hb hby d4_34) rfl ?_
  show Steps p.tables e below (T0.setTop (mkF m 35 #[s0, .val (.ref o1), .val (.long j2), .second, .val (.ref o4), .val (.int i5), .val (.int i6), .val (.int w3)] [(.long j2)])) _
  refine XS.aloadN X0.here hx rfl (hb hby d4_35) rfl rfl ?_
  show Steps p.tables e below (T0.setTop (mkF m 36 #[s0, .val (.ref o1), .val (.long j2), .second, .val (.ref o4), .val (.int i5), .val (.int i6), .val (.int w3)] [(.ref o1), (.long j2)])) _
  refine XS.iload X0.here hx rfl (hb hby d4_36) rfl ?_
  show Steps p.tables e below (T0.setTop (mkF m 38 #[s0, .val (.ref o1), .val (.long j2), .second, .val (.ref o4), .val (.int i5), .val (.int i6), .val (.int w3)] [(.int w3), (.ref o1), (.long j2)])) _
  refine X0.iaload hx (j := w3) (v := (.int w4)) (by rw [e0]; exact Ar_o1.1) (State.isArrayOf_alike hZ.alike Ar_o1.2.1) Ar_o1.2.2 hin38 hat38 (g := (mkF m 38 #[s0, .val (.ref o1), .val (.long j2), .second, .val (.ref o4), .val (.int i5), .val (.int i6), .val (.int w3)] [(.int w3), (.ref o1), (.long j2)])) rfl rfl (hb hby d4_38) _ ?_
  show Steps p.tables e below (T0.setTop (mkF m 39 #[s0, .val (.ref o1), .val (.long j2), .second, .val (.ref o4), .val (.int i5), .val (.int i6), .val (.int w3)] [(.int w4), (.long j2)])) _
  refine XS.i2l X0.here hx rfl (hb hby d4_39) rfl ?_
  show Steps p.tables e below (T0.setTop (mkF m 40 #[s0, .val (.ref o1), .val (.long j2), .second, .val (.ref o4), .val (.int i5), .val (.int i6), .val (.int w3)] [(.long (w4.toInt64)), (.long j2)])) _
  refine XS.ladd X0.here hx rfl (hb hby d4_40) rfl ?_
  show Steps p.tables e below (T0.setTop (mkF m 41 #[s0, .val (.ref o1), .val (.long j2), .second, .val (.ref o4), .val (.int i5), .val (.int i6), .val (.int w3)] [(.long (j2 + (w4.toInt64)))])) _
  refine X0.ldc2Long hx hown (mvT hZ (hw _ (List.mem_of_getElem? (i := 29) rfl))) (g := (mkF m 41 #[s0, .val (.ref o1), .val (.long j2), .second, .val (.ref o4), .val (.int i5), .val (.int i6), .val (.int w3)] [(.long (j2 + (w4.toInt64)))])) rfl (hb hby d4_41) _ ?_
  show Steps p.tables e below (T0.setTop (mkF m 44 #[s0, .val (.ref o1), .val (.long j2), .second, .val (.ref o4), .val (.int i5), .val (.int i6), .val (.int w3)] [(.long (-7046029254386353131 : Int64)), (.long (j2 + (w4.toInt64)))])) _
  refine XS.lmul X0.here hx rfl (hb hby d4_44) rfl ?_
  show Steps p.tables e below (T0.setTop (mkF m 45 #[s0, .val (.ref o1), .val (.long j2), .second, .val (.ref o4), .val (.int i5), .val (.int i6), .val (.int w3)] [(.long ((j2 + (w4.toInt64)) * (-7046029254386353131 : Int64)))])) _
  refine XS.lstoreN X0.here hx rfl (hb hby d4_45) rfl (l' := #[s0, .val (.ref o1), .val (.long ((j2 + (w4.toInt64)) * (-7046029254386353131 : Int64))), .second, .val (.ref o4), .val (.int i5), .val (.int i6), .val (.int w3)]) rfl ?_
  show Steps p.tables e below (T0.setTop (mkF m 46 #[s0, .val (.ref o1), .val (.long ((j2 + (w4.toInt64)) * (-7046029254386353131 : Int64))), .second, .val (.ref o4), .val (.int i5), .val (.int i6), .val (.int w3)] [])) _
  refine XS.iinc X0.here hx rfl (hb hby d4_46) rfl (l' := #[s0, .val (.ref o1), .val (.long ((j2 + (w4.toInt64)) * (-7046029254386353131 : Int64))), .second, .val (.ref o4), .val (.int i5), .val (.int (i6 + (1 : Int32))), .val (.int w3)]) rfl ?_
  show Steps p.tables e below (T0.setTop (mkF m 49 #[s0, .val (.ref o1), .val (.long ((j2 + (w4.toInt64)) * (-7046029254386353131 : Int64))), .second, .val (.ref o4), .val (.int i5), .val (.int (i6 + (1 : Int32))), .val (.int w3)] [])) _
  refine XS.goto X0.here hx rfl (pc0 := 49) (pc' := 20) rfl (hb hby d4_49) (by decide) (by decide) ?_
  exact kt
set_option maxRecDepth 65536 in
set_option maxHeartbeats 40000000 in
theorem tn4_20_52 {p : Program} {l : Launch} {e : Env} {R : Room} {s : State} {m : MethodId} {args : Array Value} {below : List Frame} {meth : Method} {c : Code} {T0 : State} {locs : List Loc} {cells slots : Nat} {Z : State} {a0 : Array Value} {h0 : Heap} (s0 : Slot) (s1 : Slot) (s2 : Slot) (s3 : Slot) (s4 : Slot) (i5 : Int32) (i6 : Int32) (s7 : Slot)
    (X0 : Stand p l e R s m args below meth c T0 locs cells slots) (hx : p.tables.exec = Jvm.exec) (hZ : Z.Warmed39 s.vm) (hw : ∀ d ∈ tables_1, d.before a0 Z = true) (hby : c.code = prog_96_method_2_code) (hml : c.maxLocals = 8) (hown : s.vm.findClass "org/stratalog/internal/engine/ShardedRelation$Picker" = some m.cls) (e0 : T0.heap = h0) (hc24 : ¬ (i6 < i5)) :
    ∃ (T' : State), Stand p l e R s m args below meth c T' locs cells slots ∧ T'.heap = h0 ∧
      ∀ target, Steps p.tables e below (T'.setTop (mkF m 52 #[s0, s1, s2, s3, s4, .val (.int i5), .val (.int i6), s7] [])) target → Steps p.tables e below (T0.setTop (mkF m 20 #[s0, s1, s2, s3, s4, .val (.int i5), .val (.int i6), s7] [])) target := by
  refine ⟨T0, X0, e0, fun target kt => ?_⟩
  show Steps p.tables e below (T0.setTop (mkF m 20 #[s0, s1, s2, s3, s4, .val (.int i5), .val (.int i6), s7] [])) _
  refine XS.iload X0.here hx rfl (hb hby d4_20) rfl ?_
  show Steps p.tables e below (T0.setTop (mkF m 22 #[s0, s1, s2, s3, s4, .val (.int i5), .val (.int i6), s7] [(.int i6)])) _
  refine XS.iload X0.here hx rfl (hb hby d4_22) rfl ?_
  show Steps p.tables e below (T0.setTop (mkF m 24 #[s0, s1, s2, s3, s4, .val (.int i5), .val (.int i6), s7] [(.int i5), (.int i6)])) _
  refine XS.icmpYes X0.here hx rfl (pc0 := 24) (pc' := 52) rfl (hb hby d4_24) rfl (flt hc24).2.1 (by decide) (by decide) ?_
  exact kt
theorem loop4 {p : Program} {l : Launch} {e : Env} {s : State} {m : MethodId} {args : Array Value} {below : List Frame} {meth : Method} {c : Code} {R : Room} {locs : List Loc} {cells slots : Nat} {Z : State} {a0 : Array Value} {h0 : Heap} (s0 : Slot) (o1 o4 : Addr) (n : Nat) (hn : n ≤ 255) (pl vl : Nat → Int32) (hx : p.tables.exec = Jvm.exec) (hZ : Z.Warmed39 s.vm) (hw : ∀ d ∈ tables_1, d.before a0 Z = true) (hby : c.code = prog_96_method_2_code) (hml : c.maxLocals = 8) (hown : s.vm.findClass "org/stratalog/internal/engine/ShardedRelation$Picker" = some m.cls) (cl_o4 cl_o1 : Cell) (Ar_o4 : Arr Z h0 o4 cl_o4 .int) (S_o4 : cl_o4.slots.size = (Int32.ofNat n).toNatClampNeg) (hpl : ∀ j, j < n → cl_o4.slots[j]? = some (.int (pl j))) (Ar_o1 : Arr Z h0 o1 cl_o1 .int) (hvi : ∀ j, j < n → ¬ (pl j < 0 ∨ cl_o1.slots.size ≤ (pl j).toNatClampNeg)) (hvl : ∀ j, j < n → cl_o1.slots[(pl j).toNatClampNeg]? = some (.int (vl j))) :
    ∀ (k i : Nat) (S : Int64) (s7 : Slot) (T0 : State), i + k = n → One s7 → Stand p l e R s m args below meth c T0 locs cells slots → T0.heap = h0 →
      ∃ (T' : State) (s7' : Slot), Stand p l e R s m args below meth c T' locs cells slots ∧ T'.heap = h0 ∧
        ∀ target, Steps p.tables e below (T'.setTop (mkF m 52 #[s0, .val (.ref o1), .val (.long (own_h vl k i S)), .second, .val (.ref o4), .val (.int (Int32.ofNat n)), .val (.int (Int32.ofNat n)), s7'] [])) target → Steps p.tables e below (T0.setTop (mkF m 20 #[s0, .val (.ref o1), .val (.long S), .second, .val (.ref o4), .val (.int (Int32.ofNat n)), .val (.int (Int32.ofNat i)), s7] [])) target := by
  intro k
  induction k with
  | zero =>
    intro i S s7 T0 hi h7 X0 e0
    have hi' : i = n := by omega
    rw [hi']
    obtain ⟨T', X', e', st⟩ := tn4_20_52 s0 (.val (.ref o1)) (.val (.long S)) .second (.val (.ref o4)) (Int32.ofNat n) (Int32.ofNat n) s7 X0 hx hZ hw hby hml hown e0 Int32.lt_irrefl
    refine ⟨T', s7, X', e', fun target h => st target ?_⟩
    rw [own_h0] at h
    exact h
  | succ k ih =>
    intro i S s7 T0 hi h7 X0 e0
    have hin : ¬ (Int32.ofNat i < 0 ∨ cl_o4.slots.size ≤ (Int32.ofNat i).toNatClampNeg) := by
      rw [S_o4, own_n32 hn, own_n32 (by omega)]
      exact fun q => q.elim (own_nn (by omega)) (fun q => by omega)
    have hai : cl_o4.slots[(Int32.ofNat i).toNatClampNeg]? = some (.int (pl i)) := by rw [own_n32 (by omega)]; exact hpl i (by omega)
    obtain ⟨T1, X1, e1, st1⟩ := tn4_20_20 s0 o1 S o4 (Int32.ofNat n) (Int32.ofNat i) s7 (pl i) cl_o4 (vl i) cl_o1 X0 hx hZ hw hby hml hown e0 Ar_o4 hin hai h7 Ar_o1 (hvi i (by omega)) (hvl i (by omega)) (own_lt (by omega) hn)
    obtain ⟨T', s7', X', e', st⟩ := ih (i + 1) ((S + (vl i).toInt64) * (-7046029254386353131 : Int64)) (.val (.int (pl i))) T1 (by omega) (One.val rfl) X1 e1
    refine ⟨T', s7', X', e', fun target h => st1 target ?_⟩
    rw [own_hs] at h
    rw [own_one]
    exact st target h
theorem d4_0 : decode prog_96_method_2_code 0 = .ok (.aload_n 0, 1) := by decide +kernel
theorem d4_1 : decode prog_96_method_2_code 1 = .ok (.getfield 9, 3) := by decide +kernel
theorem d4_4 : decode prog_96_method_2_code 4 = .ok (.i2l, 1) := by decide +kernel
theorem d4_5 : decode prog_96_method_2_code 5 = .ok (.lstore_n 2, 1) := by decide +kernel
theorem d4_6 : decode prog_96_method_2_code 6 = .ok (.aload_n 0, 1) := by decide +kernel
theorem d4_7 : decode prog_96_method_2_code 7 = .ok (.getfield 18, 3) := by decide +kernel
theorem d4_10 : decode prog_96_method_2_code 10 = .ok (.astore 4, 2) := by decide +kernel
theorem d4_12 : decode prog_96_method_2_code 12 = .ok (.aload 4, 2) := by decide +kernel
theorem d4_14 : decode prog_96_method_2_code 14 = .ok (.arraylength, 1) := by decide +kernel
theorem d4_15 : decode prog_96_method_2_code 15 = .ok (.istore 5, 2) := by decide +kernel
theorem d4_17 : decode prog_96_method_2_code 17 = .ok (.iconst 0, 1) := by decide +kernel
theorem d4_18 : decode prog_96_method_2_code 18 = .ok (.istore 6, 2) := by decide +kernel
theorem d4_52 : decode prog_96_method_2_code 52 = .ok (.lload_n 2, 1) := by decide +kernel
theorem d4_53 : decode prog_96_method_2_code 53 = .ok (.bipush 32, 2) := by decide +kernel
theorem d4_55 : decode prog_96_method_2_code 55 = .ok (.lushr, 1) := by decide +kernel
theorem d4_56 : decode prog_96_method_2_code 56 = .ok (.aload_n 0, 1) := by decide +kernel
theorem d4_57 : decode prog_96_method_2_code 57 = .ok (.getfield 15, 3) := by decide +kernel
theorem d4_60 : decode prog_96_method_2_code 60 = .ok (.i2l, 1) := by decide +kernel
theorem d4_61 : decode prog_96_method_2_code 61 = .ok (.lmul, 1) := by decide +kernel
theorem d4_62 : decode prog_96_method_2_code 62 = .ok (.bipush 32, 2) := by decide +kernel
theorem d4_64 : decode prog_96_method_2_code 64 = .ok (.lushr, 1) := by decide +kernel
theorem d4_65 : decode prog_96_method_2_code 65 = .ok (.l2i, 1) := by decide +kernel
theorem d4_66 : decode prog_96_method_2_code 66 = .ok (.ireturn, 1) := by decide +kernel
theorem pn_4 : plainName "org/stratalog/internal/engine/ShardedRelation$Picker" = true := by first | (simp [plainName, overriddenIn]; done) | decide +kernel
theorem ef_4 (m : MethodId) (x0 : Addr) (x1 : Addr) : entryFrame m #[(.ref x0), (.ref x1)] 8 = mkF m 0 #[.val (.ref x0), .val (.ref x1), .unset, .unset, .unset, .unset, .unset, .unset] [] := by first | (simp [entryFrame, mkF, argsToLocals, Value.category]; done) | rfl
def Q4 (Z : State) (a1 : Addr) (a2 : Addr) (w3 : Int32) (w5 : Addr) (cl_w5 : Cell) (n : Nat) (cl_a2 : Cell) (pl vl : Nat → Int32) (H : Int64) (w7 : Int32) (h0 : Heap) (n0 : Nat) (v : Option Value) (h : Heap) (L : List Loc) : Prop := v = some (.int (own_shard H w7)) ∧ Fr n0 L ∧ h = h0
set_option maxRecDepth 65536 in
set_option maxHeartbeats 40000000 in
theorem rm4 (l : Launch) (Z : State) (a0 : Array Value) (hw : ∀ d ∈ tables_1, d.before a0 Z = true) (ws : List Jvm.Cond) (a1 : Addr) (a2 : Addr) (w3 : Int32) (w5 : Addr) (cl_w5 : Cell) (n : Nat) (cl_a2 : Cell) (pl vl : Nat → Int32) (H : Int64) (w7 : Int32) (h0 : Heap) (n0 : Nat) (Z0 : n0 ≤ h0.size) (F_seed_a1 : Fld Z h0 a1 "org/stratalog/internal/engine/ShardedRelation$Picker" "seed" "I" (.int w3)) (F_places_a1 : Fld Z h0 a1 "org/stratalog/internal/engine/ShardedRelation$Picker" "places" "[I" (.ref w5)) (Ar_w5 : Arr Z h0 w5 cl_w5 .int) (S_w5 : cl_w5.slots.size = (Int32.ofNat n).toNatClampNeg) (N_w5 : ¬ (Int32.ofNat n) < 0) (hn : n ≤ 255) (hpl : ∀ j, j < n → cl_w5.slots[j]? = some (.int (pl j))) (Ar_a2 : Arr Z h0 a2 cl_a2 .int) (hvi : ∀ j, j < n → ¬ (pl j < 0 ∨ cl_a2.slots.size ≤ (pl j).toNatClampNeg)) (hvl : ∀ j, j < n → cl_a2.slots[(pl j).toNatClampNeg]? = some (.int (vl j))) (hH : H = own_h vl n 0 w3.toInt64) (F_count_a1 : Fld Z h0 a1 "org/stratalog/internal/engine/ShardedRelation$Picker" "count" "I" (.int w7)) :
    MetFree l (⟨"org/stratalog/internal/engine/ShardedRelation$Picker", "shardOf", "([I)I"⟩ : MethodName) (head1 (Jvm.Cond.code (⟨"org/stratalog/internal/engine/ShardedRelation$Picker", "shardOf", "([I)I"⟩ : MethodName) prog_96_method_2_code 8 (some .int) :: ws) ({ frames := 0, cells := 0, slots := 0, locals := 0 } : Room)) (fun a U => a = #[(.ref a1), (.ref a2)] ∧ Z.Warmed39 U.vm ∧ U.heap = h0) (fun _ _ _ _ _ => True) (fun _ U o U' => ∃ v L, o = .returned v ∧ Q4 Z a1 a2 w3 w5 cl_w5 n cl_a2 pl vl H w7 h0 n0 v U'.heap L ∧ FrameEnd U o U' L ({ frames := 0, cells := 0, slots := 0, locals := 0 } : Room).cells ({ frames := 0, cells := 0, slots := 0, locals := 0 } : Room).slots) := by
  refine MetFree.of_bodySF (plainFor_of_name pn_4) hisR ?_
  intro p e s m args below meth c s₁ Bd hml0 hP hK
  obtain ⟨rfl, hZ, hh⟩ := hP
  have hx := Bd.exec
  have hby := Bd.bytes
  have hml : c.maxLocals = 8 := hml0
  have hown : s.vm.findClass "org/stratalog/internal/engine/ShardedRelation$Picker" = some m.cls := findClass_of_methodNamed Bd.named
  have hnm := (name_of_methodNamed Bd.named Bd.method).1
  have X0 : Stand p l e ({ frames := 0, cells := 0, slots := 0, locals := 0 } : Room) s m #[(.ref a1), (.ref a2)] below meth c s₁ [] 0 0 := Stand.of_body Bd
  have e0 : s₁.heap = h0 := by rw [← hh, Bd.state]; rfl
  have N0 := Fr.nil n0
  have pre0 : ∀ t, Steps p.tables e below (s₁.setTop (mkF m 0 #[.val (.ref a1), .val (.ref a2), .unset, .unset, .unset, .unset, .unset, .unset] [])) t → Steps p.tables e below (s₁.setTop (entryFrame m #[(.ref a1), (.ref a2)] 8)) t := fun t k => castTop (ef_4 m a1 a2) k
  obtain ⟨T4, X4, e4, st4⟩ := getF X0 hx hZ hown (host := "") (Or.inl (hw _ (List.mem_of_getElem? (i := 18) rfl))) Via.refl e0 F_seed_a1 (g := (mkF m 1 #[.val (.ref a1), .val (.ref a2), .unset, .unset, .unset, .unset, .unset, .unset] [(.ref a1)])) rfl rfl (hb hby d4_1)
  obtain ⟨T6, X6, e6, st6⟩ := getF X4 hx hZ hown (host := "") (Or.inl (hw _ (List.mem_of_getElem? (i := 22) rfl))) Via.refl e4 F_places_a1 (g := (mkF m 7 #[.val (.ref a1), .val (.ref a2), .val (.long (w3.toInt64)), .second, .unset, .unset, .unset, .unset] [(.ref a1)])) rfl rfl (hb hby d4_7)
  obtain ⟨TL, sL, XL, eL, stL⟩ := loop4 (.val (.ref a1)) a2 w5 n hn pl vl hx hZ hw hby hml hown cl_w5 cl_a2 Ar_w5 S_w5 hpl Ar_a2 hvi hvl n 0 w3.toInt64 .unset T6 (by omega) One.u X6 e6
  rw [← hH] at stL
  obtain ⟨T8, X8, e8, st8⟩ := getF XL hx hZ hown (host := "") (Or.inl (hw _ (List.mem_of_getElem? (i := 20) rfl))) Via.refl eL F_count_a1 (g := (mkF m 57 #[.val (.ref a1), .val (.ref a2), .val (.long H), .second, .val (.ref w5), .val (.int (Int32.ofNat n)), .val (.int (Int32.ofNat n)), sL] [(.ref a1), (.long ((H.toUInt64 >>> ((32 : Int32) &&& 0x3f).toInt64.toUInt64).toInt64))])) rfl rfl (hb hby d4_57)
  obtain ⟨fs, hr, hrun, hended, hW, hsame⟩ := X8.leave (v := some (.int (own_shard H w7))) (fun h => by rw [Bd.returns] at h; cases h)
  refine ⟨_, _, pre0 _ ?_, hrun, hended, _, _, rfl, ?_, ⟨_, rfl⟩, hW, hsame.mono (by decide) (by decide)⟩
  · show Steps p.tables e below (s₁.setTop (mkF m 0 #[.val (.ref a1), .val (.ref a2), .unset, .unset, .unset, .unset, .unset, .unset] [])) _
    refine XS.aloadN X0.here hx rfl (hb hby d4_0) rfl rfl ?_
    show Steps p.tables e below (s₁.setTop (mkF m 1 #[.val (.ref a1), .val (.ref a2), .unset, .unset, .unset, .unset, .unset, .unset] [(.ref a1)])) _
    refine st4 _ ?_
    show Steps p.tables e below (T4.setTop (mkF m 4 #[.val (.ref a1), .val (.ref a2), .unset, .unset, .unset, .unset, .unset, .unset] [(.int w3)])) _
    refine XS.i2l X4.here hx rfl (hb hby d4_4) rfl ?_
    show Steps p.tables e below (T4.setTop (mkF m 5 #[.val (.ref a1), .val (.ref a2), .unset, .unset, .unset, .unset, .unset, .unset] [(.long (w3.toInt64))])) _
    refine XS.lstoreN X4.here hx rfl (hb hby d4_5) rfl (l' := #[.val (.ref a1), .val (.ref a2), .val (.long (w3.toInt64)), .second, .unset, .unset, .unset, .unset]) rfl ?_
    show Steps p.tables e below (T4.setTop (mkF m 6 #[.val (.ref a1), .val (.ref a2), .val (.long (w3.toInt64)), .second, .unset, .unset, .unset, .unset] [])) _
    refine XS.aloadN X4.here hx rfl (hb hby d4_6) rfl rfl ?_
    show Steps p.tables e below (T4.setTop (mkF m 7 #[.val (.ref a1), .val (.ref a2), .val (.long (w3.toInt64)), .second, .unset, .unset, .unset, .unset] [(.ref a1)])) _
    refine st6 _ ?_
    show Steps p.tables e below (T6.setTop (mkF m 10 #[.val (.ref a1), .val (.ref a2), .val (.long (w3.toInt64)), .second, .unset, .unset, .unset, .unset] [(.ref w5)])) _
    refine XS.astore X6.here hx rfl (hb hby d4_10) rfl rfl (l' := #[.val (.ref a1), .val (.ref a2), .val (.long (w3.toInt64)), .second, .val (.ref w5), .unset, .unset, .unset]) rfl ?_
    show Steps p.tables e below (T6.setTop (mkF m 12 #[.val (.ref a1), .val (.ref a2), .val (.long (w3.toInt64)), .second, .val (.ref w5), .unset, .unset, .unset] [])) _
    refine XS.aload X6.here hx rfl (hb hby d4_12) rfl rfl ?_
    show Steps p.tables e below (T6.setTop (mkF m 14 #[.val (.ref a1), .val (.ref a2), .val (.long (w3.toInt64)), .second, .val (.ref w5), .unset, .unset, .unset] [(.ref w5)])) _
    refine X6.arraylength hx (by rw [e6]; exact Ar_w5.1) (State.isArrayOf_alike hZ.alike Ar_w5.2.1) (g := (mkF m 14 #[.val (.ref a1), .val (.ref a2), .val (.long (w3.toInt64)), .second, .val (.ref w5), .unset, .unset, .unset] [(.ref w5)])) rfl rfl (hb hby d4_14) _ ?_
    rw [len_of S_w5 N_w5]
    show Steps p.tables e below (T6.setTop (mkF m 15 #[.val (.ref a1), .val (.ref a2), .val (.long (w3.toInt64)), .second, .val (.ref w5), .unset, .unset, .unset] [(.int (Int32.ofNat n))])) _
    refine XS.istore X6.here hx rfl (hb hby d4_15) rfl (l' := #[.val (.ref a1), .val (.ref a2), .val (.long (w3.toInt64)), .second, .val (.ref w5), .val (.int (Int32.ofNat n)), .unset, .unset]) rfl ?_
    show Steps p.tables e below (T6.setTop (mkF m 17 #[.val (.ref a1), .val (.ref a2), .val (.long (w3.toInt64)), .second, .val (.ref w5), .val (.int (Int32.ofNat n)), .unset, .unset] [])) _
    refine XS.iconst X6.here hx rfl (hb hby d4_17) ?_
    show Steps p.tables e below (T6.setTop (mkF m 18 #[.val (.ref a1), .val (.ref a2), .val (.long (w3.toInt64)), .second, .val (.ref w5), .val (.int (Int32.ofNat n)), .unset, .unset] [(.int (0 : Int32))])) _
    refine XS.istore X6.here hx rfl (hb hby d4_18) rfl (l' := #[.val (.ref a1), .val (.ref a2), .val (.long (w3.toInt64)), .second, .val (.ref w5), .val (.int (Int32.ofNat n)), .val (.int (0 : Int32)), .unset]) rfl ?_
    show Steps p.tables e below (T6.setTop (mkF m 20 #[.val (.ref a1), .val (.ref a2), .val (.long (w3.toInt64)), .second, .val (.ref w5), .val (.int (Int32.ofNat n)), .val (.int (Int32.ofNat 0)), .unset] [])) _
    refine stL _ ?_
    show Steps p.tables e below (TL.setTop (mkF m 52 #[.val (.ref a1), .val (.ref a2), .val (.long H), .second, .val (.ref w5), .val (.int (Int32.ofNat n)), .val (.int (Int32.ofNat n)), sL] [])) _
    refine XS.lloadN XL.here hx rfl (hb hby d4_52) rfl ?_
    show Steps p.tables e below (TL.setTop (mkF m 53 #[.val (.ref a1), .val (.ref a2), .val (.long H), .second, .val (.ref w5), .val (.int (Int32.ofNat n)), .val (.int (Int32.ofNat n)), sL] [(.long H)])) _
    refine XS.bipush XL.here hx rfl (hb hby d4_53) ?_
    show Steps p.tables e below (TL.setTop (mkF m 55 #[.val (.ref a1), .val (.ref a2), .val (.long H), .second, .val (.ref w5), .val (.int (Int32.ofNat n)), .val (.int (Int32.ofNat n)), sL] [(.int (32 : Int32)), (.long H)])) _
    refine XS.lushr XL.here hx rfl (hb hby d4_55) rfl ?_
    show Steps p.tables e below (TL.setTop (mkF m 56 #[.val (.ref a1), .val (.ref a2), .val (.long H), .second, .val (.ref w5), .val (.int (Int32.ofNat n)), .val (.int (Int32.ofNat n)), sL] [(.long ((H.toUInt64 >>> ((32 : Int32) &&& 0x3f).toInt64.toUInt64).toInt64))])) _
    refine XS.aloadN XL.here hx rfl (hb hby d4_56) rfl rfl ?_
    show Steps p.tables e below (TL.setTop (mkF m 57 #[.val (.ref a1), .val (.ref a2), .val (.long H), .second, .val (.ref w5), .val (.int (Int32.ofNat n)), .val (.int (Int32.ofNat n)), sL] [(.ref a1), (.long ((H.toUInt64 >>> ((32 : Int32) &&& 0x3f).toInt64.toUInt64).toInt64))])) _
    refine st8 _ ?_
    show Steps p.tables e below (T8.setTop (mkF m 60 #[.val (.ref a1), .val (.ref a2), .val (.long H), .second, .val (.ref w5), .val (.int (Int32.ofNat n)), .val (.int (Int32.ofNat n)), sL] [(.int w7), (.long ((H.toUInt64 >>> ((32 : Int32) &&& 0x3f).toInt64.toUInt64).toInt64))])) _
    refine XS.i2l X8.here hx rfl (hb hby d4_60) rfl ?_
    show Steps p.tables e below (T8.setTop (mkF m 61 #[.val (.ref a1), .val (.ref a2), .val (.long H), .second, .val (.ref w5), .val (.int (Int32.ofNat n)), .val (.int (Int32.ofNat n)), sL] [(.long (w7.toInt64)), (.long ((H.toUInt64 >>> ((32 : Int32) &&& 0x3f).toInt64.toUInt64).toInt64))])) _
    refine XS.lmul X8.here hx rfl (hb hby d4_61) rfl ?_
    show Steps p.tables e below (T8.setTop (mkF m 62 #[.val (.ref a1), .val (.ref a2), .val (.long H), .second, .val (.ref w5), .val (.int (Int32.ofNat n)), .val (.int (Int32.ofNat n)), sL] [(.long (((H.toUInt64 >>> ((32 : Int32) &&& 0x3f).toInt64.toUInt64).toInt64) * (w7.toInt64)))])) _
    refine XS.bipush X8.here hx rfl (hb hby d4_62) ?_
    show Steps p.tables e below (T8.setTop (mkF m 64 #[.val (.ref a1), .val (.ref a2), .val (.long H), .second, .val (.ref w5), .val (.int (Int32.ofNat n)), .val (.int (Int32.ofNat n)), sL] [(.int (32 : Int32)), (.long (((H.toUInt64 >>> ((32 : Int32) &&& 0x3f).toInt64.toUInt64).toInt64) * (w7.toInt64)))])) _
    refine XS.lushr X8.here hx rfl (hb hby d4_64) rfl ?_
    show Steps p.tables e below (T8.setTop (mkF m 65 #[.val (.ref a1), .val (.ref a2), .val (.long H), .second, .val (.ref w5), .val (.int (Int32.ofNat n)), .val (.int (Int32.ofNat n)), sL] [(.long (((((H.toUInt64 >>> ((32 : Int32) &&& 0x3f).toInt64.toUInt64).toInt64) * (w7.toInt64)).toUInt64 >>> ((32 : Int32) &&& 0x3f).toInt64.toUInt64).toInt64))])) _
    refine XS.l2i X8.here hx rfl (hb hby d4_65) rfl ?_
    show Steps p.tables e below (T8.setTop (mkF m 66 #[.val (.ref a1), .val (.ref a2), .val (.long H), .second, .val (.ref w5), .val (.int (Int32.ofNat n)), .val (.int (Int32.ofNat n)), sL] [(.int (own_shard H w7))])) _
    exact retI X8 hx Bd.returns (hb hby d4_66) hr
  · show Q4 Z a1 a2 w3 w5 cl_w5 n cl_a2 pl vl H w7 h0 n0 _ T8.heap _
    rw [e8]
    exact ⟨rfl, N0, rfl⟩
theorem pd_0_0 : parseMethodDescriptor "(II)I" = some ⟨[.int, .int], some .int⟩ := by decide +kernel
set_option maxRecDepth 65536 in
set_option maxHeartbeats 40000000 in
theorem own_A {p : Program} {l : Launch} {e : Env} {s : State} {m : MethodId} {args : Array Value} {below : List Frame} {meth : Method} {c : Code} {T0 : State} {Z : State} {a0 : Array Value} {h0 : Heap} (p1 p2 p3 p4 p5 p6 : Int32) (X0 : Stand p l e room_1 s m args below meth c T0 [] 0 0) (hx : p.tables.exec = Jvm.exec) (hZ : Z.Warmed39 s.vm) (hw : ∀ d ∈ tables_1, d.before a0 Z = true) (hby : c.code = code) (hml : c.maxLocals = 33) (hown : s.vm.findClass "org/stratalog/internal/engine/PickerShardOfPinLaw" = some m.cls) (e0 : T0.heap = h0) (n0 : Nat) (Z0 : n0 ≤ h0.size) :
    ∃ (T' : State) (h' : Heap) (locs' : List Loc) (b8 : Addr) (cl_b8 : Cell) (w12 w13 w14 : Int32), Stand p l e room_1 s m args below meth c T' locs' 1 3 ∧ T'.heap = h' ∧ Fr n0 locs' ∧ n0 ≤ h'.size ∧ Arr Z h' b8 cl_b8 .int ∧ (∀ j, ¬ (own_p3 (own_px p6 (2 : Int32)) (own_px p6 (4 : Int32)) (own_px p6 (6 : Int32)) j < 0 ∨ cl_b8.slots.size ≤ (own_p3 (own_px p6 (2 : Int32)) (own_px p6 (4 : Int32)) (own_px p6 (6 : Int32)) j).toNatClampNeg)) ∧ (∀ j, cl_b8.slots[(own_p3 (own_px p6 (2 : Int32)) (own_px p6 (4 : Int32)) (own_px p6 (6 : Int32)) j).toNatClampNeg]? = some (.int (own_p3 w12 w13 w14 j))) ∧
      ∀ target, Steps p.tables e below (T'.setTop (mkF m 93 #[.val (.int p1), .val (.int p2), .val (.int p3), .val (.int p4), .val (.int p5), .val (.int p6), .val (.int (own_max (1 : Int32) (p2 &&& (2147483647 : Int32)))), .val (.int (p6 &&& (3 : Int32))), .val (.int (own_px p6 (2 : Int32))), .val (.int (own_px p6 (4 : Int32))), .val (.int (own_px p6 (6 : Int32))), .val (.ref b8), .val (.long (w12.toInt64)), .second, .val (.long (w13.toInt64)), .second, .val (.long (w14.toInt64)), .second, .val (.long (p1.toInt64)), .second, .unset, .unset, .unset, .unset, .unset, .unset, .unset, .unset, .unset, .unset, .unset, .unset, .unset] [])) target → Steps p.tables e below (T0.setTop (mkF m 0 #[.val (.int p1), .val (.int p2), .val (.int p3), .val (.int p4), .val (.int p5), .val (.int p6), .unset, .unset, .unset, .unset, .unset, .unset, .unset, .unset, .unset, .unset, .unset, .unset, .unset, .unset, .unset, .unset, .unset, .unset, .unset, .unset, .unset, .unset, .unset, .unset, .unset, .unset, .unset] [])) target := by
  have N0 := Fr.nil n0
  obtain ⟨_, _, ⟨T7, L7, k7, n7⟩, -, X7, ⟨Lc7, hQ7, l7, y7, z7⟩, st7⟩ := Jvm.LawKit.callS X0 hx (y := (⟨"java/lang/Math", "max", "(II)I"⟩ : MethodName)) hown (mvT hZ (hw _ (List.mem_of_getElem? (i := 1) rfl))) (mvT hZ (hw _ (List.mem_of_getElem? (i := 2) rfl))) (mvT hZ (hw _ (List.mem_of_getElem? (i := 3) rfl))) (mvT hZ (hw _ (List.mem_of_getElem? (i := 4) rfl))) (by decide) (backOf (W := 0) (rm1 l Z a0 hw [] (1 : Int32) (p2 &&& (2147483647 : Int32)) h0 n0 Z0) hZ (hw _ (List.mem_of_getElem? (i := 4) rfl)) (hw _ (List.mem_of_getElem? (i := 3) rfl)) (by decide) (by decide)) (g := (mkF m 5 #[.val (.int p1), .val (.int p2), .val (.int p3), .val (.int p4), .val (.int p5), .val (.int p6), .unset, .unset, .unset, .unset, .unset, .unset, .unset, .unset, .unset, .unset, .unset, .unset, .unset, .unset, .unset, .unset, .unset, .unset, .unset, .unset, .unset, .unset, .unset, .unset, .unset, .unset, .unset] [(.int (p2 &&& (2147483647 : Int32))), (.int (1 : Int32))])) rfl (by rw [hml]; rfl) (argsL := [(.int (1 : Int32)), (.int (p2 &&& (2147483647 : Int32)))]) (rest := []) (lenOf pd_0_0 rfl) rfl (by show 2 * 0 + _ ≤ _; exact Nat.le_of_eq rfl) (hb hby at_5) (fun _ _ => ⟨rfl, e0, (by decide : 0 + 0 ≤ _), (by decide : 0 + 0 ≤ _)⟩)
  dsimp only [Pt.U, Pt.locs, Pt.cells, Pt.slots] at X7 l7 y7 z7 st7 hQ7
  subst l7 y7 z7
  obtain ⟨rfl, N7q, q7e⟩ := hQ7
  have Z7 : n0 ≤ T7.heap.size := by rw [q7e]; exact Z0
  have N7 := Fr.app N0 N7q
  obtain ⟨T8, h8, k8, X8, e8, E8, A8, st8⟩ := newP X7 hx hZ (hw _ (List.mem_of_getElem? (i := 5) rfl)) rfl (g := (mkF m 48 #[.val (.int p1), .val (.int p2), .val (.int p3), .val (.int p4), .val (.int p5), .val (.int p6), .val (.int (own_max (1 : Int32) (p2 &&& (2147483647 : Int32)))), .val (.int (p6 &&& (3 : Int32))), .val (.int (own_px p6 (2 : Int32))), .val (.int (own_px p6 (4 : Int32))), .val (.int (own_px p6 (6 : Int32))), .unset, .unset, .unset, .unset, .unset, .unset, .unset, .unset, .unset, .unset, .unset, .unset, .unset, .unset, .unset, .unset, .unset, .unset, .unset, .unset, .unset, .unset] [(.int (3 : Int32))])) rfl (hb hby at_48) rfl (by decide) (cap := 3) (by decide) (by decide) (by decide) (by decide)
  obtain ⟨b8, g8⟩ : ∃ z, z = T7.heap.size := ⟨_, rfl⟩
  rw [← g8] at A8 st8
  have V_b8 : Arv Z h8 b8 k8 .int (3 : Int32) [(.int (0 : Int32)), (.int (0 : Int32)), (.int (0 : Int32))] (.int (0 : Int32)) := (Arv.new A8 (by decide)).pad (pad_rep [] (.int (0 : Int32)) 3)
  have g_b8 : n0 ≤ b8 := Nat.le_trans Z7 (Nat.le_of_eq g8.symm)
  obtain ⟨cl_b8_53, Ar_b8, q_b8, S_b8, N_b8, H_b8, G_b8⟩ := V_b8
  have hin53 : ¬ ((0 : Int32) < 0 ∨ cl_b8_53.slots.size ≤ ((0 : Int32)).toNatClampNeg) := inb_of S_b8 ⟨by decide, by decide⟩
  obtain ⟨T9, h9, X9, e9, W9, st9⟩ := stI X8 hx hZ e8 Ar_b8 (j := (0 : Int32)) hin53 (g := (mkF m 53 #[.val (.int p1), .val (.int p2), .val (.int p3), .val (.int p4), .val (.int p5), .val (.int p6), .val (.int (own_max (1 : Int32) (p2 &&& (2147483647 : Int32)))), .val (.int (p6 &&& (3 : Int32))), .val (.int (own_px p6 (2 : Int32))), .val (.int (own_px p6 (4 : Int32))), .val (.int (own_px p6 (6 : Int32))), .unset, .unset, .unset, .unset, .unset, .unset, .unset, .unset, .unset, .unset, .unset, .unset, .unset, .unset, .unset, .unset, .unset, .unset, .unset, .unset, .unset, .unset] [(.int p3), (.int (0 : Int32)), (.ref b8), (.ref b8)])) rfl rfl (hb hby at_53)
  have V_b8_9 := Arv.set Ar_b8 q_b8 S_b8 N_b8 H_b8 G_b8 rfl W9 0 rfl (Nat.le_of_ble_eq_true rfl)
  have N9 := Fr.snoc X9 N7 g_b8
  obtain ⟨cl_b8_57, Ar_b8, q_b8, S_b8, N_b8, H_b8, G_b8⟩ := V_b8_9
  have hin57 : ¬ ((1 : Int32) < 0 ∨ cl_b8_57.slots.size ≤ ((1 : Int32)).toNatClampNeg) := inb_of S_b8 ⟨by decide, by decide⟩
  obtain ⟨T10, h10, X10, e10, W10, st10⟩ := stI X9 hx hZ e9 Ar_b8 (j := (1 : Int32)) hin57 (g := (mkF m 57 #[.val (.int p1), .val (.int p2), .val (.int p3), .val (.int p4), .val (.int p5), .val (.int p6), .val (.int (own_max (1 : Int32) (p2 &&& (2147483647 : Int32)))), .val (.int (p6 &&& (3 : Int32))), .val (.int (own_px p6 (2 : Int32))), .val (.int (own_px p6 (4 : Int32))), .val (.int (own_px p6 (6 : Int32))), .unset, .unset, .unset, .unset, .unset, .unset, .unset, .unset, .unset, .unset, .unset, .unset, .unset, .unset, .unset, .unset, .unset, .unset, .unset, .unset, .unset, .unset] [(.int p4), (.int (1 : Int32)), (.ref b8), (.ref b8)])) rfl rfl (hb hby at_57)
  have V_b8_10 := Arv.set Ar_b8 q_b8 S_b8 N_b8 H_b8 G_b8 rfl W10 1 rfl (Nat.le_of_ble_eq_true rfl)
  have N10 := Fr.snoc X10 N9 g_b8
  obtain ⟨cl_b8_62, Ar_b8, q_b8, S_b8, N_b8, H_b8, G_b8⟩ := V_b8_10
  have hin62 : ¬ ((2 : Int32) < 0 ∨ cl_b8_62.slots.size ≤ ((2 : Int32)).toNatClampNeg) := inb_of S_b8 ⟨by decide, by decide⟩
  obtain ⟨T11, h11, X11, e11, W11, st11⟩ := stI X10 hx hZ e10 Ar_b8 (j := (2 : Int32)) hin62 (g := (mkF m 62 #[.val (.int p1), .val (.int p2), .val (.int p3), .val (.int p4), .val (.int p5), .val (.int p6), .val (.int (own_max (1 : Int32) (p2 &&& (2147483647 : Int32)))), .val (.int (p6 &&& (3 : Int32))), .val (.int (own_px p6 (2 : Int32))), .val (.int (own_px p6 (4 : Int32))), .val (.int (own_px p6 (6 : Int32))), .unset, .unset, .unset, .unset, .unset, .unset, .unset, .unset, .unset, .unset, .unset, .unset, .unset, .unset, .unset, .unset, .unset, .unset, .unset, .unset, .unset, .unset] [(.int p5), (.int (2 : Int32)), (.ref b8), (.ref b8)])) rfl rfl (hb hby at_62)
  have V_b8_11 := Arv.set Ar_b8 q_b8 S_b8 N_b8 H_b8 G_b8 rfl W11 2 rfl (Nat.le_of_ble_eq_true rfl)
  have N11 := Fr.snoc X11 N10 g_b8
  obtain ⟨cl_b8, Ar_b8, -, S_b8, N_b8, H_b8, G_b8⟩ := V_b8_11
  have hin69 := inb_of (j := (own_px p6 (2 : Int32))) S_b8 (own_px_in p6 (2 : Int32))
  have hlt69 : (own_px p6 (2 : Int32)).toNatClampNeg < cl_b8.slots.size := Nat.lt_of_not_le fun q => hin69 (Or.inr q)
  obtain ⟨w12, hw12⟩ := own_fit (G_b8 _ hlt69)
  have hat69 : cl_b8.slots[(own_px p6 (2 : Int32)).toNatClampNeg]? = some (.int w12) := by rw [H_b8 _ hlt69, hw12]
  have hin77 := inb_of (j := (own_px p6 (4 : Int32))) S_b8 (own_px_in p6 (4 : Int32))
  have hlt77 : (own_px p6 (4 : Int32)).toNatClampNeg < cl_b8.slots.size := Nat.lt_of_not_le fun q => hin77 (Or.inr q)
  obtain ⟨w13, hw13⟩ := own_fit (G_b8 _ hlt77)
  have hat77 : cl_b8.slots[(own_px p6 (4 : Int32)).toNatClampNeg]? = some (.int w13) := by rw [H_b8 _ hlt77, hw13]
  have hin85 := inb_of (j := (own_px p6 (6 : Int32))) S_b8 (own_px_in p6 (6 : Int32))
  have hlt85 : (own_px p6 (6 : Int32)).toNatClampNeg < cl_b8.slots.size := Nat.lt_of_not_le fun q => hin85 (Or.inr q)
  obtain ⟨w14, hw14⟩ := own_fit (G_b8 _ hlt85)
  have hat85 : cl_b8.slots[(own_px p6 (6 : Int32)).toNatClampNeg]? = some (.int w14) := by rw [H_b8 _ hlt85, hw14]
  refine ⟨T11, _, _, b8, cl_b8, w12, w13, w14, X11, e11, N11, Nat.le_of_lt (Nat.lt_of_le_of_lt g_b8 Ar_b8.lt), Ar_b8, ?_, ?_, fun target kt => ?_⟩
  · intro j
    match j with
    | 0 => exact hin69
    | 1 => exact hin77
    | _ + 2 => exact hin85
  · intro j
    match j with
    | 0 => exact hat69
    | 1 => exact hat77
    | _ + 2 => exact hat85
  · show Steps p.tables e below (T0.setTop (mkF m 0 #[.val (.int p1), .val (.int p2), .val (.int p3), .val (.int p4), .val (.int p5), .val (.int p6), .unset, .unset, .unset, .unset, .unset, .unset, .unset, .unset, .unset, .unset, .unset, .unset, .unset, .unset, .unset, .unset, .unset, .unset, .unset, .unset, .unset, .unset, .unset, .unset, .unset, .unset, .unset] [])) _
    refine XS.iconst X0.here hx rfl (hb hby at_0) ?_
    show Steps p.tables e below (T0.setTop (mkF m 1 #[.val (.int p1), .val (.int p2), .val (.int p3), .val (.int p4), .val (.int p5), .val (.int p6), .unset, .unset, .unset, .unset, .unset, .unset, .unset, .unset, .unset, .unset, .unset, .unset, .unset, .unset, .unset, .unset, .unset, .unset, .unset, .unset, .unset, .unset, .unset, .unset, .unset, .unset, .unset] [(.int (1 : Int32))])) _
    refine XS.iloadN X0.here hx rfl (hb hby at_1) rfl ?_
    show Steps p.tables e below (T0.setTop (mkF m 2 #[.val (.int p1), .val (.int p2), .val (.int p3), .val (.int p4), .val (.int p5), .val (.int p6), .unset, .unset, .unset, .unset, .unset, .unset, .unset, .unset, .unset, .unset, .unset, .unset, .unset, .unset, .unset, .unset, .unset, .unset, .unset, .unset, .unset, .unset, .unset, .unset, .unset, .unset, .unset] [(.int p2), (.int (1 : Int32))])) _
    refine X0.ldcInt hx hown (mvT hZ (hw _ (List.mem_of_getElem? (i := 0) rfl))) (g := (mkF m 2 #[.val (.int p1), .val (.int p2), .val (.int p3), .val (.int p4), .val (.int p5), .val (.int p6), .unset, .unset, .unset, .unset, .unset, .unset, .unset, .unset, .unset, .unset, .unset, .unset, .unset, .unset, .unset, .unset, .unset, .unset, .unset, .unset, .unset, .unset, .unset, .unset, .unset, .unset, .unset] [(.int p2), (.int (1 : Int32))])) rfl (hb hby at_2) _ ?_
    show Steps p.tables e below (T0.setTop (mkF m 4 #[.val (.int p1), .val (.int p2), .val (.int p3), .val (.int p4), .val (.int p5), .val (.int p6), .unset, .unset, .unset, .unset, .unset, .unset, .unset, .unset, .unset, .unset, .unset, .unset, .unset, .unset, .unset, .unset, .unset, .unset, .unset, .unset, .unset, .unset, .unset, .unset, .unset, .unset, .unset] [(.int (2147483647 : Int32)), (.int p2), (.int (1 : Int32))])) _
    refine XS.iand X0.here hx rfl (hb hby at_4) rfl ?_
    show Steps p.tables e below (T0.setTop (mkF m 5 #[.val (.int p1), .val (.int p2), .val (.int p3), .val (.int p4), .val (.int p5), .val (.int p6), .unset, .unset, .unset, .unset, .unset, .unset, .unset, .unset, .unset, .unset, .unset, .unset, .unset, .unset, .unset, .unset, .unset, .unset, .unset, .unset, .unset, .unset, .unset, .unset, .unset, .unset, .unset] [(.int (p2 &&& (2147483647 : Int32))), (.int (1 : Int32))])) _
    refine st7 _ ?_
    show Steps p.tables e below (T7.setTop (mkF m 8 #[.val (.int p1), .val (.int p2), .val (.int p3), .val (.int p4), .val (.int p5), .val (.int p6), .unset, .unset, .unset, .unset, .unset, .unset, .unset, .unset, .unset, .unset, .unset, .unset, .unset, .unset, .unset, .unset, .unset, .unset, .unset, .unset, .unset, .unset, .unset, .unset, .unset, .unset, .unset] [(.int (own_max (1 : Int32) (p2 &&& (2147483647 : Int32))))])) _
    refine XS.istore X7.here hx rfl (hb hby at_8) rfl (l' := #[.val (.int p1), .val (.int p2), .val (.int p3), .val (.int p4), .val (.int p5), .val (.int p6), .val (.int (own_max (1 : Int32) (p2 &&& (2147483647 : Int32)))), .unset, .unset, .unset, .unset, .unset, .unset, .unset, .unset, .unset, .unset, .unset, .unset, .unset, .unset, .unset, .unset, .unset, .unset, .unset, .unset, .unset, .unset, .unset, .unset, .unset, .unset]) rfl ?_
    show Steps p.tables e below (T7.setTop (mkF m 10 #[.val (.int p1), .val (.int p2), .val (.int p3), .val (.int p4), .val (.int p5), .val (.int p6), .val (.int (own_max (1 : Int32) (p2 &&& (2147483647 : Int32)))), .unset, .unset, .unset, .unset, .unset, .unset, .unset, .unset, .unset, .unset, .unset, .unset, .unset, .unset, .unset, .unset, .unset, .unset, .unset, .unset, .unset, .unset, .unset, .unset, .unset, .unset] [])) _
    refine XS.iload X7.here hx rfl (hb hby at_10) rfl ?_
    show Steps p.tables e below (T7.setTop (mkF m 12 #[.val (.int p1), .val (.int p2), .val (.int p3), .val (.int p4), .val (.int p5), .val (.int p6), .val (.int (own_max (1 : Int32) (p2 &&& (2147483647 : Int32)))), .unset, .unset, .unset, .unset, .unset, .unset, .unset, .unset, .unset, .unset, .unset, .unset, .unset, .unset, .unset, .unset, .unset, .unset, .unset, .unset, .unset, .unset, .unset, .unset, .unset, .unset] [(.int p6)])) _
    refine XS.iconst X7.here hx rfl (hb hby at_12) ?_
    show Steps p.tables e below (T7.setTop (mkF m 13 #[.val (.int p1), .val (.int p2), .val (.int p3), .val (.int p4), .val (.int p5), .val (.int p6), .val (.int (own_max (1 : Int32) (p2 &&& (2147483647 : Int32)))), .unset, .unset, .unset, .unset, .unset, .unset, .unset, .unset, .unset, .unset, .unset, .unset, .unset, .unset, .unset, .unset, .unset, .unset, .unset, .unset, .unset, .unset, .unset, .unset, .unset, .unset] [(.int (3 : Int32)), (.int p6)])) _
    refine XS.iand X7.here hx rfl (hb hby at_13) rfl ?_
    show Steps p.tables e below (T7.setTop (mkF m 14 #[.val (.int p1), .val (.int p2), .val (.int p3), .val (.int p4), .val (.int p5), .val (.int p6), .val (.int (own_max (1 : Int32) (p2 &&& (2147483647 : Int32)))), .unset, .unset, .unset, .unset, .unset, .unset, .unset, .unset, .unset, .unset, .unset, .unset, .unset, .unset, .unset, .unset, .unset, .unset, .unset, .unset, .unset, .unset, .unset, .unset, .unset, .unset] [(.int (p6 &&& (3 : Int32)))])) _
    refine XS.istore X7.here hx rfl (hb hby at_14) rfl (l' := #[.val (.int p1), .val (.int p2), .val (.int p3), .val (.int p4), .val (.int p5), .val (.int p6), .val (.int (own_max (1 : Int32) (p2 &&& (2147483647 : Int32)))), .val (.int (p6 &&& (3 : Int32))), .unset, .unset, .unset, .unset, .unset, .unset, .unset, .unset, .unset, .unset, .unset, .unset, .unset, .unset, .unset, .unset, .unset, .unset, .unset, .unset, .unset, .unset, .unset, .unset, .unset]) rfl ?_
    show Steps p.tables e below (T7.setTop (mkF m 16 #[.val (.int p1), .val (.int p2), .val (.int p3), .val (.int p4), .val (.int p5), .val (.int p6), .val (.int (own_max (1 : Int32) (p2 &&& (2147483647 : Int32)))), .val (.int (p6 &&& (3 : Int32))), .unset, .unset, .unset, .unset, .unset, .unset, .unset, .unset, .unset, .unset, .unset, .unset, .unset, .unset, .unset, .unset, .unset, .unset, .unset, .unset, .unset, .unset, .unset, .unset, .unset] [])) _
    refine XS.iload X7.here hx rfl (hb hby at_16) rfl ?_
    show Steps p.tables e below (T7.setTop (mkF m 18 #[.val (.int p1), .val (.int p2), .val (.int p3), .val (.int p4), .val (.int p5), .val (.int p6), .val (.int (own_max (1 : Int32) (p2 &&& (2147483647 : Int32)))), .val (.int (p6 &&& (3 : Int32))), .unset, .unset, .unset, .unset, .unset, .unset, .unset, .unset, .unset, .unset, .unset, .unset, .unset, .unset, .unset, .unset, .unset, .unset, .unset, .unset, .unset, .unset, .unset, .unset, .unset] [(.int p6)])) _
    refine XS.iconst X7.here hx rfl (hb hby at_18) ?_
    show Steps p.tables e below (T7.setTop (mkF m 19 #[.val (.int p1), .val (.int p2), .val (.int p3), .val (.int p4), .val (.int p5), .val (.int p6), .val (.int (own_max (1 : Int32) (p2 &&& (2147483647 : Int32)))), .val (.int (p6 &&& (3 : Int32))), .unset, .unset, .unset, .unset, .unset, .unset, .unset, .unset, .unset, .unset, .unset, .unset, .unset, .unset, .unset, .unset, .unset, .unset, .unset, .unset, .unset, .unset, .unset, .unset, .unset] [(.int (2 : Int32)), (.int p6)])) _
    refine XS.iushr X7.here hx rfl (hb hby at_19) rfl ?_
    show Steps p.tables e below (T7.setTop (mkF m 20 #[.val (.int p1), .val (.int p2), .val (.int p3), .val (.int p4), .val (.int p5), .val (.int p6), .val (.int (own_max (1 : Int32) (p2 &&& (2147483647 : Int32)))), .val (.int (p6 &&& (3 : Int32))), .unset, .unset, .unset, .unset, .unset, .unset, .unset, .unset, .unset, .unset, .unset, .unset, .unset, .unset, .unset, .unset, .unset, .unset, .unset, .unset, .unset, .unset, .unset, .unset, .unset] [(.int ((p6.toUInt32 >>> ((2 : Int32) &&& 31).toUInt32).toInt32))])) _
    refine XS.iconst X7.here hx rfl (hb hby at_20) ?_
    show Steps p.tables e below (T7.setTop (mkF m 21 #[.val (.int p1), .val (.int p2), .val (.int p3), .val (.int p4), .val (.int p5), .val (.int p6), .val (.int (own_max (1 : Int32) (p2 &&& (2147483647 : Int32)))), .val (.int (p6 &&& (3 : Int32))), .unset, .unset, .unset, .unset, .unset, .unset, .unset, .unset, .unset, .unset, .unset, .unset, .unset, .unset, .unset, .unset, .unset, .unset, .unset, .unset, .unset, .unset, .unset, .unset, .unset] [(.int (3 : Int32)), (.int ((p6.toUInt32 >>> ((2 : Int32) &&& 31).toUInt32).toInt32))])) _
    refine XS.iand X7.here hx rfl (hb hby at_21) rfl ?_
    show Steps p.tables e below (T7.setTop (mkF m 22 #[.val (.int p1), .val (.int p2), .val (.int p3), .val (.int p4), .val (.int p5), .val (.int p6), .val (.int (own_max (1 : Int32) (p2 &&& (2147483647 : Int32)))), .val (.int (p6 &&& (3 : Int32))), .unset, .unset, .unset, .unset, .unset, .unset, .unset, .unset, .unset, .unset, .unset, .unset, .unset, .unset, .unset, .unset, .unset, .unset, .unset, .unset, .unset, .unset, .unset, .unset, .unset] [(.int (((p6.toUInt32 >>> ((2 : Int32) &&& 31).toUInt32).toInt32) &&& (3 : Int32)))])) _
    refine XS.iconst X7.here hx rfl (hb hby at_22) ?_
    show Steps p.tables e below (T7.setTop (mkF m 23 #[.val (.int p1), .val (.int p2), .val (.int p3), .val (.int p4), .val (.int p5), .val (.int p6), .val (.int (own_max (1 : Int32) (p2 &&& (2147483647 : Int32)))), .val (.int (p6 &&& (3 : Int32))), .unset, .unset, .unset, .unset, .unset, .unset, .unset, .unset, .unset, .unset, .unset, .unset, .unset, .unset, .unset, .unset, .unset, .unset, .unset, .unset, .unset, .unset, .unset, .unset, .unset] [(.int (3 : Int32)), (.int (((p6.toUInt32 >>> ((2 : Int32) &&& 31).toUInt32).toInt32) &&& (3 : Int32)))])) _
    refine iremM X7 hx rfl (hb hby at_23) rfl (by decide) ?_
    show Steps p.tables e below (T7.setTop (mkF m 24 #[.val (.int p1), .val (.int p2), .val (.int p3), .val (.int p4), .val (.int p5), .val (.int p6), .val (.int (own_max (1 : Int32) (p2 &&& (2147483647 : Int32)))), .val (.int (p6 &&& (3 : Int32))), .unset, .unset, .unset, .unset, .unset, .unset, .unset, .unset, .unset, .unset, .unset, .unset, .unset, .unset, .unset, .unset, .unset, .unset, .unset, .unset, .unset, .unset, .unset, .unset, .unset] [(.int (own_px p6 (2 : Int32)))])) _
    refine XS.istore X7.here hx rfl (hb hby at_24) rfl (l' := #[.val (.int p1), .val (.int p2), .val (.int p3), .val (.int p4), .val (.int p5), .val (.int p6), .val (.int (own_max (1 : Int32) (p2 &&& (2147483647 : Int32)))), .val (.int (p6 &&& (3 : Int32))), .val (.int (own_px p6 (2 : Int32))), .unset, .unset, .unset, .unset, .unset, .unset, .unset, .unset, .unset, .unset, .unset, .unset, .unset, .unset, .unset, .unset, .unset, .unset, .unset, .unset, .unset, .unset, .unset, .unset]) rfl ?_
    show Steps p.tables e below (T7.setTop (mkF m 26 #[.val (.int p1), .val (.int p2), .val (.int p3), .val (.int p4), .val (.int p5), .val (.int p6), .val (.int (own_max (1 : Int32) (p2 &&& (2147483647 : Int32)))), .val (.int (p6 &&& (3 : Int32))), .val (.int (own_px p6 (2 : Int32))), .unset, .unset, .unset, .unset, .unset, .unset, .unset, .unset, .unset, .unset, .unset, .unset, .unset, .unset, .unset, .unset, .unset, .unset, .unset, .unset, .unset, .unset, .unset, .unset] [])) _
    refine XS.iload X7.here hx rfl (hb hby at_26) rfl ?_
    show Steps p.tables e below (T7.setTop (mkF m 28 #[.val (.int p1), .val (.int p2), .val (.int p3), .val (.int p4), .val (.int p5), .val (.int p6), .val (.int (own_max (1 : Int32) (p2 &&& (2147483647 : Int32)))), .val (.int (p6 &&& (3 : Int32))), .val (.int (own_px p6 (2 : Int32))), .unset, .unset, .unset, .unset, .unset, .unset, .unset, .unset, .unset, .unset, .unset, .unset, .unset, .unset, .unset, .unset, .unset, .unset, .unset, .unset, .unset, .unset, .unset, .unset] [(.int p6)])) _
    refine XS.iconst X7.here hx rfl (hb hby at_28) ?_
    show Steps p.tables e below (T7.setTop (mkF m 29 #[.val (.int p1), .val (.int p2), .val (.int p3), .val (.int p4), .val (.int p5), .val (.int p6), .val (.int (own_max (1 : Int32) (p2 &&& (2147483647 : Int32)))), .val (.int (p6 &&& (3 : Int32))), .val (.int (own_px p6 (2 : Int32))), .unset, .unset, .unset, .unset, .unset, .unset, .unset, .unset, .unset, .unset, .unset, .unset, .unset, .unset, .unset, .unset, .unset, .unset, .unset, .unset, .unset, .unset, .unset, .unset] [(.int (4 : Int32)), (.int p6)])) _
    refine XS.iushr X7.here hx rfl (hb hby at_29) rfl ?_
    show Steps p.tables e below (T7.setTop (mkF m 30 #[.val (.int p1), .val (.int p2), .val (.int p3), .val (.int p4), .val (.int p5), .val (.int p6), .val (.int (own_max (1 : Int32) (p2 &&& (2147483647 : Int32)))), .val (.int (p6 &&& (3 : Int32))), .val (.int (own_px p6 (2 : Int32))), .unset, .unset, .unset, .unset, .unset, .unset, .unset, .unset, .unset, .unset, .unset, .unset, .unset, .unset, .unset, .unset, .unset, .unset, .unset, .unset, .unset, .unset, .unset, .unset] [(.int ((p6.toUInt32 >>> ((4 : Int32) &&& 31).toUInt32).toInt32))])) _
    refine XS.iconst X7.here hx rfl (hb hby at_30) ?_
    show Steps p.tables e below (T7.setTop (mkF m 31 #[.val (.int p1), .val (.int p2), .val (.int p3), .val (.int p4), .val (.int p5), .val (.int p6), .val (.int (own_max (1 : Int32) (p2 &&& (2147483647 : Int32)))), .val (.int (p6 &&& (3 : Int32))), .val (.int (own_px p6 (2 : Int32))), .unset, .unset, .unset, .unset, .unset, .unset, .unset, .unset, .unset, .unset, .unset, .unset, .unset, .unset, .unset, .unset, .unset, .unset, .unset, .unset, .unset, .unset, .unset, .unset] [(.int (3 : Int32)), (.int ((p6.toUInt32 >>> ((4 : Int32) &&& 31).toUInt32).toInt32))])) _
    refine XS.iand X7.here hx rfl (hb hby at_31) rfl ?_
    show Steps p.tables e below (T7.setTop (mkF m 32 #[.val (.int p1), .val (.int p2), .val (.int p3), .val (.int p4), .val (.int p5), .val (.int p6), .val (.int (own_max (1 : Int32) (p2 &&& (2147483647 : Int32)))), .val (.int (p6 &&& (3 : Int32))), .val (.int (own_px p6 (2 : Int32))), .unset, .unset, .unset, .unset, .unset, .unset, .unset, .unset, .unset, .unset, .unset, .unset, .unset, .unset, .unset, .unset, .unset, .unset, .unset, .unset, .unset, .unset, .unset, .unset] [(.int (((p6.toUInt32 >>> ((4 : Int32) &&& 31).toUInt32).toInt32) &&& (3 : Int32)))])) _
    refine XS.iconst X7.here hx rfl (hb hby at_32) ?_
    show Steps p.tables e below (T7.setTop (mkF m 33 #[.val (.int p1), .val (.int p2), .val (.int p3), .val (.int p4), .val (.int p5), .val (.int p6), .val (.int (own_max (1 : Int32) (p2 &&& (2147483647 : Int32)))), .val (.int (p6 &&& (3 : Int32))), .val (.int (own_px p6 (2 : Int32))), .unset, .unset, .unset, .unset, .unset, .unset, .unset, .unset, .unset, .unset, .unset, .unset, .unset, .unset, .unset, .unset, .unset, .unset, .unset, .unset, .unset, .unset, .unset, .unset] [(.int (3 : Int32)), (.int (((p6.toUInt32 >>> ((4 : Int32) &&& 31).toUInt32).toInt32) &&& (3 : Int32)))])) _
    refine iremM X7 hx rfl (hb hby at_33) rfl (by decide) ?_
    show Steps p.tables e below (T7.setTop (mkF m 34 #[.val (.int p1), .val (.int p2), .val (.int p3), .val (.int p4), .val (.int p5), .val (.int p6), .val (.int (own_max (1 : Int32) (p2 &&& (2147483647 : Int32)))), .val (.int (p6 &&& (3 : Int32))), .val (.int (own_px p6 (2 : Int32))), .unset, .unset, .unset, .unset, .unset, .unset, .unset, .unset, .unset, .unset, .unset, .unset, .unset, .unset, .unset, .unset, .unset, .unset, .unset, .unset, .unset, .unset, .unset, .unset] [(.int (own_px p6 (4 : Int32)))])) _
    refine XS.istore X7.here hx rfl (hb hby at_34) rfl (l' := #[.val (.int p1), .val (.int p2), .val (.int p3), .val (.int p4), .val (.int p5), .val (.int p6), .val (.int (own_max (1 : Int32) (p2 &&& (2147483647 : Int32)))), .val (.int (p6 &&& (3 : Int32))), .val (.int (own_px p6 (2 : Int32))), .val (.int (own_px p6 (4 : Int32))), .unset, .unset, .unset, .unset, .unset, .unset, .unset, .unset, .unset, .unset, .unset, .unset, .unset, .unset, .unset, .unset, .unset, .unset, .unset, .unset, .unset, .unset, .unset]) rfl ?_
    show Steps p.tables e below (T7.setTop (mkF m 36 #[.val (.int p1), .val (.int p2), .val (.int p3), .val (.int p4), .val (.int p5), .val (.int p6), .val (.int (own_max (1 : Int32) (p2 &&& (2147483647 : Int32)))), .val (.int (p6 &&& (3 : Int32))), .val (.int (own_px p6 (2 : Int32))), .val (.int (own_px p6 (4 : Int32))), .unset, .unset, .unset, .unset, .unset, .unset, .unset, .unset, .unset, .unset, .unset, .unset, .unset, .unset, .unset, .unset, .unset, .unset, .unset, .unset, .unset, .unset, .unset] [])) _
    refine XS.iload X7.here hx rfl (hb hby at_36) rfl ?_
    show Steps p.tables e below (T7.setTop (mkF m 38 #[.val (.int p1), .val (.int p2), .val (.int p3), .val (.int p4), .val (.int p5), .val (.int p6), .val (.int (own_max (1 : Int32) (p2 &&& (2147483647 : Int32)))), .val (.int (p6 &&& (3 : Int32))), .val (.int (own_px p6 (2 : Int32))), .val (.int (own_px p6 (4 : Int32))), .unset, .unset, .unset, .unset, .unset, .unset, .unset, .unset, .unset, .unset, .unset, .unset, .unset, .unset, .unset, .unset, .unset, .unset, .unset, .unset, .unset, .unset, .unset] [(.int p6)])) _
    refine XS.bipush X7.here hx rfl (hb hby at_38) ?_
    show Steps p.tables e below (T7.setTop (mkF m 40 #[.val (.int p1), .val (.int p2), .val (.int p3), .val (.int p4), .val (.int p5), .val (.int p6), .val (.int (own_max (1 : Int32) (p2 &&& (2147483647 : Int32)))), .val (.int (p6 &&& (3 : Int32))), .val (.int (own_px p6 (2 : Int32))), .val (.int (own_px p6 (4 : Int32))), .unset, .unset, .unset, .unset, .unset, .unset, .unset, .unset, .unset, .unset, .unset, .unset, .unset, .unset, .unset, .unset, .unset, .unset, .unset, .unset, .unset, .unset, .unset] [(.int (6 : Int32)), (.int p6)])) _
    refine XS.iushr X7.here hx rfl (hb hby at_40) rfl ?_
    show Steps p.tables e below (T7.setTop (mkF m 41 #[.val (.int p1), .val (.int p2), .val (.int p3), .val (.int p4), .val (.int p5), .val (.int p6), .val (.int (own_max (1 : Int32) (p2 &&& (2147483647 : Int32)))), .val (.int (p6 &&& (3 : Int32))), .val (.int (own_px p6 (2 : Int32))), .val (.int (own_px p6 (4 : Int32))), .unset, .unset, .unset, .unset, .unset, .unset, .unset, .unset, .unset, .unset, .unset, .unset, .unset, .unset, .unset, .unset, .unset, .unset, .unset, .unset, .unset, .unset, .unset] [(.int ((p6.toUInt32 >>> ((6 : Int32) &&& 31).toUInt32).toInt32))])) _
    refine XS.iconst X7.here hx rfl (hb hby at_41) ?_
    show Steps p.tables e below (T7.setTop (mkF m 42 #[.val (.int p1), .val (.int p2), .val (.int p3), .val (.int p4), .val (.int p5), .val (.int p6), .val (.int (own_max (1 : Int32) (p2 &&& (2147483647 : Int32)))), .val (.int (p6 &&& (3 : Int32))), .val (.int (own_px p6 (2 : Int32))), .val (.int (own_px p6 (4 : Int32))), .unset, .unset, .unset, .unset, .unset, .unset, .unset, .unset, .unset, .unset, .unset, .unset, .unset, .unset, .unset, .unset, .unset, .unset, .unset, .unset, .unset, .unset, .unset] [(.int (3 : Int32)), (.int ((p6.toUInt32 >>> ((6 : Int32) &&& 31).toUInt32).toInt32))])) _
    refine XS.iand X7.here hx rfl (hb hby at_42) rfl ?_
    show Steps p.tables e below (T7.setTop (mkF m 43 #[.val (.int p1), .val (.int p2), .val (.int p3), .val (.int p4), .val (.int p5), .val (.int p6), .val (.int (own_max (1 : Int32) (p2 &&& (2147483647 : Int32)))), .val (.int (p6 &&& (3 : Int32))), .val (.int (own_px p6 (2 : Int32))), .val (.int (own_px p6 (4 : Int32))), .unset, .unset, .unset, .unset, .unset, .unset, .unset, .unset, .unset, .unset, .unset, .unset, .unset, .unset, .unset, .unset, .unset, .unset, .unset, .unset, .unset, .unset, .unset] [(.int (((p6.toUInt32 >>> ((6 : Int32) &&& 31).toUInt32).toInt32) &&& (3 : Int32)))])) _
    refine XS.iconst X7.here hx rfl (hb hby at_43) ?_
    show Steps p.tables e below (T7.setTop (mkF m 44 #[.val (.int p1), .val (.int p2), .val (.int p3), .val (.int p4), .val (.int p5), .val (.int p6), .val (.int (own_max (1 : Int32) (p2 &&& (2147483647 : Int32)))), .val (.int (p6 &&& (3 : Int32))), .val (.int (own_px p6 (2 : Int32))), .val (.int (own_px p6 (4 : Int32))), .unset, .unset, .unset, .unset, .unset, .unset, .unset, .unset, .unset, .unset, .unset, .unset, .unset, .unset, .unset, .unset, .unset, .unset, .unset, .unset, .unset, .unset, .unset] [(.int (3 : Int32)), (.int (((p6.toUInt32 >>> ((6 : Int32) &&& 31).toUInt32).toInt32) &&& (3 : Int32)))])) _
    refine iremM X7 hx rfl (hb hby at_44) rfl (by decide) ?_
    show Steps p.tables e below (T7.setTop (mkF m 45 #[.val (.int p1), .val (.int p2), .val (.int p3), .val (.int p4), .val (.int p5), .val (.int p6), .val (.int (own_max (1 : Int32) (p2 &&& (2147483647 : Int32)))), .val (.int (p6 &&& (3 : Int32))), .val (.int (own_px p6 (2 : Int32))), .val (.int (own_px p6 (4 : Int32))), .unset, .unset, .unset, .unset, .unset, .unset, .unset, .unset, .unset, .unset, .unset, .unset, .unset, .unset, .unset, .unset, .unset, .unset, .unset, .unset, .unset, .unset, .unset] [(.int (own_px p6 (6 : Int32)))])) _
    refine XS.istore X7.here hx rfl (hb hby at_45) rfl (l' := #[.val (.int p1), .val (.int p2), .val (.int p3), .val (.int p4), .val (.int p5), .val (.int p6), .val (.int (own_max (1 : Int32) (p2 &&& (2147483647 : Int32)))), .val (.int (p6 &&& (3 : Int32))), .val (.int (own_px p6 (2 : Int32))), .val (.int (own_px p6 (4 : Int32))), .val (.int (own_px p6 (6 : Int32))), .unset, .unset, .unset, .unset, .unset, .unset, .unset, .unset, .unset, .unset, .unset, .unset, .unset, .unset, .unset, .unset, .unset, .unset, .unset, .unset, .unset, .unset]) rfl ?_
    show Steps p.tables e below (T7.setTop (mkF m 47 #[.val (.int p1), .val (.int p2), .val (.int p3), .val (.int p4), .val (.int p5), .val (.int p6), .val (.int (own_max (1 : Int32) (p2 &&& (2147483647 : Int32)))), .val (.int (p6 &&& (3 : Int32))), .val (.int (own_px p6 (2 : Int32))), .val (.int (own_px p6 (4 : Int32))), .val (.int (own_px p6 (6 : Int32))), .unset, .unset, .unset, .unset, .unset, .unset, .unset, .unset, .unset, .unset, .unset, .unset, .unset, .unset, .unset, .unset, .unset, .unset, .unset, .unset, .unset, .unset] [])) _
    refine XS.iconst X7.here hx rfl (hb hby at_47) ?_
    show Steps p.tables e below (T7.setTop (mkF m 48 #[.val (.int p1), .val (.int p2), .val (.int p3), .val (.int p4), .val (.int p5), .val (.int p6), .val (.int (own_max (1 : Int32) (p2 &&& (2147483647 : Int32)))), .val (.int (p6 &&& (3 : Int32))), .val (.int (own_px p6 (2 : Int32))), .val (.int (own_px p6 (4 : Int32))), .val (.int (own_px p6 (6 : Int32))), .unset, .unset, .unset, .unset, .unset, .unset, .unset, .unset, .unset, .unset, .unset, .unset, .unset, .unset, .unset, .unset, .unset, .unset, .unset, .unset, .unset, .unset] [(.int (3 : Int32))])) _
    refine st8 _ ?_
    show Steps p.tables e below (T8.setTop (mkF m 50 #[.val (.int p1), .val (.int p2), .val (.int p3), .val (.int p4), .val (.int p5), .val (.int p6), .val (.int (own_max (1 : Int32) (p2 &&& (2147483647 : Int32)))), .val (.int (p6 &&& (3 : Int32))), .val (.int (own_px p6 (2 : Int32))), .val (.int (own_px p6 (4 : Int32))), .val (.int (own_px p6 (6 : Int32))), .unset, .unset, .unset, .unset, .unset, .unset, .unset, .unset, .unset, .unset, .unset, .unset, .unset, .unset, .unset, .unset, .unset, .unset, .unset, .unset, .unset, .unset] [(.ref b8)])) _
    refine XS.dup X8.here hx rfl (hb hby at_50) rfl rfl ?_
    show Steps p.tables e below (T8.setTop (mkF m 51 #[.val (.int p1), .val (.int p2), .val (.int p3), .val (.int p4), .val (.int p5), .val (.int p6), .val (.int (own_max (1 : Int32) (p2 &&& (2147483647 : Int32)))), .val (.int (p6 &&& (3 : Int32))), .val (.int (own_px p6 (2 : Int32))), .val (.int (own_px p6 (4 : Int32))), .val (.int (own_px p6 (6 : Int32))), .unset, .unset, .unset, .unset, .unset, .unset, .unset, .unset, .unset, .unset, .unset, .unset, .unset, .unset, .unset, .unset, .unset, .unset, .unset, .unset, .unset, .unset] [(.ref b8), (.ref b8)])) _
    refine XS.iconst X8.here hx rfl (hb hby at_51) ?_
    show Steps p.tables e below (T8.setTop (mkF m 52 #[.val (.int p1), .val (.int p2), .val (.int p3), .val (.int p4), .val (.int p5), .val (.int p6), .val (.int (own_max (1 : Int32) (p2 &&& (2147483647 : Int32)))), .val (.int (p6 &&& (3 : Int32))), .val (.int (own_px p6 (2 : Int32))), .val (.int (own_px p6 (4 : Int32))), .val (.int (own_px p6 (6 : Int32))), .unset, .unset, .unset, .unset, .unset, .unset, .unset, .unset, .unset, .unset, .unset, .unset, .unset, .unset, .unset, .unset, .unset, .unset, .unset, .unset, .unset, .unset] [(.int (0 : Int32)), (.ref b8), (.ref b8)])) _
    refine XS.iloadN X8.here hx rfl (hb hby at_52) rfl ?_
    show Steps p.tables e below (T8.setTop (mkF m 53 #[.val (.int p1), .val (.int p2), .val (.int p3), .val (.int p4), .val (.int p5), .val (.int p6), .val (.int (own_max (1 : Int32) (p2 &&& (2147483647 : Int32)))), .val (.int (p6 &&& (3 : Int32))), .val (.int (own_px p6 (2 : Int32))), .val (.int (own_px p6 (4 : Int32))), .val (.int (own_px p6 (6 : Int32))), .unset, .unset, .unset, .unset, .unset, .unset, .unset, .unset, .unset, .unset, .unset, .unset, .unset, .unset, .unset, .unset, .unset, .unset, .unset, .unset, .unset, .unset] [(.int p3), (.int (0 : Int32)), (.ref b8), (.ref b8)])) _
    refine st9 _ ?_
    show Steps p.tables e below (T9.setTop (mkF m 54 #[.val (.int p1), .val (.int p2), .val (.int p3), .val (.int p4), .val (.int p5), .val (.int p6), .val (.int (own_max (1 : Int32) (p2 &&& (2147483647 : Int32)))), .val (.int (p6 &&& (3 : Int32))), .val (.int (own_px p6 (2 : Int32))), .val (.int (own_px p6 (4 : Int32))), .val (.int (own_px p6 (6 : Int32))), .unset, .unset, .unset, .unset, .unset, .unset, .unset, .unset, .unset, .unset, .unset, .unset, .unset, .unset, .unset, .unset, .unset, .unset, .unset, .unset, .unset, .unset] [(.ref b8)])) _
    refine XS.dup X9.here hx rfl (hb hby at_54) rfl rfl ?_
    show Steps p.tables e below (T9.setTop (mkF m 55 #[.val (.int p1), .val (.int p2), .val (.int p3), .val (.int p4), .val (.int p5), .val (.int p6), .val (.int (own_max (1 : Int32) (p2 &&& (2147483647 : Int32)))), .val (.int (p6 &&& (3 : Int32))), .val (.int (own_px p6 (2 : Int32))), .val (.int (own_px p6 (4 : Int32))), .val (.int (own_px p6 (6 : Int32))), .unset, .unset, .unset, .unset, .unset, .unset, .unset, .unset, .unset, .unset, .unset, .unset, .unset, .unset, .unset, .unset, .unset, .unset, .unset, .unset, .unset, .unset] [(.ref b8), (.ref b8)])) _
    refine XS.iconst X9.here hx rfl (hb hby at_55) ?_
    show Steps p.tables e below (T9.setTop (mkF m 56 #[.val (.int p1), .val (.int p2), .val (.int p3), .val (.int p4), .val (.int p5), .val (.int p6), .val (.int (own_max (1 : Int32) (p2 &&& (2147483647 : Int32)))), .val (.int (p6 &&& (3 : Int32))), .val (.int (own_px p6 (2 : Int32))), .val (.int (own_px p6 (4 : Int32))), .val (.int (own_px p6 (6 : Int32))), .unset, .unset, .unset, .unset, .unset, .unset, .unset, .unset, .unset, .unset, .unset, .unset, .unset, .unset, .unset, .unset, .unset, .unset, .unset, .unset, .unset, .unset] [(.int (1 : Int32)), (.ref b8), (.ref b8)])) _
    refine XS.iloadN X9.here hx rfl (hb hby at_56) rfl ?_
    show Steps p.tables e below (T9.setTop (mkF m 57 #[.val (.int p1), .val (.int p2), .val (.int p3), .val (.int p4), .val (.int p5), .val (.int p6), .val (.int (own_max (1 : Int32) (p2 &&& (2147483647 : Int32)))), .val (.int (p6 &&& (3 : Int32))), .val (.int (own_px p6 (2 : Int32))), .val (.int (own_px p6 (4 : Int32))), .val (.int (own_px p6 (6 : Int32))), .unset, .unset, .unset, .unset, .unset, .unset, .unset, .unset, .unset, .unset, .unset, .unset, .unset, .unset, .unset, .unset, .unset, .unset, .unset, .unset, .unset, .unset] [(.int p4), (.int (1 : Int32)), (.ref b8), (.ref b8)])) _
    refine st10 _ ?_
    show Steps p.tables e below (T10.setTop (mkF m 58 #[.val (.int p1), .val (.int p2), .val (.int p3), .val (.int p4), .val (.int p5), .val (.int p6), .val (.int (own_max (1 : Int32) (p2 &&& (2147483647 : Int32)))), .val (.int (p6 &&& (3 : Int32))), .val (.int (own_px p6 (2 : Int32))), .val (.int (own_px p6 (4 : Int32))), .val (.int (own_px p6 (6 : Int32))), .unset, .unset, .unset, .unset, .unset, .unset, .unset, .unset, .unset, .unset, .unset, .unset, .unset, .unset, .unset, .unset, .unset, .unset, .unset, .unset, .unset, .unset] [(.ref b8)])) _
    refine XS.dup X10.here hx rfl (hb hby at_58) rfl rfl ?_
    show Steps p.tables e below (T10.setTop (mkF m 59 #[.val (.int p1), .val (.int p2), .val (.int p3), .val (.int p4), .val (.int p5), .val (.int p6), .val (.int (own_max (1 : Int32) (p2 &&& (2147483647 : Int32)))), .val (.int (p6 &&& (3 : Int32))), .val (.int (own_px p6 (2 : Int32))), .val (.int (own_px p6 (4 : Int32))), .val (.int (own_px p6 (6 : Int32))), .unset, .unset, .unset, .unset, .unset, .unset, .unset, .unset, .unset, .unset, .unset, .unset, .unset, .unset, .unset, .unset, .unset, .unset, .unset, .unset, .unset, .unset] [(.ref b8), (.ref b8)])) _
    refine XS.iconst X10.here hx rfl (hb hby at_59) ?_
    show Steps p.tables e below (T10.setTop (mkF m 60 #[.val (.int p1), .val (.int p2), .val (.int p3), .val (.int p4), .val (.int p5), .val (.int p6), .val (.int (own_max (1 : Int32) (p2 &&& (2147483647 : Int32)))), .val (.int (p6 &&& (3 : Int32))), .val (.int (own_px p6 (2 : Int32))), .val (.int (own_px p6 (4 : Int32))), .val (.int (own_px p6 (6 : Int32))), .unset, .unset, .unset, .unset, .unset, .unset, .unset, .unset, .unset, .unset, .unset, .unset, .unset, .unset, .unset, .unset, .unset, .unset, .unset, .unset, .unset, .unset] [(.int (2 : Int32)), (.ref b8), (.ref b8)])) _
    refine XS.iload X10.here hx rfl (hb hby at_60) rfl ?_
    show Steps p.tables e below (T10.setTop (mkF m 62 #[.val (.int p1), .val (.int p2), .val (.int p3), .val (.int p4), .val (.int p5), .val (.int p6), .val (.int (own_max (1 : Int32) (p2 &&& (2147483647 : Int32)))), .val (.int (p6 &&& (3 : Int32))), .val (.int (own_px p6 (2 : Int32))), .val (.int (own_px p6 (4 : Int32))), .val (.int (own_px p6 (6 : Int32))), .unset, .unset, .unset, .unset, .unset, .unset, .unset, .unset, .unset, .unset, .unset, .unset, .unset, .unset, .unset, .unset, .unset, .unset, .unset, .unset, .unset, .unset] [(.int p5), (.int (2 : Int32)), (.ref b8), (.ref b8)])) _
    refine st11 _ ?_
    show Steps p.tables e below (T11.setTop (mkF m 63 #[.val (.int p1), .val (.int p2), .val (.int p3), .val (.int p4), .val (.int p5), .val (.int p6), .val (.int (own_max (1 : Int32) (p2 &&& (2147483647 : Int32)))), .val (.int (p6 &&& (3 : Int32))), .val (.int (own_px p6 (2 : Int32))), .val (.int (own_px p6 (4 : Int32))), .val (.int (own_px p6 (6 : Int32))), .unset, .unset, .unset, .unset, .unset, .unset, .unset, .unset, .unset, .unset, .unset, .unset, .unset, .unset, .unset, .unset, .unset, .unset, .unset, .unset, .unset, .unset] [(.ref b8)])) _
    refine XS.astore X11.here hx rfl (hb hby at_63) rfl rfl (l' := #[.val (.int p1), .val (.int p2), .val (.int p3), .val (.int p4), .val (.int p5), .val (.int p6), .val (.int (own_max (1 : Int32) (p2 &&& (2147483647 : Int32)))), .val (.int (p6 &&& (3 : Int32))), .val (.int (own_px p6 (2 : Int32))), .val (.int (own_px p6 (4 : Int32))), .val (.int (own_px p6 (6 : Int32))), .val (.ref b8), .unset, .unset, .unset, .unset, .unset, .unset, .unset, .unset, .unset, .unset, .unset, .unset, .unset, .unset, .unset, .unset, .unset, .unset, .unset, .unset, .unset]) rfl ?_
    show Steps p.tables e below (T11.setTop (mkF m 65 #[.val (.int p1), .val (.int p2), .val (.int p3), .val (.int p4), .val (.int p5), .val (.int p6), .val (.int (own_max (1 : Int32) (p2 &&& (2147483647 : Int32)))), .val (.int (p6 &&& (3 : Int32))), .val (.int (own_px p6 (2 : Int32))), .val (.int (own_px p6 (4 : Int32))), .val (.int (own_px p6 (6 : Int32))), .val (.ref b8), .unset, .unset, .unset, .unset, .unset, .unset, .unset, .unset, .unset, .unset, .unset, .unset, .unset, .unset, .unset, .unset, .unset, .unset, .unset, .unset, .unset] [])) _
    refine XS.aload X11.here hx rfl (hb hby at_65) rfl rfl ?_
    show Steps p.tables e below (T11.setTop (mkF m 67 #[.val (.int p1), .val (.int p2), .val (.int p3), .val (.int p4), .val (.int p5), .val (.int p6), .val (.int (own_max (1 : Int32) (p2 &&& (2147483647 : Int32)))), .val (.int (p6 &&& (3 : Int32))), .val (.int (own_px p6 (2 : Int32))), .val (.int (own_px p6 (4 : Int32))), .val (.int (own_px p6 (6 : Int32))), .val (.ref b8), .unset, .unset, .unset, .unset, .unset, .unset, .unset, .unset, .unset, .unset, .unset, .unset, .unset, .unset, .unset, .unset, .unset, .unset, .unset, .unset, .unset] [(.ref b8)])) _
    refine XS.iload X11.here hx rfl (hb hby at_67) rfl ?_
    show Steps p.tables e below (T11.setTop (mkF m 69 #[.val (.int p1), .val (.int p2), .val (.int p3), .val (.int p4), .val (.int p5), .val (.int p6), .val (.int (own_max (1 : Int32) (p2 &&& (2147483647 : Int32)))), .val (.int (p6 &&& (3 : Int32))), .val (.int (own_px p6 (2 : Int32))), .val (.int (own_px p6 (4 : Int32))), .val (.int (own_px p6 (6 : Int32))), .val (.ref b8), .unset, .unset, .unset, .unset, .unset, .unset, .unset, .unset, .unset, .unset, .unset, .unset, .unset, .unset, .unset, .unset, .unset, .unset, .unset, .unset, .unset] [(.int (own_px p6 (2 : Int32))), (.ref b8)])) _
    refine X11.iaload hx (j := (own_px p6 (2 : Int32))) (v := (.int w12)) (by rw [e11]; exact Ar_b8.1) (State.isArrayOf_alike hZ.alike Ar_b8.2.1) Ar_b8.2.2 hin69 hat69 (g := (mkF m 69 #[.val (.int p1), .val (.int p2), .val (.int p3), .val (.int p4), .val (.int p5), .val (.int p6), .val (.int (own_max (1 : Int32) (p2 &&& (2147483647 : Int32)))), .val (.int (p6 &&& (3 : Int32))), .val (.int (own_px p6 (2 : Int32))), .val (.int (own_px p6 (4 : Int32))), .val (.int (own_px p6 (6 : Int32))), .val (.ref b8), .unset, .unset, .unset, .unset, .unset, .unset, .unset, .unset, .unset, .unset, .unset, .unset, .unset, .unset, .unset, .unset, .unset, .unset, .unset, .unset, .unset] [(.int (own_px p6 (2 : Int32))), (.ref b8)])) rfl rfl (hb hby at_69) _ ?_
    show Steps p.tables e below (T11.setTop (mkF m 70 #[.val (.int p1), .val (.int p2), .val (.int p3), .val (.int p4), .val (.int p5), .val (.int p6), .val (.int (own_max (1 : Int32) (p2 &&& (2147483647 : Int32)))), .val (.int (p6 &&& (3 : Int32))), .val (.int (own_px p6 (2 : Int32))), .val (.int (own_px p6 (4 : Int32))), .val (.int (own_px p6 (6 : Int32))), .val (.ref b8), .unset, .unset, .unset, .unset, .unset, .unset, .unset, .unset, .unset, .unset, .unset, .unset, .unset, .unset, .unset, .unset, .unset, .unset, .unset, .unset, .unset] [(.int w12)])) _
    refine XS.i2l X11.here hx rfl (hb hby at_70) rfl ?_
    show Steps p.tables e below (T11.setTop (mkF m 71 #[.val (.int p1), .val (.int p2), .val (.int p3), .val (.int p4), .val (.int p5), .val (.int p6), .val (.int (own_max (1 : Int32) (p2 &&& (2147483647 : Int32)))), .val (.int (p6 &&& (3 : Int32))), .val (.int (own_px p6 (2 : Int32))), .val (.int (own_px p6 (4 : Int32))), .val (.int (own_px p6 (6 : Int32))), .val (.ref b8), .unset, .unset, .unset, .unset, .unset, .unset, .unset, .unset, .unset, .unset, .unset, .unset, .unset, .unset, .unset, .unset, .unset, .unset, .unset, .unset, .unset] [(.long (w12.toInt64))])) _
    refine XS.lstore X11.here hx rfl (hb hby at_71) rfl (l' := #[.val (.int p1), .val (.int p2), .val (.int p3), .val (.int p4), .val (.int p5), .val (.int p6), .val (.int (own_max (1 : Int32) (p2 &&& (2147483647 : Int32)))), .val (.int (p6 &&& (3 : Int32))), .val (.int (own_px p6 (2 : Int32))), .val (.int (own_px p6 (4 : Int32))), .val (.int (own_px p6 (6 : Int32))), .val (.ref b8), .val (.long (w12.toInt64)), .second, .unset, .unset, .unset, .unset, .unset, .unset, .unset, .unset, .unset, .unset, .unset, .unset, .unset, .unset, .unset, .unset, .unset, .unset, .unset]) rfl ?_
    show Steps p.tables e below (T11.setTop (mkF m 73 #[.val (.int p1), .val (.int p2), .val (.int p3), .val (.int p4), .val (.int p5), .val (.int p6), .val (.int (own_max (1 : Int32) (p2 &&& (2147483647 : Int32)))), .val (.int (p6 &&& (3 : Int32))), .val (.int (own_px p6 (2 : Int32))), .val (.int (own_px p6 (4 : Int32))), .val (.int (own_px p6 (6 : Int32))), .val (.ref b8), .val (.long (w12.toInt64)), .second, .unset, .unset, .unset, .unset, .unset, .unset, .unset, .unset, .unset, .unset, .unset, .unset, .unset, .unset, .unset, .unset, .unset, .unset, .unset] [])) _
    refine XS.aload X11.here hx rfl (hb hby at_73) rfl rfl ?_
    show Steps p.tables e below (T11.setTop (mkF m 75 #[.val (.int p1), .val (.int p2), .val (.int p3), .val (.int p4), .val (.int p5), .val (.int p6), .val (.int (own_max (1 : Int32) (p2 &&& (2147483647 : Int32)))), .val (.int (p6 &&& (3 : Int32))), .val (.int (own_px p6 (2 : Int32))), .val (.int (own_px p6 (4 : Int32))), .val (.int (own_px p6 (6 : Int32))), .val (.ref b8), .val (.long (w12.toInt64)), .second, .unset, .unset, .unset, .unset, .unset, .unset, .unset, .unset, .unset, .unset, .unset, .unset, .unset, .unset, .unset, .unset, .unset, .unset, .unset] [(.ref b8)])) _
    refine XS.iload X11.here hx rfl (hb hby at_75) rfl ?_
    show Steps p.tables e below (T11.setTop (mkF m 77 #[.val (.int p1), .val (.int p2), .val (.int p3), .val (.int p4), .val (.int p5), .val (.int p6), .val (.int (own_max (1 : Int32) (p2 &&& (2147483647 : Int32)))), .val (.int (p6 &&& (3 : Int32))), .val (.int (own_px p6 (2 : Int32))), .val (.int (own_px p6 (4 : Int32))), .val (.int (own_px p6 (6 : Int32))), .val (.ref b8), .val (.long (w12.toInt64)), .second, .unset, .unset, .unset, .unset, .unset, .unset, .unset, .unset, .unset, .unset, .unset, .unset, .unset, .unset, .unset, .unset, .unset, .unset, .unset] [(.int (own_px p6 (4 : Int32))), (.ref b8)])) _
    refine X11.iaload hx (j := (own_px p6 (4 : Int32))) (v := (.int w13)) (by rw [e11]; exact Ar_b8.1) (State.isArrayOf_alike hZ.alike Ar_b8.2.1) Ar_b8.2.2 hin77 hat77 (g := (mkF m 77 #[.val (.int p1), .val (.int p2), .val (.int p3), .val (.int p4), .val (.int p5), .val (.int p6), .val (.int (own_max (1 : Int32) (p2 &&& (2147483647 : Int32)))), .val (.int (p6 &&& (3 : Int32))), .val (.int (own_px p6 (2 : Int32))), .val (.int (own_px p6 (4 : Int32))), .val (.int (own_px p6 (6 : Int32))), .val (.ref b8), .val (.long (w12.toInt64)), .second, .unset, .unset, .unset, .unset, .unset, .unset, .unset, .unset, .unset, .unset, .unset, .unset, .unset, .unset, .unset, .unset, .unset, .unset, .unset] [(.int (own_px p6 (4 : Int32))), (.ref b8)])) rfl rfl (hb hby at_77) _ ?_
    show Steps p.tables e below (T11.setTop (mkF m 78 #[.val (.int p1), .val (.int p2), .val (.int p3), .val (.int p4), .val (.int p5), .val (.int p6), .val (.int (own_max (1 : Int32) (p2 &&& (2147483647 : Int32)))), .val (.int (p6 &&& (3 : Int32))), .val (.int (own_px p6 (2 : Int32))), .val (.int (own_px p6 (4 : Int32))), .val (.int (own_px p6 (6 : Int32))), .val (.ref b8), .val (.long (w12.toInt64)), .second, .unset, .unset, .unset, .unset, .unset, .unset, .unset, .unset, .unset, .unset, .unset, .unset, .unset, .unset, .unset, .unset, .unset, .unset, .unset] [(.int w13)])) _
    refine XS.i2l X11.here hx rfl (hb hby at_78) rfl ?_
    show Steps p.tables e below (T11.setTop (mkF m 79 #[.val (.int p1), .val (.int p2), .val (.int p3), .val (.int p4), .val (.int p5), .val (.int p6), .val (.int (own_max (1 : Int32) (p2 &&& (2147483647 : Int32)))), .val (.int (p6 &&& (3 : Int32))), .val (.int (own_px p6 (2 : Int32))), .val (.int (own_px p6 (4 : Int32))), .val (.int (own_px p6 (6 : Int32))), .val (.ref b8), .val (.long (w12.toInt64)), .second, .unset, .unset, .unset, .unset, .unset, .unset, .unset, .unset, .unset, .unset, .unset, .unset, .unset, .unset, .unset, .unset, .unset, .unset, .unset] [(.long (w13.toInt64))])) _
    refine XS.lstore X11.here hx rfl (hb hby at_79) rfl (l' := #[.val (.int p1), .val (.int p2), .val (.int p3), .val (.int p4), .val (.int p5), .val (.int p6), .val (.int (own_max (1 : Int32) (p2 &&& (2147483647 : Int32)))), .val (.int (p6 &&& (3 : Int32))), .val (.int (own_px p6 (2 : Int32))), .val (.int (own_px p6 (4 : Int32))), .val (.int (own_px p6 (6 : Int32))), .val (.ref b8), .val (.long (w12.toInt64)), .second, .val (.long (w13.toInt64)), .second, .unset, .unset, .unset, .unset, .unset, .unset, .unset, .unset, .unset, .unset, .unset, .unset, .unset, .unset, .unset, .unset, .unset]) rfl ?_
    show Steps p.tables e below (T11.setTop (mkF m 81 #[.val (.int p1), .val (.int p2), .val (.int p3), .val (.int p4), .val (.int p5), .val (.int p6), .val (.int (own_max (1 : Int32) (p2 &&& (2147483647 : Int32)))), .val (.int (p6 &&& (3 : Int32))), .val (.int (own_px p6 (2 : Int32))), .val (.int (own_px p6 (4 : Int32))), .val (.int (own_px p6 (6 : Int32))), .val (.ref b8), .val (.long (w12.toInt64)), .second, .val (.long (w13.toInt64)), .second, .unset, .unset, .unset, .unset, .unset, .unset, .unset, .unset, .unset, .unset, .unset, .unset, .unset, .unset, .unset, .unset, .unset] [])) _
    refine XS.aload X11.here hx rfl (hb hby at_81) rfl rfl ?_
    show Steps p.tables e below (T11.setTop (mkF m 83 #[.val (.int p1), .val (.int p2), .val (.int p3), .val (.int p4), .val (.int p5), .val (.int p6), .val (.int (own_max (1 : Int32) (p2 &&& (2147483647 : Int32)))), .val (.int (p6 &&& (3 : Int32))), .val (.int (own_px p6 (2 : Int32))), .val (.int (own_px p6 (4 : Int32))), .val (.int (own_px p6 (6 : Int32))), .val (.ref b8), .val (.long (w12.toInt64)), .second, .val (.long (w13.toInt64)), .second, .unset, .unset, .unset, .unset, .unset, .unset, .unset, .unset, .unset, .unset, .unset, .unset, .unset, .unset, .unset, .unset, .unset] [(.ref b8)])) _
    refine XS.iload X11.here hx rfl (hb hby at_83) rfl ?_
    show Steps p.tables e below (T11.setTop (mkF m 85 #[.val (.int p1), .val (.int p2), .val (.int p3), .val (.int p4), .val (.int p5), .val (.int p6), .val (.int (own_max (1 : Int32) (p2 &&& (2147483647 : Int32)))), .val (.int (p6 &&& (3 : Int32))), .val (.int (own_px p6 (2 : Int32))), .val (.int (own_px p6 (4 : Int32))), .val (.int (own_px p6 (6 : Int32))), .val (.ref b8), .val (.long (w12.toInt64)), .second, .val (.long (w13.toInt64)), .second, .unset, .unset, .unset, .unset, .unset, .unset, .unset, .unset, .unset, .unset, .unset, .unset, .unset, .unset, .unset, .unset, .unset] [(.int (own_px p6 (6 : Int32))), (.ref b8)])) _
    refine X11.iaload hx (j := (own_px p6 (6 : Int32))) (v := (.int w14)) (by rw [e11]; exact Ar_b8.1) (State.isArrayOf_alike hZ.alike Ar_b8.2.1) Ar_b8.2.2 hin85 hat85 (g := (mkF m 85 #[.val (.int p1), .val (.int p2), .val (.int p3), .val (.int p4), .val (.int p5), .val (.int p6), .val (.int (own_max (1 : Int32) (p2 &&& (2147483647 : Int32)))), .val (.int (p6 &&& (3 : Int32))), .val (.int (own_px p6 (2 : Int32))), .val (.int (own_px p6 (4 : Int32))), .val (.int (own_px p6 (6 : Int32))), .val (.ref b8), .val (.long (w12.toInt64)), .second, .val (.long (w13.toInt64)), .second, .unset, .unset, .unset, .unset, .unset, .unset, .unset, .unset, .unset, .unset, .unset, .unset, .unset, .unset, .unset, .unset, .unset] [(.int (own_px p6 (6 : Int32))), (.ref b8)])) rfl rfl (hb hby at_85) _ ?_
    show Steps p.tables e below (T11.setTop (mkF m 86 #[.val (.int p1), .val (.int p2), .val (.int p3), .val (.int p4), .val (.int p5), .val (.int p6), .val (.int (own_max (1 : Int32) (p2 &&& (2147483647 : Int32)))), .val (.int (p6 &&& (3 : Int32))), .val (.int (own_px p6 (2 : Int32))), .val (.int (own_px p6 (4 : Int32))), .val (.int (own_px p6 (6 : Int32))), .val (.ref b8), .val (.long (w12.toInt64)), .second, .val (.long (w13.toInt64)), .second, .unset, .unset, .unset, .unset, .unset, .unset, .unset, .unset, .unset, .unset, .unset, .unset, .unset, .unset, .unset, .unset, .unset] [(.int w14)])) _
    refine XS.i2l X11.here hx rfl (hb hby at_86) rfl ?_
    show Steps p.tables e below (T11.setTop (mkF m 87 #[.val (.int p1), .val (.int p2), .val (.int p3), .val (.int p4), .val (.int p5), .val (.int p6), .val (.int (own_max (1 : Int32) (p2 &&& (2147483647 : Int32)))), .val (.int (p6 &&& (3 : Int32))), .val (.int (own_px p6 (2 : Int32))), .val (.int (own_px p6 (4 : Int32))), .val (.int (own_px p6 (6 : Int32))), .val (.ref b8), .val (.long (w12.toInt64)), .second, .val (.long (w13.toInt64)), .second, .unset, .unset, .unset, .unset, .unset, .unset, .unset, .unset, .unset, .unset, .unset, .unset, .unset, .unset, .unset, .unset, .unset] [(.long (w14.toInt64))])) _
    refine XS.lstore X11.here hx rfl (hb hby at_87) rfl (l' := #[.val (.int p1), .val (.int p2), .val (.int p3), .val (.int p4), .val (.int p5), .val (.int p6), .val (.int (own_max (1 : Int32) (p2 &&& (2147483647 : Int32)))), .val (.int (p6 &&& (3 : Int32))), .val (.int (own_px p6 (2 : Int32))), .val (.int (own_px p6 (4 : Int32))), .val (.int (own_px p6 (6 : Int32))), .val (.ref b8), .val (.long (w12.toInt64)), .second, .val (.long (w13.toInt64)), .second, .val (.long (w14.toInt64)), .second, .unset, .unset, .unset, .unset, .unset, .unset, .unset, .unset, .unset, .unset, .unset, .unset, .unset, .unset, .unset]) rfl ?_
    show Steps p.tables e below (T11.setTop (mkF m 89 #[.val (.int p1), .val (.int p2), .val (.int p3), .val (.int p4), .val (.int p5), .val (.int p6), .val (.int (own_max (1 : Int32) (p2 &&& (2147483647 : Int32)))), .val (.int (p6 &&& (3 : Int32))), .val (.int (own_px p6 (2 : Int32))), .val (.int (own_px p6 (4 : Int32))), .val (.int (own_px p6 (6 : Int32))), .val (.ref b8), .val (.long (w12.toInt64)), .second, .val (.long (w13.toInt64)), .second, .val (.long (w14.toInt64)), .second, .unset, .unset, .unset, .unset, .unset, .unset, .unset, .unset, .unset, .unset, .unset, .unset, .unset, .unset, .unset] [])) _
    refine XS.iloadN X11.here hx rfl (hb hby at_89) rfl ?_
    show Steps p.tables e below (T11.setTop (mkF m 90 #[.val (.int p1), .val (.int p2), .val (.int p3), .val (.int p4), .val (.int p5), .val (.int p6), .val (.int (own_max (1 : Int32) (p2 &&& (2147483647 : Int32)))), .val (.int (p6 &&& (3 : Int32))), .val (.int (own_px p6 (2 : Int32))), .val (.int (own_px p6 (4 : Int32))), .val (.int (own_px p6 (6 : Int32))), .val (.ref b8), .val (.long (w12.toInt64)), .second, .val (.long (w13.toInt64)), .second, .val (.long (w14.toInt64)), .second, .unset, .unset, .unset, .unset, .unset, .unset, .unset, .unset, .unset, .unset, .unset, .unset, .unset, .unset, .unset] [(.int p1)])) _
    refine XS.i2l X11.here hx rfl (hb hby at_90) rfl ?_
    show Steps p.tables e below (T11.setTop (mkF m 91 #[.val (.int p1), .val (.int p2), .val (.int p3), .val (.int p4), .val (.int p5), .val (.int p6), .val (.int (own_max (1 : Int32) (p2 &&& (2147483647 : Int32)))), .val (.int (p6 &&& (3 : Int32))), .val (.int (own_px p6 (2 : Int32))), .val (.int (own_px p6 (4 : Int32))), .val (.int (own_px p6 (6 : Int32))), .val (.ref b8), .val (.long (w12.toInt64)), .second, .val (.long (w13.toInt64)), .second, .val (.long (w14.toInt64)), .second, .unset, .unset, .unset, .unset, .unset, .unset, .unset, .unset, .unset, .unset, .unset, .unset, .unset, .unset, .unset] [(.long (p1.toInt64))])) _
    refine XS.lstore X11.here hx rfl (hb hby at_91) rfl (l' := #[.val (.int p1), .val (.int p2), .val (.int p3), .val (.int p4), .val (.int p5), .val (.int p6), .val (.int (own_max (1 : Int32) (p2 &&& (2147483647 : Int32)))), .val (.int (p6 &&& (3 : Int32))), .val (.int (own_px p6 (2 : Int32))), .val (.int (own_px p6 (4 : Int32))), .val (.int (own_px p6 (6 : Int32))), .val (.ref b8), .val (.long (w12.toInt64)), .second, .val (.long (w13.toInt64)), .second, .val (.long (w14.toInt64)), .second, .val (.long (p1.toInt64)), .second, .unset, .unset, .unset, .unset, .unset, .unset, .unset, .unset, .unset, .unset, .unset, .unset, .unset]) rfl ?_
    exact kt

set_option maxRecDepth 65536 in
set_option maxHeartbeats 40000000 in
theorem own_B0 {p : Program} {l : Launch} {e : Env} {s : State} {m : MethodId} {args : Array Value} {below : List Frame} {meth : Method} {c : Code} {T0 : State} {locs : List Loc} {Z : State} {a0 : Array Value} {h0 : Heap} (s0 : Slot) (s1 : Slot) (s2 : Slot) (s3 : Slot) (s4 : Slot) (s5 : Slot) (s6 : Slot) (i7 : Int32) (i8 : Int32) (i9 : Int32) (i10 : Int32) (s11 : Slot) (j12 : Int64) (j14 : Int64) (j16 : Int64) (j18 : Int64) (X0 : Stand p l e room_1 s m args below meth c T0 locs 1 3) (hx : p.tables.exec = Jvm.exec) (hZ : Z.Warmed39 s.vm) (hw : ∀ d ∈ tables_1, d.before a0 Z = true) (hby : c.code = code) (hml : c.maxLocals = 33) (hown : s.vm.findClass "org/stratalog/internal/engine/PickerShardOfPinLaw" = some m.cls) (e0 : T0.heap = h0) (n0 : Nat) (Z0 : n0 ≤ h0.size) (N0 : Fr n0 locs) (hc95 : i7 = (0 : Int32)) :
    ∃ (T' : State) (h' : Heap) (locs' : List Loc) (b7 : Addr) (cl : Cell), Stand p l e room_1 s m args below meth c T' locs' 2 3 ∧ T'.heap = h' ∧ Fr n0 locs' ∧ n0 ≤ h'.size ∧ Keep h0 h' [] ∧ Arr Z h' b7 cl .int ∧ cl.slots.size = (Int32.ofNat 0).toNatClampNeg ∧ (∀ j, j < 0 → cl.slots[j]? = some (.int (own_p3 i8 i9 i10 j))) ∧
      ∀ target, Steps p.tables e below (T'.setTop (mkF m 239 #[s0, s1, s2, s3, s4, s5, s6, .val (.int i7), .val (.int i8), .val (.int i9), .val (.int i10), s11, .val (.long j12), .second, .val (.long j14), .second, .val (.long j16), .second, .val (.long j18), .second, .val (.ref b7), .val (.long j18), .second, .unset, .unset, .unset, .unset, .unset, .unset, .unset, .unset, .unset, .unset] [])) target → Steps p.tables e below (T0.setTop (mkF m 93 #[s0, s1, s2, s3, s4, s5, s6, .val (.int i7), .val (.int i8), .val (.int i9), .val (.int i10), s11, .val (.long j12), .second, .val (.long j14), .second, .val (.long j16), .second, .val (.long j18), .second, .unset, .unset, .unset, .unset, .unset, .unset, .unset, .unset, .unset, .unset, .unset, .unset, .unset] [])) target := by
  obtain ⟨T7, h7, k7, X7, e7, E7, A7, st7⟩ := newP X0 hx hZ (hw _ (List.mem_of_getElem? (i := 5) rfl)) e0 (g := (mkF m 99 #[s0, s1, s2, s3, s4, s5, s6, .val (.int i7), .val (.int i8), .val (.int i9), .val (.int i10), s11, .val (.long j12), .second, .val (.long j14), .second, .val (.long j16), .second, .val (.long j18), .second, .unset, .unset, .unset, .unset, .unset, .unset, .unset, .unset, .unset, .unset, .unset, .unset, .unset] [(.int (0 : Int32))])) rfl (hb hby at_99) rfl (by decide) (cap := 0) (by decide) (by decide) (by decide) (by decide)
  obtain ⟨b7, g7⟩ : ∃ z, z = h0.size := ⟨_, rfl⟩
  rw [← g7] at A7 st7
  have V_b7 := Arv.new A7 (by decide)
  have g_b7 : n0 ≤ b7 := Nat.le_trans Z0 (Nat.le_of_eq g7.symm)
  have sz_b7 : h0.size ≤ b7 := (Nat.le_trans (Keep.refl h0 []).1 (Nat.le_of_eq g7.symm))
  have K7 : Keep h0 h7 [] := (Keep.refl h0 []).ext E7
  obtain ⟨cl, Ar, -, S, -, Hs, -⟩ := V_b7
  refine ⟨T7, _, _, b7, cl, X7, e7, N0, Nat.le_trans Z0 K7.1, K7, Ar, S, ?_, fun target kt => ?_⟩
  · intro j hj
    have q := Hs j (by rw [S]; exact hj)
    exact absurd hj (Nat.not_lt_zero j)
  · show Steps p.tables e below (T0.setTop (mkF m 93 #[s0, s1, s2, s3, s4, s5, s6, .val (.int i7), .val (.int i8), .val (.int i9), .val (.int i10), s11, .val (.long j12), .second, .val (.long j14), .second, .val (.long j16), .second, .val (.long j18), .second, .unset, .unset, .unset, .unset, .unset, .unset, .unset, .unset, .unset, .unset, .unset, .unset, .unset] [])) _
    refine XS.iload X0.here hx rfl (hb hby at_93) rfl ?_
    show Steps p.tables e below (T0.setTop (mkF m 95 #[s0, s1, s2, s3, s4, s5, s6, .val (.int i7), .val (.int i8), .val (.int i9), .val (.int i10), s11, .val (.long j12), .second, .val (.long j14), .second, .val (.long j16), .second, .val (.long j18), .second, .unset, .unset, .unset, .unset, .unset, .unset, .unset, .unset, .unset, .unset, .unset, .unset, .unset] [(.int i7)])) _
    refine XS.ifNo X0.here hx rfl (hb hby at_95) rfl ((if0 _ _).trans (teq hc95).2) ?_
    show Steps p.tables e below (T0.setTop (mkF m 98 #[s0, s1, s2, s3, s4, s5, s6, .val (.int i7), .val (.int i8), .val (.int i9), .val (.int i10), s11, .val (.long j12), .second, .val (.long j14), .second, .val (.long j16), .second, .val (.long j18), .second, .unset, .unset, .unset, .unset, .unset, .unset, .unset, .unset, .unset, .unset, .unset, .unset, .unset] [])) _
    refine XS.iconst X0.here hx rfl (hb hby at_98) ?_
    show Steps p.tables e below (T0.setTop (mkF m 99 #[s0, s1, s2, s3, s4, s5, s6, .val (.int i7), .val (.int i8), .val (.int i9), .val (.int i10), s11, .val (.long j12), .second, .val (.long j14), .second, .val (.long j16), .second, .val (.long j18), .second, .unset, .unset, .unset, .unset, .unset, .unset, .unset, .unset, .unset, .unset, .unset, .unset, .unset] [(.int (0 : Int32))])) _
    refine st7 _ ?_
    show Steps p.tables e below (T7.setTop (mkF m 101 #[s0, s1, s2, s3, s4, s5, s6, .val (.int i7), .val (.int i8), .val (.int i9), .val (.int i10), s11, .val (.long j12), .second, .val (.long j14), .second, .val (.long j16), .second, .val (.long j18), .second, .unset, .unset, .unset, .unset, .unset, .unset, .unset, .unset, .unset, .unset, .unset, .unset, .unset] [(.ref b7)])) _
    refine XS.astore X7.here hx rfl (hb hby at_101) rfl rfl (l' := #[s0, s1, s2, s3, s4, s5, s6, .val (.int i7), .val (.int i8), .val (.int i9), .val (.int i10), s11, .val (.long j12), .second, .val (.long j14), .second, .val (.long j16), .second, .val (.long j18), .second, .val (.ref b7), .unset, .unset, .unset, .unset, .unset, .unset, .unset, .unset, .unset, .unset, .unset, .unset]) rfl ?_
    show Steps p.tables e below (T7.setTop (mkF m 103 #[s0, s1, s2, s3, s4, s5, s6, .val (.int i7), .val (.int i8), .val (.int i9), .val (.int i10), s11, .val (.long j12), .second, .val (.long j14), .second, .val (.long j16), .second, .val (.long j18), .second, .val (.ref b7), .unset, .unset, .unset, .unset, .unset, .unset, .unset, .unset, .unset, .unset, .unset, .unset] [])) _
    refine XS.lload X7.here hx rfl (hb hby at_103) rfl ?_
    show Steps p.tables e below (T7.setTop (mkF m 105 #[s0, s1, s2, s3, s4, s5, s6, .val (.int i7), .val (.int i8), .val (.int i9), .val (.int i10), s11, .val (.long j12), .second, .val (.long j14), .second, .val (.long j16), .second, .val (.long j18), .second, .val (.ref b7), .unset, .unset, .unset, .unset, .unset, .unset, .unset, .unset, .unset, .unset, .unset, .unset] [(.long j18)])) _
    refine XS.lstore X7.here hx rfl (hb hby at_105) rfl (l' := #[s0, s1, s2, s3, s4, s5, s6, .val (.int i7), .val (.int i8), .val (.int i9), .val (.int i10), s11, .val (.long j12), .second, .val (.long j14), .second, .val (.long j16), .second, .val (.long j18), .second, .val (.ref b7), .val (.long j18), .second, .unset, .unset, .unset, .unset, .unset, .unset, .unset, .unset, .unset, .unset]) rfl ?_
    show Steps p.tables e below (T7.setTop (mkF m 107 #[s0, s1, s2, s3, s4, s5, s6, .val (.int i7), .val (.int i8), .val (.int i9), .val (.int i10), s11, .val (.long j12), .second, .val (.long j14), .second, .val (.long j16), .second, .val (.long j18), .second, .val (.ref b7), .val (.long j18), .second, .unset, .unset, .unset, .unset, .unset, .unset, .unset, .unset, .unset, .unset] [])) _
    refine XS.goto X7.here hx rfl (pc0 := 107) (pc' := 239) rfl (hb hby at_107) (by decide) (by decide) ?_
    exact kt

set_option maxRecDepth 65536 in
set_option maxHeartbeats 40000000 in
theorem own_B1 {p : Program} {l : Launch} {e : Env} {s : State} {m : MethodId} {args : Array Value} {below : List Frame} {meth : Method} {c : Code} {T0 : State} {locs : List Loc} {Z : State} {a0 : Array Value} {h0 : Heap} (s0 : Slot) (s1 : Slot) (s2 : Slot) (s3 : Slot) (s4 : Slot) (s5 : Slot) (s6 : Slot) (i7 : Int32) (i8 : Int32) (i9 : Int32) (i10 : Int32) (s11 : Slot) (j12 : Int64) (j14 : Int64) (j16 : Int64) (j18 : Int64) (X0 : Stand p l e room_1 s m args below meth c T0 locs 1 3) (hx : p.tables.exec = Jvm.exec) (hZ : Z.Warmed39 s.vm) (hw : ∀ d ∈ tables_1, d.before a0 Z = true) (hby : c.code = code) (hml : c.maxLocals = 33) (hown : s.vm.findClass "org/stratalog/internal/engine/PickerShardOfPinLaw" = some m.cls) (e0 : T0.heap = h0) (n0 : Nat) (Z0 : n0 ≤ h0.size) (N0 : Fr n0 locs) (hc95 : ¬ (i7 = (0 : Int32))) (hc113 : i7 = (1 : Int32)) :
    ∃ (T' : State) (h' : Heap) (locs' : List Loc) (b7 : Addr) (cl : Cell), Stand p l e room_1 s m args below meth c T' locs' 2 4 ∧ T'.heap = h' ∧ Fr n0 locs' ∧ n0 ≤ h'.size ∧ Keep h0 h' [] ∧ Arr Z h' b7 cl .int ∧ cl.slots.size = (Int32.ofNat 1).toNatClampNeg ∧ (∀ j, j < 1 → cl.slots[j]? = some (.int (own_p3 i8 i9 i10 j))) ∧
      ∀ target, Steps p.tables e below (T'.setTop (mkF m 239 #[s0, s1, s2, s3, s4, s5, s6, .val (.int i7), .val (.int i8), .val (.int i9), .val (.int i10), s11, .val (.long j12), .second, .val (.long j14), .second, .val (.long j16), .second, .val (.long j18), .second, .val (.ref b7), .val (.long ((j18 * (-7046029254386353131 : Int64)) + (j12 * (-7046029254386353131 : Int64)))), .second, .unset, .unset, .unset, .unset, .unset, .unset, .unset, .unset, .unset, .unset] [])) target → Steps p.tables e below (T0.setTop (mkF m 93 #[s0, s1, s2, s3, s4, s5, s6, .val (.int i7), .val (.int i8), .val (.int i9), .val (.int i10), s11, .val (.long j12), .second, .val (.long j14), .second, .val (.long j16), .second, .val (.long j18), .second, .unset, .unset, .unset, .unset, .unset, .unset, .unset, .unset, .unset, .unset, .unset, .unset, .unset] [])) target := by
  obtain ⟨T7, h7, k7, X7, e7, E7, A7, st7⟩ := newP X0 hx hZ (hw _ (List.mem_of_getElem? (i := 5) rfl)) e0 (g := (mkF m 117 #[s0, s1, s2, s3, s4, s5, s6, .val (.int i7), .val (.int i8), .val (.int i9), .val (.int i10), s11, .val (.long j12), .second, .val (.long j14), .second, .val (.long j16), .second, .val (.long j18), .second, .unset, .unset, .unset, .unset, .unset, .unset, .unset, .unset, .unset, .unset, .unset, .unset, .unset] [(.int (1 : Int32))])) rfl (hb hby at_117) rfl (by decide) (cap := 1) (by decide) (by decide) (by decide) (by decide)
  obtain ⟨b7, g7⟩ : ∃ z, z = h0.size := ⟨_, rfl⟩
  rw [← g7] at A7 st7
  have V_b7 : Arv Z h7 b7 k7 .int (1 : Int32) [(.int (0 : Int32))] (.int (0 : Int32)) := (Arv.new A7 (by decide)).pad (pad_rep [] (.int (0 : Int32)) 1)
  have g_b7 : n0 ≤ b7 := Nat.le_trans Z0 (Nat.le_of_eq g7.symm)
  have sz_b7 : h0.size ≤ b7 := (Nat.le_trans (Keep.refl h0 []).1 (Nat.le_of_eq g7.symm))
  have K7 : Keep h0 h7 [] := (Keep.refl h0 []).ext E7
  obtain ⟨cl_b7_123, Ar_b7, q_b7, S_b7, N_b7, H_b7, G_b7⟩ := V_b7
  have hin123 : ¬ ((0 : Int32) < 0 ∨ cl_b7_123.slots.size ≤ ((0 : Int32)).toNatClampNeg) := inb_of S_b7 ⟨by decide, by decide⟩
  obtain ⟨T8, h8, X8, e8, W8, st8⟩ := stI X7 hx hZ e7 Ar_b7 (j := (0 : Int32)) hin123 (g := (mkF m 123 #[s0, s1, s2, s3, s4, s5, s6, .val (.int i7), .val (.int i8), .val (.int i9), .val (.int i10), s11, .val (.long j12), .second, .val (.long j14), .second, .val (.long j16), .second, .val (.long j18), .second, .unset, .unset, .unset, .unset, .unset, .unset, .unset, .unset, .unset, .unset, .unset, .unset, .unset] [(.int i8), (.int (0 : Int32)), (.ref b7), (.ref b7)])) rfl rfl (hb hby at_123)
  have V_b7_8 := Arv.set Ar_b7 q_b7 S_b7 N_b7 H_b7 G_b7 rfl W8 0 rfl (Nat.le_of_ble_eq_true rfl)
  have K8 : Keep h0 h8 [] := K7.wr W8 (Or.inr sz_b7)
  have N8 := Fr.snoc X8 N0 g_b7
  obtain ⟨cl, Ar, -, S, -, Hs, -⟩ := V_b7_8
  refine ⟨T8, _, _, b7, cl, X8, e8, N8, Nat.le_trans Z0 K8.1, K8, Ar, S, ?_, fun target kt => ?_⟩
  · intro j hj
    have q := Hs j (by rw [S]; exact hj)
    match j, hj, q with
    | 0, _, q => exact q
    | z + 1, hj, _ => exact absurd hj (by omega)
  · show Steps p.tables e below (T0.setTop (mkF m 93 #[s0, s1, s2, s3, s4, s5, s6, .val (.int i7), .val (.int i8), .val (.int i9), .val (.int i10), s11, .val (.long j12), .second, .val (.long j14), .second, .val (.long j16), .second, .val (.long j18), .second, .unset, .unset, .unset, .unset, .unset, .unset, .unset, .unset, .unset, .unset, .unset, .unset, .unset] [])) _
    refine XS.iload X0.here hx rfl (hb hby at_93) rfl ?_
    show Steps p.tables e below (T0.setTop (mkF m 95 #[s0, s1, s2, s3, s4, s5, s6, .val (.int i7), .val (.int i8), .val (.int i9), .val (.int i10), s11, .val (.long j12), .second, .val (.long j14), .second, .val (.long j16), .second, .val (.long j18), .second, .unset, .unset, .unset, .unset, .unset, .unset, .unset, .unset, .unset, .unset, .unset, .unset, .unset] [(.int i7)])) _
    refine XS.ifYes X0.here hx rfl (pc0 := 95) (pc' := 110) rfl (hb hby at_95) rfl ((if0 _ _).trans (feq hc95).2) (by decide) (by decide) ?_
    show Steps p.tables e below (T0.setTop (mkF m 110 #[s0, s1, s2, s3, s4, s5, s6, .val (.int i7), .val (.int i8), .val (.int i9), .val (.int i10), s11, .val (.long j12), .second, .val (.long j14), .second, .val (.long j16), .second, .val (.long j18), .second, .unset, .unset, .unset, .unset, .unset, .unset, .unset, .unset, .unset, .unset, .unset, .unset, .unset] [])) _
    refine XS.iload X0.here hx rfl (hb hby at_110) rfl ?_
    show Steps p.tables e below (T0.setTop (mkF m 112 #[s0, s1, s2, s3, s4, s5, s6, .val (.int i7), .val (.int i8), .val (.int i9), .val (.int i10), s11, .val (.long j12), .second, .val (.long j14), .second, .val (.long j16), .second, .val (.long j18), .second, .unset, .unset, .unset, .unset, .unset, .unset, .unset, .unset, .unset, .unset, .unset, .unset, .unset] [(.int i7)])) _
    refine XS.iconst X0.here hx rfl (hb hby at_112) ?_
    show Steps p.tables e below (T0.setTop (mkF m 113 #[s0, s1, s2, s3, s4, s5, s6, .val (.int i7), .val (.int i8), .val (.int i9), .val (.int i10), s11, .val (.long j12), .second, .val (.long j14), .second, .val (.long j16), .second, .val (.long j18), .second, .unset, .unset, .unset, .unset, .unset, .unset, .unset, .unset, .unset, .unset, .unset, .unset, .unset] [(.int (1 : Int32)), (.int i7)])) _
    refine XS.icmpNo X0.here hx rfl (hb hby at_113) rfl (teq hc113).2 ?_
    show Steps p.tables e below (T0.setTop (mkF m 116 #[s0, s1, s2, s3, s4, s5, s6, .val (.int i7), .val (.int i8), .val (.int i9), .val (.int i10), s11, .val (.long j12), .second, .val (.long j14), .second, .val (.long j16), .second, .val (.long j18), .second, .unset, .unset, .unset, .unset, .unset, .unset, .unset, .unset, .unset, .unset, .unset, .unset, .unset] [])) _
    refine XS.iconst X0.here hx rfl (hb hby at_116) ?_
    show Steps p.tables e below (T0.setTop (mkF m 117 #[s0, s1, s2, s3, s4, s5, s6, .val (.int i7), .val (.int i8), .val (.int i9), .val (.int i10), s11, .val (.long j12), .second, .val (.long j14), .second, .val (.long j16), .second, .val (.long j18), .second, .unset, .unset, .unset, .unset, .unset, .unset, .unset, .unset, .unset, .unset, .unset, .unset, .unset] [(.int (1 : Int32))])) _
    refine st7 _ ?_
    show Steps p.tables e below (T7.setTop (mkF m 119 #[s0, s1, s2, s3, s4, s5, s6, .val (.int i7), .val (.int i8), .val (.int i9), .val (.int i10), s11, .val (.long j12), .second, .val (.long j14), .second, .val (.long j16), .second, .val (.long j18), .second, .unset, .unset, .unset, .unset, .unset, .unset, .unset, .unset, .unset, .unset, .unset, .unset, .unset] [(.ref b7)])) _
    refine XS.dup X7.here hx rfl (hb hby at_119) rfl rfl ?_
    show Steps p.tables e below (T7.setTop (mkF m 120 #[s0, s1, s2, s3, s4, s5, s6, .val (.int i7), .val (.int i8), .val (.int i9), .val (.int i10), s11, .val (.long j12), .second, .val (.long j14), .second, .val (.long j16), .second, .val (.long j18), .second, .unset, .unset, .unset, .unset, .unset, .unset, .unset, .unset, .unset, .unset, .unset, .unset, .unset] [(.ref b7), (.ref b7)])) _
    refine XS.iconst X7.here hx rfl (hb hby at_120) ?_
    show Steps p.tables e below (T7.setTop (mkF m 121 #[s0, s1, s2, s3, s4, s5, s6, .val (.int i7), .val (.int i8), .val (.int i9), .val (.int i10), s11, .val (.long j12), .second, .val (.long j14), .second, .val (.long j16), .second, .val (.long j18), .second, .unset, .unset, .unset, .unset, .unset, .unset, .unset, .unset, .unset, .unset, .unset, .unset, .unset] [(.int (0 : Int32)), (.ref b7), (.ref b7)])) _
    refine XS.iload X7.here hx rfl (hb hby at_121) rfl ?_
    show Steps p.tables e below (T7.setTop (mkF m 123 #[s0, s1, s2, s3, s4, s5, s6, .val (.int i7), .val (.int i8), .val (.int i9), .val (.int i10), s11, .val (.long j12), .second, .val (.long j14), .second, .val (.long j16), .second, .val (.long j18), .second, .unset, .unset, .unset, .unset, .unset, .unset, .unset, .unset, .unset, .unset, .unset, .unset, .unset] [(.int i8), (.int (0 : Int32)), (.ref b7), (.ref b7)])) _
    refine st8 _ ?_
    show Steps p.tables e below (T8.setTop (mkF m 124 #[s0, s1, s2, s3, s4, s5, s6, .val (.int i7), .val (.int i8), .val (.int i9), .val (.int i10), s11, .val (.long j12), .second, .val (.long j14), .second, .val (.long j16), .second, .val (.long j18), .second, .unset, .unset, .unset, .unset, .unset, .unset, .unset, .unset, .unset, .unset, .unset, .unset, .unset] [(.ref b7)])) _
    refine XS.astore X8.here hx rfl (hb hby at_124) rfl rfl (l' := #[s0, s1, s2, s3, s4, s5, s6, .val (.int i7), .val (.int i8), .val (.int i9), .val (.int i10), s11, .val (.long j12), .second, .val (.long j14), .second, .val (.long j16), .second, .val (.long j18), .second, .val (.ref b7), .unset, .unset, .unset, .unset, .unset, .unset, .unset, .unset, .unset, .unset, .unset, .unset]) rfl ?_
    show Steps p.tables e below (T8.setTop (mkF m 126 #[s0, s1, s2, s3, s4, s5, s6, .val (.int i7), .val (.int i8), .val (.int i9), .val (.int i10), s11, .val (.long j12), .second, .val (.long j14), .second, .val (.long j16), .second, .val (.long j18), .second, .val (.ref b7), .unset, .unset, .unset, .unset, .unset, .unset, .unset, .unset, .unset, .unset, .unset, .unset] [])) _
    refine XS.lload X8.here hx rfl (hb hby at_126) rfl ?_
    show Steps p.tables e below (T8.setTop (mkF m 128 #[s0, s1, s2, s3, s4, s5, s6, .val (.int i7), .val (.int i8), .val (.int i9), .val (.int i10), s11, .val (.long j12), .second, .val (.long j14), .second, .val (.long j16), .second, .val (.long j18), .second, .val (.ref b7), .unset, .unset, .unset, .unset, .unset, .unset, .unset, .unset, .unset, .unset, .unset, .unset] [(.long j18)])) _
    refine X8.ldc2Long hx hown (mvT hZ (hw _ (List.mem_of_getElem? (i := 8) rfl))) (g := (mkF m 128 #[s0, s1, s2, s3, s4, s5, s6, .val (.int i7), .val (.int i8), .val (.int i9), .val (.int i10), s11, .val (.long j12), .second, .val (.long j14), .second, .val (.long j16), .second, .val (.long j18), .second, .val (.ref b7), .unset, .unset, .unset, .unset, .unset, .unset, .unset, .unset, .unset, .unset, .unset, .unset] [(.long j18)])) rfl (hb hby at_128) _ ?_
    show Steps p.tables e below (T8.setTop (mkF m 131 #[s0, s1, s2, s3, s4, s5, s6, .val (.int i7), .val (.int i8), .val (.int i9), .val (.int i10), s11, .val (.long j12), .second, .val (.long j14), .second, .val (.long j16), .second, .val (.long j18), .second, .val (.ref b7), .unset, .unset, .unset, .unset, .unset, .unset, .unset, .unset, .unset, .unset, .unset, .unset] [(.long (-7046029254386353131 : Int64)), (.long j18)])) _
    refine XS.lmul X8.here hx rfl (hb hby at_131) rfl ?_
    show Steps p.tables e below (T8.setTop (mkF m 132 #[s0, s1, s2, s3, s4, s5, s6, .val (.int i7), .val (.int i8), .val (.int i9), .val (.int i10), s11, .val (.long j12), .second, .val (.long j14), .second, .val (.long j16), .second, .val (.long j18), .second, .val (.ref b7), .unset, .unset, .unset, .unset, .unset, .unset, .unset, .unset, .unset, .unset, .unset, .unset] [(.long (j18 * (-7046029254386353131 : Int64)))])) _
    refine XS.lload X8.here hx rfl (hb hby at_132) rfl ?_
    show Steps p.tables e below (T8.setTop (mkF m 134 #[s0, s1, s2, s3, s4, s5, s6, .val (.int i7), .val (.int i8), .val (.int i9), .val (.int i10), s11, .val (.long j12), .second, .val (.long j14), .second, .val (.long j16), .second, .val (.long j18), .second, .val (.ref b7), .unset, .unset, .unset, .unset, .unset, .unset, .unset, .unset, .unset, .unset, .unset, .unset] [(.long j12), (.long (j18 * (-7046029254386353131 : Int64)))])) _
    refine X8.ldc2Long hx hown (mvT hZ (hw _ (List.mem_of_getElem? (i := 8) rfl))) (g := (mkF m 134 #[s0, s1, s2, s3, s4, s5, s6, .val (.int i7), .val (.int i8), .val (.int i9), .val (.int i10), s11, .val (.long j12), .second, .val (.long j14), .second, .val (.long j16), .second, .val (.long j18), .second, .val (.ref b7), .unset, .unset, .unset, .unset, .unset, .unset, .unset, .unset, .unset, .unset, .unset, .unset] [(.long j12), (.long (j18 * (-7046029254386353131 : Int64)))])) rfl (hb hby at_134) _ ?_
    show Steps p.tables e below (T8.setTop (mkF m 137 #[s0, s1, s2, s3, s4, s5, s6, .val (.int i7), .val (.int i8), .val (.int i9), .val (.int i10), s11, .val (.long j12), .second, .val (.long j14), .second, .val (.long j16), .second, .val (.long j18), .second, .val (.ref b7), .unset, .unset, .unset, .unset, .unset, .unset, .unset, .unset, .unset, .unset, .unset, .unset] [(.long (-7046029254386353131 : Int64)), (.long j12), (.long (j18 * (-7046029254386353131 : Int64)))])) _
    refine XS.lmul X8.here hx rfl (hb hby at_137) rfl ?_
    show Steps p.tables e below (T8.setTop (mkF m 138 #[s0, s1, s2, s3, s4, s5, s6, .val (.int i7), .val (.int i8), .val (.int i9), .val (.int i10), s11, .val (.long j12), .second, .val (.long j14), .second, .val (.long j16), .second, .val (.long j18), .second, .val (.ref b7), .unset, .unset, .unset, .unset, .unset, .unset, .unset, .unset, .unset, .unset, .unset, .unset] [(.long (j12 * (-7046029254386353131 : Int64))), (.long (j18 * (-7046029254386353131 : Int64)))])) _
    refine XS.ladd X8.here hx rfl (hb hby at_138) rfl ?_
    show Steps p.tables e below (T8.setTop (mkF m 139 #[s0, s1, s2, s3, s4, s5, s6, .val (.int i7), .val (.int i8), .val (.int i9), .val (.int i10), s11, .val (.long j12), .second, .val (.long j14), .second, .val (.long j16), .second, .val (.long j18), .second, .val (.ref b7), .unset, .unset, .unset, .unset, .unset, .unset, .unset, .unset, .unset, .unset, .unset, .unset] [(.long ((j18 * (-7046029254386353131 : Int64)) + (j12 * (-7046029254386353131 : Int64))))])) _
    refine XS.lstore X8.here hx rfl (hb hby at_139) rfl (l' := #[s0, s1, s2, s3, s4, s5, s6, .val (.int i7), .val (.int i8), .val (.int i9), .val (.int i10), s11, .val (.long j12), .second, .val (.long j14), .second, .val (.long j16), .second, .val (.long j18), .second, .val (.ref b7), .val (.long ((j18 * (-7046029254386353131 : Int64)) + (j12 * (-7046029254386353131 : Int64)))), .second, .unset, .unset, .unset, .unset, .unset, .unset, .unset, .unset, .unset, .unset]) rfl ?_
    show Steps p.tables e below (T8.setTop (mkF m 141 #[s0, s1, s2, s3, s4, s5, s6, .val (.int i7), .val (.int i8), .val (.int i9), .val (.int i10), s11, .val (.long j12), .second, .val (.long j14), .second, .val (.long j16), .second, .val (.long j18), .second, .val (.ref b7), .val (.long ((j18 * (-7046029254386353131 : Int64)) + (j12 * (-7046029254386353131 : Int64)))), .second, .unset, .unset, .unset, .unset, .unset, .unset, .unset, .unset, .unset, .unset] [])) _
    refine XS.goto X8.here hx rfl (pc0 := 141) (pc' := 239) rfl (hb hby at_141) (by decide) (by decide) ?_
    exact kt

set_option maxRecDepth 65536 in
set_option maxHeartbeats 40000000 in
theorem own_B2 {p : Program} {l : Launch} {e : Env} {s : State} {m : MethodId} {args : Array Value} {below : List Frame} {meth : Method} {c : Code} {T0 : State} {locs : List Loc} {Z : State} {a0 : Array Value} {h0 : Heap} (s0 : Slot) (s1 : Slot) (s2 : Slot) (s3 : Slot) (s4 : Slot) (s5 : Slot) (s6 : Slot) (i7 : Int32) (i8 : Int32) (i9 : Int32) (i10 : Int32) (s11 : Slot) (j12 : Int64) (j14 : Int64) (j16 : Int64) (j18 : Int64) (X0 : Stand p l e room_1 s m args below meth c T0 locs 1 3) (hx : p.tables.exec = Jvm.exec) (hZ : Z.Warmed39 s.vm) (hw : ∀ d ∈ tables_1, d.before a0 Z = true) (hby : c.code = code) (hml : c.maxLocals = 33) (hown : s.vm.findClass "org/stratalog/internal/engine/PickerShardOfPinLaw" = some m.cls) (e0 : T0.heap = h0) (n0 : Nat) (Z0 : n0 ≤ h0.size) (N0 : Fr n0 locs) (hc95 : ¬ (i7 = (0 : Int32))) (hc113 : ¬ (i7 = (1 : Int32))) (hc147 : i7 = (2 : Int32)) :
    ∃ (T' : State) (h' : Heap) (locs' : List Loc) (b7 : Addr) (cl : Cell), Stand p l e room_1 s m args below meth c T' locs' 2 5 ∧ T'.heap = h' ∧ Fr n0 locs' ∧ n0 ≤ h'.size ∧ Keep h0 h' [] ∧ Arr Z h' b7 cl .int ∧ cl.slots.size = (Int32.ofNat 2).toNatClampNeg ∧ (∀ j, j < 2 → cl.slots[j]? = some (.int (own_p3 i8 i9 i10 j))) ∧
      ∀ target, Steps p.tables e below (T'.setTop (mkF m 239 #[s0, s1, s2, s3, s4, s5, s6, .val (.int i7), .val (.int i8), .val (.int i9), .val (.int i10), s11, .val (.long j12), .second, .val (.long j14), .second, .val (.long j16), .second, .val (.long j18), .second, .val (.ref b7), .val (.long (((j18 * (-2358710677322311239 : Int64)) + (j12 * (-2358710677322311239 : Int64))) + (j14 * (-7046029254386353131 : Int64)))), .second, .unset, .unset, .unset, .unset, .unset, .unset, .unset, .unset, .unset, .unset] [])) target → Steps p.tables e below (T0.setTop (mkF m 93 #[s0, s1, s2, s3, s4, s5, s6, .val (.int i7), .val (.int i8), .val (.int i9), .val (.int i10), s11, .val (.long j12), .second, .val (.long j14), .second, .val (.long j16), .second, .val (.long j18), .second, .unset, .unset, .unset, .unset, .unset, .unset, .unset, .unset, .unset, .unset, .unset, .unset, .unset] [])) target := by
  obtain ⟨T7, h7, k7, X7, e7, E7, A7, st7⟩ := newP X0 hx hZ (hw _ (List.mem_of_getElem? (i := 5) rfl)) e0 (g := (mkF m 151 #[s0, s1, s2, s3, s4, s5, s6, .val (.int i7), .val (.int i8), .val (.int i9), .val (.int i10), s11, .val (.long j12), .second, .val (.long j14), .second, .val (.long j16), .second, .val (.long j18), .second, .unset, .unset, .unset, .unset, .unset, .unset, .unset, .unset, .unset, .unset, .unset, .unset, .unset] [(.int (2 : Int32))])) rfl (hb hby at_151) rfl (by decide) (cap := 2) (by decide) (by decide) (by decide) (by decide)
  obtain ⟨b7, g7⟩ : ∃ z, z = h0.size := ⟨_, rfl⟩
  rw [← g7] at A7 st7
  have V_b7 : Arv Z h7 b7 k7 .int (2 : Int32) [(.int (0 : Int32)), (.int (0 : Int32))] (.int (0 : Int32)) := (Arv.new A7 (by decide)).pad (pad_rep [] (.int (0 : Int32)) 2)
  have g_b7 : n0 ≤ b7 := Nat.le_trans Z0 (Nat.le_of_eq g7.symm)
  have sz_b7 : h0.size ≤ b7 := (Nat.le_trans (Keep.refl h0 []).1 (Nat.le_of_eq g7.symm))
  have K7 : Keep h0 h7 [] := (Keep.refl h0 []).ext E7
  obtain ⟨cl_b7_157, Ar_b7, q_b7, S_b7, N_b7, H_b7, G_b7⟩ := V_b7
  have hin157 : ¬ ((0 : Int32) < 0 ∨ cl_b7_157.slots.size ≤ ((0 : Int32)).toNatClampNeg) := inb_of S_b7 ⟨by decide, by decide⟩
  obtain ⟨T8, h8, X8, e8, W8, st8⟩ := stI X7 hx hZ e7 Ar_b7 (j := (0 : Int32)) hin157 (g := (mkF m 157 #[s0, s1, s2, s3, s4, s5, s6, .val (.int i7), .val (.int i8), .val (.int i9), .val (.int i10), s11, .val (.long j12), .second, .val (.long j14), .second, .val (.long j16), .second, .val (.long j18), .second, .unset, .unset, .unset, .unset, .unset, .unset, .unset, .unset, .unset, .unset, .unset, .unset, .unset] [(.int i8), (.int (0 : Int32)), (.ref b7), (.ref b7)])) rfl rfl (hb hby at_157)
  have V_b7_8 := Arv.set Ar_b7 q_b7 S_b7 N_b7 H_b7 G_b7 rfl W8 0 rfl (Nat.le_of_ble_eq_true rfl)
  have K8 : Keep h0 h8 [] := K7.wr W8 (Or.inr sz_b7)
  have N8 := Fr.snoc X8 N0 g_b7
  obtain ⟨cl_b7_162, Ar_b7, q_b7, S_b7, N_b7, H_b7, G_b7⟩ := V_b7_8
  have hin162 : ¬ ((1 : Int32) < 0 ∨ cl_b7_162.slots.size ≤ ((1 : Int32)).toNatClampNeg) := inb_of S_b7 ⟨by decide, by decide⟩
  obtain ⟨T9, h9, X9, e9, W9, st9⟩ := stI X8 hx hZ e8 Ar_b7 (j := (1 : Int32)) hin162 (g := (mkF m 162 #[s0, s1, s2, s3, s4, s5, s6, .val (.int i7), .val (.int i8), .val (.int i9), .val (.int i10), s11, .val (.long j12), .second, .val (.long j14), .second, .val (.long j16), .second, .val (.long j18), .second, .unset, .unset, .unset, .unset, .unset, .unset, .unset, .unset, .unset, .unset, .unset, .unset, .unset] [(.int i9), (.int (1 : Int32)), (.ref b7), (.ref b7)])) rfl rfl (hb hby at_162)
  have V_b7_9 := Arv.set Ar_b7 q_b7 S_b7 N_b7 H_b7 G_b7 rfl W9 1 rfl (Nat.le_of_ble_eq_true rfl)
  have K9 : Keep h0 h9 [] := K8.wr W9 (Or.inr sz_b7)
  have N9 := Fr.snoc X9 N8 g_b7
  obtain ⟨cl, Ar, -, S, -, Hs, -⟩ := V_b7_9
  refine ⟨T9, _, _, b7, cl, X9, e9, N9, Nat.le_trans Z0 K9.1, K9, Ar, S, ?_, fun target kt => ?_⟩
  · intro j hj
    have q := Hs j (by rw [S]; exact hj)
    match j, hj, q with
    | 0, _, q => exact q
    | 1, _, q => exact q
    | z + 2, hj, _ => exact absurd hj (by omega)
  · show Steps p.tables e below (T0.setTop (mkF m 93 #[s0, s1, s2, s3, s4, s5, s6, .val (.int i7), .val (.int i8), .val (.int i9), .val (.int i10), s11, .val (.long j12), .second, .val (.long j14), .second, .val (.long j16), .second, .val (.long j18), .second, .unset, .unset, .unset, .unset, .unset, .unset, .unset, .unset, .unset, .unset, .unset, .unset, .unset] [])) _
    refine XS.iload X0.here hx rfl (hb hby at_93) rfl ?_
    show Steps p.tables e below (T0.setTop (mkF m 95 #[s0, s1, s2, s3, s4, s5, s6, .val (.int i7), .val (.int i8), .val (.int i9), .val (.int i10), s11, .val (.long j12), .second, .val (.long j14), .second, .val (.long j16), .second, .val (.long j18), .second, .unset, .unset, .unset, .unset, .unset, .unset, .unset, .unset, .unset, .unset, .unset, .unset, .unset] [(.int i7)])) _
    refine XS.ifYes X0.here hx rfl (pc0 := 95) (pc' := 110) rfl (hb hby at_95) rfl ((if0 _ _).trans (feq hc95).2) (by decide) (by decide) ?_
    show Steps p.tables e below (T0.setTop (mkF m 110 #[s0, s1, s2, s3, s4, s5, s6, .val (.int i7), .val (.int i8), .val (.int i9), .val (.int i10), s11, .val (.long j12), .second, .val (.long j14), .second, .val (.long j16), .second, .val (.long j18), .second, .unset, .unset, .unset, .unset, .unset, .unset, .unset, .unset, .unset, .unset, .unset, .unset, .unset] [])) _
    refine XS.iload X0.here hx rfl (hb hby at_110) rfl ?_
    show Steps p.tables e below (T0.setTop (mkF m 112 #[s0, s1, s2, s3, s4, s5, s6, .val (.int i7), .val (.int i8), .val (.int i9), .val (.int i10), s11, .val (.long j12), .second, .val (.long j14), .second, .val (.long j16), .second, .val (.long j18), .second, .unset, .unset, .unset, .unset, .unset, .unset, .unset, .unset, .unset, .unset, .unset, .unset, .unset] [(.int i7)])) _
    refine XS.iconst X0.here hx rfl (hb hby at_112) ?_
    show Steps p.tables e below (T0.setTop (mkF m 113 #[s0, s1, s2, s3, s4, s5, s6, .val (.int i7), .val (.int i8), .val (.int i9), .val (.int i10), s11, .val (.long j12), .second, .val (.long j14), .second, .val (.long j16), .second, .val (.long j18), .second, .unset, .unset, .unset, .unset, .unset, .unset, .unset, .unset, .unset, .unset, .unset, .unset, .unset] [(.int (1 : Int32)), (.int i7)])) _
    refine XS.icmpYes X0.here hx rfl (pc0 := 113) (pc' := 144) rfl (hb hby at_113) rfl (feq hc113).2 (by decide) (by decide) ?_
    show Steps p.tables e below (T0.setTop (mkF m 144 #[s0, s1, s2, s3, s4, s5, s6, .val (.int i7), .val (.int i8), .val (.int i9), .val (.int i10), s11, .val (.long j12), .second, .val (.long j14), .second, .val (.long j16), .second, .val (.long j18), .second, .unset, .unset, .unset, .unset, .unset, .unset, .unset, .unset, .unset, .unset, .unset, .unset, .unset] [])) _
    refine XS.iload X0.here hx rfl (hb hby at_144) rfl ?_
    show Steps p.tables e below (T0.setTop (mkF m 146 #[s0, s1, s2, s3, s4, s5, s6, .val (.int i7), .val (.int i8), .val (.int i9), .val (.int i10), s11, .val (.long j12), .second, .val (.long j14), .second, .val (.long j16), .second, .val (.long j18), .second, .unset, .unset, .unset, .unset, .unset, .unset, .unset, .unset, .unset, .unset, .unset, .unset, .unset] [(.int i7)])) _
    refine XS.iconst X0.here hx rfl (hb hby at_146) ?_
    show Steps p.tables e below (T0.setTop (mkF m 147 #[s0, s1, s2, s3, s4, s5, s6, .val (.int i7), .val (.int i8), .val (.int i9), .val (.int i10), s11, .val (.long j12), .second, .val (.long j14), .second, .val (.long j16), .second, .val (.long j18), .second, .unset, .unset, .unset, .unset, .unset, .unset, .unset, .unset, .unset, .unset, .unset, .unset, .unset] [(.int (2 : Int32)), (.int i7)])) _
    refine XS.icmpNo X0.here hx rfl (hb hby at_147) rfl (teq hc147).2 ?_
    show Steps p.tables e below (T0.setTop (mkF m 150 #[s0, s1, s2, s3, s4, s5, s6, .val (.int i7), .val (.int i8), .val (.int i9), .val (.int i10), s11, .val (.long j12), .second, .val (.long j14), .second, .val (.long j16), .second, .val (.long j18), .second, .unset, .unset, .unset, .unset, .unset, .unset, .unset, .unset, .unset, .unset, .unset, .unset, .unset] [])) _
    refine XS.iconst X0.here hx rfl (hb hby at_150) ?_
    show Steps p.tables e below (T0.setTop (mkF m 151 #[s0, s1, s2, s3, s4, s5, s6, .val (.int i7), .val (.int i8), .val (.int i9), .val (.int i10), s11, .val (.long j12), .second, .val (.long j14), .second, .val (.long j16), .second, .val (.long j18), .second, .unset, .unset, .unset, .unset, .unset, .unset, .unset, .unset, .unset, .unset, .unset, .unset, .unset] [(.int (2 : Int32))])) _
    refine st7 _ ?_
    show Steps p.tables e below (T7.setTop (mkF m 153 #[s0, s1, s2, s3, s4, s5, s6, .val (.int i7), .val (.int i8), .val (.int i9), .val (.int i10), s11, .val (.long j12), .second, .val (.long j14), .second, .val (.long j16), .second, .val (.long j18), .second, .unset, .unset, .unset, .unset, .unset, .unset, .unset, .unset, .unset, .unset, .unset, .unset, .unset] [(.ref b7)])) _
    refine XS.dup X7.here hx rfl (hb hby at_153) rfl rfl ?_
    show Steps p.tables e below (T7.setTop (mkF m 154 #[s0, s1, s2, s3, s4, s5, s6, .val (.int i7), .val (.int i8), .val (.int i9), .val (.int i10), s11, .val (.long j12), .second, .val (.long j14), .second, .val (.long j16), .second, .val (.long j18), .second, .unset, .unset, .unset, .unset, .unset, .unset, .unset, .unset, .unset, .unset, .unset, .unset, .unset] [(.ref b7), (.ref b7)])) _
    refine XS.iconst X7.here hx rfl (hb hby at_154) ?_
    show Steps p.tables e below (T7.setTop (mkF m 155 #[s0, s1, s2, s3, s4, s5, s6, .val (.int i7), .val (.int i8), .val (.int i9), .val (.int i10), s11, .val (.long j12), .second, .val (.long j14), .second, .val (.long j16), .second, .val (.long j18), .second, .unset, .unset, .unset, .unset, .unset, .unset, .unset, .unset, .unset, .unset, .unset, .unset, .unset] [(.int (0 : Int32)), (.ref b7), (.ref b7)])) _
    refine XS.iload X7.here hx rfl (hb hby at_155) rfl ?_
    show Steps p.tables e below (T7.setTop (mkF m 157 #[s0, s1, s2, s3, s4, s5, s6, .val (.int i7), .val (.int i8), .val (.int i9), .val (.int i10), s11, .val (.long j12), .second, .val (.long j14), .second, .val (.long j16), .second, .val (.long j18), .second, .unset, .unset, .unset, .unset, .unset, .unset, .unset, .unset, .unset, .unset, .unset, .unset, .unset] [(.int i8), (.int (0 : Int32)), (.ref b7), (.ref b7)])) _
    refine st8 _ ?_
    show Steps p.tables e below (T8.setTop (mkF m 158 #[s0, s1, s2, s3, s4, s5, s6, .val (.int i7), .val (.int i8), .val (.int i9), .val (.int i10), s11, .val (.long j12), .second, .val (.long j14), .second, .val (.long j16), .second, .val (.long j18), .second, .unset, .unset, .unset, .unset, .unset, .unset, .unset, .unset, .unset, .unset, .unset, .unset, .unset] [(.ref b7)])) _
    refine XS.dup X8.here hx rfl (hb hby at_158) rfl rfl ?_
    show Steps p.tables e below (T8.setTop (mkF m 159 #[s0, s1, s2, s3, s4, s5, s6, .val (.int i7), .val (.int i8), .val (.int i9), .val (.int i10), s11, .val (.long j12), .second, .val (.long j14), .second, .val (.long j16), .second, .val (.long j18), .second, .unset, .unset, .unset, .unset, .unset, .unset, .unset, .unset, .unset, .unset, .unset, .unset, .unset] [(.ref b7), (.ref b7)])) _
    refine XS.iconst X8.here hx rfl (hb hby at_159) ?_
    show Steps p.tables e below (T8.setTop (mkF m 160 #[s0, s1, s2, s3, s4, s5, s6, .val (.int i7), .val (.int i8), .val (.int i9), .val (.int i10), s11, .val (.long j12), .second, .val (.long j14), .second, .val (.long j16), .second, .val (.long j18), .second, .unset, .unset, .unset, .unset, .unset, .unset, .unset, .unset, .unset, .unset, .unset, .unset, .unset] [(.int (1 : Int32)), (.ref b7), (.ref b7)])) _
    refine XS.iload X8.here hx rfl (hb hby at_160) rfl ?_
    show Steps p.tables e below (T8.setTop (mkF m 162 #[s0, s1, s2, s3, s4, s5, s6, .val (.int i7), .val (.int i8), .val (.int i9), .val (.int i10), s11, .val (.long j12), .second, .val (.long j14), .second, .val (.long j16), .second, .val (.long j18), .second, .unset, .unset, .unset, .unset, .unset, .unset, .unset, .unset, .unset, .unset, .unset, .unset, .unset] [(.int i9), (.int (1 : Int32)), (.ref b7), (.ref b7)])) _
    refine st9 _ ?_
    show Steps p.tables e below (T9.setTop (mkF m 163 #[s0, s1, s2, s3, s4, s5, s6, .val (.int i7), .val (.int i8), .val (.int i9), .val (.int i10), s11, .val (.long j12), .second, .val (.long j14), .second, .val (.long j16), .second, .val (.long j18), .second, .unset, .unset, .unset, .unset, .unset, .unset, .unset, .unset, .unset, .unset, .unset, .unset, .unset] [(.ref b7)])) _
    refine XS.astore X9.here hx rfl (hb hby at_163) rfl rfl (l' := #[s0, s1, s2, s3, s4, s5, s6, .val (.int i7), .val (.int i8), .val (.int i9), .val (.int i10), s11, .val (.long j12), .second, .val (.long j14), .second, .val (.long j16), .second, .val (.long j18), .second, .val (.ref b7), .unset, .unset, .unset, .unset, .unset, .unset, .unset, .unset, .unset, .unset, .unset, .unset]) rfl ?_
    show Steps p.tables e below (T9.setTop (mkF m 165 #[s0, s1, s2, s3, s4, s5, s6, .val (.int i7), .val (.int i8), .val (.int i9), .val (.int i10), s11, .val (.long j12), .second, .val (.long j14), .second, .val (.long j16), .second, .val (.long j18), .second, .val (.ref b7), .unset, .unset, .unset, .unset, .unset, .unset, .unset, .unset, .unset, .unset, .unset, .unset] [])) _
    refine XS.lload X9.here hx rfl (hb hby at_165) rfl ?_
    show Steps p.tables e below (T9.setTop (mkF m 167 #[s0, s1, s2, s3, s4, s5, s6, .val (.int i7), .val (.int i8), .val (.int i9), .val (.int i10), s11, .val (.long j12), .second, .val (.long j14), .second, .val (.long j16), .second, .val (.long j18), .second, .val (.ref b7), .unset, .unset, .unset, .unset, .unset, .unset, .unset, .unset, .unset, .unset, .unset, .unset] [(.long j18)])) _
    refine X9.ldc2Long hx hown (mvT hZ (hw _ (List.mem_of_getElem? (i := 7) rfl))) (g := (mkF m 167 #[s0, s1, s2, s3, s4, s5, s6, .val (.int i7), .val (.int i8), .val (.int i9), .val (.int i10), s11, .val (.long j12), .second, .val (.long j14), .second, .val (.long j16), .second, .val (.long j18), .second, .val (.ref b7), .unset, .unset, .unset, .unset, .unset, .unset, .unset, .unset, .unset, .unset, .unset, .unset] [(.long j18)])) rfl (hb hby at_167) _ ?_
    show Steps p.tables e below (T9.setTop (mkF m 170 #[s0, s1, s2, s3, s4, s5, s6, .val (.int i7), .val (.int i8), .val (.int i9), .val (.int i10), s11, .val (.long j12), .second, .val (.long j14), .second, .val (.long j16), .second, .val (.long j18), .second, .val (.ref b7), .unset, .unset, .unset, .unset, .unset, .unset, .unset, .unset, .unset, .unset, .unset, .unset] [(.long (-2358710677322311239 : Int64)), (.long j18)])) _
    refine XS.lmul X9.here hx rfl (hb hby at_170) rfl ?_
    show Steps p.tables e below (T9.setTop (mkF m 171 #[s0, s1, s2, s3, s4, s5, s6, .val (.int i7), .val (.int i8), .val (.int i9), .val (.int i10), s11, .val (.long j12), .second, .val (.long j14), .second, .val (.long j16), .second, .val (.long j18), .second, .val (.ref b7), .unset, .unset, .unset, .unset, .unset, .unset, .unset, .unset, .unset, .unset, .unset, .unset] [(.long (j18 * (-2358710677322311239 : Int64)))])) _
    refine XS.lload X9.here hx rfl (hb hby at_171) rfl ?_
    show Steps p.tables e below (T9.setTop (mkF m 173 #[s0, s1, s2, s3, s4, s5, s6, .val (.int i7), .val (.int i8), .val (.int i9), .val (.int i10), s11, .val (.long j12), .second, .val (.long j14), .second, .val (.long j16), .second, .val (.long j18), .second, .val (.ref b7), .unset, .unset, .unset, .unset, .unset, .unset, .unset, .unset, .unset, .unset, .unset, .unset] [(.long j12), (.long (j18 * (-2358710677322311239 : Int64)))])) _
    refine X9.ldc2Long hx hown (mvT hZ (hw _ (List.mem_of_getElem? (i := 7) rfl))) (g := (mkF m 173 #[s0, s1, s2, s3, s4, s5, s6, .val (.int i7), .val (.int i8), .val (.int i9), .val (.int i10), s11, .val (.long j12), .second, .val (.long j14), .second, .val (.long j16), .second, .val (.long j18), .second, .val (.ref b7), .unset, .unset, .unset, .unset, .unset, .unset, .unset, .unset, .unset, .unset, .unset, .unset] [(.long j12), (.long (j18 * (-2358710677322311239 : Int64)))])) rfl (hb hby at_173) _ ?_
    show Steps p.tables e below (T9.setTop (mkF m 176 #[s0, s1, s2, s3, s4, s5, s6, .val (.int i7), .val (.int i8), .val (.int i9), .val (.int i10), s11, .val (.long j12), .second, .val (.long j14), .second, .val (.long j16), .second, .val (.long j18), .second, .val (.ref b7), .unset, .unset, .unset, .unset, .unset, .unset, .unset, .unset, .unset, .unset, .unset, .unset] [(.long (-2358710677322311239 : Int64)), (.long j12), (.long (j18 * (-2358710677322311239 : Int64)))])) _
    refine XS.lmul X9.here hx rfl (hb hby at_176) rfl ?_
    show Steps p.tables e below (T9.setTop (mkF m 177 #[s0, s1, s2, s3, s4, s5, s6, .val (.int i7), .val (.int i8), .val (.int i9), .val (.int i10), s11, .val (.long j12), .second, .val (.long j14), .second, .val (.long j16), .second, .val (.long j18), .second, .val (.ref b7), .unset, .unset, .unset, .unset, .unset, .unset, .unset, .unset, .unset, .unset, .unset, .unset] [(.long (j12 * (-2358710677322311239 : Int64))), (.long (j18 * (-2358710677322311239 : Int64)))])) _
    refine XS.ladd X9.here hx rfl (hb hby at_177) rfl ?_
    show Steps p.tables e below (T9.setTop (mkF m 178 #[s0, s1, s2, s3, s4, s5, s6, .val (.int i7), .val (.int i8), .val (.int i9), .val (.int i10), s11, .val (.long j12), .second, .val (.long j14), .second, .val (.long j16), .second, .val (.long j18), .second, .val (.ref b7), .unset, .unset, .unset, .unset, .unset, .unset, .unset, .unset, .unset, .unset, .unset, .unset] [(.long ((j18 * (-2358710677322311239 : Int64)) + (j12 * (-2358710677322311239 : Int64))))])) _
    refine XS.lload X9.here hx rfl (hb hby at_178) rfl ?_
    show Steps p.tables e below (T9.setTop (mkF m 180 #[s0, s1, s2, s3, s4, s5, s6, .val (.int i7), .val (.int i8), .val (.int i9), .val (.int i10), s11, .val (.long j12), .second, .val (.long j14), .second, .val (.long j16), .second, .val (.long j18), .second, .val (.ref b7), .unset, .unset, .unset, .unset, .unset, .unset, .unset, .unset, .unset, .unset, .unset, .unset] [(.long j14), (.long ((j18 * (-2358710677322311239 : Int64)) + (j12 * (-2358710677322311239 : Int64))))])) _
    refine X9.ldc2Long hx hown (mvT hZ (hw _ (List.mem_of_getElem? (i := 8) rfl))) (g := (mkF m 180 #[s0, s1, s2, s3, s4, s5, s6, .val (.int i7), .val (.int i8), .val (.int i9), .val (.int i10), s11, .val (.long j12), .second, .val (.long j14), .second, .val (.long j16), .second, .val (.long j18), .second, .val (.ref b7), .unset, .unset, .unset, .unset, .unset, .unset, .unset, .unset, .unset, .unset, .unset, .unset] [(.long j14), (.long ((j18 * (-2358710677322311239 : Int64)) + (j12 * (-2358710677322311239 : Int64))))])) rfl (hb hby at_180) _ ?_
    show Steps p.tables e below (T9.setTop (mkF m 183 #[s0, s1, s2, s3, s4, s5, s6, .val (.int i7), .val (.int i8), .val (.int i9), .val (.int i10), s11, .val (.long j12), .second, .val (.long j14), .second, .val (.long j16), .second, .val (.long j18), .second, .val (.ref b7), .unset, .unset, .unset, .unset, .unset, .unset, .unset, .unset, .unset, .unset, .unset, .unset] [(.long (-7046029254386353131 : Int64)), (.long j14), (.long ((j18 * (-2358710677322311239 : Int64)) + (j12 * (-2358710677322311239 : Int64))))])) _
    refine XS.lmul X9.here hx rfl (hb hby at_183) rfl ?_
    show Steps p.tables e below (T9.setTop (mkF m 184 #[s0, s1, s2, s3, s4, s5, s6, .val (.int i7), .val (.int i8), .val (.int i9), .val (.int i10), s11, .val (.long j12), .second, .val (.long j14), .second, .val (.long j16), .second, .val (.long j18), .second, .val (.ref b7), .unset, .unset, .unset, .unset, .unset, .unset, .unset, .unset, .unset, .unset, .unset, .unset] [(.long (j14 * (-7046029254386353131 : Int64))), (.long ((j18 * (-2358710677322311239 : Int64)) + (j12 * (-2358710677322311239 : Int64))))])) _
    refine XS.ladd X9.here hx rfl (hb hby at_184) rfl ?_
    show Steps p.tables e below (T9.setTop (mkF m 185 #[s0, s1, s2, s3, s4, s5, s6, .val (.int i7), .val (.int i8), .val (.int i9), .val (.int i10), s11, .val (.long j12), .second, .val (.long j14), .second, .val (.long j16), .second, .val (.long j18), .second, .val (.ref b7), .unset, .unset, .unset, .unset, .unset, .unset, .unset, .unset, .unset, .unset, .unset, .unset] [(.long (((j18 * (-2358710677322311239 : Int64)) + (j12 * (-2358710677322311239 : Int64))) + (j14 * (-7046029254386353131 : Int64))))])) _
    refine XS.lstore X9.here hx rfl (hb hby at_185) rfl (l' := #[s0, s1, s2, s3, s4, s5, s6, .val (.int i7), .val (.int i8), .val (.int i9), .val (.int i10), s11, .val (.long j12), .second, .val (.long j14), .second, .val (.long j16), .second, .val (.long j18), .second, .val (.ref b7), .val (.long (((j18 * (-2358710677322311239 : Int64)) + (j12 * (-2358710677322311239 : Int64))) + (j14 * (-7046029254386353131 : Int64)))), .second, .unset, .unset, .unset, .unset, .unset, .unset, .unset, .unset, .unset, .unset]) rfl ?_
    show Steps p.tables e below (T9.setTop (mkF m 187 #[s0, s1, s2, s3, s4, s5, s6, .val (.int i7), .val (.int i8), .val (.int i9), .val (.int i10), s11, .val (.long j12), .second, .val (.long j14), .second, .val (.long j16), .second, .val (.long j18), .second, .val (.ref b7), .val (.long (((j18 * (-2358710677322311239 : Int64)) + (j12 * (-2358710677322311239 : Int64))) + (j14 * (-7046029254386353131 : Int64)))), .second, .unset, .unset, .unset, .unset, .unset, .unset, .unset, .unset, .unset, .unset] [])) _
    refine XS.goto X9.here hx rfl (pc0 := 187) (pc' := 239) rfl (hb hby at_187) (by decide) (by decide) ?_
    exact kt

set_option maxRecDepth 65536 in
set_option maxHeartbeats 40000000 in
theorem own_B3 {p : Program} {l : Launch} {e : Env} {s : State} {m : MethodId} {args : Array Value} {below : List Frame} {meth : Method} {c : Code} {T0 : State} {locs : List Loc} {Z : State} {a0 : Array Value} {h0 : Heap} (s0 : Slot) (s1 : Slot) (s2 : Slot) (s3 : Slot) (s4 : Slot) (s5 : Slot) (s6 : Slot) (i7 : Int32) (i8 : Int32) (i9 : Int32) (i10 : Int32) (s11 : Slot) (j12 : Int64) (j14 : Int64) (j16 : Int64) (j18 : Int64) (X0 : Stand p l e room_1 s m args below meth c T0 locs 1 3) (hx : p.tables.exec = Jvm.exec) (hZ : Z.Warmed39 s.vm) (hw : ∀ d ∈ tables_1, d.before a0 Z = true) (hby : c.code = code) (hml : c.maxLocals = 33) (hown : s.vm.findClass "org/stratalog/internal/engine/PickerShardOfPinLaw" = some m.cls) (e0 : T0.heap = h0) (n0 : Nat) (Z0 : n0 ≤ h0.size) (N0 : Fr n0 locs) (hc95 : ¬ (i7 = (0 : Int32))) (hc113 : ¬ (i7 = (1 : Int32))) (hc147 : ¬ (i7 = (2 : Int32))) :
    ∃ (T' : State) (h' : Heap) (locs' : List Loc) (b7 : Addr) (cl : Cell), Stand p l e room_1 s m args below meth c T' locs' 2 6 ∧ T'.heap = h' ∧ Fr n0 locs' ∧ n0 ≤ h'.size ∧ Keep h0 h' [] ∧ Arr Z h' b7 cl .int ∧ cl.slots.size = (Int32.ofNat 3).toNatClampNeg ∧ (∀ j, j < 3 → cl.slots[j]? = some (.int (own_p3 i8 i9 i10 j))) ∧
      ∀ target, Steps p.tables e below (T'.setTop (mkF m 239 #[s0, s1, s2, s3, s4, s5, s6, .val (.int i7), .val (.int i8), .val (.int i9), .val (.int i10), s11, .val (.long j12), .second, .val (.long j14), .second, .val (.long j16), .second, .val (.long j18), .second, .val (.ref b7), .val (.long ((((j18 * (6938460308862072877 : Int64)) + (j12 * (6938460308862072877 : Int64))) + (j14 * (-2358710677322311239 : Int64))) + (j16 * (-7046029254386353131 : Int64)))), .second, .unset, .unset, .unset, .unset, .unset, .unset, .unset, .unset, .unset, .unset] [])) target → Steps p.tables e below (T0.setTop (mkF m 93 #[s0, s1, s2, s3, s4, s5, s6, .val (.int i7), .val (.int i8), .val (.int i9), .val (.int i10), s11, .val (.long j12), .second, .val (.long j14), .second, .val (.long j16), .second, .val (.long j18), .second, .unset, .unset, .unset, .unset, .unset, .unset, .unset, .unset, .unset, .unset, .unset, .unset, .unset] [])) target := by
  obtain ⟨T7, h7, k7, X7, e7, E7, A7, st7⟩ := newP X0 hx hZ (hw _ (List.mem_of_getElem? (i := 5) rfl)) e0 (g := (mkF m 191 #[s0, s1, s2, s3, s4, s5, s6, .val (.int i7), .val (.int i8), .val (.int i9), .val (.int i10), s11, .val (.long j12), .second, .val (.long j14), .second, .val (.long j16), .second, .val (.long j18), .second, .unset, .unset, .unset, .unset, .unset, .unset, .unset, .unset, .unset, .unset, .unset, .unset, .unset] [(.int (3 : Int32))])) rfl (hb hby at_191) rfl (by decide) (cap := 3) (by decide) (by decide) (by decide) (by decide)
  obtain ⟨b7, g7⟩ : ∃ z, z = h0.size := ⟨_, rfl⟩
  rw [← g7] at A7 st7
  have V_b7 : Arv Z h7 b7 k7 .int (3 : Int32) [(.int (0 : Int32)), (.int (0 : Int32)), (.int (0 : Int32))] (.int (0 : Int32)) := (Arv.new A7 (by decide)).pad (pad_rep [] (.int (0 : Int32)) 3)
  have g_b7 : n0 ≤ b7 := Nat.le_trans Z0 (Nat.le_of_eq g7.symm)
  have sz_b7 : h0.size ≤ b7 := (Nat.le_trans (Keep.refl h0 []).1 (Nat.le_of_eq g7.symm))
  have K7 : Keep h0 h7 [] := (Keep.refl h0 []).ext E7
  obtain ⟨cl_b7_197, Ar_b7, q_b7, S_b7, N_b7, H_b7, G_b7⟩ := V_b7
  have hin197 : ¬ ((0 : Int32) < 0 ∨ cl_b7_197.slots.size ≤ ((0 : Int32)).toNatClampNeg) := inb_of S_b7 ⟨by decide, by decide⟩
  obtain ⟨T8, h8, X8, e8, W8, st8⟩ := stI X7 hx hZ e7 Ar_b7 (j := (0 : Int32)) hin197 (g := (mkF m 197 #[s0, s1, s2, s3, s4, s5, s6, .val (.int i7), .val (.int i8), .val (.int i9), .val (.int i10), s11, .val (.long j12), .second, .val (.long j14), .second, .val (.long j16), .second, .val (.long j18), .second, .unset, .unset, .unset, .unset, .unset, .unset, .unset, .unset, .unset, .unset, .unset, .unset, .unset] [(.int i8), (.int (0 : Int32)), (.ref b7), (.ref b7)])) rfl rfl (hb hby at_197)
  have V_b7_8 := Arv.set Ar_b7 q_b7 S_b7 N_b7 H_b7 G_b7 rfl W8 0 rfl (Nat.le_of_ble_eq_true rfl)
  have K8 : Keep h0 h8 [] := K7.wr W8 (Or.inr sz_b7)
  have N8 := Fr.snoc X8 N0 g_b7
  obtain ⟨cl_b7_202, Ar_b7, q_b7, S_b7, N_b7, H_b7, G_b7⟩ := V_b7_8
  have hin202 : ¬ ((1 : Int32) < 0 ∨ cl_b7_202.slots.size ≤ ((1 : Int32)).toNatClampNeg) := inb_of S_b7 ⟨by decide, by decide⟩
  obtain ⟨T9, h9, X9, e9, W9, st9⟩ := stI X8 hx hZ e8 Ar_b7 (j := (1 : Int32)) hin202 (g := (mkF m 202 #[s0, s1, s2, s3, s4, s5, s6, .val (.int i7), .val (.int i8), .val (.int i9), .val (.int i10), s11, .val (.long j12), .second, .val (.long j14), .second, .val (.long j16), .second, .val (.long j18), .second, .unset, .unset, .unset, .unset, .unset, .unset, .unset, .unset, .unset, .unset, .unset, .unset, .unset] [(.int i9), (.int (1 : Int32)), (.ref b7), (.ref b7)])) rfl rfl (hb hby at_202)
  have V_b7_9 := Arv.set Ar_b7 q_b7 S_b7 N_b7 H_b7 G_b7 rfl W9 1 rfl (Nat.le_of_ble_eq_true rfl)
  have K9 : Keep h0 h9 [] := K8.wr W9 (Or.inr sz_b7)
  have N9 := Fr.snoc X9 N8 g_b7
  obtain ⟨cl_b7_207, Ar_b7, q_b7, S_b7, N_b7, H_b7, G_b7⟩ := V_b7_9
  have hin207 : ¬ ((2 : Int32) < 0 ∨ cl_b7_207.slots.size ≤ ((2 : Int32)).toNatClampNeg) := inb_of S_b7 ⟨by decide, by decide⟩
  obtain ⟨T10, h10, X10, e10, W10, st10⟩ := stI X9 hx hZ e9 Ar_b7 (j := (2 : Int32)) hin207 (g := (mkF m 207 #[s0, s1, s2, s3, s4, s5, s6, .val (.int i7), .val (.int i8), .val (.int i9), .val (.int i10), s11, .val (.long j12), .second, .val (.long j14), .second, .val (.long j16), .second, .val (.long j18), .second, .unset, .unset, .unset, .unset, .unset, .unset, .unset, .unset, .unset, .unset, .unset, .unset, .unset] [(.int i10), (.int (2 : Int32)), (.ref b7), (.ref b7)])) rfl rfl (hb hby at_207)
  have V_b7_10 := Arv.set Ar_b7 q_b7 S_b7 N_b7 H_b7 G_b7 rfl W10 2 rfl (Nat.le_of_ble_eq_true rfl)
  have K10 : Keep h0 h10 [] := K9.wr W10 (Or.inr sz_b7)
  have N10 := Fr.snoc X10 N9 g_b7
  obtain ⟨cl, Ar, -, S, -, Hs, -⟩ := V_b7_10
  refine ⟨T10, _, _, b7, cl, X10, e10, N10, Nat.le_trans Z0 K10.1, K10, Ar, S, ?_, fun target kt => ?_⟩
  · intro j hj
    have q := Hs j (by rw [S]; exact hj)
    match j, hj, q with
    | 0, _, q => exact q
    | 1, _, q => exact q
    | 2, _, q => exact q
    | z + 3, hj, _ => exact absurd hj (by omega)
  · show Steps p.tables e below (T0.setTop (mkF m 93 #[s0, s1, s2, s3, s4, s5, s6, .val (.int i7), .val (.int i8), .val (.int i9), .val (.int i10), s11, .val (.long j12), .second, .val (.long j14), .second, .val (.long j16), .second, .val (.long j18), .second, .unset, .unset, .unset, .unset, .unset, .unset, .unset, .unset, .unset, .unset, .unset, .unset, .unset] [])) _
    refine XS.iload X0.here hx rfl (hb hby at_93) rfl ?_
    show Steps p.tables e below (T0.setTop (mkF m 95 #[s0, s1, s2, s3, s4, s5, s6, .val (.int i7), .val (.int i8), .val (.int i9), .val (.int i10), s11, .val (.long j12), .second, .val (.long j14), .second, .val (.long j16), .second, .val (.long j18), .second, .unset, .unset, .unset, .unset, .unset, .unset, .unset, .unset, .unset, .unset, .unset, .unset, .unset] [(.int i7)])) _
    refine XS.ifYes X0.here hx rfl (pc0 := 95) (pc' := 110) rfl (hb hby at_95) rfl ((if0 _ _).trans (feq hc95).2) (by decide) (by decide) ?_
    show Steps p.tables e below (T0.setTop (mkF m 110 #[s0, s1, s2, s3, s4, s5, s6, .val (.int i7), .val (.int i8), .val (.int i9), .val (.int i10), s11, .val (.long j12), .second, .val (.long j14), .second, .val (.long j16), .second, .val (.long j18), .second, .unset, .unset, .unset, .unset, .unset, .unset, .unset, .unset, .unset, .unset, .unset, .unset, .unset] [])) _
    refine XS.iload X0.here hx rfl (hb hby at_110) rfl ?_
    show Steps p.tables e below (T0.setTop (mkF m 112 #[s0, s1, s2, s3, s4, s5, s6, .val (.int i7), .val (.int i8), .val (.int i9), .val (.int i10), s11, .val (.long j12), .second, .val (.long j14), .second, .val (.long j16), .second, .val (.long j18), .second, .unset, .unset, .unset, .unset, .unset, .unset, .unset, .unset, .unset, .unset, .unset, .unset, .unset] [(.int i7)])) _
    refine XS.iconst X0.here hx rfl (hb hby at_112) ?_
    show Steps p.tables e below (T0.setTop (mkF m 113 #[s0, s1, s2, s3, s4, s5, s6, .val (.int i7), .val (.int i8), .val (.int i9), .val (.int i10), s11, .val (.long j12), .second, .val (.long j14), .second, .val (.long j16), .second, .val (.long j18), .second, .unset, .unset, .unset, .unset, .unset, .unset, .unset, .unset, .unset, .unset, .unset, .unset, .unset] [(.int (1 : Int32)), (.int i7)])) _
    refine XS.icmpYes X0.here hx rfl (pc0 := 113) (pc' := 144) rfl (hb hby at_113) rfl (feq hc113).2 (by decide) (by decide) ?_
    show Steps p.tables e below (T0.setTop (mkF m 144 #[s0, s1, s2, s3, s4, s5, s6, .val (.int i7), .val (.int i8), .val (.int i9), .val (.int i10), s11, .val (.long j12), .second, .val (.long j14), .second, .val (.long j16), .second, .val (.long j18), .second, .unset, .unset, .unset, .unset, .unset, .unset, .unset, .unset, .unset, .unset, .unset, .unset, .unset] [])) _
    refine XS.iload X0.here hx rfl (hb hby at_144) rfl ?_
    show Steps p.tables e below (T0.setTop (mkF m 146 #[s0, s1, s2, s3, s4, s5, s6, .val (.int i7), .val (.int i8), .val (.int i9), .val (.int i10), s11, .val (.long j12), .second, .val (.long j14), .second, .val (.long j16), .second, .val (.long j18), .second, .unset, .unset, .unset, .unset, .unset, .unset, .unset, .unset, .unset, .unset, .unset, .unset, .unset] [(.int i7)])) _
    refine XS.iconst X0.here hx rfl (hb hby at_146) ?_
    show Steps p.tables e below (T0.setTop (mkF m 147 #[s0, s1, s2, s3, s4, s5, s6, .val (.int i7), .val (.int i8), .val (.int i9), .val (.int i10), s11, .val (.long j12), .second, .val (.long j14), .second, .val (.long j16), .second, .val (.long j18), .second, .unset, .unset, .unset, .unset, .unset, .unset, .unset, .unset, .unset, .unset, .unset, .unset, .unset] [(.int (2 : Int32)), (.int i7)])) _
    refine XS.icmpYes X0.here hx rfl (pc0 := 147) (pc' := 190) rfl (hb hby at_147) rfl (feq hc147).2 (by decide) (by decide) ?_
    show Steps p.tables e below (T0.setTop (mkF m 190 #[s0, s1, s2, s3, s4, s5, s6, .val (.int i7), .val (.int i8), .val (.int i9), .val (.int i10), s11, .val (.long j12), .second, .val (.long j14), .second, .val (.long j16), .second, .val (.long j18), .second, .unset, .unset, .unset, .unset, .unset, .unset, .unset, .unset, .unset, .unset, .unset, .unset, .unset] [])) _
    refine XS.iconst X0.here hx rfl (hb hby at_190) ?_
    show Steps p.tables e below (T0.setTop (mkF m 191 #[s0, s1, s2, s3, s4, s5, s6, .val (.int i7), .val (.int i8), .val (.int i9), .val (.int i10), s11, .val (.long j12), .second, .val (.long j14), .second, .val (.long j16), .second, .val (.long j18), .second, .unset, .unset, .unset, .unset, .unset, .unset, .unset, .unset, .unset, .unset, .unset, .unset, .unset] [(.int (3 : Int32))])) _
    refine st7 _ ?_
    show Steps p.tables e below (T7.setTop (mkF m 193 #[s0, s1, s2, s3, s4, s5, s6, .val (.int i7), .val (.int i8), .val (.int i9), .val (.int i10), s11, .val (.long j12), .second, .val (.long j14), .second, .val (.long j16), .second, .val (.long j18), .second, .unset, .unset, .unset, .unset, .unset, .unset, .unset, .unset, .unset, .unset, .unset, .unset, .unset] [(.ref b7)])) _
    refine XS.dup X7.here hx rfl (hb hby at_193) rfl rfl ?_
    show Steps p.tables e below (T7.setTop (mkF m 194 #[s0, s1, s2, s3, s4, s5, s6, .val (.int i7), .val (.int i8), .val (.int i9), .val (.int i10), s11, .val (.long j12), .second, .val (.long j14), .second, .val (.long j16), .second, .val (.long j18), .second, .unset, .unset, .unset, .unset, .unset, .unset, .unset, .unset, .unset, .unset, .unset, .unset, .unset] [(.ref b7), (.ref b7)])) _
    refine XS.iconst X7.here hx rfl (hb hby at_194) ?_
    show Steps p.tables e below (T7.setTop (mkF m 195 #[s0, s1, s2, s3, s4, s5, s6, .val (.int i7), .val (.int i8), .val (.int i9), .val (.int i10), s11, .val (.long j12), .second, .val (.long j14), .second, .val (.long j16), .second, .val (.long j18), .second, .unset, .unset, .unset, .unset, .unset, .unset, .unset, .unset, .unset, .unset, .unset, .unset, .unset] [(.int (0 : Int32)), (.ref b7), (.ref b7)])) _
    refine XS.iload X7.here hx rfl (hb hby at_195) rfl ?_
    show Steps p.tables e below (T7.setTop (mkF m 197 #[s0, s1, s2, s3, s4, s5, s6, .val (.int i7), .val (.int i8), .val (.int i9), .val (.int i10), s11, .val (.long j12), .second, .val (.long j14), .second, .val (.long j16), .second, .val (.long j18), .second, .unset, .unset, .unset, .unset, .unset, .unset, .unset, .unset, .unset, .unset, .unset, .unset, .unset] [(.int i8), (.int (0 : Int32)), (.ref b7), (.ref b7)])) _
    refine st8 _ ?_
    show Steps p.tables e below (T8.setTop (mkF m 198 #[s0, s1, s2, s3, s4, s5, s6, .val (.int i7), .val (.int i8), .val (.int i9), .val (.int i10), s11, .val (.long j12), .second, .val (.long j14), .second, .val (.long j16), .second, .val (.long j18), .second, .unset, .unset, .unset, .unset, .unset, .unset, .unset, .unset, .unset, .unset, .unset, .unset, .unset] [(.ref b7)])) _
    refine XS.dup X8.here hx rfl (hb hby at_198) rfl rfl ?_
    show Steps p.tables e below (T8.setTop (mkF m 199 #[s0, s1, s2, s3, s4, s5, s6, .val (.int i7), .val (.int i8), .val (.int i9), .val (.int i10), s11, .val (.long j12), .second, .val (.long j14), .second, .val (.long j16), .second, .val (.long j18), .second, .unset, .unset, .unset, .unset, .unset, .unset, .unset, .unset, .unset, .unset, .unset, .unset, .unset] [(.ref b7), (.ref b7)])) _
    refine XS.iconst X8.here hx rfl (hb hby at_199) ?_
    show Steps p.tables e below (T8.setTop (mkF m 200 #[s0, s1, s2, s3, s4, s5, s6, .val (.int i7), .val (.int i8), .val (.int i9), .val (.int i10), s11, .val (.long j12), .second, .val (.long j14), .second, .val (.long j16), .second, .val (.long j18), .second, .unset, .unset, .unset, .unset, .unset, .unset, .unset, .unset, .unset, .unset, .unset, .unset, .unset] [(.int (1 : Int32)), (.ref b7), (.ref b7)])) _
    refine XS.iload X8.here hx rfl (hb hby at_200) rfl ?_
    show Steps p.tables e below (T8.setTop (mkF m 202 #[s0, s1, s2, s3, s4, s5, s6, .val (.int i7), .val (.int i8), .val (.int i9), .val (.int i10), s11, .val (.long j12), .second, .val (.long j14), .second, .val (.long j16), .second, .val (.long j18), .second, .unset, .unset, .unset, .unset, .unset, .unset, .unset, .unset, .unset, .unset, .unset, .unset, .unset] [(.int i9), (.int (1 : Int32)), (.ref b7), (.ref b7)])) _
    refine st9 _ ?_
    show Steps p.tables e below (T9.setTop (mkF m 203 #[s0, s1, s2, s3, s4, s5, s6, .val (.int i7), .val (.int i8), .val (.int i9), .val (.int i10), s11, .val (.long j12), .second, .val (.long j14), .second, .val (.long j16), .second, .val (.long j18), .second, .unset, .unset, .unset, .unset, .unset, .unset, .unset, .unset, .unset, .unset, .unset, .unset, .unset] [(.ref b7)])) _
    refine XS.dup X9.here hx rfl (hb hby at_203) rfl rfl ?_
    show Steps p.tables e below (T9.setTop (mkF m 204 #[s0, s1, s2, s3, s4, s5, s6, .val (.int i7), .val (.int i8), .val (.int i9), .val (.int i10), s11, .val (.long j12), .second, .val (.long j14), .second, .val (.long j16), .second, .val (.long j18), .second, .unset, .unset, .unset, .unset, .unset, .unset, .unset, .unset, .unset, .unset, .unset, .unset, .unset] [(.ref b7), (.ref b7)])) _
    refine XS.iconst X9.here hx rfl (hb hby at_204) ?_
    show Steps p.tables e below (T9.setTop (mkF m 205 #[s0, s1, s2, s3, s4, s5, s6, .val (.int i7), .val (.int i8), .val (.int i9), .val (.int i10), s11, .val (.long j12), .second, .val (.long j14), .second, .val (.long j16), .second, .val (.long j18), .second, .unset, .unset, .unset, .unset, .unset, .unset, .unset, .unset, .unset, .unset, .unset, .unset, .unset] [(.int (2 : Int32)), (.ref b7), (.ref b7)])) _
    refine XS.iload X9.here hx rfl (hb hby at_205) rfl ?_
    show Steps p.tables e below (T9.setTop (mkF m 207 #[s0, s1, s2, s3, s4, s5, s6, .val (.int i7), .val (.int i8), .val (.int i9), .val (.int i10), s11, .val (.long j12), .second, .val (.long j14), .second, .val (.long j16), .second, .val (.long j18), .second, .unset, .unset, .unset, .unset, .unset, .unset, .unset, .unset, .unset, .unset, .unset, .unset, .unset] [(.int i10), (.int (2 : Int32)), (.ref b7), (.ref b7)])) _
    refine st10 _ ?_
    show Steps p.tables e below (T10.setTop (mkF m 208 #[s0, s1, s2, s3, s4, s5, s6, .val (.int i7), .val (.int i8), .val (.int i9), .val (.int i10), s11, .val (.long j12), .second, .val (.long j14), .second, .val (.long j16), .second, .val (.long j18), .second, .unset, .unset, .unset, .unset, .unset, .unset, .unset, .unset, .unset, .unset, .unset, .unset, .unset] [(.ref b7)])) _
    refine XS.astore X10.here hx rfl (hb hby at_208) rfl rfl (l' := #[s0, s1, s2, s3, s4, s5, s6, .val (.int i7), .val (.int i8), .val (.int i9), .val (.int i10), s11, .val (.long j12), .second, .val (.long j14), .second, .val (.long j16), .second, .val (.long j18), .second, .val (.ref b7), .unset, .unset, .unset, .unset, .unset, .unset, .unset, .unset, .unset, .unset, .unset, .unset]) rfl ?_
    show Steps p.tables e below (T10.setTop (mkF m 210 #[s0, s1, s2, s3, s4, s5, s6, .val (.int i7), .val (.int i8), .val (.int i9), .val (.int i10), s11, .val (.long j12), .second, .val (.long j14), .second, .val (.long j16), .second, .val (.long j18), .second, .val (.ref b7), .unset, .unset, .unset, .unset, .unset, .unset, .unset, .unset, .unset, .unset, .unset, .unset] [])) _
    refine XS.lload X10.here hx rfl (hb hby at_210) rfl ?_
    show Steps p.tables e below (T10.setTop (mkF m 212 #[s0, s1, s2, s3, s4, s5, s6, .val (.int i7), .val (.int i8), .val (.int i9), .val (.int i10), s11, .val (.long j12), .second, .val (.long j14), .second, .val (.long j16), .second, .val (.long j18), .second, .val (.ref b7), .unset, .unset, .unset, .unset, .unset, .unset, .unset, .unset, .unset, .unset, .unset, .unset] [(.long j18)])) _
    refine X10.ldc2Long hx hown (mvT hZ (hw _ (List.mem_of_getElem? (i := 6) rfl))) (g := (mkF m 212 #[s0, s1, s2, s3, s4, s5, s6, .val (.int i7), .val (.int i8), .val (.int i9), .val (.int i10), s11, .val (.long j12), .second, .val (.long j14), .second, .val (.long j16), .second, .val (.long j18), .second, .val (.ref b7), .unset, .unset, .unset, .unset, .unset, .unset, .unset, .unset, .unset, .unset, .unset, .unset] [(.long j18)])) rfl (hb hby at_212) _ ?_
    show Steps p.tables e below (T10.setTop (mkF m 215 #[s0, s1, s2, s3, s4, s5, s6, .val (.int i7), .val (.int i8), .val (.int i9), .val (.int i10), s11, .val (.long j12), .second, .val (.long j14), .second, .val (.long j16), .second, .val (.long j18), .second, .val (.ref b7), .unset, .unset, .unset, .unset, .unset, .unset, .unset, .unset, .unset, .unset, .unset, .unset] [(.long (6938460308862072877 : Int64)), (.long j18)])) _
    refine XS.lmul X10.here hx rfl (hb hby at_215) rfl ?_
    show Steps p.tables e below (T10.setTop (mkF m 216 #[s0, s1, s2, s3, s4, s5, s6, .val (.int i7), .val (.int i8), .val (.int i9), .val (.int i10), s11, .val (.long j12), .second, .val (.long j14), .second, .val (.long j16), .second, .val (.long j18), .second, .val (.ref b7), .unset, .unset, .unset, .unset, .unset, .unset, .unset, .unset, .unset, .unset, .unset, .unset] [(.long (j18 * (6938460308862072877 : Int64)))])) _
    refine XS.lload X10.here hx rfl (hb hby at_216) rfl ?_
    show Steps p.tables e below (T10.setTop (mkF m 218 #[s0, s1, s2, s3, s4, s5, s6, .val (.int i7), .val (.int i8), .val (.int i9), .val (.int i10), s11, .val (.long j12), .second, .val (.long j14), .second, .val (.long j16), .second, .val (.long j18), .second, .val (.ref b7), .unset, .unset, .unset, .unset, .unset, .unset, .unset, .unset, .unset, .unset, .unset, .unset] [(.long j12), (.long (j18 * (6938460308862072877 : Int64)))])) _
    refine X10.ldc2Long hx hown (mvT hZ (hw _ (List.mem_of_getElem? (i := 6) rfl))) (g := (mkF m 218 #[s0, s1, s2, s3, s4, s5, s6, .val (.int i7), .val (.int i8), .val (.int i9), .val (.int i10), s11, .val (.long j12), .second, .val (.long j14), .second, .val (.long j16), .second, .val (.long j18), .second, .val (.ref b7), .unset, .unset, .unset, .unset, .unset, .unset, .unset, .unset, .unset, .unset, .unset, .unset] [(.long j12), (.long (j18 * (6938460308862072877 : Int64)))])) rfl (hb hby at_218) _ ?_
    show Steps p.tables e below (T10.setTop (mkF m 221 #[s0, s1, s2, s3, s4, s5, s6, .val (.int i7), .val (.int i8), .val (.int i9), .val (.int i10), s11, .val (.long j12), .second, .val (.long j14), .second, .val (.long j16), .second, .val (.long j18), .second, .val (.ref b7), .unset, .unset, .unset, .unset, .unset, .unset, .unset, .unset, .unset, .unset, .unset, .unset] [(.long (6938460308862072877 : Int64)), (.long j12), (.long (j18 * (6938460308862072877 : Int64)))])) _
    refine XS.lmul X10.here hx rfl (hb hby at_221) rfl ?_
    show Steps p.tables e below (T10.setTop (mkF m 222 #[s0, s1, s2, s3, s4, s5, s6, .val (.int i7), .val (.int i8), .val (.int i9), .val (.int i10), s11, .val (.long j12), .second, .val (.long j14), .second, .val (.long j16), .second, .val (.long j18), .second, .val (.ref b7), .unset, .unset, .unset, .unset, .unset, .unset, .unset, .unset, .unset, .unset, .unset, .unset] [(.long (j12 * (6938460308862072877 : Int64))), (.long (j18 * (6938460308862072877 : Int64)))])) _
    refine XS.ladd X10.here hx rfl (hb hby at_222) rfl ?_
    show Steps p.tables e below (T10.setTop (mkF m 223 #[s0, s1, s2, s3, s4, s5, s6, .val (.int i7), .val (.int i8), .val (.int i9), .val (.int i10), s11, .val (.long j12), .second, .val (.long j14), .second, .val (.long j16), .second, .val (.long j18), .second, .val (.ref b7), .unset, .unset, .unset, .unset, .unset, .unset, .unset, .unset, .unset, .unset, .unset, .unset] [(.long ((j18 * (6938460308862072877 : Int64)) + (j12 * (6938460308862072877 : Int64))))])) _
    refine XS.lload X10.here hx rfl (hb hby at_223) rfl ?_
    show Steps p.tables e below (T10.setTop (mkF m 225 #[s0, s1, s2, s3, s4, s5, s6, .val (.int i7), .val (.int i8), .val (.int i9), .val (.int i10), s11, .val (.long j12), .second, .val (.long j14), .second, .val (.long j16), .second, .val (.long j18), .second, .val (.ref b7), .unset, .unset, .unset, .unset, .unset, .unset, .unset, .unset, .unset, .unset, .unset, .unset] [(.long j14), (.long ((j18 * (6938460308862072877 : Int64)) + (j12 * (6938460308862072877 : Int64))))])) _
    refine X10.ldc2Long hx hown (mvT hZ (hw _ (List.mem_of_getElem? (i := 7) rfl))) (g := (mkF m 225 #[s0, s1, s2, s3, s4, s5, s6, .val (.int i7), .val (.int i8), .val (.int i9), .val (.int i10), s11, .val (.long j12), .second, .val (.long j14), .second, .val (.long j16), .second, .val (.long j18), .second, .val (.ref b7), .unset, .unset, .unset, .unset, .unset, .unset, .unset, .unset, .unset, .unset, .unset, .unset] [(.long j14), (.long ((j18 * (6938460308862072877 : Int64)) + (j12 * (6938460308862072877 : Int64))))])) rfl (hb hby at_225) _ ?_
    show Steps p.tables e below (T10.setTop (mkF m 228 #[s0, s1, s2, s3, s4, s5, s6, .val (.int i7), .val (.int i8), .val (.int i9), .val (.int i10), s11, .val (.long j12), .second, .val (.long j14), .second, .val (.long j16), .second, .val (.long j18), .second, .val (.ref b7), .unset, .unset, .unset, .unset, .unset, .unset, .unset, .unset, .unset, .unset, .unset, .unset] [(.long (-2358710677322311239 : Int64)), (.long j14), (.long ((j18 * (6938460308862072877 : Int64)) + (j12 * (6938460308862072877 : Int64))))])) _
    refine XS.lmul X10.here hx rfl (hb hby at_228) rfl ?_
    show Steps p.tables e below (T10.setTop (mkF m 229 #[s0, s1, s2, s3, s4, s5, s6, .val (.int i7), .val (.int i8), .val (.int i9), .val (.int i10), s11, .val (.long j12), .second, .val (.long j14), .second, .val (.long j16), .second, .val (.long j18), .second, .val (.ref b7), .unset, .unset, .unset, .unset, .unset, .unset, .unset, .unset, .unset, .unset, .unset, .unset] [(.long (j14 * (-2358710677322311239 : Int64))), (.long ((j18 * (6938460308862072877 : Int64)) + (j12 * (6938460308862072877 : Int64))))])) _
    refine XS.ladd X10.here hx rfl (hb hby at_229) rfl ?_
    show Steps p.tables e below (T10.setTop (mkF m 230 #[s0, s1, s2, s3, s4, s5, s6, .val (.int i7), .val (.int i8), .val (.int i9), .val (.int i10), s11, .val (.long j12), .second, .val (.long j14), .second, .val (.long j16), .second, .val (.long j18), .second, .val (.ref b7), .unset, .unset, .unset, .unset, .unset, .unset, .unset, .unset, .unset, .unset, .unset, .unset] [(.long (((j18 * (6938460308862072877 : Int64)) + (j12 * (6938460308862072877 : Int64))) + (j14 * (-2358710677322311239 : Int64))))])) _
    refine XS.lload X10.here hx rfl (hb hby at_230) rfl ?_
    show Steps p.tables e below (T10.setTop (mkF m 232 #[s0, s1, s2, s3, s4, s5, s6, .val (.int i7), .val (.int i8), .val (.int i9), .val (.int i10), s11, .val (.long j12), .second, .val (.long j14), .second, .val (.long j16), .second, .val (.long j18), .second, .val (.ref b7), .unset, .unset, .unset, .unset, .unset, .unset, .unset, .unset, .unset, .unset, .unset, .unset] [(.long j16), (.long (((j18 * (6938460308862072877 : Int64)) + (j12 * (6938460308862072877 : Int64))) + (j14 * (-2358710677322311239 : Int64))))])) _
    refine X10.ldc2Long hx hown (mvT hZ (hw _ (List.mem_of_getElem? (i := 8) rfl))) (g := (mkF m 232 #[s0, s1, s2, s3, s4, s5, s6, .val (.int i7), .val (.int i8), .val (.int i9), .val (.int i10), s11, .val (.long j12), .second, .val (.long j14), .second, .val (.long j16), .second, .val (.long j18), .second, .val (.ref b7), .unset, .unset, .unset, .unset, .unset, .unset, .unset, .unset, .unset, .unset, .unset, .unset] [(.long j16), (.long (((j18 * (6938460308862072877 : Int64)) + (j12 * (6938460308862072877 : Int64))) + (j14 * (-2358710677322311239 : Int64))))])) rfl (hb hby at_232) _ ?_
    show Steps p.tables e below (T10.setTop (mkF m 235 #[s0, s1, s2, s3, s4, s5, s6, .val (.int i7), .val (.int i8), .val (.int i9), .val (.int i10), s11, .val (.long j12), .second, .val (.long j14), .second, .val (.long j16), .second, .val (.long j18), .second, .val (.ref b7), .unset, .unset, .unset, .unset, .unset, .unset, .unset, .unset, .unset, .unset, .unset, .unset] [(.long (-7046029254386353131 : Int64)), (.long j16), (.long (((j18 * (6938460308862072877 : Int64)) + (j12 * (6938460308862072877 : Int64))) + (j14 * (-2358710677322311239 : Int64))))])) _
    refine XS.lmul X10.here hx rfl (hb hby at_235) rfl ?_
    show Steps p.tables e below (T10.setTop (mkF m 236 #[s0, s1, s2, s3, s4, s5, s6, .val (.int i7), .val (.int i8), .val (.int i9), .val (.int i10), s11, .val (.long j12), .second, .val (.long j14), .second, .val (.long j16), .second, .val (.long j18), .second, .val (.ref b7), .unset, .unset, .unset, .unset, .unset, .unset, .unset, .unset, .unset, .unset, .unset, .unset] [(.long (j16 * (-7046029254386353131 : Int64))), (.long (((j18 * (6938460308862072877 : Int64)) + (j12 * (6938460308862072877 : Int64))) + (j14 * (-2358710677322311239 : Int64))))])) _
    refine XS.ladd X10.here hx rfl (hb hby at_236) rfl ?_
    show Steps p.tables e below (T10.setTop (mkF m 237 #[s0, s1, s2, s3, s4, s5, s6, .val (.int i7), .val (.int i8), .val (.int i9), .val (.int i10), s11, .val (.long j12), .second, .val (.long j14), .second, .val (.long j16), .second, .val (.long j18), .second, .val (.ref b7), .unset, .unset, .unset, .unset, .unset, .unset, .unset, .unset, .unset, .unset, .unset, .unset] [(.long ((((j18 * (6938460308862072877 : Int64)) + (j12 * (6938460308862072877 : Int64))) + (j14 * (-2358710677322311239 : Int64))) + (j16 * (-7046029254386353131 : Int64))))])) _
    refine XS.lstore X10.here hx rfl (hb hby at_237) rfl (l' := #[s0, s1, s2, s3, s4, s5, s6, .val (.int i7), .val (.int i8), .val (.int i9), .val (.int i10), s11, .val (.long j12), .second, .val (.long j14), .second, .val (.long j16), .second, .val (.long j18), .second, .val (.ref b7), .val (.long ((((j18 * (6938460308862072877 : Int64)) + (j12 * (6938460308862072877 : Int64))) + (j14 * (-2358710677322311239 : Int64))) + (j16 * (-7046029254386353131 : Int64)))), .second, .unset, .unset, .unset, .unset, .unset, .unset, .unset, .unset, .unset, .unset]) rfl ?_
    exact kt
theorem pd_0_1 : parseMethodDescriptor "(II[I)V" = some ⟨[.int, .int, (.array .int)], none⟩ := by decide +kernel
theorem pd_0_3 : parseMethodDescriptor "([I)I" = some ⟨[(.array .int)], some .int⟩ := by decide +kernel
set_option maxRecDepth 65536 in
set_option maxHeartbeats 40000000 in
theorem own_C {p : Program} {l : Launch} {e : Env} {s : State} {m : MethodId} {args : Array Value} {below : List Frame} {meth : Method} {c : Code} {T0 : State} {locs : List Loc} {sl : Nat} {Z : State} {a0 : Array Value} {h0 : Heap} (i0 : Int32) (s1 : Slot) (s2 : Slot) (s3 : Slot) (s4 : Slot) (s5 : Slot) (i6 : Int32) (s7 : Slot) (s8 : Slot) (s9 : Slot) (s10 : Slot) (o11 : Addr) (s12 : Slot) (s13 : Slot) (s14 : Slot) (s15 : Slot) (s16 : Slot) (s17 : Slot) (s18 : Slot) (s19 : Slot) (o20 : Addr) (j21 : Int64) (X0 : Stand p l e room_1 s m args below meth c T0 locs 2 sl) (hx : p.tables.exec = Jvm.exec) (hZ : Z.Warmed39 s.vm) (hw : ∀ d ∈ tables_1, d.before a0 Z = true) (hby : c.code = code) (hml : c.maxLocals = 33) (hown : s.vm.findClass "org/stratalog/internal/engine/PickerShardOfPinLaw" = some m.cls) (e0 : T0.heap = h0) (n0 : Nat) (Z0 : n0 ≤ h0.size) (N0 : Fr n0 locs) (hsl : sl ≤ 100) (n : Nat) (hn : n ≤ 255) (pl vl : Nat → Int32) (cl20 cl11 : Cell) (Ar20 : Arr Z h0 o20 cl20 .int) (S20 : cl20.slots.size = (Int32.ofNat n).toNatClampNeg) (hpl : ∀ j, j < n → cl20.slots[j]? = some (.int (pl j))) (Ar11 : Arr Z h0 o11 cl11 .int) (hvi : ∀ j, j < n → ¬ (pl j < 0 ∨ cl11.slots.size ≤ (pl j).toNatClampNeg)) (hvl : ∀ j, j < n → cl11.slots[(pl j).toNatClampNeg]? = some (.int (vl j))) (hH : j21 = own_h vl n 0 i0.toInt64) (h1 : 1 ≤ i6.toInt) :
    ∃ (T' : State) (locs' : List Loc) (b7 : Addr), Stand p l e room_1 s m args below meth c T' locs' 3 (sl + 3) ∧ Fr n0 locs' ∧
      ∀ target, Steps p.tables e below (T'.setTop (mkF m 330 #[.val (.int i0), s1, s2, s3, s4, s5, .val (.int i6), s7, s8, s9, s10, .val (.ref o11), s12, s13, s14, s15, s16, s17, s18, s19, .val (.ref o20), .val (.long j21), .second, .val (.ref b7), .val (.int (own_shard j21 i6)), .val (.long ((j21.toUInt64 >>> ((32 : Int32) &&& 0x3f).toInt64.toUInt64).toInt64)), .second, .val (.long (((j21.toUInt64 >>> ((32 : Int32) &&& 0x3f).toInt64.toUInt64).toInt64) * (i6.toInt64))), .second, .val (.long (((own_shard j21 i6).toInt64) <<< ((32 : Int32) &&& 0x3f).toInt64)), .second, .val (.long ((((own_shard j21 i6).toInt64) + (1 : Int64)) <<< ((32 : Int32) &&& 0x3f).toInt64)), .second] [(.int (1 : Int32))])) target → Steps p.tables e below (T0.setTop (mkF m 239 #[.val (.int i0), s1, s2, s3, s4, s5, .val (.int i6), s7, s8, s9, s10, .val (.ref o11), s12, s13, s14, s15, s16, s17, s18, s19, .val (.ref o20), .val (.long j21), .second, .unset, .unset, .unset, .unset, .unset, .unset, .unset, .unset, .unset, .unset] [])) target := by
  obtain ⟨T7, h7, X7, e7, E7, A7, D7, -, st7⟩ := newO X0 hx hZ hown (hw _ (List.mem_of_getElem? (i := 9) rfl)) (hw _ (List.mem_of_getElem? (i := 10) rfl)) (hw _ (List.mem_of_getElem? (i := 11) rfl)) e0 (g := (mkF m 239 #[.val (.int i0), s1, s2, s3, s4, s5, .val (.int i6), s7, s8, s9, s10, .val (.ref o11), s12, s13, s14, s15, s16, s17, s18, s19, .val (.ref o20), .val (.long j21), .second, .unset, .unset, .unset, .unset, .unset, .unset, .unset, .unset, .unset, .unset] [])) rfl (hb hby at_239) (by decide) (by show sl + 3 ≤ 128; omega)
  obtain ⟨b7, g7⟩ : ∃ z, z = h0.size := ⟨_, rfl⟩
  rw [← g7] at A7 D7 st7
  have F_seed_b7 : Fld Z h7 b7 "org/stratalog/internal/engine/ShardedRelation$Picker" "seed" "I" (.int (0 : Int32)) := D7 (Or.inr (hw _ (List.mem_of_getElem? (i := 19) rfl))) (ty := .int) (by decide)
  have F_count_b7 : Fld Z h7 b7 "org/stratalog/internal/engine/ShardedRelation$Picker" "count" "I" (.int (0 : Int32)) := D7 (Or.inr (hw _ (List.mem_of_getElem? (i := 21) rfl))) (ty := .int) (by decide)
  have F_places_b7 : Fld Z h7 b7 "org/stratalog/internal/engine/ShardedRelation$Picker" "places" "[I" .null := D7 (Or.inr (hw _ (List.mem_of_getElem? (i := 23) rfl))) (ty := (.array .int)) (by decide)
  have E_b7 := A7
  have g_b7 : n0 ≤ b7 := Nat.le_trans Z0 (Nat.le_of_eq g7.symm)
  obtain ⟨_, _, ⟨T8, L8, k8, n8⟩, -, X8, ⟨Lc8, hQ8, l8, y8, z8⟩, st8⟩ := X7.specialBack hx (y := (⟨"org/stratalog/internal/engine/ShardedRelation$Picker", "<init>", "(II[I)V"⟩ : MethodName)) rfl hown (mvT hZ (hw _ (List.mem_of_getElem? (i := 12) rfl))) (mvT hZ (hw _ (List.mem_of_getElem? (i := 13) rfl))) (mvT hZ (hw _ (List.mem_of_getElem? (i := 14) rfl))) (by decide) (backOf (W := 1) (rm2 l Z a0 hw [] b7 i0 i6 o20 (.int (0 : Int32)) (.int (0 : Int32)) .null h7 n0 (Nat.le_trans Z0 E7.1) E_b7 F_seed_b7 g_b7 F_count_b7 F_places_b7) hZ (hw _ (List.mem_of_getElem? (i := 14) rfl)) (hw _ (List.mem_of_getElem? (i := 11) rfl)) (by decide) (by decide)) (g := (mkF m 248 #[.val (.int i0), s1, s2, s3, s4, s5, .val (.int i6), s7, s8, s9, s10, .val (.ref o11), s12, s13, s14, s15, s16, s17, s18, s19, .val (.ref o20), .val (.long j21), .second, .unset, .unset, .unset, .unset, .unset, .unset, .unset, .unset, .unset, .unset] [(.ref o20), (.int i6), (.int i0), (.ref b7), (.ref b7)])) rfl (by rw [hml]; rfl) (Steps.refl _) (a := b7) (argsL := [(.int i0), (.int i6), (.ref o20)]) (rest := [(.ref b7)]) (lenOf pd_0_1 rfl) rfl (by show 2 * 0 + _ ≤ _; exact Nat.le_of_eq rfl) (hb hby at_248) (fun _ _ => ⟨rfl, e7, (by decide : 2 + 1 + 0 ≤ _), (by show sl + 3 + 0 ≤ 128; omega)⟩)
  dsimp only [Pt.U, Pt.locs, Pt.cells, Pt.slots] at X8 l8 y8 z8 st8 hQ8
  subst l8 y8 z8
  obtain ⟨rfl, N8q, K8, E8q, Fs, Fc, Fp⟩ := hQ8
  have Z8 : n0 ≤ T8.heap.size := Nat.le_trans (Nat.le_trans Z0 E7.1) K8.1
  have ne20 : o20 ∉ [b7] := fun q => Nat.ne_of_lt (Nat.lt_of_lt_of_le Ar20.lt (Nat.le_of_eq g7.symm)) (List.mem_singleton.mp q)
  have ne11 : o11 ∉ [b7] := fun q => Nat.ne_of_lt (Nat.lt_of_lt_of_le Ar11.lt (Nat.le_of_eq g7.symm)) (List.mem_singleton.mp q)
  have Ar20' := own_akeep (Ar20.ext E7) K8 ne20
  have Ar11' := own_akeep (Ar11.ext E7) K8 ne11
  have N8 := Fr.app N0 N8q
  obtain ⟨cq9, kq9, q9a, q9b, q9c⟩ := isOf hZ rfl E8q
  obtain ⟨_, _, ⟨T9, L9, k9, n9⟩, -, X9, ⟨Lc9, hQ9, l9, y9, z9⟩, st9⟩ := X8.virtualBack hx (y := (⟨"org/stratalog/internal/engine/ShardedRelation$Picker", "shardOf", "([I)I"⟩ : MethodName)) (z := (⟨"org/stratalog/internal/engine/ShardedRelation$Picker", "shardOf", "([I)I"⟩ : MethodName)) hown (mvT hZ (hw _ (List.mem_of_getElem? (i := 24) rfl))) (mvT hZ (hw _ (List.mem_of_getElem? (i := 25) rfl))) (notFace_of_selects (args := #[]) (mvT hZ (hw _ (List.mem_of_getElem? (i := 27) rfl)))) (mvT hZ (hw _ (List.mem_of_getElem? (i := 27) rfl))) (mvT hZ (hw _ (List.mem_of_getElem? (i := 26) rfl))) (by decide) (backOf (W := 0) (rm4 l Z a0 hw [] b7 o11 i0 o20 cl20 n cl11 pl vl j21 i6 T8.heap n0 Z8 Fs Fp Ar20' S20 (own_nn hn) hn hpl Ar11' hvi hvl hH Fc) hZ (hw _ (List.mem_of_getElem? (i := 28) rfl)) (hw _ (List.mem_of_getElem? (i := 11) rfl)) (by decide) (by decide)) q9a q9c (g := (mkF m 257 #[.val (.int i0), s1, s2, s3, s4, s5, .val (.int i6), s7, s8, s9, s10, .val (.ref o11), s12, s13, s14, s15, s16, s17, s18, s19, .val (.ref o20), .val (.long j21), .second, .val (.ref b7), .unset, .unset, .unset, .unset, .unset, .unset, .unset, .unset, .unset] [(.ref o11), (.ref b7)])) rfl (by rw [hml]; rfl) (Steps.refl _) (argsL := [(.ref o11)]) (rest := []) (lenOf pd_0_3 rfl) rfl (by show 2 * 0 + _ ≤ _; exact Nat.le_of_eq rfl) (hb hby at_257) (fun _ _ => ⟨rfl, rfl, (by decide : 2 + 1 + 0 ≤ _), (by show sl + 3 + 0 ≤ 128; omega)⟩)
  dsimp only [Pt.U, Pt.locs, Pt.cells, Pt.slots] at X9 l9 y9 z9 st9 hQ9
  subst l9 y9 z9
  obtain ⟨rfl, N9q, q9e⟩ := hQ9
  have N9 := Fr.app N8 N9q
  refine ⟨T9, _, b7, X9, N9, fun target kt => ?_⟩
  show Steps p.tables e below (T0.setTop (mkF m 239 #[.val (.int i0), s1, s2, s3, s4, s5, .val (.int i6), s7, s8, s9, s10, .val (.ref o11), s12, s13, s14, s15, s16, s17, s18, s19, .val (.ref o20), .val (.long j21), .second, .unset, .unset, .unset, .unset, .unset, .unset, .unset, .unset, .unset, .unset] [])) _
  refine st7 _ ?_
  show Steps p.tables e below (T7.setTop (mkF m 242 #[.val (.int i0), s1, s2, s3, s4, s5, .val (.int i6), s7, s8, s9, s10, .val (.ref o11), s12, s13, s14, s15, s16, s17, s18, s19, .val (.ref o20), .val (.long j21), .second, .unset, .unset, .unset, .unset, .unset, .unset, .unset, .unset, .unset, .unset] [(.ref b7)])) _
  refine XS.dup X7.here hx rfl (hb hby at_242) rfl rfl ?_
  show Steps p.tables e below (T7.setTop (mkF m 243 #[.val (.int i0), s1, s2, s3, s4, s5, .val (.int i6), s7, s8, s9, s10, .val (.ref o11), s12, s13, s14, s15, s16, s17, s18, s19, .val (.ref o20), .val (.long j21), .second, .unset, .unset, .unset, .unset, .unset, .unset, .unset, .unset, .unset, .unset] [(.ref b7), (.ref b7)])) _
  refine XS.iloadN X7.here hx rfl (hb hby at_243) rfl ?_
  show Steps p.tables e below (T7.setTop (mkF m 244 #[.val (.int i0), s1, s2, s3, s4, s5, .val (.int i6), s7, s8, s9, s10, .val (.ref o11), s12, s13, s14, s15, s16, s17, s18, s19, .val (.ref o20), .val (.long j21), .second, .unset, .unset, .unset, .unset, .unset, .unset, .unset, .unset, .unset, .unset] [(.int i0), (.ref b7), (.ref b7)])) _
  refine XS.iload X7.here hx rfl (hb hby at_244) rfl ?_
  show Steps p.tables e below (T7.setTop (mkF m 246 #[.val (.int i0), s1, s2, s3, s4, s5, .val (.int i6), s7, s8, s9, s10, .val (.ref o11), s12, s13, s14, s15, s16, s17, s18, s19, .val (.ref o20), .val (.long j21), .second, .unset, .unset, .unset, .unset, .unset, .unset, .unset, .unset, .unset, .unset] [(.int i6), (.int i0), (.ref b7), (.ref b7)])) _
  refine XS.aload X7.here hx rfl (hb hby at_246) rfl rfl ?_
  show Steps p.tables e below (T7.setTop (mkF m 248 #[.val (.int i0), s1, s2, s3, s4, s5, .val (.int i6), s7, s8, s9, s10, .val (.ref o11), s12, s13, s14, s15, s16, s17, s18, s19, .val (.ref o20), .val (.long j21), .second, .unset, .unset, .unset, .unset, .unset, .unset, .unset, .unset, .unset, .unset] [(.ref o20), (.int i6), (.int i0), (.ref b7), (.ref b7)])) _
  refine st8.trans ?_
  show Steps p.tables e below (T8.setTop (mkF m 251 #[.val (.int i0), s1, s2, s3, s4, s5, .val (.int i6), s7, s8, s9, s10, .val (.ref o11), s12, s13, s14, s15, s16, s17, s18, s19, .val (.ref o20), .val (.long j21), .second, .unset, .unset, .unset, .unset, .unset, .unset, .unset, .unset, .unset, .unset] [(.ref b7)])) _
  refine XS.astore X8.here hx rfl (hb hby at_251) rfl rfl (l' := #[.val (.int i0), s1, s2, s3, s4, s5, .val (.int i6), s7, s8, s9, s10, .val (.ref o11), s12, s13, s14, s15, s16, s17, s18, s19, .val (.ref o20), .val (.long j21), .second, .val (.ref b7), .unset, .unset, .unset, .unset, .unset, .unset, .unset, .unset, .unset]) rfl ?_
  show Steps p.tables e below (T8.setTop (mkF m 253 #[.val (.int i0), s1, s2, s3, s4, s5, .val (.int i6), s7, s8, s9, s10, .val (.ref o11), s12, s13, s14, s15, s16, s17, s18, s19, .val (.ref o20), .val (.long j21), .second, .val (.ref b7), .unset, .unset, .unset, .unset, .unset, .unset, .unset, .unset, .unset] [])) _
  refine XS.aload X8.here hx rfl (hb hby at_253) rfl rfl ?_
  show Steps p.tables e below (T8.setTop (mkF m 255 #[.val (.int i0), s1, s2, s3, s4, s5, .val (.int i6), s7, s8, s9, s10, .val (.ref o11), s12, s13, s14, s15, s16, s17, s18, s19, .val (.ref o20), .val (.long j21), .second, .val (.ref b7), .unset, .unset, .unset, .unset, .unset, .unset, .unset, .unset, .unset] [(.ref b7)])) _
  refine XS.aload X8.here hx rfl (hb hby at_255) rfl rfl ?_
  show Steps p.tables e below (T8.setTop (mkF m 257 #[.val (.int i0), s1, s2, s3, s4, s5, .val (.int i6), s7, s8, s9, s10, .val (.ref o11), s12, s13, s14, s15, s16, s17, s18, s19, .val (.ref o20), .val (.long j21), .second, .val (.ref b7), .unset, .unset, .unset, .unset, .unset, .unset, .unset, .unset, .unset] [(.ref o11), (.ref b7)])) _
  refine st9.trans ?_
  show Steps p.tables e below (T9.setTop (mkF m 260 #[.val (.int i0), s1, s2, s3, s4, s5, .val (.int i6), s7, s8, s9, s10, .val (.ref o11), s12, s13, s14, s15, s16, s17, s18, s19, .val (.ref o20), .val (.long j21), .second, .val (.ref b7), .unset, .unset, .unset, .unset, .unset, .unset, .unset, .unset, .unset] [(.int (own_shard j21 i6))])) _
  refine XS.istore X9.here hx rfl (hb hby at_260) rfl (l' := #[.val (.int i0), s1, s2, s3, s4, s5, .val (.int i6), s7, s8, s9, s10, .val (.ref o11), s12, s13, s14, s15, s16, s17, s18, s19, .val (.ref o20), .val (.long j21), .second, .val (.ref b7), .val (.int (own_shard j21 i6)), .unset, .unset, .unset, .unset, .unset, .unset, .unset, .unset]) rfl ?_
  show Steps p.tables e below (T9.setTop (mkF m 262 #[.val (.int i0), s1, s2, s3, s4, s5, .val (.int i6), s7, s8, s9, s10, .val (.ref o11), s12, s13, s14, s15, s16, s17, s18, s19, .val (.ref o20), .val (.long j21), .second, .val (.ref b7), .val (.int (own_shard j21 i6)), .unset, .unset, .unset, .unset, .unset, .unset, .unset, .unset] [])) _
  refine XS.lload X9.here hx rfl (hb hby at_262) rfl ?_
  show Steps p.tables e below (T9.setTop (mkF m 264 #[.val (.int i0), s1, s2, s3, s4, s5, .val (.int i6), s7, s8, s9, s10, .val (.ref o11), s12, s13, s14, s15, s16, s17, s18, s19, .val (.ref o20), .val (.long j21), .second, .val (.ref b7), .val (.int (own_shard j21 i6)), .unset, .unset, .unset, .unset, .unset, .unset, .unset, .unset] [(.long j21)])) _
  refine XS.bipush X9.here hx rfl (hb hby at_264) ?_
  show Steps p.tables e below (T9.setTop (mkF m 266 #[.val (.int i0), s1, s2, s3, s4, s5, .val (.int i6), s7, s8, s9, s10, .val (.ref o11), s12, s13, s14, s15, s16, s17, s18, s19, .val (.ref o20), .val (.long j21), .second, .val (.ref b7), .val (.int (own_shard j21 i6)), .unset, .unset, .unset, .unset, .unset, .unset, .unset, .unset] [(.int (32 : Int32)), (.long j21)])) _
  refine XS.lushr X9.here hx rfl (hb hby at_266) rfl ?_
  show Steps p.tables e below (T9.setTop (mkF m 267 #[.val (.int i0), s1, s2, s3, s4, s5, .val (.int i6), s7, s8, s9, s10, .val (.ref o11), s12, s13, s14, s15, s16, s17, s18, s19, .val (.ref o20), .val (.long j21), .second, .val (.ref b7), .val (.int (own_shard j21 i6)), .unset, .unset, .unset, .unset, .unset, .unset, .unset, .unset] [(.long ((j21.toUInt64 >>> ((32 : Int32) &&& 0x3f).toInt64.toUInt64).toInt64))])) _
  refine XS.lstore X9.here hx rfl (hb hby at_267) rfl (l' := #[.val (.int i0), s1, s2, s3, s4, s5, .val (.int i6), s7, s8, s9, s10, .val (.ref o11), s12, s13, s14, s15, s16, s17, s18, s19, .val (.ref o20), .val (.long j21), .second, .val (.ref b7), .val (.int (own_shard j21 i6)), .val (.long ((j21.toUInt64 >>> ((32 : Int32) &&& 0x3f).toInt64.toUInt64).toInt64)), .second, .unset, .unset, .unset, .unset, .unset, .unset]) rfl ?_
  show Steps p.tables e below (T9.setTop (mkF m 269 #[.val (.int i0), s1, s2, s3, s4, s5, .val (.int i6), s7, s8, s9, s10, .val (.ref o11), s12, s13, s14, s15, s16, s17, s18, s19, .val (.ref o20), .val (.long j21), .second, .val (.ref b7), .val (.int (own_shard j21 i6)), .val (.long ((j21.toUInt64 >>> ((32 : Int32) &&& 0x3f).toInt64.toUInt64).toInt64)), .second, .unset, .unset, .unset, .unset, .unset, .unset] [])) _
  refine XS.lload X9.here hx rfl (hb hby at_269) rfl ?_
  show Steps p.tables e below (T9.setTop (mkF m 271 #[.val (.int i0), s1, s2, s3, s4, s5, .val (.int i6), s7, s8, s9, s10, .val (.ref o11), s12, s13, s14, s15, s16, s17, s18, s19, .val (.ref o20), .val (.long j21), .second, .val (.ref b7), .val (.int (own_shard j21 i6)), .val (.long ((j21.toUInt64 >>> ((32 : Int32) &&& 0x3f).toInt64.toUInt64).toInt64)), .second, .unset, .unset, .unset, .unset, .unset, .unset] [(.long ((j21.toUInt64 >>> ((32 : Int32) &&& 0x3f).toInt64.toUInt64).toInt64))])) _
  refine XS.iload X9.here hx rfl (hb hby at_271) rfl ?_
  show Steps p.tables e below (T9.setTop (mkF m 273 #[.val (.int i0), s1, s2, s3, s4, s5, .val (.int i6), s7, s8, s9, s10, .val (.ref o11), s12, s13, s14, s15, s16, s17, s18, s19, .val (.ref o20), .val (.long j21), .second, .val (.ref b7), .val (.int (own_shard j21 i6)), .val (.long ((j21.toUInt64 >>> ((32 : Int32) &&& 0x3f).toInt64.toUInt64).toInt64)), .second, .unset, .unset, .unset, .unset, .unset, .unset] [(.int i6), (.long ((j21.toUInt64 >>> ((32 : Int32) &&& 0x3f).toInt64.toUInt64).toInt64))])) _
  refine XS.i2l X9.here hx rfl (hb hby at_273) rfl ?_
  show Steps p.tables e below (T9.setTop (mkF m 274 #[.val (.int i0), s1, s2, s3, s4, s5, .val (.int i6), s7, s8, s9, s10, .val (.ref o11), s12, s13, s14, s15, s16, s17, s18, s19, .val (.ref o20), .val (.long j21), .second, .val (.ref b7), .val (.int (own_shard j21 i6)), .val (.long ((j21.toUInt64 >>> ((32 : Int32) &&& 0x3f).toInt64.toUInt64).toInt64)), .second, .unset, .unset, .unset, .unset, .unset, .unset] [(.long (i6.toInt64)), (.long ((j21.toUInt64 >>> ((32 : Int32) &&& 0x3f).toInt64.toUInt64).toInt64))])) _
  refine XS.lmul X9.here hx rfl (hb hby at_274) rfl ?_
  show Steps p.tables e below (T9.setTop (mkF m 275 #[.val (.int i0), s1, s2, s3, s4, s5, .val (.int i6), s7, s8, s9, s10, .val (.ref o11), s12, s13, s14, s15, s16, s17, s18, s19, .val (.ref o20), .val (.long j21), .second, .val (.ref b7), .val (.int (own_shard j21 i6)), .val (.long ((j21.toUInt64 >>> ((32 : Int32) &&& 0x3f).toInt64.toUInt64).toInt64)), .second, .unset, .unset, .unset, .unset, .unset, .unset] [(.long (((j21.toUInt64 >>> ((32 : Int32) &&& 0x3f).toInt64.toUInt64).toInt64) * (i6.toInt64)))])) _
  refine XS.lstore X9.here hx rfl (hb hby at_275) rfl (l' := #[.val (.int i0), s1, s2, s3, s4, s5, .val (.int i6), s7, s8, s9, s10, .val (.ref o11), s12, s13, s14, s15, s16, s17, s18, s19, .val (.ref o20), .val (.long j21), .second, .val (.ref b7), .val (.int (own_shard j21 i6)), .val (.long ((j21.toUInt64 >>> ((32 : Int32) &&& 0x3f).toInt64.toUInt64).toInt64)), .second, .val (.long (((j21.toUInt64 >>> ((32 : Int32) &&& 0x3f).toInt64.toUInt64).toInt64) * (i6.toInt64))), .second, .unset, .unset, .unset, .unset]) rfl ?_
  show Steps p.tables e below (T9.setTop (mkF m 277 #[.val (.int i0), s1, s2, s3, s4, s5, .val (.int i6), s7, s8, s9, s10, .val (.ref o11), s12, s13, s14, s15, s16, s17, s18, s19, .val (.ref o20), .val (.long j21), .second, .val (.ref b7), .val (.int (own_shard j21 i6)), .val (.long ((j21.toUInt64 >>> ((32 : Int32) &&& 0x3f).toInt64.toUInt64).toInt64)), .second, .val (.long (((j21.toUInt64 >>> ((32 : Int32) &&& 0x3f).toInt64.toUInt64).toInt64) * (i6.toInt64))), .second, .unset, .unset, .unset, .unset] [])) _
  refine XS.iload X9.here hx rfl (hb hby at_277) rfl ?_
  show Steps p.tables e below (T9.setTop (mkF m 279 #[.val (.int i0), s1, s2, s3, s4, s5, .val (.int i6), s7, s8, s9, s10, .val (.ref o11), s12, s13, s14, s15, s16, s17, s18, s19, .val (.ref o20), .val (.long j21), .second, .val (.ref b7), .val (.int (own_shard j21 i6)), .val (.long ((j21.toUInt64 >>> ((32 : Int32) &&& 0x3f).toInt64.toUInt64).toInt64)), .second, .val (.long (((j21.toUInt64 >>> ((32 : Int32) &&& 0x3f).toInt64.toUInt64).toInt64) * (i6.toInt64))), .second, .unset, .unset, .unset, .unset] [(.int (own_shard j21 i6))])) _
  refine XS.ifNo X9.here hx rfl (hb hby at_279) rfl ((if0 _ _).trans (flt ((own_r0 j21 i6 h1) : ¬ ((own_shard j21 i6) < (0 : Int32)))).1) ?_
  show Steps p.tables e below (T9.setTop (mkF m 282 #[.val (.int i0), s1, s2, s3, s4, s5, .val (.int i6), s7, s8, s9, s10, .val (.ref o11), s12, s13, s14, s15, s16, s17, s18, s19, .val (.ref o20), .val (.long j21), .second, .val (.ref b7), .val (.int (own_shard j21 i6)), .val (.long ((j21.toUInt64 >>> ((32 : Int32) &&& 0x3f).toInt64.toUInt64).toInt64)), .second, .val (.long (((j21.toUInt64 >>> ((32 : Int32) &&& 0x3f).toInt64.toUInt64).toInt64) * (i6.toInt64))), .second, .unset, .unset, .unset, .unset] [])) _
  refine XS.iload X9.here hx rfl (hb hby at_282) rfl ?_
  show Steps p.tables e below (T9.setTop (mkF m 284 #[.val (.int i0), s1, s2, s3, s4, s5, .val (.int i6), s7, s8, s9, s10, .val (.ref o11), s12, s13, s14, s15, s16, s17, s18, s19, .val (.ref o20), .val (.long j21), .second, .val (.ref b7), .val (.int (own_shard j21 i6)), .val (.long ((j21.toUInt64 >>> ((32 : Int32) &&& 0x3f).toInt64.toUInt64).toInt64)), .second, .val (.long (((j21.toUInt64 >>> ((32 : Int32) &&& 0x3f).toInt64.toUInt64).toInt64) * (i6.toInt64))), .second, .unset, .unset, .unset, .unset] [(.int (own_shard j21 i6))])) _
  refine XS.iload X9.here hx rfl (hb hby at_284) rfl ?_
  show Steps p.tables e below (T9.setTop (mkF m 286 #[.val (.int i0), s1, s2, s3, s4, s5, .val (.int i6), s7, s8, s9, s10, .val (.ref o11), s12, s13, s14, s15, s16, s17, s18, s19, .val (.ref o20), .val (.long j21), .second, .val (.ref b7), .val (.int (own_shard j21 i6)), .val (.long ((j21.toUInt64 >>> ((32 : Int32) &&& 0x3f).toInt64.toUInt64).toInt64)), .second, .val (.long (((j21.toUInt64 >>> ((32 : Int32) &&& 0x3f).toInt64.toUInt64).toInt64) * (i6.toInt64))), .second, .unset, .unset, .unset, .unset] [(.int i6), (.int (own_shard j21 i6))])) _
  refine XS.icmpYes X9.here hx rfl (pc0 := 286) (pc' := 291) rfl (hb hby at_286) rfl (tlt ((own_r1 j21 i6 h1) : (own_shard j21 i6) < i6)).1 (by decide) (by decide) ?_
  show Steps p.tables e below (T9.setTop (mkF m 291 #[.val (.int i0), s1, s2, s3, s4, s5, .val (.int i6), s7, s8, s9, s10, .val (.ref o11), s12, s13, s14, s15, s16, s17, s18, s19, .val (.ref o20), .val (.long j21), .second, .val (.ref b7), .val (.int (own_shard j21 i6)), .val (.long ((j21.toUInt64 >>> ((32 : Int32) &&& 0x3f).toInt64.toUInt64).toInt64)), .second, .val (.long (((j21.toUInt64 >>> ((32 : Int32) &&& 0x3f).toInt64.toUInt64).toInt64) * (i6.toInt64))), .second, .unset, .unset, .unset, .unset] [])) _
  refine XS.iload X9.here hx rfl (hb hby at_291) rfl ?_
  show Steps p.tables e below (T9.setTop (mkF m 293 #[.val (.int i0), s1, s2, s3, s4, s5, .val (.int i6), s7, s8, s9, s10, .val (.ref o11), s12, s13, s14, s15, s16, s17, s18, s19, .val (.ref o20), .val (.long j21), .second, .val (.ref b7), .val (.int (own_shard j21 i6)), .val (.long ((j21.toUInt64 >>> ((32 : Int32) &&& 0x3f).toInt64.toUInt64).toInt64)), .second, .val (.long (((j21.toUInt64 >>> ((32 : Int32) &&& 0x3f).toInt64.toUInt64).toInt64) * (i6.toInt64))), .second, .unset, .unset, .unset, .unset] [(.int (own_shard j21 i6))])) _
  refine XS.i2l X9.here hx rfl (hb hby at_293) rfl ?_
  show Steps p.tables e below (T9.setTop (mkF m 294 #[.val (.int i0), s1, s2, s3, s4, s5, .val (.int i6), s7, s8, s9, s10, .val (.ref o11), s12, s13, s14, s15, s16, s17, s18, s19, .val (.ref o20), .val (.long j21), .second, .val (.ref b7), .val (.int (own_shard j21 i6)), .val (.long ((j21.toUInt64 >>> ((32 : Int32) &&& 0x3f).toInt64.toUInt64).toInt64)), .second, .val (.long (((j21.toUInt64 >>> ((32 : Int32) &&& 0x3f).toInt64.toUInt64).toInt64) * (i6.toInt64))), .second, .unset, .unset, .unset, .unset] [(.long ((own_shard j21 i6).toInt64))])) _
  refine XS.bipush X9.here hx rfl (hb hby at_294) ?_
  show Steps p.tables e below (T9.setTop (mkF m 296 #[.val (.int i0), s1, s2, s3, s4, s5, .val (.int i6), s7, s8, s9, s10, .val (.ref o11), s12, s13, s14, s15, s16, s17, s18, s19, .val (.ref o20), .val (.long j21), .second, .val (.ref b7), .val (.int (own_shard j21 i6)), .val (.long ((j21.toUInt64 >>> ((32 : Int32) &&& 0x3f).toInt64.toUInt64).toInt64)), .second, .val (.long (((j21.toUInt64 >>> ((32 : Int32) &&& 0x3f).toInt64.toUInt64).toInt64) * (i6.toInt64))), .second, .unset, .unset, .unset, .unset] [(.int (32 : Int32)), (.long ((own_shard j21 i6).toInt64))])) _
  refine XS.lshl X9.here hx rfl (hb hby at_296) rfl ?_
  show Steps p.tables e below (T9.setTop (mkF m 297 #[.val (.int i0), s1, s2, s3, s4, s5, .val (.int i6), s7, s8, s9, s10, .val (.ref o11), s12, s13, s14, s15, s16, s17, s18, s19, .val (.ref o20), .val (.long j21), .second, .val (.ref b7), .val (.int (own_shard j21 i6)), .val (.long ((j21.toUInt64 >>> ((32 : Int32) &&& 0x3f).toInt64.toUInt64).toInt64)), .second, .val (.long (((j21.toUInt64 >>> ((32 : Int32) &&& 0x3f).toInt64.toUInt64).toInt64) * (i6.toInt64))), .second, .unset, .unset, .unset, .unset] [(.long (((own_shard j21 i6).toInt64) <<< ((32 : Int32) &&& 0x3f).toInt64))])) _
  refine XS.lstore X9.here hx rfl (hb hby at_297) rfl (l' := #[.val (.int i0), s1, s2, s3, s4, s5, .val (.int i6), s7, s8, s9, s10, .val (.ref o11), s12, s13, s14, s15, s16, s17, s18, s19, .val (.ref o20), .val (.long j21), .second, .val (.ref b7), .val (.int (own_shard j21 i6)), .val (.long ((j21.toUInt64 >>> ((32 : Int32) &&& 0x3f).toInt64.toUInt64).toInt64)), .second, .val (.long (((j21.toUInt64 >>> ((32 : Int32) &&& 0x3f).toInt64.toUInt64).toInt64) * (i6.toInt64))), .second, .val (.long (((own_shard j21 i6).toInt64) <<< ((32 : Int32) &&& 0x3f).toInt64)), .second, .unset, .unset]) rfl ?_
  show Steps p.tables e below (T9.setTop (mkF m 299 #[.val (.int i0), s1, s2, s3, s4, s5, .val (.int i6), s7, s8, s9, s10, .val (.ref o11), s12, s13, s14, s15, s16, s17, s18, s19, .val (.ref o20), .val (.long j21), .second, .val (.ref b7), .val (.int (own_shard j21 i6)), .val (.long ((j21.toUInt64 >>> ((32 : Int32) &&& 0x3f).toInt64.toUInt64).toInt64)), .second, .val (.long (((j21.toUInt64 >>> ((32 : Int32) &&& 0x3f).toInt64.toUInt64).toInt64) * (i6.toInt64))), .second, .val (.long (((own_shard j21 i6).toInt64) <<< ((32 : Int32) &&& 0x3f).toInt64)), .second, .unset, .unset] [])) _
  refine XS.iload X9.here hx rfl (hb hby at_299) rfl ?_
  show Steps p.tables e below (T9.setTop (mkF m 301 #[.val (.int i0), s1, s2, s3, s4, s5, .val (.int i6), s7, s8, s9, s10, .val (.ref o11), s12, s13, s14, s15, s16, s17, s18, s19, .val (.ref o20), .val (.long j21), .second, .val (.ref b7), .val (.int (own_shard j21 i6)), .val (.long ((j21.toUInt64 >>> ((32 : Int32) &&& 0x3f).toInt64.toUInt64).toInt64)), .second, .val (.long (((j21.toUInt64 >>> ((32 : Int32) &&& 0x3f).toInt64.toUInt64).toInt64) * (i6.toInt64))), .second, .val (.long (((own_shard j21 i6).toInt64) <<< ((32 : Int32) &&& 0x3f).toInt64)), .second, .unset, .unset] [(.int (own_shard j21 i6))])) _
  refine XS.i2l X9.here hx rfl (hb hby at_301) rfl ?_
  show Steps p.tables e below (T9.setTop (mkF m 302 #[.val (.int i0), s1, s2, s3, s4, s5, .val (.int i6), s7, s8, s9, s10, .val (.ref o11), s12, s13, s14, s15, s16, s17, s18, s19, .val (.ref o20), .val (.long j21), .second, .val (.ref b7), .val (.int (own_shard j21 i6)), .val (.long ((j21.toUInt64 >>> ((32 : Int32) &&& 0x3f).toInt64.toUInt64).toInt64)), .second, .val (.long (((j21.toUInt64 >>> ((32 : Int32) &&& 0x3f).toInt64.toUInt64).toInt64) * (i6.toInt64))), .second, .val (.long (((own_shard j21 i6).toInt64) <<< ((32 : Int32) &&& 0x3f).toInt64)), .second, .unset, .unset] [(.long ((own_shard j21 i6).toInt64))])) _
  refine XS.lconst X9.here hx rfl (hb hby at_302) ?_
  show Steps p.tables e below (T9.setTop (mkF m 303 #[.val (.int i0), s1, s2, s3, s4, s5, .val (.int i6), s7, s8, s9, s10, .val (.ref o11), s12, s13, s14, s15, s16, s17, s18, s19, .val (.ref o20), .val (.long j21), .second, .val (.ref b7), .val (.int (own_shard j21 i6)), .val (.long ((j21.toUInt64 >>> ((32 : Int32) &&& 0x3f).toInt64.toUInt64).toInt64)), .second, .val (.long (((j21.toUInt64 >>> ((32 : Int32) &&& 0x3f).toInt64.toUInt64).toInt64) * (i6.toInt64))), .second, .val (.long (((own_shard j21 i6).toInt64) <<< ((32 : Int32) &&& 0x3f).toInt64)), .second, .unset, .unset] [(.long (1 : Int64)), (.long ((own_shard j21 i6).toInt64))])) _
  refine XS.ladd X9.here hx rfl (hb hby at_303) rfl ?_
  show Steps p.tables e below (T9.setTop (mkF m 304 #[.val (.int i0), s1, s2, s3, s4, s5, .val (.int i6), s7, s8, s9, s10, .val (.ref o11), s12, s13, s14, s15, s16, s17, s18, s19, .val (.ref o20), .val (.long j21), .second, .val (.ref b7), .val (.int (own_shard j21 i6)), .val (.long ((j21.toUInt64 >>> ((32 : Int32) &&& 0x3f).toInt64.toUInt64).toInt64)), .second, .val (.long (((j21.toUInt64 >>> ((32 : Int32) &&& 0x3f).toInt64.toUInt64).toInt64) * (i6.toInt64))), .second, .val (.long (((own_shard j21 i6).toInt64) <<< ((32 : Int32) &&& 0x3f).toInt64)), .second, .unset, .unset] [(.long (((own_shard j21 i6).toInt64) + (1 : Int64)))])) _
  refine XS.bipush X9.here hx rfl (hb hby at_304) ?_
  show Steps p.tables e below (T9.setTop (mkF m 306 #[.val (.int i0), s1, s2, s3, s4, s5, .val (.int i6), s7, s8, s9, s10, .val (.ref o11), s12, s13, s14, s15, s16, s17, s18, s19, .val (.ref o20), .val (.long j21), .second, .val (.ref b7), .val (.int (own_shard j21 i6)), .val (.long ((j21.toUInt64 >>> ((32 : Int32) &&& 0x3f).toInt64.toUInt64).toInt64)), .second, .val (.long (((j21.toUInt64 >>> ((32 : Int32) &&& 0x3f).toInt64.toUInt64).toInt64) * (i6.toInt64))), .second, .val (.long (((own_shard j21 i6).toInt64) <<< ((32 : Int32) &&& 0x3f).toInt64)), .second, .unset, .unset] [(.int (32 : Int32)), (.long (((own_shard j21 i6).toInt64) + (1 : Int64)))])) _
  refine XS.lshl X9.here hx rfl (hb hby at_306) rfl ?_
  show Steps p.tables e below (T9.setTop (mkF m 307 #[.val (.int i0), s1, s2, s3, s4, s5, .val (.int i6), s7, s8, s9, s10, .val (.ref o11), s12, s13, s14, s15, s16, s17, s18, s19, .val (.ref o20), .val (.long j21), .second, .val (.ref b7), .val (.int (own_shard j21 i6)), .val (.long ((j21.toUInt64 >>> ((32 : Int32) &&& 0x3f).toInt64.toUInt64).toInt64)), .second, .val (.long (((j21.toUInt64 >>> ((32 : Int32) &&& 0x3f).toInt64.toUInt64).toInt64) * (i6.toInt64))), .second, .val (.long (((own_shard j21 i6).toInt64) <<< ((32 : Int32) &&& 0x3f).toInt64)), .second, .unset, .unset] [(.long ((((own_shard j21 i6).toInt64) + (1 : Int64)) <<< ((32 : Int32) &&& 0x3f).toInt64))])) _
  refine XS.lstore X9.here hx rfl (hb hby at_307) rfl (l' := #[.val (.int i0), s1, s2, s3, s4, s5, .val (.int i6), s7, s8, s9, s10, .val (.ref o11), s12, s13, s14, s15, s16, s17, s18, s19, .val (.ref o20), .val (.long j21), .second, .val (.ref b7), .val (.int (own_shard j21 i6)), .val (.long ((j21.toUInt64 >>> ((32 : Int32) &&& 0x3f).toInt64.toUInt64).toInt64)), .second, .val (.long (((j21.toUInt64 >>> ((32 : Int32) &&& 0x3f).toInt64.toUInt64).toInt64) * (i6.toInt64))), .second, .val (.long (((own_shard j21 i6).toInt64) <<< ((32 : Int32) &&& 0x3f).toInt64)), .second, .val (.long ((((own_shard j21 i6).toInt64) + (1 : Int64)) <<< ((32 : Int32) &&& 0x3f).toInt64)), .second]) rfl ?_
  show Steps p.tables e below (T9.setTop (mkF m 309 #[.val (.int i0), s1, s2, s3, s4, s5, .val (.int i6), s7, s8, s9, s10, .val (.ref o11), s12, s13, s14, s15, s16, s17, s18, s19, .val (.ref o20), .val (.long j21), .second, .val (.ref b7), .val (.int (own_shard j21 i6)), .val (.long ((j21.toUInt64 >>> ((32 : Int32) &&& 0x3f).toInt64.toUInt64).toInt64)), .second, .val (.long (((j21.toUInt64 >>> ((32 : Int32) &&& 0x3f).toInt64.toUInt64).toInt64) * (i6.toInt64))), .second, .val (.long (((own_shard j21 i6).toInt64) <<< ((32 : Int32) &&& 0x3f).toInt64)), .second, .val (.long ((((own_shard j21 i6).toInt64) + (1 : Int64)) <<< ((32 : Int32) &&& 0x3f).toInt64)), .second] [])) _
  refine XS.lload X9.here hx rfl (hb hby at_309) rfl ?_
  show Steps p.tables e below (T9.setTop (mkF m 311 #[.val (.int i0), s1, s2, s3, s4, s5, .val (.int i6), s7, s8, s9, s10, .val (.ref o11), s12, s13, s14, s15, s16, s17, s18, s19, .val (.ref o20), .val (.long j21), .second, .val (.ref b7), .val (.int (own_shard j21 i6)), .val (.long ((j21.toUInt64 >>> ((32 : Int32) &&& 0x3f).toInt64.toUInt64).toInt64)), .second, .val (.long (((j21.toUInt64 >>> ((32 : Int32) &&& 0x3f).toInt64.toUInt64).toInt64) * (i6.toInt64))), .second, .val (.long (((own_shard j21 i6).toInt64) <<< ((32 : Int32) &&& 0x3f).toInt64)), .second, .val (.long ((((own_shard j21 i6).toInt64) + (1 : Int64)) <<< ((32 : Int32) &&& 0x3f).toInt64)), .second] [(.long (((own_shard j21 i6).toInt64) <<< ((32 : Int32) &&& 0x3f).toInt64))])) _
  refine XS.lload X9.here hx rfl (hb hby at_311) rfl ?_
  show Steps p.tables e below (T9.setTop (mkF m 313 #[.val (.int i0), s1, s2, s3, s4, s5, .val (.int i6), s7, s8, s9, s10, .val (.ref o11), s12, s13, s14, s15, s16, s17, s18, s19, .val (.ref o20), .val (.long j21), .second, .val (.ref b7), .val (.int (own_shard j21 i6)), .val (.long ((j21.toUInt64 >>> ((32 : Int32) &&& 0x3f).toInt64.toUInt64).toInt64)), .second, .val (.long (((j21.toUInt64 >>> ((32 : Int32) &&& 0x3f).toInt64.toUInt64).toInt64) * (i6.toInt64))), .second, .val (.long (((own_shard j21 i6).toInt64) <<< ((32 : Int32) &&& 0x3f).toInt64)), .second, .val (.long ((((own_shard j21 i6).toInt64) + (1 : Int64)) <<< ((32 : Int32) &&& 0x3f).toInt64)), .second] [(.long (((j21.toUInt64 >>> ((32 : Int32) &&& 0x3f).toInt64.toUInt64).toInt64) * (i6.toInt64))), (.long (((own_shard j21 i6).toInt64) <<< ((32 : Int32) &&& 0x3f).toInt64))])) _
  refine XS.lcmp X9.here hx rfl (hb hby at_313) rfl ?_
  show Steps p.tables e below (T9.setTop (mkF m 314 #[.val (.int i0), s1, s2, s3, s4, s5, .val (.int i6), s7, s8, s9, s10, .val (.ref o11), s12, s13, s14, s15, s16, s17, s18, s19, .val (.ref o20), .val (.long j21), .second, .val (.ref b7), .val (.int (own_shard j21 i6)), .val (.long ((j21.toUInt64 >>> ((32 : Int32) &&& 0x3f).toInt64.toUInt64).toInt64)), .second, .val (.long (((j21.toUInt64 >>> ((32 : Int32) &&& 0x3f).toInt64.toUInt64).toInt64) * (i6.toInt64))), .second, .val (.long (((own_shard j21 i6).toInt64) <<< ((32 : Int32) &&& 0x3f).toInt64)), .second, .val (.long ((((own_shard j21 i6).toInt64) + (1 : Int64)) <<< ((32 : Int32) &&& 0x3f).toInt64)), .second] [(.int (lcmpW (((own_shard j21 i6).toInt64) <<< ((32 : Int32) &&& 0x3f).toInt64) (((j21.toUInt64 >>> ((32 : Int32) &&& 0x3f).toInt64.toUInt64).toInt64) * (i6.toInt64))))])) _
  refine XS.ifNo X9.here hx rfl (hb hby at_314) rfl ((if0 _ _).trans (flt ((own_lo j21 i6 h1) : ¬ ((0 : Int32) < (lcmpW (((own_shard j21 i6).toInt64) <<< ((32 : Int32) &&& 0x3f).toInt64) (((j21.toUInt64 >>> ((32 : Int32) &&& 0x3f).toInt64.toUInt64).toInt64) * (i6.toInt64)))))).2.2.1) ?_
  show Steps p.tables e below (T9.setTop (mkF m 317 #[.val (.int i0), s1, s2, s3, s4, s5, .val (.int i6), s7, s8, s9, s10, .val (.ref o11), s12, s13, s14, s15, s16, s17, s18, s19, .val (.ref o20), .val (.long j21), .second, .val (.ref b7), .val (.int (own_shard j21 i6)), .val (.long ((j21.toUInt64 >>> ((32 : Int32) &&& 0x3f).toInt64.toUInt64).toInt64)), .second, .val (.long (((j21.toUInt64 >>> ((32 : Int32) &&& 0x3f).toInt64.toUInt64).toInt64) * (i6.toInt64))), .second, .val (.long (((own_shard j21 i6).toInt64) <<< ((32 : Int32) &&& 0x3f).toInt64)), .second, .val (.long ((((own_shard j21 i6).toInt64) + (1 : Int64)) <<< ((32 : Int32) &&& 0x3f).toInt64)), .second] [])) _
  refine XS.lload X9.here hx rfl (hb hby at_317) rfl ?_
  show Steps p.tables e below (T9.setTop (mkF m 319 #[.val (.int i0), s1, s2, s3, s4, s5, .val (.int i6), s7, s8, s9, s10, .val (.ref o11), s12, s13, s14, s15, s16, s17, s18, s19, .val (.ref o20), .val (.long j21), .second, .val (.ref b7), .val (.int (own_shard j21 i6)), .val (.long ((j21.toUInt64 >>> ((32 : Int32) &&& 0x3f).toInt64.toUInt64).toInt64)), .second, .val (.long (((j21.toUInt64 >>> ((32 : Int32) &&& 0x3f).toInt64.toUInt64).toInt64) * (i6.toInt64))), .second, .val (.long (((own_shard j21 i6).toInt64) <<< ((32 : Int32) &&& 0x3f).toInt64)), .second, .val (.long ((((own_shard j21 i6).toInt64) + (1 : Int64)) <<< ((32 : Int32) &&& 0x3f).toInt64)), .second] [(.long (((j21.toUInt64 >>> ((32 : Int32) &&& 0x3f).toInt64.toUInt64).toInt64) * (i6.toInt64)))])) _
  refine XS.lload X9.here hx rfl (hb hby at_319) rfl ?_
  show Steps p.tables e below (T9.setTop (mkF m 321 #[.val (.int i0), s1, s2, s3, s4, s5, .val (.int i6), s7, s8, s9, s10, .val (.ref o11), s12, s13, s14, s15, s16, s17, s18, s19, .val (.ref o20), .val (.long j21), .second, .val (.ref b7), .val (.int (own_shard j21 i6)), .val (.long ((j21.toUInt64 >>> ((32 : Int32) &&& 0x3f).toInt64.toUInt64).toInt64)), .second, .val (.long (((j21.toUInt64 >>> ((32 : Int32) &&& 0x3f).toInt64.toUInt64).toInt64) * (i6.toInt64))), .second, .val (.long (((own_shard j21 i6).toInt64) <<< ((32 : Int32) &&& 0x3f).toInt64)), .second, .val (.long ((((own_shard j21 i6).toInt64) + (1 : Int64)) <<< ((32 : Int32) &&& 0x3f).toInt64)), .second] [(.long ((((own_shard j21 i6).toInt64) + (1 : Int64)) <<< ((32 : Int32) &&& 0x3f).toInt64)), (.long (((j21.toUInt64 >>> ((32 : Int32) &&& 0x3f).toInt64.toUInt64).toInt64) * (i6.toInt64)))])) _
  refine XS.lcmp X9.here hx rfl (hb hby at_321) rfl ?_
  show Steps p.tables e below (T9.setTop (mkF m 322 #[.val (.int i0), s1, s2, s3, s4, s5, .val (.int i6), s7, s8, s9, s10, .val (.ref o11), s12, s13, s14, s15, s16, s17, s18, s19, .val (.ref o20), .val (.long j21), .second, .val (.ref b7), .val (.int (own_shard j21 i6)), .val (.long ((j21.toUInt64 >>> ((32 : Int32) &&& 0x3f).toInt64.toUInt64).toInt64)), .second, .val (.long (((j21.toUInt64 >>> ((32 : Int32) &&& 0x3f).toInt64.toUInt64).toInt64) * (i6.toInt64))), .second, .val (.long (((own_shard j21 i6).toInt64) <<< ((32 : Int32) &&& 0x3f).toInt64)), .second, .val (.long ((((own_shard j21 i6).toInt64) + (1 : Int64)) <<< ((32 : Int32) &&& 0x3f).toInt64)), .second] [(.int (lcmpW (((j21.toUInt64 >>> ((32 : Int32) &&& 0x3f).toInt64.toUInt64).toInt64) * (i6.toInt64)) ((((own_shard j21 i6).toInt64) + (1 : Int64)) <<< ((32 : Int32) &&& 0x3f).toInt64)))])) _
  refine XS.ifNo X9.here hx rfl (hb hby at_322) rfl ((if0 _ _).trans (tlt ((own_hi j21 i6 h1) : (lcmpW (((j21.toUInt64 >>> ((32 : Int32) &&& 0x3f).toInt64.toUInt64).toInt64) * (i6.toInt64)) ((((own_shard j21 i6).toInt64) + (1 : Int64)) <<< ((32 : Int32) &&& 0x3f).toInt64)) < (0 : Int32))).2.1) ?_
  show Steps p.tables e below (T9.setTop (mkF m 325 #[.val (.int i0), s1, s2, s3, s4, s5, .val (.int i6), s7, s8, s9, s10, .val (.ref o11), s12, s13, s14, s15, s16, s17, s18, s19, .val (.ref o20), .val (.long j21), .second, .val (.ref b7), .val (.int (own_shard j21 i6)), .val (.long ((j21.toUInt64 >>> ((32 : Int32) &&& 0x3f).toInt64.toUInt64).toInt64)), .second, .val (.long (((j21.toUInt64 >>> ((32 : Int32) &&& 0x3f).toInt64.toUInt64).toInt64) * (i6.toInt64))), .second, .val (.long (((own_shard j21 i6).toInt64) <<< ((32 : Int32) &&& 0x3f).toInt64)), .second, .val (.long ((((own_shard j21 i6).toInt64) + (1 : Int64)) <<< ((32 : Int32) &&& 0x3f).toInt64)), .second] [])) _
  refine XS.iconst X9.here hx rfl (hb hby at_325) ?_
  show Steps p.tables e below (T9.setTop (mkF m 326 #[.val (.int i0), s1, s2, s3, s4, s5, .val (.int i6), s7, s8, s9, s10, .val (.ref o11), s12, s13, s14, s15, s16, s17, s18, s19, .val (.ref o20), .val (.long j21), .second, .val (.ref b7), .val (.int (own_shard j21 i6)), .val (.long ((j21.toUInt64 >>> ((32 : Int32) &&& 0x3f).toInt64.toUInt64).toInt64)), .second, .val (.long (((j21.toUInt64 >>> ((32 : Int32) &&& 0x3f).toInt64.toUInt64).toInt64) * (i6.toInt64))), .second, .val (.long (((own_shard j21 i6).toInt64) <<< ((32 : Int32) &&& 0x3f).toInt64)), .second, .val (.long ((((own_shard j21 i6).toInt64) + (1 : Int64)) <<< ((32 : Int32) &&& 0x3f).toInt64)), .second] [(.int (1 : Int32))])) _
  refine XS.goto X9.here hx rfl (pc0 := 326) (pc' := 330) rfl (hb hby at_326) (by decide) (by decide) ?_
  exact kt
theorem pn_0 : plainName "org/stratalog/internal/engine/PickerShardOfPinLaw" = true := by first | (simp [plainName, overriddenIn]; done) | decide +kernel
theorem ef_0 (m : MethodId) (x0 : Int32) (x1 : Int32) (x2 : Int32) (x3 : Int32) (x4 : Int32) (x5 : Int32) : entryFrame m #[(.int x0), (.int x1), (.int x2), (.int x3), (.int x4), (.int x5)] maxLocals = mkF m 0 #[.val (.int x0), .val (.int x1), .val (.int x2), .val (.int x3), .val (.int x4), .val (.int x5), .unset, .unset, .unset, .unset, .unset, .unset, .unset, .unset, .unset, .unset, .unset, .unset, .unset, .unset, .unset, .unset, .unset, .unset, .unset, .unset, .unset, .unset, .unset, .unset, .unset, .unset, .unset] [] := by first | (simp [entryFrame, mkF, argsToLocals, Value.category, maxLocals]; done) | rfl
def Q0 (Z : State) (h0 : Heap) (n0 : Nat) (v : Option Value) (h : Heap) (L : List Loc) : Prop := v = some (.int (1 : Int32)) ∧ Fr n0 L
set_option maxRecDepth 65536 in
set_option maxHeartbeats 40000000 in
theorem rm0 (l : Launch) (Z : State) (a0 : Array Value) (hw : ∀ d ∈ tables_1, d.before a0 Z = true) (ws : List Jvm.Cond) (p1 p2 p3 p4 p5 p6 : Int32) (h0 : Heap) (n0 : Nat) (Z0 : n0 ≤ h0.size) :
    MetFree l x (head1 (Jvm.Cond.code x code maxLocals ret :: ws) room_1) (fun a U => a = #[(.int p1), (.int p2), (.int p3), (.int p4), (.int p5), (.int p6)] ∧ Z.Warmed39 U.vm ∧ U.heap = h0) (fun _ _ _ _ _ => True) (fun _ U o U' => ∃ v L, o = .returned v ∧ Q0 Z h0 n0 v U'.heap L ∧ FrameEnd U o U' L room_1.cells room_1.slots) := by
  refine MetFree.of_bodySF (plainFor_of_name pn_0) hisR ?_
  intro p e s m args below meth c s₁ Bd hml0 hP hK
  obtain ⟨rfl, hZ, hh⟩ := hP
  have hx := Bd.exec
  have hby := Bd.bytes
  have hml : c.maxLocals = 33 := hml0
  have hown : s.vm.findClass "org/stratalog/internal/engine/PickerShardOfPinLaw" = some m.cls := findClass_of_methodNamed Bd.named
  have X0 : Stand p l e room_1 s m #[(.int p1), (.int p2), (.int p3), (.int p4), (.int p5), (.int p6)] below meth c s₁ [] 0 0 := Stand.of_body Bd
  have e0 : s₁.heap = h0 := by rw [← hh, Bd.state]; rfl
  have pre0 : ∀ t, Steps p.tables e below (s₁.setTop (mkF m 0 #[.val (.int p1), .val (.int p2), .val (.int p3), .val (.int p4), .val (.int p5), .val (.int p6), .unset, .unset, .unset, .unset, .unset, .unset, .unset, .unset, .unset, .unset, .unset, .unset, .unset, .unset, .unset, .unset, .unset, .unset, .unset, .unset, .unset, .unset, .unset, .unset, .unset, .unset, .unset] [])) t → Steps p.tables e below (s₁.setTop (entryFrame m #[(.int p1), (.int p2), (.int p3), (.int p4), (.int p5), (.int p6)] maxLocals)) t := fun t k => castTop (ef_0 m p1 p2 p3 p4 p5 p6) k
  obtain ⟨TA, hA, LA, bA, clA, w12, w13, w14, XA, eA, NA, ZA, ArA, hvi, hvl, stA⟩ := own_A p1 p2 p3 p4 p5 p6 X0 hx hZ hw hby hml hown e0 n0 Z0
  by_cases hc0 : (p6 &&& (3 : Int32)) = (0 : Int32)
  ·
    obtain ⟨TB, hB, LB, bB, clB, XB, eB, NB, ZB, KB, ArB, SB, hpl, stB⟩ := own_B0 (.val (.int p1)) (.val (.int p2)) (.val (.int p3)) (.val (.int p4)) (.val (.int p5)) (.val (.int p6)) (.val (.int (own_max (1 : Int32) (p2 &&& (2147483647 : Int32))))) (p6 &&& (3 : Int32)) (own_px p6 (2 : Int32)) (own_px p6 (4 : Int32)) (own_px p6 (6 : Int32)) (.val (.ref bA)) w12.toInt64 w13.toInt64 w14.toInt64 p1.toInt64 XA hx hZ hw hby hml hown eA n0 ZA NA hc0
    obtain ⟨TC, LC, bC, XC, NC, stC⟩ := own_C p1 (.val (.int p2)) (.val (.int p3)) (.val (.int p4)) (.val (.int p5)) (.val (.int p6)) (own_max (1 : Int32) (p2 &&& (2147483647 : Int32))) (.val (.int (p6 &&& (3 : Int32)))) (.val (.int (own_px p6 (2 : Int32)))) (.val (.int (own_px p6 (4 : Int32)))) (.val (.int (own_px p6 (6 : Int32)))) bA (.val (.long w12.toInt64)) .second (.val (.long w13.toInt64)) .second (.val (.long w14.toInt64)) .second (.val (.long p1.toInt64)) .second bB (p1.toInt64) XB hx hZ hw hby hml hown eB n0 ZB NB (by decide) 0 (by decide) (own_p3 (own_px p6 (2 : Int32)) (own_px p6 (4 : Int32)) (own_px p6 (6 : Int32))) (own_p3 w12 w13 w14) clB clA ArB SB hpl (own_akeep ArA KB (by simp)) (fun j _ => hvi j) (fun j _ => hvl j) (own_h0 _ _ _).symm (own_max1 _)
    obtain ⟨fs, hr, hrun, hended, hW, hsame⟩ := XC.leave (v := some (.int (1 : Int32))) (fun h => by rw [Bd.returns] at h; cases h)
    refine ⟨_, _, pre0 _ ?_, hrun, hended, _, _, rfl, ?_, ⟨_, rfl⟩, hW, hsame.mono (by decide) (by decide)⟩
    · refine stA _ ?_
      refine stB _ ?_
      refine stC _ ?_
      exact retN XC hx (t := .boolean) Bd.returns (by simp) (hb hby at_330) hr
    · exact ⟨rfl, NC⟩
  · by_cases hc1 : (p6 &&& (3 : Int32)) = (1 : Int32)
    ·
      obtain ⟨TB, hB, LB, bB, clB, XB, eB, NB, ZB, KB, ArB, SB, hpl, stB⟩ := own_B1 (.val (.int p1)) (.val (.int p2)) (.val (.int p3)) (.val (.int p4)) (.val (.int p5)) (.val (.int p6)) (.val (.int (own_max (1 : Int32) (p2 &&& (2147483647 : Int32))))) (p6 &&& (3 : Int32)) (own_px p6 (2 : Int32)) (own_px p6 (4 : Int32)) (own_px p6 (6 : Int32)) (.val (.ref bA)) w12.toInt64 w13.toInt64 w14.toInt64 p1.toInt64 XA hx hZ hw hby hml hown eA n0 ZA NA hc0 hc1
      obtain ⟨TC, LC, bC, XC, NC, stC⟩ := own_C p1 (.val (.int p2)) (.val (.int p3)) (.val (.int p4)) (.val (.int p5)) (.val (.int p6)) (own_max (1 : Int32) (p2 &&& (2147483647 : Int32))) (.val (.int (p6 &&& (3 : Int32)))) (.val (.int (own_px p6 (2 : Int32)))) (.val (.int (own_px p6 (4 : Int32)))) (.val (.int (own_px p6 (6 : Int32)))) bA (.val (.long w12.toInt64)) .second (.val (.long w13.toInt64)) .second (.val (.long w14.toInt64)) .second (.val (.long p1.toInt64)) .second bB (((p1.toInt64 * (-7046029254386353131 : Int64)) + (w12.toInt64 * (-7046029254386353131 : Int64)))) XB hx hZ hw hby hml hown eB n0 ZB NB (by decide) 1 (by decide) (own_p3 (own_px p6 (2 : Int32)) (own_px p6 (4 : Int32)) (own_px p6 (6 : Int32))) (own_p3 w12 w13 w14) clB clA ArB SB hpl (own_akeep ArA KB (by simp)) (fun j _ => hvi j) (fun j _ => hvl j) (own_h1 (own_p3 w12 w13 w14) p1.toInt64) (own_max1 _)
      obtain ⟨fs, hr, hrun, hended, hW, hsame⟩ := XC.leave (v := some (.int (1 : Int32))) (fun h => by rw [Bd.returns] at h; cases h)
      refine ⟨_, _, pre0 _ ?_, hrun, hended, _, _, rfl, ?_, ⟨_, rfl⟩, hW, hsame.mono (by decide) (by decide)⟩
      · refine stA _ ?_
        refine stB _ ?_
        refine stC _ ?_
        exact retN XC hx (t := .boolean) Bd.returns (by simp) (hb hby at_330) hr
      · exact ⟨rfl, NC⟩
    · by_cases hc2 : (p6 &&& (3 : Int32)) = (2 : Int32)
      ·
        obtain ⟨TB, hB, LB, bB, clB, XB, eB, NB, ZB, KB, ArB, SB, hpl, stB⟩ := own_B2 (.val (.int p1)) (.val (.int p2)) (.val (.int p3)) (.val (.int p4)) (.val (.int p5)) (.val (.int p6)) (.val (.int (own_max (1 : Int32) (p2 &&& (2147483647 : Int32))))) (p6 &&& (3 : Int32)) (own_px p6 (2 : Int32)) (own_px p6 (4 : Int32)) (own_px p6 (6 : Int32)) (.val (.ref bA)) w12.toInt64 w13.toInt64 w14.toInt64 p1.toInt64 XA hx hZ hw hby hml hown eA n0 ZA NA hc0 hc1 hc2
        obtain ⟨TC, LC, bC, XC, NC, stC⟩ := own_C p1 (.val (.int p2)) (.val (.int p3)) (.val (.int p4)) (.val (.int p5)) (.val (.int p6)) (own_max (1 : Int32) (p2 &&& (2147483647 : Int32))) (.val (.int (p6 &&& (3 : Int32)))) (.val (.int (own_px p6 (2 : Int32)))) (.val (.int (own_px p6 (4 : Int32)))) (.val (.int (own_px p6 (6 : Int32)))) bA (.val (.long w12.toInt64)) .second (.val (.long w13.toInt64)) .second (.val (.long w14.toInt64)) .second (.val (.long p1.toInt64)) .second bB ((((p1.toInt64 * (-2358710677322311239 : Int64)) + (w12.toInt64 * (-2358710677322311239 : Int64))) + (w13.toInt64 * (-7046029254386353131 : Int64)))) XB hx hZ hw hby hml hown eB n0 ZB NB (by decide) 2 (by decide) (own_p3 (own_px p6 (2 : Int32)) (own_px p6 (4 : Int32)) (own_px p6 (6 : Int32))) (own_p3 w12 w13 w14) clB clA ArB SB hpl (own_akeep ArA KB (by simp)) (fun j _ => hvi j) (fun j _ => hvl j) (own_h2 (own_p3 w12 w13 w14) p1.toInt64) (own_max1 _)
        obtain ⟨fs, hr, hrun, hended, hW, hsame⟩ := XC.leave (v := some (.int (1 : Int32))) (fun h => by rw [Bd.returns] at h; cases h)
        refine ⟨_, _, pre0 _ ?_, hrun, hended, _, _, rfl, ?_, ⟨_, rfl⟩, hW, hsame.mono (by decide) (by decide)⟩
        · refine stA _ ?_
          refine stB _ ?_
          refine stC _ ?_
          exact retN XC hx (t := .boolean) Bd.returns (by simp) (hb hby at_330) hr
        · exact ⟨rfl, NC⟩
      ·
        obtain ⟨TB, hB, LB, bB, clB, XB, eB, NB, ZB, KB, ArB, SB, hpl, stB⟩ := own_B3 (.val (.int p1)) (.val (.int p2)) (.val (.int p3)) (.val (.int p4)) (.val (.int p5)) (.val (.int p6)) (.val (.int (own_max (1 : Int32) (p2 &&& (2147483647 : Int32))))) (p6 &&& (3 : Int32)) (own_px p6 (2 : Int32)) (own_px p6 (4 : Int32)) (own_px p6 (6 : Int32)) (.val (.ref bA)) w12.toInt64 w13.toInt64 w14.toInt64 p1.toInt64 XA hx hZ hw hby hml hown eA n0 ZA NA hc0 hc1 hc2
        obtain ⟨TC, LC, bC, XC, NC, stC⟩ := own_C p1 (.val (.int p2)) (.val (.int p3)) (.val (.int p4)) (.val (.int p5)) (.val (.int p6)) (own_max (1 : Int32) (p2 &&& (2147483647 : Int32))) (.val (.int (p6 &&& (3 : Int32)))) (.val (.int (own_px p6 (2 : Int32)))) (.val (.int (own_px p6 (4 : Int32)))) (.val (.int (own_px p6 (6 : Int32)))) bA (.val (.long w12.toInt64)) .second (.val (.long w13.toInt64)) .second (.val (.long w14.toInt64)) .second (.val (.long p1.toInt64)) .second bB (((((p1.toInt64 * (6938460308862072877 : Int64)) + (w12.toInt64 * (6938460308862072877 : Int64))) + (w13.toInt64 * (-2358710677322311239 : Int64))) + (w14.toInt64 * (-7046029254386353131 : Int64)))) XB hx hZ hw hby hml hown eB n0 ZB NB (by decide) 3 (by decide) (own_p3 (own_px p6 (2 : Int32)) (own_px p6 (4 : Int32)) (own_px p6 (6 : Int32))) (own_p3 w12 w13 w14) clB clA ArB SB hpl (own_akeep ArA KB (by simp)) (fun j _ => hvi j) (fun j _ => hvl j) (own_h3 (own_p3 w12 w13 w14) p1.toInt64) (own_max1 _)
        obtain ⟨fs, hr, hrun, hended, hW, hsame⟩ := XC.leave (v := some (.int (1 : Int32))) (fun h => by rw [Bd.returns] at h; cases h)
        refine ⟨_, _, pre0 _ ?_, hrun, hended, _, _, rfl, ?_, ⟨_, rfl⟩, hW, hsame.mono (by decide) (by decide)⟩
        · refine stA _ ?_
          refine stB _ ?_
          refine stC _ ?_
          exact retN XC hx (t := .boolean) Bd.returns (by simp) (hb hby at_330) hr
        · exact ⟨rfl, NC⟩
set_option maxRecDepth 65536 in
set_option maxHeartbeats 40000000 in
theorem comes_1 {Post : Tables → Env → Array Value → State → Outcome → State → Prop} (hpost : ∀ tb e args s v u, (limb_1_1.after args s (.returned v) u = true ∧ limb_1_2.after args s (.returned v) u = true ∧ True) → FrameEnd s (.returned v) u (Jvm.fieldLocs frame_1_writes args s ++ Jvm.arrayLocs frame_1_arrays args s ++ Jvm.staticLocs frame_1_statics s) 16 128 → Post tb e args s (.returned v) u) :
    ArmFor flags0 classFile x code maxLocals ret World_1 tables_1 room_1 Calls_1 rest_1 Pre_1 Post := by
  intro l hfl _ _ p e ha hc hk s m args below hf hA hF happ hP
  obtain ⟨hcalls, hrest, hpre⟩ := hP
  obtain ⟨-, -, -, hnamed, -, -, -, hat⟩ := (Spec.applies_iff hf).mp happ
  obtain ⟨hg, hn⟩ := and_e (Cond.before_iff.mp (show (Jvm.Cond.and given_1 narrow_1).before args s = true from hpre))
  obtain ⟨g22, g23⟩ := and_e hg
  obtain ⟨g24, g25⟩ := and_e g23
  obtain ⟨g26, g27⟩ := and_e g25
  obtain ⟨g28, g29⟩ := and_e g27
  obtain ⟨g30, g31⟩ := and_e g29
  obtain ⟨g32, g33⟩ := and_e g31
  obtain ⟨w0, w1, w2, w3, w4, w5, rfl⟩ : ∃ w0 w1 w2 w3 w4 w5 : Value, args = #[w0, w1, w2, w3, w4, w5] := by
    have hs : args.size = 6 := by simpa [Cond.value, given_1] using g22
    obtain ⟨L⟩ := args
    match L, hs with
    | [w0, w1, w2, w3, w4, w5], _ => exact ⟨w0, w1, w2, w3, w4, w5, rfl⟩
  have hw := fun d (hd : d ∈ tables_1) => atoms_spec (ws := Jvm.Cond.code x code maxLocals ret :: tables_1) hat d (List.mem_cons_of_mem _ hd)
  have hfit : Fit s := fun {y c} hc i hi => by
    obtain ⟨ha, rfl⟩ := Array.getElem?_eq_some_iff.mp hc
    have q := List.all_eq_true.mp ((Array.all_eq_true_iff_forall_mem.mp hF) _ (Array.getElem_mem ha)) i (List.mem_range.mpr hi)
    simpa [Array.getElem?_eq_getElem hi] using q
  obtain ⟨i0, ei0⟩ := is_v g24
  obtain rfl : w0 = (.int i0) := Option.some.inj ei0
  obtain ⟨i1, ei1⟩ := is_v g26
  obtain rfl : w1 = (.int i1) := Option.some.inj ei1
  obtain ⟨i2, ei2⟩ := is_v g28
  obtain rfl : w2 = (.int i2) := Option.some.inj ei2
  obtain ⟨i3, ei3⟩ := is_v g30
  obtain rfl : w3 = (.int i3) := Option.some.inj ei3
  obtain ⟨i4, ei4⟩ := is_v g32
  obtain rfl : w4 = (.int i4) := Option.some.inj ei4
  obtain ⟨i5, ei5⟩ := is_v g33
  obtain rfl : w5 = (.int i5) := Option.some.inj ei5
  obtain ⟨n, o, h1, h2, h3, _, L, rfl, ⟨rfl, N⟩, hq⟩ := rm0 l s _ hw tables_1 i0 i1 i2 i3 i4 i5 s.heap s.heap.size (Nat.le_refl _) p e ha hc hk s m _ below hf ((Spec.applies_iff_loose hf).mp happ).1 ⟨rfl, State.Warmed39.refl s, rfl⟩ trivial
  refine ⟨n, _, h1, h2, h3, hpost _ _ _ _ _ _ ⟨Cond.after_iff.mpr rfl, Cond.after_iff.mpr (eq_i res_at (Term.int_eval (1)) rfl), trivial⟩ ⟨hq.1, hq.2.1, (hq.2.2.sift fun y hy => Or.inr (N y hy)).mono (by decide) (by decide)⟩⟩
theorem main_1_1 : Claimed_1_1 := comes_1 fun _ _ _ _ _ _ h hF => ⟨h.1, hF⟩
theorem main_1_2 : Claimed_1_2 := comes_1 fun _ _ _ _ _ _ h hF => ⟨h.2.1, hF⟩
end Jvm.Pilot.@@N@@
namespace Jvm.Pilot.@@N@@
open Jvm Jvm.ClassFile Sem Op Lib Jvm.Free Jvm.Stand Jvm.Pilot.@@N@@.Jvm.D
/-! MADE BY PROGRAM (witnessworld.py) out of the Statement's table words and the real class files: 10 classes; the members and pool entries that the words name. The judged class is class 1, her method 1. -/
namespace start1
open Jvm.ClassFile
def u (s : String) : CpInfo := .utf8 (stringToUtf16 s)
/-- a pool by its gaps: so many unusable entries, then the entry; so many at the end -/
def gap : Nat → List CpInfo → List CpInfo
  | 0, r => r
  | n + 1, r => .unusable :: gap n r
def poolList (es : List (Nat × CpInfo)) (last : Nat) : List CpInfo := es.foldr (fun e r => gap e.1 (e.2 :: r)) (gap last [])
def pool (es : List (Nat × CpInfo)) (last : Nat) : Array CpInfo := ⟨poolList es last⟩
def fileOf (pool : Array CpInfo) (this : Nat) (attrs : Array Attribute := #[]) (ms : Array MethodInfo := #[]) (fl : Nat := 33) (sup : Nat := 0) (ifs : Array Nat := #[]) (fds : Array FieldInfo := #[]) : ClassFile where
  minorVersion := 0
  majorVersion := 65
  constantPool := pool
  accessFlags := fl
  thisClass := this
  superClass := sup
  interfaces := ifs
  fields := fds
  methods := ms
  attributes := attrs
def plain (name : String) (sup : Option ClassId) : Class where
  name := name
  kind := .ordinary
  loader := none
  accessFlags := 33
  super := sup
  interfaces := #[]
  cf := none
  fields := #[]
  methods := #[]
  instanceTypes := #[]
  staticTypes := #[]
  resolved := #[]
  callSites := []
  init := .initialized
  statics := none
  mirror := none

def pool0 : Array CpInfo := pool [(5, u "<init>"), (0, u "()V"), (1, .class_ 10), (1, u "java/lang/Object")] 113

def k0c0 : Code := { maxStack := 0, maxLocals := 1, code := object_method_1_code, exceptionTable := #[], attributes := #[] }
def k0m0 : Method := { name := "<init>", desc := "()V", sig := { parameters := [], returnType := none }, accessFlags := 1, code := some k0c0 }
/-- java/lang/Object -/
def k0 : Class := { plain "java/lang/Object" none with
  accessFlags := 33
  interfaces := #[]
  cf := some (fileOf pool0 8 #[] #[{ accessFlags := 1, nameIndex := 5, descriptorIndex := 6, attributes := #[] }] 33 0 #[] #[])
  fields := #[]
  methods := #[k0m0]
  instanceTypes := #[]
  staticTypes := #[]
  resolved := Array.replicate 124 none
  statics := none }

def pool1 : Array CpInfo := pool [(2, .class_ 4), (1, u "java/lang/Object"), (0, u "<init>"), (0, u "()V"), (0, .integer 2147483647), (0, .methodref 9 10), (0, .class_ 11), (0, .nameAndType 12 13), (0, u "java/lang/Math"), (0, u "max"), (0, u "(II)I"), (0, .long 11400714819323198485), (1, .long 16088033396387240377), (1, .long 6938460308862072877), (1, .class_ 21), (0, u "org/stratalog/internal/engine/ShardedRelation$Picker"), (0, .methodref 20 23), (0, .nameAndType 5 24), (0, u "(II[I)V"), (0, .methodref 20 26), (0, .nameAndType 27 28), (0, u "shardOf"), (0, u "([I)I"), (0, .class_ 30), (0, u "org/stratalog/internal/engine/PickerShardOfPinLaw"), (2, u "law"), (0, u "(IIIIII)Z")] 9

def k1m0 : Method := { name := "<init>", desc := "()V", sig := { parameters := [], returnType := none }, accessFlags := 1, code := none }
def k1c1 : Code := { maxStack := 6, maxLocals := 33, code := code, exceptionTable := #[], attributes := #[] }
def k1m1 : Method := { name := "law", desc := "(IIIIII)Z", sig := { parameters := [.int, .int, .int, .int, .int, .int], returnType := some .boolean }, accessFlags := 9, code := some k1c1 }
/-- org/stratalog/internal/engine/PickerShardOfPinLaw -/
def k1 : Class := { plain "org/stratalog/internal/engine/PickerShardOfPinLaw" (some 0) with
  accessFlags := 49
  interfaces := #[]
  cf := some (fileOf pool1 29 #[] #[{ accessFlags := 1, nameIndex := 5, descriptorIndex := 6, attributes := #[] }, { accessFlags := 9, nameIndex := 33, descriptorIndex := 34, attributes := #[] }] 49 2 #[] #[])
  fields := #[]
  methods := #[k1m0, k1m1]
  instanceTypes := #[]
  staticTypes := #[]
  resolved := Array.replicate 44 none
  statics := none }

def pool2 : Array CpInfo := pool [(1, .class_ 2), (0, u "java/lang/Math"), (1, .class_ 6), (1, u "java/lang/Object"), (0, u "<init>"), (0, u "()V"), (89, .class_ 100), (1, u "java/lang/Math$RandomNumberGeneratorHolder"), (71, u "negativeZeroFloatBits"), (0, u "J"), (2, u "negativeZeroDoubleBits"), (21, u "max"), (46, u "$assertionsDisabled"), (0, u "Z"), (88, u "(II)I"), (2, u "twoToTheDoubleScaleDown"), (0, u "D"), (4, u "twoToTheDoubleScaleUp"), (9, u "E"), (3, u "PI"), (2, u "TAU"), (2, u "DEGREES_TO_RADIANS"), (0, u "RADIANS_TO_DEGREES")] 94

def k2m0 : Method := { name := "<init>", desc := "()V", sig := { parameters := [], returnType := none }, accessFlags := 2, code := none }
def k2c1 : Code := { maxStack := 2, maxLocals := 2, code := jdk_29_method_65_code, exceptionTable := #[], attributes := #[] }
def k2m1 : Method := { name := "max", desc := "(II)I", sig := { parameters := [.int, .int], returnType := some .int }, accessFlags := 9, code := some k2c1 }
/-- java/lang/Math -/
def k2 : Class := { plain "java/lang/Math" (some 0) with
  accessFlags := 49
  interfaces := #[]
  cf := some (fileOf pool2 1 #[.nestMembers #[98]] #[{ accessFlags := 2, nameIndex := 7, descriptorIndex := 8, attributes := #[] }, { accessFlags := 9, nameIndex := 198, descriptorIndex := 335, attributes := #[] }] 49 4 #[] #[{ accessFlags := 25, nameIndex := 354, descriptorIndex := 339, attributes := #[] }, { accessFlags := 25, nameIndex := 358, descriptorIndex := 339, attributes := #[] }, { accessFlags := 25, nameIndex := 361, descriptorIndex := 339, attributes := #[] }, { accessFlags := 26, nameIndex := 364, descriptorIndex := 339, attributes := #[] }, { accessFlags := 26, nameIndex := 365, descriptorIndex := 339, attributes := #[] }, { accessFlags := 26, nameIndex := 172, descriptorIndex := 173, attributes := #[] }, { accessFlags := 26, nameIndex := 176, descriptorIndex := 173, attributes := #[] }, { accessFlags := 8, nameIndex := 344, descriptorIndex := 339, attributes := #[] }, { accessFlags := 8, nameIndex := 338, descriptorIndex := 339, attributes := #[] }, { accessFlags := 4120, nameIndex := 245, descriptorIndex := 246, attributes := #[] }])
  fields := #[{ name := "E", type := .double, accessFlags := 25, slot := 0, constantValue := 0 }, { name := "PI", type := .double, accessFlags := 25, slot := 1, constantValue := 0 }, { name := "TAU", type := .double, accessFlags := 25, slot := 2, constantValue := 0 }, { name := "DEGREES_TO_RADIANS", type := .double, accessFlags := 26, slot := 3, constantValue := 0 }, { name := "RADIANS_TO_DEGREES", type := .double, accessFlags := 26, slot := 4, constantValue := 0 }, { name := "negativeZeroFloatBits", type := .long, accessFlags := 26, slot := 5, constantValue := 0 }, { name := "negativeZeroDoubleBits", type := .long, accessFlags := 26, slot := 6, constantValue := 0 }, { name := "twoToTheDoubleScaleUp", type := .double, accessFlags := 8, slot := 7, constantValue := 0 }, { name := "twoToTheDoubleScaleDown", type := .double, accessFlags := 8, slot := 8, constantValue := 0 }, { name := "$assertionsDisabled", type := .boolean, accessFlags := 4120, slot := 9, constantValue := 0 }]
  methods := #[k2m0, k2m1]
  instanceTypes := #[]
  staticTypes := #[.double, .double, .double, .double, .double, .long, .long, .double, .double, .boolean]
  resolved := Array.replicate 460 none
  statics := none }

def pool3 : Array CpInfo := pool [(1, .class_ 2), (0, u "org/stratalog/internal/engine/ShardedRelation"), (0, .methodref 4 5), (0, .class_ 6), (0, .nameAndType 7 8), (0, u "java/lang/Object"), (0, u "<init>"), (0, u "()V"), (0, .fieldref 10 11), (0, .class_ 12), (0, .nameAndType 13 14), (0, u "org/stratalog/internal/engine/ShardedRelation$Picker"), (0, u "seed"), (0, u "I"), (0, .fieldref 10 16), (0, .nameAndType 17 14), (0, u "count"), (0, .fieldref 10 19), (0, .nameAndType 20 21), (0, u "places"), (0, u "[I"), (0, .long 11400714819323198485), (3, u "(II[I)V"), (2, u "shardOf"), (0, u "([I)I")] 7

def k3c0 : Code := { maxStack := 2, maxLocals := 4, code := prog_96_method_1_code, exceptionTable := #[], attributes := #[] }
def k3m0 : Method := { name := "<init>", desc := "(II[I)V", sig := { parameters := [.int, .int, (.array .int)], returnType := none }, accessFlags := 0, code := some k3c0 }
def k3c1 : Code := { maxStack := 4, maxLocals := 8, code := prog_96_method_2_code, exceptionTable := #[], attributes := #[] }
def k3m1 : Method := { name := "shardOf", desc := "([I)I", sig := { parameters := [(.array .int)], returnType := some .int }, accessFlags := 0, code := some k3c1 }
/-- org/stratalog/internal/engine/ShardedRelation$Picker -/
def k3 : Class := { plain "org/stratalog/internal/engine/ShardedRelation$Picker" (some 0) with
  accessFlags := 48
  interfaces := #[]
  cf := some (fileOf pool3 10 #[.nestHost 1] #[{ accessFlags := 0, nameIndex := 7, descriptorIndex := 26, attributes := #[] }, { accessFlags := 0, nameIndex := 29, descriptorIndex := 30, attributes := #[] }] 48 4 #[] #[{ accessFlags := 18, nameIndex := 13, descriptorIndex := 14, attributes := #[] }, { accessFlags := 18, nameIndex := 17, descriptorIndex := 14, attributes := #[] }, { accessFlags := 18, nameIndex := 20, descriptorIndex := 21, attributes := #[] }])
  fields := #[{ name := "seed", type := .int, accessFlags := 18, slot := 0, constantValue := 0 }, { name := "count", type := .int, accessFlags := 18, slot := 1, constantValue := 0 }, { name := "places", type := (.array .int), accessFlags := 18, slot := 2, constantValue := 0 }]
  methods := #[k3m0, k3m1]
  instanceTypes := #[.int, .int, (.array .int)]
  staticTypes := #[]
  resolved := Array.replicate 38 none
  statics := none }

def pool4 : Array CpInfo := pool [(1, u "java/lang/Cloneable"), (0, .class_ 1), (0, u "java/lang/Object"), (0, .class_ 3)] 3

/-- java/lang/Cloneable -/
def k4 : Class := { plain "java/lang/Cloneable" (some 0) with
  accessFlags := 1537
  interfaces := #[]
  cf := some (fileOf pool4 2 #[] #[] 1537 4 #[] #[])
  fields := #[]
  methods := #[]
  instanceTypes := #[]
  staticTypes := #[]
  resolved := Array.replicate 8 none
  statics := none }

def pool5 : Array CpInfo := pool [(1, u "java/io/Serializable"), (0, .class_ 1), (0, u "java/lang/Object"), (0, .class_ 3)] 3

/-- java/io/Serializable -/
def k5 : Class := { plain "java/io/Serializable" (some 0) with
  accessFlags := 1537
  interfaces := #[]
  cf := some (fileOf pool5 2 #[] #[] 1537 4 #[] #[])
  fields := #[]
  methods := #[]
  instanceTypes := #[]
  staticTypes := #[]
  resolved := Array.replicate 8 none
  statics := none }

/-- the primitive byte -/
def k6 : Class := { plain "byte" none with kind := .primitive 'B', accessFlags := 0x411 }
/-- [B -/
def k7 : Class := { plain "[B" (some 0) with kind := .array 6 .byte, interfaces := #[4, 5], accessFlags := 1041 }

/-- the primitive int -/
def k8 : Class := { plain "int" none with kind := .primitive 'I', accessFlags := 0x411 }
/-- [I -/
def k9 : Class := { plain "[I" (some 0) with kind := .array 8 .int, interfaces := #[4, 5], accessFlags := 1041 }

def heap : Heap := #[]
def classes : Array Class := #[k0, k1, k2, k3, k4, k5, k6, k7, k8, k9]
def interned : List (Array UInt16 × Addr) := []
def slotsUsed : Nat := 0
def theMethod : MethodId := ⟨1, 1⟩
def args0 : Array Value := #[.int 5, .int 7, .int 9, .int 11, .int 13, .int 2]
def aboutOver (below : List Frame) : State where
  vm := { classes := classes, interned := interned.toArray }
  heap := heap
  slotsUsed := slotsUsed
  threads := #[{ frames := .invoking theMethod args0 :: below }]
def below0 : List Frame := [.native { method := ⟨0, 0⟩, args := #[] }]
def about1 : State := aboutOver below0
def p0 : Program := .bare "" "" ""
def e0 : Env := launch0.env 0 0 0
theorem w_frames : about1.frames = Frame.invoking theMethod args0 :: below0 := rfl
set_option maxRecDepth 65536 in
theorem w_args : argsFit about1.vm theMethod args0 = true := by decide +kernel
set_option maxRecDepth 65536 in
theorem w_heap : heapFits about1 = true := by decide +kernel
set_option maxRecDepth 65536 in
theorem w_runnable : about1.curStatus? = some .runnable := by decide +kernel
set_option maxRecDepth 65536 in
theorem w_alone : about1.alone = true := by decide +kernel
set_option maxRecDepth 65536 in
theorem w_named : about1.methodNamed? x = some theMethod := by decide +kernel
set_option maxRecDepth 65536 in
theorem w_hears : about1.hears theMethod below0 = true := by decide +kernel
set_option maxRecDepth 65536 in
theorem w_ripe : about1.ripe theMethod args0 below0 = true := by decide +kernel
theorem w_running : about1.status = .running := rfl
set_option maxRecDepth 65536 in
theorem w_room : about1.hasRoom e0.platform room_1 = true :=
  launch0.hasRoom_least _ room_1 (by decide +kernel) (by decide +kernel) (by decide +kernel) (by decide +kernel) (by decide +kernel) (by decide +kernel)
theorem allAtoms_all (ts : List Jvm.Cond) (a : Array Jvm.Value) (st : Jvm.State) : (allAtoms ts).before a st = ts.all (fun c => c.before a st) := by
  induction ts with
  | nil => rfl
  | cons c t ih =>
    show (Jvm.Cond.and c (allAtoms t)).before a st = _
    rw [Jvm.Cond.before_and, ih, List.all_cons]
def words1 : List Jvm.Cond := Jvm.Cond.code x code maxLocals ret :: tables_1
/-- a 'code' word, met by the world's own term for the bytes: nothing is compared byte by byte -/
theorem code_word {y : MethodName} {bytes : ByteArray} {mx : Nat} {rt : Option FieldType} {a : Array Value} {s : State} {m : MethodId} {meth : Method} {c : Code} (h1 : s.methodNamed? y = some m) (h2 : s.vm.method? m = some meth) (h3 : meth.code = some c) (h4 : c.code = bytes)
    (h5 : (c.maxLocals == mx && c.exceptionTable.isEmpty && decide (c.maxStack ≤ mostOperands) && decide (meth.sig.returnType = rt) && !meth.locks && decide (parseMethodDescriptor y.desc = some meth.sig)) = true) : (Jvm.Cond.code y bytes mx rt).before a s = true := by
  simp only [Bool.and_eq_true, beq_iff_eq, Bool.not_eq_true', decide_eq_true_eq] at h5
  obtain ⟨⟨⟨⟨⟨g1, g2⟩, g3⟩, g4⟩, g5⟩, g6⟩ := h5
  simp [Cond.before, Cond.holds, Cond.value, h1, h2, h3, h4, g1, g2, g3, g4, g5, g6]
def isCode : Jvm.Cond → Bool
  | .code _ _ _ _ => true
  | _ => false
theorem all_split {L : List Jvm.Cond} {P : Jvm.Cond → Bool} (h1 : L.all (fun c => isCode c || P c) = true) (h2 : ∀ c ∈ L.filter isCode, P c = true) : L.all P = true := by
  refine List.all_eq_true.mpr fun c hc => ?_
  have h := List.all_eq_true.mp h1 c hc
  rcases Bool.eq_false_or_eq_true (isCode c) with hi | hi
  · exact h2 c (List.mem_filter.mpr ⟨hc, hi⟩)
  · simpa [hi] using h
set_option maxRecDepth 65536 in
theorem w_c0 : (Jvm.Cond.code x code maxLocals ret).before args0 about1 = true := code_word (m := ⟨1, 1⟩) (meth := k1m1) (c := k1c1) (by decide +kernel) rfl rfl rfl (by decide +kernel)
set_option maxRecDepth 65536 in
theorem w_c1 : (Jvm.Cond.code ({ cls := "java/lang/Math", name := "max", desc := "(II)I" } : Jvm.MethodName) jdk_29_method_65_code (2 : Nat) (Option.some Jvm.ClassFile.FieldType.int)).before args0 about1 = true := code_word (m := ⟨2, 1⟩) (meth := k2m1) (c := k2c1) (by decide +kernel) rfl rfl rfl (by decide +kernel)
set_option maxRecDepth 65536 in
theorem w_c2 : (Jvm.Cond.code ({ cls := "org/stratalog/internal/engine/ShardedRelation$Picker", name := "<init>", desc := "(II[I)V" } : Jvm.MethodName) prog_96_method_1_code (4 : Nat) (Option.none : Option Jvm.ClassFile.FieldType)).before args0 about1 = true := code_word (m := ⟨3, 0⟩) (meth := k3m0) (c := k3c0) (by decide +kernel) rfl rfl rfl (by decide +kernel)
set_option maxRecDepth 65536 in
theorem w_c3 : (Jvm.Cond.code ({ cls := "java/lang/Object", name := "<init>", desc := "()V" } : Jvm.MethodName) object_method_1_code (1 : Nat) (Option.none : Option Jvm.ClassFile.FieldType)).before args0 about1 = true := code_word (m := ⟨0, 0⟩) (meth := k0m0) (c := k0c0) (by decide +kernel) rfl rfl rfl (by decide +kernel)
set_option maxRecDepth 65536 in
theorem w_c4 : (Jvm.Cond.code ({ cls := "org/stratalog/internal/engine/ShardedRelation$Picker", name := "shardOf", desc := "([I)I" } : Jvm.MethodName) prog_96_method_2_code (8 : Nat) (Option.some Jvm.ClassFile.FieldType.int)).before args0 about1 = true := code_word (m := ⟨3, 1⟩) (meth := k3m1) (c := k3c1) (by decide +kernel) rfl rfl rfl (by decide +kernel)
def codes1 : List Jvm.Cond := [Jvm.Cond.code x code maxLocals ret, Jvm.Cond.code ({ cls := "java/lang/Math", name := "max", desc := "(II)I" } : Jvm.MethodName) jdk_29_method_65_code (2 : Nat) (Option.some Jvm.ClassFile.FieldType.int), Jvm.Cond.code ({ cls := "org/stratalog/internal/engine/ShardedRelation$Picker", name := "<init>", desc := "(II[I)V" } : Jvm.MethodName) prog_96_method_1_code (4 : Nat) (Option.none : Option Jvm.ClassFile.FieldType), Jvm.Cond.code ({ cls := "java/lang/Object", name := "<init>", desc := "()V" } : Jvm.MethodName) object_method_1_code (1 : Nat) (Option.none : Option Jvm.ClassFile.FieldType), Jvm.Cond.code ({ cls := "org/stratalog/internal/engine/ShardedRelation$Picker", name := "shardOf", desc := "([I)I" } : Jvm.MethodName) prog_96_method_2_code (8 : Nat) (Option.some Jvm.ClassFile.FieldType.int)]
set_option maxRecDepth 65536 in
theorem codes_eq : words1.filter isCode = codes1 := rfl
theorem w_codes : ∀ c ∈ words1.filter isCode, c.before args0 about1 = true := by
  rw [codes_eq]
  intro c hc
  simp only [codes1, List.mem_cons, List.not_mem_nil, or_false] at hc
  rcases hc with rfl | rfl | rfl | rfl | rfl
  · exact w_c0
  · exact w_c1
  · exact w_c2
  · exact w_c3
  · exact w_c4
set_option maxRecDepth 65536 in
theorem w_t1 : (words1.take 24).all (fun c => isCode c || c.before args0 about1) = true := by decide +kernel
set_option maxRecDepth 65536 in
theorem w_t2 : (words1.drop 24).all (fun c => isCode c || c.before args0 about1) = true := by decide +kernel
theorem w_tables : (allAtoms (Jvm.Cond.code x code maxLocals ret :: tables_1)).before args0 about1 = true := by
  rw [allAtoms_all]
  show words1.all (fun c => c.before args0 about1) = true
  refine all_split ?_ w_codes
  rw [← List.take_append_drop 24 words1, List.all_append, w_t1, w_t2]
  rfl
set_option maxRecDepth 65536 in
theorem w_case : (Jvm.Cond.and given_1 narrow_1).before args0 about1 = true := by decide +kernel
theorem w_applies : (headSpec (Jvm.Cond.code x code maxLocals ret :: tables_1) room_1).applies x e0.platform about1 = true :=
  (Spec.applies_iff w_frames).mpr ⟨w_running, w_runnable, w_alone, w_named, w_hears, w_ripe, w_room, w_tables⟩
theorem atStart : AtStart classFile x code maxLocals ret World_1 tables_1 room_1 Calls_1 rest_1 Pre_1 launch0 p0 e0 about1 theMethod args0 below0 :=
  ⟨lists_1, trivial, launch0.admits_env _ _ _, launch0.least_env, fairChoices_fair.cas, fairChoices_fair.clock, w_frames, w_args, w_heap, w_applies, trivial, trivial, w_case⟩
end start1
theorem witness_1 : WitnessClaimed_1 := ⟨start1.p0, start1.e0, start1.about1, start1.theMethod, start1.args0, start1.below0, start1.atStart⟩
end Jvm.Pilot.@@N@@

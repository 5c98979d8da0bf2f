import JvmDerived
import JvmDerived.Pilot.@@N@@Statement
import JvmDerived.Pilot.@@N@@Code
set_option linter.unusedVariables false
set_option linter.unusedSimpArgs false
namespace Jvm.RoadKit
open Sem ClassFile Op Lib Jvm.Stand Jvm.Free Jvm.LawKit
section New
variable {p : Program} {l : Launch} {e : Env} {R : Room} {s : State} {m : MethodId} {args : Array Value} {below : List Frame} {meth : Method} {c : Code} {T : State} {locs : List Loc} {cells slots : Nat}
theorem retI (X : Stand p l e R s m args below meth c T locs cells slots) (hx : p.tables.exec = Jvm.exec) {pc : Nat} {Ls : Array Slot} {z : Int32} {rest : List Value} (hret : meth.sig.returnType = some .int) (hd : decode c.code pc = .ok (.ireturn, 1)) {fs : List Frame}
    (hl : ∀ (f : JFrame) (acts : List Action), f.method = m → f.locked = none → f.entered = [] → (doReturn e (T.setTop f) acts (some (.int z))).1 = T.setFrames fs) : Steps p.tables e below (T.setTop (mkF m pc Ls (.int z :: rest))) (T.setFrames fs) := by
  have hm' : T.vm.method? m = some meth := X.method'
  have hn : narrow .int (.int z) = .int z := rfl
  show Steps p.tables e below (T.setTop { method := m, pc := pc, locals := Ls, stack := _ :: rest, locked := none }) _
  jvm_step X.here [X.here.top, hx, hd, hm', hret, hn]
  first | (intro acts; rw [hl _ acts rfl rfl rfl]) | rw [hl _ _ rfl rfl rfl]
  exact Steps.refl _
end New
end Jvm.RoadKit
namespace Jvm.Pilot.@@N@@
open Jvm Jvm.ClassFile Sem Op Lib Jvm.Free Jvm.Stand Jvm.LawKit Jvm.RoadKit Bundle Jvm.Pilot.@@N@@.Jvm.D
theorem own_enum {Z : State} {args : Array Value} {C n d : String} (hi : (Cond.initialized C).before args Z = true) (hl : (Cond.laysStatic C n d).before args Z = true) (hx : (Cond.exactly (Term.static C n d) C).value args Z none Z [] = some true) : ∃ a, (Term.static C n d).eval args Z none [] Z = some (.ref a) ∧ Sta Z Z.heap C n d (.ref a) ∧ Exa Z Z.heap a C := by
  obtain ⟨a, ev⟩ := exa_v hx
  exact ⟨a, ev, Sta.start ev (Or.inr ⟨hi, hl⟩), Exa.start ev hx⟩
theorem own_fld {Z : State} {args : Array Value} {C n d O f t : String} {a : Addr} {v : Int32} (ev : (Term.static C n d).eval args Z none [] Z = some (.ref a)) (h : (Cond.eq (Term.field (Term.static C n d) O f t) (Term.int v)).value args Z none Z [] = some true) : Fld Z Z.heap a O f t (.int v) := by
  have e := eqv_i (F := Term.int v) (y := v) rfl h
  rw [fld_at ev] at e
  exact Fld.start e
def own_of (p : Int32) (wL wE wG : Addr) : Addr := if p < (0 : Int32) then wL else if (0 : Int32) < p then wG else wE
def own_ord (p : Int32) : Int32 := if p < (0 : Int32) then (0 : Int32) else if (0 : Int32) < p then (2 : Int32) else (1 : Int32)
theorem own_ofL {p : Int32} (h : p < (0 : Int32)) (wL wE wG : Addr) : own_of p wL wE wG = wL := if_pos h
theorem own_ofG {p : Int32} (h : ¬ (p < (0 : Int32))) (k : (0 : Int32) < p) (wL wE wG : Addr) : own_of p wL wE wG = wG := (if_neg h).trans (if_pos k)
theorem own_ofE {p : Int32} (h : ¬ (p < (0 : Int32))) (k : ¬ ((0 : Int32) < p)) (wL wE wG : Addr) : own_of p wL wE wG = wE := (if_neg h).trans (if_neg k)
theorem own_E {Z : State} {h : Heap} {K : String} {wL wE wG : Addr} (p : Int32) (EL : Exa Z h wL K) (EE : Exa Z h wE K) (EG : Exa Z h wG K) : Exa Z h (own_of p wL wE wG) K := by
  by_cases a : p < (0 : Int32)
  · rw [own_ofL a]; exact EL
  · by_cases b : (0 : Int32) < p
    · rw [own_ofG a b]; exact EG
    · rw [own_ofE a b]; exact EE
theorem own_F {Z : State} {h : Heap} {K f d : String} {wL wE wG : Addr} (p : Int32) (FL : Fld Z h wL K f d (.int (0 : Int32))) (FE : Fld Z h wE K f d (.int (1 : Int32))) (FG : Fld Z h wG K f d (.int (2 : Int32))) : Fld Z h (own_of p wL wE wG) K f d (.int (own_ord p)) := by
  by_cases a : p < (0 : Int32)
  · rw [own_ofL a, show own_ord p = (0 : Int32) from if_pos a]; exact FL
  · by_cases b : (0 : Int32) < p
    · rw [own_ofG a b, show own_ord p = (2 : Int32) from (if_neg a).trans (if_pos b)]; exact FG
    · rw [own_ofE a b, show own_ord p = (1 : Int32) from (if_neg a).trans (if_neg b)]; exact FE
theorem own_ord3 (p : Int32) : own_ord p ≠ (3 : Int32) := by
  unfold own_ord
  split
  · decide
  · split <;> decide
theorem own_fne {Z : State} {h : Heap} {K f d : String} {a b : Addr} {u v : Int32} (F : Fld Z h a K f d (.int u)) (G : Fld Z h b K f d (.int v)) (n : u ≠ v) : ¬ (a = b) := fun e => by
  subst e
  obtain ⟨c1, cf, k, i, fd, q1, q2, q3, q4, q5, q6, q7⟩ := F
  obtain ⟨c2, cf', k', i', fd', r1, r2, r3, r4, r5, r6, r7⟩ := G
  cases q1.symm.trans r1
  cases q2.symm.trans r2
  exact n (Value.int.inj (Option.some.inj (q7.symm.trans r7)))
theorem own_i0 : (0 : Int32).toInt = 0 := by decide
theorem own_i1 : (1 : Int32).toInt = 1 := by decide
theorem own_i2 : (2 : Int32).toInt = 2 := by decide
theorem own_ordI (p : Int32) : (p.toInt < 0 ∧ (own_ord p).toInt = 0) ∨ (0 < p.toInt ∧ (own_ord p).toInt = 2) ∨ (p.toInt = 0 ∧ (own_ord p).toInt = 1) := by
  by_cases a : p < (0 : Int32)
  · refine Or.inl ⟨?_, ?_⟩
    · have := Int32.lt_iff_toInt_lt.mp a; rw [own_i0] at this; exact this
    · rw [show own_ord p = (0 : Int32) from if_pos a, own_i0]
  · have a' : ¬ p.toInt < 0 := fun q => a (Int32.lt_iff_toInt_lt.mpr (by rw [own_i0]; exact q))
    by_cases b : (0 : Int32) < p
    · refine Or.inr (Or.inl ⟨?_, ?_⟩)
      · have := Int32.lt_iff_toInt_lt.mp b; rw [own_i0] at this; exact this
      · rw [show own_ord p = (2 : Int32) from (if_neg a).trans (if_pos b), own_i2]
    · have b' : ¬ 0 < p.toInt := fun q => b (Int32.lt_iff_toInt_lt.mpr (by rw [own_i0]; exact q))
      refine Or.inr (Or.inr ⟨by omega, ?_⟩)
      rw [show own_ord p = (1 : Int32) from (if_neg a).trans (if_neg b), own_i1]
theorem own_up {a b : Int32} (h : ¬ (b < a)) : ¬ (own_ord b < own_ord a) := by
  rw [Int32.lt_iff_toInt_lt] at h ⊢
  have h1 := own_ordI a
  have h2 := own_ordI b
  omega
theorem own_down {a b : Int32} (h : b < a) : ¬ (own_ord a < own_ord b) := by
  rw [Int32.lt_iff_toInt_lt] at h ⊢
  have h1 := own_ordI a
  have h2 := own_ordI b
  omega
theorem own_mir {a : Int32} (h : ¬ (a = (-2147483648 : Int32))) : own_ord (-a) = (2 : Int32) - own_ord a := by
  have h0 : ¬ a.toInt = -2147483648 := fun q => h (Int32.toInt_inj.mp (q.trans (by decide)))
  have h1 := own_ordI a
  have h2 := own_ordI (-a)
  have h3 := c_ineg a
  have h4 := rng32 a
  have h5 := rng32 (-a)
  have h6 := c_isub (2 : Int32) (own_ord a)
  have h7 := rng32 ((2 : Int32) - own_ord a)
  rw [own_i2] at h6
  apply Int32.toInt_inj.mp
  omega
theorem d1_0 : decode prog_127_method_4_code 0 = .ok (.iload_n 0, 1) := by decide +kernel
theorem d1_1 : decode prog_127_method_4_code 1 = .ok (.ifCond .ge 10, 3) := by decide +kernel
theorem d1_4 : decode prog_127_method_4_code 4 = .ok (.getstatic 3, 3) := by decide +kernel
theorem d1_7 : decode prog_127_method_4_code 7 = .ok (.astore_n 1, 1) := by decide +kernel
theorem d1_8 : decode prog_127_method_4_code 8 = .ok (.goto 18, 3) := by decide +kernel
theorem d1_26 : decode prog_127_method_4_code 26 = .ok (.aload_n 1, 1) := by decide +kernel
theorem d1_27 : decode prog_127_method_4_code 27 = .ok (.areturn, 1) := by decide +kernel
theorem pn_1 : plainName "com/example/assessor/assessor/datatypes/AtomicValue$Order" = true := by first | (simp [plainName, overriddenIn]; done) | decide +kernel
theorem ef_1 (m : MethodId) (x0 : Int32) : entryFrame m #[(.int x0)] 2 = mkF m 0 #[.val (.int x0), .unset] [] := by first | (simp [entryFrame, mkF, argsToLocals, Value.category]; done) | rfl
def Q1 (Z : State) (p1 : Int32) (w2 : Addr) (h0 : Heap) (n0 : Nat) (v : Option Value) (h : Heap) (L : List Loc) : Prop := v = some (.ref w2) ∧ Fr n0 L ∧ h = h0
set_option maxRecDepth 65536 in
set_option maxHeartbeats 40000000 in
theorem rm1f (l : Launch) (Z : State) (a0 : Array Value) (hw : ∀ d ∈ tables_1, d.before a0 Z = true) (ws : List Jvm.Cond) (p1 : Int32) (w2 : Addr) (h0 : Heap) (n0 : Nat) (Z0 : n0 ≤ h0.size) (S_LESS : Sta Z h0 "com/example/assessor/assessor/datatypes/AtomicValue$Order" "LESS" "Lcom/example/assessor/assessor/datatypes/AtomicValue$Order;" (.ref w2)) (hc1 : p1 < (0 : Int32)) :
    MetFree l (⟨"com/example/assessor/assessor/datatypes/AtomicValue$Order", "of", "(I)Lcom/example/assessor/assessor/datatypes/AtomicValue$Order;"⟩ : MethodName) (head1 (Jvm.Cond.code (⟨"com/example/assessor/assessor/datatypes/AtomicValue$Order", "of", "(I)Lcom/example/assessor/assessor/datatypes/AtomicValue$Order;"⟩ : MethodName) prog_127_method_4_code 2 (some (.object "com/example/assessor/assessor/datatypes/AtomicValue$Order")) :: ws) ({ frames := 0, cells := 0, slots := 0, locals := 0 } : Room)) (fun a U => a = #[(.int p1)] ∧ Z.Warmed39 U.vm ∧ U.heap = h0) (fun _ _ _ _ _ => True) (fun _ U o U' => ∃ v L, o = .returned v ∧ Q1 Z p1 w2 h0 n0 v U'.heap L ∧ FrameEnd U o U' L ({ frames := 0, cells := 0, slots := 0, locals := 0 } : Room).cells ({ frames := 0, cells := 0, slots := 0, locals := 0 } : Room).slots) := by
  refine MetFree.of_bodySF (plainFor_of_name pn_1) hisR ?_
  intro p e s m args below meth c s₁ Bd hml0 hP hK
  obtain ⟨rfl, hZ, hh⟩ := hP
  have hx := Bd.exec
  have hby := Bd.bytes
  have hml : c.maxLocals = 2 := hml0
  have hown : s.vm.findClass "com/example/assessor/assessor/datatypes/AtomicValue$Order" = some m.cls := findClass_of_methodNamed Bd.named
  have hnm := (name_of_methodNamed Bd.named Bd.method).1
  have X0 : Stand p l e ({ frames := 0, cells := 0, slots := 0, locals := 0 } : Room) s m #[(.int p1)] below meth c s₁ [] 0 0 := Stand.of_body Bd
  have e0 : s₁.heap = h0 := by rw [← hh, Bd.state]; rfl
  have N0 := Fr.nil n0
  have pre0 : ∀ t, Steps p.tables e below (s₁.setTop (mkF m 0 #[.val (.int p1), .unset] [])) t → Steps p.tables e below (s₁.setTop (entryFrame m #[(.int p1)] 2)) t := fun t k => castTop (ef_1 m p1) k
  obtain ⟨T3, X3, e3, st3⟩ := getS2 X0 hx hZ hown (host := "") (Or.inl (hw _ (List.mem_of_getElem? (i := 8) rfl))) Via.refl e0 S_LESS (g := (mkF m 4 #[.val (.int p1), .unset] [])) rfl (hb hby d1_4)
  obtain ⟨fs, hr, hrun, hended, hW, hsame⟩ := X3.leave (v := some (.ref w2)) (fun h => by rw [Bd.returns] at h; cases h)
  refine ⟨_, _, pre0 _ ?_, hrun, hended, _, _, rfl, ?_, ⟨_, rfl⟩, hW, hsame.mono (by decide) (by decide)⟩
  · show Steps p.tables e below (s₁.setTop (mkF m 0 #[.val (.int p1), .unset] [])) _
    refine XS.iloadN X0.here hx rfl (hb hby d1_0) rfl ?_
    show Steps p.tables e below (s₁.setTop (mkF m 1 #[.val (.int p1), .unset] [(.int p1)])) _
    refine XS.ifNo X0.here hx rfl (hb hby d1_1) rfl ((if0 _ _).trans (tlt hc1).2.1) ?_
    show Steps p.tables e below (s₁.setTop (mkF m 4 #[.val (.int p1), .unset] [])) _
    refine st3 _ ?_
    show Steps p.tables e below (T3.setTop (mkF m 7 #[.val (.int p1), .unset] [(.ref w2)])) _
    refine XS.astoreN X3.here hx rfl (hb hby d1_7) rfl rfl (l' := #[.val (.int p1), .val (.ref w2)]) rfl ?_
    show Steps p.tables e below (T3.setTop (mkF m 8 #[.val (.int p1), .val (.ref w2)] [])) _
    refine XS.goto X3.here hx rfl (pc0 := 8) (pc' := 26) rfl (hb hby d1_8) (by decide) (by decide) ?_
    show Steps p.tables e below (T3.setTop (mkF m 26 #[.val (.int p1), .val (.ref w2)] [])) _
    refine XS.aloadN X3.here hx rfl (hb hby d1_26) rfl rfl ?_
    show Steps p.tables e below (T3.setTop (mkF m 27 #[.val (.int p1), .val (.ref w2)] [(.ref w2)])) _
    jvm_step X3.here [X3.here.top, hx, (hb hby d1_27), X3.method', Bd.returns, Value.isRef, FieldType.isReference]
    first | (intro acts; rw [hr _ acts rfl rfl rfl]) | rw [hr _ _ rfl rfl rfl]
    exact Steps.refl _
  · show Q1 Z p1 w2 h0 n0 _ T3.heap _
    rw [e3]
    exact ⟨rfl, N0, rfl⟩
theorem d1_11 : decode prog_127_method_4_code 11 = .ok (.iload_n 0, 1) := by decide +kernel
theorem d1_12 : decode prog_127_method_4_code 12 = .ok (.ifCond .le 10, 3) := by decide +kernel
theorem d1_15 : decode prog_127_method_4_code 15 = .ok (.getstatic 10, 3) := by decide +kernel
theorem d1_18 : decode prog_127_method_4_code 18 = .ok (.astore_n 1, 1) := by decide +kernel
theorem d1_19 : decode prog_127_method_4_code 19 = .ok (.goto 7, 3) := by decide +kernel
set_option maxRecDepth 65536 in
set_option maxHeartbeats 40000000 in
theorem rm1tf (l : Launch) (Z : State) (a0 : Array Value) (hw : ∀ d ∈ tables_1, d.before a0 Z = true) (ws : List Jvm.Cond) (p1 : Int32) (w2 : Addr) (h0 : Heap) (n0 : Nat) (Z0 : n0 ≤ h0.size) (S_GREATER : Sta Z h0 "com/example/assessor/assessor/datatypes/AtomicValue$Order" "GREATER" "Lcom/example/assessor/assessor/datatypes/AtomicValue$Order;" (.ref w2)) (hc1 : ¬ (p1 < (0 : Int32))) (hc12 : (0 : Int32) < p1) :
    MetFree l (⟨"com/example/assessor/assessor/datatypes/AtomicValue$Order", "of", "(I)Lcom/example/assessor/assessor/datatypes/AtomicValue$Order;"⟩ : MethodName) (head1 (Jvm.Cond.code (⟨"com/example/assessor/assessor/datatypes/AtomicValue$Order", "of", "(I)Lcom/example/assessor/assessor/datatypes/AtomicValue$Order;"⟩ : MethodName) prog_127_method_4_code 2 (some (.object "com/example/assessor/assessor/datatypes/AtomicValue$Order")) :: ws) ({ frames := 0, cells := 0, slots := 0, locals := 0 } : Room)) (fun a U => a = #[(.int p1)] ∧ Z.Warmed39 U.vm ∧ U.heap = h0) (fun _ _ _ _ _ => True) (fun _ U o U' => ∃ v L, o = .returned v ∧ Q1 Z p1 w2 h0 n0 v U'.heap L ∧ FrameEnd U o U' L ({ frames := 0, cells := 0, slots := 0, locals := 0 } : Room).cells ({ frames := 0, cells := 0, slots := 0, locals := 0 } : Room).slots) := by
  refine MetFree.of_bodySF (plainFor_of_name pn_1) hisR ?_
  intro p e s m args below meth c s₁ Bd hml0 hP hK
  obtain ⟨rfl, hZ, hh⟩ := hP
  have hx := Bd.exec
  have hby := Bd.bytes
  have hml : c.maxLocals = 2 := hml0
  have hown : s.vm.findClass "com/example/assessor/assessor/datatypes/AtomicValue$Order" = some m.cls := findClass_of_methodNamed Bd.named
  have hnm := (name_of_methodNamed Bd.named Bd.method).1
  have X0 : Stand p l e ({ frames := 0, cells := 0, slots := 0, locals := 0 } : Room) s m #[(.int p1)] below meth c s₁ [] 0 0 := Stand.of_body Bd
  have e0 : s₁.heap = h0 := by rw [← hh, Bd.state]; rfl
  have N0 := Fr.nil n0
  have pre0 : ∀ t, Steps p.tables e below (s₁.setTop (mkF m 0 #[.val (.int p1), .unset] [])) t → Steps p.tables e below (s₁.setTop (entryFrame m #[(.int p1)] 2)) t := fun t k => castTop (ef_1 m p1) k
  obtain ⟨T3, X3, e3, st3⟩ := getS2 X0 hx hZ hown (host := "") (Or.inl (hw _ (List.mem_of_getElem? (i := 6) rfl))) Via.refl e0 S_GREATER (g := (mkF m 15 #[.val (.int p1), .unset] [])) rfl (hb hby d1_15)
  obtain ⟨fs, hr, hrun, hended, hW, hsame⟩ := X3.leave (v := some (.ref w2)) (fun h => by rw [Bd.returns] at h; cases h)
  refine ⟨_, _, pre0 _ ?_, hrun, hended, _, _, rfl, ?_, ⟨_, rfl⟩, hW, hsame.mono (by decide) (by decide)⟩
  · show Steps p.tables e below (s₁.setTop (mkF m 0 #[.val (.int p1), .unset] [])) _
    refine XS.iloadN X0.here hx rfl (hb hby d1_0) rfl ?_
    show Steps p.tables e below (s₁.setTop (mkF m 1 #[.val (.int p1), .unset] [(.int p1)])) _
    refine XS.ifYes X0.here hx rfl (pc0 := 1) (pc' := 11) rfl (hb hby d1_1) rfl ((if0 _ _).trans (flt hc1).2.1) (by decide) (by decide) ?_
    show Steps p.tables e below (s₁.setTop (mkF m 11 #[.val (.int p1), .unset] [])) _
    refine XS.iloadN X0.here hx rfl (hb hby d1_11) rfl ?_
    show Steps p.tables e below (s₁.setTop (mkF m 12 #[.val (.int p1), .unset] [(.int p1)])) _
    refine XS.ifNo X0.here hx rfl (hb hby d1_12) rfl ((if0 _ _).trans (tlt hc12).2.2.2) ?_
    show Steps p.tables e below (s₁.setTop (mkF m 15 #[.val (.int p1), .unset] [])) _
    refine st3 _ ?_
    show Steps p.tables e below (T3.setTop (mkF m 18 #[.val (.int p1), .unset] [(.ref w2)])) _
    refine XS.astoreN X3.here hx rfl (hb hby d1_18) rfl rfl (l' := #[.val (.int p1), .val (.ref w2)]) rfl ?_
    show Steps p.tables e below (T3.setTop (mkF m 19 #[.val (.int p1), .val (.ref w2)] [])) _
    refine XS.goto X3.here hx rfl (pc0 := 19) (pc' := 26) rfl (hb hby d1_19) (by decide) (by decide) ?_
    show Steps p.tables e below (T3.setTop (mkF m 26 #[.val (.int p1), .val (.ref w2)] [])) _
    refine XS.aloadN X3.here hx rfl (hb hby d1_26) rfl rfl ?_
    show Steps p.tables e below (T3.setTop (mkF m 27 #[.val (.int p1), .val (.ref w2)] [(.ref w2)])) _
    jvm_step X3.here [X3.here.top, hx, (hb hby d1_27), X3.method', Bd.returns, Value.isRef, FieldType.isReference]
    first | (intro acts; rw [hr _ acts rfl rfl rfl]) | rw [hr _ _ rfl rfl rfl]
    exact Steps.refl _
  · show Q1 Z p1 w2 h0 n0 _ T3.heap _
    rw [e3]
    exact ⟨rfl, N0, rfl⟩
theorem d1_22 : decode prog_127_method_4_code 22 = .ok (.getstatic 7, 3) := by decide +kernel
theorem d1_25 : decode prog_127_method_4_code 25 = .ok (.astore_n 1, 1) := by decide +kernel
set_option maxRecDepth 65536 in
set_option maxHeartbeats 40000000 in
theorem rm1tt (l : Launch) (Z : State) (a0 : Array Value) (hw : ∀ d ∈ tables_1, d.before a0 Z = true) (ws : List Jvm.Cond) (p1 : Int32) (w2 : Addr) (h0 : Heap) (n0 : Nat) (Z0 : n0 ≤ h0.size) (S_EQUAL : Sta Z h0 "com/example/assessor/assessor/datatypes/AtomicValue$Order" "EQUAL" "Lcom/example/assessor/assessor/datatypes/AtomicValue$Order;" (.ref w2)) (hc1 : ¬ (p1 < (0 : Int32))) (hc12 : ¬ ((0 : Int32) < p1)) :
    MetFree l (⟨"com/example/assessor/assessor/datatypes/AtomicValue$Order", "of", "(I)Lcom/example/assessor/assessor/datatypes/AtomicValue$Order;"⟩ : MethodName) (head1 (Jvm.Cond.code (⟨"com/example/assessor/assessor/datatypes/AtomicValue$Order", "of", "(I)Lcom/example/assessor/assessor/datatypes/AtomicValue$Order;"⟩ : MethodName) prog_127_method_4_code 2 (some (.object "com/example/assessor/assessor/datatypes/AtomicValue$Order")) :: ws) ({ frames := 0, cells := 0, slots := 0, locals := 0 } : Room)) (fun a U => a = #[(.int p1)] ∧ Z.Warmed39 U.vm ∧ U.heap = h0) (fun _ _ _ _ _ => True) (fun _ U o U' => ∃ v L, o = .returned v ∧ Q1 Z p1 w2 h0 n0 v U'.heap L ∧ FrameEnd U o U' L ({ frames := 0, cells := 0, slots := 0, locals := 0 } : Room).cells ({ frames := 0, cells := 0, slots := 0, locals := 0 } : Room).slots) := by
  refine MetFree.of_bodySF (plainFor_of_name pn_1) hisR ?_
  intro p e s m args below meth c s₁ Bd hml0 hP hK
  obtain ⟨rfl, hZ, hh⟩ := hP
  have hx := Bd.exec
  have hby := Bd.bytes
  have hml : c.maxLocals = 2 := hml0
  have hown : s.vm.findClass "com/example/assessor/assessor/datatypes/AtomicValue$Order" = some m.cls := findClass_of_methodNamed Bd.named
  have hnm := (name_of_methodNamed Bd.named Bd.method).1
  have X0 : Stand p l e ({ frames := 0, cells := 0, slots := 0, locals := 0 } : Room) s m #[(.int p1)] below meth c s₁ [] 0 0 := Stand.of_body Bd
  have e0 : s₁.heap = h0 := by rw [← hh, Bd.state]; rfl
  have N0 := Fr.nil n0
  have pre0 : ∀ t, Steps p.tables e below (s₁.setTop (mkF m 0 #[.val (.int p1), .unset] [])) t → Steps p.tables e below (s₁.setTop (entryFrame m #[(.int p1)] 2)) t := fun t k => castTop (ef_1 m p1) k
  obtain ⟨T3, X3, e3, st3⟩ := getS2 X0 hx hZ hown (host := "") (Or.inl (hw _ (List.mem_of_getElem? (i := 4) rfl))) Via.refl e0 S_EQUAL (g := (mkF m 22 #[.val (.int p1), .unset] [])) rfl (hb hby d1_22)
  obtain ⟨fs, hr, hrun, hended, hW, hsame⟩ := X3.leave (v := some (.ref w2)) (fun h => by rw [Bd.returns] at h; cases h)
  refine ⟨_, _, pre0 _ ?_, hrun, hended, _, _, rfl, ?_, ⟨_, rfl⟩, hW, hsame.mono (by decide) (by decide)⟩
  · show Steps p.tables e below (s₁.setTop (mkF m 0 #[.val (.int p1), .unset] [])) _
    refine XS.iloadN X0.here hx rfl (hb hby d1_0) rfl ?_
    show Steps p.tables e below (s₁.setTop (mkF m 1 #[.val (.int p1), .unset] [(.int p1)])) _
    refine XS.ifYes X0.here hx rfl (pc0 := 1) (pc' := 11) rfl (hb hby d1_1) rfl ((if0 _ _).trans (flt hc1).2.1) (by decide) (by decide) ?_
    show Steps p.tables e below (s₁.setTop (mkF m 11 #[.val (.int p1), .unset] [])) _
    refine XS.iloadN X0.here hx rfl (hb hby d1_11) rfl ?_
    show Steps p.tables e below (s₁.setTop (mkF m 12 #[.val (.int p1), .unset] [(.int p1)])) _
    refine XS.ifYes X0.here hx rfl (pc0 := 12) (pc' := 22) rfl (hb hby d1_12) rfl ((if0 _ _).trans (flt hc12).2.2.2) (by decide) (by decide) ?_
    show Steps p.tables e below (s₁.setTop (mkF m 22 #[.val (.int p1), .unset] [])) _
    refine st3 _ ?_
    show Steps p.tables e below (T3.setTop (mkF m 25 #[.val (.int p1), .unset] [(.ref w2)])) _
    refine XS.astoreN X3.here hx rfl (hb hby d1_25) rfl rfl (l' := #[.val (.int p1), .val (.ref w2)]) rfl ?_
    show Steps p.tables e below (T3.setTop (mkF m 26 #[.val (.int p1), .val (.ref w2)] [])) _
    refine XS.aloadN X3.here hx rfl (hb hby d1_26) rfl rfl ?_
    show Steps p.tables e below (T3.setTop (mkF m 27 #[.val (.int p1), .val (.ref w2)] [(.ref w2)])) _
    jvm_step X3.here [X3.here.top, hx, (hb hby d1_27), X3.method', Bd.returns, Value.isRef, FieldType.isReference]
    first | (intro acts; rw [hr _ acts rfl rfl rfl]) | rw [hr _ _ rfl rfl rfl]
    exact Steps.refl _
  · show Q1 Z p1 w2 h0 n0 _ T3.heap _
    rw [e3]
    exact ⟨rfl, N0, rfl⟩
set_option maxRecDepth 65536 in
set_option maxHeartbeats 40000000 in
theorem rm1 (l : Launch) (Z : State) (a0 : Array Value) (hw : ∀ d ∈ tables_1, d.before a0 Z = true) (ws : List Jvm.Cond) (p1 : Int32) (wL wE wG : Addr) (h0 : Heap) (n0 : Nat) (Z0 : n0 ≤ h0.size) (S_LESS : Sta Z h0 "com/example/assessor/assessor/datatypes/AtomicValue$Order" "LESS" "Lcom/example/assessor/assessor/datatypes/AtomicValue$Order;" (.ref wL)) (S_EQUAL : Sta Z h0 "com/example/assessor/assessor/datatypes/AtomicValue$Order" "EQUAL" "Lcom/example/assessor/assessor/datatypes/AtomicValue$Order;" (.ref wE)) (S_GREATER : Sta Z h0 "com/example/assessor/assessor/datatypes/AtomicValue$Order" "GREATER" "Lcom/example/assessor/assessor/datatypes/AtomicValue$Order;" (.ref wG)) :
    MetFree l (⟨"com/example/assessor/assessor/datatypes/AtomicValue$Order", "of", "(I)Lcom/example/assessor/assessor/datatypes/AtomicValue$Order;"⟩ : MethodName) (head1 (Jvm.Cond.code (⟨"com/example/assessor/assessor/datatypes/AtomicValue$Order", "of", "(I)Lcom/example/assessor/assessor/datatypes/AtomicValue$Order;"⟩ : MethodName) prog_127_method_4_code 2 (some (.object "com/example/assessor/assessor/datatypes/AtomicValue$Order")) :: ws) ({ frames := 0, cells := 0, slots := 0, locals := 0 } : Room)) (fun a U => a = #[(.int p1)] ∧ Z.Warmed39 U.vm ∧ U.heap = h0) (fun _ _ _ _ _ => True) (fun _ U o U' => ∃ v L, o = .returned v ∧ Q1 Z p1 (own_of p1 wL wE wG) h0 n0 v U'.heap L ∧ FrameEnd U o U' L ({ frames := 0, cells := 0, slots := 0, locals := 0 } : Room).cells ({ frames := 0, cells := 0, slots := 0, locals := 0 } : Room).slots) := by
  by_cases a : p1 < (0 : Int32)
  · rw [own_ofL a]; exact rm1f l Z a0 hw ws p1 wL h0 n0 Z0 S_LESS a
  · by_cases b : (0 : Int32) < p1
    · rw [own_ofG a b]; exact rm1tf l Z a0 hw ws p1 wG h0 n0 Z0 S_GREATER a b
    · rw [own_ofE a b]; exact rm1tt l Z a0 hw ws p1 wE h0 n0 Z0 S_EQUAL a b
theorem d2_0 : decode jdk_37_method_2_code 0 = .ok (.aload_n 0, 1) := by decide +kernel
theorem d2_1 : decode jdk_37_method_2_code 1 = .ok (.getfield 7, 3) := by decide +kernel
theorem d2_4 : decode jdk_37_method_2_code 4 = .ok (.ireturn, 1) := by decide +kernel
theorem pn_2 : plainName "java/lang/Enum" = true := by first | (simp [plainName, overriddenIn]; done) | decide +kernel
theorem ef_2 (m : MethodId) (x0 : Addr) : entryFrame m #[(.ref x0)] 1 = mkF m 0 #[.val (.ref x0)] [] := by first | (simp [entryFrame, mkF, argsToLocals, Value.category]; done) | rfl
def Q2 (Z : State) (a1 : Addr) (w2 : Int32) (h0 : Heap) (n0 : Nat) (v : Option Value) (h : Heap) (L : List Loc) : Prop := v = some (.int w2) ∧ Fr n0 L ∧ h = h0
set_option maxRecDepth 65536 in
set_option maxHeartbeats 40000000 in
theorem rm2 (l : Launch) (Z : State) (a0 : Array Value) (hw : ∀ d ∈ tables_1, d.before a0 Z = true) (ws : List Jvm.Cond) (a1 : Addr) (w2 : Int32) (h0 : Heap) (n0 : Nat) (Z0 : n0 ≤ h0.size) (F_ordinal_a1 : Fld Z h0 a1 "java/lang/Enum" "ordinal" "I" (.int w2)) :
    MetFree l (⟨"java/lang/Enum", "ordinal", "()I"⟩ : MethodName) (head1 (Jvm.Cond.code (⟨"java/lang/Enum", "ordinal", "()I"⟩ : MethodName) jdk_37_method_2_code 1 (some .int) :: ws) ({ frames := 0, cells := 0, slots := 0, locals := 0 } : Room)) (fun a U => a = #[(.ref a1)] ∧ Z.Warmed39 U.vm ∧ U.heap = h0) (fun _ _ _ _ _ => True) (fun _ U o U' => ∃ v L, o = .returned v ∧ Q2 Z a1 w2 h0 n0 v U'.heap L ∧ FrameEnd U o U' L ({ frames := 0, cells := 0, slots := 0, locals := 0 } : Room).cells ({ frames := 0, cells := 0, slots := 0, locals := 0 } : Room).slots) := by
  refine MetFree.of_bodySF (plainFor_of_name pn_2) hisR ?_
  intro p e s m args below meth c s₁ Bd hml0 hP hK
  obtain ⟨rfl, hZ, hh⟩ := hP
  have hx := Bd.exec
  have hby := Bd.bytes
  have hml : c.maxLocals = 1 := hml0
  have hown : s.vm.findClass "java/lang/Enum" = some m.cls := findClass_of_methodNamed Bd.named
  have hnm := (name_of_methodNamed Bd.named Bd.method).1
  have X0 : Stand p l e ({ frames := 0, cells := 0, slots := 0, locals := 0 } : Room) s m #[(.ref a1)] below meth c s₁ [] 0 0 := Stand.of_body Bd
  have e0 : s₁.heap = h0 := by rw [← hh, Bd.state]; rfl
  have N0 := Fr.nil n0
  have pre0 : ∀ t, Steps p.tables e below (s₁.setTop (mkF m 0 #[.val (.ref a1)] [])) t → Steps p.tables e below (s₁.setTop (entryFrame m #[(.ref a1)] 1)) t := fun t k => castTop (ef_2 m a1) k
  obtain ⟨T3, X3, e3, st3⟩ := getF X0 hx hZ hown (host := "") (Or.inl (hw _ (List.mem_of_getElem? (i := 22) rfl))) Via.refl e0 F_ordinal_a1 (g := (mkF m 1 #[.val (.ref a1)] [(.ref a1)])) rfl rfl (hb hby d2_1)
  obtain ⟨fs, hr, hrun, hended, hW, hsame⟩ := X3.leave (v := some (.int w2)) (fun h => by rw [Bd.returns] at h; cases h)
  refine ⟨_, _, pre0 _ ?_, hrun, hended, _, _, rfl, ?_, ⟨_, rfl⟩, hW, hsame.mono (by decide) (by decide)⟩
  · show Steps p.tables e below (s₁.setTop (mkF m 0 #[.val (.ref a1)] [])) _
    refine XS.aloadN X0.here hx rfl (hb hby d2_0) rfl rfl ?_
    show Steps p.tables e below (s₁.setTop (mkF m 1 #[.val (.ref a1)] [(.ref a1)])) _
    refine st3 _ ?_
    show Steps p.tables e below (T3.setTop (mkF m 4 #[.val (.ref a1)] [(.int w2)])) _
    exact retI X3 hx Bd.returns (hb hby d2_4) hr
  · show Q2 Z a1 w2 h0 n0 _ T3.heap _
    rw [e3]
    exact ⟨rfl, N0, rfl⟩
theorem pn_0 : plainName "com/example/assessor/assessor/datatypes/OrderOfPinLaw" = true := by first | (simp [plainName, overriddenIn]; done) | decide +kernel
theorem pd_0_0 : parseMethodDescriptor "(I)Lcom/example/assessor/assessor/datatypes/AtomicValue$Order;" = some ⟨[.int], some (.object "com/example/assessor/assessor/datatypes/AtomicValue$Order")⟩ := by decide +kernel
theorem pd_0_1 : parseMethodDescriptor "()I" = some ⟨[], some .int⟩ := by decide +kernel
theorem ef_0 (m : MethodId) (x0 : Int32) (x1 : Int32) : entryFrame m #[(.int x0), (.int x1)] maxLocals = mkF m 0 #[.val (.int x0), .val (.int x1), .unset, .unset, .unset, .unset, .unset, .unset, .unset] [] := by first | (simp [entryFrame, mkF, argsToLocals, Value.category, maxLocals]; done) | rfl
def Q0 (Z : State) (h0 : Heap) (n0 : Nat) (v : Option Value) (h : Heap) (L : List Loc) : Prop := v = some (.int (1 : Int32)) ∧ Fr n0 L
set_option maxRecDepth 65536 in
set_option maxHeartbeats 40000000 in
theorem rm0a (l : Launch) (Z : State) (a0 : Array Value) (hw : ∀ d ∈ tables_1, d.before a0 Z = true) (ws : List Jvm.Cond) (p1 : Int32) (p2 : Int32) (wL wE wG wI : Addr) (h0 : Heap) (n0 : Nat) (Z0 : n0 ≤ h0.size) (S_LESS : Sta Z h0 "com/example/assessor/assessor/datatypes/AtomicValue$Order" "LESS" "Lcom/example/assessor/assessor/datatypes/AtomicValue$Order;" (.ref wL)) (E_LESS : Exa Z h0 wL "com/example/assessor/assessor/datatypes/AtomicValue$Order") (F_LESS : Fld Z h0 wL "java/lang/Enum" "ordinal" "I" (.int (0 : Int32))) (S_EQUAL : Sta Z h0 "com/example/assessor/assessor/datatypes/AtomicValue$Order" "EQUAL" "Lcom/example/assessor/assessor/datatypes/AtomicValue$Order;" (.ref wE)) (E_EQUAL : Exa Z h0 wE "com/example/assessor/assessor/datatypes/AtomicValue$Order") (F_EQUAL : Fld Z h0 wE "java/lang/Enum" "ordinal" "I" (.int (1 : Int32))) (S_GREATER : Sta Z h0 "com/example/assessor/assessor/datatypes/AtomicValue$Order" "GREATER" "Lcom/example/assessor/assessor/datatypes/AtomicValue$Order;" (.ref wG)) (E_GREATER : Exa Z h0 wG "com/example/assessor/assessor/datatypes/AtomicValue$Order") (F_GREATER : Fld Z h0 wG "java/lang/Enum" "ordinal" "I" (.int (2 : Int32))) (S_INCOMPARABLE : Sta Z h0 "com/example/assessor/assessor/datatypes/AtomicValue$Order" "INCOMPARABLE" "Lcom/example/assessor/assessor/datatypes/AtomicValue$Order;" (.ref wI)) (E_INCOMPARABLE : Exa Z h0 wI "com/example/assessor/assessor/datatypes/AtomicValue$Order") (F_INCOMPARABLE : Fld Z h0 wI "java/lang/Enum" "ordinal" "I" (.int (3 : Int32))) (hc90 : ¬ (p2 < p1)) (hc136 : ¬ (p1 = (-2147483648 : Int32))) :
    MetFree l x (head1 (Jvm.Cond.code x code maxLocals ret :: ws) room_1) (fun a U => a = #[(.int p1), (.int p2)] ∧ Z.Warmed39 U.vm ∧ U.heap = h0) (fun _ _ _ _ _ => True) (fun _ U o U' => ∃ v L, o = .returned v ∧ Q0 Z h0 n0 v U'.heap L ∧ FrameEnd U o U' L room_1.cells room_1.slots) := by
  have hc78 : ¬ ((1 : Int32) = (0 : Int32)) := by decide
  have hc83 : ¬ ((1 : Int32) = (0 : Int32)) := by decide
  have hc174 : ¬ ((1 : Int32) = (0 : Int32)) := by decide
  have hc179 : ¬ ((1 : Int32) = (0 : Int32)) := by decide
  have ha17 : (own_of (-1 : Int32) wL wE wG) = wL := own_ofL (by decide) wL wE wG
  have ha27 : (own_of (0 : Int32) wL wE wG) = wE := own_ofE (by decide) (by decide) wL wE wG
  have ha37 : (own_of (1 : Int32) wL wE wG) = wG := own_ofG (by decide) (by decide) wL wE wG
  have ha59 : ¬ ((own_of p1 wL wE wG) = wI) := own_fne (own_F p1 F_LESS F_EQUAL F_GREATER) F_INCOMPARABLE (own_ord3 p1)
  have ha66 : ¬ ((own_of p2 wL wE wG) = wI) := own_fne (own_F p2 F_LESS F_EQUAL F_GREATER) F_INCOMPARABLE (own_ord3 p2)
  refine MetFree.of_bodySF (plainFor_of_name pn_0) hisR ?_
  intro p e s m args below meth c s₁ Bd hml0 hP hK
  obtain ⟨rfl, hZ, hh⟩ := hP
  have hx := Bd.exec
  have hby := Bd.bytes
  have hml : c.maxLocals = 9 := hml0
  have hown : s.vm.findClass "com/example/assessor/assessor/datatypes/OrderOfPinLaw" = some m.cls := findClass_of_methodNamed Bd.named
  have hnm := (name_of_methodNamed Bd.named Bd.method).1
  have X0 : Stand p l e room_1 s m #[(.int p1), (.int p2)] below meth c s₁ [] 0 0 := Stand.of_body Bd
  have e0 : s₁.heap = h0 := by rw [← hh, Bd.state]; rfl
  have N0 := Fr.nil n0
  have pre0 : ∀ t, Steps p.tables e below (s₁.setTop (mkF m 0 #[.val (.int p1), .val (.int p2), .unset, .unset, .unset, .unset, .unset, .unset, .unset] [])) t → Steps p.tables e below (s₁.setTop (entryFrame m #[(.int p1), (.int p2)] maxLocals)) t := fun t k => castTop (ef_0 m p1 p2) k
  obtain ⟨_, _, ⟨T3, L3, k3, n3⟩, -, X3, ⟨Lc3, hQ3, l3, y3, z3⟩, st3⟩ := Jvm.LawKit.callS X0 hx (y := (⟨"com/example/assessor/assessor/datatypes/AtomicValue$Order", "of", "(I)Lcom/example/assessor/assessor/datatypes/AtomicValue$Order;"⟩ : MethodName)) hown (mvT hZ (hw _ (List.mem_of_getElem? (i := 0) rfl))) (mvT hZ (hw _ (List.mem_of_getElem? (i := 1) rfl))) (mvT hZ (hw _ (List.mem_of_getElem? (i := 2) rfl))) (mvT hZ (hw _ (List.mem_of_getElem? (i := 3) rfl))) (by decide) (backOf (W := 0) (rm1 l Z a0 hw [] p1 wL wE wG h0 n0 Z0 S_LESS S_EQUAL S_GREATER) hZ (hw _ (List.mem_of_getElem? (i := 3) rfl)) (hw _ (List.mem_of_getElem? (i := 2) rfl)) (by decide) (by decide)) (g := (mkF m 1 #[.val (.int p1), .val (.int p2), .unset, .unset, .unset, .unset, .unset, .unset, .unset] [(.int p1)])) rfl (by rw [hml]; rfl) (argsL := [(.int p1)]) (rest := []) (lenOf pd_0_0 rfl) rfl (by show 2 * 0 + _ ≤ _; exact Nat.le_of_eq rfl) (hb hby at_1) (fun _ _ => ⟨rfl, e0, (by decide : 0 + 0 ≤ _), (by decide : 0 + 0 ≤ _)⟩)
  dsimp only [Pt.U, Pt.locs, Pt.cells, Pt.slots] at X3 l3 y3 z3 st3 hQ3
  subst l3 y3 z3
  obtain ⟨rfl, N3q, q3e⟩ := hQ3
  have N3 := Fr.app N0 N3q
  obtain ⟨_, _, ⟨T4, L4, k4, n4⟩, -, X4, ⟨Lc4, hQ4, l4, y4, z4⟩, st4⟩ := Jvm.LawKit.callS X3 hx (y := (⟨"com/example/assessor/assessor/datatypes/AtomicValue$Order", "of", "(I)Lcom/example/assessor/assessor/datatypes/AtomicValue$Order;"⟩ : MethodName)) hown (mvT hZ (hw _ (List.mem_of_getElem? (i := 0) rfl))) (mvT hZ (hw _ (List.mem_of_getElem? (i := 1) rfl))) (mvT hZ (hw _ (List.mem_of_getElem? (i := 2) rfl))) (mvT hZ (hw _ (List.mem_of_getElem? (i := 3) rfl))) (by decide) (backOf (W := 0) (rm1 l Z a0 hw [] p2 wL wE wG h0 n0 Z0 S_LESS S_EQUAL S_GREATER) hZ (hw _ (List.mem_of_getElem? (i := 3) rfl)) (hw _ (List.mem_of_getElem? (i := 2) rfl)) (by decide) (by decide)) (g := (mkF m 6 #[.val (.int p1), .val (.int p2), .val (.ref (own_of p1 wL wE wG)), .unset, .unset, .unset, .unset, .unset, .unset] [(.int p2)])) rfl (by rw [hml]; rfl) (argsL := [(.int p2)]) (rest := []) (lenOf pd_0_0 rfl) rfl (by show 2 * 0 + _ ≤ _; exact Nat.le_of_eq rfl) (hb hby at_6) (fun _ _ => ⟨rfl, q3e, (by decide : 0 + 0 ≤ _), (by decide : 0 + 0 ≤ _)⟩)
  dsimp only [Pt.U, Pt.locs, Pt.cells, Pt.slots] at X4 l4 y4 z4 st4 hQ4
  subst l4 y4 z4
  obtain ⟨rfl, N4q, q4e⟩ := hQ4
  have N4 := Fr.app N3 N4q
  obtain ⟨_, _, ⟨T5, L5, k5, n5⟩, -, X5, ⟨Lc5, hQ5, l5, y5, z5⟩, st5⟩ := Jvm.LawKit.callS X4 hx (y := (⟨"com/example/assessor/assessor/datatypes/AtomicValue$Order", "of", "(I)Lcom/example/assessor/assessor/datatypes/AtomicValue$Order;"⟩ : MethodName)) hown (mvT hZ (hw _ (List.mem_of_getElem? (i := 0) rfl))) (mvT hZ (hw _ (List.mem_of_getElem? (i := 1) rfl))) (mvT hZ (hw _ (List.mem_of_getElem? (i := 2) rfl))) (mvT hZ (hw _ (List.mem_of_getElem? (i := 3) rfl))) (by decide) (backOf (W := 0) (rm1 l Z a0 hw [] (-1 : Int32) wL wE wG h0 n0 Z0 S_LESS S_EQUAL S_GREATER) hZ (hw _ (List.mem_of_getElem? (i := 3) rfl)) (hw _ (List.mem_of_getElem? (i := 2) rfl)) (by decide) (by decide)) (g := (mkF m 11 #[.val (.int p1), .val (.int p2), .val (.ref (own_of p1 wL wE wG)), .val (.ref (own_of p2 wL wE wG)), .unset, .unset, .unset, .unset, .unset] [(.int (-1 : Int32))])) rfl (by rw [hml]; rfl) (argsL := [(.int (-1 : Int32))]) (rest := []) (lenOf pd_0_0 rfl) rfl (by show 2 * 0 + _ ≤ _; exact Nat.le_of_eq rfl) (hb hby at_11) (fun _ _ => ⟨rfl, q4e, (by decide : 0 + 0 ≤ _), (by decide : 0 + 0 ≤ _)⟩)
  dsimp only [Pt.U, Pt.locs, Pt.cells, Pt.slots] at X5 l5 y5 z5 st5 hQ5
  subst l5 y5 z5
  obtain ⟨rfl, N5q, q5e⟩ := hQ5
  have N5 := Fr.app N4 N5q
  obtain ⟨T7, X7, e7, st7⟩ := getS2 X5 hx hZ hown (host := "") (Or.inl (hw _ (List.mem_of_getElem? (i := 10) rfl))) Via.refl q5e S_LESS (g := (mkF m 14 #[.val (.int p1), .val (.int p2), .val (.ref (own_of p1 wL wE wG)), .val (.ref (own_of p2 wL wE wG)), .unset, .unset, .unset, .unset, .unset] [(.ref (own_of (-1 : Int32) wL wE wG))])) rfl (hb hby at_14)
  obtain ⟨_, _, ⟨T8, L8, k8, n8⟩, -, X8, ⟨Lc8, hQ8, l8, y8, z8⟩, st8⟩ := Jvm.LawKit.callS X7 hx (y := (⟨"com/example/assessor/assessor/datatypes/AtomicValue$Order", "of", "(I)Lcom/example/assessor/assessor/datatypes/AtomicValue$Order;"⟩ : MethodName)) hown (mvT hZ (hw _ (List.mem_of_getElem? (i := 0) rfl))) (mvT hZ (hw _ (List.mem_of_getElem? (i := 1) rfl))) (mvT hZ (hw _ (List.mem_of_getElem? (i := 2) rfl))) (mvT hZ (hw _ (List.mem_of_getElem? (i := 3) rfl))) (by decide) (backOf (W := 0) (rm1 l Z a0 hw [] (0 : Int32) wL wE wG h0 n0 Z0 S_LESS S_EQUAL S_GREATER) hZ (hw _ (List.mem_of_getElem? (i := 3) rfl)) (hw _ (List.mem_of_getElem? (i := 2) rfl)) (by decide) (by decide)) (g := (mkF m 21 #[.val (.int p1), .val (.int p2), .val (.ref (own_of p1 wL wE wG)), .val (.ref (own_of p2 wL wE wG)), .unset, .unset, .unset, .unset, .unset] [(.int (0 : Int32))])) rfl (by rw [hml]; rfl) (argsL := [(.int (0 : Int32))]) (rest := []) (lenOf pd_0_0 rfl) rfl (by show 2 * 0 + _ ≤ _; exact Nat.le_of_eq rfl) (hb hby at_21) (fun _ _ => ⟨rfl, e7, (by decide : 0 + 0 ≤ _), (by decide : 0 + 0 ≤ _)⟩)
  dsimp only [Pt.U, Pt.locs, Pt.cells, Pt.slots] at X8 l8 y8 z8 st8 hQ8
  subst l8 y8 z8
  obtain ⟨rfl, N8q, q8e⟩ := hQ8
  have N8 := Fr.app N5 N8q
  obtain ⟨T10, X10, e10, st10⟩ := getS2 X8 hx hZ hown (host := "") (Or.inl (hw _ (List.mem_of_getElem? (i := 11) rfl))) Via.refl q8e S_EQUAL (g := (mkF m 24 #[.val (.int p1), .val (.int p2), .val (.ref (own_of p1 wL wE wG)), .val (.ref (own_of p2 wL wE wG)), .unset, .unset, .unset, .unset, .unset] [(.ref (own_of (0 : Int32) wL wE wG))])) rfl (hb hby at_24)
  obtain ⟨_, _, ⟨T11, L11, k11, n11⟩, -, X11, ⟨Lc11, hQ11, l11, y11, z11⟩, st11⟩ := Jvm.LawKit.callS X10 hx (y := (⟨"com/example/assessor/assessor/datatypes/AtomicValue$Order", "of", "(I)Lcom/example/assessor/assessor/datatypes/AtomicValue$Order;"⟩ : MethodName)) hown (mvT hZ (hw _ (List.mem_of_getElem? (i := 0) rfl))) (mvT hZ (hw _ (List.mem_of_getElem? (i := 1) rfl))) (mvT hZ (hw _ (List.mem_of_getElem? (i := 2) rfl))) (mvT hZ (hw _ (List.mem_of_getElem? (i := 3) rfl))) (by decide) (backOf (W := 0) (rm1 l Z a0 hw [] (1 : Int32) wL wE wG h0 n0 Z0 S_LESS S_EQUAL S_GREATER) hZ (hw _ (List.mem_of_getElem? (i := 3) rfl)) (hw _ (List.mem_of_getElem? (i := 2) rfl)) (by decide) (by decide)) (g := (mkF m 31 #[.val (.int p1), .val (.int p2), .val (.ref (own_of p1 wL wE wG)), .val (.ref (own_of p2 wL wE wG)), .unset, .unset, .unset, .unset, .unset] [(.int (1 : Int32))])) rfl (by rw [hml]; rfl) (argsL := [(.int (1 : Int32))]) (rest := []) (lenOf pd_0_0 rfl) rfl (by show 2 * 0 + _ ≤ _; exact Nat.le_of_eq rfl) (hb hby at_31) (fun _ _ => ⟨rfl, e10, (by decide : 0 + 0 ≤ _), (by decide : 0 + 0 ≤ _)⟩)
  dsimp only [Pt.U, Pt.locs, Pt.cells, Pt.slots] at X11 l11 y11 z11 st11 hQ11
  subst l11 y11 z11
  obtain ⟨rfl, N11q, q11e⟩ := hQ11
  have N11 := Fr.app N8 N11q
  obtain ⟨T13, X13, e13, st13⟩ := getS2 X11 hx hZ hown (host := "") (Or.inl (hw _ (List.mem_of_getElem? (i := 12) rfl))) Via.refl q11e S_GREATER (g := (mkF m 34 #[.val (.int p1), .val (.int p2), .val (.ref (own_of p1 wL wE wG)), .val (.ref (own_of p2 wL wE wG)), .unset, .unset, .unset, .unset, .unset] [(.ref (own_of (1 : Int32) wL wE wG))])) rfl (hb hby at_34)
  obtain ⟨T15, X15, e15, st15⟩ := getS2 X13 hx hZ hown (host := "") (Or.inl (hw _ (List.mem_of_getElem? (i := 13) rfl))) Via.refl e13 S_INCOMPARABLE (g := (mkF m 56 #[.val (.int p1), .val (.int p2), .val (.ref (own_of p1 wL wE wG)), .val (.ref (own_of p2 wL wE wG)), .val (.int (1 : Int32)), .unset, .unset, .unset, .unset] [(.ref (own_of p1 wL wE wG))])) rfl (hb hby at_56)
  obtain ⟨T16, X16, e16, st16⟩ := getS2 X15 hx hZ hown (host := "") (Or.inl (hw _ (List.mem_of_getElem? (i := 13) rfl))) Via.refl e15 S_INCOMPARABLE (g := (mkF m 63 #[.val (.int p1), .val (.int p2), .val (.ref (own_of p1 wL wE wG)), .val (.ref (own_of p2 wL wE wG)), .val (.int (1 : Int32)), .unset, .unset, .unset, .unset] [(.ref (own_of p2 wL wE wG))])) rfl (hb hby at_63)
  obtain ⟨cq17, kq17, q17a, q17b, q17c⟩ := isOf hZ e16 (own_E p1 E_LESS E_EQUAL E_GREATER)
  obtain ⟨_, _, ⟨T17, L17, k17, n17⟩, -, X17, ⟨Lc17, hQ17, l17, y17, z17⟩, st17⟩ := X16.virtualBackUp hx (x := (⟨"com/example/assessor/assessor/datatypes/AtomicValue$Order", "ordinal", "()I"⟩ : MethodName)) (y := (⟨"java/lang/Enum", "ordinal", "()I"⟩ : MethodName)) hown (mvT hZ (hw _ (List.mem_of_getElem? (i := 15) rfl))) (mvT hZ (hw _ (List.mem_of_getElem? (i := 16) rfl))) (mvT hZ (hw _ (List.mem_of_getElem? (i := 17) rfl))) (by decide) (mvT hZ (hw _ (List.mem_of_getElem? (i := 19) rfl))) (mvT hZ (hw _ (List.mem_of_getElem? (i := 18) rfl))) (backOf (W := 0) (rm2 l Z a0 hw [] (own_of p1 wL wE wG) (own_ord p1) h0 n0 Z0 (own_F p1 F_LESS F_EQUAL F_GREATER)) hZ (hw _ (List.mem_of_getElem? (i := 21) rfl)) (hw _ (List.mem_of_getElem? (i := 20) rfl)) (by decide) (by decide)) q17a q17c (g := (mkF m 94 #[.val (.int p1), .val (.int p2), .val (.ref (own_of p1 wL wE wG)), .val (.ref (own_of p2 wL wE wG)), .val (.int (1 : Int32)), .val (.int (1 : Int32)), .unset, .unset, .unset] [(.ref (own_of p1 wL wE wG))])) rfl (by rw [hml]; rfl) (Steps.refl _) (argsL := []) (rest := []) (lenOf pd_0_1 rfl) rfl (by show 2 * 0 + _ ≤ _; exact Nat.le_of_eq rfl) (hb hby at_94) (fun _ _ => ⟨rfl, e16, (by decide : 0 + 0 ≤ _), (by decide : 0 + 0 ≤ _)⟩)
  dsimp only [Pt.U, Pt.locs, Pt.cells, Pt.slots] at X17 l17 y17 z17 st17 hQ17
  subst l17 y17 z17
  obtain ⟨rfl, N17q, q17e⟩ := hQ17
  have N17 := Fr.app N11 N17q
  obtain ⟨cq18, kq18, q18a, q18b, q18c⟩ := isOf hZ q17e (own_E p2 E_LESS E_EQUAL E_GREATER)
  obtain ⟨_, _, ⟨T18, L18, k18, n18⟩, -, X18, ⟨Lc18, hQ18, l18, y18, z18⟩, st18⟩ := X17.virtualBackUp hx (x := (⟨"com/example/assessor/assessor/datatypes/AtomicValue$Order", "ordinal", "()I"⟩ : MethodName)) (y := (⟨"java/lang/Enum", "ordinal", "()I"⟩ : MethodName)) hown (mvT hZ (hw _ (List.mem_of_getElem? (i := 15) rfl))) (mvT hZ (hw _ (List.mem_of_getElem? (i := 16) rfl))) (mvT hZ (hw _ (List.mem_of_getElem? (i := 17) rfl))) (by decide) (mvT hZ (hw _ (List.mem_of_getElem? (i := 19) rfl))) (mvT hZ (hw _ (List.mem_of_getElem? (i := 18) rfl))) (backOf (W := 1) (rm2 l Z a0 hw [] (own_of p2 wL wE wG) (own_ord p2) h0 n0 Z0 (own_F p2 F_LESS F_EQUAL F_GREATER)) hZ (hw _ (List.mem_of_getElem? (i := 21) rfl)) (hw _ (List.mem_of_getElem? (i := 20) rfl)) (by decide) (by decide)) q18a q18c (g := (mkF m 98 #[.val (.int p1), .val (.int p2), .val (.ref (own_of p1 wL wE wG)), .val (.ref (own_of p2 wL wE wG)), .val (.int (1 : Int32)), .val (.int (1 : Int32)), .unset, .unset, .unset] [(.ref (own_of p2 wL wE wG)), (.int (own_ord p1))])) rfl (by rw [hml]; rfl) (Steps.refl _) (argsL := []) (rest := [(.int (own_ord p1))]) (lenOf pd_0_1 rfl) rfl (by show 2 * 0 + _ ≤ _; exact Nat.le_of_eq rfl) (hb hby at_98) (fun _ _ => ⟨rfl, q17e, (by decide : 0 + 0 ≤ _), (by decide : 0 + 0 ≤ _)⟩)
  dsimp only [Pt.U, Pt.locs, Pt.cells, Pt.slots] at X18 l18 y18 z18 st18 hQ18
  subst l18 y18 z18
  obtain ⟨rfl, N18q, q18e⟩ := hQ18
  have N18 := Fr.app N17 N18q
  obtain ⟨_, _, ⟨T19, L19, k19, n19⟩, -, X19, ⟨Lc19, hQ19, l19, y19, z19⟩, st19⟩ := Jvm.LawKit.callS X18 hx (y := (⟨"com/example/assessor/assessor/datatypes/AtomicValue$Order", "of", "(I)Lcom/example/assessor/assessor/datatypes/AtomicValue$Order;"⟩ : MethodName)) hown (mvT hZ (hw _ (List.mem_of_getElem? (i := 0) rfl))) (mvT hZ (hw _ (List.mem_of_getElem? (i := 1) rfl))) (mvT hZ (hw _ (List.mem_of_getElem? (i := 2) rfl))) (mvT hZ (hw _ (List.mem_of_getElem? (i := 3) rfl))) (by decide) (backOf (W := 0) (rm1 l Z a0 hw [] (-p1) wL wE wG h0 n0 Z0 S_LESS S_EQUAL S_GREATER) hZ (hw _ (List.mem_of_getElem? (i := 3) rfl)) (hw _ (List.mem_of_getElem? (i := 2) rfl)) (by decide) (by decide)) (g := (mkF m 141 #[.val (.int p1), .val (.int p2), .val (.ref (own_of p1 wL wE wG)), .val (.ref (own_of p2 wL wE wG)), .val (.int (1 : Int32)), .val (.int (1 : Int32)), .val (.int (1 : Int32)), .val (.int (1 : Int32)), .unset] [(.int (-p1))])) rfl (by rw [hml]; rfl) (argsL := [(.int (-p1))]) (rest := []) (lenOf pd_0_0 rfl) rfl (by show 2 * 0 + _ ≤ _; exact Nat.le_of_eq rfl) (hb hby at_141) (fun _ _ => ⟨rfl, q18e, (by decide : 0 + 0 ≤ _), (by decide : 0 + 0 ≤ _)⟩)
  dsimp only [Pt.U, Pt.locs, Pt.cells, Pt.slots] at X19 l19 y19 z19 st19 hQ19
  subst l19 y19 z19
  obtain ⟨rfl, N19q, q19e⟩ := hQ19
  have N19 := Fr.app N18 N19q
  obtain ⟨cq20, kq20, q20a, q20b, q20c⟩ := isOf hZ q19e (own_E (-p1) E_LESS E_EQUAL E_GREATER)
  obtain ⟨_, _, ⟨T20, L20, k20, n20⟩, -, X20, ⟨Lc20, hQ20, l20, y20, z20⟩, st20⟩ := X19.virtualBackUp hx (x := (⟨"com/example/assessor/assessor/datatypes/AtomicValue$Order", "ordinal", "()I"⟩ : MethodName)) (y := (⟨"java/lang/Enum", "ordinal", "()I"⟩ : MethodName)) hown (mvT hZ (hw _ (List.mem_of_getElem? (i := 15) rfl))) (mvT hZ (hw _ (List.mem_of_getElem? (i := 16) rfl))) (mvT hZ (hw _ (List.mem_of_getElem? (i := 17) rfl))) (by decide) (mvT hZ (hw _ (List.mem_of_getElem? (i := 19) rfl))) (mvT hZ (hw _ (List.mem_of_getElem? (i := 18) rfl))) (backOf (W := 0) (rm2 l Z a0 hw [] (own_of (-p1) wL wE wG) (own_ord (-p1)) h0 n0 Z0 (own_F (-p1) F_LESS F_EQUAL F_GREATER)) hZ (hw _ (List.mem_of_getElem? (i := 21) rfl)) (hw _ (List.mem_of_getElem? (i := 20) rfl)) (by decide) (by decide)) q20a q20c (g := (mkF m 153 #[.val (.int p1), .val (.int p2), .val (.ref (own_of p1 wL wE wG)), .val (.ref (own_of p2 wL wE wG)), .val (.int (1 : Int32)), .val (.int (1 : Int32)), .val (.int (1 : Int32)), .val (.int (1 : Int32)), .val (.ref (own_of (-p1) wL wE wG))] [(.ref (own_of (-p1) wL wE wG))])) rfl (by rw [hml]; rfl) (Steps.refl _) (argsL := []) (rest := []) (lenOf pd_0_1 rfl) rfl (by show 2 * 0 + _ ≤ _; exact Nat.le_of_eq rfl) (hb hby at_153) (fun _ _ => ⟨rfl, q19e, (by decide : 0 + 0 ≤ _), (by decide : 0 + 0 ≤ _)⟩)
  dsimp only [Pt.U, Pt.locs, Pt.cells, Pt.slots] at X20 l20 y20 z20 st20 hQ20
  subst l20 y20 z20
  obtain ⟨rfl, N20q, q20e⟩ := hQ20
  have N20 := Fr.app N19 N20q
  obtain ⟨cq21, kq21, q21a, q21b, q21c⟩ := isOf hZ q20e (own_E p1 E_LESS E_EQUAL E_GREATER)
  obtain ⟨_, _, ⟨T21, L21, k21, n21⟩, -, X21, ⟨Lc21, hQ21, l21, y21, z21⟩, st21⟩ := X20.virtualBackUp hx (x := (⟨"com/example/assessor/assessor/datatypes/AtomicValue$Order", "ordinal", "()I"⟩ : MethodName)) (y := (⟨"java/lang/Enum", "ordinal", "()I"⟩ : MethodName)) hown (mvT hZ (hw _ (List.mem_of_getElem? (i := 15) rfl))) (mvT hZ (hw _ (List.mem_of_getElem? (i := 16) rfl))) (mvT hZ (hw _ (List.mem_of_getElem? (i := 17) rfl))) (by decide) (mvT hZ (hw _ (List.mem_of_getElem? (i := 19) rfl))) (mvT hZ (hw _ (List.mem_of_getElem? (i := 18) rfl))) (backOf (W := 2) (rm2 l Z a0 hw [] (own_of p1 wL wE wG) (own_ord p1) h0 n0 Z0 (own_F p1 F_LESS F_EQUAL F_GREATER)) hZ (hw _ (List.mem_of_getElem? (i := 21) rfl)) (hw _ (List.mem_of_getElem? (i := 20) rfl)) (by decide) (by decide)) q21a q21c (g := (mkF m 158 #[.val (.int p1), .val (.int p2), .val (.ref (own_of p1 wL wE wG)), .val (.ref (own_of p2 wL wE wG)), .val (.int (1 : Int32)), .val (.int (1 : Int32)), .val (.int (1 : Int32)), .val (.int (1 : Int32)), .val (.ref (own_of (-p1) wL wE wG))] [(.ref (own_of p1 wL wE wG)), (.int (2 : Int32)), (.int (own_ord (-p1)))])) rfl (by rw [hml]; rfl) (Steps.refl _) (argsL := []) (rest := [(.int (2 : Int32)), (.int (own_ord (-p1)))]) (lenOf pd_0_1 rfl) rfl (by show 2 * 0 + _ ≤ _; exact Nat.le_of_eq rfl) (hb hby at_158) (fun _ _ => ⟨rfl, q20e, (by decide : 0 + 0 ≤ _), (by decide : 0 + 0 ≤ _)⟩)
  dsimp only [Pt.U, Pt.locs, Pt.cells, Pt.slots] at X21 l21 y21 z21 st21 hQ21
  subst l21 y21 z21
  obtain ⟨rfl, N21q, q21e⟩ := hQ21
  have N21 := Fr.app N20 N21q
  obtain ⟨fs, hr, hrun, hended, hW, hsame⟩ := X21.leave (v := some (.int (1 : Int32))) (fun h => by rw [Bd.returns] at h; cases h)
  refine ⟨_, _, pre0 _ ?_, hrun, hended, _, _, rfl, ?_, ⟨_, rfl⟩, hW, hsame.mono (by decide) (by decide)⟩
  · show Steps p.tables e below (s₁.setTop (mkF m 0 #[.val (.int p1), .val (.int p2), .unset, .unset, .unset, .unset, .unset, .unset, .unset] [])) _
    refine XS.iloadN X0.here hx rfl (hb hby at_0) rfl ?_
    show Steps p.tables e below (s₁.setTop (mkF m 1 #[.val (.int p1), .val (.int p2), .unset, .unset, .unset, .unset, .unset, .unset, .unset] [(.int p1)])) _
    refine st3 _ ?_
    show Steps p.tables e below (T3.setTop (mkF m 4 #[.val (.int p1), .val (.int p2), .unset, .unset, .unset, .unset, .unset, .unset, .unset] [(.ref (own_of p1 wL wE wG))])) _
    refine XS.astoreN X3.here hx rfl (hb hby at_4) rfl rfl (l' := #[.val (.int p1), .val (.int p2), .val (.ref (own_of p1 wL wE wG)), .unset, .unset, .unset, .unset, .unset, .unset]) rfl ?_
    show Steps p.tables e below (T3.setTop (mkF m 5 #[.val (.int p1), .val (.int p2), .val (.ref (own_of p1 wL wE wG)), .unset, .unset, .unset, .unset, .unset, .unset] [])) _
    refine XS.iloadN X3.here hx rfl (hb hby at_5) rfl ?_
    show Steps p.tables e below (T3.setTop (mkF m 6 #[.val (.int p1), .val (.int p2), .val (.ref (own_of p1 wL wE wG)), .unset, .unset, .unset, .unset, .unset, .unset] [(.int p2)])) _
    refine st4 _ ?_
    show Steps p.tables e below (T4.setTop (mkF m 9 #[.val (.int p1), .val (.int p2), .val (.ref (own_of p1 wL wE wG)), .unset, .unset, .unset, .unset, .unset, .unset] [(.ref (own_of p2 wL wE wG))])) _
    refine XS.astoreN X4.here hx rfl (hb hby at_9) rfl rfl (l' := #[.val (.int p1), .val (.int p2), .val (.ref (own_of p1 wL wE wG)), .val (.ref (own_of p2 wL wE wG)), .unset, .unset, .unset, .unset, .unset]) rfl ?_
    show Steps p.tables e below (T4.setTop (mkF m 10 #[.val (.int p1), .val (.int p2), .val (.ref (own_of p1 wL wE wG)), .val (.ref (own_of p2 wL wE wG)), .unset, .unset, .unset, .unset, .unset] [])) _
    refine XS.iconst X4.here hx rfl (hb hby at_10) ?_
    show Steps p.tables e below (T4.setTop (mkF m 11 #[.val (.int p1), .val (.int p2), .val (.ref (own_of p1 wL wE wG)), .val (.ref (own_of p2 wL wE wG)), .unset, .unset, .unset, .unset, .unset] [(.int (-1 : Int32))])) _
    refine st5 _ ?_
    show Steps p.tables e below (T5.setTop (mkF m 14 #[.val (.int p1), .val (.int p2), .val (.ref (own_of p1 wL wE wG)), .val (.ref (own_of p2 wL wE wG)), .unset, .unset, .unset, .unset, .unset] [(.ref (own_of (-1 : Int32) wL wE wG))])) _
    refine st7 _ ?_
    show Steps p.tables e below (T7.setTop (mkF m 17 #[.val (.int p1), .val (.int p2), .val (.ref (own_of p1 wL wE wG)), .val (.ref (own_of p2 wL wE wG)), .unset, .unset, .unset, .unset, .unset] [(.ref wL), (.ref (own_of (-1 : Int32) wL wE wG))])) _
    refine Jvm.RoadKit.acmp (g := (mkF m 17 #[.val (.int p1), .val (.int p2), .val (.ref (own_of p1 wL wE wG)), .val (.ref (own_of p2 wL wE wG)), .unset, .unset, .unset, .unset, .unset] [(.ref wL), (.ref (own_of (-1 : Int32) wL wE wG))])) X7 hx rfl rfl rfl (pc0 := 17) (pc' := 20) (same := true) rfl (hb hby at_17) rfl (decide_eq_true (congrArg Value.ref ha17)) (by decide) (by decide) ?_
    show Steps p.tables e below (T7.setTop (mkF m 20 #[.val (.int p1), .val (.int p2), .val (.ref (own_of p1 wL wE wG)), .val (.ref (own_of p2 wL wE wG)), .unset, .unset, .unset, .unset, .unset] [])) _
    refine XS.iconst X7.here hx rfl (hb hby at_20) ?_
    show Steps p.tables e below (T7.setTop (mkF m 21 #[.val (.int p1), .val (.int p2), .val (.ref (own_of p1 wL wE wG)), .val (.ref (own_of p2 wL wE wG)), .unset, .unset, .unset, .unset, .unset] [(.int (0 : Int32))])) _
    refine st8 _ ?_
    show Steps p.tables e below (T8.setTop (mkF m 24 #[.val (.int p1), .val (.int p2), .val (.ref (own_of p1 wL wE wG)), .val (.ref (own_of p2 wL wE wG)), .unset, .unset, .unset, .unset, .unset] [(.ref (own_of (0 : Int32) wL wE wG))])) _
    refine st10 _ ?_
    show Steps p.tables e below (T10.setTop (mkF m 27 #[.val (.int p1), .val (.int p2), .val (.ref (own_of p1 wL wE wG)), .val (.ref (own_of p2 wL wE wG)), .unset, .unset, .unset, .unset, .unset] [(.ref wE), (.ref (own_of (0 : Int32) wL wE wG))])) _
    refine Jvm.RoadKit.acmp (g := (mkF m 27 #[.val (.int p1), .val (.int p2), .val (.ref (own_of p1 wL wE wG)), .val (.ref (own_of p2 wL wE wG)), .unset, .unset, .unset, .unset, .unset] [(.ref wE), (.ref (own_of (0 : Int32) wL wE wG))])) X10 hx rfl rfl rfl (pc0 := 27) (pc' := 30) (same := true) rfl (hb hby at_27) rfl (decide_eq_true (congrArg Value.ref ha27)) (by decide) (by decide) ?_
    show Steps p.tables e below (T10.setTop (mkF m 30 #[.val (.int p1), .val (.int p2), .val (.ref (own_of p1 wL wE wG)), .val (.ref (own_of p2 wL wE wG)), .unset, .unset, .unset, .unset, .unset] [])) _
    refine XS.iconst X10.here hx rfl (hb hby at_30) ?_
    show Steps p.tables e below (T10.setTop (mkF m 31 #[.val (.int p1), .val (.int p2), .val (.ref (own_of p1 wL wE wG)), .val (.ref (own_of p2 wL wE wG)), .unset, .unset, .unset, .unset, .unset] [(.int (1 : Int32))])) _
    refine st11 _ ?_
    show Steps p.tables e below (T11.setTop (mkF m 34 #[.val (.int p1), .val (.int p2), .val (.ref (own_of p1 wL wE wG)), .val (.ref (own_of p2 wL wE wG)), .unset, .unset, .unset, .unset, .unset] [(.ref (own_of (1 : Int32) wL wE wG))])) _
    refine st13 _ ?_
    show Steps p.tables e below (T13.setTop (mkF m 37 #[.val (.int p1), .val (.int p2), .val (.ref (own_of p1 wL wE wG)), .val (.ref (own_of p2 wL wE wG)), .unset, .unset, .unset, .unset, .unset] [(.ref wG), (.ref (own_of (1 : Int32) wL wE wG))])) _
    refine Jvm.RoadKit.acmp (g := (mkF m 37 #[.val (.int p1), .val (.int p2), .val (.ref (own_of p1 wL wE wG)), .val (.ref (own_of p2 wL wE wG)), .unset, .unset, .unset, .unset, .unset] [(.ref wG), (.ref (own_of (1 : Int32) wL wE wG))])) X13 hx rfl rfl rfl (pc0 := 37) (pc' := 40) (same := true) rfl (hb hby at_37) rfl (decide_eq_true (congrArg Value.ref ha37)) (by decide) (by decide) ?_
    show Steps p.tables e below (T13.setTop (mkF m 40 #[.val (.int p1), .val (.int p2), .val (.ref (own_of p1 wL wE wG)), .val (.ref (own_of p2 wL wE wG)), .unset, .unset, .unset, .unset, .unset] [])) _
    refine XS.iconst X13.here hx rfl (hb hby at_40) ?_
    show Steps p.tables e below (T13.setTop (mkF m 41 #[.val (.int p1), .val (.int p2), .val (.ref (own_of p1 wL wE wG)), .val (.ref (own_of p2 wL wE wG)), .unset, .unset, .unset, .unset, .unset] [(.int (1 : Int32))])) _
    refine XS.goto X13.here hx rfl (pc0 := 41) (pc' := 45) rfl (hb hby at_41) (by decide) (by decide) ?_
    show Steps p.tables e below (T13.setTop (mkF m 45 #[.val (.int p1), .val (.int p2), .val (.ref (own_of p1 wL wE wG)), .val (.ref (own_of p2 wL wE wG)), .unset, .unset, .unset, .unset, .unset] [(.int (1 : Int32))])) _
    refine XS.istore X13.here hx rfl (hb hby at_45) rfl (l' := #[.val (.int p1), .val (.int p2), .val (.ref (own_of p1 wL wE wG)), .val (.ref (own_of p2 wL wE wG)), .val (.int (1 : Int32)), .unset, .unset, .unset, .unset]) rfl ?_
    show Steps p.tables e below (T13.setTop (mkF m 47 #[.val (.int p1), .val (.int p2), .val (.ref (own_of p1 wL wE wG)), .val (.ref (own_of p2 wL wE wG)), .val (.int (1 : Int32)), .unset, .unset, .unset, .unset] [])) _
    refine XS.aloadN X13.here hx rfl (hb hby at_47) rfl rfl ?_
    show Steps p.tables e below (T13.setTop (mkF m 48 #[.val (.int p1), .val (.int p2), .val (.ref (own_of p1 wL wE wG)), .val (.ref (own_of p2 wL wE wG)), .val (.int (1 : Int32)), .unset, .unset, .unset, .unset] [(.ref (own_of p1 wL wE wG))])) _
    refine XS.ifnullNo X13.here hx rfl (hb hby at_48) rfl ?_
    show Steps p.tables e below (T13.setTop (mkF m 51 #[.val (.int p1), .val (.int p2), .val (.ref (own_of p1 wL wE wG)), .val (.ref (own_of p2 wL wE wG)), .val (.int (1 : Int32)), .unset, .unset, .unset, .unset] [])) _
    refine XS.aloadN X13.here hx rfl (hb hby at_51) rfl rfl ?_
    show Steps p.tables e below (T13.setTop (mkF m 52 #[.val (.int p1), .val (.int p2), .val (.ref (own_of p1 wL wE wG)), .val (.ref (own_of p2 wL wE wG)), .val (.int (1 : Int32)), .unset, .unset, .unset, .unset] [(.ref (own_of p2 wL wE wG))])) _
    refine XS.ifnullNo X13.here hx rfl (hb hby at_52) rfl ?_
    show Steps p.tables e below (T13.setTop (mkF m 55 #[.val (.int p1), .val (.int p2), .val (.ref (own_of p1 wL wE wG)), .val (.ref (own_of p2 wL wE wG)), .val (.int (1 : Int32)), .unset, .unset, .unset, .unset] [])) _
    refine XS.aloadN X13.here hx rfl (hb hby at_55) rfl rfl ?_
    show Steps p.tables e below (T13.setTop (mkF m 56 #[.val (.int p1), .val (.int p2), .val (.ref (own_of p1 wL wE wG)), .val (.ref (own_of p2 wL wE wG)), .val (.int (1 : Int32)), .unset, .unset, .unset, .unset] [(.ref (own_of p1 wL wE wG))])) _
    refine st15 _ ?_
    show Steps p.tables e below (T15.setTop (mkF m 59 #[.val (.int p1), .val (.int p2), .val (.ref (own_of p1 wL wE wG)), .val (.ref (own_of p2 wL wE wG)), .val (.int (1 : Int32)), .unset, .unset, .unset, .unset] [(.ref wI), (.ref (own_of p1 wL wE wG))])) _
    refine Jvm.RoadKit.acmp (g := (mkF m 59 #[.val (.int p1), .val (.int p2), .val (.ref (own_of p1 wL wE wG)), .val (.ref (own_of p2 wL wE wG)), .val (.int (1 : Int32)), .unset, .unset, .unset, .unset] [(.ref wI), (.ref (own_of p1 wL wE wG))])) X15 hx rfl rfl rfl (pc0 := 59) (pc' := 62) (same := false) rfl (hb hby at_59) rfl (decide_eq_false fun q => ha59 (Value.ref.inj q)) (by decide) (by decide) ?_
    show Steps p.tables e below (T15.setTop (mkF m 62 #[.val (.int p1), .val (.int p2), .val (.ref (own_of p1 wL wE wG)), .val (.ref (own_of p2 wL wE wG)), .val (.int (1 : Int32)), .unset, .unset, .unset, .unset] [])) _
    refine XS.aloadN X15.here hx rfl (hb hby at_62) rfl rfl ?_
    show Steps p.tables e below (T15.setTop (mkF m 63 #[.val (.int p1), .val (.int p2), .val (.ref (own_of p1 wL wE wG)), .val (.ref (own_of p2 wL wE wG)), .val (.int (1 : Int32)), .unset, .unset, .unset, .unset] [(.ref (own_of p2 wL wE wG))])) _
    refine st16 _ ?_
    show Steps p.tables e below (T16.setTop (mkF m 66 #[.val (.int p1), .val (.int p2), .val (.ref (own_of p1 wL wE wG)), .val (.ref (own_of p2 wL wE wG)), .val (.int (1 : Int32)), .unset, .unset, .unset, .unset] [(.ref wI), (.ref (own_of p2 wL wE wG))])) _
    refine Jvm.RoadKit.acmp (g := (mkF m 66 #[.val (.int p1), .val (.int p2), .val (.ref (own_of p1 wL wE wG)), .val (.ref (own_of p2 wL wE wG)), .val (.int (1 : Int32)), .unset, .unset, .unset, .unset] [(.ref wI), (.ref (own_of p2 wL wE wG))])) X16 hx rfl rfl rfl (pc0 := 66) (pc' := 69) (same := false) rfl (hb hby at_66) rfl (decide_eq_false fun q => ha66 (Value.ref.inj q)) (by decide) (by decide) ?_
    show Steps p.tables e below (T16.setTop (mkF m 69 #[.val (.int p1), .val (.int p2), .val (.ref (own_of p1 wL wE wG)), .val (.ref (own_of p2 wL wE wG)), .val (.int (1 : Int32)), .unset, .unset, .unset, .unset] [])) _
    refine XS.iconst X16.here hx rfl (hb hby at_69) ?_
    show Steps p.tables e below (T16.setTop (mkF m 70 #[.val (.int p1), .val (.int p2), .val (.ref (own_of p1 wL wE wG)), .val (.ref (own_of p2 wL wE wG)), .val (.int (1 : Int32)), .unset, .unset, .unset, .unset] [(.int (1 : Int32))])) _
    refine XS.goto X16.here hx rfl (pc0 := 70) (pc' := 74) rfl (hb hby at_70) (by decide) (by decide) ?_
    show Steps p.tables e below (T16.setTop (mkF m 74 #[.val (.int p1), .val (.int p2), .val (.ref (own_of p1 wL wE wG)), .val (.ref (own_of p2 wL wE wG)), .val (.int (1 : Int32)), .unset, .unset, .unset, .unset] [(.int (1 : Int32))])) _
    refine XS.istore X16.here hx rfl (hb hby at_74) rfl (l' := #[.val (.int p1), .val (.int p2), .val (.ref (own_of p1 wL wE wG)), .val (.ref (own_of p2 wL wE wG)), .val (.int (1 : Int32)), .val (.int (1 : Int32)), .unset, .unset, .unset]) rfl ?_
    show Steps p.tables e below (T16.setTop (mkF m 76 #[.val (.int p1), .val (.int p2), .val (.ref (own_of p1 wL wE wG)), .val (.ref (own_of p2 wL wE wG)), .val (.int (1 : Int32)), .val (.int (1 : Int32)), .unset, .unset, .unset] [])) _
    refine XS.iload X16.here hx rfl (hb hby at_76) rfl ?_
    show Steps p.tables e below (T16.setTop (mkF m 78 #[.val (.int p1), .val (.int p2), .val (.ref (own_of p1 wL wE wG)), .val (.ref (own_of p2 wL wE wG)), .val (.int (1 : Int32)), .val (.int (1 : Int32)), .unset, .unset, .unset] [(.int (1 : Int32))])) _
    refine XS.ifNo X16.here hx rfl (hb hby at_78) rfl ((if0 _ _).trans (feq hc78).1) ?_
    show Steps p.tables e below (T16.setTop (mkF m 81 #[.val (.int p1), .val (.int p2), .val (.ref (own_of p1 wL wE wG)), .val (.ref (own_of p2 wL wE wG)), .val (.int (1 : Int32)), .val (.int (1 : Int32)), .unset, .unset, .unset] [])) _
    refine XS.iload X16.here hx rfl (hb hby at_81) rfl ?_
    show Steps p.tables e below (T16.setTop (mkF m 83 #[.val (.int p1), .val (.int p2), .val (.ref (own_of p1 wL wE wG)), .val (.ref (own_of p2 wL wE wG)), .val (.int (1 : Int32)), .val (.int (1 : Int32)), .unset, .unset, .unset] [(.int (1 : Int32))])) _
    refine XS.ifYes X16.here hx rfl (pc0 := 83) (pc' := 88) rfl (hb hby at_83) rfl ((if0 _ _).trans (feq hc83).2) (by decide) (by decide) ?_
    show Steps p.tables e below (T16.setTop (mkF m 88 #[.val (.int p1), .val (.int p2), .val (.ref (own_of p1 wL wE wG)), .val (.ref (own_of p2 wL wE wG)), .val (.int (1 : Int32)), .val (.int (1 : Int32)), .unset, .unset, .unset] [])) _
    refine XS.iloadN X16.here hx rfl (hb hby at_88) rfl ?_
    show Steps p.tables e below (T16.setTop (mkF m 89 #[.val (.int p1), .val (.int p2), .val (.ref (own_of p1 wL wE wG)), .val (.ref (own_of p2 wL wE wG)), .val (.int (1 : Int32)), .val (.int (1 : Int32)), .unset, .unset, .unset] [(.int p1)])) _
    refine XS.iloadN X16.here hx rfl (hb hby at_89) rfl ?_
    show Steps p.tables e below (T16.setTop (mkF m 90 #[.val (.int p1), .val (.int p2), .val (.ref (own_of p1 wL wE wG)), .val (.ref (own_of p2 wL wE wG)), .val (.int (1 : Int32)), .val (.int (1 : Int32)), .unset, .unset, .unset] [(.int p2), (.int p1)])) _
    refine XS.icmpNo X16.here hx rfl (hb hby at_90) rfl (flt hc90).2.2.1 ?_
    show Steps p.tables e below (T16.setTop (mkF m 93 #[.val (.int p1), .val (.int p2), .val (.ref (own_of p1 wL wE wG)), .val (.ref (own_of p2 wL wE wG)), .val (.int (1 : Int32)), .val (.int (1 : Int32)), .unset, .unset, .unset] [])) _
    refine XS.aloadN X16.here hx rfl (hb hby at_93) rfl rfl ?_
    show Steps p.tables e below (T16.setTop (mkF m 94 #[.val (.int p1), .val (.int p2), .val (.ref (own_of p1 wL wE wG)), .val (.ref (own_of p2 wL wE wG)), .val (.int (1 : Int32)), .val (.int (1 : Int32)), .unset, .unset, .unset] [(.ref (own_of p1 wL wE wG))])) _
    refine st17.trans ?_
    show Steps p.tables e below (T17.setTop (mkF m 97 #[.val (.int p1), .val (.int p2), .val (.ref (own_of p1 wL wE wG)), .val (.ref (own_of p2 wL wE wG)), .val (.int (1 : Int32)), .val (.int (1 : Int32)), .unset, .unset, .unset] [(.int (own_ord p1))])) _
    refine XS.aloadN X17.here hx rfl (hb hby at_97) rfl rfl ?_
    show Steps p.tables e below (T17.setTop (mkF m 98 #[.val (.int p1), .val (.int p2), .val (.ref (own_of p1 wL wE wG)), .val (.ref (own_of p2 wL wE wG)), .val (.int (1 : Int32)), .val (.int (1 : Int32)), .unset, .unset, .unset] [(.ref (own_of p2 wL wE wG)), (.int (own_ord p1))])) _
    refine st18.trans ?_
    show Steps p.tables e below (T18.setTop (mkF m 101 #[.val (.int p1), .val (.int p2), .val (.ref (own_of p1 wL wE wG)), .val (.ref (own_of p2 wL wE wG)), .val (.int (1 : Int32)), .val (.int (1 : Int32)), .unset, .unset, .unset] [(.int (own_ord p2)), (.int (own_ord p1))])) _
    refine XS.icmpNo X18.here hx rfl (hb hby at_101) rfl (flt ((own_up hc90) : ¬ ((own_ord p2) < (own_ord p1)))).2.2.1 ?_
    show Steps p.tables e below (T18.setTop (mkF m 104 #[.val (.int p1), .val (.int p2), .val (.ref (own_of p1 wL wE wG)), .val (.ref (own_of p2 wL wE wG)), .val (.int (1 : Int32)), .val (.int (1 : Int32)), .unset, .unset, .unset] [])) _
    refine XS.iconst X18.here hx rfl (hb hby at_104) ?_
    show Steps p.tables e below (T18.setTop (mkF m 105 #[.val (.int p1), .val (.int p2), .val (.ref (own_of p1 wL wE wG)), .val (.ref (own_of p2 wL wE wG)), .val (.int (1 : Int32)), .val (.int (1 : Int32)), .unset, .unset, .unset] [(.int (1 : Int32))])) _
    refine XS.goto X18.here hx rfl (pc0 := 105) (pc' := 128) rfl (hb hby at_105) (by decide) (by decide) ?_
    show Steps p.tables e below (T18.setTop (mkF m 128 #[.val (.int p1), .val (.int p2), .val (.ref (own_of p1 wL wE wG)), .val (.ref (own_of p2 wL wE wG)), .val (.int (1 : Int32)), .val (.int (1 : Int32)), .unset, .unset, .unset] [(.int (1 : Int32))])) _
    refine XS.istore X18.here hx rfl (hb hby at_128) rfl (l' := #[.val (.int p1), .val (.int p2), .val (.ref (own_of p1 wL wE wG)), .val (.ref (own_of p2 wL wE wG)), .val (.int (1 : Int32)), .val (.int (1 : Int32)), .val (.int (1 : Int32)), .unset, .unset]) rfl ?_
    show Steps p.tables e below (T18.setTop (mkF m 130 #[.val (.int p1), .val (.int p2), .val (.ref (own_of p1 wL wE wG)), .val (.ref (own_of p2 wL wE wG)), .val (.int (1 : Int32)), .val (.int (1 : Int32)), .val (.int (1 : Int32)), .unset, .unset] [])) _
    refine XS.iconst X18.here hx rfl (hb hby at_130) ?_
    show Steps p.tables e below (T18.setTop (mkF m 131 #[.val (.int p1), .val (.int p2), .val (.ref (own_of p1 wL wE wG)), .val (.ref (own_of p2 wL wE wG)), .val (.int (1 : Int32)), .val (.int (1 : Int32)), .val (.int (1 : Int32)), .unset, .unset] [(.int (1 : Int32))])) _
    refine XS.istore X18.here hx rfl (hb hby at_131) rfl (l' := #[.val (.int p1), .val (.int p2), .val (.ref (own_of p1 wL wE wG)), .val (.ref (own_of p2 wL wE wG)), .val (.int (1 : Int32)), .val (.int (1 : Int32)), .val (.int (1 : Int32)), .val (.int (1 : Int32)), .unset]) rfl ?_
    show Steps p.tables e below (T18.setTop (mkF m 133 #[.val (.int p1), .val (.int p2), .val (.ref (own_of p1 wL wE wG)), .val (.ref (own_of p2 wL wE wG)), .val (.int (1 : Int32)), .val (.int (1 : Int32)), .val (.int (1 : Int32)), .val (.int (1 : Int32)), .unset] [])) _
    refine XS.iloadN X18.here hx rfl (hb hby at_133) rfl ?_
    show Steps p.tables e below (T18.setTop (mkF m 134 #[.val (.int p1), .val (.int p2), .val (.ref (own_of p1 wL wE wG)), .val (.ref (own_of p2 wL wE wG)), .val (.int (1 : Int32)), .val (.int (1 : Int32)), .val (.int (1 : Int32)), .val (.int (1 : Int32)), .unset] [(.int p1)])) _
    refine X18.ldcInt hx hown (mvT hZ (hw _ (List.mem_of_getElem? (i := 24) rfl))) (g := (mkF m 134 #[.val (.int p1), .val (.int p2), .val (.ref (own_of p1 wL wE wG)), .val (.ref (own_of p2 wL wE wG)), .val (.int (1 : Int32)), .val (.int (1 : Int32)), .val (.int (1 : Int32)), .val (.int (1 : Int32)), .unset] [(.int p1)])) rfl (hb hby at_134) _ ?_
    show Steps p.tables e below (T18.setTop (mkF m 136 #[.val (.int p1), .val (.int p2), .val (.ref (own_of p1 wL wE wG)), .val (.ref (own_of p2 wL wE wG)), .val (.int (1 : Int32)), .val (.int (1 : Int32)), .val (.int (1 : Int32)), .val (.int (1 : Int32)), .unset] [(.int (-2147483648 : Int32)), (.int p1)])) _
    refine XS.icmpNo X18.here hx rfl (hb hby at_136) rfl (feq hc136).1 ?_
    show Steps p.tables e below (T18.setTop (mkF m 139 #[.val (.int p1), .val (.int p2), .val (.ref (own_of p1 wL wE wG)), .val (.ref (own_of p2 wL wE wG)), .val (.int (1 : Int32)), .val (.int (1 : Int32)), .val (.int (1 : Int32)), .val (.int (1 : Int32)), .unset] [])) _
    refine XS.iloadN X18.here hx rfl (hb hby at_139) rfl ?_
    show Steps p.tables e below (T18.setTop (mkF m 140 #[.val (.int p1), .val (.int p2), .val (.ref (own_of p1 wL wE wG)), .val (.ref (own_of p2 wL wE wG)), .val (.int (1 : Int32)), .val (.int (1 : Int32)), .val (.int (1 : Int32)), .val (.int (1 : Int32)), .unset] [(.int p1)])) _
    refine XS.ineg X18.here hx rfl (hb hby at_140) rfl ?_
    show Steps p.tables e below (T18.setTop (mkF m 141 #[.val (.int p1), .val (.int p2), .val (.ref (own_of p1 wL wE wG)), .val (.ref (own_of p2 wL wE wG)), .val (.int (1 : Int32)), .val (.int (1 : Int32)), .val (.int (1 : Int32)), .val (.int (1 : Int32)), .unset] [(.int (-p1))])) _
    refine st19 _ ?_
    show Steps p.tables e below (T19.setTop (mkF m 144 #[.val (.int p1), .val (.int p2), .val (.ref (own_of p1 wL wE wG)), .val (.ref (own_of p2 wL wE wG)), .val (.int (1 : Int32)), .val (.int (1 : Int32)), .val (.int (1 : Int32)), .val (.int (1 : Int32)), .unset] [(.ref (own_of (-p1) wL wE wG))])) _
    refine XS.astore X19.here hx rfl (hb hby at_144) rfl rfl (l' := #[.val (.int p1), .val (.int p2), .val (.ref (own_of p1 wL wE wG)), .val (.ref (own_of p2 wL wE wG)), .val (.int (1 : Int32)), .val (.int (1 : Int32)), .val (.int (1 : Int32)), .val (.int (1 : Int32)), .val (.ref (own_of (-p1) wL wE wG))]) rfl ?_
    show Steps p.tables e below (T19.setTop (mkF m 146 #[.val (.int p1), .val (.int p2), .val (.ref (own_of p1 wL wE wG)), .val (.ref (own_of p2 wL wE wG)), .val (.int (1 : Int32)), .val (.int (1 : Int32)), .val (.int (1 : Int32)), .val (.int (1 : Int32)), .val (.ref (own_of (-p1) wL wE wG))] [])) _
    refine XS.aload X19.here hx rfl (hb hby at_146) rfl rfl ?_
    show Steps p.tables e below (T19.setTop (mkF m 148 #[.val (.int p1), .val (.int p2), .val (.ref (own_of p1 wL wE wG)), .val (.ref (own_of p2 wL wE wG)), .val (.int (1 : Int32)), .val (.int (1 : Int32)), .val (.int (1 : Int32)), .val (.int (1 : Int32)), .val (.ref (own_of (-p1) wL wE wG))] [(.ref (own_of (-p1) wL wE wG))])) _
    refine XS.ifnullNo X19.here hx rfl (hb hby at_148) rfl ?_
    show Steps p.tables e below (T19.setTop (mkF m 151 #[.val (.int p1), .val (.int p2), .val (.ref (own_of p1 wL wE wG)), .val (.ref (own_of p2 wL wE wG)), .val (.int (1 : Int32)), .val (.int (1 : Int32)), .val (.int (1 : Int32)), .val (.int (1 : Int32)), .val (.ref (own_of (-p1) wL wE wG))] [])) _
    refine XS.aload X19.here hx rfl (hb hby at_151) rfl rfl ?_
    show Steps p.tables e below (T19.setTop (mkF m 153 #[.val (.int p1), .val (.int p2), .val (.ref (own_of p1 wL wE wG)), .val (.ref (own_of p2 wL wE wG)), .val (.int (1 : Int32)), .val (.int (1 : Int32)), .val (.int (1 : Int32)), .val (.int (1 : Int32)), .val (.ref (own_of (-p1) wL wE wG))] [(.ref (own_of (-p1) wL wE wG))])) _
    refine st20.trans ?_
    show Steps p.tables e below (T20.setTop (mkF m 156 #[.val (.int p1), .val (.int p2), .val (.ref (own_of p1 wL wE wG)), .val (.ref (own_of p2 wL wE wG)), .val (.int (1 : Int32)), .val (.int (1 : Int32)), .val (.int (1 : Int32)), .val (.int (1 : Int32)), .val (.ref (own_of (-p1) wL wE wG))] [(.int (own_ord (-p1)))])) _
    refine XS.iconst X20.here hx rfl (hb hby at_156) ?_
    show Steps p.tables e below (T20.setTop (mkF m 157 #[.val (.int p1), .val (.int p2), .val (.ref (own_of p1 wL wE wG)), .val (.ref (own_of p2 wL wE wG)), .val (.int (1 : Int32)), .val (.int (1 : Int32)), .val (.int (1 : Int32)), .val (.int (1 : Int32)), .val (.ref (own_of (-p1) wL wE wG))] [(.int (2 : Int32)), (.int (own_ord (-p1)))])) _
    refine XS.aloadN X20.here hx rfl (hb hby at_157) rfl rfl ?_
    show Steps p.tables e below (T20.setTop (mkF m 158 #[.val (.int p1), .val (.int p2), .val (.ref (own_of p1 wL wE wG)), .val (.ref (own_of p2 wL wE wG)), .val (.int (1 : Int32)), .val (.int (1 : Int32)), .val (.int (1 : Int32)), .val (.int (1 : Int32)), .val (.ref (own_of (-p1) wL wE wG))] [(.ref (own_of p1 wL wE wG)), (.int (2 : Int32)), (.int (own_ord (-p1)))])) _
    refine st21.trans ?_
    show Steps p.tables e below (T21.setTop (mkF m 161 #[.val (.int p1), .val (.int p2), .val (.ref (own_of p1 wL wE wG)), .val (.ref (own_of p2 wL wE wG)), .val (.int (1 : Int32)), .val (.int (1 : Int32)), .val (.int (1 : Int32)), .val (.int (1 : Int32)), .val (.ref (own_of (-p1) wL wE wG))] [(.int (own_ord p1)), (.int (2 : Int32)), (.int (own_ord (-p1)))])) _
    refine XS.isub X21.here hx rfl (hb hby at_161) rfl ?_
    show Steps p.tables e below (T21.setTop (mkF m 162 #[.val (.int p1), .val (.int p2), .val (.ref (own_of p1 wL wE wG)), .val (.ref (own_of p2 wL wE wG)), .val (.int (1 : Int32)), .val (.int (1 : Int32)), .val (.int (1 : Int32)), .val (.int (1 : Int32)), .val (.ref (own_of (-p1) wL wE wG))] [(.int ((2 : Int32) - (own_ord p1))), (.int (own_ord (-p1)))])) _
    refine XS.icmpNo X21.here hx rfl (hb hby at_162) rfl (teq ((own_mir hc136) : (own_ord (-p1)) = ((2 : Int32) - (own_ord p1)))).2 ?_
    show Steps p.tables e below (T21.setTop (mkF m 165 #[.val (.int p1), .val (.int p2), .val (.ref (own_of p1 wL wE wG)), .val (.ref (own_of p2 wL wE wG)), .val (.int (1 : Int32)), .val (.int (1 : Int32)), .val (.int (1 : Int32)), .val (.int (1 : Int32)), .val (.ref (own_of (-p1) wL wE wG))] [])) _
    refine XS.iconst X21.here hx rfl (hb hby at_165) ?_
    show Steps p.tables e below (T21.setTop (mkF m 166 #[.val (.int p1), .val (.int p2), .val (.ref (own_of p1 wL wE wG)), .val (.ref (own_of p2 wL wE wG)), .val (.int (1 : Int32)), .val (.int (1 : Int32)), .val (.int (1 : Int32)), .val (.int (1 : Int32)), .val (.ref (own_of (-p1) wL wE wG))] [(.int (1 : Int32))])) _
    refine XS.goto X21.here hx rfl (pc0 := 166) (pc' := 170) rfl (hb hby at_166) (by decide) (by decide) ?_
    show Steps p.tables e below (T21.setTop (mkF m 170 #[.val (.int p1), .val (.int p2), .val (.ref (own_of p1 wL wE wG)), .val (.ref (own_of p2 wL wE wG)), .val (.int (1 : Int32)), .val (.int (1 : Int32)), .val (.int (1 : Int32)), .val (.int (1 : Int32)), .val (.ref (own_of (-p1) wL wE wG))] [(.int (1 : Int32))])) _
    refine XS.istore X21.here hx rfl (hb hby at_170) rfl (l' := #[.val (.int p1), .val (.int p2), .val (.ref (own_of p1 wL wE wG)), .val (.ref (own_of p2 wL wE wG)), .val (.int (1 : Int32)), .val (.int (1 : Int32)), .val (.int (1 : Int32)), .val (.int (1 : Int32)), .val (.ref (own_of (-p1) wL wE wG))]) rfl ?_
    show Steps p.tables e below (T21.setTop (mkF m 172 #[.val (.int p1), .val (.int p2), .val (.ref (own_of p1 wL wE wG)), .val (.ref (own_of p2 wL wE wG)), .val (.int (1 : Int32)), .val (.int (1 : Int32)), .val (.int (1 : Int32)), .val (.int (1 : Int32)), .val (.ref (own_of (-p1) wL wE wG))] [])) _
    refine XS.iload X21.here hx rfl (hb hby at_172) rfl ?_
    show Steps p.tables e below (T21.setTop (mkF m 174 #[.val (.int p1), .val (.int p2), .val (.ref (own_of p1 wL wE wG)), .val (.ref (own_of p2 wL wE wG)), .val (.int (1 : Int32)), .val (.int (1 : Int32)), .val (.int (1 : Int32)), .val (.int (1 : Int32)), .val (.ref (own_of (-p1) wL wE wG))] [(.int (1 : Int32))])) _
    refine XS.ifNo X21.here hx rfl (hb hby at_174) rfl ((if0 _ _).trans (feq hc174).1) ?_
    show Steps p.tables e below (T21.setTop (mkF m 177 #[.val (.int p1), .val (.int p2), .val (.ref (own_of p1 wL wE wG)), .val (.ref (own_of p2 wL wE wG)), .val (.int (1 : Int32)), .val (.int (1 : Int32)), .val (.int (1 : Int32)), .val (.int (1 : Int32)), .val (.ref (own_of (-p1) wL wE wG))] [])) _
    refine XS.iload X21.here hx rfl (hb hby at_177) rfl ?_
    show Steps p.tables e below (T21.setTop (mkF m 179 #[.val (.int p1), .val (.int p2), .val (.ref (own_of p1 wL wE wG)), .val (.ref (own_of p2 wL wE wG)), .val (.int (1 : Int32)), .val (.int (1 : Int32)), .val (.int (1 : Int32)), .val (.int (1 : Int32)), .val (.ref (own_of (-p1) wL wE wG))] [(.int (1 : Int32))])) _
    refine XS.ifNo X21.here hx rfl (hb hby at_179) rfl ((if0 _ _).trans (feq hc179).1) ?_
    show Steps p.tables e below (T21.setTop (mkF m 182 #[.val (.int p1), .val (.int p2), .val (.ref (own_of p1 wL wE wG)), .val (.ref (own_of p2 wL wE wG)), .val (.int (1 : Int32)), .val (.int (1 : Int32)), .val (.int (1 : Int32)), .val (.int (1 : Int32)), .val (.ref (own_of (-p1) wL wE wG))] [])) _
    refine XS.iconst X21.here hx rfl (hb hby at_182) ?_
    show Steps p.tables e below (T21.setTop (mkF m 183 #[.val (.int p1), .val (.int p2), .val (.ref (own_of p1 wL wE wG)), .val (.ref (own_of p2 wL wE wG)), .val (.int (1 : Int32)), .val (.int (1 : Int32)), .val (.int (1 : Int32)), .val (.int (1 : Int32)), .val (.ref (own_of (-p1) wL wE wG))] [(.int (1 : Int32))])) _
    refine XS.goto X21.here hx rfl (pc0 := 183) (pc' := 187) rfl (hb hby at_183) (by decide) (by decide) ?_
    show Steps p.tables e below (T21.setTop (mkF m 187 #[.val (.int p1), .val (.int p2), .val (.ref (own_of p1 wL wE wG)), .val (.ref (own_of p2 wL wE wG)), .val (.int (1 : Int32)), .val (.int (1 : Int32)), .val (.int (1 : Int32)), .val (.int (1 : Int32)), .val (.ref (own_of (-p1) wL wE wG))] [(.int (1 : Int32))])) _
    exact retN X21 hx (t := .boolean) Bd.returns (by simp) (hb hby at_187) hr
  · show Q0 Z h0 n0 _ T21.heap _
    exact ⟨rfl, N21⟩
set_option maxRecDepth 65536 in
set_option maxHeartbeats 40000000 in
theorem rm0b (l : Launch) (Z : State) (a0 : Array Value) (hw : ∀ d ∈ tables_1, d.before a0 Z = true) (ws : List Jvm.Cond) (p1 : Int32) (p2 : Int32) (wL wE wG wI : Addr) (h0 : Heap) (n0 : Nat) (Z0 : n0 ≤ h0.size) (S_LESS : Sta Z h0 "com/example/assessor/assessor/datatypes/AtomicValue$Order" "LESS" "Lcom/example/assessor/assessor/datatypes/AtomicValue$Order;" (.ref wL)) (E_LESS : Exa Z h0 wL "com/example/assessor/assessor/datatypes/AtomicValue$Order") (F_LESS : Fld Z h0 wL "java/lang/Enum" "ordinal" "I" (.int (0 : Int32))) (S_EQUAL : Sta Z h0 "com/example/assessor/assessor/datatypes/AtomicValue$Order" "EQUAL" "Lcom/example/assessor/assessor/datatypes/AtomicValue$Order;" (.ref wE)) (E_EQUAL : Exa Z h0 wE "com/example/assessor/assessor/datatypes/AtomicValue$Order") (F_EQUAL : Fld Z h0 wE "java/lang/Enum" "ordinal" "I" (.int (1 : Int32))) (S_GREATER : Sta Z h0 "com/example/assessor/assessor/datatypes/AtomicValue$Order" "GREATER" "Lcom/example/assessor/assessor/datatypes/AtomicValue$Order;" (.ref wG)) (E_GREATER : Exa Z h0 wG "com/example/assessor/assessor/datatypes/AtomicValue$Order") (F_GREATER : Fld Z h0 wG "java/lang/Enum" "ordinal" "I" (.int (2 : Int32))) (S_INCOMPARABLE : Sta Z h0 "com/example/assessor/assessor/datatypes/AtomicValue$Order" "INCOMPARABLE" "Lcom/example/assessor/assessor/datatypes/AtomicValue$Order;" (.ref wI)) (E_INCOMPARABLE : Exa Z h0 wI "com/example/assessor/assessor/datatypes/AtomicValue$Order") (F_INCOMPARABLE : Fld Z h0 wI "java/lang/Enum" "ordinal" "I" (.int (3 : Int32))) (hc90 : ¬ (p2 < p1)) (hc136 : p1 = (-2147483648 : Int32)) :
    MetFree l x (head1 (Jvm.Cond.code x code maxLocals ret :: ws) room_1) (fun a U => a = #[(.int p1), (.int p2)] ∧ Z.Warmed39 U.vm ∧ U.heap = h0) (fun _ _ _ _ _ => True) (fun _ U o U' => ∃ v L, o = .returned v ∧ Q0 Z h0 n0 v U'.heap L ∧ FrameEnd U o U' L room_1.cells room_1.slots) := by
  have hc78 : ¬ ((1 : Int32) = (0 : Int32)) := by decide
  have hc83 : ¬ ((1 : Int32) = (0 : Int32)) := by decide
  have hc174 : ¬ ((1 : Int32) = (0 : Int32)) := by decide
  have hc179 : ¬ ((1 : Int32) = (0 : Int32)) := by decide
  have ha17 : (own_of (-1 : Int32) wL wE wG) = wL := own_ofL (by decide) wL wE wG
  have ha27 : (own_of (0 : Int32) wL wE wG) = wE := own_ofE (by decide) (by decide) wL wE wG
  have ha37 : (own_of (1 : Int32) wL wE wG) = wG := own_ofG (by decide) (by decide) wL wE wG
  have ha59 : ¬ ((own_of p1 wL wE wG) = wI) := own_fne (own_F p1 F_LESS F_EQUAL F_GREATER) F_INCOMPARABLE (own_ord3 p1)
  have ha66 : ¬ ((own_of p2 wL wE wG) = wI) := own_fne (own_F p2 F_LESS F_EQUAL F_GREATER) F_INCOMPARABLE (own_ord3 p2)
  refine MetFree.of_bodySF (plainFor_of_name pn_0) hisR ?_
  intro p e s m args below meth c s₁ Bd hml0 hP hK
  obtain ⟨rfl, hZ, hh⟩ := hP
  have hx := Bd.exec
  have hby := Bd.bytes
  have hml : c.maxLocals = 9 := hml0
  have hown : s.vm.findClass "com/example/assessor/assessor/datatypes/OrderOfPinLaw" = some m.cls := findClass_of_methodNamed Bd.named
  have hnm := (name_of_methodNamed Bd.named Bd.method).1
  have X0 : Stand p l e room_1 s m #[(.int p1), (.int p2)] below meth c s₁ [] 0 0 := Stand.of_body Bd
  have e0 : s₁.heap = h0 := by rw [← hh, Bd.state]; rfl
  have N0 := Fr.nil n0
  have pre0 : ∀ t, Steps p.tables e below (s₁.setTop (mkF m 0 #[.val (.int p1), .val (.int p2), .unset, .unset, .unset, .unset, .unset, .unset, .unset] [])) t → Steps p.tables e below (s₁.setTop (entryFrame m #[(.int p1), (.int p2)] maxLocals)) t := fun t k => castTop (ef_0 m p1 p2) k
  obtain ⟨_, _, ⟨T3, L3, k3, n3⟩, -, X3, ⟨Lc3, hQ3, l3, y3, z3⟩, st3⟩ := Jvm.LawKit.callS X0 hx (y := (⟨"com/example/assessor/assessor/datatypes/AtomicValue$Order", "of", "(I)Lcom/example/assessor/assessor/datatypes/AtomicValue$Order;"⟩ : MethodName)) hown (mvT hZ (hw _ (List.mem_of_getElem? (i := 0) rfl))) (mvT hZ (hw _ (List.mem_of_getElem? (i := 1) rfl))) (mvT hZ (hw _ (List.mem_of_getElem? (i := 2) rfl))) (mvT hZ (hw _ (List.mem_of_getElem? (i := 3) rfl))) (by decide) (backOf (W := 0) (rm1 l Z a0 hw [] p1 wL wE wG h0 n0 Z0 S_LESS S_EQUAL S_GREATER) hZ (hw _ (List.mem_of_getElem? (i := 3) rfl)) (hw _ (List.mem_of_getElem? (i := 2) rfl)) (by decide) (by decide)) (g := (mkF m 1 #[.val (.int p1), .val (.int p2), .unset, .unset, .unset, .unset, .unset, .unset, .unset] [(.int p1)])) rfl (by rw [hml]; rfl) (argsL := [(.int p1)]) (rest := []) (lenOf pd_0_0 rfl) rfl (by show 2 * 0 + _ ≤ _; exact Nat.le_of_eq rfl) (hb hby at_1) (fun _ _ => ⟨rfl, e0, (by decide : 0 + 0 ≤ _), (by decide : 0 + 0 ≤ _)⟩)
  dsimp only [Pt.U, Pt.locs, Pt.cells, Pt.slots] at X3 l3 y3 z3 st3 hQ3
  subst l3 y3 z3
  obtain ⟨rfl, N3q, q3e⟩ := hQ3
  have N3 := Fr.app N0 N3q
  obtain ⟨_, _, ⟨T4, L4, k4, n4⟩, -, X4, ⟨Lc4, hQ4, l4, y4, z4⟩, st4⟩ := Jvm.LawKit.callS X3 hx (y := (⟨"com/example/assessor/assessor/datatypes/AtomicValue$Order", "of", "(I)Lcom/example/assessor/assessor/datatypes/AtomicValue$Order;"⟩ : MethodName)) hown (mvT hZ (hw _ (List.mem_of_getElem? (i := 0) rfl))) (mvT hZ (hw _ (List.mem_of_getElem? (i := 1) rfl))) (mvT hZ (hw _ (List.mem_of_getElem? (i := 2) rfl))) (mvT hZ (hw _ (List.mem_of_getElem? (i := 3) rfl))) (by decide) (backOf (W := 0) (rm1 l Z a0 hw [] p2 wL wE wG h0 n0 Z0 S_LESS S_EQUAL S_GREATER) hZ (hw _ (List.mem_of_getElem? (i := 3) rfl)) (hw _ (List.mem_of_getElem? (i := 2) rfl)) (by decide) (by decide)) (g := (mkF m 6 #[.val (.int p1), .val (.int p2), .val (.ref (own_of p1 wL wE wG)), .unset, .unset, .unset, .unset, .unset, .unset] [(.int p2)])) rfl (by rw [hml]; rfl) (argsL := [(.int p2)]) (rest := []) (lenOf pd_0_0 rfl) rfl (by show 2 * 0 + _ ≤ _; exact Nat.le_of_eq rfl) (hb hby at_6) (fun _ _ => ⟨rfl, q3e, (by decide : 0 + 0 ≤ _), (by decide : 0 + 0 ≤ _)⟩)
  dsimp only [Pt.U, Pt.locs, Pt.cells, Pt.slots] at X4 l4 y4 z4 st4 hQ4
  subst l4 y4 z4
  obtain ⟨rfl, N4q, q4e⟩ := hQ4
  have N4 := Fr.app N3 N4q
  obtain ⟨_, _, ⟨T5, L5, k5, n5⟩, -, X5, ⟨Lc5, hQ5, l5, y5, z5⟩, st5⟩ := Jvm.LawKit.callS X4 hx (y := (⟨"com/example/assessor/assessor/datatypes/AtomicValue$Order", "of", "(I)Lcom/example/assessor/assessor/datatypes/AtomicValue$Order;"⟩ : MethodName)) hown (mvT hZ (hw _ (List.mem_of_getElem? (i := 0) rfl))) (mvT hZ (hw _ (List.mem_of_getElem? (i := 1) rfl))) (mvT hZ (hw _ (List.mem_of_getElem? (i := 2) rfl))) (mvT hZ (hw _ (List.mem_of_getElem? (i := 3) rfl))) (by decide) (backOf (W := 0) (rm1 l Z a0 hw [] (-1 : Int32) wL wE wG h0 n0 Z0 S_LESS S_EQUAL S_GREATER) hZ (hw _ (List.mem_of_getElem? (i := 3) rfl)) (hw _ (List.mem_of_getElem? (i := 2) rfl)) (by decide) (by decide)) (g := (mkF m 11 #[.val (.int p1), .val (.int p2), .val (.ref (own_of p1 wL wE wG)), .val (.ref (own_of p2 wL wE wG)), .unset, .unset, .unset, .unset, .unset] [(.int (-1 : Int32))])) rfl (by rw [hml]; rfl) (argsL := [(.int (-1 : Int32))]) (rest := []) (lenOf pd_0_0 rfl) rfl (by show 2 * 0 + _ ≤ _; exact Nat.le_of_eq rfl) (hb hby at_11) (fun _ _ => ⟨rfl, q4e, (by decide : 0 + 0 ≤ _), (by decide : 0 + 0 ≤ _)⟩)
  dsimp only [Pt.U, Pt.locs, Pt.cells, Pt.slots] at X5 l5 y5 z5 st5 hQ5
  subst l5 y5 z5
  obtain ⟨rfl, N5q, q5e⟩ := hQ5
  have N5 := Fr.app N4 N5q
  obtain ⟨T7, X7, e7, st7⟩ := getS2 X5 hx hZ hown (host := "") (Or.inl (hw _ (List.mem_of_getElem? (i := 10) rfl))) Via.refl q5e S_LESS (g := (mkF m 14 #[.val (.int p1), .val (.int p2), .val (.ref (own_of p1 wL wE wG)), .val (.ref (own_of p2 wL wE wG)), .unset, .unset, .unset, .unset, .unset] [(.ref (own_of (-1 : Int32) wL wE wG))])) rfl (hb hby at_14)
  obtain ⟨_, _, ⟨T8, L8, k8, n8⟩, -, X8, ⟨Lc8, hQ8, l8, y8, z8⟩, st8⟩ := Jvm.LawKit.callS X7 hx (y := (⟨"com/example/assessor/assessor/datatypes/AtomicValue$Order", "of", "(I)Lcom/example/assessor/assessor/datatypes/AtomicValue$Order;"⟩ : MethodName)) hown (mvT hZ (hw _ (List.mem_of_getElem? (i := 0) rfl))) (mvT hZ (hw _ (List.mem_of_getElem? (i := 1) rfl))) (mvT hZ (hw _ (List.mem_of_getElem? (i := 2) rfl))) (mvT hZ (hw _ (List.mem_of_getElem? (i := 3) rfl))) (by decide) (backOf (W := 0) (rm1 l Z a0 hw [] (0 : Int32) wL wE wG h0 n0 Z0 S_LESS S_EQUAL S_GREATER) hZ (hw _ (List.mem_of_getElem? (i := 3) rfl)) (hw _ (List.mem_of_getElem? (i := 2) rfl)) (by decide) (by decide)) (g := (mkF m 21 #[.val (.int p1), .val (.int p2), .val (.ref (own_of p1 wL wE wG)), .val (.ref (own_of p2 wL wE wG)), .unset, .unset, .unset, .unset, .unset] [(.int (0 : Int32))])) rfl (by rw [hml]; rfl) (argsL := [(.int (0 : Int32))]) (rest := []) (lenOf pd_0_0 rfl) rfl (by show 2 * 0 + _ ≤ _; exact Nat.le_of_eq rfl) (hb hby at_21) (fun _ _ => ⟨rfl, e7, (by decide : 0 + 0 ≤ _), (by decide : 0 + 0 ≤ _)⟩)
  dsimp only [Pt.U, Pt.locs, Pt.cells, Pt.slots] at X8 l8 y8 z8 st8 hQ8
  subst l8 y8 z8
  obtain ⟨rfl, N8q, q8e⟩ := hQ8
  have N8 := Fr.app N5 N8q
  obtain ⟨T10, X10, e10, st10⟩ := getS2 X8 hx hZ hown (host := "") (Or.inl (hw _ (List.mem_of_getElem? (i := 11) rfl))) Via.refl q8e S_EQUAL (g := (mkF m 24 #[.val (.int p1), .val (.int p2), .val (.ref (own_of p1 wL wE wG)), .val (.ref (own_of p2 wL wE wG)), .unset, .unset, .unset, .unset, .unset] [(.ref (own_of (0 : Int32) wL wE wG))])) rfl (hb hby at_24)
  obtain ⟨_, _, ⟨T11, L11, k11, n11⟩, -, X11, ⟨Lc11, hQ11, l11, y11, z11⟩, st11⟩ := Jvm.LawKit.callS X10 hx (y := (⟨"com/example/assessor/assessor/datatypes/AtomicValue$Order", "of", "(I)Lcom/example/assessor/assessor/datatypes/AtomicValue$Order;"⟩ : MethodName)) hown (mvT hZ (hw _ (List.mem_of_getElem? (i := 0) rfl))) (mvT hZ (hw _ (List.mem_of_getElem? (i := 1) rfl))) (mvT hZ (hw _ (List.mem_of_getElem? (i := 2) rfl))) (mvT hZ (hw _ (List.mem_of_getElem? (i := 3) rfl))) (by decide) (backOf (W := 0) (rm1 l Z a0 hw [] (1 : Int32) wL wE wG h0 n0 Z0 S_LESS S_EQUAL S_GREATER) hZ (hw _ (List.mem_of_getElem? (i := 3) rfl)) (hw _ (List.mem_of_getElem? (i := 2) rfl)) (by decide) (by decide)) (g := (mkF m 31 #[.val (.int p1), .val (.int p2), .val (.ref (own_of p1 wL wE wG)), .val (.ref (own_of p2 wL wE wG)), .unset, .unset, .unset, .unset, .unset] [(.int (1 : Int32))])) rfl (by rw [hml]; rfl) (argsL := [(.int (1 : Int32))]) (rest := []) (lenOf pd_0_0 rfl) rfl (by show 2 * 0 + _ ≤ _; exact Nat.le_of_eq rfl) (hb hby at_31) (fun _ _ => ⟨rfl, e10, (by decide : 0 + 0 ≤ _), (by decide : 0 + 0 ≤ _)⟩)
  dsimp only [Pt.U, Pt.locs, Pt.cells, Pt.slots] at X11 l11 y11 z11 st11 hQ11
  subst l11 y11 z11
  obtain ⟨rfl, N11q, q11e⟩ := hQ11
  have N11 := Fr.app N8 N11q
  obtain ⟨T13, X13, e13, st13⟩ := getS2 X11 hx hZ hown (host := "") (Or.inl (hw _ (List.mem_of_getElem? (i := 12) rfl))) Via.refl q11e S_GREATER (g := (mkF m 34 #[.val (.int p1), .val (.int p2), .val (.ref (own_of p1 wL wE wG)), .val (.ref (own_of p2 wL wE wG)), .unset, .unset, .unset, .unset, .unset] [(.ref (own_of (1 : Int32) wL wE wG))])) rfl (hb hby at_34)
  obtain ⟨T15, X15, e15, st15⟩ := getS2 X13 hx hZ hown (host := "") (Or.inl (hw _ (List.mem_of_getElem? (i := 13) rfl))) Via.refl e13 S_INCOMPARABLE (g := (mkF m 56 #[.val (.int p1), .val (.int p2), .val (.ref (own_of p1 wL wE wG)), .val (.ref (own_of p2 wL wE wG)), .val (.int (1 : Int32)), .unset, .unset, .unset, .unset] [(.ref (own_of p1 wL wE wG))])) rfl (hb hby at_56)
  obtain ⟨T16, X16, e16, st16⟩ := getS2 X15 hx hZ hown (host := "") (Or.inl (hw _ (List.mem_of_getElem? (i := 13) rfl))) Via.refl e15 S_INCOMPARABLE (g := (mkF m 63 #[.val (.int p1), .val (.int p2), .val (.ref (own_of p1 wL wE wG)), .val (.ref (own_of p2 wL wE wG)), .val (.int (1 : Int32)), .unset, .unset, .unset, .unset] [(.ref (own_of p2 wL wE wG))])) rfl (hb hby at_63)
  obtain ⟨cq17, kq17, q17a, q17b, q17c⟩ := isOf hZ e16 (own_E p1 E_LESS E_EQUAL E_GREATER)
  obtain ⟨_, _, ⟨T17, L17, k17, n17⟩, -, X17, ⟨Lc17, hQ17, l17, y17, z17⟩, st17⟩ := X16.virtualBackUp hx (x := (⟨"com/example/assessor/assessor/datatypes/AtomicValue$Order", "ordinal", "()I"⟩ : MethodName)) (y := (⟨"java/lang/Enum", "ordinal", "()I"⟩ : MethodName)) hown (mvT hZ (hw _ (List.mem_of_getElem? (i := 15) rfl))) (mvT hZ (hw _ (List.mem_of_getElem? (i := 16) rfl))) (mvT hZ (hw _ (List.mem_of_getElem? (i := 17) rfl))) (by decide) (mvT hZ (hw _ (List.mem_of_getElem? (i := 19) rfl))) (mvT hZ (hw _ (List.mem_of_getElem? (i := 18) rfl))) (backOf (W := 0) (rm2 l Z a0 hw [] (own_of p1 wL wE wG) (own_ord p1) h0 n0 Z0 (own_F p1 F_LESS F_EQUAL F_GREATER)) hZ (hw _ (List.mem_of_getElem? (i := 21) rfl)) (hw _ (List.mem_of_getElem? (i := 20) rfl)) (by decide) (by decide)) q17a q17c (g := (mkF m 94 #[.val (.int p1), .val (.int p2), .val (.ref (own_of p1 wL wE wG)), .val (.ref (own_of p2 wL wE wG)), .val (.int (1 : Int32)), .val (.int (1 : Int32)), .unset, .unset, .unset] [(.ref (own_of p1 wL wE wG))])) rfl (by rw [hml]; rfl) (Steps.refl _) (argsL := []) (rest := []) (lenOf pd_0_1 rfl) rfl (by show 2 * 0 + _ ≤ _; exact Nat.le_of_eq rfl) (hb hby at_94) (fun _ _ => ⟨rfl, e16, (by decide : 0 + 0 ≤ _), (by decide : 0 + 0 ≤ _)⟩)
  dsimp only [Pt.U, Pt.locs, Pt.cells, Pt.slots] at X17 l17 y17 z17 st17 hQ17
  subst l17 y17 z17
  obtain ⟨rfl, N17q, q17e⟩ := hQ17
  have N17 := Fr.app N11 N17q
  obtain ⟨cq18, kq18, q18a, q18b, q18c⟩ := isOf hZ q17e (own_E p2 E_LESS E_EQUAL E_GREATER)
  obtain ⟨_, _, ⟨T18, L18, k18, n18⟩, -, X18, ⟨Lc18, hQ18, l18, y18, z18⟩, st18⟩ := X17.virtualBackUp hx (x := (⟨"com/example/assessor/assessor/datatypes/AtomicValue$Order", "ordinal", "()I"⟩ : MethodName)) (y := (⟨"java/lang/Enum", "ordinal", "()I"⟩ : MethodName)) hown (mvT hZ (hw _ (List.mem_of_getElem? (i := 15) rfl))) (mvT hZ (hw _ (List.mem_of_getElem? (i := 16) rfl))) (mvT hZ (hw _ (List.mem_of_getElem? (i := 17) rfl))) (by decide) (mvT hZ (hw _ (List.mem_of_getElem? (i := 19) rfl))) (mvT hZ (hw _ (List.mem_of_getElem? (i := 18) rfl))) (backOf (W := 1) (rm2 l Z a0 hw [] (own_of p2 wL wE wG) (own_ord p2) h0 n0 Z0 (own_F p2 F_LESS F_EQUAL F_GREATER)) hZ (hw _ (List.mem_of_getElem? (i := 21) rfl)) (hw _ (List.mem_of_getElem? (i := 20) rfl)) (by decide) (by decide)) q18a q18c (g := (mkF m 98 #[.val (.int p1), .val (.int p2), .val (.ref (own_of p1 wL wE wG)), .val (.ref (own_of p2 wL wE wG)), .val (.int (1 : Int32)), .val (.int (1 : Int32)), .unset, .unset, .unset] [(.ref (own_of p2 wL wE wG)), (.int (own_ord p1))])) rfl (by rw [hml]; rfl) (Steps.refl _) (argsL := []) (rest := [(.int (own_ord p1))]) (lenOf pd_0_1 rfl) rfl (by show 2 * 0 + _ ≤ _; exact Nat.le_of_eq rfl) (hb hby at_98) (fun _ _ => ⟨rfl, q17e, (by decide : 0 + 0 ≤ _), (by decide : 0 + 0 ≤ _)⟩)
  dsimp only [Pt.U, Pt.locs, Pt.cells, Pt.slots] at X18 l18 y18 z18 st18 hQ18
  subst l18 y18 z18
  obtain ⟨rfl, N18q, q18e⟩ := hQ18
  have N18 := Fr.app N17 N18q
  obtain ⟨fs, hr, hrun, hended, hW, hsame⟩ := X18.leave (v := some (.int (1 : Int32))) (fun h => by rw [Bd.returns] at h; cases h)
  refine ⟨_, _, pre0 _ ?_, hrun, hended, _, _, rfl, ?_, ⟨_, rfl⟩, hW, hsame.mono (by decide) (by decide)⟩
  · show Steps p.tables e below (s₁.setTop (mkF m 0 #[.val (.int p1), .val (.int p2), .unset, .unset, .unset, .unset, .unset, .unset, .unset] [])) _
    refine XS.iloadN X0.here hx rfl (hb hby at_0) rfl ?_
    show Steps p.tables e below (s₁.setTop (mkF m 1 #[.val (.int p1), .val (.int p2), .unset, .unset, .unset, .unset, .unset, .unset, .unset] [(.int p1)])) _
    refine st3 _ ?_
    show Steps p.tables e below (T3.setTop (mkF m 4 #[.val (.int p1), .val (.int p2), .unset, .unset, .unset, .unset, .unset, .unset, .unset] [(.ref (own_of p1 wL wE wG))])) _
    refine XS.astoreN X3.here hx rfl (hb hby at_4) rfl rfl (l' := #[.val (.int p1), .val (.int p2), .val (.ref (own_of p1 wL wE wG)), .unset, .unset, .unset, .unset, .unset, .unset]) rfl ?_
    show Steps p.tables e below (T3.setTop (mkF m 5 #[.val (.int p1), .val (.int p2), .val (.ref (own_of p1 wL wE wG)), .unset, .unset, .unset, .unset, .unset, .unset] [])) _
    refine XS.iloadN X3.here hx rfl (hb hby at_5) rfl ?_
    show Steps p.tables e below (T3.setTop (mkF m 6 #[.val (.int p1), .val (.int p2), .val (.ref (own_of p1 wL wE wG)), .unset, .unset, .unset, .unset, .unset, .unset] [(.int p2)])) _
    refine st4 _ ?_
    show Steps p.tables e below (T4.setTop (mkF m 9 #[.val (.int p1), .val (.int p2), .val (.ref (own_of p1 wL wE wG)), .unset, .unset, .unset, .unset, .unset, .unset] [(.ref (own_of p2 wL wE wG))])) _
    refine XS.astoreN X4.here hx rfl (hb hby at_9) rfl rfl (l' := #[.val (.int p1), .val (.int p2), .val (.ref (own_of p1 wL wE wG)), .val (.ref (own_of p2 wL wE wG)), .unset, .unset, .unset, .unset, .unset]) rfl ?_
    show Steps p.tables e below (T4.setTop (mkF m 10 #[.val (.int p1), .val (.int p2), .val (.ref (own_of p1 wL wE wG)), .val (.ref (own_of p2 wL wE wG)), .unset, .unset, .unset, .unset, .unset] [])) _
    refine XS.iconst X4.here hx rfl (hb hby at_10) ?_
    show Steps p.tables e below (T4.setTop (mkF m 11 #[.val (.int p1), .val (.int p2), .val (.ref (own_of p1 wL wE wG)), .val (.ref (own_of p2 wL wE wG)), .unset, .unset, .unset, .unset, .unset] [(.int (-1 : Int32))])) _
    refine st5 _ ?_
    show Steps p.tables e below (T5.setTop (mkF m 14 #[.val (.int p1), .val (.int p2), .val (.ref (own_of p1 wL wE wG)), .val (.ref (own_of p2 wL wE wG)), .unset, .unset, .unset, .unset, .unset] [(.ref (own_of (-1 : Int32) wL wE wG))])) _
    refine st7 _ ?_
    show Steps p.tables e below (T7.setTop (mkF m 17 #[.val (.int p1), .val (.int p2), .val (.ref (own_of p1 wL wE wG)), .val (.ref (own_of p2 wL wE wG)), .unset, .unset, .unset, .unset, .unset] [(.ref wL), (.ref (own_of (-1 : Int32) wL wE wG))])) _
    refine Jvm.RoadKit.acmp (g := (mkF m 17 #[.val (.int p1), .val (.int p2), .val (.ref (own_of p1 wL wE wG)), .val (.ref (own_of p2 wL wE wG)), .unset, .unset, .unset, .unset, .unset] [(.ref wL), (.ref (own_of (-1 : Int32) wL wE wG))])) X7 hx rfl rfl rfl (pc0 := 17) (pc' := 20) (same := true) rfl (hb hby at_17) rfl (decide_eq_true (congrArg Value.ref ha17)) (by decide) (by decide) ?_
    show Steps p.tables e below (T7.setTop (mkF m 20 #[.val (.int p1), .val (.int p2), .val (.ref (own_of p1 wL wE wG)), .val (.ref (own_of p2 wL wE wG)), .unset, .unset, .unset, .unset, .unset] [])) _
    refine XS.iconst X7.here hx rfl (hb hby at_20) ?_
    show Steps p.tables e below (T7.setTop (mkF m 21 #[.val (.int p1), .val (.int p2), .val (.ref (own_of p1 wL wE wG)), .val (.ref (own_of p2 wL wE wG)), .unset, .unset, .unset, .unset, .unset] [(.int (0 : Int32))])) _
    refine st8 _ ?_
    show Steps p.tables e below (T8.setTop (mkF m 24 #[.val (.int p1), .val (.int p2), .val (.ref (own_of p1 wL wE wG)), .val (.ref (own_of p2 wL wE wG)), .unset, .unset, .unset, .unset, .unset] [(.ref (own_of (0 : Int32) wL wE wG))])) _
    refine st10 _ ?_
    show Steps p.tables e below (T10.setTop (mkF m 27 #[.val (.int p1), .val (.int p2), .val (.ref (own_of p1 wL wE wG)), .val (.ref (own_of p2 wL wE wG)), .unset, .unset, .unset, .unset, .unset] [(.ref wE), (.ref (own_of (0 : Int32) wL wE wG))])) _
    refine Jvm.RoadKit.acmp (g := (mkF m 27 #[.val (.int p1), .val (.int p2), .val (.ref (own_of p1 wL wE wG)), .val (.ref (own_of p2 wL wE wG)), .unset, .unset, .unset, .unset, .unset] [(.ref wE), (.ref (own_of (0 : Int32) wL wE wG))])) X10 hx rfl rfl rfl (pc0 := 27) (pc' := 30) (same := true) rfl (hb hby at_27) rfl (decide_eq_true (congrArg Value.ref ha27)) (by decide) (by decide) ?_
    show Steps p.tables e below (T10.setTop (mkF m 30 #[.val (.int p1), .val (.int p2), .val (.ref (own_of p1 wL wE wG)), .val (.ref (own_of p2 wL wE wG)), .unset, .unset, .unset, .unset, .unset] [])) _
    refine XS.iconst X10.here hx rfl (hb hby at_30) ?_
    show Steps p.tables e below (T10.setTop (mkF m 31 #[.val (.int p1), .val (.int p2), .val (.ref (own_of p1 wL wE wG)), .val (.ref (own_of p2 wL wE wG)), .unset, .unset, .unset, .unset, .unset] [(.int (1 : Int32))])) _
    refine st11 _ ?_
    show Steps p.tables e below (T11.setTop (mkF m 34 #[.val (.int p1), .val (.int p2), .val (.ref (own_of p1 wL wE wG)), .val (.ref (own_of p2 wL wE wG)), .unset, .unset, .unset, .unset, .unset] [(.ref (own_of (1 : Int32) wL wE wG))])) _
    refine st13 _ ?_
    show Steps p.tables e below (T13.setTop (mkF m 37 #[.val (.int p1), .val (.int p2), .val (.ref (own_of p1 wL wE wG)), .val (.ref (own_of p2 wL wE wG)), .unset, .unset, .unset, .unset, .unset] [(.ref wG), (.ref (own_of (1 : Int32) wL wE wG))])) _
    refine Jvm.RoadKit.acmp (g := (mkF m 37 #[.val (.int p1), .val (.int p2), .val (.ref (own_of p1 wL wE wG)), .val (.ref (own_of p2 wL wE wG)), .unset, .unset, .unset, .unset, .unset] [(.ref wG), (.ref (own_of (1 : Int32) wL wE wG))])) X13 hx rfl rfl rfl (pc0 := 37) (pc' := 40) (same := true) rfl (hb hby at_37) rfl (decide_eq_true (congrArg Value.ref ha37)) (by decide) (by decide) ?_
    show Steps p.tables e below (T13.setTop (mkF m 40 #[.val (.int p1), .val (.int p2), .val (.ref (own_of p1 wL wE wG)), .val (.ref (own_of p2 wL wE wG)), .unset, .unset, .unset, .unset, .unset] [])) _
    refine XS.iconst X13.here hx rfl (hb hby at_40) ?_
    show Steps p.tables e below (T13.setTop (mkF m 41 #[.val (.int p1), .val (.int p2), .val (.ref (own_of p1 wL wE wG)), .val (.ref (own_of p2 wL wE wG)), .unset, .unset, .unset, .unset, .unset] [(.int (1 : Int32))])) _
    refine XS.goto X13.here hx rfl (pc0 := 41) (pc' := 45) rfl (hb hby at_41) (by decide) (by decide) ?_
    show Steps p.tables e below (T13.setTop (mkF m 45 #[.val (.int p1), .val (.int p2), .val (.ref (own_of p1 wL wE wG)), .val (.ref (own_of p2 wL wE wG)), .unset, .unset, .unset, .unset, .unset] [(.int (1 : Int32))])) _
    refine XS.istore X13.here hx rfl (hb hby at_45) rfl (l' := #[.val (.int p1), .val (.int p2), .val (.ref (own_of p1 wL wE wG)), .val (.ref (own_of p2 wL wE wG)), .val (.int (1 : Int32)), .unset, .unset, .unset, .unset]) rfl ?_
    show Steps p.tables e below (T13.setTop (mkF m 47 #[.val (.int p1), .val (.int p2), .val (.ref (own_of p1 wL wE wG)), .val (.ref (own_of p2 wL wE wG)), .val (.int (1 : Int32)), .unset, .unset, .unset, .unset] [])) _
    refine XS.aloadN X13.here hx rfl (hb hby at_47) rfl rfl ?_
    show Steps p.tables e below (T13.setTop (mkF m 48 #[.val (.int p1), .val (.int p2), .val (.ref (own_of p1 wL wE wG)), .val (.ref (own_of p2 wL wE wG)), .val (.int (1 : Int32)), .unset, .unset, .unset, .unset] [(.ref (own_of p1 wL wE wG))])) _
    refine XS.ifnullNo X13.here hx rfl (hb hby at_48) rfl ?_
    show Steps p.tables e below (T13.setTop (mkF m 51 #[.val (.int p1), .val (.int p2), .val (.ref (own_of p1 wL wE wG)), .val (.ref (own_of p2 wL wE wG)), .val (.int (1 : Int32)), .unset, .unset, .unset, .unset] [])) _
    refine XS.aloadN X13.here hx rfl (hb hby at_51) rfl rfl ?_
    show Steps p.tables e below (T13.setTop (mkF m 52 #[.val (.int p1), .val (.int p2), .val (.ref (own_of p1 wL wE wG)), .val (.ref (own_of p2 wL wE wG)), .val (.int (1 : Int32)), .unset, .unset, .unset, .unset] [(.ref (own_of p2 wL wE wG))])) _
    refine XS.ifnullNo X13.here hx rfl (hb hby at_52) rfl ?_
    show Steps p.tables e below (T13.setTop (mkF m 55 #[.val (.int p1), .val (.int p2), .val (.ref (own_of p1 wL wE wG)), .val (.ref (own_of p2 wL wE wG)), .val (.int (1 : Int32)), .unset, .unset, .unset, .unset] [])) _
    refine XS.aloadN X13.here hx rfl (hb hby at_55) rfl rfl ?_
    show Steps p.tables e below (T13.setTop (mkF m 56 #[.val (.int p1), .val (.int p2), .val (.ref (own_of p1 wL wE wG)), .val (.ref (own_of p2 wL wE wG)), .val (.int (1 : Int32)), .unset, .unset, .unset, .unset] [(.ref (own_of p1 wL wE wG))])) _
    refine st15 _ ?_
    show Steps p.tables e below (T15.setTop (mkF m 59 #[.val (.int p1), .val (.int p2), .val (.ref (own_of p1 wL wE wG)), .val (.ref (own_of p2 wL wE wG)), .val (.int (1 : Int32)), .unset, .unset, .unset, .unset] [(.ref wI), (.ref (own_of p1 wL wE wG))])) _
    refine Jvm.RoadKit.acmp (g := (mkF m 59 #[.val (.int p1), .val (.int p2), .val (.ref (own_of p1 wL wE wG)), .val (.ref (own_of p2 wL wE wG)), .val (.int (1 : Int32)), .unset, .unset, .unset, .unset] [(.ref wI), (.ref (own_of p1 wL wE wG))])) X15 hx rfl rfl rfl (pc0 := 59) (pc' := 62) (same := false) rfl (hb hby at_59) rfl (decide_eq_false fun q => ha59 (Value.ref.inj q)) (by decide) (by decide) ?_
    show Steps p.tables e below (T15.setTop (mkF m 62 #[.val (.int p1), .val (.int p2), .val (.ref (own_of p1 wL wE wG)), .val (.ref (own_of p2 wL wE wG)), .val (.int (1 : Int32)), .unset, .unset, .unset, .unset] [])) _
    refine XS.aloadN X15.here hx rfl (hb hby at_62) rfl rfl ?_
    show Steps p.tables e below (T15.setTop (mkF m 63 #[.val (.int p1), .val (.int p2), .val (.ref (own_of p1 wL wE wG)), .val (.ref (own_of p2 wL wE wG)), .val (.int (1 : Int32)), .unset, .unset, .unset, .unset] [(.ref (own_of p2 wL wE wG))])) _
    refine st16 _ ?_
    show Steps p.tables e below (T16.setTop (mkF m 66 #[.val (.int p1), .val (.int p2), .val (.ref (own_of p1 wL wE wG)), .val (.ref (own_of p2 wL wE wG)), .val (.int (1 : Int32)), .unset, .unset, .unset, .unset] [(.ref wI), (.ref (own_of p2 wL wE wG))])) _
    refine Jvm.RoadKit.acmp (g := (mkF m 66 #[.val (.int p1), .val (.int p2), .val (.ref (own_of p1 wL wE wG)), .val (.ref (own_of p2 wL wE wG)), .val (.int (1 : Int32)), .unset, .unset, .unset, .unset] [(.ref wI), (.ref (own_of p2 wL wE wG))])) X16 hx rfl rfl rfl (pc0 := 66) (pc' := 69) (same := false) rfl (hb hby at_66) rfl (decide_eq_false fun q => ha66 (Value.ref.inj q)) (by decide) (by decide) ?_
    show Steps p.tables e below (T16.setTop (mkF m 69 #[.val (.int p1), .val (.int p2), .val (.ref (own_of p1 wL wE wG)), .val (.ref (own_of p2 wL wE wG)), .val (.int (1 : Int32)), .unset, .unset, .unset, .unset] [])) _
    refine XS.iconst X16.here hx rfl (hb hby at_69) ?_
    show Steps p.tables e below (T16.setTop (mkF m 70 #[.val (.int p1), .val (.int p2), .val (.ref (own_of p1 wL wE wG)), .val (.ref (own_of p2 wL wE wG)), .val (.int (1 : Int32)), .unset, .unset, .unset, .unset] [(.int (1 : Int32))])) _
    refine XS.goto X16.here hx rfl (pc0 := 70) (pc' := 74) rfl (hb hby at_70) (by decide) (by decide) ?_
    show Steps p.tables e below (T16.setTop (mkF m 74 #[.val (.int p1), .val (.int p2), .val (.ref (own_of p1 wL wE wG)), .val (.ref (own_of p2 wL wE wG)), .val (.int (1 : Int32)), .unset, .unset, .unset, .unset] [(.int (1 : Int32))])) _
    refine XS.istore X16.here hx rfl (hb hby at_74) rfl (l' := #[.val (.int p1), .val (.int p2), .val (.ref (own_of p1 wL wE wG)), .val (.ref (own_of p2 wL wE wG)), .val (.int (1 : Int32)), .val (.int (1 : Int32)), .unset, .unset, .unset]) rfl ?_
    show Steps p.tables e below (T16.setTop (mkF m 76 #[.val (.int p1), .val (.int p2), .val (.ref (own_of p1 wL wE wG)), .val (.ref (own_of p2 wL wE wG)), .val (.int (1 : Int32)), .val (.int (1 : Int32)), .unset, .unset, .unset] [])) _
    refine XS.iload X16.here hx rfl (hb hby at_76) rfl ?_
    show Steps p.tables e below (T16.setTop (mkF m 78 #[.val (.int p1), .val (.int p2), .val (.ref (own_of p1 wL wE wG)), .val (.ref (own_of p2 wL wE wG)), .val (.int (1 : Int32)), .val (.int (1 : Int32)), .unset, .unset, .unset] [(.int (1 : Int32))])) _
    refine XS.ifNo X16.here hx rfl (hb hby at_78) rfl ((if0 _ _).trans (feq hc78).1) ?_
    show Steps p.tables e below (T16.setTop (mkF m 81 #[.val (.int p1), .val (.int p2), .val (.ref (own_of p1 wL wE wG)), .val (.ref (own_of p2 wL wE wG)), .val (.int (1 : Int32)), .val (.int (1 : Int32)), .unset, .unset, .unset] [])) _
    refine XS.iload X16.here hx rfl (hb hby at_81) rfl ?_
    show Steps p.tables e below (T16.setTop (mkF m 83 #[.val (.int p1), .val (.int p2), .val (.ref (own_of p1 wL wE wG)), .val (.ref (own_of p2 wL wE wG)), .val (.int (1 : Int32)), .val (.int (1 : Int32)), .unset, .unset, .unset] [(.int (1 : Int32))])) _
    refine XS.ifYes X16.here hx rfl (pc0 := 83) (pc' := 88) rfl (hb hby at_83) rfl ((if0 _ _).trans (feq hc83).2) (by decide) (by decide) ?_
    show Steps p.tables e below (T16.setTop (mkF m 88 #[.val (.int p1), .val (.int p2), .val (.ref (own_of p1 wL wE wG)), .val (.ref (own_of p2 wL wE wG)), .val (.int (1 : Int32)), .val (.int (1 : Int32)), .unset, .unset, .unset] [])) _
    refine XS.iloadN X16.here hx rfl (hb hby at_88) rfl ?_
    show Steps p.tables e below (T16.setTop (mkF m 89 #[.val (.int p1), .val (.int p2), .val (.ref (own_of p1 wL wE wG)), .val (.ref (own_of p2 wL wE wG)), .val (.int (1 : Int32)), .val (.int (1 : Int32)), .unset, .unset, .unset] [(.int p1)])) _
    refine XS.iloadN X16.here hx rfl (hb hby at_89) rfl ?_
    show Steps p.tables e below (T16.setTop (mkF m 90 #[.val (.int p1), .val (.int p2), .val (.ref (own_of p1 wL wE wG)), .val (.ref (own_of p2 wL wE wG)), .val (.int (1 : Int32)), .val (.int (1 : Int32)), .unset, .unset, .unset] [(.int p2), (.int p1)])) _
    refine XS.icmpNo X16.here hx rfl (hb hby at_90) rfl (flt hc90).2.2.1 ?_
    show Steps p.tables e below (T16.setTop (mkF m 93 #[.val (.int p1), .val (.int p2), .val (.ref (own_of p1 wL wE wG)), .val (.ref (own_of p2 wL wE wG)), .val (.int (1 : Int32)), .val (.int (1 : Int32)), .unset, .unset, .unset] [])) _
    refine XS.aloadN X16.here hx rfl (hb hby at_93) rfl rfl ?_
    show Steps p.tables e below (T16.setTop (mkF m 94 #[.val (.int p1), .val (.int p2), .val (.ref (own_of p1 wL wE wG)), .val (.ref (own_of p2 wL wE wG)), .val (.int (1 : Int32)), .val (.int (1 : Int32)), .unset, .unset, .unset] [(.ref (own_of p1 wL wE wG))])) _
    refine st17.trans ?_
    show Steps p.tables e below (T17.setTop (mkF m 97 #[.val (.int p1), .val (.int p2), .val (.ref (own_of p1 wL wE wG)), .val (.ref (own_of p2 wL wE wG)), .val (.int (1 : Int32)), .val (.int (1 : Int32)), .unset, .unset, .unset] [(.int (own_ord p1))])) _
    refine XS.aloadN X17.here hx rfl (hb hby at_97) rfl rfl ?_
    show Steps p.tables e below (T17.setTop (mkF m 98 #[.val (.int p1), .val (.int p2), .val (.ref (own_of p1 wL wE wG)), .val (.ref (own_of p2 wL wE wG)), .val (.int (1 : Int32)), .val (.int (1 : Int32)), .unset, .unset, .unset] [(.ref (own_of p2 wL wE wG)), (.int (own_ord p1))])) _
    refine st18.trans ?_
    show Steps p.tables e below (T18.setTop (mkF m 101 #[.val (.int p1), .val (.int p2), .val (.ref (own_of p1 wL wE wG)), .val (.ref (own_of p2 wL wE wG)), .val (.int (1 : Int32)), .val (.int (1 : Int32)), .unset, .unset, .unset] [(.int (own_ord p2)), (.int (own_ord p1))])) _
    refine XS.icmpNo X18.here hx rfl (hb hby at_101) rfl (flt ((own_up hc90) : ¬ ((own_ord p2) < (own_ord p1)))).2.2.1 ?_
    show Steps p.tables e below (T18.setTop (mkF m 104 #[.val (.int p1), .val (.int p2), .val (.ref (own_of p1 wL wE wG)), .val (.ref (own_of p2 wL wE wG)), .val (.int (1 : Int32)), .val (.int (1 : Int32)), .unset, .unset, .unset] [])) _
    refine XS.iconst X18.here hx rfl (hb hby at_104) ?_
    show Steps p.tables e below (T18.setTop (mkF m 105 #[.val (.int p1), .val (.int p2), .val (.ref (own_of p1 wL wE wG)), .val (.ref (own_of p2 wL wE wG)), .val (.int (1 : Int32)), .val (.int (1 : Int32)), .unset, .unset, .unset] [(.int (1 : Int32))])) _
    refine XS.goto X18.here hx rfl (pc0 := 105) (pc' := 128) rfl (hb hby at_105) (by decide) (by decide) ?_
    show Steps p.tables e below (T18.setTop (mkF m 128 #[.val (.int p1), .val (.int p2), .val (.ref (own_of p1 wL wE wG)), .val (.ref (own_of p2 wL wE wG)), .val (.int (1 : Int32)), .val (.int (1 : Int32)), .unset, .unset, .unset] [(.int (1 : Int32))])) _
    refine XS.istore X18.here hx rfl (hb hby at_128) rfl (l' := #[.val (.int p1), .val (.int p2), .val (.ref (own_of p1 wL wE wG)), .val (.ref (own_of p2 wL wE wG)), .val (.int (1 : Int32)), .val (.int (1 : Int32)), .val (.int (1 : Int32)), .unset, .unset]) rfl ?_
    show Steps p.tables e below (T18.setTop (mkF m 130 #[.val (.int p1), .val (.int p2), .val (.ref (own_of p1 wL wE wG)), .val (.ref (own_of p2 wL wE wG)), .val (.int (1 : Int32)), .val (.int (1 : Int32)), .val (.int (1 : Int32)), .unset, .unset] [])) _
    refine XS.iconst X18.here hx rfl (hb hby at_130) ?_
    show Steps p.tables e below (T18.setTop (mkF m 131 #[.val (.int p1), .val (.int p2), .val (.ref (own_of p1 wL wE wG)), .val (.ref (own_of p2 wL wE wG)), .val (.int (1 : Int32)), .val (.int (1 : Int32)), .val (.int (1 : Int32)), .unset, .unset] [(.int (1 : Int32))])) _
    refine XS.istore X18.here hx rfl (hb hby at_131) rfl (l' := #[.val (.int p1), .val (.int p2), .val (.ref (own_of p1 wL wE wG)), .val (.ref (own_of p2 wL wE wG)), .val (.int (1 : Int32)), .val (.int (1 : Int32)), .val (.int (1 : Int32)), .val (.int (1 : Int32)), .unset]) rfl ?_
    show Steps p.tables e below (T18.setTop (mkF m 133 #[.val (.int p1), .val (.int p2), .val (.ref (own_of p1 wL wE wG)), .val (.ref (own_of p2 wL wE wG)), .val (.int (1 : Int32)), .val (.int (1 : Int32)), .val (.int (1 : Int32)), .val (.int (1 : Int32)), .unset] [])) _
    refine XS.iloadN X18.here hx rfl (hb hby at_133) rfl ?_
    show Steps p.tables e below (T18.setTop (mkF m 134 #[.val (.int p1), .val (.int p2), .val (.ref (own_of p1 wL wE wG)), .val (.ref (own_of p2 wL wE wG)), .val (.int (1 : Int32)), .val (.int (1 : Int32)), .val (.int (1 : Int32)), .val (.int (1 : Int32)), .unset] [(.int p1)])) _
    refine X18.ldcInt hx hown (mvT hZ (hw _ (List.mem_of_getElem? (i := 24) rfl))) (g := (mkF m 134 #[.val (.int p1), .val (.int p2), .val (.ref (own_of p1 wL wE wG)), .val (.ref (own_of p2 wL wE wG)), .val (.int (1 : Int32)), .val (.int (1 : Int32)), .val (.int (1 : Int32)), .val (.int (1 : Int32)), .unset] [(.int p1)])) rfl (hb hby at_134) _ ?_
    show Steps p.tables e below (T18.setTop (mkF m 136 #[.val (.int p1), .val (.int p2), .val (.ref (own_of p1 wL wE wG)), .val (.ref (own_of p2 wL wE wG)), .val (.int (1 : Int32)), .val (.int (1 : Int32)), .val (.int (1 : Int32)), .val (.int (1 : Int32)), .unset] [(.int (-2147483648 : Int32)), (.int p1)])) _
    refine XS.icmpYes X18.here hx rfl (pc0 := 136) (pc' := 172) rfl (hb hby at_136) rfl (teq hc136).1 (by decide) (by decide) ?_
    show Steps p.tables e below (T18.setTop (mkF m 172 #[.val (.int p1), .val (.int p2), .val (.ref (own_of p1 wL wE wG)), .val (.ref (own_of p2 wL wE wG)), .val (.int (1 : Int32)), .val (.int (1 : Int32)), .val (.int (1 : Int32)), .val (.int (1 : Int32)), .unset] [])) _
    refine XS.iload X18.here hx rfl (hb hby at_172) rfl ?_
    show Steps p.tables e below (T18.setTop (mkF m 174 #[.val (.int p1), .val (.int p2), .val (.ref (own_of p1 wL wE wG)), .val (.ref (own_of p2 wL wE wG)), .val (.int (1 : Int32)), .val (.int (1 : Int32)), .val (.int (1 : Int32)), .val (.int (1 : Int32)), .unset] [(.int (1 : Int32))])) _
    refine XS.ifNo X18.here hx rfl (hb hby at_174) rfl ((if0 _ _).trans (feq hc174).1) ?_
    show Steps p.tables e below (T18.setTop (mkF m 177 #[.val (.int p1), .val (.int p2), .val (.ref (own_of p1 wL wE wG)), .val (.ref (own_of p2 wL wE wG)), .val (.int (1 : Int32)), .val (.int (1 : Int32)), .val (.int (1 : Int32)), .val (.int (1 : Int32)), .unset] [])) _
    refine XS.iload X18.here hx rfl (hb hby at_177) rfl ?_
    show Steps p.tables e below (T18.setTop (mkF m 179 #[.val (.int p1), .val (.int p2), .val (.ref (own_of p1 wL wE wG)), .val (.ref (own_of p2 wL wE wG)), .val (.int (1 : Int32)), .val (.int (1 : Int32)), .val (.int (1 : Int32)), .val (.int (1 : Int32)), .unset] [(.int (1 : Int32))])) _
    refine XS.ifNo X18.here hx rfl (hb hby at_179) rfl ((if0 _ _).trans (feq hc179).1) ?_
    show Steps p.tables e below (T18.setTop (mkF m 182 #[.val (.int p1), .val (.int p2), .val (.ref (own_of p1 wL wE wG)), .val (.ref (own_of p2 wL wE wG)), .val (.int (1 : Int32)), .val (.int (1 : Int32)), .val (.int (1 : Int32)), .val (.int (1 : Int32)), .unset] [])) _
    refine XS.iconst X18.here hx rfl (hb hby at_182) ?_
    show Steps p.tables e below (T18.setTop (mkF m 183 #[.val (.int p1), .val (.int p2), .val (.ref (own_of p1 wL wE wG)), .val (.ref (own_of p2 wL wE wG)), .val (.int (1 : Int32)), .val (.int (1 : Int32)), .val (.int (1 : Int32)), .val (.int (1 : Int32)), .unset] [(.int (1 : Int32))])) _
    refine XS.goto X18.here hx rfl (pc0 := 183) (pc' := 187) rfl (hb hby at_183) (by decide) (by decide) ?_
    show Steps p.tables e below (T18.setTop (mkF m 187 #[.val (.int p1), .val (.int p2), .val (.ref (own_of p1 wL wE wG)), .val (.ref (own_of p2 wL wE wG)), .val (.int (1 : Int32)), .val (.int (1 : Int32)), .val (.int (1 : Int32)), .val (.int (1 : Int32)), .unset] [(.int (1 : Int32))])) _
    exact retN X18 hx (t := .boolean) Bd.returns (by simp) (hb hby at_187) hr
  · show Q0 Z h0 n0 _ T18.heap _
    exact ⟨rfl, N18⟩
set_option maxRecDepth 65536 in
set_option maxHeartbeats 40000000 in
theorem rm0c (l : Launch) (Z : State) (a0 : Array Value) (hw : ∀ d ∈ tables_1, d.before a0 Z = true) (ws : List Jvm.Cond) (p1 : Int32) (p2 : Int32) (wL wE wG wI : Addr) (h0 : Heap) (n0 : Nat) (Z0 : n0 ≤ h0.size) (S_LESS : Sta Z h0 "com/example/assessor/assessor/datatypes/AtomicValue$Order" "LESS" "Lcom/example/assessor/assessor/datatypes/AtomicValue$Order;" (.ref wL)) (E_LESS : Exa Z h0 wL "com/example/assessor/assessor/datatypes/AtomicValue$Order") (F_LESS : Fld Z h0 wL "java/lang/Enum" "ordinal" "I" (.int (0 : Int32))) (S_EQUAL : Sta Z h0 "com/example/assessor/assessor/datatypes/AtomicValue$Order" "EQUAL" "Lcom/example/assessor/assessor/datatypes/AtomicValue$Order;" (.ref wE)) (E_EQUAL : Exa Z h0 wE "com/example/assessor/assessor/datatypes/AtomicValue$Order") (F_EQUAL : Fld Z h0 wE "java/lang/Enum" "ordinal" "I" (.int (1 : Int32))) (S_GREATER : Sta Z h0 "com/example/assessor/assessor/datatypes/AtomicValue$Order" "GREATER" "Lcom/example/assessor/assessor/datatypes/AtomicValue$Order;" (.ref wG)) (E_GREATER : Exa Z h0 wG "com/example/assessor/assessor/datatypes/AtomicValue$Order") (F_GREATER : Fld Z h0 wG "java/lang/Enum" "ordinal" "I" (.int (2 : Int32))) (S_INCOMPARABLE : Sta Z h0 "com/example/assessor/assessor/datatypes/AtomicValue$Order" "INCOMPARABLE" "Lcom/example/assessor/assessor/datatypes/AtomicValue$Order;" (.ref wI)) (E_INCOMPARABLE : Exa Z h0 wI "com/example/assessor/assessor/datatypes/AtomicValue$Order") (F_INCOMPARABLE : Fld Z h0 wI "java/lang/Enum" "ordinal" "I" (.int (3 : Int32))) (hc90 : p2 < p1) (hc136 : ¬ (p1 = (-2147483648 : Int32))) :
    MetFree l x (head1 (Jvm.Cond.code x code maxLocals ret :: ws) room_1) (fun a U => a = #[(.int p1), (.int p2)] ∧ Z.Warmed39 U.vm ∧ U.heap = h0) (fun _ _ _ _ _ => True) (fun _ U o U' => ∃ v L, o = .returned v ∧ Q0 Z h0 n0 v U'.heap L ∧ FrameEnd U o U' L room_1.cells room_1.slots) := by
  have hc78 : ¬ ((1 : Int32) = (0 : Int32)) := by decide
  have hc83 : ¬ ((1 : Int32) = (0 : Int32)) := by decide
  have hc174 : ¬ ((1 : Int32) = (0 : Int32)) := by decide
  have hc179 : ¬ ((1 : Int32) = (0 : Int32)) := by decide
  have ha17 : (own_of (-1 : Int32) wL wE wG) = wL := own_ofL (by decide) wL wE wG
  have ha27 : (own_of (0 : Int32) wL wE wG) = wE := own_ofE (by decide) (by decide) wL wE wG
  have ha37 : (own_of (1 : Int32) wL wE wG) = wG := own_ofG (by decide) (by decide) wL wE wG
  have ha59 : ¬ ((own_of p1 wL wE wG) = wI) := own_fne (own_F p1 F_LESS F_EQUAL F_GREATER) F_INCOMPARABLE (own_ord3 p1)
  have ha66 : ¬ ((own_of p2 wL wE wG) = wI) := own_fne (own_F p2 F_LESS F_EQUAL F_GREATER) F_INCOMPARABLE (own_ord3 p2)
  refine MetFree.of_bodySF (plainFor_of_name pn_0) hisR ?_
  intro p e s m args below meth c s₁ Bd hml0 hP hK
  obtain ⟨rfl, hZ, hh⟩ := hP
  have hx := Bd.exec
  have hby := Bd.bytes
  have hml : c.maxLocals = 9 := hml0
  have hown : s.vm.findClass "com/example/assessor/assessor/datatypes/OrderOfPinLaw" = some m.cls := findClass_of_methodNamed Bd.named
  have hnm := (name_of_methodNamed Bd.named Bd.method).1
  have X0 : Stand p l e room_1 s m #[(.int p1), (.int p2)] below meth c s₁ [] 0 0 := Stand.of_body Bd
  have e0 : s₁.heap = h0 := by rw [← hh, Bd.state]; rfl
  have N0 := Fr.nil n0
  have pre0 : ∀ t, Steps p.tables e below (s₁.setTop (mkF m 0 #[.val (.int p1), .val (.int p2), .unset, .unset, .unset, .unset, .unset, .unset, .unset] [])) t → Steps p.tables e below (s₁.setTop (entryFrame m #[(.int p1), (.int p2)] maxLocals)) t := fun t k => castTop (ef_0 m p1 p2) k
  obtain ⟨_, _, ⟨T3, L3, k3, n3⟩, -, X3, ⟨Lc3, hQ3, l3, y3, z3⟩, st3⟩ := Jvm.LawKit.callS X0 hx (y := (⟨"com/example/assessor/assessor/datatypes/AtomicValue$Order", "of", "(I)Lcom/example/assessor/assessor/datatypes/AtomicValue$Order;"⟩ : MethodName)) hown (mvT hZ (hw _ (List.mem_of_getElem? (i := 0) rfl))) (mvT hZ (hw _ (List.mem_of_getElem? (i := 1) rfl))) (mvT hZ (hw _ (List.mem_of_getElem? (i := 2) rfl))) (mvT hZ (hw _ (List.mem_of_getElem? (i := 3) rfl))) (by decide) (backOf (W := 0) (rm1 l Z a0 hw [] p1 wL wE wG h0 n0 Z0 S_LESS S_EQUAL S_GREATER) hZ (hw _ (List.mem_of_getElem? (i := 3) rfl)) (hw _ (List.mem_of_getElem? (i := 2) rfl)) (by decide) (by decide)) (g := (mkF m 1 #[.val (.int p1), .val (.int p2), .unset, .unset, .unset, .unset, .unset, .unset, .unset] [(.int p1)])) rfl (by rw [hml]; rfl) (argsL := [(.int p1)]) (rest := []) (lenOf pd_0_0 rfl) rfl (by show 2 * 0 + _ ≤ _; exact Nat.le_of_eq rfl) (hb hby at_1) (fun _ _ => ⟨rfl, e0, (by decide : 0 + 0 ≤ _), (by decide : 0 + 0 ≤ _)⟩)
  dsimp only [Pt.U, Pt.locs, Pt.cells, Pt.slots] at X3 l3 y3 z3 st3 hQ3
  subst l3 y3 z3
  obtain ⟨rfl, N3q, q3e⟩ := hQ3
  have N3 := Fr.app N0 N3q
  obtain ⟨_, _, ⟨T4, L4, k4, n4⟩, -, X4, ⟨Lc4, hQ4, l4, y4, z4⟩, st4⟩ := Jvm.LawKit.callS X3 hx (y := (⟨"com/example/assessor/assessor/datatypes/AtomicValue$Order", "of", "(I)Lcom/example/assessor/assessor/datatypes/AtomicValue$Order;"⟩ : MethodName)) hown (mvT hZ (hw _ (List.mem_of_getElem? (i := 0) rfl))) (mvT hZ (hw _ (List.mem_of_getElem? (i := 1) rfl))) (mvT hZ (hw _ (List.mem_of_getElem? (i := 2) rfl))) (mvT hZ (hw _ (List.mem_of_getElem? (i := 3) rfl))) (by decide) (backOf (W := 0) (rm1 l Z a0 hw [] p2 wL wE wG h0 n0 Z0 S_LESS S_EQUAL S_GREATER) hZ (hw _ (List.mem_of_getElem? (i := 3) rfl)) (hw _ (List.mem_of_getElem? (i := 2) rfl)) (by decide) (by decide)) (g := (mkF m 6 #[.val (.int p1), .val (.int p2), .val (.ref (own_of p1 wL wE wG)), .unset, .unset, .unset, .unset, .unset, .unset] [(.int p2)])) rfl (by rw [hml]; rfl) (argsL := [(.int p2)]) (rest := []) (lenOf pd_0_0 rfl) rfl (by show 2 * 0 + _ ≤ _; exact Nat.le_of_eq rfl) (hb hby at_6) (fun _ _ => ⟨rfl, q3e, (by decide : 0 + 0 ≤ _), (by decide : 0 + 0 ≤ _)⟩)
  dsimp only [Pt.U, Pt.locs, Pt.cells, Pt.slots] at X4 l4 y4 z4 st4 hQ4
  subst l4 y4 z4
  obtain ⟨rfl, N4q, q4e⟩ := hQ4
  have N4 := Fr.app N3 N4q
  obtain ⟨_, _, ⟨T5, L5, k5, n5⟩, -, X5, ⟨Lc5, hQ5, l5, y5, z5⟩, st5⟩ := Jvm.LawKit.callS X4 hx (y := (⟨"com/example/assessor/assessor/datatypes/AtomicValue$Order", "of", "(I)Lcom/example/assessor/assessor/datatypes/AtomicValue$Order;"⟩ : MethodName)) hown (mvT hZ (hw _ (List.mem_of_getElem? (i := 0) rfl))) (mvT hZ (hw _ (List.mem_of_getElem? (i := 1) rfl))) (mvT hZ (hw _ (List.mem_of_getElem? (i := 2) rfl))) (mvT hZ (hw _ (List.mem_of_getElem? (i := 3) rfl))) (by decide) (backOf (W := 0) (rm1 l Z a0 hw [] (-1 : Int32) wL wE wG h0 n0 Z0 S_LESS S_EQUAL S_GREATER) hZ (hw _ (List.mem_of_getElem? (i := 3) rfl)) (hw _ (List.mem_of_getElem? (i := 2) rfl)) (by decide) (by decide)) (g := (mkF m 11 #[.val (.int p1), .val (.int p2), .val (.ref (own_of p1 wL wE wG)), .val (.ref (own_of p2 wL wE wG)), .unset, .unset, .unset, .unset, .unset] [(.int (-1 : Int32))])) rfl (by rw [hml]; rfl) (argsL := [(.int (-1 : Int32))]) (rest := []) (lenOf pd_0_0 rfl) rfl (by show 2 * 0 + _ ≤ _; exact Nat.le_of_eq rfl) (hb hby at_11) (fun _ _ => ⟨rfl, q4e, (by decide : 0 + 0 ≤ _), (by decide : 0 + 0 ≤ _)⟩)
  dsimp only [Pt.U, Pt.locs, Pt.cells, Pt.slots] at X5 l5 y5 z5 st5 hQ5
  subst l5 y5 z5
  obtain ⟨rfl, N5q, q5e⟩ := hQ5
  have N5 := Fr.app N4 N5q
  obtain ⟨T7, X7, e7, st7⟩ := getS2 X5 hx hZ hown (host := "") (Or.inl (hw _ (List.mem_of_getElem? (i := 10) rfl))) Via.refl q5e S_LESS (g := (mkF m 14 #[.val (.int p1), .val (.int p2), .val (.ref (own_of p1 wL wE wG)), .val (.ref (own_of p2 wL wE wG)), .unset, .unset, .unset, .unset, .unset] [(.ref (own_of (-1 : Int32) wL wE wG))])) rfl (hb hby at_14)
  obtain ⟨_, _, ⟨T8, L8, k8, n8⟩, -, X8, ⟨Lc8, hQ8, l8, y8, z8⟩, st8⟩ := Jvm.LawKit.callS X7 hx (y := (⟨"com/example/assessor/assessor/datatypes/AtomicValue$Order", "of", "(I)Lcom/example/assessor/assessor/datatypes/AtomicValue$Order;"⟩ : MethodName)) hown (mvT hZ (hw _ (List.mem_of_getElem? (i := 0) rfl))) (mvT hZ (hw _ (List.mem_of_getElem? (i := 1) rfl))) (mvT hZ (hw _ (List.mem_of_getElem? (i := 2) rfl))) (mvT hZ (hw _ (List.mem_of_getElem? (i := 3) rfl))) (by decide) (backOf (W := 0) (rm1 l Z a0 hw [] (0 : Int32) wL wE wG h0 n0 Z0 S_LESS S_EQUAL S_GREATER) hZ (hw _ (List.mem_of_getElem? (i := 3) rfl)) (hw _ (List.mem_of_getElem? (i := 2) rfl)) (by decide) (by decide)) (g := (mkF m 21 #[.val (.int p1), .val (.int p2), .val (.ref (own_of p1 wL wE wG)), .val (.ref (own_of p2 wL wE wG)), .unset, .unset, .unset, .unset, .unset] [(.int (0 : Int32))])) rfl (by rw [hml]; rfl) (argsL := [(.int (0 : Int32))]) (rest := []) (lenOf pd_0_0 rfl) rfl (by show 2 * 0 + _ ≤ _; exact Nat.le_of_eq rfl) (hb hby at_21) (fun _ _ => ⟨rfl, e7, (by decide : 0 + 0 ≤ _), (by decide : 0 + 0 ≤ _)⟩)
  dsimp only [Pt.U, Pt.locs, Pt.cells, Pt.slots] at X8 l8 y8 z8 st8 hQ8
  subst l8 y8 z8
  obtain ⟨rfl, N8q, q8e⟩ := hQ8
  have N8 := Fr.app N5 N8q
  obtain ⟨T10, X10, e10, st10⟩ := getS2 X8 hx hZ hown (host := "") (Or.inl (hw _ (List.mem_of_getElem? (i := 11) rfl))) Via.refl q8e S_EQUAL (g := (mkF m 24 #[.val (.int p1), .val (.int p2), .val (.ref (own_of p1 wL wE wG)), .val (.ref (own_of p2 wL wE wG)), .unset, .unset, .unset, .unset, .unset] [(.ref (own_of (0 : Int32) wL wE wG))])) rfl (hb hby at_24)
  obtain ⟨_, _, ⟨T11, L11, k11, n11⟩, -, X11, ⟨Lc11, hQ11, l11, y11, z11⟩, st11⟩ := Jvm.LawKit.callS X10 hx (y := (⟨"com/example/assessor/assessor/datatypes/AtomicValue$Order", "of", "(I)Lcom/example/assessor/assessor/datatypes/AtomicValue$Order;"⟩ : MethodName)) hown (mvT hZ (hw _ (List.mem_of_getElem? (i := 0) rfl))) (mvT hZ (hw _ (List.mem_of_getElem? (i := 1) rfl))) (mvT hZ (hw _ (List.mem_of_getElem? (i := 2) rfl))) (mvT hZ (hw _ (List.mem_of_getElem? (i := 3) rfl))) (by decide) (backOf (W := 0) (rm1 l Z a0 hw [] (1 : Int32) wL wE wG h0 n0 Z0 S_LESS S_EQUAL S_GREATER) hZ (hw _ (List.mem_of_getElem? (i := 3) rfl)) (hw _ (List.mem_of_getElem? (i := 2) rfl)) (by decide) (by decide)) (g := (mkF m 31 #[.val (.int p1), .val (.int p2), .val (.ref (own_of p1 wL wE wG)), .val (.ref (own_of p2 wL wE wG)), .unset, .unset, .unset, .unset, .unset] [(.int (1 : Int32))])) rfl (by rw [hml]; rfl) (argsL := [(.int (1 : Int32))]) (rest := []) (lenOf pd_0_0 rfl) rfl (by show 2 * 0 + _ ≤ _; exact Nat.le_of_eq rfl) (hb hby at_31) (fun _ _ => ⟨rfl, e10, (by decide : 0 + 0 ≤ _), (by decide : 0 + 0 ≤ _)⟩)
  dsimp only [Pt.U, Pt.locs, Pt.cells, Pt.slots] at X11 l11 y11 z11 st11 hQ11
  subst l11 y11 z11
  obtain ⟨rfl, N11q, q11e⟩ := hQ11
  have N11 := Fr.app N8 N11q
  obtain ⟨T13, X13, e13, st13⟩ := getS2 X11 hx hZ hown (host := "") (Or.inl (hw _ (List.mem_of_getElem? (i := 12) rfl))) Via.refl q11e S_GREATER (g := (mkF m 34 #[.val (.int p1), .val (.int p2), .val (.ref (own_of p1 wL wE wG)), .val (.ref (own_of p2 wL wE wG)), .unset, .unset, .unset, .unset, .unset] [(.ref (own_of (1 : Int32) wL wE wG))])) rfl (hb hby at_34)
  obtain ⟨T15, X15, e15, st15⟩ := getS2 X13 hx hZ hown (host := "") (Or.inl (hw _ (List.mem_of_getElem? (i := 13) rfl))) Via.refl e13 S_INCOMPARABLE (g := (mkF m 56 #[.val (.int p1), .val (.int p2), .val (.ref (own_of p1 wL wE wG)), .val (.ref (own_of p2 wL wE wG)), .val (.int (1 : Int32)), .unset, .unset, .unset, .unset] [(.ref (own_of p1 wL wE wG))])) rfl (hb hby at_56)
  obtain ⟨T16, X16, e16, st16⟩ := getS2 X15 hx hZ hown (host := "") (Or.inl (hw _ (List.mem_of_getElem? (i := 13) rfl))) Via.refl e15 S_INCOMPARABLE (g := (mkF m 63 #[.val (.int p1), .val (.int p2), .val (.ref (own_of p1 wL wE wG)), .val (.ref (own_of p2 wL wE wG)), .val (.int (1 : Int32)), .unset, .unset, .unset, .unset] [(.ref (own_of p2 wL wE wG))])) rfl (hb hby at_63)
  obtain ⟨cq17, kq17, q17a, q17b, q17c⟩ := isOf hZ e16 (own_E p1 E_LESS E_EQUAL E_GREATER)
  obtain ⟨_, _, ⟨T17, L17, k17, n17⟩, -, X17, ⟨Lc17, hQ17, l17, y17, z17⟩, st17⟩ := X16.virtualBackUp hx (x := (⟨"com/example/assessor/assessor/datatypes/AtomicValue$Order", "ordinal", "()I"⟩ : MethodName)) (y := (⟨"java/lang/Enum", "ordinal", "()I"⟩ : MethodName)) hown (mvT hZ (hw _ (List.mem_of_getElem? (i := 15) rfl))) (mvT hZ (hw _ (List.mem_of_getElem? (i := 16) rfl))) (mvT hZ (hw _ (List.mem_of_getElem? (i := 17) rfl))) (by decide) (mvT hZ (hw _ (List.mem_of_getElem? (i := 19) rfl))) (mvT hZ (hw _ (List.mem_of_getElem? (i := 18) rfl))) (backOf (W := 0) (rm2 l Z a0 hw [] (own_of p1 wL wE wG) (own_ord p1) h0 n0 Z0 (own_F p1 F_LESS F_EQUAL F_GREATER)) hZ (hw _ (List.mem_of_getElem? (i := 21) rfl)) (hw _ (List.mem_of_getElem? (i := 20) rfl)) (by decide) (by decide)) q17a q17c (g := (mkF m 113 #[.val (.int p1), .val (.int p2), .val (.ref (own_of p1 wL wE wG)), .val (.ref (own_of p2 wL wE wG)), .val (.int (1 : Int32)), .val (.int (1 : Int32)), .unset, .unset, .unset] [(.ref (own_of p1 wL wE wG))])) rfl (by rw [hml]; rfl) (Steps.refl _) (argsL := []) (rest := []) (lenOf pd_0_1 rfl) rfl (by show 2 * 0 + _ ≤ _; exact Nat.le_of_eq rfl) (hb hby at_113) (fun _ _ => ⟨rfl, e16, (by decide : 0 + 0 ≤ _), (by decide : 0 + 0 ≤ _)⟩)
  dsimp only [Pt.U, Pt.locs, Pt.cells, Pt.slots] at X17 l17 y17 z17 st17 hQ17
  subst l17 y17 z17
  obtain ⟨rfl, N17q, q17e⟩ := hQ17
  have N17 := Fr.app N11 N17q
  obtain ⟨cq18, kq18, q18a, q18b, q18c⟩ := isOf hZ q17e (own_E p2 E_LESS E_EQUAL E_GREATER)
  obtain ⟨_, _, ⟨T18, L18, k18, n18⟩, -, X18, ⟨Lc18, hQ18, l18, y18, z18⟩, st18⟩ := X17.virtualBackUp hx (x := (⟨"com/example/assessor/assessor/datatypes/AtomicValue$Order", "ordinal", "()I"⟩ : MethodName)) (y := (⟨"java/lang/Enum", "ordinal", "()I"⟩ : MethodName)) hown (mvT hZ (hw _ (List.mem_of_getElem? (i := 15) rfl))) (mvT hZ (hw _ (List.mem_of_getElem? (i := 16) rfl))) (mvT hZ (hw _ (List.mem_of_getElem? (i := 17) rfl))) (by decide) (mvT hZ (hw _ (List.mem_of_getElem? (i := 19) rfl))) (mvT hZ (hw _ (List.mem_of_getElem? (i := 18) rfl))) (backOf (W := 1) (rm2 l Z a0 hw [] (own_of p2 wL wE wG) (own_ord p2) h0 n0 Z0 (own_F p2 F_LESS F_EQUAL F_GREATER)) hZ (hw _ (List.mem_of_getElem? (i := 21) rfl)) (hw _ (List.mem_of_getElem? (i := 20) rfl)) (by decide) (by decide)) q18a q18c (g := (mkF m 117 #[.val (.int p1), .val (.int p2), .val (.ref (own_of p1 wL wE wG)), .val (.ref (own_of p2 wL wE wG)), .val (.int (1 : Int32)), .val (.int (1 : Int32)), .unset, .unset, .unset] [(.ref (own_of p2 wL wE wG)), (.int (own_ord p1))])) rfl (by rw [hml]; rfl) (Steps.refl _) (argsL := []) (rest := [(.int (own_ord p1))]) (lenOf pd_0_1 rfl) rfl (by show 2 * 0 + _ ≤ _; exact Nat.le_of_eq rfl) (hb hby at_117) (fun _ _ => ⟨rfl, q17e, (by decide : 0 + 0 ≤ _), (by decide : 0 + 0 ≤ _)⟩)
  dsimp only [Pt.U, Pt.locs, Pt.cells, Pt.slots] at X18 l18 y18 z18 st18 hQ18
  subst l18 y18 z18
  obtain ⟨rfl, N18q, q18e⟩ := hQ18
  have N18 := Fr.app N17 N18q
  obtain ⟨_, _, ⟨T19, L19, k19, n19⟩, -, X19, ⟨Lc19, hQ19, l19, y19, z19⟩, st19⟩ := Jvm.LawKit.callS X18 hx (y := (⟨"com/example/assessor/assessor/datatypes/AtomicValue$Order", "of", "(I)Lcom/example/assessor/assessor/datatypes/AtomicValue$Order;"⟩ : MethodName)) hown (mvT hZ (hw _ (List.mem_of_getElem? (i := 0) rfl))) (mvT hZ (hw _ (List.mem_of_getElem? (i := 1) rfl))) (mvT hZ (hw _ (List.mem_of_getElem? (i := 2) rfl))) (mvT hZ (hw _ (List.mem_of_getElem? (i := 3) rfl))) (by decide) (backOf (W := 0) (rm1 l Z a0 hw [] (-p1) wL wE wG h0 n0 Z0 S_LESS S_EQUAL S_GREATER) hZ (hw _ (List.mem_of_getElem? (i := 3) rfl)) (hw _ (List.mem_of_getElem? (i := 2) rfl)) (by decide) (by decide)) (g := (mkF m 141 #[.val (.int p1), .val (.int p2), .val (.ref (own_of p1 wL wE wG)), .val (.ref (own_of p2 wL wE wG)), .val (.int (1 : Int32)), .val (.int (1 : Int32)), .val (.int (1 : Int32)), .val (.int (1 : Int32)), .unset] [(.int (-p1))])) rfl (by rw [hml]; rfl) (argsL := [(.int (-p1))]) (rest := []) (lenOf pd_0_0 rfl) rfl (by show 2 * 0 + _ ≤ _; exact Nat.le_of_eq rfl) (hb hby at_141) (fun _ _ => ⟨rfl, q18e, (by decide : 0 + 0 ≤ _), (by decide : 0 + 0 ≤ _)⟩)
  dsimp only [Pt.U, Pt.locs, Pt.cells, Pt.slots] at X19 l19 y19 z19 st19 hQ19
  subst l19 y19 z19
  obtain ⟨rfl, N19q, q19e⟩ := hQ19
  have N19 := Fr.app N18 N19q
  obtain ⟨cq20, kq20, q20a, q20b, q20c⟩ := isOf hZ q19e (own_E (-p1) E_LESS E_EQUAL E_GREATER)
  obtain ⟨_, _, ⟨T20, L20, k20, n20⟩, -, X20, ⟨Lc20, hQ20, l20, y20, z20⟩, st20⟩ := X19.virtualBackUp hx (x := (⟨"com/example/assessor/assessor/datatypes/AtomicValue$Order", "ordinal", "()I"⟩ : MethodName)) (y := (⟨"java/lang/Enum", "ordinal", "()I"⟩ : MethodName)) hown (mvT hZ (hw _ (List.mem_of_getElem? (i := 15) rfl))) (mvT hZ (hw _ (List.mem_of_getElem? (i := 16) rfl))) (mvT hZ (hw _ (List.mem_of_getElem? (i := 17) rfl))) (by decide) (mvT hZ (hw _ (List.mem_of_getElem? (i := 19) rfl))) (mvT hZ (hw _ (List.mem_of_getElem? (i := 18) rfl))) (backOf (W := 0) (rm2 l Z a0 hw [] (own_of (-p1) wL wE wG) (own_ord (-p1)) h0 n0 Z0 (own_F (-p1) F_LESS F_EQUAL F_GREATER)) hZ (hw _ (List.mem_of_getElem? (i := 21) rfl)) (hw _ (List.mem_of_getElem? (i := 20) rfl)) (by decide) (by decide)) q20a q20c (g := (mkF m 153 #[.val (.int p1), .val (.int p2), .val (.ref (own_of p1 wL wE wG)), .val (.ref (own_of p2 wL wE wG)), .val (.int (1 : Int32)), .val (.int (1 : Int32)), .val (.int (1 : Int32)), .val (.int (1 : Int32)), .val (.ref (own_of (-p1) wL wE wG))] [(.ref (own_of (-p1) wL wE wG))])) rfl (by rw [hml]; rfl) (Steps.refl _) (argsL := []) (rest := []) (lenOf pd_0_1 rfl) rfl (by show 2 * 0 + _ ≤ _; exact Nat.le_of_eq rfl) (hb hby at_153) (fun _ _ => ⟨rfl, q19e, (by decide : 0 + 0 ≤ _), (by decide : 0 + 0 ≤ _)⟩)
  dsimp only [Pt.U, Pt.locs, Pt.cells, Pt.slots] at X20 l20 y20 z20 st20 hQ20
  subst l20 y20 z20
  obtain ⟨rfl, N20q, q20e⟩ := hQ20
  have N20 := Fr.app N19 N20q
  obtain ⟨cq21, kq21, q21a, q21b, q21c⟩ := isOf hZ q20e (own_E p1 E_LESS E_EQUAL E_GREATER)
  obtain ⟨_, _, ⟨T21, L21, k21, n21⟩, -, X21, ⟨Lc21, hQ21, l21, y21, z21⟩, st21⟩ := X20.virtualBackUp hx (x := (⟨"com/example/assessor/assessor/datatypes/AtomicValue$Order", "ordinal", "()I"⟩ : MethodName)) (y := (⟨"java/lang/Enum", "ordinal", "()I"⟩ : MethodName)) hown (mvT hZ (hw _ (List.mem_of_getElem? (i := 15) rfl))) (mvT hZ (hw _ (List.mem_of_getElem? (i := 16) rfl))) (mvT hZ (hw _ (List.mem_of_getElem? (i := 17) rfl))) (by decide) (mvT hZ (hw _ (List.mem_of_getElem? (i := 19) rfl))) (mvT hZ (hw _ (List.mem_of_getElem? (i := 18) rfl))) (backOf (W := 2) (rm2 l Z a0 hw [] (own_of p1 wL wE wG) (own_ord p1) h0 n0 Z0 (own_F p1 F_LESS F_EQUAL F_GREATER)) hZ (hw _ (List.mem_of_getElem? (i := 21) rfl)) (hw _ (List.mem_of_getElem? (i := 20) rfl)) (by decide) (by decide)) q21a q21c (g := (mkF m 158 #[.val (.int p1), .val (.int p2), .val (.ref (own_of p1 wL wE wG)), .val (.ref (own_of p2 wL wE wG)), .val (.int (1 : Int32)), .val (.int (1 : Int32)), .val (.int (1 : Int32)), .val (.int (1 : Int32)), .val (.ref (own_of (-p1) wL wE wG))] [(.ref (own_of p1 wL wE wG)), (.int (2 : Int32)), (.int (own_ord (-p1)))])) rfl (by rw [hml]; rfl) (Steps.refl _) (argsL := []) (rest := [(.int (2 : Int32)), (.int (own_ord (-p1)))]) (lenOf pd_0_1 rfl) rfl (by show 2 * 0 + _ ≤ _; exact Nat.le_of_eq rfl) (hb hby at_158) (fun _ _ => ⟨rfl, q20e, (by decide : 0 + 0 ≤ _), (by decide : 0 + 0 ≤ _)⟩)
  dsimp only [Pt.U, Pt.locs, Pt.cells, Pt.slots] at X21 l21 y21 z21 st21 hQ21
  subst l21 y21 z21
  obtain ⟨rfl, N21q, q21e⟩ := hQ21
  have N21 := Fr.app N20 N21q
  obtain ⟨fs, hr, hrun, hended, hW, hsame⟩ := X21.leave (v := some (.int (1 : Int32))) (fun h => by rw [Bd.returns] at h; cases h)
  refine ⟨_, _, pre0 _ ?_, hrun, hended, _, _, rfl, ?_, ⟨_, rfl⟩, hW, hsame.mono (by decide) (by decide)⟩
  · show Steps p.tables e below (s₁.setTop (mkF m 0 #[.val (.int p1), .val (.int p2), .unset, .unset, .unset, .unset, .unset, .unset, .unset] [])) _
    refine XS.iloadN X0.here hx rfl (hb hby at_0) rfl ?_
    show Steps p.tables e below (s₁.setTop (mkF m 1 #[.val (.int p1), .val (.int p2), .unset, .unset, .unset, .unset, .unset, .unset, .unset] [(.int p1)])) _
    refine st3 _ ?_
    show Steps p.tables e below (T3.setTop (mkF m 4 #[.val (.int p1), .val (.int p2), .unset, .unset, .unset, .unset, .unset, .unset, .unset] [(.ref (own_of p1 wL wE wG))])) _
    refine XS.astoreN X3.here hx rfl (hb hby at_4) rfl rfl (l' := #[.val (.int p1), .val (.int p2), .val (.ref (own_of p1 wL wE wG)), .unset, .unset, .unset, .unset, .unset, .unset]) rfl ?_
    show Steps p.tables e below (T3.setTop (mkF m 5 #[.val (.int p1), .val (.int p2), .val (.ref (own_of p1 wL wE wG)), .unset, .unset, .unset, .unset, .unset, .unset] [])) _
    refine XS.iloadN X3.here hx rfl (hb hby at_5) rfl ?_
    show Steps p.tables e below (T3.setTop (mkF m 6 #[.val (.int p1), .val (.int p2), .val (.ref (own_of p1 wL wE wG)), .unset, .unset, .unset, .unset, .unset, .unset] [(.int p2)])) _
    refine st4 _ ?_
    show Steps p.tables e below (T4.setTop (mkF m 9 #[.val (.int p1), .val (.int p2), .val (.ref (own_of p1 wL wE wG)), .unset, .unset, .unset, .unset, .unset, .unset] [(.ref (own_of p2 wL wE wG))])) _
    refine XS.astoreN X4.here hx rfl (hb hby at_9) rfl rfl (l' := #[.val (.int p1), .val (.int p2), .val (.ref (own_of p1 wL wE wG)), .val (.ref (own_of p2 wL wE wG)), .unset, .unset, .unset, .unset, .unset]) rfl ?_
    show Steps p.tables e below (T4.setTop (mkF m 10 #[.val (.int p1), .val (.int p2), .val (.ref (own_of p1 wL wE wG)), .val (.ref (own_of p2 wL wE wG)), .unset, .unset, .unset, .unset, .unset] [])) _
    refine XS.iconst X4.here hx rfl (hb hby at_10) ?_
    show Steps p.tables e below (T4.setTop (mkF m 11 #[.val (.int p1), .val (.int p2), .val (.ref (own_of p1 wL wE wG)), .val (.ref (own_of p2 wL wE wG)), .unset, .unset, .unset, .unset, .unset] [(.int (-1 : Int32))])) _
    refine st5 _ ?_
    show Steps p.tables e below (T5.setTop (mkF m 14 #[.val (.int p1), .val (.int p2), .val (.ref (own_of p1 wL wE wG)), .val (.ref (own_of p2 wL wE wG)), .unset, .unset, .unset, .unset, .unset] [(.ref (own_of (-1 : Int32) wL wE wG))])) _
    refine st7 _ ?_
    show Steps p.tables e below (T7.setTop (mkF m 17 #[.val (.int p1), .val (.int p2), .val (.ref (own_of p1 wL wE wG)), .val (.ref (own_of p2 wL wE wG)), .unset, .unset, .unset, .unset, .unset] [(.ref wL), (.ref (own_of (-1 : Int32) wL wE wG))])) _
    refine Jvm.RoadKit.acmp (g := (mkF m 17 #[.val (.int p1), .val (.int p2), .val (.ref (own_of p1 wL wE wG)), .val (.ref (own_of p2 wL wE wG)), .unset, .unset, .unset, .unset, .unset] [(.ref wL), (.ref (own_of (-1 : Int32) wL wE wG))])) X7 hx rfl rfl rfl (pc0 := 17) (pc' := 20) (same := true) rfl (hb hby at_17) rfl (decide_eq_true (congrArg Value.ref ha17)) (by decide) (by decide) ?_
    show Steps p.tables e below (T7.setTop (mkF m 20 #[.val (.int p1), .val (.int p2), .val (.ref (own_of p1 wL wE wG)), .val (.ref (own_of p2 wL wE wG)), .unset, .unset, .unset, .unset, .unset] [])) _
    refine XS.iconst X7.here hx rfl (hb hby at_20) ?_
    show Steps p.tables e below (T7.setTop (mkF m 21 #[.val (.int p1), .val (.int p2), .val (.ref (own_of p1 wL wE wG)), .val (.ref (own_of p2 wL wE wG)), .unset, .unset, .unset, .unset, .unset] [(.int (0 : Int32))])) _
    refine st8 _ ?_
    show Steps p.tables e below (T8.setTop (mkF m 24 #[.val (.int p1), .val (.int p2), .val (.ref (own_of p1 wL wE wG)), .val (.ref (own_of p2 wL wE wG)), .unset, .unset, .unset, .unset, .unset] [(.ref (own_of (0 : Int32) wL wE wG))])) _
    refine st10 _ ?_
    show Steps p.tables e below (T10.setTop (mkF m 27 #[.val (.int p1), .val (.int p2), .val (.ref (own_of p1 wL wE wG)), .val (.ref (own_of p2 wL wE wG)), .unset, .unset, .unset, .unset, .unset] [(.ref wE), (.ref (own_of (0 : Int32) wL wE wG))])) _
    refine Jvm.RoadKit.acmp (g := (mkF m 27 #[.val (.int p1), .val (.int p2), .val (.ref (own_of p1 wL wE wG)), .val (.ref (own_of p2 wL wE wG)), .unset, .unset, .unset, .unset, .unset] [(.ref wE), (.ref (own_of (0 : Int32) wL wE wG))])) X10 hx rfl rfl rfl (pc0 := 27) (pc' := 30) (same := true) rfl (hb hby at_27) rfl (decide_eq_true (congrArg Value.ref ha27)) (by decide) (by decide) ?_
    show Steps p.tables e below (T10.setTop (mkF m 30 #[.val (.int p1), .val (.int p2), .val (.ref (own_of p1 wL wE wG)), .val (.ref (own_of p2 wL wE wG)), .unset, .unset, .unset, .unset, .unset] [])) _
    refine XS.iconst X10.here hx rfl (hb hby at_30) ?_
    show Steps p.tables e below (T10.setTop (mkF m 31 #[.val (.int p1), .val (.int p2), .val (.ref (own_of p1 wL wE wG)), .val (.ref (own_of p2 wL wE wG)), .unset, .unset, .unset, .unset, .unset] [(.int (1 : Int32))])) _
    refine st11 _ ?_
    show Steps p.tables e below (T11.setTop (mkF m 34 #[.val (.int p1), .val (.int p2), .val (.ref (own_of p1 wL wE wG)), .val (.ref (own_of p2 wL wE wG)), .unset, .unset, .unset, .unset, .unset] [(.ref (own_of (1 : Int32) wL wE wG))])) _
    refine st13 _ ?_
    show Steps p.tables e below (T13.setTop (mkF m 37 #[.val (.int p1), .val (.int p2), .val (.ref (own_of p1 wL wE wG)), .val (.ref (own_of p2 wL wE wG)), .unset, .unset, .unset, .unset, .unset] [(.ref wG), (.ref (own_of (1 : Int32) wL wE wG))])) _
    refine Jvm.RoadKit.acmp (g := (mkF m 37 #[.val (.int p1), .val (.int p2), .val (.ref (own_of p1 wL wE wG)), .val (.ref (own_of p2 wL wE wG)), .unset, .unset, .unset, .unset, .unset] [(.ref wG), (.ref (own_of (1 : Int32) wL wE wG))])) X13 hx rfl rfl rfl (pc0 := 37) (pc' := 40) (same := true) rfl (hb hby at_37) rfl (decide_eq_true (congrArg Value.ref ha37)) (by decide) (by decide) ?_
    show Steps p.tables e below (T13.setTop (mkF m 40 #[.val (.int p1), .val (.int p2), .val (.ref (own_of p1 wL wE wG)), .val (.ref (own_of p2 wL wE wG)), .unset, .unset, .unset, .unset, .unset] [])) _
    refine XS.iconst X13.here hx rfl (hb hby at_40) ?_
    show Steps p.tables e below (T13.setTop (mkF m 41 #[.val (.int p1), .val (.int p2), .val (.ref (own_of p1 wL wE wG)), .val (.ref (own_of p2 wL wE wG)), .unset, .unset, .unset, .unset, .unset] [(.int (1 : Int32))])) _
    refine XS.goto X13.here hx rfl (pc0 := 41) (pc' := 45) rfl (hb hby at_41) (by decide) (by decide) ?_
    show Steps p.tables e below (T13.setTop (mkF m 45 #[.val (.int p1), .val (.int p2), .val (.ref (own_of p1 wL wE wG)), .val (.ref (own_of p2 wL wE wG)), .unset, .unset, .unset, .unset, .unset] [(.int (1 : Int32))])) _
    refine XS.istore X13.here hx rfl (hb hby at_45) rfl (l' := #[.val (.int p1), .val (.int p2), .val (.ref (own_of p1 wL wE wG)), .val (.ref (own_of p2 wL wE wG)), .val (.int (1 : Int32)), .unset, .unset, .unset, .unset]) rfl ?_
    show Steps p.tables e below (T13.setTop (mkF m 47 #[.val (.int p1), .val (.int p2), .val (.ref (own_of p1 wL wE wG)), .val (.ref (own_of p2 wL wE wG)), .val (.int (1 : Int32)), .unset, .unset, .unset, .unset] [])) _
    refine XS.aloadN X13.here hx rfl (hb hby at_47) rfl rfl ?_
    show Steps p.tables e below (T13.setTop (mkF m 48 #[.val (.int p1), .val (.int p2), .val (.ref (own_of p1 wL wE wG)), .val (.ref (own_of p2 wL wE wG)), .val (.int (1 : Int32)), .unset, .unset, .unset, .unset] [(.ref (own_of p1 wL wE wG))])) _
    refine XS.ifnullNo X13.here hx rfl (hb hby at_48) rfl ?_
    show Steps p.tables e below (T13.setTop (mkF m 51 #[.val (.int p1), .val (.int p2), .val (.ref (own_of p1 wL wE wG)), .val (.ref (own_of p2 wL wE wG)), .val (.int (1 : Int32)), .unset, .unset, .unset, .unset] [])) _
    refine XS.aloadN X13.here hx rfl (hb hby at_51) rfl rfl ?_
    show Steps p.tables e below (T13.setTop (mkF m 52 #[.val (.int p1), .val (.int p2), .val (.ref (own_of p1 wL wE wG)), .val (.ref (own_of p2 wL wE wG)), .val (.int (1 : Int32)), .unset, .unset, .unset, .unset] [(.ref (own_of p2 wL wE wG))])) _
    refine XS.ifnullNo X13.here hx rfl (hb hby at_52) rfl ?_
    show Steps p.tables e below (T13.setTop (mkF m 55 #[.val (.int p1), .val (.int p2), .val (.ref (own_of p1 wL wE wG)), .val (.ref (own_of p2 wL wE wG)), .val (.int (1 : Int32)), .unset, .unset, .unset, .unset] [])) _
    refine XS.aloadN X13.here hx rfl (hb hby at_55) rfl rfl ?_
    show Steps p.tables e below (T13.setTop (mkF m 56 #[.val (.int p1), .val (.int p2), .val (.ref (own_of p1 wL wE wG)), .val (.ref (own_of p2 wL wE wG)), .val (.int (1 : Int32)), .unset, .unset, .unset, .unset] [(.ref (own_of p1 wL wE wG))])) _
    refine st15 _ ?_
    show Steps p.tables e below (T15.setTop (mkF m 59 #[.val (.int p1), .val (.int p2), .val (.ref (own_of p1 wL wE wG)), .val (.ref (own_of p2 wL wE wG)), .val (.int (1 : Int32)), .unset, .unset, .unset, .unset] [(.ref wI), (.ref (own_of p1 wL wE wG))])) _
    refine Jvm.RoadKit.acmp (g := (mkF m 59 #[.val (.int p1), .val (.int p2), .val (.ref (own_of p1 wL wE wG)), .val (.ref (own_of p2 wL wE wG)), .val (.int (1 : Int32)), .unset, .unset, .unset, .unset] [(.ref wI), (.ref (own_of p1 wL wE wG))])) X15 hx rfl rfl rfl (pc0 := 59) (pc' := 62) (same := false) rfl (hb hby at_59) rfl (decide_eq_false fun q => ha59 (Value.ref.inj q)) (by decide) (by decide) ?_
    show Steps p.tables e below (T15.setTop (mkF m 62 #[.val (.int p1), .val (.int p2), .val (.ref (own_of p1 wL wE wG)), .val (.ref (own_of p2 wL wE wG)), .val (.int (1 : Int32)), .unset, .unset, .unset, .unset] [])) _
    refine XS.aloadN X15.here hx rfl (hb hby at_62) rfl rfl ?_
    show Steps p.tables e below (T15.setTop (mkF m 63 #[.val (.int p1), .val (.int p2), .val (.ref (own_of p1 wL wE wG)), .val (.ref (own_of p2 wL wE wG)), .val (.int (1 : Int32)), .unset, .unset, .unset, .unset] [(.ref (own_of p2 wL wE wG))])) _
    refine st16 _ ?_
    show Steps p.tables e below (T16.setTop (mkF m 66 #[.val (.int p1), .val (.int p2), .val (.ref (own_of p1 wL wE wG)), .val (.ref (own_of p2 wL wE wG)), .val (.int (1 : Int32)), .unset, .unset, .unset, .unset] [(.ref wI), (.ref (own_of p2 wL wE wG))])) _
    refine Jvm.RoadKit.acmp (g := (mkF m 66 #[.val (.int p1), .val (.int p2), .val (.ref (own_of p1 wL wE wG)), .val (.ref (own_of p2 wL wE wG)), .val (.int (1 : Int32)), .unset, .unset, .unset, .unset] [(.ref wI), (.ref (own_of p2 wL wE wG))])) X16 hx rfl rfl rfl (pc0 := 66) (pc' := 69) (same := false) rfl (hb hby at_66) rfl (decide_eq_false fun q => ha66 (Value.ref.inj q)) (by decide) (by decide) ?_
    show Steps p.tables e below (T16.setTop (mkF m 69 #[.val (.int p1), .val (.int p2), .val (.ref (own_of p1 wL wE wG)), .val (.ref (own_of p2 wL wE wG)), .val (.int (1 : Int32)), .unset, .unset, .unset, .unset] [])) _
    refine XS.iconst X16.here hx rfl (hb hby at_69) ?_
    show Steps p.tables e below (T16.setTop (mkF m 70 #[.val (.int p1), .val (.int p2), .val (.ref (own_of p1 wL wE wG)), .val (.ref (own_of p2 wL wE wG)), .val (.int (1 : Int32)), .unset, .unset, .unset, .unset] [(.int (1 : Int32))])) _
    refine XS.goto X16.here hx rfl (pc0 := 70) (pc' := 74) rfl (hb hby at_70) (by decide) (by decide) ?_
    show Steps p.tables e below (T16.setTop (mkF m 74 #[.val (.int p1), .val (.int p2), .val (.ref (own_of p1 wL wE wG)), .val (.ref (own_of p2 wL wE wG)), .val (.int (1 : Int32)), .unset, .unset, .unset, .unset] [(.int (1 : Int32))])) _
    refine XS.istore X16.here hx rfl (hb hby at_74) rfl (l' := #[.val (.int p1), .val (.int p2), .val (.ref (own_of p1 wL wE wG)), .val (.ref (own_of p2 wL wE wG)), .val (.int (1 : Int32)), .val (.int (1 : Int32)), .unset, .unset, .unset]) rfl ?_
    show Steps p.tables e below (T16.setTop (mkF m 76 #[.val (.int p1), .val (.int p2), .val (.ref (own_of p1 wL wE wG)), .val (.ref (own_of p2 wL wE wG)), .val (.int (1 : Int32)), .val (.int (1 : Int32)), .unset, .unset, .unset] [])) _
    refine XS.iload X16.here hx rfl (hb hby at_76) rfl ?_
    show Steps p.tables e below (T16.setTop (mkF m 78 #[.val (.int p1), .val (.int p2), .val (.ref (own_of p1 wL wE wG)), .val (.ref (own_of p2 wL wE wG)), .val (.int (1 : Int32)), .val (.int (1 : Int32)), .unset, .unset, .unset] [(.int (1 : Int32))])) _
    refine XS.ifNo X16.here hx rfl (hb hby at_78) rfl ((if0 _ _).trans (feq hc78).1) ?_
    show Steps p.tables e below (T16.setTop (mkF m 81 #[.val (.int p1), .val (.int p2), .val (.ref (own_of p1 wL wE wG)), .val (.ref (own_of p2 wL wE wG)), .val (.int (1 : Int32)), .val (.int (1 : Int32)), .unset, .unset, .unset] [])) _
    refine XS.iload X16.here hx rfl (hb hby at_81) rfl ?_
    show Steps p.tables e below (T16.setTop (mkF m 83 #[.val (.int p1), .val (.int p2), .val (.ref (own_of p1 wL wE wG)), .val (.ref (own_of p2 wL wE wG)), .val (.int (1 : Int32)), .val (.int (1 : Int32)), .unset, .unset, .unset] [(.int (1 : Int32))])) _
    refine XS.ifYes X16.here hx rfl (pc0 := 83) (pc' := 88) rfl (hb hby at_83) rfl ((if0 _ _).trans (feq hc83).2) (by decide) (by decide) ?_
    show Steps p.tables e below (T16.setTop (mkF m 88 #[.val (.int p1), .val (.int p2), .val (.ref (own_of p1 wL wE wG)), .val (.ref (own_of p2 wL wE wG)), .val (.int (1 : Int32)), .val (.int (1 : Int32)), .unset, .unset, .unset] [])) _
    refine XS.iloadN X16.here hx rfl (hb hby at_88) rfl ?_
    show Steps p.tables e below (T16.setTop (mkF m 89 #[.val (.int p1), .val (.int p2), .val (.ref (own_of p1 wL wE wG)), .val (.ref (own_of p2 wL wE wG)), .val (.int (1 : Int32)), .val (.int (1 : Int32)), .unset, .unset, .unset] [(.int p1)])) _
    refine XS.iloadN X16.here hx rfl (hb hby at_89) rfl ?_
    show Steps p.tables e below (T16.setTop (mkF m 90 #[.val (.int p1), .val (.int p2), .val (.ref (own_of p1 wL wE wG)), .val (.ref (own_of p2 wL wE wG)), .val (.int (1 : Int32)), .val (.int (1 : Int32)), .unset, .unset, .unset] [(.int p2), (.int p1)])) _
    refine XS.icmpYes X16.here hx rfl (pc0 := 90) (pc' := 112) rfl (hb hby at_90) rfl (tlt hc90).2.2.1 (by decide) (by decide) ?_
    show Steps p.tables e below (T16.setTop (mkF m 112 #[.val (.int p1), .val (.int p2), .val (.ref (own_of p1 wL wE wG)), .val (.ref (own_of p2 wL wE wG)), .val (.int (1 : Int32)), .val (.int (1 : Int32)), .unset, .unset, .unset] [])) _
    refine XS.aloadN X16.here hx rfl (hb hby at_112) rfl rfl ?_
    show Steps p.tables e below (T16.setTop (mkF m 113 #[.val (.int p1), .val (.int p2), .val (.ref (own_of p1 wL wE wG)), .val (.ref (own_of p2 wL wE wG)), .val (.int (1 : Int32)), .val (.int (1 : Int32)), .unset, .unset, .unset] [(.ref (own_of p1 wL wE wG))])) _
    refine st17.trans ?_
    show Steps p.tables e below (T17.setTop (mkF m 116 #[.val (.int p1), .val (.int p2), .val (.ref (own_of p1 wL wE wG)), .val (.ref (own_of p2 wL wE wG)), .val (.int (1 : Int32)), .val (.int (1 : Int32)), .unset, .unset, .unset] [(.int (own_ord p1))])) _
    refine XS.aloadN X17.here hx rfl (hb hby at_116) rfl rfl ?_
    show Steps p.tables e below (T17.setTop (mkF m 117 #[.val (.int p1), .val (.int p2), .val (.ref (own_of p1 wL wE wG)), .val (.ref (own_of p2 wL wE wG)), .val (.int (1 : Int32)), .val (.int (1 : Int32)), .unset, .unset, .unset] [(.ref (own_of p2 wL wE wG)), (.int (own_ord p1))])) _
    refine st18.trans ?_
    show Steps p.tables e below (T18.setTop (mkF m 120 #[.val (.int p1), .val (.int p2), .val (.ref (own_of p1 wL wE wG)), .val (.ref (own_of p2 wL wE wG)), .val (.int (1 : Int32)), .val (.int (1 : Int32)), .unset, .unset, .unset] [(.int (own_ord p2)), (.int (own_ord p1))])) _
    refine XS.icmpNo X18.here hx rfl (hb hby at_120) rfl (flt ((own_down hc90) : ¬ ((own_ord p1) < (own_ord p2)))).1 ?_
    show Steps p.tables e below (T18.setTop (mkF m 123 #[.val (.int p1), .val (.int p2), .val (.ref (own_of p1 wL wE wG)), .val (.ref (own_of p2 wL wE wG)), .val (.int (1 : Int32)), .val (.int (1 : Int32)), .unset, .unset, .unset] [])) _
    refine XS.iconst X18.here hx rfl (hb hby at_123) ?_
    show Steps p.tables e below (T18.setTop (mkF m 124 #[.val (.int p1), .val (.int p2), .val (.ref (own_of p1 wL wE wG)), .val (.ref (own_of p2 wL wE wG)), .val (.int (1 : Int32)), .val (.int (1 : Int32)), .unset, .unset, .unset] [(.int (1 : Int32))])) _
    refine XS.goto X18.here hx rfl (pc0 := 124) (pc' := 128) rfl (hb hby at_124) (by decide) (by decide) ?_
    show Steps p.tables e below (T18.setTop (mkF m 128 #[.val (.int p1), .val (.int p2), .val (.ref (own_of p1 wL wE wG)), .val (.ref (own_of p2 wL wE wG)), .val (.int (1 : Int32)), .val (.int (1 : Int32)), .unset, .unset, .unset] [(.int (1 : Int32))])) _
    refine XS.istore X18.here hx rfl (hb hby at_128) rfl (l' := #[.val (.int p1), .val (.int p2), .val (.ref (own_of p1 wL wE wG)), .val (.ref (own_of p2 wL wE wG)), .val (.int (1 : Int32)), .val (.int (1 : Int32)), .val (.int (1 : Int32)), .unset, .unset]) rfl ?_
    show Steps p.tables e below (T18.setTop (mkF m 130 #[.val (.int p1), .val (.int p2), .val (.ref (own_of p1 wL wE wG)), .val (.ref (own_of p2 wL wE wG)), .val (.int (1 : Int32)), .val (.int (1 : Int32)), .val (.int (1 : Int32)), .unset, .unset] [])) _
    refine XS.iconst X18.here hx rfl (hb hby at_130) ?_
    show Steps p.tables e below (T18.setTop (mkF m 131 #[.val (.int p1), .val (.int p2), .val (.ref (own_of p1 wL wE wG)), .val (.ref (own_of p2 wL wE wG)), .val (.int (1 : Int32)), .val (.int (1 : Int32)), .val (.int (1 : Int32)), .unset, .unset] [(.int (1 : Int32))])) _
    refine XS.istore X18.here hx rfl (hb hby at_131) rfl (l' := #[.val (.int p1), .val (.int p2), .val (.ref (own_of p1 wL wE wG)), .val (.ref (own_of p2 wL wE wG)), .val (.int (1 : Int32)), .val (.int (1 : Int32)), .val (.int (1 : Int32)), .val (.int (1 : Int32)), .unset]) rfl ?_
    show Steps p.tables e below (T18.setTop (mkF m 133 #[.val (.int p1), .val (.int p2), .val (.ref (own_of p1 wL wE wG)), .val (.ref (own_of p2 wL wE wG)), .val (.int (1 : Int32)), .val (.int (1 : Int32)), .val (.int (1 : Int32)), .val (.int (1 : Int32)), .unset] [])) _
    refine XS.iloadN X18.here hx rfl (hb hby at_133) rfl ?_
    show Steps p.tables e below (T18.setTop (mkF m 134 #[.val (.int p1), .val (.int p2), .val (.ref (own_of p1 wL wE wG)), .val (.ref (own_of p2 wL wE wG)), .val (.int (1 : Int32)), .val (.int (1 : Int32)), .val (.int (1 : Int32)), .val (.int (1 : Int32)), .unset] [(.int p1)])) _
    refine X18.ldcInt hx hown (mvT hZ (hw _ (List.mem_of_getElem? (i := 24) rfl))) (g := (mkF m 134 #[.val (.int p1), .val (.int p2), .val (.ref (own_of p1 wL wE wG)), .val (.ref (own_of p2 wL wE wG)), .val (.int (1 : Int32)), .val (.int (1 : Int32)), .val (.int (1 : Int32)), .val (.int (1 : Int32)), .unset] [(.int p1)])) rfl (hb hby at_134) _ ?_
    show Steps p.tables e below (T18.setTop (mkF m 136 #[.val (.int p1), .val (.int p2), .val (.ref (own_of p1 wL wE wG)), .val (.ref (own_of p2 wL wE wG)), .val (.int (1 : Int32)), .val (.int (1 : Int32)), .val (.int (1 : Int32)), .val (.int (1 : Int32)), .unset] [(.int (-2147483648 : Int32)), (.int p1)])) _
    refine XS.icmpNo X18.here hx rfl (hb hby at_136) rfl (feq hc136).1 ?_
    show Steps p.tables e below (T18.setTop (mkF m 139 #[.val (.int p1), .val (.int p2), .val (.ref (own_of p1 wL wE wG)), .val (.ref (own_of p2 wL wE wG)), .val (.int (1 : Int32)), .val (.int (1 : Int32)), .val (.int (1 : Int32)), .val (.int (1 : Int32)), .unset] [])) _
    refine XS.iloadN X18.here hx rfl (hb hby at_139) rfl ?_
    show Steps p.tables e below (T18.setTop (mkF m 140 #[.val (.int p1), .val (.int p2), .val (.ref (own_of p1 wL wE wG)), .val (.ref (own_of p2 wL wE wG)), .val (.int (1 : Int32)), .val (.int (1 : Int32)), .val (.int (1 : Int32)), .val (.int (1 : Int32)), .unset] [(.int p1)])) _
    refine XS.ineg X18.here hx rfl (hb hby at_140) rfl ?_
    show Steps p.tables e below (T18.setTop (mkF m 141 #[.val (.int p1), .val (.int p2), .val (.ref (own_of p1 wL wE wG)), .val (.ref (own_of p2 wL wE wG)), .val (.int (1 : Int32)), .val (.int (1 : Int32)), .val (.int (1 : Int32)), .val (.int (1 : Int32)), .unset] [(.int (-p1))])) _
    refine st19 _ ?_
    show Steps p.tables e below (T19.setTop (mkF m 144 #[.val (.int p1), .val (.int p2), .val (.ref (own_of p1 wL wE wG)), .val (.ref (own_of p2 wL wE wG)), .val (.int (1 : Int32)), .val (.int (1 : Int32)), .val (.int (1 : Int32)), .val (.int (1 : Int32)), .unset] [(.ref (own_of (-p1) wL wE wG))])) _
    refine XS.astore X19.here hx rfl (hb hby at_144) rfl rfl (l' := #[.val (.int p1), .val (.int p2), .val (.ref (own_of p1 wL wE wG)), .val (.ref (own_of p2 wL wE wG)), .val (.int (1 : Int32)), .val (.int (1 : Int32)), .val (.int (1 : Int32)), .val (.int (1 : Int32)), .val (.ref (own_of (-p1) wL wE wG))]) rfl ?_
    show Steps p.tables e below (T19.setTop (mkF m 146 #[.val (.int p1), .val (.int p2), .val (.ref (own_of p1 wL wE wG)), .val (.ref (own_of p2 wL wE wG)), .val (.int (1 : Int32)), .val (.int (1 : Int32)), .val (.int (1 : Int32)), .val (.int (1 : Int32)), .val (.ref (own_of (-p1) wL wE wG))] [])) _
    refine XS.aload X19.here hx rfl (hb hby at_146) rfl rfl ?_
    show Steps p.tables e below (T19.setTop (mkF m 148 #[.val (.int p1), .val (.int p2), .val (.ref (own_of p1 wL wE wG)), .val (.ref (own_of p2 wL wE wG)), .val (.int (1 : Int32)), .val (.int (1 : Int32)), .val (.int (1 : Int32)), .val (.int (1 : Int32)), .val (.ref (own_of (-p1) wL wE wG))] [(.ref (own_of (-p1) wL wE wG))])) _
    refine XS.ifnullNo X19.here hx rfl (hb hby at_148) rfl ?_
    show Steps p.tables e below (T19.setTop (mkF m 151 #[.val (.int p1), .val (.int p2), .val (.ref (own_of p1 wL wE wG)), .val (.ref (own_of p2 wL wE wG)), .val (.int (1 : Int32)), .val (.int (1 : Int32)), .val (.int (1 : Int32)), .val (.int (1 : Int32)), .val (.ref (own_of (-p1) wL wE wG))] [])) _
    refine XS.aload X19.here hx rfl (hb hby at_151) rfl rfl ?_
    show Steps p.tables e below (T19.setTop (mkF m 153 #[.val (.int p1), .val (.int p2), .val (.ref (own_of p1 wL wE wG)), .val (.ref (own_of p2 wL wE wG)), .val (.int (1 : Int32)), .val (.int (1 : Int32)), .val (.int (1 : Int32)), .val (.int (1 : Int32)), .val (.ref (own_of (-p1) wL wE wG))] [(.ref (own_of (-p1) wL wE wG))])) _
    refine st20.trans ?_
    show Steps p.tables e below (T20.setTop (mkF m 156 #[.val (.int p1), .val (.int p2), .val (.ref (own_of p1 wL wE wG)), .val (.ref (own_of p2 wL wE wG)), .val (.int (1 : Int32)), .val (.int (1 : Int32)), .val (.int (1 : Int32)), .val (.int (1 : Int32)), .val (.ref (own_of (-p1) wL wE wG))] [(.int (own_ord (-p1)))])) _
    refine XS.iconst X20.here hx rfl (hb hby at_156) ?_
    show Steps p.tables e below (T20.setTop (mkF m 157 #[.val (.int p1), .val (.int p2), .val (.ref (own_of p1 wL wE wG)), .val (.ref (own_of p2 wL wE wG)), .val (.int (1 : Int32)), .val (.int (1 : Int32)), .val (.int (1 : Int32)), .val (.int (1 : Int32)), .val (.ref (own_of (-p1) wL wE wG))] [(.int (2 : Int32)), (.int (own_ord (-p1)))])) _
    refine XS.aloadN X20.here hx rfl (hb hby at_157) rfl rfl ?_
    show Steps p.tables e below (T20.setTop (mkF m 158 #[.val (.int p1), .val (.int p2), .val (.ref (own_of p1 wL wE wG)), .val (.ref (own_of p2 wL wE wG)), .val (.int (1 : Int32)), .val (.int (1 : Int32)), .val (.int (1 : Int32)), .val (.int (1 : Int32)), .val (.ref (own_of (-p1) wL wE wG))] [(.ref (own_of p1 wL wE wG)), (.int (2 : Int32)), (.int (own_ord (-p1)))])) _
    refine st21.trans ?_
    show Steps p.tables e below (T21.setTop (mkF m 161 #[.val (.int p1), .val (.int p2), .val (.ref (own_of p1 wL wE wG)), .val (.ref (own_of p2 wL wE wG)), .val (.int (1 : Int32)), .val (.int (1 : Int32)), .val (.int (1 : Int32)), .val (.int (1 : Int32)), .val (.ref (own_of (-p1) wL wE wG))] [(.int (own_ord p1)), (.int (2 : Int32)), (.int (own_ord (-p1)))])) _
    refine XS.isub X21.here hx rfl (hb hby at_161) rfl ?_
    show Steps p.tables e below (T21.setTop (mkF m 162 #[.val (.int p1), .val (.int p2), .val (.ref (own_of p1 wL wE wG)), .val (.ref (own_of p2 wL wE wG)), .val (.int (1 : Int32)), .val (.int (1 : Int32)), .val (.int (1 : Int32)), .val (.int (1 : Int32)), .val (.ref (own_of (-p1) wL wE wG))] [(.int ((2 : Int32) - (own_ord p1))), (.int (own_ord (-p1)))])) _
    refine XS.icmpNo X21.here hx rfl (hb hby at_162) rfl (teq ((own_mir hc136) : (own_ord (-p1)) = ((2 : Int32) - (own_ord p1)))).2 ?_
    show Steps p.tables e below (T21.setTop (mkF m 165 #[.val (.int p1), .val (.int p2), .val (.ref (own_of p1 wL wE wG)), .val (.ref (own_of p2 wL wE wG)), .val (.int (1 : Int32)), .val (.int (1 : Int32)), .val (.int (1 : Int32)), .val (.int (1 : Int32)), .val (.ref (own_of (-p1) wL wE wG))] [])) _
    refine XS.iconst X21.here hx rfl (hb hby at_165) ?_
    show Steps p.tables e below (T21.setTop (mkF m 166 #[.val (.int p1), .val (.int p2), .val (.ref (own_of p1 wL wE wG)), .val (.ref (own_of p2 wL wE wG)), .val (.int (1 : Int32)), .val (.int (1 : Int32)), .val (.int (1 : Int32)), .val (.int (1 : Int32)), .val (.ref (own_of (-p1) wL wE wG))] [(.int (1 : Int32))])) _
    refine XS.goto X21.here hx rfl (pc0 := 166) (pc' := 170) rfl (hb hby at_166) (by decide) (by decide) ?_
    show Steps p.tables e below (T21.setTop (mkF m 170 #[.val (.int p1), .val (.int p2), .val (.ref (own_of p1 wL wE wG)), .val (.ref (own_of p2 wL wE wG)), .val (.int (1 : Int32)), .val (.int (1 : Int32)), .val (.int (1 : Int32)), .val (.int (1 : Int32)), .val (.ref (own_of (-p1) wL wE wG))] [(.int (1 : Int32))])) _
    refine XS.istore X21.here hx rfl (hb hby at_170) rfl (l' := #[.val (.int p1), .val (.int p2), .val (.ref (own_of p1 wL wE wG)), .val (.ref (own_of p2 wL wE wG)), .val (.int (1 : Int32)), .val (.int (1 : Int32)), .val (.int (1 : Int32)), .val (.int (1 : Int32)), .val (.ref (own_of (-p1) wL wE wG))]) rfl ?_
    show Steps p.tables e below (T21.setTop (mkF m 172 #[.val (.int p1), .val (.int p2), .val (.ref (own_of p1 wL wE wG)), .val (.ref (own_of p2 wL wE wG)), .val (.int (1 : Int32)), .val (.int (1 : Int32)), .val (.int (1 : Int32)), .val (.int (1 : Int32)), .val (.ref (own_of (-p1) wL wE wG))] [])) _
    refine XS.iload X21.here hx rfl (hb hby at_172) rfl ?_
    show Steps p.tables e below (T21.setTop (mkF m 174 #[.val (.int p1), .val (.int p2), .val (.ref (own_of p1 wL wE wG)), .val (.ref (own_of p2 wL wE wG)), .val (.int (1 : Int32)), .val (.int (1 : Int32)), .val (.int (1 : Int32)), .val (.int (1 : Int32)), .val (.ref (own_of (-p1) wL wE wG))] [(.int (1 : Int32))])) _
    refine XS.ifNo X21.here hx rfl (hb hby at_174) rfl ((if0 _ _).trans (feq hc174).1) ?_
    show Steps p.tables e below (T21.setTop (mkF m 177 #[.val (.int p1), .val (.int p2), .val (.ref (own_of p1 wL wE wG)), .val (.ref (own_of p2 wL wE wG)), .val (.int (1 : Int32)), .val (.int (1 : Int32)), .val (.int (1 : Int32)), .val (.int (1 : Int32)), .val (.ref (own_of (-p1) wL wE wG))] [])) _
    refine XS.iload X21.here hx rfl (hb hby at_177) rfl ?_
    show Steps p.tables e below (T21.setTop (mkF m 179 #[.val (.int p1), .val (.int p2), .val (.ref (own_of p1 wL wE wG)), .val (.ref (own_of p2 wL wE wG)), .val (.int (1 : Int32)), .val (.int (1 : Int32)), .val (.int (1 : Int32)), .val (.int (1 : Int32)), .val (.ref (own_of (-p1) wL wE wG))] [(.int (1 : Int32))])) _
    refine XS.ifNo X21.here hx rfl (hb hby at_179) rfl ((if0 _ _).trans (feq hc179).1) ?_
    show Steps p.tables e below (T21.setTop (mkF m 182 #[.val (.int p1), .val (.int p2), .val (.ref (own_of p1 wL wE wG)), .val (.ref (own_of p2 wL wE wG)), .val (.int (1 : Int32)), .val (.int (1 : Int32)), .val (.int (1 : Int32)), .val (.int (1 : Int32)), .val (.ref (own_of (-p1) wL wE wG))] [])) _
    refine XS.iconst X21.here hx rfl (hb hby at_182) ?_
    show Steps p.tables e below (T21.setTop (mkF m 183 #[.val (.int p1), .val (.int p2), .val (.ref (own_of p1 wL wE wG)), .val (.ref (own_of p2 wL wE wG)), .val (.int (1 : Int32)), .val (.int (1 : Int32)), .val (.int (1 : Int32)), .val (.int (1 : Int32)), .val (.ref (own_of (-p1) wL wE wG))] [(.int (1 : Int32))])) _
    refine XS.goto X21.here hx rfl (pc0 := 183) (pc' := 187) rfl (hb hby at_183) (by decide) (by decide) ?_
    show Steps p.tables e below (T21.setTop (mkF m 187 #[.val (.int p1), .val (.int p2), .val (.ref (own_of p1 wL wE wG)), .val (.ref (own_of p2 wL wE wG)), .val (.int (1 : Int32)), .val (.int (1 : Int32)), .val (.int (1 : Int32)), .val (.int (1 : Int32)), .val (.ref (own_of (-p1) wL wE wG))] [(.int (1 : Int32))])) _
    exact retN X21 hx (t := .boolean) Bd.returns (by simp) (hb hby at_187) hr
  · show Q0 Z h0 n0 _ T21.heap _
    exact ⟨rfl, N21⟩
set_option maxRecDepth 65536 in
set_option maxHeartbeats 40000000 in
theorem rm0d (l : Launch) (Z : State) (a0 : Array Value) (hw : ∀ d ∈ tables_1, d.before a0 Z = true) (ws : List Jvm.Cond) (p1 : Int32) (p2 : Int32) (wL wE wG wI : Addr) (h0 : Heap) (n0 : Nat) (Z0 : n0 ≤ h0.size) (S_LESS : Sta Z h0 "com/example/assessor/assessor/datatypes/AtomicValue$Order" "LESS" "Lcom/example/assessor/assessor/datatypes/AtomicValue$Order;" (.ref wL)) (E_LESS : Exa Z h0 wL "com/example/assessor/assessor/datatypes/AtomicValue$Order") (F_LESS : Fld Z h0 wL "java/lang/Enum" "ordinal" "I" (.int (0 : Int32))) (S_EQUAL : Sta Z h0 "com/example/assessor/assessor/datatypes/AtomicValue$Order" "EQUAL" "Lcom/example/assessor/assessor/datatypes/AtomicValue$Order;" (.ref wE)) (E_EQUAL : Exa Z h0 wE "com/example/assessor/assessor/datatypes/AtomicValue$Order") (F_EQUAL : Fld Z h0 wE "java/lang/Enum" "ordinal" "I" (.int (1 : Int32))) (S_GREATER : Sta Z h0 "com/example/assessor/assessor/datatypes/AtomicValue$Order" "GREATER" "Lcom/example/assessor/assessor/datatypes/AtomicValue$Order;" (.ref wG)) (E_GREATER : Exa Z h0 wG "com/example/assessor/assessor/datatypes/AtomicValue$Order") (F_GREATER : Fld Z h0 wG "java/lang/Enum" "ordinal" "I" (.int (2 : Int32))) (S_INCOMPARABLE : Sta Z h0 "com/example/assessor/assessor/datatypes/AtomicValue$Order" "INCOMPARABLE" "Lcom/example/assessor/assessor/datatypes/AtomicValue$Order;" (.ref wI)) (E_INCOMPARABLE : Exa Z h0 wI "com/example/assessor/assessor/datatypes/AtomicValue$Order") (F_INCOMPARABLE : Fld Z h0 wI "java/lang/Enum" "ordinal" "I" (.int (3 : Int32))) (hc90 : p2 < p1) (hc136 : p1 = (-2147483648 : Int32)) :
    MetFree l x (head1 (Jvm.Cond.code x code maxLocals ret :: ws) room_1) (fun a U => a = #[(.int p1), (.int p2)] ∧ Z.Warmed39 U.vm ∧ U.heap = h0) (fun _ _ _ _ _ => True) (fun _ U o U' => ∃ v L, o = .returned v ∧ Q0 Z h0 n0 v U'.heap L ∧ FrameEnd U o U' L room_1.cells room_1.slots) := by
  have hc78 : ¬ ((1 : Int32) = (0 : Int32)) := by decide
  have hc83 : ¬ ((1 : Int32) = (0 : Int32)) := by decide
  have hc174 : ¬ ((1 : Int32) = (0 : Int32)) := by decide
  have hc179 : ¬ ((1 : Int32) = (0 : Int32)) := by decide
  have ha17 : (own_of (-1 : Int32) wL wE wG) = wL := own_ofL (by decide) wL wE wG
  have ha27 : (own_of (0 : Int32) wL wE wG) = wE := own_ofE (by decide) (by decide) wL wE wG
  have ha37 : (own_of (1 : Int32) wL wE wG) = wG := own_ofG (by decide) (by decide) wL wE wG
  have ha59 : ¬ ((own_of p1 wL wE wG) = wI) := own_fne (own_F p1 F_LESS F_EQUAL F_GREATER) F_INCOMPARABLE (own_ord3 p1)
  have ha66 : ¬ ((own_of p2 wL wE wG) = wI) := own_fne (own_F p2 F_LESS F_EQUAL F_GREATER) F_INCOMPARABLE (own_ord3 p2)
  refine MetFree.of_bodySF (plainFor_of_name pn_0) hisR ?_
  intro p e s m args below meth c s₁ Bd hml0 hP hK
  obtain ⟨rfl, hZ, hh⟩ := hP
  have hx := Bd.exec
  have hby := Bd.bytes
  have hml : c.maxLocals = 9 := hml0
  have hown : s.vm.findClass "com/example/assessor/assessor/datatypes/OrderOfPinLaw" = some m.cls := findClass_of_methodNamed Bd.named
  have hnm := (name_of_methodNamed Bd.named Bd.method).1
  have X0 : Stand p l e room_1 s m #[(.int p1), (.int p2)] below meth c s₁ [] 0 0 := Stand.of_body Bd
  have e0 : s₁.heap = h0 := by rw [← hh, Bd.state]; rfl
  have N0 := Fr.nil n0
  have pre0 : ∀ t, Steps p.tables e below (s₁.setTop (mkF m 0 #[.val (.int p1), .val (.int p2), .unset, .unset, .unset, .unset, .unset, .unset, .unset] [])) t → Steps p.tables e below (s₁.setTop (entryFrame m #[(.int p1), (.int p2)] maxLocals)) t := fun t k => castTop (ef_0 m p1 p2) k
  obtain ⟨_, _, ⟨T3, L3, k3, n3⟩, -, X3, ⟨Lc3, hQ3, l3, y3, z3⟩, st3⟩ := Jvm.LawKit.callS X0 hx (y := (⟨"com/example/assessor/assessor/datatypes/AtomicValue$Order", "of", "(I)Lcom/example/assessor/assessor/datatypes/AtomicValue$Order;"⟩ : MethodName)) hown (mvT hZ (hw _ (List.mem_of_getElem? (i := 0) rfl))) (mvT hZ (hw _ (List.mem_of_getElem? (i := 1) rfl))) (mvT hZ (hw _ (List.mem_of_getElem? (i := 2) rfl))) (mvT hZ (hw _ (List.mem_of_getElem? (i := 3) rfl))) (by decide) (backOf (W := 0) (rm1 l Z a0 hw [] p1 wL wE wG h0 n0 Z0 S_LESS S_EQUAL S_GREATER) hZ (hw _ (List.mem_of_getElem? (i := 3) rfl)) (hw _ (List.mem_of_getElem? (i := 2) rfl)) (by decide) (by decide)) (g := (mkF m 1 #[.val (.int p1), .val (.int p2), .unset, .unset, .unset, .unset, .unset, .unset, .unset] [(.int p1)])) rfl (by rw [hml]; rfl) (argsL := [(.int p1)]) (rest := []) (lenOf pd_0_0 rfl) rfl (by show 2 * 0 + _ ≤ _; exact Nat.le_of_eq rfl) (hb hby at_1) (fun _ _ => ⟨rfl, e0, (by decide : 0 + 0 ≤ _), (by decide : 0 + 0 ≤ _)⟩)
  dsimp only [Pt.U, Pt.locs, Pt.cells, Pt.slots] at X3 l3 y3 z3 st3 hQ3
  subst l3 y3 z3
  obtain ⟨rfl, N3q, q3e⟩ := hQ3
  have N3 := Fr.app N0 N3q
  obtain ⟨_, _, ⟨T4, L4, k4, n4⟩, -, X4, ⟨Lc4, hQ4, l4, y4, z4⟩, st4⟩ := Jvm.LawKit.callS X3 hx (y := (⟨"com/example/assessor/assessor/datatypes/AtomicValue$Order", "of", "(I)Lcom/example/assessor/assessor/datatypes/AtomicValue$Order;"⟩ : MethodName)) hown (mvT hZ (hw _ (List.mem_of_getElem? (i := 0) rfl))) (mvT hZ (hw _ (List.mem_of_getElem? (i := 1) rfl))) (mvT hZ (hw _ (List.mem_of_getElem? (i := 2) rfl))) (mvT hZ (hw _ (List.mem_of_getElem? (i := 3) rfl))) (by decide) (backOf (W := 0) (rm1 l Z a0 hw [] p2 wL wE wG h0 n0 Z0 S_LESS S_EQUAL S_GREATER) hZ (hw _ (List.mem_of_getElem? (i := 3) rfl)) (hw _ (List.mem_of_getElem? (i := 2) rfl)) (by decide) (by decide)) (g := (mkF m 6 #[.val (.int p1), .val (.int p2), .val (.ref (own_of p1 wL wE wG)), .unset, .unset, .unset, .unset, .unset, .unset] [(.int p2)])) rfl (by rw [hml]; rfl) (argsL := [(.int p2)]) (rest := []) (lenOf pd_0_0 rfl) rfl (by show 2 * 0 + _ ≤ _; exact Nat.le_of_eq rfl) (hb hby at_6) (fun _ _ => ⟨rfl, q3e, (by decide : 0 + 0 ≤ _), (by decide : 0 + 0 ≤ _)⟩)
  dsimp only [Pt.U, Pt.locs, Pt.cells, Pt.slots] at X4 l4 y4 z4 st4 hQ4
  subst l4 y4 z4
  obtain ⟨rfl, N4q, q4e⟩ := hQ4
  have N4 := Fr.app N3 N4q
  obtain ⟨_, _, ⟨T5, L5, k5, n5⟩, -, X5, ⟨Lc5, hQ5, l5, y5, z5⟩, st5⟩ := Jvm.LawKit.callS X4 hx (y := (⟨"com/example/assessor/assessor/datatypes/AtomicValue$Order", "of", "(I)Lcom/example/assessor/assessor/datatypes/AtomicValue$Order;"⟩ : MethodName)) hown (mvT hZ (hw _ (List.mem_of_getElem? (i := 0) rfl))) (mvT hZ (hw _ (List.mem_of_getElem? (i := 1) rfl))) (mvT hZ (hw _ (List.mem_of_getElem? (i := 2) rfl))) (mvT hZ (hw _ (List.mem_of_getElem? (i := 3) rfl))) (by decide) (backOf (W := 0) (rm1 l Z a0 hw [] (-1 : Int32) wL wE wG h0 n0 Z0 S_LESS S_EQUAL S_GREATER) hZ (hw _ (List.mem_of_getElem? (i := 3) rfl)) (hw _ (List.mem_of_getElem? (i := 2) rfl)) (by decide) (by decide)) (g := (mkF m 11 #[.val (.int p1), .val (.int p2), .val (.ref (own_of p1 wL wE wG)), .val (.ref (own_of p2 wL wE wG)), .unset, .unset, .unset, .unset, .unset] [(.int (-1 : Int32))])) rfl (by rw [hml]; rfl) (argsL := [(.int (-1 : Int32))]) (rest := []) (lenOf pd_0_0 rfl) rfl (by show 2 * 0 + _ ≤ _; exact Nat.le_of_eq rfl) (hb hby at_11) (fun _ _ => ⟨rfl, q4e, (by decide : 0 + 0 ≤ _), (by decide : 0 + 0 ≤ _)⟩)
  dsimp only [Pt.U, Pt.locs, Pt.cells, Pt.slots] at X5 l5 y5 z5 st5 hQ5
  subst l5 y5 z5
  obtain ⟨rfl, N5q, q5e⟩ := hQ5
  have N5 := Fr.app N4 N5q
  obtain ⟨T7, X7, e7, st7⟩ := getS2 X5 hx hZ hown (host := "") (Or.inl (hw _ (List.mem_of_getElem? (i := 10) rfl))) Via.refl q5e S_LESS (g := (mkF m 14 #[.val (.int p1), .val (.int p2), .val (.ref (own_of p1 wL wE wG)), .val (.ref (own_of p2 wL wE wG)), .unset, .unset, .unset, .unset, .unset] [(.ref (own_of (-1 : Int32) wL wE wG))])) rfl (hb hby at_14)
  obtain ⟨_, _, ⟨T8, L8, k8, n8⟩, -, X8, ⟨Lc8, hQ8, l8, y8, z8⟩, st8⟩ := Jvm.LawKit.callS X7 hx (y := (⟨"com/example/assessor/assessor/datatypes/AtomicValue$Order", "of", "(I)Lcom/example/assessor/assessor/datatypes/AtomicValue$Order;"⟩ : MethodName)) hown (mvT hZ (hw _ (List.mem_of_getElem? (i := 0) rfl))) (mvT hZ (hw _ (List.mem_of_getElem? (i := 1) rfl))) (mvT hZ (hw _ (List.mem_of_getElem? (i := 2) rfl))) (mvT hZ (hw _ (List.mem_of_getElem? (i := 3) rfl))) (by decide) (backOf (W := 0) (rm1 l Z a0 hw [] (0 : Int32) wL wE wG h0 n0 Z0 S_LESS S_EQUAL S_GREATER) hZ (hw _ (List.mem_of_getElem? (i := 3) rfl)) (hw _ (List.mem_of_getElem? (i := 2) rfl)) (by decide) (by decide)) (g := (mkF m 21 #[.val (.int p1), .val (.int p2), .val (.ref (own_of p1 wL wE wG)), .val (.ref (own_of p2 wL wE wG)), .unset, .unset, .unset, .unset, .unset] [(.int (0 : Int32))])) rfl (by rw [hml]; rfl) (argsL := [(.int (0 : Int32))]) (rest := []) (lenOf pd_0_0 rfl) rfl (by show 2 * 0 + _ ≤ _; exact Nat.le_of_eq rfl) (hb hby at_21) (fun _ _ => ⟨rfl, e7, (by decide : 0 + 0 ≤ _), (by decide : 0 + 0 ≤ _)⟩)
  dsimp only [Pt.U, Pt.locs, Pt.cells, Pt.slots] at X8 l8 y8 z8 st8 hQ8
  subst l8 y8 z8
  obtain ⟨rfl, N8q, q8e⟩ := hQ8
  have N8 := Fr.app N5 N8q
  obtain ⟨T10, X10, e10, st10⟩ := getS2 X8 hx hZ hown (host := "") (Or.inl (hw _ (List.mem_of_getElem? (i := 11) rfl))) Via.refl q8e S_EQUAL (g := (mkF m 24 #[.val (.int p1), .val (.int p2), .val (.ref (own_of p1 wL wE wG)), .val (.ref (own_of p2 wL wE wG)), .unset, .unset, .unset, .unset, .unset] [(.ref (own_of (0 : Int32) wL wE wG))])) rfl (hb hby at_24)
  obtain ⟨_, _, ⟨T11, L11, k11, n11⟩, -, X11, ⟨Lc11, hQ11, l11, y11, z11⟩, st11⟩ := Jvm.LawKit.callS X10 hx (y := (⟨"com/example/assessor/assessor/datatypes/AtomicValue$Order", "of", "(I)Lcom/example/assessor/assessor/datatypes/AtomicValue$Order;"⟩ : MethodName)) hown (mvT hZ (hw _ (List.mem_of_getElem? (i := 0) rfl))) (mvT hZ (hw _ (List.mem_of_getElem? (i := 1) rfl))) (mvT hZ (hw _ (List.mem_of_getElem? (i := 2) rfl))) (mvT hZ (hw _ (List.mem_of_getElem? (i := 3) rfl))) (by decide) (backOf (W := 0) (rm1 l Z a0 hw [] (1 : Int32) wL wE wG h0 n0 Z0 S_LESS S_EQUAL S_GREATER) hZ (hw _ (List.mem_of_getElem? (i := 3) rfl)) (hw _ (List.mem_of_getElem? (i := 2) rfl)) (by decide) (by decide)) (g := (mkF m 31 #[.val (.int p1), .val (.int p2), .val (.ref (own_of p1 wL wE wG)), .val (.ref (own_of p2 wL wE wG)), .unset, .unset, .unset, .unset, .unset] [(.int (1 : Int32))])) rfl (by rw [hml]; rfl) (argsL := [(.int (1 : Int32))]) (rest := []) (lenOf pd_0_0 rfl) rfl (by show 2 * 0 + _ ≤ _; exact Nat.le_of_eq rfl) (hb hby at_31) (fun _ _ => ⟨rfl, e10, (by decide : 0 + 0 ≤ _), (by decide : 0 + 0 ≤ _)⟩)
  dsimp only [Pt.U, Pt.locs, Pt.cells, Pt.slots] at X11 l11 y11 z11 st11 hQ11
  subst l11 y11 z11
  obtain ⟨rfl, N11q, q11e⟩ := hQ11
  have N11 := Fr.app N8 N11q
  obtain ⟨T13, X13, e13, st13⟩ := getS2 X11 hx hZ hown (host := "") (Or.inl (hw _ (List.mem_of_getElem? (i := 12) rfl))) Via.refl q11e S_GREATER (g := (mkF m 34 #[.val (.int p1), .val (.int p2), .val (.ref (own_of p1 wL wE wG)), .val (.ref (own_of p2 wL wE wG)), .unset, .unset, .unset, .unset, .unset] [(.ref (own_of (1 : Int32) wL wE wG))])) rfl (hb hby at_34)
  obtain ⟨T15, X15, e15, st15⟩ := getS2 X13 hx hZ hown (host := "") (Or.inl (hw _ (List.mem_of_getElem? (i := 13) rfl))) Via.refl e13 S_INCOMPARABLE (g := (mkF m 56 #[.val (.int p1), .val (.int p2), .val (.ref (own_of p1 wL wE wG)), .val (.ref (own_of p2 wL wE wG)), .val (.int (1 : Int32)), .unset, .unset, .unset, .unset] [(.ref (own_of p1 wL wE wG))])) rfl (hb hby at_56)
  obtain ⟨T16, X16, e16, st16⟩ := getS2 X15 hx hZ hown (host := "") (Or.inl (hw _ (List.mem_of_getElem? (i := 13) rfl))) Via.refl e15 S_INCOMPARABLE (g := (mkF m 63 #[.val (.int p1), .val (.int p2), .val (.ref (own_of p1 wL wE wG)), .val (.ref (own_of p2 wL wE wG)), .val (.int (1 : Int32)), .unset, .unset, .unset, .unset] [(.ref (own_of p2 wL wE wG))])) rfl (hb hby at_63)
  obtain ⟨cq17, kq17, q17a, q17b, q17c⟩ := isOf hZ e16 (own_E p1 E_LESS E_EQUAL E_GREATER)
  obtain ⟨_, _, ⟨T17, L17, k17, n17⟩, -, X17, ⟨Lc17, hQ17, l17, y17, z17⟩, st17⟩ := X16.virtualBackUp hx (x := (⟨"com/example/assessor/assessor/datatypes/AtomicValue$Order", "ordinal", "()I"⟩ : MethodName)) (y := (⟨"java/lang/Enum", "ordinal", "()I"⟩ : MethodName)) hown (mvT hZ (hw _ (List.mem_of_getElem? (i := 15) rfl))) (mvT hZ (hw _ (List.mem_of_getElem? (i := 16) rfl))) (mvT hZ (hw _ (List.mem_of_getElem? (i := 17) rfl))) (by decide) (mvT hZ (hw _ (List.mem_of_getElem? (i := 19) rfl))) (mvT hZ (hw _ (List.mem_of_getElem? (i := 18) rfl))) (backOf (W := 0) (rm2 l Z a0 hw [] (own_of p1 wL wE wG) (own_ord p1) h0 n0 Z0 (own_F p1 F_LESS F_EQUAL F_GREATER)) hZ (hw _ (List.mem_of_getElem? (i := 21) rfl)) (hw _ (List.mem_of_getElem? (i := 20) rfl)) (by decide) (by decide)) q17a q17c (g := (mkF m 113 #[.val (.int p1), .val (.int p2), .val (.ref (own_of p1 wL wE wG)), .val (.ref (own_of p2 wL wE wG)), .val (.int (1 : Int32)), .val (.int (1 : Int32)), .unset, .unset, .unset] [(.ref (own_of p1 wL wE wG))])) rfl (by rw [hml]; rfl) (Steps.refl _) (argsL := []) (rest := []) (lenOf pd_0_1 rfl) rfl (by show 2 * 0 + _ ≤ _; exact Nat.le_of_eq rfl) (hb hby at_113) (fun _ _ => ⟨rfl, e16, (by decide : 0 + 0 ≤ _), (by decide : 0 + 0 ≤ _)⟩)
  dsimp only [Pt.U, Pt.locs, Pt.cells, Pt.slots] at X17 l17 y17 z17 st17 hQ17
  subst l17 y17 z17
  obtain ⟨rfl, N17q, q17e⟩ := hQ17
  have N17 := Fr.app N11 N17q
  obtain ⟨cq18, kq18, q18a, q18b, q18c⟩ := isOf hZ q17e (own_E p2 E_LESS E_EQUAL E_GREATER)
  obtain ⟨_, _, ⟨T18, L18, k18, n18⟩, -, X18, ⟨Lc18, hQ18, l18, y18, z18⟩, st18⟩ := X17.virtualBackUp hx (x := (⟨"com/example/assessor/assessor/datatypes/AtomicValue$Order", "ordinal", "()I"⟩ : MethodName)) (y := (⟨"java/lang/Enum", "ordinal", "()I"⟩ : MethodName)) hown (mvT hZ (hw _ (List.mem_of_getElem? (i := 15) rfl))) (mvT hZ (hw _ (List.mem_of_getElem? (i := 16) rfl))) (mvT hZ (hw _ (List.mem_of_getElem? (i := 17) rfl))) (by decide) (mvT hZ (hw _ (List.mem_of_getElem? (i := 19) rfl))) (mvT hZ (hw _ (List.mem_of_getElem? (i := 18) rfl))) (backOf (W := 1) (rm2 l Z a0 hw [] (own_of p2 wL wE wG) (own_ord p2) h0 n0 Z0 (own_F p2 F_LESS F_EQUAL F_GREATER)) hZ (hw _ (List.mem_of_getElem? (i := 21) rfl)) (hw _ (List.mem_of_getElem? (i := 20) rfl)) (by decide) (by decide)) q18a q18c (g := (mkF m 117 #[.val (.int p1), .val (.int p2), .val (.ref (own_of p1 wL wE wG)), .val (.ref (own_of p2 wL wE wG)), .val (.int (1 : Int32)), .val (.int (1 : Int32)), .unset, .unset, .unset] [(.ref (own_of p2 wL wE wG)), (.int (own_ord p1))])) rfl (by rw [hml]; rfl) (Steps.refl _) (argsL := []) (rest := [(.int (own_ord p1))]) (lenOf pd_0_1 rfl) rfl (by show 2 * 0 + _ ≤ _; exact Nat.le_of_eq rfl) (hb hby at_117) (fun _ _ => ⟨rfl, q17e, (by decide : 0 + 0 ≤ _), (by decide : 0 + 0 ≤ _)⟩)
  dsimp only [Pt.U, Pt.locs, Pt.cells, Pt.slots] at X18 l18 y18 z18 st18 hQ18
  subst l18 y18 z18
  obtain ⟨rfl, N18q, q18e⟩ := hQ18
  have N18 := Fr.app N17 N18q
  obtain ⟨fs, hr, hrun, hended, hW, hsame⟩ := X18.leave (v := some (.int (1 : Int32))) (fun h => by rw [Bd.returns] at h; cases h)
  refine ⟨_, _, pre0 _ ?_, hrun, hended, _, _, rfl, ?_, ⟨_, rfl⟩, hW, hsame.mono (by decide) (by decide)⟩
  · show Steps p.tables e below (s₁.setTop (mkF m 0 #[.val (.int p1), .val (.int p2), .unset, .unset, .unset, .unset, .unset, .unset, .unset] [])) _
    refine XS.iloadN X0.here hx rfl (hb hby at_0) rfl ?_
    show Steps p.tables e below (s₁.setTop (mkF m 1 #[.val (.int p1), .val (.int p2), .unset, .unset, .unset, .unset, .unset, .unset, .unset] [(.int p1)])) _
    refine st3 _ ?_
    show Steps p.tables e below (T3.setTop (mkF m 4 #[.val (.int p1), .val (.int p2), .unset, .unset, .unset, .unset, .unset, .unset, .unset] [(.ref (own_of p1 wL wE wG))])) _
    refine XS.astoreN X3.here hx rfl (hb hby at_4) rfl rfl (l' := #[.val (.int p1), .val (.int p2), .val (.ref (own_of p1 wL wE wG)), .unset, .unset, .unset, .unset, .unset, .unset]) rfl ?_
    show Steps p.tables e below (T3.setTop (mkF m 5 #[.val (.int p1), .val (.int p2), .val (.ref (own_of p1 wL wE wG)), .unset, .unset, .unset, .unset, .unset, .unset] [])) _
    refine XS.iloadN X3.here hx rfl (hb hby at_5) rfl ?_
    show Steps p.tables e below (T3.setTop (mkF m 6 #[.val (.int p1), .val (.int p2), .val (.ref (own_of p1 wL wE wG)), .unset, .unset, .unset, .unset, .unset, .unset] [(.int p2)])) _
    refine st4 _ ?_
    show Steps p.tables e below (T4.setTop (mkF m 9 #[.val (.int p1), .val (.int p2), .val (.ref (own_of p1 wL wE wG)), .unset, .unset, .unset, .unset, .unset, .unset] [(.ref (own_of p2 wL wE wG))])) _
    refine XS.astoreN X4.here hx rfl (hb hby at_9) rfl rfl (l' := #[.val (.int p1), .val (.int p2), .val (.ref (own_of p1 wL wE wG)), .val (.ref (own_of p2 wL wE wG)), .unset, .unset, .unset, .unset, .unset]) rfl ?_
    show Steps p.tables e below (T4.setTop (mkF m 10 #[.val (.int p1), .val (.int p2), .val (.ref (own_of p1 wL wE wG)), .val (.ref (own_of p2 wL wE wG)), .unset, .unset, .unset, .unset, .unset] [])) _
    refine XS.iconst X4.here hx rfl (hb hby at_10) ?_
    show Steps p.tables e below (T4.setTop (mkF m 11 #[.val (.int p1), .val (.int p2), .val (.ref (own_of p1 wL wE wG)), .val (.ref (own_of p2 wL wE wG)), .unset, .unset, .unset, .unset, .unset] [(.int (-1 : Int32))])) _
    refine st5 _ ?_
    show Steps p.tables e below (T5.setTop (mkF m 14 #[.val (.int p1), .val (.int p2), .val (.ref (own_of p1 wL wE wG)), .val (.ref (own_of p2 wL wE wG)), .unset, .unset, .unset, .unset, .unset] [(.ref (own_of (-1 : Int32) wL wE wG))])) _
    refine st7 _ ?_
    show Steps p.tables e below (T7.setTop (mkF m 17 #[.val (.int p1), .val (.int p2), .val (.ref (own_of p1 wL wE wG)), .val (.ref (own_of p2 wL wE wG)), .unset, .unset, .unset, .unset, .unset] [(.ref wL), (.ref (own_of (-1 : Int32) wL wE wG))])) _
    refine Jvm.RoadKit.acmp (g := (mkF m 17 #[.val (.int p1), .val (.int p2), .val (.ref (own_of p1 wL wE wG)), .val (.ref (own_of p2 wL wE wG)), .unset, .unset, .unset, .unset, .unset] [(.ref wL), (.ref (own_of (-1 : Int32) wL wE wG))])) X7 hx rfl rfl rfl (pc0 := 17) (pc' := 20) (same := true) rfl (hb hby at_17) rfl (decide_eq_true (congrArg Value.ref ha17)) (by decide) (by decide) ?_
    show Steps p.tables e below (T7.setTop (mkF m 20 #[.val (.int p1), .val (.int p2), .val (.ref (own_of p1 wL wE wG)), .val (.ref (own_of p2 wL wE wG)), .unset, .unset, .unset, .unset, .unset] [])) _
    refine XS.iconst X7.here hx rfl (hb hby at_20) ?_
    show Steps p.tables e below (T7.setTop (mkF m 21 #[.val (.int p1), .val (.int p2), .val (.ref (own_of p1 wL wE wG)), .val (.ref (own_of p2 wL wE wG)), .unset, .unset, .unset, .unset, .unset] [(.int (0 : Int32))])) _
    refine st8 _ ?_
    show Steps p.tables e below (T8.setTop (mkF m 24 #[.val (.int p1), .val (.int p2), .val (.ref (own_of p1 wL wE wG)), .val (.ref (own_of p2 wL wE wG)), .unset, .unset, .unset, .unset, .unset] [(.ref (own_of (0 : Int32) wL wE wG))])) _
    refine st10 _ ?_
    show Steps p.tables e below (T10.setTop (mkF m 27 #[.val (.int p1), .val (.int p2), .val (.ref (own_of p1 wL wE wG)), .val (.ref (own_of p2 wL wE wG)), .unset, .unset, .unset, .unset, .unset] [(.ref wE), (.ref (own_of (0 : Int32) wL wE wG))])) _
    refine Jvm.RoadKit.acmp (g := (mkF m 27 #[.val (.int p1), .val (.int p2), .val (.ref (own_of p1 wL wE wG)), .val (.ref (own_of p2 wL wE wG)), .unset, .unset, .unset, .unset, .unset] [(.ref wE), (.ref (own_of (0 : Int32) wL wE wG))])) X10 hx rfl rfl rfl (pc0 := 27) (pc' := 30) (same := true) rfl (hb hby at_27) rfl (decide_eq_true (congrArg Value.ref ha27)) (by decide) (by decide) ?_
    show Steps p.tables e below (T10.setTop (mkF m 30 #[.val (.int p1), .val (.int p2), .val (.ref (own_of p1 wL wE wG)), .val (.ref (own_of p2 wL wE wG)), .unset, .unset, .unset, .unset, .unset] [])) _
    refine XS.iconst X10.here hx rfl (hb hby at_30) ?_
    show Steps p.tables e below (T10.setTop (mkF m 31 #[.val (.int p1), .val (.int p2), .val (.ref (own_of p1 wL wE wG)), .val (.ref (own_of p2 wL wE wG)), .unset, .unset, .unset, .unset, .unset] [(.int (1 : Int32))])) _
    refine st11 _ ?_
    show Steps p.tables e below (T11.setTop (mkF m 34 #[.val (.int p1), .val (.int p2), .val (.ref (own_of p1 wL wE wG)), .val (.ref (own_of p2 wL wE wG)), .unset, .unset, .unset, .unset, .unset] [(.ref (own_of (1 : Int32) wL wE wG))])) _
    refine st13 _ ?_
    show Steps p.tables e below (T13.setTop (mkF m 37 #[.val (.int p1), .val (.int p2), .val (.ref (own_of p1 wL wE wG)), .val (.ref (own_of p2 wL wE wG)), .unset, .unset, .unset, .unset, .unset] [(.ref wG), (.ref (own_of (1 : Int32) wL wE wG))])) _
    refine Jvm.RoadKit.acmp (g := (mkF m 37 #[.val (.int p1), .val (.int p2), .val (.ref (own_of p1 wL wE wG)), .val (.ref (own_of p2 wL wE wG)), .unset, .unset, .unset, .unset, .unset] [(.ref wG), (.ref (own_of (1 : Int32) wL wE wG))])) X13 hx rfl rfl rfl (pc0 := 37) (pc' := 40) (same := true) rfl (hb hby at_37) rfl (decide_eq_true (congrArg Value.ref ha37)) (by decide) (by decide) ?_
    show Steps p.tables e below (T13.setTop (mkF m 40 #[.val (.int p1), .val (.int p2), .val (.ref (own_of p1 wL wE wG)), .val (.ref (own_of p2 wL wE wG)), .unset, .unset, .unset, .unset, .unset] [])) _
    refine XS.iconst X13.here hx rfl (hb hby at_40) ?_
    show Steps p.tables e below (T13.setTop (mkF m 41 #[.val (.int p1), .val (.int p2), .val (.ref (own_of p1 wL wE wG)), .val (.ref (own_of p2 wL wE wG)), .unset, .unset, .unset, .unset, .unset] [(.int (1 : Int32))])) _
    refine XS.goto X13.here hx rfl (pc0 := 41) (pc' := 45) rfl (hb hby at_41) (by decide) (by decide) ?_
    show Steps p.tables e below (T13.setTop (mkF m 45 #[.val (.int p1), .val (.int p2), .val (.ref (own_of p1 wL wE wG)), .val (.ref (own_of p2 wL wE wG)), .unset, .unset, .unset, .unset, .unset] [(.int (1 : Int32))])) _
    refine XS.istore X13.here hx rfl (hb hby at_45) rfl (l' := #[.val (.int p1), .val (.int p2), .val (.ref (own_of p1 wL wE wG)), .val (.ref (own_of p2 wL wE wG)), .val (.int (1 : Int32)), .unset, .unset, .unset, .unset]) rfl ?_
    show Steps p.tables e below (T13.setTop (mkF m 47 #[.val (.int p1), .val (.int p2), .val (.ref (own_of p1 wL wE wG)), .val (.ref (own_of p2 wL wE wG)), .val (.int (1 : Int32)), .unset, .unset, .unset, .unset] [])) _
    refine XS.aloadN X13.here hx rfl (hb hby at_47) rfl rfl ?_
    show Steps p.tables e below (T13.setTop (mkF m 48 #[.val (.int p1), .val (.int p2), .val (.ref (own_of p1 wL wE wG)), .val (.ref (own_of p2 wL wE wG)), .val (.int (1 : Int32)), .unset, .unset, .unset, .unset] [(.ref (own_of p1 wL wE wG))])) _
    refine XS.ifnullNo X13.here hx rfl (hb hby at_48) rfl ?_
    show Steps p.tables e below (T13.setTop (mkF m 51 #[.val (.int p1), .val (.int p2), .val (.ref (own_of p1 wL wE wG)), .val (.ref (own_of p2 wL wE wG)), .val (.int (1 : Int32)), .unset, .unset, .unset, .unset] [])) _
    refine XS.aloadN X13.here hx rfl (hb hby at_51) rfl rfl ?_
    show Steps p.tables e below (T13.setTop (mkF m 52 #[.val (.int p1), .val (.int p2), .val (.ref (own_of p1 wL wE wG)), .val (.ref (own_of p2 wL wE wG)), .val (.int (1 : Int32)), .unset, .unset, .unset, .unset] [(.ref (own_of p2 wL wE wG))])) _
    refine XS.ifnullNo X13.here hx rfl (hb hby at_52) rfl ?_
    show Steps p.tables e below (T13.setTop (mkF m 55 #[.val (.int p1), .val (.int p2), .val (.ref (own_of p1 wL wE wG)), .val (.ref (own_of p2 wL wE wG)), .val (.int (1 : Int32)), .unset, .unset, .unset, .unset] [])) _
    refine XS.aloadN X13.here hx rfl (hb hby at_55) rfl rfl ?_
    show Steps p.tables e below (T13.setTop (mkF m 56 #[.val (.int p1), .val (.int p2), .val (.ref (own_of p1 wL wE wG)), .val (.ref (own_of p2 wL wE wG)), .val (.int (1 : Int32)), .unset, .unset, .unset, .unset] [(.ref (own_of p1 wL wE wG))])) _
    refine st15 _ ?_
    show Steps p.tables e below (T15.setTop (mkF m 59 #[.val (.int p1), .val (.int p2), .val (.ref (own_of p1 wL wE wG)), .val (.ref (own_of p2 wL wE wG)), .val (.int (1 : Int32)), .unset, .unset, .unset, .unset] [(.ref wI), (.ref (own_of p1 wL wE wG))])) _
    refine Jvm.RoadKit.acmp (g := (mkF m 59 #[.val (.int p1), .val (.int p2), .val (.ref (own_of p1 wL wE wG)), .val (.ref (own_of p2 wL wE wG)), .val (.int (1 : Int32)), .unset, .unset, .unset, .unset] [(.ref wI), (.ref (own_of p1 wL wE wG))])) X15 hx rfl rfl rfl (pc0 := 59) (pc' := 62) (same := false) rfl (hb hby at_59) rfl (decide_eq_false fun q => ha59 (Value.ref.inj q)) (by decide) (by decide) ?_
    show Steps p.tables e below (T15.setTop (mkF m 62 #[.val (.int p1), .val (.int p2), .val (.ref (own_of p1 wL wE wG)), .val (.ref (own_of p2 wL wE wG)), .val (.int (1 : Int32)), .unset, .unset, .unset, .unset] [])) _
    refine XS.aloadN X15.here hx rfl (hb hby at_62) rfl rfl ?_
    show Steps p.tables e below (T15.setTop (mkF m 63 #[.val (.int p1), .val (.int p2), .val (.ref (own_of p1 wL wE wG)), .val (.ref (own_of p2 wL wE wG)), .val (.int (1 : Int32)), .unset, .unset, .unset, .unset] [(.ref (own_of p2 wL wE wG))])) _
    refine st16 _ ?_
    show Steps p.tables e below (T16.setTop (mkF m 66 #[.val (.int p1), .val (.int p2), .val (.ref (own_of p1 wL wE wG)), .val (.ref (own_of p2 wL wE wG)), .val (.int (1 : Int32)), .unset, .unset, .unset, .unset] [(.ref wI), (.ref (own_of p2 wL wE wG))])) _
    refine Jvm.RoadKit.acmp (g := (mkF m 66 #[.val (.int p1), .val (.int p2), .val (.ref (own_of p1 wL wE wG)), .val (.ref (own_of p2 wL wE wG)), .val (.int (1 : Int32)), .unset, .unset, .unset, .unset] [(.ref wI), (.ref (own_of p2 wL wE wG))])) X16 hx rfl rfl rfl (pc0 := 66) (pc' := 69) (same := false) rfl (hb hby at_66) rfl (decide_eq_false fun q => ha66 (Value.ref.inj q)) (by decide) (by decide) ?_
    show Steps p.tables e below (T16.setTop (mkF m 69 #[.val (.int p1), .val (.int p2), .val (.ref (own_of p1 wL wE wG)), .val (.ref (own_of p2 wL wE wG)), .val (.int (1 : Int32)), .unset, .unset, .unset, .unset] [])) _
    refine XS.iconst X16.here hx rfl (hb hby at_69) ?_
    show Steps p.tables e below (T16.setTop (mkF m 70 #[.val (.int p1), .val (.int p2), .val (.ref (own_of p1 wL wE wG)), .val (.ref (own_of p2 wL wE wG)), .val (.int (1 : Int32)), .unset, .unset, .unset, .unset] [(.int (1 : Int32))])) _
    refine XS.goto X16.here hx rfl (pc0 := 70) (pc' := 74) rfl (hb hby at_70) (by decide) (by decide) ?_
    show Steps p.tables e below (T16.setTop (mkF m 74 #[.val (.int p1), .val (.int p2), .val (.ref (own_of p1 wL wE wG)), .val (.ref (own_of p2 wL wE wG)), .val (.int (1 : Int32)), .unset, .unset, .unset, .unset] [(.int (1 : Int32))])) _
    refine XS.istore X16.here hx rfl (hb hby at_74) rfl (l' := #[.val (.int p1), .val (.int p2), .val (.ref (own_of p1 wL wE wG)), .val (.ref (own_of p2 wL wE wG)), .val (.int (1 : Int32)), .val (.int (1 : Int32)), .unset, .unset, .unset]) rfl ?_
    show Steps p.tables e below (T16.setTop (mkF m 76 #[.val (.int p1), .val (.int p2), .val (.ref (own_of p1 wL wE wG)), .val (.ref (own_of p2 wL wE wG)), .val (.int (1 : Int32)), .val (.int (1 : Int32)), .unset, .unset, .unset] [])) _
    refine XS.iload X16.here hx rfl (hb hby at_76) rfl ?_
    show Steps p.tables e below (T16.setTop (mkF m 78 #[.val (.int p1), .val (.int p2), .val (.ref (own_of p1 wL wE wG)), .val (.ref (own_of p2 wL wE wG)), .val (.int (1 : Int32)), .val (.int (1 : Int32)), .unset, .unset, .unset] [(.int (1 : Int32))])) _
    refine XS.ifNo X16.here hx rfl (hb hby at_78) rfl ((if0 _ _).trans (feq hc78).1) ?_
    show Steps p.tables e below (T16.setTop (mkF m 81 #[.val (.int p1), .val (.int p2), .val (.ref (own_of p1 wL wE wG)), .val (.ref (own_of p2 wL wE wG)), .val (.int (1 : Int32)), .val (.int (1 : Int32)), .unset, .unset, .unset] [])) _
    refine XS.iload X16.here hx rfl (hb hby at_81) rfl ?_
    show Steps p.tables e below (T16.setTop (mkF m 83 #[.val (.int p1), .val (.int p2), .val (.ref (own_of p1 wL wE wG)), .val (.ref (own_of p2 wL wE wG)), .val (.int (1 : Int32)), .val (.int (1 : Int32)), .unset, .unset, .unset] [(.int (1 : Int32))])) _
    refine XS.ifYes X16.here hx rfl (pc0 := 83) (pc' := 88) rfl (hb hby at_83) rfl ((if0 _ _).trans (feq hc83).2) (by decide) (by decide) ?_
    show Steps p.tables e below (T16.setTop (mkF m 88 #[.val (.int p1), .val (.int p2), .val (.ref (own_of p1 wL wE wG)), .val (.ref (own_of p2 wL wE wG)), .val (.int (1 : Int32)), .val (.int (1 : Int32)), .unset, .unset, .unset] [])) _
    refine XS.iloadN X16.here hx rfl (hb hby at_88) rfl ?_
    show Steps p.tables e below (T16.setTop (mkF m 89 #[.val (.int p1), .val (.int p2), .val (.ref (own_of p1 wL wE wG)), .val (.ref (own_of p2 wL wE wG)), .val (.int (1 : Int32)), .val (.int (1 : Int32)), .unset, .unset, .unset] [(.int p1)])) _
    refine XS.iloadN X16.here hx rfl (hb hby at_89) rfl ?_
    show Steps p.tables e below (T16.setTop (mkF m 90 #[.val (.int p1), .val (.int p2), .val (.ref (own_of p1 wL wE wG)), .val (.ref (own_of p2 wL wE wG)), .val (.int (1 : Int32)), .val (.int (1 : Int32)), .unset, .unset, .unset] [(.int p2), (.int p1)])) _
    refine XS.icmpYes X16.here hx rfl (pc0 := 90) (pc' := 112) rfl (hb hby at_90) rfl (tlt hc90).2.2.1 (by decide) (by decide) ?_
    show Steps p.tables e below (T16.setTop (mkF m 112 #[.val (.int p1), .val (.int p2), .val (.ref (own_of p1 wL wE wG)), .val (.ref (own_of p2 wL wE wG)), .val (.int (1 : Int32)), .val (.int (1 : Int32)), .unset, .unset, .unset] [])) _
    refine XS.aloadN X16.here hx rfl (hb hby at_112) rfl rfl ?_
    show Steps p.tables e below (T16.setTop (mkF m 113 #[.val (.int p1), .val (.int p2), .val (.ref (own_of p1 wL wE wG)), .val (.ref (own_of p2 wL wE wG)), .val (.int (1 : Int32)), .val (.int (1 : Int32)), .unset, .unset, .unset] [(.ref (own_of p1 wL wE wG))])) _
    refine st17.trans ?_
    show Steps p.tables e below (T17.setTop (mkF m 116 #[.val (.int p1), .val (.int p2), .val (.ref (own_of p1 wL wE wG)), .val (.ref (own_of p2 wL wE wG)), .val (.int (1 : Int32)), .val (.int (1 : Int32)), .unset, .unset, .unset] [(.int (own_ord p1))])) _
    refine XS.aloadN X17.here hx rfl (hb hby at_116) rfl rfl ?_
    show Steps p.tables e below (T17.setTop (mkF m 117 #[.val (.int p1), .val (.int p2), .val (.ref (own_of p1 wL wE wG)), .val (.ref (own_of p2 wL wE wG)), .val (.int (1 : Int32)), .val (.int (1 : Int32)), .unset, .unset, .unset] [(.ref (own_of p2 wL wE wG)), (.int (own_ord p1))])) _
    refine st18.trans ?_
    show Steps p.tables e below (T18.setTop (mkF m 120 #[.val (.int p1), .val (.int p2), .val (.ref (own_of p1 wL wE wG)), .val (.ref (own_of p2 wL wE wG)), .val (.int (1 : Int32)), .val (.int (1 : Int32)), .unset, .unset, .unset] [(.int (own_ord p2)), (.int (own_ord p1))])) _
    refine XS.icmpNo X18.here hx rfl (hb hby at_120) rfl (flt ((own_down hc90) : ¬ ((own_ord p1) < (own_ord p2)))).1 ?_
    show Steps p.tables e below (T18.setTop (mkF m 123 #[.val (.int p1), .val (.int p2), .val (.ref (own_of p1 wL wE wG)), .val (.ref (own_of p2 wL wE wG)), .val (.int (1 : Int32)), .val (.int (1 : Int32)), .unset, .unset, .unset] [])) _
    refine XS.iconst X18.here hx rfl (hb hby at_123) ?_
    show Steps p.tables e below (T18.setTop (mkF m 124 #[.val (.int p1), .val (.int p2), .val (.ref (own_of p1 wL wE wG)), .val (.ref (own_of p2 wL wE wG)), .val (.int (1 : Int32)), .val (.int (1 : Int32)), .unset, .unset, .unset] [(.int (1 : Int32))])) _
    refine XS.goto X18.here hx rfl (pc0 := 124) (pc' := 128) rfl (hb hby at_124) (by decide) (by decide) ?_
    show Steps p.tables e below (T18.setTop (mkF m 128 #[.val (.int p1), .val (.int p2), .val (.ref (own_of p1 wL wE wG)), .val (.ref (own_of p2 wL wE wG)), .val (.int (1 : Int32)), .val (.int (1 : Int32)), .unset, .unset, .unset] [(.int (1 : Int32))])) _
    refine XS.istore X18.here hx rfl (hb hby at_128) rfl (l' := #[.val (.int p1), .val (.int p2), .val (.ref (own_of p1 wL wE wG)), .val (.ref (own_of p2 wL wE wG)), .val (.int (1 : Int32)), .val (.int (1 : Int32)), .val (.int (1 : Int32)), .unset, .unset]) rfl ?_
    show Steps p.tables e below (T18.setTop (mkF m 130 #[.val (.int p1), .val (.int p2), .val (.ref (own_of p1 wL wE wG)), .val (.ref (own_of p2 wL wE wG)), .val (.int (1 : Int32)), .val (.int (1 : Int32)), .val (.int (1 : Int32)), .unset, .unset] [])) _
    refine XS.iconst X18.here hx rfl (hb hby at_130) ?_
    show Steps p.tables e below (T18.setTop (mkF m 131 #[.val (.int p1), .val (.int p2), .val (.ref (own_of p1 wL wE wG)), .val (.ref (own_of p2 wL wE wG)), .val (.int (1 : Int32)), .val (.int (1 : Int32)), .val (.int (1 : Int32)), .unset, .unset] [(.int (1 : Int32))])) _
    refine XS.istore X18.here hx rfl (hb hby at_131) rfl (l' := #[.val (.int p1), .val (.int p2), .val (.ref (own_of p1 wL wE wG)), .val (.ref (own_of p2 wL wE wG)), .val (.int (1 : Int32)), .val (.int (1 : Int32)), .val (.int (1 : Int32)), .val (.int (1 : Int32)), .unset]) rfl ?_
    show Steps p.tables e below (T18.setTop (mkF m 133 #[.val (.int p1), .val (.int p2), .val (.ref (own_of p1 wL wE wG)), .val (.ref (own_of p2 wL wE wG)), .val (.int (1 : Int32)), .val (.int (1 : Int32)), .val (.int (1 : Int32)), .val (.int (1 : Int32)), .unset] [])) _
    refine XS.iloadN X18.here hx rfl (hb hby at_133) rfl ?_
    show Steps p.tables e below (T18.setTop (mkF m 134 #[.val (.int p1), .val (.int p2), .val (.ref (own_of p1 wL wE wG)), .val (.ref (own_of p2 wL wE wG)), .val (.int (1 : Int32)), .val (.int (1 : Int32)), .val (.int (1 : Int32)), .val (.int (1 : Int32)), .unset] [(.int p1)])) _
    refine X18.ldcInt hx hown (mvT hZ (hw _ (List.mem_of_getElem? (i := 24) rfl))) (g := (mkF m 134 #[.val (.int p1), .val (.int p2), .val (.ref (own_of p1 wL wE wG)), .val (.ref (own_of p2 wL wE wG)), .val (.int (1 : Int32)), .val (.int (1 : Int32)), .val (.int (1 : Int32)), .val (.int (1 : Int32)), .unset] [(.int p1)])) rfl (hb hby at_134) _ ?_
    show Steps p.tables e below (T18.setTop (mkF m 136 #[.val (.int p1), .val (.int p2), .val (.ref (own_of p1 wL wE wG)), .val (.ref (own_of p2 wL wE wG)), .val (.int (1 : Int32)), .val (.int (1 : Int32)), .val (.int (1 : Int32)), .val (.int (1 : Int32)), .unset] [(.int (-2147483648 : Int32)), (.int p1)])) _
    refine XS.icmpYes X18.here hx rfl (pc0 := 136) (pc' := 172) rfl (hb hby at_136) rfl (teq hc136).1 (by decide) (by decide) ?_
    show Steps p.tables e below (T18.setTop (mkF m 172 #[.val (.int p1), .val (.int p2), .val (.ref (own_of p1 wL wE wG)), .val (.ref (own_of p2 wL wE wG)), .val (.int (1 : Int32)), .val (.int (1 : Int32)), .val (.int (1 : Int32)), .val (.int (1 : Int32)), .unset] [])) _
    refine XS.iload X18.here hx rfl (hb hby at_172) rfl ?_
    show Steps p.tables e below (T18.setTop (mkF m 174 #[.val (.int p1), .val (.int p2), .val (.ref (own_of p1 wL wE wG)), .val (.ref (own_of p2 wL wE wG)), .val (.int (1 : Int32)), .val (.int (1 : Int32)), .val (.int (1 : Int32)), .val (.int (1 : Int32)), .unset] [(.int (1 : Int32))])) _
    refine XS.ifNo X18.here hx rfl (hb hby at_174) rfl ((if0 _ _).trans (feq hc174).1) ?_
    show Steps p.tables e below (T18.setTop (mkF m 177 #[.val (.int p1), .val (.int p2), .val (.ref (own_of p1 wL wE wG)), .val (.ref (own_of p2 wL wE wG)), .val (.int (1 : Int32)), .val (.int (1 : Int32)), .val (.int (1 : Int32)), .val (.int (1 : Int32)), .unset] [])) _
    refine XS.iload X18.here hx rfl (hb hby at_177) rfl ?_
    show Steps p.tables e below (T18.setTop (mkF m 179 #[.val (.int p1), .val (.int p2), .val (.ref (own_of p1 wL wE wG)), .val (.ref (own_of p2 wL wE wG)), .val (.int (1 : Int32)), .val (.int (1 : Int32)), .val (.int (1 : Int32)), .val (.int (1 : Int32)), .unset] [(.int (1 : Int32))])) _
    refine XS.ifNo X18.here hx rfl (hb hby at_179) rfl ((if0 _ _).trans (feq hc179).1) ?_
    show Steps p.tables e below (T18.setTop (mkF m 182 #[.val (.int p1), .val (.int p2), .val (.ref (own_of p1 wL wE wG)), .val (.ref (own_of p2 wL wE wG)), .val (.int (1 : Int32)), .val (.int (1 : Int32)), .val (.int (1 : Int32)), .val (.int (1 : Int32)), .unset] [])) _
    refine XS.iconst X18.here hx rfl (hb hby at_182) ?_
    show Steps p.tables e below (T18.setTop (mkF m 183 #[.val (.int p1), .val (.int p2), .val (.ref (own_of p1 wL wE wG)), .val (.ref (own_of p2 wL wE wG)), .val (.int (1 : Int32)), .val (.int (1 : Int32)), .val (.int (1 : Int32)), .val (.int (1 : Int32)), .unset] [(.int (1 : Int32))])) _
    refine XS.goto X18.here hx rfl (pc0 := 183) (pc' := 187) rfl (hb hby at_183) (by decide) (by decide) ?_
    show Steps p.tables e below (T18.setTop (mkF m 187 #[.val (.int p1), .val (.int p2), .val (.ref (own_of p1 wL wE wG)), .val (.ref (own_of p2 wL wE wG)), .val (.int (1 : Int32)), .val (.int (1 : Int32)), .val (.int (1 : Int32)), .val (.int (1 : Int32)), .unset] [(.int (1 : Int32))])) _
    exact retN X18 hx (t := .boolean) Bd.returns (by simp) (hb hby at_187) hr
  · show Q0 Z h0 n0 _ T18.heap _
    exact ⟨rfl, N18⟩
set_option maxRecDepth 65536 in
set_option maxHeartbeats 40000000 in
theorem rm0 (l : Launch) (Z : State) (a0 : Array Value) (hw : ∀ d ∈ tables_1, d.before a0 Z = true) (ws : List Jvm.Cond) (p1 : Int32) (p2 : Int32) (wL wE wG wI : Addr) (h0 : Heap) (n0 : Nat) (Z0 : n0 ≤ h0.size) (S_LESS : Sta Z h0 "com/example/assessor/assessor/datatypes/AtomicValue$Order" "LESS" "Lcom/example/assessor/assessor/datatypes/AtomicValue$Order;" (.ref wL)) (E_LESS : Exa Z h0 wL "com/example/assessor/assessor/datatypes/AtomicValue$Order") (F_LESS : Fld Z h0 wL "java/lang/Enum" "ordinal" "I" (.int (0 : Int32))) (S_EQUAL : Sta Z h0 "com/example/assessor/assessor/datatypes/AtomicValue$Order" "EQUAL" "Lcom/example/assessor/assessor/datatypes/AtomicValue$Order;" (.ref wE)) (E_EQUAL : Exa Z h0 wE "com/example/assessor/assessor/datatypes/AtomicValue$Order") (F_EQUAL : Fld Z h0 wE "java/lang/Enum" "ordinal" "I" (.int (1 : Int32))) (S_GREATER : Sta Z h0 "com/example/assessor/assessor/datatypes/AtomicValue$Order" "GREATER" "Lcom/example/assessor/assessor/datatypes/AtomicValue$Order;" (.ref wG)) (E_GREATER : Exa Z h0 wG "com/example/assessor/assessor/datatypes/AtomicValue$Order") (F_GREATER : Fld Z h0 wG "java/lang/Enum" "ordinal" "I" (.int (2 : Int32))) (S_INCOMPARABLE : Sta Z h0 "com/example/assessor/assessor/datatypes/AtomicValue$Order" "INCOMPARABLE" "Lcom/example/assessor/assessor/datatypes/AtomicValue$Order;" (.ref wI)) (E_INCOMPARABLE : Exa Z h0 wI "com/example/assessor/assessor/datatypes/AtomicValue$Order") (F_INCOMPARABLE : Fld Z h0 wI "java/lang/Enum" "ordinal" "I" (.int (3 : Int32))) :
    MetFree l x (head1 (Jvm.Cond.code x code maxLocals ret :: ws) room_1) (fun a U => a = #[(.int p1), (.int p2)] ∧ Z.Warmed39 U.vm ∧ U.heap = h0) (fun _ _ _ _ _ => True) (fun _ U o U' => ∃ v L, o = .returned v ∧ Q0 Z h0 n0 v U'.heap L ∧ FrameEnd U o U' L room_1.cells room_1.slots) := by
  by_cases hc90 : p2 < p1
  · by_cases hc136 : p1 = (-2147483648 : Int32)
    · exact rm0d l Z a0 hw ws p1 p2 wL wE wG wI h0 n0 Z0 S_LESS E_LESS F_LESS S_EQUAL E_EQUAL F_EQUAL S_GREATER E_GREATER F_GREATER S_INCOMPARABLE E_INCOMPARABLE F_INCOMPARABLE hc90 hc136
    · exact rm0c l Z a0 hw ws p1 p2 wL wE wG wI h0 n0 Z0 S_LESS E_LESS F_LESS S_EQUAL E_EQUAL F_EQUAL S_GREATER E_GREATER F_GREATER S_INCOMPARABLE E_INCOMPARABLE F_INCOMPARABLE hc90 hc136
  · by_cases hc136 : p1 = (-2147483648 : Int32)
    · exact rm0b l Z a0 hw ws p1 p2 wL wE wG wI h0 n0 Z0 S_LESS E_LESS F_LESS S_EQUAL E_EQUAL F_EQUAL S_GREATER E_GREATER F_GREATER S_INCOMPARABLE E_INCOMPARABLE F_INCOMPARABLE hc90 hc136
    · exact rm0a l Z a0 hw ws p1 p2 wL wE wG wI h0 n0 Z0 S_LESS E_LESS F_LESS S_EQUAL E_EQUAL F_EQUAL S_GREATER E_GREATER F_GREATER S_INCOMPARABLE E_INCOMPARABLE F_INCOMPARABLE hc90 hc136
set_option maxRecDepth 65536 in
set_option maxHeartbeats 40000000 in
theorem comes_1 {Post : Tables → Env → Array Value → State → Outcome → State → Prop} (hpost : ∀ tb e args s v u, (limb_1_1.after args s (.returned v) u = true ∧ limb_1_2.after args s (.returned v) u = true ∧ True) → FrameEnd s (.returned v) u (Jvm.fieldLocs frame_1_writes args s ++ Jvm.arrayLocs frame_1_arrays args s ++ Jvm.staticLocs frame_1_statics s) 0 0 → Post tb e args s (.returned v) u) :
    ArmFor flags0 classFile x code maxLocals ret World_1 tables_1 room_1 Calls_1 rest_1 Pre_1 Post := by
  intro l hfl _ _ p e ha hc hk s m args below hf hA hF happ hP
  obtain ⟨hcalls, hrest, hpre⟩ := hP
  obtain ⟨-, -, -, hnamed, -, -, -, hat⟩ := (Spec.applies_iff hf).mp happ
  obtain ⟨hg, hn⟩ := and_e (Cond.before_iff.mp (show (Jvm.Cond.and given_1 narrow_1).before args s = true from hpre))
  obtain ⟨g22, g23⟩ := and_e hg
  obtain ⟨g24, g25⟩ := and_e g23
  obtain ⟨w0, w1, rfl⟩ : ∃ w0 w1 : Value, args = #[w0, w1] := by
    have hs : args.size = 2 := by simpa [Cond.value, given_1] using g22
    obtain ⟨L⟩ := args
    match L, hs with
    | [w0, w1], _ => exact ⟨w0, w1, rfl⟩
  have hw := fun d (hd : d ∈ tables_1) => atoms_spec (ws := Jvm.Cond.code x code maxLocals ret :: tables_1) hat d (List.mem_cons_of_mem _ hd)
  have hfit : Fit s := fun {y c} hc i hi => by
    obtain ⟨ha, rfl⟩ := Array.getElem?_eq_some_iff.mp hc
    have q := List.all_eq_true.mp ((Array.all_eq_true_iff_forall_mem.mp hF) _ (Array.getElem_mem ha)) i (List.mem_range.mpr hi)
    simpa [Array.getElem?_eq_getElem hi] using q
  obtain ⟨i0, ei0⟩ := is_v g24
  obtain rfl : w0 = (.int i0) := Option.some.inj ei0
  obtain ⟨i1, ei1⟩ := is_v g25
  obtain rfl : w1 = (.int i1) := Option.some.inj ei1
  obtain ⟨n0, m0⟩ := and_e hn
  obtain ⟨n1, m1⟩ := and_e m0
  obtain ⟨n2, m2⟩ := and_e m1
  obtain ⟨n3, m3⟩ := and_e m2
  obtain ⟨n4, m4⟩ := and_e m3
  obtain ⟨n5, m5⟩ := and_e m4
  obtain ⟨n6, m6⟩ := and_e m5
  obtain ⟨wL, evwL, S_LESS, E_LESS⟩ := own_enum (hw _ (List.mem_of_getElem? (i := 2) rfl)) (hw _ (List.mem_of_getElem? (i := 9) rfl)) n2
  have F_LESS := own_fld evwL m6
  obtain ⟨wE, evwE, S_EQUAL, E_EQUAL⟩ := own_enum (hw _ (List.mem_of_getElem? (i := 2) rfl)) (hw _ (List.mem_of_getElem? (i := 5) rfl)) n0
  have F_EQUAL := own_fld evwE n4
  obtain ⟨wG, evwG, S_GREATER, E_GREATER⟩ := own_enum (hw _ (List.mem_of_getElem? (i := 2) rfl)) (hw _ (List.mem_of_getElem? (i := 7) rfl)) n1
  have F_GREATER := own_fld evwG n6
  obtain ⟨wI, evwI, S_INCOMPARABLE, E_INCOMPARABLE⟩ := own_enum (hw _ (List.mem_of_getElem? (i := 2) rfl)) (hw _ (List.mem_of_getElem? (i := 14) rfl)) n3
  have F_INCOMPARABLE := own_fld evwI n5
  obtain ⟨n, o, h1, h2, h3, _, L, rfl, ⟨rfl, N⟩, hq⟩ := rm0 l s _ hw tables_1 i0 i1 wL wE wG wI s.heap s.heap.size (Nat.le_refl _) S_LESS E_LESS F_LESS S_EQUAL E_EQUAL F_EQUAL S_GREATER E_GREATER F_GREATER S_INCOMPARABLE E_INCOMPARABLE F_INCOMPARABLE p e ha hc hk s m _ below hf ((Spec.applies_iff_loose hf).mp happ).1 ⟨rfl, State.Warmed39.refl s, rfl⟩ trivial
  refine ⟨n, _, h1, h2, h3, hpost _ _ _ _ _ _ ⟨Cond.after_iff.mpr rfl, Cond.after_iff.mpr (eq_i res_at (Term.int_eval (1)) rfl), trivial⟩ ⟨hq.1, hq.2.1, (hq.2.2.sift fun y hy => Or.inr (N y hy)).mono (by decide) (by decide)⟩⟩
theorem main_1_1 : Claimed_1_1 := comes_1 fun _ _ _ _ _ _ h hF => ⟨h.1, hF⟩
theorem main_1_2 : Claimed_1_2 := comes_1 fun _ _ _ _ _ _ h hF => ⟨h.2.1, hF⟩
end Jvm.Pilot.@@N@@
namespace Jvm.Pilot.@@N@@
open Jvm Jvm.ClassFile Sem Op Lib Jvm.Free Jvm.Stand Jvm.Pilot.@@N@@.Jvm.D
/-! MADE BY PROGRAM (witnessworld.py) out of the Statement's table words and the real class files: 10 classes; the members and pool entries that the words name. The judged class is class 1, her method 1. -/
namespace start1
open Jvm.ClassFile
def u (s : String) : CpInfo := .utf8 (stringToUtf16 s)
/-- a pool by its gaps: so many unusable entries, then the entry; so many at the end -/
def gap : Nat → List CpInfo → List CpInfo
  | 0, r => r
  | n + 1, r => .unusable :: gap n r
def poolList (es : List (Nat × CpInfo)) (last : Nat) : List CpInfo := es.foldr (fun e r => gap e.1 (e.2 :: r)) (gap last [])
def pool (es : List (Nat × CpInfo)) (last : Nat) : Array CpInfo := ⟨poolList es last⟩
def fileOf (pool : Array CpInfo) (this : Nat) (attrs : Array Attribute := #[]) (ms : Array MethodInfo := #[]) (fl : Nat := 33) (sup : Nat := 0) (ifs : Array Nat := #[]) (fds : Array FieldInfo := #[]) : ClassFile where
  minorVersion := 0
  majorVersion := 65
  constantPool := pool
  accessFlags := fl
  thisClass := this
  superClass := sup
  interfaces := ifs
  fields := fds
  methods := ms
  attributes := attrs
def plain (name : String) (sup : Option ClassId) : Class where
  name := name
  kind := .ordinary
  loader := none
  accessFlags := 33
  super := sup
  interfaces := #[]
  cf := none
  fields := #[]
  methods := #[]
  instanceTypes := #[]
  staticTypes := #[]
  resolved := #[]
  callSites := []
  init := .initialized
  statics := none
  mirror := none

def pool0 : Array CpInfo := pool [(5, u "<init>"), (0, u "()V"), (1, .class_ 10), (1, u "java/lang/Object")] 113

def k0m0 : Method := { name := "<init>", desc := "()V", sig := { parameters := [], returnType := none }, accessFlags := 1, code := none }
/-- java/lang/Object -/
def k0 : Class := { plain "java/lang/Object" none with
  accessFlags := 33
  interfaces := #[]
  cf := some (fileOf pool0 8 #[] #[{ accessFlags := 1, nameIndex := 5, descriptorIndex := 6, attributes := #[] }] 33 0 #[] #[])
  fields := #[]
  methods := #[k0m0]
  instanceTypes := #[]
  staticTypes := #[]
  resolved := Array.replicate 124 none
  statics := none }

def pool1 : Array CpInfo := pool [(2, .class_ 4), (1, u "java/lang/Object"), (0, u "<init>"), (0, u "()V"), (0, .methodref 8 9), (0, .class_ 10), (0, .nameAndType 11 12), (0, u "com/example/assessor/assessor/datatypes/AtomicValue$Order"), (0, u "of"), (0, u "(I)Lcom/example/assessor/assessor/datatypes/AtomicValue$Order;"), (0, .fieldref 8 14), (0, .nameAndType 15 16), (0, u "LESS"), (0, u "Lcom/example/assessor/assessor/datatypes/AtomicValue$Order;"), (0, .fieldref 8 18), (0, .nameAndType 19 16), (0, u "EQUAL"), (0, .fieldref 8 21), (0, .nameAndType 22 16), (0, u "GREATER"), (0, .fieldref 8 24), (0, .nameAndType 25 16), (0, u "INCOMPARABLE"), (0, .methodref 8 27), (0, .nameAndType 28 29), (0, u "ordinal"), (0, u "()I"), (2, .integer 2147483648), (0, .class_ 34), (0, u "com/example/assessor/assessor/datatypes/OrderOfPinLaw"), (2, u "law"), (0, u "(II)Z")] 7

def k1m0 : Method := { name := "<init>", desc := "()V", sig := { parameters := [], returnType := none }, accessFlags := 1, code := none }
def k1c1 : Code := { maxStack := 3, maxLocals := 9, code := code, exceptionTable := #[], attributes := #[] }
def k1m1 : Method := { name := "law", desc := "(II)Z", sig := { parameters := [.int, .int], returnType := some .boolean }, accessFlags := 9, code := some k1c1 }
/-- com/example/assessor/assessor/datatypes/OrderOfPinLaw -/
def k1 : Class := { plain "com/example/assessor/assessor/datatypes/OrderOfPinLaw" (some 0) with
  accessFlags := 49
  interfaces := #[]
  cf := some (fileOf pool1 33 #[] #[{ accessFlags := 1, nameIndex := 5, descriptorIndex := 6, attributes := #[] }, { accessFlags := 9, nameIndex := 37, descriptorIndex := 38, attributes := #[] }] 49 2 #[] #[])
  fields := #[]
  methods := #[k1m0, k1m1]
  instanceTypes := #[]
  staticTypes := #[]
  resolved := Array.replicate 46 none
  statics := none }

def pool2 : Array CpInfo := pool [(1, .class_ 2), (0, u "java/lang/constant/Constable"), (0, .class_ 4), (0, u "java/lang/Object")] 6

/-- java/lang/constant/Constable -/
def k2 : Class := { plain "java/lang/constant/Constable" (some 0) with
  accessFlags := 1537
  interfaces := #[]
  cf := some (fileOf pool2 1 #[] #[] 1537 3 #[] #[])
  fields := #[]
  methods := #[]
  instanceTypes := #[]
  staticTypes := #[]
  resolved := Array.replicate 11 none
  statics := none }

def pool3 : Array CpInfo := pool [(1, .class_ 2), (0, u "java/lang/Comparable"), (0, .class_ 4), (0, u "java/lang/Object")] 7

/-- java/lang/Comparable -/
def k3 : Class := { plain "java/lang/Comparable" (some 0) with
  accessFlags := 1537
  interfaces := #[]
  cf := some (fileOf pool3 1 #[] #[] 1537 3 #[] #[])
  fields := #[]
  methods := #[]
  instanceTypes := #[]
  staticTypes := #[]
  resolved := Array.replicate 12 none
  statics := none }

def pool4 : Array CpInfo := pool [(1, .class_ 2), (0, u "java/io/Serializable"), (0, .class_ 4), (0, u "java/lang/Object")] 2

/-- java/io/Serializable -/
def k4 : Class := { plain "java/io/Serializable" (some 0) with
  accessFlags := 1537
  interfaces := #[]
  cf := some (fileOf pool4 1 #[] #[] 1537 3 #[] #[])
  fields := #[]
  methods := #[]
  instanceTypes := #[]
  staticTypes := #[]
  resolved := Array.replicate 7 none
  statics := none }

def pool5 : Array CpInfo := pool [(2, .class_ 4), (1, u "java/lang/Enum"), (0, u "name"), (0, u "Ljava/lang/String;"), (0, .fieldref 2 8), (0, .nameAndType 9 10), (0, u "ordinal"), (0, u "I"), (1, .class_ 14), (1, u "java/lang/Object"), (4, u "hash"), (86, .class_ 108), (1, u "java/lang/Enum$EnumDesc"), (2, .class_ 112), (0, u "java/lang/constant/Constable"), (0, .class_ 114), (0, u "java/lang/Comparable"), (0, .class_ 116), (0, u "java/io/Serializable"), (9, u "()I")] 77

def k5c0 : Code := { maxStack := 1, maxLocals := 1, code := jdk_37_method_2_code, exceptionTable := #[], attributes := #[] }
def k5m0 : Method := { name := "ordinal", desc := "()I", sig := { parameters := [], returnType := some .int }, accessFlags := 17, code := some k5c0 }
/-- java/lang/Enum -/
def k5 : Class := { plain "java/lang/Enum" (some 0) with
  accessFlags := 1057
  interfaces := #[2, 3, 4]
  cf := some (fileOf pool5 2 #[.nestMembers #[106]] #[{ accessFlags := 17, nameIndex := 9, descriptorIndex := 126, attributes := #[] }] 1057 12 #[111, 113, 115] #[{ accessFlags := 18, nameIndex := 5, descriptorIndex := 6, attributes := #[] }, { accessFlags := 18, nameIndex := 9, descriptorIndex := 10, attributes := #[] }, { accessFlags := 2, nameIndex := 19, descriptorIndex := 10, attributes := #[] }])
  fields := #[{ name := "name", type := (.object "java/lang/String"), accessFlags := 18, slot := 0, constantValue := 0 }, { name := "ordinal", type := .int, accessFlags := 18, slot := 1, constantValue := 0 }, { name := "hash", type := .int, accessFlags := 2, slot := 2, constantValue := 0 }]
  methods := #[k5m0]
  instanceTypes := #[(.object "java/lang/String"), .int, .int]
  staticTypes := #[]
  resolved := Array.replicate 204 none
  statics := none }

def pool6 : Array CpInfo := pool [(1, .class_ 2), (0, u "com/example/assessor/assessor/datatypes/AtomicValue$Order"), (0, .fieldref 1 4), (0, .nameAndType 5 6), (0, u "LESS"), (0, u "Lcom/example/assessor/assessor/datatypes/AtomicValue$Order;"), (0, .fieldref 1 8), (0, .nameAndType 9 6), (0, u "EQUAL"), (0, .fieldref 1 11), (0, .nameAndType 12 6), (0, u "GREATER"), (2, u "INCOMPARABLE"), (2, u "$VALUES"), (0, u "[Lcom/example/assessor/assessor/datatypes/AtomicValue$Order;"), (6, .class_ 28), (1, u "java/lang/Enum"), (22, u "of"), (0, u "(I)Lcom/example/assessor/assessor/datatypes/AtomicValue$Order;"), (6, .class_ 60), (0, u "com/example/assessor/assessor/datatypes/AtomicValue")] 2

def k6c0 : Code := { maxStack := 1, maxLocals := 2, code := prog_127_method_4_code, exceptionTable := #[], attributes := #[] }
def k6m0 : Method := { name := "of", desc := "(I)Lcom/example/assessor/assessor/datatypes/AtomicValue$Order;", sig := { parameters := [.int], returnType := some (.object "com/example/assessor/assessor/datatypes/AtomicValue$Order") }, accessFlags := 9, code := some k6c0 }
/-- com/example/assessor/assessor/datatypes/AtomicValue$Order -/
def k6 : Class := { plain "com/example/assessor/assessor/datatypes/AtomicValue$Order" (some 5) with
  accessFlags := 16433
  interfaces := #[]
  cf := some (fileOf pool6 1 #[.nestHost 59] #[{ accessFlags := 9, nameIndex := 51, descriptorIndex := 52, attributes := #[] }] 16433 26 #[] #[{ accessFlags := 16409, nameIndex := 5, descriptorIndex := 6, attributes := #[] }, { accessFlags := 16409, nameIndex := 9, descriptorIndex := 6, attributes := #[] }, { accessFlags := 16409, nameIndex := 12, descriptorIndex := 6, attributes := #[] }, { accessFlags := 16409, nameIndex := 15, descriptorIndex := 6, attributes := #[] }, { accessFlags := 4122, nameIndex := 18, descriptorIndex := 19, attributes := #[] }])
  fields := #[{ name := "LESS", type := (.object "com/example/assessor/assessor/datatypes/AtomicValue$Order"), accessFlags := 16409, slot := 0, constantValue := 0 }, { name := "EQUAL", type := (.object "com/example/assessor/assessor/datatypes/AtomicValue$Order"), accessFlags := 16409, slot := 1, constantValue := 0 }, { name := "GREATER", type := (.object "com/example/assessor/assessor/datatypes/AtomicValue$Order"), accessFlags := 16409, slot := 2, constantValue := 0 }, { name := "INCOMPARABLE", type := (.object "com/example/assessor/assessor/datatypes/AtomicValue$Order"), accessFlags := 16409, slot := 3, constantValue := 0 }, { name := "$VALUES", type := (.array (.object "com/example/assessor/assessor/datatypes/AtomicValue$Order")), accessFlags := 4122, slot := 4, constantValue := 0 }]
  methods := #[k6m0]
  instanceTypes := #[(.object "java/lang/String"), .int, .int]
  staticTypes := #[(.object "com/example/assessor/assessor/datatypes/AtomicValue$Order"), (.object "com/example/assessor/assessor/datatypes/AtomicValue$Order"), (.object "com/example/assessor/assessor/datatypes/AtomicValue$Order"), (.object "com/example/assessor/assessor/datatypes/AtomicValue$Order"), (.array (.object "com/example/assessor/assessor/datatypes/AtomicValue$Order"))]
  resolved := Array.replicate 63 none
  statics := some 0 }

def pool7 : Array CpInfo := pool [(1, u "java/lang/Cloneable"), (0, .class_ 1), (0, u "java/lang/Object"), (0, .class_ 3)] 3

/-- java/lang/Cloneable -/
def k7 : Class := { plain "java/lang/Cloneable" (some 0) with
  accessFlags := 1537
  interfaces := #[]
  cf := some (fileOf pool7 2 #[] #[] 1537 4 #[] #[])
  fields := #[]
  methods := #[]
  instanceTypes := #[]
  staticTypes := #[]
  resolved := Array.replicate 8 none
  statics := none }

/-- the primitive byte -/
def k8 : Class := { plain "byte" none with kind := .primitive 'B', accessFlags := 0x411 }
/-- [B -/
def k9 : Class := { plain "[B" (some 0) with kind := .array 8 .byte, interfaces := #[7, 4], accessFlags := 1041 }

def heap : Heap := #[{ cls := 6, slots := #[.ref 1, .ref 2, .ref 3, .ref 4, .null], vm := .statics 6 },
  { cls := 6, slots := #[.null, .int 0, .int 0], vm := .none },
  { cls := 6, slots := #[.null, .int 1, .int 0], vm := .none },
  { cls := 6, slots := #[.null, .int 2, .int 0], vm := .none },
  { cls := 6, slots := #[.null, .int 3, .int 0], vm := .none }]
def classes : Array Class := #[k0, k1, k2, k3, k4, k5, k6, k7, k8, k9]
def interned : List (Array UInt16 × Addr) := []
def slotsUsed : Nat := 17
def theMethod : MethodId := ⟨1, 1⟩
def args0 : Array Value := #[.int 5, .int 7]
def aboutOver (below : List Frame) : State where
  vm := { classes := classes, interned := interned.toArray }
  heap := heap
  slotsUsed := slotsUsed
  threads := #[{ frames := .invoking theMethod args0 :: below }]
def below0 : List Frame := [.native { method := ⟨0, 0⟩, args := #[] }]
def about1 : State := aboutOver below0
def p0 : Program := .bare "" "" ""
def e0 : Env := launch0.env 0 0 0
theorem w_frames : about1.frames = Frame.invoking theMethod args0 :: below0 := rfl
set_option maxRecDepth 65536 in
theorem w_args : argsFit about1.vm theMethod args0 = true := by decide +kernel
set_option maxRecDepth 65536 in
theorem w_heap : heapFits about1 = true := by decide +kernel
set_option maxRecDepth 65536 in
theorem w_runnable : about1.curStatus? = some .runnable := by decide +kernel
set_option maxRecDepth 65536 in
theorem w_alone : about1.alone = true := by decide +kernel
set_option maxRecDepth 65536 in
theorem w_named : about1.methodNamed? x = some theMethod := by decide +kernel
set_option maxRecDepth 65536 in
theorem w_hears : about1.hears theMethod below0 = true := by decide +kernel
set_option maxRecDepth 65536 in
theorem w_ripe : about1.ripe theMethod args0 below0 = true := by decide +kernel
theorem w_running : about1.status = .running := rfl
set_option maxRecDepth 65536 in
theorem w_room : about1.hasRoom e0.platform room_1 = true :=
  launch0.hasRoom_least _ room_1 (by decide +kernel) (by decide +kernel) (by decide +kernel) (by decide +kernel) (by decide +kernel) (by decide +kernel)
theorem allAtoms_all (ts : List Jvm.Cond) (a : Array Jvm.Value) (st : Jvm.State) : (allAtoms ts).before a st = ts.all (fun c => c.before a st) := by
  induction ts with
  | nil => rfl
  | cons c t ih =>
    show (Jvm.Cond.and c (allAtoms t)).before a st = _
    rw [Jvm.Cond.before_and, ih, List.all_cons]
def words1 : List Jvm.Cond := Jvm.Cond.code x code maxLocals ret :: tables_1
/-- a 'code' word, met by the world's own term for the bytes: nothing is compared byte by byte -/
theorem code_word {y : MethodName} {bytes : ByteArray} {mx : Nat} {rt : Option FieldType} {a : Array Value} {s : State} {m : MethodId} {meth : Method} {c : Code} (h1 : s.methodNamed? y = some m) (h2 : s.vm.method? m = some meth) (h3 : meth.code = some c) (h4 : c.code = bytes)
    (h5 : (c.maxLocals == mx && c.exceptionTable.isEmpty && decide (c.maxStack ≤ mostOperands) && decide (meth.sig.returnType = rt) && !meth.locks && decide (parseMethodDescriptor y.desc = some meth.sig)) = true) : (Jvm.Cond.code y bytes mx rt).before a s = true := by
  simp only [Bool.and_eq_true, beq_iff_eq, Bool.not_eq_true', decide_eq_true_eq] at h5
  obtain ⟨⟨⟨⟨⟨g1, g2⟩, g3⟩, g4⟩, g5⟩, g6⟩ := h5
  simp [Cond.before, Cond.holds, Cond.value, h1, h2, h3, h4, g1, g2, g3, g4, g5, g6]
def isCode : Jvm.Cond → Bool
  | .code _ _ _ _ => true
  | _ => false
theorem all_split {L : List Jvm.Cond} {P : Jvm.Cond → Bool} (h1 : L.all (fun c => isCode c || P c) = true) (h2 : ∀ c ∈ L.filter isCode, P c = true) : L.all P = true := by
  refine List.all_eq_true.mpr fun c hc => ?_
  have h := List.all_eq_true.mp h1 c hc
  rcases Bool.eq_false_or_eq_true (isCode c) with hi | hi
  · exact h2 c (List.mem_filter.mpr ⟨hc, hi⟩)
  · simpa [hi] using h
set_option maxRecDepth 65536 in
theorem w_c0 : (Jvm.Cond.code x code maxLocals ret).before args0 about1 = true := code_word (m := ⟨1, 1⟩) (meth := k1m1) (c := k1c1) (by decide +kernel) rfl rfl rfl (by decide +kernel)
set_option maxRecDepth 65536 in
theorem w_c1 : (Jvm.Cond.code ({ cls := "com/example/assessor/assessor/datatypes/AtomicValue$Order", name := "of", desc := "(I)Lcom/example/assessor/assessor/datatypes/AtomicValue$Order;" } : Jvm.MethodName) prog_127_method_4_code (2 : Nat) (Option.some (Jvm.ClassFile.FieldType.object "com/example/assessor/assessor/datatypes/AtomicValue$Order"))).before args0 about1 = true := code_word (m := ⟨6, 0⟩) (meth := k6m0) (c := k6c0) (by decide +kernel) rfl rfl rfl (by decide +kernel)
set_option maxRecDepth 65536 in
theorem w_c2 : (Jvm.Cond.code ({ cls := "java/lang/Enum", name := "ordinal", desc := "()I" } : Jvm.MethodName) jdk_37_method_2_code (1 : Nat) (Option.some Jvm.ClassFile.FieldType.int)).before args0 about1 = true := code_word (m := ⟨5, 0⟩) (meth := k5m0) (c := k5c0) (by decide +kernel) rfl rfl rfl (by decide +kernel)
def codes1 : List Jvm.Cond := [Jvm.Cond.code x code maxLocals ret, Jvm.Cond.code ({ cls := "com/example/assessor/assessor/datatypes/AtomicValue$Order", name := "of", desc := "(I)Lcom/example/assessor/assessor/datatypes/AtomicValue$Order;" } : Jvm.MethodName) prog_127_method_4_code (2 : Nat) (Option.some (Jvm.ClassFile.FieldType.object "com/example/assessor/assessor/datatypes/AtomicValue$Order")), Jvm.Cond.code ({ cls := "java/lang/Enum", name := "ordinal", desc := "()I" } : Jvm.MethodName) jdk_37_method_2_code (1 : Nat) (Option.some Jvm.ClassFile.FieldType.int)]
set_option maxRecDepth 65536 in
theorem codes_eq : words1.filter isCode = codes1 := rfl
theorem w_codes : ∀ c ∈ words1.filter isCode, c.before args0 about1 = true := by
  rw [codes_eq]
  intro c hc
  simp only [codes1, List.mem_cons, List.not_mem_nil, or_false] at hc
  rcases hc with rfl | rfl | rfl
  · exact w_c0
  · exact w_c1
  · exact w_c2
set_option maxRecDepth 65536 in
theorem w_t1 : (words1.take 24).all (fun c => isCode c || c.before args0 about1) = true := by decide +kernel
set_option maxRecDepth 65536 in
theorem w_t2 : (words1.drop 24).all (fun c => isCode c || c.before args0 about1) = true := by decide +kernel
theorem w_tables : (allAtoms (Jvm.Cond.code x code maxLocals ret :: tables_1)).before args0 about1 = true := by
  rw [allAtoms_all]
  show words1.all (fun c => c.before args0 about1) = true
  refine all_split ?_ w_codes
  rw [← List.take_append_drop 24 words1, List.all_append, w_t1, w_t2]
  rfl
set_option maxRecDepth 65536 in
theorem w_case : (Jvm.Cond.and given_1 narrow_1).before args0 about1 = true := by decide +kernel
theorem w_applies : (headSpec (Jvm.Cond.code x code maxLocals ret :: tables_1) room_1).applies x e0.platform about1 = true :=
  (Spec.applies_iff w_frames).mpr ⟨w_running, w_runnable, w_alone, w_named, w_hears, w_ripe, w_room, w_tables⟩
theorem atStart : AtStart classFile x code maxLocals ret World_1 tables_1 room_1 Calls_1 rest_1 Pre_1 launch0 p0 e0 about1 theMethod args0 below0 :=
  ⟨lists_1, trivial, launch0.admits_env _ _ _, launch0.least_env, fairChoices_fair.cas, fairChoices_fair.clock, w_frames, w_args, w_heap, w_applies, trivial, trivial, w_case⟩
end start1
theorem witness_1 : WitnessClaimed_1 := ⟨start1.p0, start1.e0, start1.about1, start1.theMethod, start1.args0, start1.below0, start1.atStart⟩
end Jvm.Pilot.@@N@@
